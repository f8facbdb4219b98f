import JvmDerived
import JvmDerived.Pilot.@@N@@Statement
import JvmDerived.Pilot.@@N@@Code
set_option linter.unusedVariables false
set_option linter.unusedSimpArgs false
namespace Jvm.Pilot.@@N@@
open Jvm Jvm.ClassFile Sem Op Lib Jvm.Free Jvm.Stand Jvm.LawKit Jvm.RoadKit Bundle Jvm.Pilot.@@N@@.Jvm.D
/-- from S the run comes to a state that P allows -/
def Comes (p : Program) (e : Env) (below : List Frame) (P : State → Prop) (S : State) : Prop := ∃ S', Steps p.tables e below S S' ∧ P S'
/-- how a body ends that Q allows -/
def EndsAt (below : List Frame) (s : State) (Q : Option Value → Heap → List Loc → Prop) (kc ks : Nat) (s₂ : State) : Prop := ∃ o, s₂.status = .running ∧ Ended s₂ below o ∧ ∃ v L, o = .returned v ∧ Q v s₂.heap L ∧ FrameEnd s o s₂ L kc ks
/-- an array of ints, its content a function -/
def Ari (Z : State) (h : Heap) (a : Nat) (n : Nat) (f : Nat → Int32) : Prop := ∃ c : Cell, Arr Z h a c .int ∧ c.slots.size = n ∧ ∀ i, i < n → c.slots[i]? = some (.int (f i))
section OwnAri
variable {Z : State} {h h' : Heap} {a b n sl : Nat} {f : Nat → Int32} {v : Value} {ws : List Addr}
theorem Ari.lt (F : Ari Z h a n f) : a < h.size := by obtain ⟨c, A, -⟩ := F; exact A.lt
theorem Ari.ext (F : Ari Z h a n f) (E : Ext h h') : Ari Z h' a n f := by obtain ⟨c, A, r⟩ := F; exact ⟨c, A.ext E, r⟩
theorem Ari.other (F : Ari Z h b n f) (W : Wr h h' a sl v) (q : b ≠ a) : Ari Z h' b n f := by obtain ⟨c, A, r⟩ := F; exact ⟨c, A.other W q, r⟩
theorem Ari.keep (F : Ari Z h a n f) (K : Keep h h' ws) (q : a ∉ ws) : Ari Z h' a n f := by obtain ⟨c, A, r⟩ := F; exact ⟨c, ⟨K.2.1 a c A.1 q, A.2⟩, r⟩
theorem Ari.new {k : ClassId} {z : Int32} (A : Arr Z h a (newA k .int z) .int) (q : z.toNatClampNeg = n) : Ari Z h a n (fun _ => 0) := by
  refine ⟨_, A, by rw [sz_new, q], fun i hi => ?_⟩
  simp [newA, q, hi, defaultValue]
theorem Ari.set {c : Cell} (A : Arr Z h a c .int) (S : c.slots.size = n) (H : ∀ i, i < n → c.slots[i]? = some (.int (f i))) {j x : Int32} {k : Nat} (W : Wr h h' a j.toNatClampNeg (.int x)) (hk : j.toNatClampNeg = k) : Ari Z h' a n (fun i => if i = k then x else f i) := by
  subst hk
  refine ⟨_, A.same W, by rw [sz_set]; exact S, fun i hi => ?_⟩
  by_cases q : i = j.toNatClampNeg
  · subst q; simp [Cell.setSlot, S, hi]
  · show _ = some (Value.int (if i = j.toNatClampNeg then x else f i))
    rw [if_neg q, ← H i hi]; exact Array.getElem?_setIfInBounds_ne (fun z => q z.symm)
end OwnAri
section Own
variable {p : Program} {l : Launch} {e : Env} {R : Room} {s : State} {m : MethodId} {args : Array Value} {below : List Frame} {meth : Method} {c : Code} {T : State} {locs : List Loc} {cells slots : Nat} {Q : Option Value → Heap → List Loc → Prop} {kc ks : Nat} {P : State → Prop} {S S' : State} {h : Heap}
theorem Comes.here (q : P S) : Comes p e below P S := ⟨S, Steps.refl _, q⟩
theorem Comes.st (f : ∀ t, Steps p.tables e below S' t → Steps p.tables e below S t) (g : Comes p e below P S') : Comes p e below P S := by
  obtain ⟨s₂, h1, r⟩ := g; exact ⟨s₂, f _ h1, r⟩
theorem Comes.go (f : Steps p.tables e below S S') (g : Comes p e below P S') : Comes p e below P S := by
  obtain ⟨s₂, h1, r⟩ := g; exact ⟨s₂, f.trans h1, r⟩
theorem Comes.cast {g g' : JFrame} (q : g = g') (k : Comes p e below P (T.setTop g')) : Comes p e below P (T.setTop g) := q ▸ k
theorem Comes.out (h : Comes p e below (EndsAt below s Q kc ks) S) : ∃ s₂ o, Steps p.tables e below S s₂ ∧ s₂.status = .running ∧ Ended s₂ below o ∧ ∃ v L, o = .returned v ∧ Q v s₂.heap L ∧ FrameEnd s o s₂ L kc ks := by
  obtain ⟨s₂, h1, o, r⟩ := h; exact ⟨s₂, o, h1, r⟩
theorem Comes.fin (X : Stand p l e R s m args below meth c T locs cells slots) {v : Option Value} (hv : meth.sig.returnType = none → v = none) (hlk : meth.locks = false)
    (hs : ∀ fs, (∀ (f : JFrame) (acts : List Action), f.method = m → f.locked = none → f.entered = [] → (doReturn e (T.setTop f) acts v).1 = T.setFrames fs) → Steps p.tables e below S (T.setFrames fs))
    (eT : T.heap = h) (hq : Q v h locs) (hc : cells ≤ kc) (hl : slots ≤ ks) : Comes p e below (EndsAt below s Q kc ks) S := by
  obtain ⟨fs, hr, hrun, hended, hW, hsame⟩ := X.leave (v := v) hv hlk
  exact ⟨_, hs fs hr, _, hrun, hended, _, _, rfl, (show Q v T.heap locs from by rw [eT]; exact hq), ⟨_, rfl⟩, hW, hsame.mono hc hl⟩
theorem Comes.ret0 (X : Stand p l e R s m args below meth c T locs cells slots) (hx : p.tables.exec = Jvm.exec) {pc : Nat} {Ls : Array Slot} (hret : meth.sig.returnType = none) (hlk : meth.locks = false) (hd : decode c.code pc = .ok (.return_, 1))
    (eT : T.heap = h) (hq : Q none h locs) (hc : cells ≤ kc) (hl : slots ≤ ks) : Comes p e below (EndsAt below s Q kc ks) (T.setTop (mkF m pc Ls [])) :=
  Comes.fin X (fun _ => rfl) hlk (fun _ hr => X.returnOut hx hret hd hr) eT hq hc hl
theorem Comes.retN (X : Stand p l e R s m args below meth c T locs cells slots) (hx : p.tables.exec = Jvm.exec) {pc : Nat} {Ls : Array Slot} {z : Int32} {t : FieldType} {rest : List Value} (hret : meth.sig.returnType = some t) (ht : t = .boolean ∨ t = .byte ∨ t = .char ∨ t = .short) (hlk : meth.locks = false) (hd : decode c.code pc = .ok (.ireturn, 1))
    (eT : T.heap = h) (hq : Q (some (.int (nar t z))) h locs) (hc : cells ≤ kc) (hl : slots ≤ ks) : Comes p e below (EndsAt below s Q kc ks) (T.setTop (mkF m pc Ls (.int z :: rest))) :=
  Comes.fin X (fun q => by rw [hret] at q; cases q) hlk (fun _ hr => Jvm.RoadKit.retN X hx hret ht hd hr) eT hq hc hl
theorem Comes.retV (X : Stand p l e R s m args below meth c T locs cells slots) (hx : p.tables.exec = Jvm.exec) {pc : Nat} {Ls : Array Slot} {w : Value} {t : FieldType} {i : Instr} {rest : List Value} (hret : meth.sig.returnType = some t) (hn : narrow t w = w)
    (hi : (i = .ireturn ∧ (t = .int ∨ t = .boolean ∨ t = .byte ∨ t = .char ∨ t = .short) ∧ ∃ z, w = .int z) ∨ (i = .lreturn ∧ t = .long ∧ ∃ z, w = .long z) ∨ (i = .dreturn ∧ t = .double ∧ ∃ z, w = .double z) ∨ (i = .freturn ∧ t = .float ∧ ∃ z, w = .float z) ∨ (i = .areturn ∧ t.isReference = true ∧ w.isRef = true))
    (hlk : meth.locks = false) (hd : decode c.code pc = .ok (i, 1))
    (eT : T.heap = h) (hq : Q (some w) h locs) (hc : cells ≤ kc) (hl : slots ≤ ks) : Comes p e below (EndsAt below s Q kc ks) (T.setTop (mkF m pc Ls (w :: rest))) :=
  Comes.fin X (fun q => by rw [hret] at q; cases q) hlk (fun _ hr => retOut X hx hret hn hi hd hr) eT hq hc hl
/-- the same where the frame is the wide one -/
def EndsAtW (below : List Frame) (s : State) (Q : Option Value → Heap → List Loc → Prop) (kc ks : Nat) (s₂ : State) : Prop := ∃ o, s₂.status = .running ∧ Ended s₂ below o ∧ ∃ v L, o = .returned v ∧ Q v s₂.heap L ∧ ReturnedEndW s o s₂ L kc ks
theorem Comes.outW (h : Comes p e below (EndsAtW below s Q kc ks) S) : ∃ s₂ o, Steps p.tables e below S s₂ ∧ s₂.status = .running ∧ Ended s₂ below o ∧ ∃ v L, o = .returned v ∧ Q v s₂.heap L ∧ ReturnedEndW s o s₂ L kc ks := by
  obtain ⟨s₂, h1, o, r⟩ := h; exact ⟨s₂, o, h1, r⟩
theorem Comes.wretN {vm₁ : Vm} {n : Nat} (X : Stand p l e R (s.setVm vm₁) m args below meth c T locs cells slots) (hx : p.tables.exec = Jvm.exec) {pc : Nat} {Ls : Array Slot} {z : Int32} {t : FieldType} {rest : List Value} (hret : meth.sig.returnType = some t) (ht : t = .boolean ∨ t = .byte ∨ t = .char ∨ t = .short) (hlk : meth.locks = false) (hd : decode c.code pc = .ok (.ireturn, 1))
    (hS : s.Since vm₁ n) (hn : n ≤ h.size) (eT : T.heap = h) (hq : Q (some (.int (nar t z))) h locs) (hc : cells ≤ kc) (hl : slots ≤ ks) : Comes p e below (EndsAtW below s Q kc ks) (T.setTop (mkF m pc Ls (.int z :: rest))) := by
  obtain ⟨fs, hr, hrun, hended, h1, h2, h3, h4⟩ := X.leaveW hS (by rw [eT]; exact hn) (v := some (.int (nar t z))) (fun q => by rw [hret] at q; cases q) hlk
  exact ⟨_, Jvm.RoadKit.retN X hx hret ht hd hr, _, hrun, hended, _, _, rfl, (show Q _ T.heap locs from by rw [eT]; exact hq), h1, h2, h3, h4.mono hc hl⟩
theorem narrow_ref {t : FieldType} {w : Value} (h : w.isRef = true) : narrow t w = w := by rcases ref_cases h with rfl | ⟨y, rfl⟩ <;> cases t <;> rfl
theorem lremM {g : JFrame} {target : State} (X : Stand p l e R s m args below meth c T locs cells slots) (hx : p.tables.exec = Jvm.exec) (hg : g.method = m) {x y : Int64} {rest : List Value} (hd : decode c.code g.pc = .ok (.lrem, 1)) (hs : g.stack = .long y :: .long x :: rest) (hy : ¬ y = 0)
    (hr : Steps p.tables e below (T.setTop { g with pc := g.pc + 1, stack := .long (x % y) :: rest }) target) : Steps p.tables e below (T.setTop g) target := by
  have q : x - x / y * y = x % y := lrem_mod x y
  exact XT.lrem X.here hx hg hd hs hy (by rw [q]; exact hr)
theorem own_dup2 {g : JFrame} {target : State} (X : Stand p l e R s m args below meth c T locs cells slots) (hx : p.tables.exec = Jvm.exec) (hg : g.method = m) {x y : Value} {rest : List Value} (hd : decode c.code g.pc = .ok (.dup2, 1)) (hs : g.stack = x :: y :: rest) (hcx : x.category = 1) (hcy : y.category = 1)
    (hr : Steps p.tables e below (T.setTop { g with pc := g.pc + 1, stack := x :: y :: x :: y :: rest }) target) : Steps p.tables e below (T.setTop g) target := by
  subst hg
  jvm_step X.here [X.here.top, hx, hd, hs, hcx, hcy]
  exact hr
theorem own_inb {j : Int32} {n : Nat} (h : 0 ≤ j.toInt ∧ j.toInt < (n : Int)) : ¬ (j < 0 ∨ n ≤ j.toNatClampNeg) := by
  rw [Int32.lt_iff_toInt_lt]; simp only [Int32.toNatClampNeg, Int32.reduceToInt]; omega
theorem own_lrem (x y : Int64) (d : Int) (hy : y.toInt = d) : (0 ≤ x.toInt → (x % y).toInt = x.toInt % d) ∧ (x.toInt < 0 → (x % y).toInt = -((-x.toInt) % d)) := by rw [Int64.toInt_mod, hy]; exact tr _ _
theorem own_lremV (x y : Int64) : 0 ≤ x.toInt → 0 < y.toInt → 0 ≤ (x % y).toInt ∧ (x % y).toInt < y.toInt := by
  intro h1 h2
  rw [Int64.toInt_mod, Int.tmod_eq_emod_of_nonneg h1]
  exact ⟨Int.emod_nonneg _ (by omega), Int.emod_lt_of_pos _ h2⟩
theorem own_eqi {a0 : Array Value} {Z : State} {t : Term} {k : Int32} {idx : List Nat} (h : (Jvm.Cond.eq t (Term.int k)).value a0 Z none Z idx = some true) : t.eval a0 Z none idx Z = some (.int k) := by
  obtain ⟨x, y, e1, e2, k1, k2⟩ := cmp_v (Or.inl h)
  simp only [Term.eval, Option.some.injEq] at e2
  subst e2
  obtain ⟨z, rfl⟩ := k2
  simp [Cond.value, e1, Term.eval] at h
  rw [e1, h]
theorem own_selp {a0 : Array Value} {Z : State} {y : MethodName} {n : Nat} (wi : (Jvm.Cond.instantiable y.cls n).before a0 Z = true) (wp : (Jvm.Cond.privateMethod y).before a0 Z = true) (wm : (Jvm.Cond.instanceMethod y).before a0 Z = true) (hy : y.cls ≠ "java/lang/invoke/MethodHandle" ∧ y.cls ≠ "java/lang/invoke/VarHandle") : (Jvm.Cond.selects y.cls y y).before a0 Z = true := by
  obtain ⟨c, k, h1, h2, h3, h4, -⟩ := Cond.instantiable_spec wi
  exact Jvm.Stand.selects_self_of_private h1 h2 (by simp only [Bool.or_eq_false_iff] at h4; exact h4.1) (Cond.privateMethod_at wp) wm hy
theorem own_eqr {a0 : Array Value} {Z : State} {t u : Term} {y : Value} {idx : List Nat} (h : (Jvm.Cond.eq t u).value a0 Z none Z idx = some true) (hu : u.eval a0 Z none idx Z = some y) (hy : y.isRef = true) : t.eval a0 Z none idx Z = some y := by
  obtain ⟨x, y', e1, e2, k1, k2⟩ := cmp_v (Or.inl h)
  cases hu.symm.trans e2
  have hx : x.isRef = true := by
    rcases ref_cases hy with rfl | ⟨z, rfl⟩ <;> cases x <;> simp_all [Kin, Value.isRef]
  rw [e1, gotT (eq_R e1 hu hx hy) h]
theorem own_len {a0 : Array Value} {Z : State} {t : Term} {a : Addr} {cl : Cell} {ty : FieldType} {k : Int32} (ht : t.eval a0 Z none [] Z = some (.ref a)) (A : Arr Z Z.heap a cl ty) (h : (Jvm.Cond.eq (Term.length t) (Term.int k)).value a0 Z none Z [] = some true) : cl.slots.size < 2 ^ 31 ∧ cl.slots.size.toInt32 = k := by
  have e := own_eqi h
  have e2 := A.fin (Vm.Alike.refl _)
  simp [Term.eval, ht, e2] at e
  exact ⟨by omega, e.2⟩
theorem own_elem {a0 : Array Value} {Z : State} {t u : Term} {a : Addr} {cl : Cell} {j : Int32} {y : Value} (ht : t.eval a0 Z none [] Z = some (.ref a)) (hc : Z.heap[a]? = some cl) (h : (Jvm.Cond.eq (Term.elem t (Term.int j)) u).value a0 Z none Z [] = some true) (hu : u.eval a0 Z none [] Z = some y) (hy : y.isRef = true) : cl.slots[j.toNatClampNeg]? = some y := (elem_in (own_eqr h hu hy) ht (by rfl) hc).2
theorem own_fldi {a0 : Array Value} {Z : State} {t : Term} {k : Int32} {a : Addr} {C n d : String} (ht : t.eval a0 Z none [] Z = some (.ref a)) (h : (Jvm.Cond.eq (Term.field t C n d) (Term.int k)).value a0 Z none Z [] = some true) : Fld Z Z.heap a C n d (.int k) := Fld.start ((fld_at ht).symm.trans (own_eqi h))
end Own
abbrev D3 (n : Nat) (i : Instr) (k : Nat) : Prop := decode jdk_30_method_1_code n = .ok (i, k)
theorem d3_0 : D3 0 (.aload_n 0) 1 := by decide +kernel
theorem d3_1 : D3 1 (.invokespecial 1) 3 := by decide +kernel
theorem d3_4 : D3 4 (.return_) 1 := by decide +kernel
abbrev D1 (n : Nat) (i : Instr) (k : Nat) : Prop := decode jdk_35_method_24_code n = .ok (i, k)
theorem d1_0 : D1 0 (.sipush 128) 3 := by decide +kernel
theorem d1_3 : D1 3 (.istore_n 2) 1 := by decide +kernel
theorem d1_4 : D1 4 (.lload_n 0) 1 := by decide +kernel
theorem d1_5 : D1 5 (.ldc2_w 230) 3 := by decide +kernel
theorem d1_8 : D1 8 (.lcmp) 1 := by decide +kernel
theorem d1_9 : D1 9 (.ifCond .lt 22) 3 := by decide +kernel
theorem d1_12 : D1 12 (.lload_n 0) 1 := by decide +kernel
theorem d1_13 : D1 13 (.ldc2_w 232) 3 := by decide +kernel
theorem d1_16 : D1 16 (.lcmp) 1 := by decide +kernel
theorem d1_17 : D1 17 (.ifCond .gt 14) 3 := by decide +kernel
theorem d1_20 : D1 20 (.getstatic 234) 3 := by decide +kernel
theorem d1_23 : D1 23 (.lload_n 0) 1 := by decide +kernel
theorem d1_24 : D1 24 (.l2i) 1 := by decide +kernel
theorem d1_25 : D1 25 (.sipush 128) 3 := by decide +kernel
theorem d1_28 : D1 28 (.iadd) 1 := by decide +kernel
theorem d1_29 : D1 29 (.aaload) 1 := by decide +kernel
theorem d1_30 : D1 30 (.areturn) 1 := by decide +kernel
abbrev D2 (n : Nat) (i : Instr) (k : Nat) : Prop := decode prog_45_method_1_code n = .ok (i, k)
theorem d2_0 : D2 0 (.aload_n 0) 1 := by decide +kernel
theorem d2_1 : D2 1 (.invokespecial 1) 3 := by decide +kernel
theorem d2_4 : D2 4 (.aload_n 0) 1 := by decide +kernel
theorem d2_5 : D2 5 (.aload_n 1) 1 := by decide +kernel
theorem d2_6 : D2 6 (.putfield 7) 3 := by decide +kernel
theorem d2_9 : D2 9 (.aload_n 0) 1 := by decide +kernel
theorem d2_10 : D2 10 (.aload_n 2) 1 := by decide +kernel
theorem d2_11 : D2 11 (.putfield 13) 3 := by decide +kernel
theorem d2_14 : D2 14 (.aload_n 0) 1 := by decide +kernel
theorem d2_15 : D2 15 (.aload_n 3) 1 := by decide +kernel
theorem d2_16 : D2 16 (.putfield 16) 3 := by decide +kernel
theorem d2_19 : D2 19 (.aload_n 0) 1 := by decide +kernel
theorem d2_20 : D2 20 (.aload 4) 2 := by decide +kernel
theorem d2_22 : D2 22 (.putfield 19) 3 := by decide +kernel
theorem d2_25 : D2 25 (.aload_n 0) 1 := by decide +kernel
theorem d2_26 : D2 26 (.aload 5) 2 := by decide +kernel
theorem d2_28 : D2 28 (.putfield 22) 3 := by decide +kernel
theorem d2_31 : D2 31 (.aload_n 0) 1 := by decide +kernel
theorem d2_32 : D2 32 (.aload 6) 2 := by decide +kernel
theorem d2_34 : D2 34 (.putfield 26) 3 := by decide +kernel
theorem d2_37 : D2 37 (.aload_n 0) 1 := by decide +kernel
theorem d2_38 : D2 38 (.aload 7) 2 := by decide +kernel
theorem d2_40 : D2 40 (.putfield 30) 3 := by decide +kernel
theorem d2_43 : D2 43 (.aload_n 0) 1 := by decide +kernel
theorem d2_44 : D2 44 (.aload 8) 2 := by decide +kernel
theorem d2_46 : D2 46 (.putfield 33) 3 := by decide +kernel
theorem d2_49 : D2 49 (.return_) 1 := by decide +kernel
abbrev D9 (n : Nat) (i : Instr) (k : Nat) : Prop := decode prog_45_method_5_code n = .ok (i, k)
theorem d9_0 : D9 0 (.aload_n 0) 1 := by decide +kernel
theorem d9_1 : D9 1 (.getfield 7) 3 := by decide +kernel
theorem d9_4 : D9 4 (.areturn) 1 := by decide +kernel
abbrev D6 (n : Nat) (i : Instr) (k : Nat) : Prop := decode prog_45_method_6_code n = .ok (i, k)
theorem d6_0 : D6 0 (.aload_n 0) 1 := by decide +kernel
theorem d6_1 : D6 1 (.getfield 13) 3 := by decide +kernel
theorem d6_4 : D6 4 (.areturn) 1 := by decide +kernel
abbrev D10 (n : Nat) (i : Instr) (k : Nat) : Prop := decode prog_45_method_11_code n = .ok (i, k)
theorem d10_0 : D10 0 (.aload_n 0) 1 := by decide +kernel
theorem d10_1 : D10 1 (.getfield 30) 3 := by decide +kernel
theorem d10_4 : D10 4 (.areturn) 1 := by decide +kernel
abbrev D11 (n : Nat) (i : Instr) (k : Nat) : Prop := decode prog_45_method_12_code n = .ok (i, k)
theorem d11_0 : D11 0 (.aload_n 0) 1 := by decide +kernel
theorem d11_1 : D11 1 (.getfield 33) 3 := by decide +kernel
theorem d11_4 : D11 4 (.areturn) 1 := by decide +kernel
abbrev D7 (n : Nat) (i : Instr) (k : Nat) : Prop := decode prog_45_method_9_code n = .ok (i, k)
theorem d7_0 : D7 0 (.aload_n 0) 1 := by decide +kernel
theorem d7_1 : D7 1 (.getfield 22) 3 := by decide +kernel
theorem d7_4 : D7 4 (.areturn) 1 := by decide +kernel
abbrev D8 (n : Nat) (i : Instr) (k : Nat) : Prop := decode jdk_35_method_31_code n = .ok (i, k)
theorem d8_0 : D8 0 (.aload_n 0) 1 := by decide +kernel
theorem d8_1 : D8 1 (.getfield 273) 3 := by decide +kernel
theorem d8_4 : D8 4 (.lreturn) 1 := by decide +kernel
abbrev D5 (n : Nat) (i : Instr) (k : Nat) : Prop := decode prog_22_method_1_code n = .ok (i, k)
theorem d5_0 : D5 0 (.aload_n 0) 1 := by decide +kernel
theorem d5_1 : D5 1 (.invokespecial 1) 3 := by decide +kernel
theorem d5_4 : D5 4 (.aload_n 0) 1 := by decide +kernel
theorem d5_5 : D5 5 (.aload_n 1) 1 := by decide +kernel
theorem d5_6 : D5 6 (.putfield 7) 3 := by decide +kernel
theorem d5_9 : D5 9 (.aload_n 0) 1 := by decide +kernel
theorem d5_10 : D5 10 (.lload_n 2) 1 := by decide +kernel
theorem d5_11 : D5 11 (.putfield 13) 3 := by decide +kernel
theorem d5_14 : D5 14 (.aload_n 0) 1 := by decide +kernel
theorem d5_15 : D5 15 (.aload 7) 2 := by decide +kernel
theorem d5_17 : D5 17 (.invokevirtual 17) 3 := by decide +kernel
theorem d5_20 : D5 20 (.putfield 23) 3 := by decide +kernel
theorem d5_23 : D5 23 (.aload_n 0) 1 := by decide +kernel
theorem d5_24 : D5 24 (.aload 4) 2 := by decide +kernel
theorem d5_26 : D5 26 (.putfield 26) 3 := by decide +kernel
theorem d5_29 : D5 29 (.aload_n 0) 1 := by decide +kernel
theorem d5_30 : D5 30 (.lload 5) 2 := by decide +kernel
theorem d5_32 : D5 32 (.putfield 30) 3 := by decide +kernel
theorem d5_35 : D5 35 (.aload_n 0) 1 := by decide +kernel
theorem d5_36 : D5 36 (.aload 7) 2 := by decide +kernel
theorem d5_38 : D5 38 (.invokevirtual 33) 3 := by decide +kernel
theorem d5_41 : D5 41 (.invokevirtual 37) 3 := by decide +kernel
theorem d5_44 : D5 44 (.putfield 43) 3 := by decide +kernel
theorem d5_47 : D5 47 (.aload_n 0) 1 := by decide +kernel
theorem d5_48 : D5 48 (.aload 7) 2 := by decide +kernel
theorem d5_50 : D5 50 (.invokevirtual 46) 3 := by decide +kernel
theorem d5_53 : D5 53 (.putfield 49) 3 := by decide +kernel
theorem d5_56 : D5 56 (.aload_n 0) 1 := by decide +kernel
theorem d5_57 : D5 57 (.aload 7) 2 := by decide +kernel
theorem d5_59 : D5 59 (.invokevirtual 51) 3 := by decide +kernel
theorem d5_62 : D5 62 (.putfield 54) 3 := by decide +kernel
theorem d5_65 : D5 65 (.aload_n 0) 1 := by decide +kernel
theorem d5_66 : D5 66 (.aload 7) 2 := by decide +kernel
theorem d5_68 : D5 68 (.invokevirtual 56) 3 := by decide +kernel
theorem d5_71 : D5 71 (.putfield 60) 3 := by decide +kernel
theorem d5_74 : D5 74 (.return_) 1 := by decide +kernel
abbrev D23 (n : Nat) (i : Instr) (k : Nat) : Prop := decode prog_22_method_7_code n = .ok (i, k)
theorem d23_0 : D23 0 (.aload_n 0) 1 := by decide +kernel
theorem d23_1 : D23 1 (.getfield 30) 3 := by decide +kernel
theorem d23_4 : D23 4 (.lreturn) 1 := by decide +kernel
abbrev D24 (n : Nat) (i : Instr) (k : Nat) : Prop := decode prog_22_method_3_code n = .ok (i, k)
theorem d24_0 : D24 0 (.aload_n 0) 1 := by decide +kernel
theorem d24_1 : D24 1 (.getfield 13) 3 := by decide +kernel
theorem d24_4 : D24 4 (.lreturn) 1 := by decide +kernel
abbrev D12 (n : Nat) (i : Instr) (k : Nat) : Prop := decode prog_27_method_1_code n = .ok (i, k)
theorem d12_0 : D12 0 (.aload_n 0) 1 := by decide +kernel
theorem d12_1 : D12 1 (.invokespecial 3) 3 := by decide +kernel
theorem d12_4 : D12 4 (.aload_n 0) 1 := by decide +kernel
theorem d12_5 : D12 5 (.iconst 4) 1 := by decide +kernel
theorem d12_6 : D12 6 (.anewarray 9) 3 := by decide +kernel
theorem d12_9 : D12 9 (.putfield 11) 3 := by decide +kernel
theorem d12_12 : D12 12 (.aload_n 0) 1 := by decide +kernel
theorem d12_13 : D12 13 (.iload_n 1) 1 := by decide +kernel
theorem d12_14 : D12 14 (.putfield 15) 3 := by decide +kernel
theorem d12_17 : D12 17 (.return_) 1 := by decide +kernel
abbrev D17 (n : Nat) (i : Instr) (k : Nat) : Prop := decode prog_28_method_1_code n = .ok (i, k)
theorem d17_0 : D17 0 (.aload_n 0) 1 := by decide +kernel
theorem d17_1 : D17 1 (.invokespecial 3) 3 := by decide +kernel
theorem d17_4 : D17 4 (.aload_n 0) 1 := by decide +kernel
theorem d17_5 : D17 5 (.bipush 64) 2 := by decide +kernel
theorem d17_7 : D17 7 (.anewarray 9) 3 := by decide +kernel
theorem d17_10 : D17 10 (.putfield 11) 3 := by decide +kernel
theorem d17_13 : D17 13 (.aload_n 0) 1 := by decide +kernel
theorem d17_14 : D17 14 (.bipush 64) 2 := by decide +kernel
theorem d17_16 : D17 16 (.newarray .long) 2 := by decide +kernel
theorem d17_18 : D17 18 (.putfield 17) 3 := by decide +kernel
theorem d17_21 : D17 21 (.aload_n 0) 1 := by decide +kernel
theorem d17_22 : D17 22 (.bipush 64) 2 := by decide +kernel
theorem d17_24 : D17 24 (.newarray .long) 2 := by decide +kernel
theorem d17_26 : D17 26 (.putfield 21) 3 := by decide +kernel
theorem d17_29 : D17 29 (.return_) 1 := by decide +kernel
abbrev D16 (n : Nat) (i : Instr) (k : Nat) : Prop := decode prog_27_method_18_code n = .ok (i, k)
theorem d16_0 : D16 0 (.aload_n 0) 1 := by decide +kernel
theorem d16_1 : D16 1 (.getfield 34) 3 := by decide +kernel
theorem d16_4 : D16 4 (.aload_n 0) 1 := by decide +kernel
theorem d16_5 : D16 5 (.getfield 11) 3 := by decide +kernel
theorem d16_8 : D16 8 (.arraylength) 1 := by decide +kernel
theorem d16_9 : D16 9 (.if_icmp .ne 23) 3 := by decide +kernel
theorem d16_32 : D16 32 (.aload_n 0) 1 := by decide +kernel
theorem d16_33 : D16 33 (.getfield 11) 3 := by decide +kernel
theorem d16_36 : D16 36 (.aload_n 0) 1 := by decide +kernel
theorem d16_37 : D16 37 (.getfield 34) 3 := by decide +kernel
theorem d16_40 : D16 40 (.aaload) 1 := by decide +kernel
theorem d16_41 : D16 41 (.ifnonnull 13) 3 := by decide +kernel
theorem d16_44 : D16 44 (.new 9) 3 := by decide +kernel
theorem d16_47 : D16 47 (.dup) 1 := by decide +kernel
theorem d16_48 : D16 48 (.invokespecial 145) 3 := by decide +kernel
theorem d16_51 : D16 51 (.goto 12) 3 := by decide +kernel
theorem d16_63 : D16 63 (.astore_n 2) 1 := by decide +kernel
theorem d16_64 : D16 64 (.aload_n 0) 1 := by decide +kernel
theorem d16_65 : D16 65 (.getfield 11) 3 := by decide +kernel
theorem d16_68 : D16 68 (.iload_n 1) 1 := by decide +kernel
theorem d16_69 : D16 69 (.aload_n 0) 1 := by decide +kernel
theorem d16_70 : D16 70 (.getfield 11) 3 := by decide +kernel
theorem d16_73 : D16 73 (.iload_n 1) 1 := by decide +kernel
theorem d16_74 : D16 74 (.iconst 1) 1 := by decide +kernel
theorem d16_75 : D16 75 (.iadd) 1 := by decide +kernel
theorem d16_76 : D16 76 (.aload_n 0) 1 := by decide +kernel
theorem d16_77 : D16 77 (.getfield 34) 3 := by decide +kernel
theorem d16_80 : D16 80 (.iload_n 1) 1 := by decide +kernel
theorem d16_81 : D16 81 (.isub) 1 := by decide +kernel
theorem d16_82 : D16 82 (.invokestatic 146) 3 := by decide +kernel
theorem d16_85 : D16 85 (.aload_n 0) 1 := by decide +kernel
theorem d16_86 : D16 86 (.getfield 11) 3 := by decide +kernel
theorem d16_89 : D16 89 (.iload_n 1) 1 := by decide +kernel
theorem d16_90 : D16 90 (.aload_n 2) 1 := by decide +kernel
theorem d16_91 : D16 91 (.aastore) 1 := by decide +kernel
theorem d16_92 : D16 92 (.aload_n 0) 1 := by decide +kernel
theorem d16_93 : D16 93 (.dup) 1 := by decide +kernel
theorem d16_94 : D16 94 (.getfield 34) 3 := by decide +kernel
theorem d16_97 : D16 97 (.iconst 1) 1 := by decide +kernel
theorem d16_98 : D16 98 (.iadd) 1 := by decide +kernel
theorem d16_99 : D16 99 (.putfield 34) 3 := by decide +kernel
theorem d16_102 : D16 102 (.return_) 1 := by decide +kernel
abbrev D18 (n : Nat) (i : Instr) (k : Nat) : Prop := decode prog_27_method_13_code n = .ok (i, k)
theorem d18_0 : D18 0 (.iconst 0) 1 := by decide +kernel
theorem d18_1 : D18 1 (.istore_n 2) 1 := by decide +kernel
theorem d18_2 : D18 2 (.aload_n 0) 1 := by decide +kernel
theorem d18_3 : D18 3 (.getfield 34) 3 := by decide +kernel
theorem d18_6 : D18 6 (.iconst 1) 1 := by decide +kernel
theorem d18_7 : D18 7 (.isub) 1 := by decide +kernel
theorem d18_8 : D18 8 (.istore_n 3) 1 := by decide +kernel
theorem d18_9 : D18 9 (.iload_n 2) 1 := by decide +kernel
theorem d18_10 : D18 10 (.iload_n 3) 1 := by decide +kernel
theorem d18_11 : D18 11 (.if_icmp .ge 51) 3 := by decide +kernel
theorem d18_62 : D18 62 (.iload_n 2) 1 := by decide +kernel
theorem d18_63 : D18 63 (.ireturn) 1 := by decide +kernel
abbrev D33 (n : Nat) (i : Instr) (k : Nat) : Prop := decode prog_27_method_8_code n = .ok (i, k)
theorem d33_0 : D33 0 (.aload_n 1) 1 := by decide +kernel
theorem d33_1 : D33 1 (.getfield 108) 3 := by decide +kernel
theorem d33_4 : D33 4 (.iload_n 2) 1 := by decide +kernel
theorem d33_5 : D33 5 (.laload) 1 := by decide +kernel
theorem d33_6 : D33 6 (.lstore 4) 2 := by decide +kernel
theorem d33_8 : D33 8 (.lload 4) 2 := by decide +kernel
theorem d33_10 : D33 10 (.aload_n 3) 1 := by decide +kernel
theorem d33_11 : D33 11 (.invokevirtual 19) 3 := by decide +kernel
theorem d33_14 : D33 14 (.lcmp) 1 := by decide +kernel
theorem d33_15 : D33 15 (.ifCond .eq 33) 3 := by decide +kernel
theorem d33_48 : D33 48 (.aload_n 1) 1 := by decide +kernel
theorem d33_49 : D33 49 (.getfield 111) 3 := by decide +kernel
theorem d33_52 : D33 52 (.iload_n 2) 1 := by decide +kernel
theorem d33_53 : D33 53 (.laload) 1 := by decide +kernel
theorem d33_54 : D33 54 (.aload_n 3) 1 := by decide +kernel
theorem d33_55 : D33 55 (.invokevirtual 31) 3 := by decide +kernel
theorem d33_58 : D33 58 (.lcmp) 1 := by decide +kernel
theorem d33_59 : D33 59 (.ifCond .ge 7) 3 := by decide +kernel
theorem d33_62 : D33 62 (.iconst 1) 1 := by decide +kernel
theorem d33_63 : D33 63 (.goto 4) 3 := by decide +kernel
theorem d33_67 : D33 67 (.ireturn) 1 := by decide +kernel
theorem d33_18 : D33 18 (.aload_n 0) 1 := by decide +kernel
theorem d33_19 : D33 19 (.getfield 15) 3 := by decide +kernel
theorem d33_22 : D33 22 (.lload 4) 2 := by decide +kernel
theorem d33_24 : D33 24 (.aload_n 3) 1 := by decide +kernel
theorem d33_25 : D33 25 (.invokevirtual 19) 3 := by decide +kernel
theorem d33_28 : D33 28 (.lcmp) 1 := by decide +kernel
theorem d33_29 : D33 29 (.ifCond .ge 7) 3 := by decide +kernel
theorem d33_32 : D33 32 (.iconst 1) 1 := by decide +kernel
theorem d33_33 : D33 33 (.goto 4) 3 := by decide +kernel
theorem d33_37 : D33 37 (.if_icmp .ne 7) 3 := by decide +kernel
theorem d33_40 : D33 40 (.iconst 1) 1 := by decide +kernel
theorem d33_41 : D33 41 (.goto 26) 3 := by decide +kernel
theorem d33_36 : D33 36 (.iconst 0) 1 := by decide +kernel
theorem d33_66 : D33 66 (.iconst 0) 1 := by decide +kernel
theorem d33_44 : D33 44 (.iconst 0) 1 := by decide +kernel
theorem d33_45 : D33 45 (.goto 22) 3 := by decide +kernel
abbrev D19 (n : Nat) (i : Instr) (k : Nat) : Prop := decode prog_27_method_14_code n = .ok (i, k)
theorem d19_0 : D19 0 (.iconst 0) 1 := by decide +kernel
theorem d19_1 : D19 1 (.istore_n 3) 1 := by decide +kernel
theorem d19_2 : D19 2 (.aload_n 1) 1 := by decide +kernel
theorem d19_3 : D19 3 (.getfield 54) 3 := by decide +kernel
theorem d19_6 : D19 6 (.istore 4) 2 := by decide +kernel
theorem d19_8 : D19 8 (.iload_n 3) 1 := by decide +kernel
theorem d19_9 : D19 9 (.iload 4) 2 := by decide +kernel
theorem d19_11 : D19 11 (.if_icmp .ge 37) 3 := by decide +kernel
theorem d19_48 : D19 48 (.iload_n 3) 1 := by decide +kernel
theorem d19_49 : D19 49 (.ireturn) 1 := by decide +kernel
theorem d19_14 : D19 14 (.iload_n 3) 1 := by decide +kernel
theorem d19_15 : D19 15 (.iload 4) 2 := by decide +kernel
theorem d19_17 : D19 17 (.iadd) 1 := by decide +kernel
theorem d19_18 : D19 18 (.iconst 1) 1 := by decide +kernel
theorem d19_19 : D19 19 (.iushr) 1 := by decide +kernel
theorem d19_20 : D19 20 (.istore 5) 2 := by decide +kernel
theorem d19_22 : D19 22 (.aload_n 0) 1 := by decide +kernel
theorem d19_23 : D19 23 (.aload_n 1) 1 := by decide +kernel
theorem d19_24 : D19 24 (.iload 5) 2 := by decide +kernel
theorem d19_26 : D19 26 (.aload_n 2) 1 := by decide +kernel
theorem d19_27 : D19 27 (.invokevirtual 60) 3 := by decide +kernel
theorem d19_30 : D19 30 (.ifCond .eq 11) 3 := by decide +kernel
theorem d19_41 : D19 41 (.iload 5) 2 := by decide +kernel
theorem d19_43 : D19 43 (.istore 4) 2 := by decide +kernel
theorem d19_45 : D19 45 (.goto (-37)) 3 := by decide +kernel
theorem d19_33 : D19 33 (.iload 5) 2 := by decide +kernel
theorem d19_35 : D19 35 (.iconst 1) 1 := by decide +kernel
theorem d19_36 : D19 36 (.iadd) 1 := by decide +kernel
theorem d19_37 : D19 37 (.istore_n 3) 1 := by decide +kernel
theorem d19_38 : D19 38 (.goto 7) 3 := by decide +kernel
abbrev D35 (n : Nat) (i : Instr) (k : Nat) : Prop := decode prog_28_method_6_code n = .ok (i, k)
theorem d35_0 : D35 0 (.aload_n 0) 1 := by decide +kernel
theorem d35_1 : D35 1 (.getfield 11) 3 := by decide +kernel
theorem d35_4 : D35 4 (.iload_n 2) 1 := by decide +kernel
theorem d35_5 : D35 5 (.aload_n 0) 1 := by decide +kernel
theorem d35_6 : D35 6 (.getfield 11) 3 := by decide +kernel
theorem d35_9 : D35 9 (.iload_n 1) 1 := by decide +kernel
theorem d35_10 : D35 10 (.aaload) 1 := by decide +kernel
theorem d35_11 : D35 11 (.aastore) 1 := by decide +kernel
theorem d35_12 : D35 12 (.aload_n 0) 1 := by decide +kernel
theorem d35_13 : D35 13 (.getfield 17) 3 := by decide +kernel
theorem d35_16 : D35 16 (.iload_n 2) 1 := by decide +kernel
theorem d35_17 : D35 17 (.aload_n 0) 1 := by decide +kernel
theorem d35_18 : D35 18 (.getfield 17) 3 := by decide +kernel
theorem d35_21 : D35 21 (.iload_n 1) 1 := by decide +kernel
theorem d35_22 : D35 22 (.laload) 1 := by decide +kernel
theorem d35_23 : D35 23 (.lastore) 1 := by decide +kernel
theorem d35_24 : D35 24 (.aload_n 0) 1 := by decide +kernel
theorem d35_25 : D35 25 (.getfield 21) 3 := by decide +kernel
theorem d35_28 : D35 28 (.iload_n 2) 1 := by decide +kernel
theorem d35_29 : D35 29 (.aload_n 0) 1 := by decide +kernel
theorem d35_30 : D35 30 (.getfield 21) 3 := by decide +kernel
theorem d35_33 : D35 33 (.iload_n 1) 1 := by decide +kernel
theorem d35_34 : D35 34 (.laload) 1 := by decide +kernel
theorem d35_35 : D35 35 (.lastore) 1 := by decide +kernel
theorem d35_36 : D35 36 (.return_) 1 := by decide +kernel
abbrev D21 (n : Nat) (i : Instr) (k : Nat) : Prop := decode prog_28_method_5_code n = .ok (i, k)
theorem d21_0 : D21 0 (.iload_n 2) 1 := by decide +kernel
theorem d21_1 : D21 1 (.iload_n 1) 1 := by decide +kernel
theorem d21_2 : D21 2 (.isub) 1 := by decide +kernel
theorem d21_3 : D21 3 (.istore 4) 2 := by decide +kernel
theorem d21_5 : D21 5 (.iload 4) 2 := by decide +kernel
theorem d21_7 : D21 7 (.iconst 4) 1 := by decide +kernel
theorem d21_8 : D21 8 (.if_icmp .le 57) 3 := by decide +kernel
theorem d21_65 : D21 65 (.iload_n 3) 1 := by decide +kernel
theorem d21_66 : D21 66 (.ifCond .le 33) 3 := by decide +kernel
theorem d21_69 : D21 69 (.iload_n 2) 1 := by decide +kernel
theorem d21_70 : D21 70 (.iconst 1) 1 := by decide +kernel
theorem d21_71 : D21 71 (.isub) 1 := by decide +kernel
theorem d21_72 : D21 72 (.istore 5) 2 := by decide +kernel
theorem d21_74 : D21 74 (.iload 5) 2 := by decide +kernel
theorem d21_76 : D21 76 (.iload_n 1) 1 := by decide +kernel
theorem d21_77 : D21 77 (.if_icmp .lt 19) 3 := by decide +kernel
theorem d21_96 : D21 96 (.goto 28) 3 := by decide +kernel
theorem d21_124 : D21 124 (.return_) 1 := by decide +kernel
theorem d21_80 : D21 80 (.aload_n 0) 1 := by decide +kernel
theorem d21_81 : D21 81 (.iload 5) 2 := by decide +kernel
theorem d21_83 : D21 83 (.iload 5) 2 := by decide +kernel
theorem d21_85 : D21 85 (.iload_n 3) 1 := by decide +kernel
theorem d21_86 : D21 86 (.iadd) 1 := by decide +kernel
theorem d21_87 : D21 87 (.invokevirtual 44) 3 := by decide +kernel
theorem d21_90 : D21 90 (.iinc 5 (-1)) 3 := by decide +kernel
theorem d21_93 : D21 93 (.goto (-19)) 3 := by decide +kernel
theorem d21_99 : D21 99 (.iload_n 1) 1 := by decide +kernel
theorem d21_100 : D21 100 (.istore 5) 2 := by decide +kernel
theorem d21_102 : D21 102 (.iload 5) 2 := by decide +kernel
theorem d21_104 : D21 104 (.iload_n 2) 1 := by decide +kernel
theorem d21_105 : D21 105 (.if_icmp .ge 19) 3 := by decide +kernel
theorem d21_108 : D21 108 (.aload_n 0) 1 := by decide +kernel
theorem d21_109 : D21 109 (.iload 5) 2 := by decide +kernel
theorem d21_111 : D21 111 (.iload 5) 2 := by decide +kernel
theorem d21_113 : D21 113 (.iload_n 3) 1 := by decide +kernel
theorem d21_114 : D21 114 (.iadd) 1 := by decide +kernel
theorem d21_115 : D21 115 (.invokevirtual 44) 3 := by decide +kernel
theorem d21_118 : D21 118 (.iinc 5 1) 3 := by decide +kernel
theorem d21_121 : D21 121 (.goto (-19)) 3 := by decide +kernel
abbrev D20 (n : Nat) (i : Instr) (k : Nat) : Prop := decode prog_28_method_2_code n = .ok (i, k)
theorem d20_0 : D20 0 (.aload_n 0) 1 := by decide +kernel
theorem d20_1 : D20 1 (.iload_n 1) 1 := by decide +kernel
theorem d20_2 : D20 2 (.aload_n 0) 1 := by decide +kernel
theorem d20_3 : D20 3 (.getfield 24) 3 := by decide +kernel
theorem d20_6 : D20 6 (.iconst 1) 1 := by decide +kernel
theorem d20_7 : D20 7 (.invokevirtual 28) 3 := by decide +kernel
theorem d20_10 : D20 10 (.aload_n 0) 1 := by decide +kernel
theorem d20_11 : D20 11 (.dup) 1 := by decide +kernel
theorem d20_12 : D20 12 (.getfield 24) 3 := by decide +kernel
theorem d20_15 : D20 15 (.iconst 1) 1 := by decide +kernel
theorem d20_16 : D20 16 (.iadd) 1 := by decide +kernel
theorem d20_17 : D20 17 (.putfield 24) 3 := by decide +kernel
theorem d20_20 : D20 20 (.return_) 1 := by decide +kernel
abbrev D31 (n : Nat) (i : Instr) (k : Nat) : Prop := decode prog_28_method_4_code n = .ok (i, k)
theorem d31_0 : D31 0 (.aload_n 0) 1 := by decide +kernel
theorem d31_1 : D31 1 (.iload_n 1) 1 := by decide +kernel
theorem d31_2 : D31 2 (.iconst 1) 1 := by decide +kernel
theorem d31_3 : D31 3 (.iadd) 1 := by decide +kernel
theorem d31_4 : D31 4 (.aload_n 0) 1 := by decide +kernel
theorem d31_5 : D31 5 (.getfield 24) 3 := by decide +kernel
theorem d31_8 : D31 8 (.iconst (-1)) 1 := by decide +kernel
theorem d31_9 : D31 9 (.invokevirtual 28) 3 := by decide +kernel
theorem d31_12 : D31 12 (.aload_n 0) 1 := by decide +kernel
theorem d31_13 : D31 13 (.dup) 1 := by decide +kernel
theorem d31_14 : D31 14 (.getfield 24) 3 := by decide +kernel
theorem d31_17 : D31 17 (.iconst 1) 1 := by decide +kernel
theorem d31_18 : D31 18 (.isub) 1 := by decide +kernel
theorem d31_19 : D31 19 (.putfield 24) 3 := by decide +kernel
theorem d31_22 : D31 22 (.aload_n 0) 1 := by decide +kernel
theorem d31_23 : D31 23 (.getfield 11) 3 := by decide +kernel
theorem d31_26 : D31 26 (.aload_n 0) 1 := by decide +kernel
theorem d31_27 : D31 27 (.getfield 24) 3 := by decide +kernel
theorem d31_30 : D31 30 (.aconst_null) 1 := by decide +kernel
theorem d31_31 : D31 31 (.aastore) 1 := by decide +kernel
theorem d31_32 : D31 32 (.return_) 1 := by decide +kernel
abbrev D22 (n : Nat) (i : Instr) (k : Nat) : Prop := decode prog_28_method_3_code n = .ok (i, k)
theorem d22_0 : D22 0 (.aload_n 0) 1 := by decide +kernel
theorem d22_1 : D22 1 (.getfield 11) 3 := by decide +kernel
theorem d22_4 : D22 4 (.iload_n 1) 1 := by decide +kernel
theorem d22_5 : D22 5 (.aload_n 2) 1 := by decide +kernel
theorem d22_6 : D22 6 (.aastore) 1 := by decide +kernel
theorem d22_7 : D22 7 (.aload_n 0) 1 := by decide +kernel
theorem d22_8 : D22 8 (.getfield 17) 3 := by decide +kernel
theorem d22_11 : D22 11 (.iload_n 1) 1 := by decide +kernel
theorem d22_12 : D22 12 (.aload_n 2) 1 := by decide +kernel
theorem d22_13 : D22 13 (.invokevirtual 32) 3 := by decide +kernel
theorem d22_16 : D22 16 (.lastore) 1 := by decide +kernel
theorem d22_17 : D22 17 (.aload_n 0) 1 := by decide +kernel
theorem d22_18 : D22 18 (.getfield 21) 3 := by decide +kernel
theorem d22_21 : D22 21 (.iload_n 1) 1 := by decide +kernel
theorem d22_22 : D22 22 (.aload_n 2) 1 := by decide +kernel
theorem d22_23 : D22 23 (.invokevirtual 35) 3 := by decide +kernel
theorem d22_26 : D22 26 (.lastore) 1 := by decide +kernel
theorem d22_27 : D22 27 (.return_) 1 := by decide +kernel
abbrev D26 (n : Nat) (i : Instr) (k : Nat) : Prop := decode prog_27_method_11_code n = .ok (i, k)
theorem d26_0 : D26 0 (.aconst_null) 1 := by decide +kernel
theorem d26_1 : D26 1 (.astore_n 3) 1 := by decide +kernel
theorem d26_2 : D26 2 (.iload_n 2) 1 := by decide +kernel
theorem d26_3 : D26 3 (.ifCond .le 20) 3 := by decide +kernel
theorem d26_23 : D26 23 (.iload_n 1) 1 := by decide +kernel
theorem d26_24 : D26 24 (.ifCond .le 27) 3 := by decide +kernel
theorem d26_51 : D26 51 (.aload_n 3) 1 := by decide +kernel
theorem d26_52 : D26 52 (.areturn) 1 := by decide +kernel
theorem d26_6 : D26 6 (.aload_n 0) 1 := by decide +kernel
theorem d26_7 : D26 7 (.getfield 11) 3 := by decide +kernel
theorem d26_10 : D26 10 (.iload_n 1) 1 := by decide +kernel
theorem d26_11 : D26 11 (.aaload) 1 := by decide +kernel
theorem d26_12 : D26 12 (.getfield 38) 3 := by decide +kernel
theorem d26_15 : D26 15 (.iload_n 2) 1 := by decide +kernel
theorem d26_16 : D26 16 (.iconst 1) 1 := by decide +kernel
theorem d26_17 : D26 17 (.isub) 1 := by decide +kernel
theorem d26_18 : D26 18 (.aaload) 1 := by decide +kernel
theorem d26_19 : D26 19 (.astore_n 3) 1 := by decide +kernel
theorem d26_20 : D26 20 (.goto 31) 3 := by decide +kernel
abbrev D27 (n : Nat) (i : Instr) (k : Nat) : Prop := decode prog_27_method_12_code n = .ok (i, k)
theorem d27_0 : D27 0 (.iload_n 1) 1 := by decide +kernel
theorem d27_1 : D27 1 (.aload_n 0) 1 := by decide +kernel
theorem d27_2 : D27 2 (.getfield 34) 3 := by decide +kernel
theorem d27_5 : D27 5 (.if_icmp .ge 17) 3 := by decide +kernel
theorem d27_22 : D27 22 (.aconst_null) 1 := by decide +kernel
theorem d27_23 : D27 23 (.areturn) 1 := by decide +kernel
abbrev D25 (n : Nat) (i : Instr) (k : Nat) : Prop := decode prog_27_method_9_code n = .ok (i, k)
theorem d25_0 : D25 0 (.aload_n 0) 1 := by decide +kernel
theorem d25_1 : D25 1 (.getfield 11) 3 := by decide +kernel
theorem d25_4 : D25 4 (.iload_n 1) 1 := by decide +kernel
theorem d25_5 : D25 5 (.aaload) 1 := by decide +kernel
theorem d25_6 : D25 6 (.getfield 38) 3 := by decide +kernel
theorem d25_9 : D25 9 (.iload_n 2) 1 := by decide +kernel
theorem d25_10 : D25 10 (.aaload) 1 := by decide +kernel
theorem d25_11 : D25 11 (.astore_n 3) 1 := by decide +kernel
theorem d25_12 : D25 12 (.aload_n 0) 1 := by decide +kernel
theorem d25_13 : D25 13 (.iload_n 1) 1 := by decide +kernel
theorem d25_14 : D25 14 (.iload_n 2) 1 := by decide +kernel
theorem d25_15 : D25 15 (.invokevirtual 114) 3 := by decide +kernel
theorem d25_18 : D25 18 (.astore 4) 2 := by decide +kernel
theorem d25_20 : D25 20 (.aload_n 3) 1 := by decide +kernel
theorem d25_21 : D25 21 (.iload_n 2) 1 := by decide +kernel
theorem d25_22 : D25 22 (.iconst 1) 1 := by decide +kernel
theorem d25_23 : D25 23 (.iadd) 1 := by decide +kernel
theorem d25_24 : D25 24 (.aload_n 0) 1 := by decide +kernel
theorem d25_25 : D25 25 (.getfield 11) 3 := by decide +kernel
theorem d25_28 : D25 28 (.iload_n 1) 1 := by decide +kernel
theorem d25_29 : D25 29 (.aaload) 1 := by decide +kernel
theorem d25_30 : D25 30 (.getfield 54) 3 := by decide +kernel
theorem d25_33 : D25 33 (.if_icmp .ge 19) 3 := by decide +kernel
theorem d25_52 : D25 52 (.aload_n 0) 1 := by decide +kernel
theorem d25_53 : D25 53 (.iload_n 1) 1 := by decide +kernel
theorem d25_54 : D25 54 (.iconst 1) 1 := by decide +kernel
theorem d25_55 : D25 55 (.iadd) 1 := by decide +kernel
theorem d25_56 : D25 56 (.invokevirtual 118) 3 := by decide +kernel
theorem d25_59 : D25 59 (.putfield 42) 3 := by decide +kernel
theorem d25_62 : D25 62 (.aload 4) 2 := by decide +kernel
theorem d25_64 : D25 64 (.ifnull 9) 3 := by decide +kernel
theorem d25_73 : D25 73 (.return_) 1 := by decide +kernel
theorem d25_36 : D25 36 (.aload_n 0) 1 := by decide +kernel
theorem d25_37 : D25 37 (.getfield 11) 3 := by decide +kernel
theorem d25_40 : D25 40 (.iload_n 1) 1 := by decide +kernel
theorem d25_41 : D25 41 (.aaload) 1 := by decide +kernel
theorem d25_42 : D25 42 (.getfield 38) 3 := by decide +kernel
theorem d25_45 : D25 45 (.iload_n 2) 1 := by decide +kernel
theorem d25_46 : D25 46 (.iconst 1) 1 := by decide +kernel
theorem d25_47 : D25 47 (.iadd) 1 := by decide +kernel
theorem d25_48 : D25 48 (.aaload) 1 := by decide +kernel
theorem d25_49 : D25 49 (.goto 10) 3 := by decide +kernel
theorem d25_67 : D25 67 (.aload 4) 2 := by decide +kernel
theorem d25_69 : D25 69 (.aload_n 3) 1 := by decide +kernel
theorem d25_70 : D25 70 (.putfield 42) 3 := by decide +kernel
abbrev D30 (n : Nat) (i : Instr) (k : Nat) : Prop := decode prog_27_method_10_code n = .ok (i, k)
theorem d30_0 : D30 0 (.aload_n 0) 1 := by decide +kernel
theorem d30_1 : D30 1 (.getfield 11) 3 := by decide +kernel
theorem d30_4 : D30 4 (.iload_n 1) 1 := by decide +kernel
theorem d30_5 : D30 5 (.aaload) 1 := by decide +kernel
theorem d30_6 : D30 6 (.getfield 38) 3 := by decide +kernel
theorem d30_9 : D30 9 (.iload_n 2) 1 := by decide +kernel
theorem d30_10 : D30 10 (.aaload) 1 := by decide +kernel
theorem d30_11 : D30 11 (.astore_n 3) 1 := by decide +kernel
theorem d30_12 : D30 12 (.aload_n 0) 1 := by decide +kernel
theorem d30_13 : D30 13 (.iload_n 1) 1 := by decide +kernel
theorem d30_14 : D30 14 (.iload_n 2) 1 := by decide +kernel
theorem d30_15 : D30 15 (.invokevirtual 114) 3 := by decide +kernel
theorem d30_18 : D30 18 (.astore 4) 2 := by decide +kernel
theorem d30_20 : D30 20 (.aload 4) 2 := by decide +kernel
theorem d30_22 : D30 22 (.ifnull 12) 3 := by decide +kernel
theorem d30_34 : D30 34 (.aload_n 3) 1 := by decide +kernel
theorem d30_35 : D30 35 (.aconst_null) 1 := by decide +kernel
theorem d30_36 : D30 36 (.putfield 42) 3 := by decide +kernel
theorem d30_39 : D30 39 (.return_) 1 := by decide +kernel
abbrev D29 (n : Nat) (i : Instr) (k : Nat) : Prop := decode prog_27_method_15_code n = .ok (i, k)
theorem d29_0 : D29 0 (.iconst 0) 1 := by decide +kernel
theorem d29_1 : D29 1 (.istore_n 3) 1 := by decide +kernel
theorem d29_2 : D29 2 (.iload_n 3) 1 := by decide +kernel
theorem d29_3 : D29 3 (.aload_n 1) 1 := by decide +kernel
theorem d29_4 : D29 4 (.getfield 54) 3 := by decide +kernel
theorem d29_7 : D29 7 (.if_icmp .ge 19) 3 := by decide +kernel
theorem d29_10 : D29 10 (.aload_n 1) 1 := by decide +kernel
theorem d29_11 : D29 11 (.getfield 38) 3 := by decide +kernel
theorem d29_14 : D29 14 (.iload_n 3) 1 := by decide +kernel
theorem d29_15 : D29 15 (.aaload) 1 := by decide +kernel
theorem d29_16 : D29 16 (.aload_n 2) 1 := by decide +kernel
theorem d29_17 : D29 17 (.if_acmp .eq 9) 3 := by decide +kernel
theorem d29_26 : D29 26 (.iload_n 3) 1 := by decide +kernel
theorem d29_27 : D29 27 (.aload_n 1) 1 := by decide +kernel
theorem d29_28 : D29 28 (.getfield 54) 3 := by decide +kernel
theorem d29_31 : D29 31 (.if_icmp .ne 20) 3 := by decide +kernel
theorem d29_51 : D29 51 (.iload_n 3) 1 := by decide +kernel
theorem d29_52 : D29 52 (.ireturn) 1 := by decide +kernel
abbrev D32 (n : Nat) (i : Instr) (k : Nat) : Prop := decode prog_27_method_19_code n = .ok (i, k)
theorem d32_0 : D32 0 (.aload_n 0) 1 := by decide +kernel
theorem d32_1 : D32 1 (.getfield 11) 3 := by decide +kernel
theorem d32_4 : D32 4 (.iload_n 1) 1 := by decide +kernel
theorem d32_5 : D32 5 (.aaload) 1 := by decide +kernel
theorem d32_6 : D32 6 (.astore_n 2) 1 := by decide +kernel
theorem d32_7 : D32 7 (.aload_n 0) 1 := by decide +kernel
theorem d32_8 : D32 8 (.dup) 1 := by decide +kernel
theorem d32_9 : D32 9 (.getfield 34) 3 := by decide +kernel
theorem d32_12 : D32 12 (.iconst 1) 1 := by decide +kernel
theorem d32_13 : D32 13 (.isub) 1 := by decide +kernel
theorem d32_14 : D32 14 (.putfield 34) 3 := by decide +kernel
theorem d32_17 : D32 17 (.aload_n 0) 1 := by decide +kernel
theorem d32_18 : D32 18 (.getfield 11) 3 := by decide +kernel
theorem d32_21 : D32 21 (.iload_n 1) 1 := by decide +kernel
theorem d32_22 : D32 22 (.iconst 1) 1 := by decide +kernel
theorem d32_23 : D32 23 (.iadd) 1 := by decide +kernel
theorem d32_24 : D32 24 (.aload_n 0) 1 := by decide +kernel
theorem d32_25 : D32 25 (.getfield 11) 3 := by decide +kernel
theorem d32_28 : D32 28 (.iload_n 1) 1 := by decide +kernel
theorem d32_29 : D32 29 (.aload_n 0) 1 := by decide +kernel
theorem d32_30 : D32 30 (.getfield 34) 3 := by decide +kernel
theorem d32_33 : D32 33 (.iload_n 1) 1 := by decide +kernel
theorem d32_34 : D32 34 (.isub) 1 := by decide +kernel
theorem d32_35 : D32 35 (.invokestatic 146) 3 := by decide +kernel
theorem d32_38 : D32 38 (.aload_n 0) 1 := by decide +kernel
theorem d32_39 : D32 39 (.getfield 11) 3 := by decide +kernel
theorem d32_42 : D32 42 (.aload_n 0) 1 := by decide +kernel
theorem d32_43 : D32 43 (.getfield 34) 3 := by decide +kernel
theorem d32_46 : D32 46 (.aload_n 2) 1 := by decide +kernel
theorem d32_47 : D32 47 (.aastore) 1 := by decide +kernel
theorem d32_48 : D32 48 (.return_) 1 := by decide +kernel
abbrev D15 (n : Nat) (i : Instr) (k : Nat) : Prop := decode prog_27_method_5_code n = .ok (i, k)
theorem d15_0 : D15 0 (.aload_n 0) 1 := by decide +kernel
theorem d15_1 : D15 1 (.getfield 34) 3 := by decide +kernel
theorem d15_4 : D15 4 (.ifCond .ne 8) 3 := by decide +kernel
theorem d15_7 : D15 7 (.aload_n 0) 1 := by decide +kernel
theorem d15_8 : D15 8 (.iconst 0) 1 := by decide +kernel
theorem d15_9 : D15 9 (.invokevirtual 46) 3 := by decide +kernel
theorem d15_12 : D15 12 (.aload_n 0) 1 := by decide +kernel
theorem d15_13 : D15 13 (.aload_n 1) 1 := by decide +kernel
theorem d15_14 : D15 14 (.invokevirtual 50) 3 := by decide +kernel
theorem d15_17 : D15 17 (.istore_n 2) 1 := by decide +kernel
theorem d15_18 : D15 18 (.aload_n 0) 1 := by decide +kernel
theorem d15_19 : D15 19 (.getfield 11) 3 := by decide +kernel
theorem d15_22 : D15 22 (.iload_n 2) 1 := by decide +kernel
theorem d15_23 : D15 23 (.aaload) 1 := by decide +kernel
theorem d15_24 : D15 24 (.getfield 54) 3 := by decide +kernel
theorem d15_27 : D15 27 (.bipush 64) 2 := by decide +kernel
theorem d15_29 : D15 29 (.if_icmp .ne 27) 3 := by decide +kernel
theorem d15_56 : D15 56 (.aload_n 0) 1 := by decide +kernel
theorem d15_57 : D15 57 (.getfield 11) 3 := by decide +kernel
theorem d15_60 : D15 60 (.iload_n 2) 1 := by decide +kernel
theorem d15_61 : D15 61 (.aaload) 1 := by decide +kernel
theorem d15_62 : D15 62 (.astore_n 3) 1 := by decide +kernel
theorem d15_63 : D15 63 (.aload_n 0) 1 := by decide +kernel
theorem d15_64 : D15 64 (.aload_n 3) 1 := by decide +kernel
theorem d15_65 : D15 65 (.aload_n 1) 1 := by decide +kernel
theorem d15_66 : D15 66 (.invokevirtual 64) 3 := by decide +kernel
theorem d15_69 : D15 69 (.istore 4) 2 := by decide +kernel
theorem d15_71 : D15 71 (.aload_n 3) 1 := by decide +kernel
theorem d15_72 : D15 72 (.iload 4) 2 := by decide +kernel
theorem d15_74 : D15 74 (.invokevirtual 68) 3 := by decide +kernel
theorem d15_77 : D15 77 (.aload_n 3) 1 := by decide +kernel
theorem d15_78 : D15 78 (.iload 4) 2 := by decide +kernel
theorem d15_80 : D15 80 (.aload_n 1) 1 := by decide +kernel
theorem d15_81 : D15 81 (.invokevirtual 71) 3 := by decide +kernel
theorem d15_84 : D15 84 (.aload_n 0) 1 := by decide +kernel
theorem d15_85 : D15 85 (.iload_n 2) 1 := by decide +kernel
theorem d15_86 : D15 86 (.iload 4) 2 := by decide +kernel
theorem d15_88 : D15 88 (.invokevirtual 75) 3 := by decide +kernel
theorem d15_91 : D15 91 (.return_) 1 := by decide +kernel
abbrev D28 (n : Nat) (i : Instr) (k : Nat) : Prop := decode prog_27_method_7_code n = .ok (i, k)
theorem d28_0 : D28 0 (.aload_n 0) 1 := by decide +kernel
theorem d28_1 : D28 1 (.aload_n 1) 1 := by decide +kernel
theorem d28_2 : D28 2 (.invokevirtual 50) 3 := by decide +kernel
theorem d28_5 : D28 5 (.istore_n 2) 1 := by decide +kernel
theorem d28_6 : D28 6 (.aload_n 0) 1 := by decide +kernel
theorem d28_7 : D28 7 (.getfield 11) 3 := by decide +kernel
theorem d28_10 : D28 10 (.iload_n 2) 1 := by decide +kernel
theorem d28_11 : D28 11 (.aaload) 1 := by decide +kernel
theorem d28_12 : D28 12 (.astore_n 3) 1 := by decide +kernel
theorem d28_13 : D28 13 (.aload_n 0) 1 := by decide +kernel
theorem d28_14 : D28 14 (.aload_n 3) 1 := by decide +kernel
theorem d28_15 : D28 15 (.aload_n 1) 1 := by decide +kernel
theorem d28_16 : D28 16 (.invokevirtual 79) 3 := by decide +kernel
theorem d28_19 : D28 19 (.istore 4) 2 := by decide +kernel
theorem d28_21 : D28 21 (.aload_n 0) 1 := by decide +kernel
theorem d28_22 : D28 22 (.iload_n 2) 1 := by decide +kernel
theorem d28_23 : D28 23 (.iload 4) 2 := by decide +kernel
theorem d28_25 : D28 25 (.invokevirtual 85) 3 := by decide +kernel
theorem d28_28 : D28 28 (.aload_n 3) 1 := by decide +kernel
theorem d28_29 : D28 29 (.iload 4) 2 := by decide +kernel
theorem d28_31 : D28 31 (.invokevirtual 99) 3 := by decide +kernel
theorem d28_34 : D28 34 (.iload_n 2) 1 := by decide +kernel
theorem d28_35 : D28 35 (.iconst 1) 1 := by decide +kernel
theorem d28_36 : D28 36 (.iadd) 1 := by decide +kernel
theorem d28_37 : D28 37 (.aload_n 0) 1 := by decide +kernel
theorem d28_38 : D28 38 (.getfield 34) 3 := by decide +kernel
theorem d28_41 : D28 41 (.if_icmp .ge 32) 3 := by decide +kernel
theorem d28_73 : D28 73 (.iload_n 2) 1 := by decide +kernel
theorem d28_74 : D28 74 (.ifCond .le 34) 3 := by decide +kernel
theorem d28_108 : D28 108 (.aload_n 3) 1 := by decide +kernel
theorem d28_109 : D28 109 (.getfield 54) 3 := by decide +kernel
theorem d28_112 : D28 112 (.ifCond .ne 8) 3 := by decide +kernel
theorem d28_115 : D28 115 (.aload_n 0) 1 := by decide +kernel
theorem d28_116 : D28 116 (.iload_n 2) 1 := by decide +kernel
theorem d28_117 : D28 117 (.invokevirtual 105) 3 := by decide +kernel
theorem d28_120 : D28 120 (.return_) 1 := by decide +kernel
abbrev D14 (n : Nat) (i : Instr) (k : Nat) : Prop := decode prog_27_method_3_code n = .ok (i, k)
theorem d14_0 : D14 0 (.aload_n 0) 1 := by decide +kernel
theorem d14_1 : D14 1 (.getfield 34) 3 := by decide +kernel
theorem d14_4 : D14 4 (.ifCond .ne 7) 3 := by decide +kernel
theorem d14_7 : D14 7 (.aconst_null) 1 := by decide +kernel
theorem d14_8 : D14 8 (.goto 14) 3 := by decide +kernel
theorem d14_22 : D14 22 (.areturn) 1 := by decide +kernel
theorem d14_11 : D14 11 (.aload_n 0) 1 := by decide +kernel
theorem d14_12 : D14 12 (.getfield 11) 3 := by decide +kernel
theorem d14_15 : D14 15 (.iconst 0) 1 := by decide +kernel
theorem d14_16 : D14 16 (.aaload) 1 := by decide +kernel
theorem d14_17 : D14 17 (.getfield 38) 3 := by decide +kernel
theorem d14_20 : D14 20 (.iconst 0) 1 := by decide +kernel
theorem d14_21 : D14 21 (.aaload) 1 := by decide +kernel
abbrev D34 (n : Nat) (i : Instr) (k : Nat) : Prop := decode method_3_code n = .ok (i, k)
theorem d34_0 : D34 0 (.aload_n 1) 1 := by decide +kernel
theorem d34_1 : D34 1 (.iload_n 3) 1 := by decide +kernel
theorem d34_2 : D34 2 (.laload) 1 := by decide +kernel
theorem d34_3 : D34 3 (.aload_n 1) 1 := by decide +kernel
theorem d34_4 : D34 4 (.iload 4) 2 := by decide +kernel
theorem d34_6 : D34 6 (.laload) 1 := by decide +kernel
theorem d34_7 : D34 7 (.lcmp) 1 := by decide +kernel
theorem d34_8 : D34 8 (.ifCond .eq 41) 3 := by decide +kernel
theorem d34_49 : D34 49 (.aload_n 2) 1 := by decide +kernel
theorem d34_50 : D34 50 (.iload_n 3) 1 := by decide +kernel
theorem d34_51 : D34 51 (.laload) 1 := by decide +kernel
theorem d34_52 : D34 52 (.aload_n 2) 1 := by decide +kernel
theorem d34_53 : D34 53 (.iload 4) 2 := by decide +kernel
theorem d34_55 : D34 55 (.laload) 1 := by decide +kernel
theorem d34_56 : D34 56 (.lcmp) 1 := by decide +kernel
theorem d34_57 : D34 57 (.ifCond .ge 7) 3 := by decide +kernel
theorem d34_60 : D34 60 (.iconst 1) 1 := by decide +kernel
theorem d34_61 : D34 61 (.goto 4) 3 := by decide +kernel
theorem d34_65 : D34 65 (.ireturn) 1 := by decide +kernel
theorem d34_11 : D34 11 (.iload_n 0) 1 := by decide +kernel
theorem d34_12 : D34 12 (.ifCond .eq 20) 3 := by decide +kernel
theorem d34_32 : D34 32 (.aload_n 1) 1 := by decide +kernel
theorem d34_33 : D34 33 (.iload_n 3) 1 := by decide +kernel
theorem d34_34 : D34 34 (.laload) 1 := by decide +kernel
theorem d34_35 : D34 35 (.aload_n 1) 1 := by decide +kernel
theorem d34_36 : D34 36 (.iload 4) 2 := by decide +kernel
theorem d34_38 : D34 38 (.laload) 1 := by decide +kernel
theorem d34_39 : D34 39 (.lcmp) 1 := by decide +kernel
theorem d34_40 : D34 40 (.ifCond .le 7) 3 := by decide +kernel
theorem d34_43 : D34 43 (.iconst 1) 1 := by decide +kernel
theorem d34_44 : D34 44 (.goto 4) 3 := by decide +kernel
theorem d34_48 : D34 48 (.ireturn) 1 := by decide +kernel
theorem d34_15 : D34 15 (.aload_n 1) 1 := by decide +kernel
theorem d34_16 : D34 16 (.iload_n 3) 1 := by decide +kernel
theorem d34_17 : D34 17 (.laload) 1 := by decide +kernel
theorem d34_18 : D34 18 (.aload_n 1) 1 := by decide +kernel
theorem d34_19 : D34 19 (.iload 4) 2 := by decide +kernel
theorem d34_21 : D34 21 (.laload) 1 := by decide +kernel
theorem d34_22 : D34 22 (.lcmp) 1 := by decide +kernel
theorem d34_23 : D34 23 (.ifCond .ge 7) 3 := by decide +kernel
theorem d34_26 : D34 26 (.iconst 1) 1 := by decide +kernel
theorem d34_27 : D34 27 (.goto 4) 3 := by decide +kernel
theorem d34_31 : D34 31 (.ireturn) 1 := by decide +kernel
theorem d34_64 : D34 64 (.iconst 0) 1 := by decide +kernel
theorem d34_47 : D34 47 (.iconst 0) 1 := by decide +kernel
theorem d34_30 : D34 30 (.iconst 0) 1 := by decide +kernel
abbrev D13 (n : Nat) (i : Instr) (k : Nat) : Prop := decode method_4_code n = .ok (i, k)
theorem d13_0 : D13 0 (.iconst (-1)) 1 := by decide +kernel
theorem d13_1 : D13 1 (.istore 5) 2 := by decide +kernel
theorem d13_3 : D13 3 (.iconst 0) 1 := by decide +kernel
theorem d13_4 : D13 4 (.iload_n 3) 1 := by decide +kernel
theorem d13_5 : D13 5 (.if_icmp .ge 12) 3 := by decide +kernel
theorem d13_17 : D13 17 (.iconst 1) 1 := by decide +kernel
theorem d13_18 : D13 18 (.iload_n 3) 1 := by decide +kernel
theorem d13_19 : D13 19 (.if_icmp .ge 29) 3 := by decide +kernel
theorem d13_48 : D13 48 (.iconst 2) 1 := by decide +kernel
theorem d13_49 : D13 49 (.iload_n 3) 1 := by decide +kernel
theorem d13_50 : D13 50 (.if_icmp .ge 29) 3 := by decide +kernel
theorem d13_79 : D13 79 (.iload 5) 2 := by decide +kernel
theorem d13_81 : D13 81 (.ireturn) 1 := by decide +kernel
theorem d13_8 : D13 8 (.iconst 0) 1 := by decide +kernel
theorem d13_9 : D13 9 (.iload 4) 2 := by decide +kernel
theorem d13_11 : D13 11 (.if_icmp .eq 6) 3 := by decide +kernel
theorem d13_14 : D13 14 (.iconst 0) 1 := by decide +kernel
theorem d13_15 : D13 15 (.istore 5) 2 := by decide +kernel
theorem d13_22 : D13 22 (.iconst 1) 1 := by decide +kernel
theorem d13_23 : D13 23 (.iload 4) 2 := by decide +kernel
theorem d13_25 : D13 25 (.if_icmp .eq 23) 3 := by decide +kernel
theorem d13_28 : D13 28 (.iload 5) 2 := by decide +kernel
theorem d13_30 : D13 30 (.ifCond .lt 15) 3 := by decide +kernel
theorem d13_33 : D13 33 (.iload_n 0) 1 := by decide +kernel
theorem d13_34 : D13 34 (.aload_n 1) 1 := by decide +kernel
theorem d13_35 : D13 35 (.aload_n 2) 1 := by decide +kernel
theorem d13_36 : D13 36 (.iconst 1) 1 := by decide +kernel
theorem d13_37 : D13 37 (.iload 5) 2 := by decide +kernel
theorem d13_39 : D13 39 (.invokestatic 45) 3 := by decide +kernel
theorem d13_42 : D13 42 (.ifCond .eq 6) 3 := by decide +kernel
theorem d13_45 : D13 45 (.iconst 1) 1 := by decide +kernel
theorem d13_46 : D13 46 (.istore 5) 2 := by decide +kernel
theorem d13_53 : D13 53 (.iconst 2) 1 := by decide +kernel
theorem d13_54 : D13 54 (.iload 4) 2 := by decide +kernel
theorem d13_56 : D13 56 (.if_icmp .eq 23) 3 := by decide +kernel
theorem d13_59 : D13 59 (.iload 5) 2 := by decide +kernel
theorem d13_61 : D13 61 (.ifCond .lt 15) 3 := by decide +kernel
theorem d13_64 : D13 64 (.iload_n 0) 1 := by decide +kernel
theorem d13_65 : D13 65 (.aload_n 1) 1 := by decide +kernel
theorem d13_66 : D13 66 (.aload_n 2) 1 := by decide +kernel
theorem d13_67 : D13 67 (.iconst 2) 1 := by decide +kernel
theorem d13_68 : D13 68 (.iload 5) 2 := by decide +kernel
theorem d13_70 : D13 70 (.invokestatic 45) 3 := by decide +kernel
theorem d13_73 : D13 73 (.ifCond .eq 6) 3 := by decide +kernel
theorem d13_76 : D13 76 (.iconst 2) 1 := by decide +kernel
theorem d13_77 : D13 77 (.istore 5) 2 := by decide +kernel
theorem pd_0 : parseMethodDescriptor "()V" = some ⟨[], none⟩ := by decide +kernel
theorem pd_1 : parseMethodDescriptor "()Ljava/lang/String;" = some ⟨[], some (.object "java/lang/String")⟩ := by decide +kernel
theorem pd_2 : parseMethodDescriptor "()Ljava/lang/Long;" = some ⟨[], some (.object "java/lang/Long")⟩ := by decide +kernel
theorem pd_3 : parseMethodDescriptor "()J" = some ⟨[], some .long⟩ := by decide +kernel
theorem pd_4 : parseMethodDescriptor "()Ljava/time/LocalDate;" = some ⟨[], some (.object "java/time/LocalDate")⟩ := by decide +kernel
theorem pd_5 : parseMethodDescriptor "(Lcom/example/tenorbook/tenorbook/engine/Ranking$Block;ILcom/example/tenorbook/tenorbook/engine/Order;)Z" = some ⟨[(.object "com/example/tenorbook/tenorbook/engine/Ranking$Block"), .int, (.object "com/example/tenorbook/tenorbook/engine/Order")], some .boolean⟩ := by decide +kernel
theorem pd_6 : parseMethodDescriptor "(II)V" = some ⟨[.int, .int], none⟩ := by decide +kernel
theorem pd_7 : parseMethodDescriptor "(III)V" = some ⟨[.int, .int, .int], none⟩ := by decide +kernel
theorem pd_8 : parseMethodDescriptor "(II)Lcom/example/tenorbook/tenorbook/engine/Order;" = some ⟨[.int, .int], some (.object "com/example/tenorbook/tenorbook/engine/Order")⟩ := by decide +kernel
theorem pd_9 : parseMethodDescriptor "(I)Lcom/example/tenorbook/tenorbook/engine/Order;" = some ⟨[.int], some (.object "com/example/tenorbook/tenorbook/engine/Order")⟩ := by decide +kernel
theorem pd_10 : parseMethodDescriptor "(I)V" = some ⟨[.int], none⟩ := by decide +kernel
theorem pd_11 : parseMethodDescriptor "(Lcom/example/tenorbook/tenorbook/engine/Order;)I" = some ⟨[(.object "com/example/tenorbook/tenorbook/engine/Order")], some .int⟩ := by decide +kernel
theorem pd_12 : parseMethodDescriptor "(Lcom/example/tenorbook/tenorbook/engine/Ranking$Block;Lcom/example/tenorbook/tenorbook/engine/Order;)I" = some ⟨[(.object "com/example/tenorbook/tenorbook/engine/Ranking$Block"), (.object "com/example/tenorbook/tenorbook/engine/Order")], some .int⟩ := by decide +kernel
theorem pd_13 : parseMethodDescriptor "(ILcom/example/tenorbook/tenorbook/engine/Order;)V" = some ⟨[.int, (.object "com/example/tenorbook/tenorbook/engine/Order")], none⟩ := by decide +kernel
theorem pd_14 : parseMethodDescriptor "(Z[J[JII)Z" = some ⟨[.boolean, (.array .long), (.array .long), .int, .int], some .boolean⟩ := by decide +kernel
theorem pd_15 : parseMethodDescriptor "(J)Ljava/lang/Long;" = some ⟨[.long], some (.object "java/lang/Long")⟩ := by decide +kernel
theorem pd_16 : parseMethodDescriptor "(Ljava/lang/String;Ljava/lang/String;Ljava/lang/String;Ljava/lang/String;Ljava/lang/Long;Ljava/math/BigDecimal;Ljava/lang/String;Ljava/time/LocalDate;)V" = some ⟨[(.object "java/lang/String"), (.object "java/lang/String"), (.object "java/lang/String"), (.object "java/lang/String"), (.object "java/lang/Long"), (.object "java/math/BigDecimal"), (.object "java/lang/String"), (.object "java/time/LocalDate")], none⟩ := by decide +kernel
theorem pd_17 : parseMethodDescriptor "(Lcom/example/tenorbook/tenorbook/engine/OrderBook;JLcom/example/tenorbook/tenorbook/model/Side;JLcom/example/tenorbook/tenorbook/model/Command$EnterOrder;)V" = some ⟨[(.object "com/example/tenorbook/tenorbook/engine/OrderBook"), .long, (.object "com/example/tenorbook/tenorbook/model/Side"), .long, (.object "com/example/tenorbook/tenorbook/model/Command$EnterOrder")], none⟩ := by decide +kernel
theorem pd_18 : parseMethodDescriptor "(Z)V" = some ⟨[.boolean], none⟩ := by decide +kernel
theorem pd_19 : parseMethodDescriptor "(Z[J[JII)I" = some ⟨[.boolean, (.array .long), (.array .long), .int, .int], some .int⟩ := by decide +kernel
theorem pd_20 : parseMethodDescriptor "()Lcom/example/tenorbook/tenorbook/engine/Order;" = some ⟨[], some (.object "com/example/tenorbook/tenorbook/engine/Order")⟩ := by decide +kernel
theorem pd_21 : parseMethodDescriptor "(Lcom/example/tenorbook/tenorbook/engine/Order;)V" = some ⟨[(.object "com/example/tenorbook/tenorbook/engine/Order")], none⟩ := by decide +kernel
theorem pn_3 : plainName "java/lang/Record" = true := by first | (simp [plainName, overriddenIn]; done) | decide +kernel
theorem pn_1 : plainName "java/lang/Long" = true := by first | (simp [plainName, overriddenIn]; done) | decide +kernel
theorem pn_2 : plainName "com/example/tenorbook/tenorbook/model/Command$EnterOrder" = true := by first | (simp [plainName, overriddenIn]; done) | decide +kernel
theorem pn_9 : plainName "com/example/tenorbook/tenorbook/model/Command$EnterOrder" = true := by first | (simp [plainName, overriddenIn]; done) | decide +kernel
theorem pn_6 : plainName "com/example/tenorbook/tenorbook/model/Command$EnterOrder" = true := by first | (simp [plainName, overriddenIn]; done) | decide +kernel
theorem pn_10 : plainName "com/example/tenorbook/tenorbook/model/Command$EnterOrder" = true := by first | (simp [plainName, overriddenIn]; done) | decide +kernel
theorem pn_11 : plainName "com/example/tenorbook/tenorbook/model/Command$EnterOrder" = true := by first | (simp [plainName, overriddenIn]; done) | decide +kernel
theorem pn_7 : plainName "com/example/tenorbook/tenorbook/model/Command$EnterOrder" = true := by first | (simp [plainName, overriddenIn]; done) | decide +kernel
theorem pn_8 : plainName "java/lang/Long" = true := by first | (simp [plainName, overriddenIn]; done) | decide +kernel
theorem pn_5 : plainName "com/example/tenorbook/tenorbook/engine/Order" = true := by first | (simp [plainName, overriddenIn]; done) | decide +kernel
theorem pn_23 : plainName "com/example/tenorbook/tenorbook/engine/Order" = true := by first | (simp [plainName, overriddenIn]; done) | decide +kernel
theorem pn_24 : plainName "com/example/tenorbook/tenorbook/engine/Order" = true := by first | (simp [plainName, overriddenIn]; done) | decide +kernel
theorem pn_12 : plainName "com/example/tenorbook/tenorbook/engine/Ranking" = true := by first | (simp [plainName, overriddenIn]; done) | decide +kernel
theorem pn_17 : plainName "com/example/tenorbook/tenorbook/engine/Ranking$Block" = true := by first | (simp [plainName, overriddenIn]; done) | decide +kernel
theorem pn_16 : plainName "com/example/tenorbook/tenorbook/engine/Ranking" = true := by first | (simp [plainName, overriddenIn]; done) | decide +kernel
theorem pn_18 : plainName "com/example/tenorbook/tenorbook/engine/Ranking" = true := by first | (simp [plainName, overriddenIn]; done) | decide +kernel
theorem pn_33 : plainName "com/example/tenorbook/tenorbook/engine/Ranking" = true := by first | (simp [plainName, overriddenIn]; done) | decide +kernel
theorem pn_19 : plainName "com/example/tenorbook/tenorbook/engine/Ranking" = true := by first | (simp [plainName, overriddenIn]; done) | decide +kernel
theorem pn_35 : plainName "com/example/tenorbook/tenorbook/engine/Ranking$Block" = true := by first | (simp [plainName, overriddenIn]; done) | decide +kernel
theorem pn_21 : plainName "com/example/tenorbook/tenorbook/engine/Ranking$Block" = true := by first | (simp [plainName, overriddenIn]; done) | decide +kernel
theorem pn_20 : plainName "com/example/tenorbook/tenorbook/engine/Ranking$Block" = true := by first | (simp [plainName, overriddenIn]; done) | decide +kernel
theorem pn_31 : plainName "com/example/tenorbook/tenorbook/engine/Ranking$Block" = true := by first | (simp [plainName, overriddenIn]; done) | decide +kernel
theorem pn_22 : plainName "com/example/tenorbook/tenorbook/engine/Ranking$Block" = true := by first | (simp [plainName, overriddenIn]; done) | decide +kernel
theorem pn_26 : plainName "com/example/tenorbook/tenorbook/engine/Ranking" = true := by first | (simp [plainName, overriddenIn]; done) | decide +kernel
theorem pn_27 : plainName "com/example/tenorbook/tenorbook/engine/Ranking" = true := by first | (simp [plainName, overriddenIn]; done) | decide +kernel
theorem pn_25 : plainName "com/example/tenorbook/tenorbook/engine/Ranking" = true := by first | (simp [plainName, overriddenIn]; done) | decide +kernel
theorem pn_30 : plainName "com/example/tenorbook/tenorbook/engine/Ranking" = true := by first | (simp [plainName, overriddenIn]; done) | decide +kernel
theorem pn_29 : plainName "com/example/tenorbook/tenorbook/engine/Ranking" = true := by first | (simp [plainName, overriddenIn]; done) | decide +kernel
theorem pn_32 : plainName "com/example/tenorbook/tenorbook/engine/Ranking" = true := by first | (simp [plainName, overriddenIn]; done) | decide +kernel
theorem pn_15 : plainName "com/example/tenorbook/tenorbook/engine/Ranking" = true := by first | (simp [plainName, overriddenIn]; done) | decide +kernel
theorem pn_28 : plainName "com/example/tenorbook/tenorbook/engine/Ranking" = true := by first | (simp [plainName, overriddenIn]; done) | decide +kernel
theorem pn_14 : plainName "com/example/tenorbook/tenorbook/engine/Ranking" = true := by first | (simp [plainName, overriddenIn]; done) | decide +kernel
theorem pn_34 : plainName "com/example/tenorbook/tenorbook/engine/RankingFirstPinLaw" = true := by first | (simp [plainName, overriddenIn]; done) | decide +kernel
theorem pn_13 : plainName "com/example/tenorbook/tenorbook/engine/RankingFirstPinLaw" = true := by first | (simp [plainName, overriddenIn]; done) | decide +kernel
theorem pn_0 : plainName "com/example/tenorbook/tenorbook/engine/RankingFirstPinLaw" = true := by first | (simp [plainName, overriddenIn]; done) | decide +kernel
theorem ef_rm3 (m : MethodId) (x0 : Nat) : entryFrame m #[(.ref x0)] 1 = mkF m 0 #[.val (.ref x0)] [] := by first | (simp [entryFrame, mkF, argsToLocals, Value.category]; done) | rfl
theorem ef_rm1 (m : MethodId)  : entryFrame m #[(.long (1 : Int64))] 3 = mkF m 0 #[.val (.long (1 : Int64)), .second, .unset] [] := by first | (simp [entryFrame, mkF, argsToLocals, Value.category]; done) | rfl
theorem ef_rm2 (m : MethodId) (x0 : Nat) (x5 : Nat) : entryFrame m #[(.ref x0), .null, .null, .null, .null, (.ref x5), .null, .null, .null] 9 = mkF m 0 #[.val (.ref x0), .val .null, .val .null, .val .null, .val .null, .val (.ref x5), .val .null, .val .null, .val .null] [] := by first | (simp [entryFrame, mkF, argsToLocals, Value.category]; done) | rfl
theorem ef_rm5 (m : MethodId) (x0 : Nat) (x2 : Int64) (x4 : Int64) (x5 : Nat) : entryFrame m #[(.ref x0), .null, (.long x2), .null, (.long x4), (.ref x5)] 8 = mkF m 0 #[.val (.ref x0), .val .null, .val (.long x2), .second, .val .null, .val (.long x4), .second, .val (.ref x5)] [] := by first | (simp [entryFrame, mkF, argsToLocals, Value.category]; done) | rfl
theorem ef_rm12 (m : MethodId) (x0 : Nat) (x1 : Int32) : entryFrame m #[(.ref x0), (.int x1)] 2 = mkF m 0 #[.val (.ref x0), .val (.int x1)] [] := by first | (simp [entryFrame, mkF, argsToLocals, Value.category]; done) | rfl
theorem ef_rm16 (m : MethodId) (x0 : Nat) : entryFrame m #[(.ref x0), (.int (0 : Int32))] 3 = mkF m 0 #[.val (.ref x0), .val (.int (0 : Int32)), .unset] [] := by first | (simp [entryFrame, mkF, argsToLocals, Value.category]; done) | rfl
theorem ef_rm18 (m : MethodId) (x0 : Nat) (x1 : Nat) : entryFrame m #[(.ref x0), (.ref x1)] 5 = mkF m 0 #[.val (.ref x0), .val (.ref x1), .unset, .unset, .unset] [] := by first | (simp [entryFrame, mkF, argsToLocals, Value.category]; done) | rfl
theorem ef_bef_0_T (m : MethodId) (x0 : Nat) (x1 : Nat) (x3 : Nat) : entryFrame m #[(.ref x0), (.ref x1), (.int (0 : Int32)), (.ref x3)] 6 = mkF m 0 #[.val (.ref x0), .val (.ref x1), .val (.int (0 : Int32)), .val (.ref x3), .unset, .unset] [] := by first | (simp [entryFrame, mkF, argsToLocals, Value.category]; done) | rfl
theorem ef_bef_1_T (m : MethodId) (x0 : Nat) (x1 : Nat) (x3 : Nat) : entryFrame m #[(.ref x0), (.ref x1), (.int (1 : Int32)), (.ref x3)] 6 = mkF m 0 #[.val (.ref x0), .val (.ref x1), .val (.int (1 : Int32)), .val (.ref x3), .unset, .unset] [] := by first | (simp [entryFrame, mkF, argsToLocals, Value.category]; done) | rfl
theorem ef_pin_0_0 (m : MethodId) (x0 : Nat) (x1 : Nat) (x2 : Nat) : entryFrame m #[(.ref x0), (.ref x1), (.ref x2)] 6 = mkF m 0 #[.val (.ref x0), .val (.ref x1), .val (.ref x2), .unset, .unset, .unset] [] := by first | (simp [entryFrame, mkF, argsToLocals, Value.category]; done) | rfl
theorem ef_mv_0_1 (m : MethodId) (x0 : Nat) : entryFrame m #[(.ref x0), (.int (0 : Int32)), (.int (1 : Int32))] 3 = mkF m 0 #[.val (.ref x0), .val (.int (0 : Int32)), .val (.int (1 : Int32))] [] := by first | (simp [entryFrame, mkF, argsToLocals, Value.category]; done) | rfl
theorem ef_mv_1_2 (m : MethodId) (x0 : Nat) : entryFrame m #[(.ref x0), (.int (1 : Int32)), (.int (2 : Int32))] 3 = mkF m 0 #[.val (.ref x0), .val (.int (1 : Int32)), .val (.int (2 : Int32))] [] := by first | (simp [entryFrame, mkF, argsToLocals, Value.category]; done) | rfl
theorem ef_mv_1_0 (m : MethodId) (x0 : Nat) : entryFrame m #[(.ref x0), (.int (1 : Int32)), (.int (0 : Int32))] 3 = mkF m 0 #[.val (.ref x0), .val (.int (1 : Int32)), .val (.int (0 : Int32))] [] := by first | (simp [entryFrame, mkF, argsToLocals, Value.category]; done) | rfl
theorem ef_mv_2_1 (m : MethodId) (x0 : Nat) : entryFrame m #[(.ref x0), (.int (2 : Int32)), (.int (1 : Int32))] 3 = mkF m 0 #[.val (.ref x0), .val (.int (2 : Int32)), .val (.int (1 : Int32))] [] := by first | (simp [entryFrame, mkF, argsToLocals, Value.category]; done) | rfl
theorem ef_sh_0_0_p (m : MethodId) (x0 : Nat) : entryFrame m #[(.ref x0), (.int (0 : Int32)), (.int (0 : Int32)), (.int (1 : Int32))] 6 = mkF m 0 #[.val (.ref x0), .val (.int (0 : Int32)), .val (.int (0 : Int32)), .val (.int (1 : Int32)), .unset, .unset] [] := by first | (simp [entryFrame, mkF, argsToLocals, Value.category]; done) | rfl
theorem ef_sh_0_1_p (m : MethodId) (x0 : Nat) : entryFrame m #[(.ref x0), (.int (0 : Int32)), (.int (1 : Int32)), (.int (1 : Int32))] 6 = mkF m 0 #[.val (.ref x0), .val (.int (0 : Int32)), .val (.int (1 : Int32)), .val (.int (1 : Int32)), .unset, .unset] [] := by first | (simp [entryFrame, mkF, argsToLocals, Value.category]; done) | rfl
theorem ef_sh_1_1_p (m : MethodId) (x0 : Nat) : entryFrame m #[(.ref x0), (.int (1 : Int32)), (.int (1 : Int32)), (.int (1 : Int32))] 6 = mkF m 0 #[.val (.ref x0), .val (.int (1 : Int32)), .val (.int (1 : Int32)), .val (.int (1 : Int32)), .unset, .unset] [] := by first | (simp [entryFrame, mkF, argsToLocals, Value.category]; done) | rfl
theorem ef_sh_0_2_p (m : MethodId) (x0 : Nat) : entryFrame m #[(.ref x0), (.int (0 : Int32)), (.int (2 : Int32)), (.int (1 : Int32))] 6 = mkF m 0 #[.val (.ref x0), .val (.int (0 : Int32)), .val (.int (2 : Int32)), .val (.int (1 : Int32)), .unset, .unset] [] := by first | (simp [entryFrame, mkF, argsToLocals, Value.category]; done) | rfl
theorem ef_sh_1_2_p (m : MethodId) (x0 : Nat) : entryFrame m #[(.ref x0), (.int (1 : Int32)), (.int (2 : Int32)), (.int (1 : Int32))] 6 = mkF m 0 #[.val (.ref x0), .val (.int (1 : Int32)), .val (.int (2 : Int32)), .val (.int (1 : Int32)), .unset, .unset] [] := by first | (simp [entryFrame, mkF, argsToLocals, Value.category]; done) | rfl
theorem ef_sh_2_2_p (m : MethodId) (x0 : Nat) : entryFrame m #[(.ref x0), (.int (2 : Int32)), (.int (2 : Int32)), (.int (1 : Int32))] 6 = mkF m 0 #[.val (.ref x0), .val (.int (2 : Int32)), .val (.int (2 : Int32)), .val (.int (1 : Int32)), .unset, .unset] [] := by first | (simp [entryFrame, mkF, argsToLocals, Value.category]; done) | rfl
theorem ef_sh_1_1_m (m : MethodId) (x0 : Nat) : entryFrame m #[(.ref x0), (.int (1 : Int32)), (.int (1 : Int32)), (.int (-1 : Int32))] 6 = mkF m 0 #[.val (.ref x0), .val (.int (1 : Int32)), .val (.int (1 : Int32)), .val (.int (-1 : Int32)), .unset, .unset] [] := by first | (simp [entryFrame, mkF, argsToLocals, Value.category]; done) | rfl
theorem ef_sh_1_2_m (m : MethodId) (x0 : Nat) : entryFrame m #[(.ref x0), (.int (1 : Int32)), (.int (2 : Int32)), (.int (-1 : Int32))] 6 = mkF m 0 #[.val (.ref x0), .val (.int (1 : Int32)), .val (.int (2 : Int32)), .val (.int (-1 : Int32)), .unset, .unset] [] := by first | (simp [entryFrame, mkF, argsToLocals, Value.category]; done) | rfl
theorem ef_sh_1_3_m (m : MethodId) (x0 : Nat) : entryFrame m #[(.ref x0), (.int (1 : Int32)), (.int (3 : Int32)), (.int (-1 : Int32))] 6 = mkF m 0 #[.val (.ref x0), .val (.int (1 : Int32)), .val (.int (3 : Int32)), .val (.int (-1 : Int32)), .unset, .unset] [] := by first | (simp [entryFrame, mkF, argsToLocals, Value.category]; done) | rfl
theorem ef_open_0_0 (m : MethodId) (x0 : Nat) : entryFrame m #[(.ref x0), (.int (0 : Int32))] 2 = mkF m 0 #[.val (.ref x0), .val (.int (0 : Int32))] [] := by first | (simp [entryFrame, mkF, argsToLocals, Value.category]; done) | rfl
theorem ef_open_1_1 (m : MethodId) (x0 : Nat) : entryFrame m #[(.ref x0), (.int (1 : Int32))] 2 = mkF m 0 #[.val (.ref x0), .val (.int (1 : Int32))] [] := by first | (simp [entryFrame, mkF, argsToLocals, Value.category]; done) | rfl
theorem ef_open_2_2 (m : MethodId) (x0 : Nat) : entryFrame m #[(.ref x0), (.int (2 : Int32))] 2 = mkF m 0 #[.val (.ref x0), .val (.int (2 : Int32))] [] := by first | (simp [entryFrame, mkF, argsToLocals, Value.category]; done) | rfl
theorem ef_put_0 (m : MethodId) (x0 : Nat) (x2 : Nat) : entryFrame m #[(.ref x0), (.int (0 : Int32)), (.ref x2)] 3 = mkF m 0 #[.val (.ref x0), .val (.int (0 : Int32)), .val (.ref x2)] [] := by first | (simp [entryFrame, mkF, argsToLocals, Value.category]; done) | rfl
theorem ef_put_1 (m : MethodId) (x0 : Nat) (x2 : Nat) : entryFrame m #[(.ref x0), (.int (1 : Int32)), (.ref x2)] 3 = mkF m 0 #[.val (.ref x0), .val (.int (1 : Int32)), .val (.ref x2)] [] := by first | (simp [entryFrame, mkF, argsToLocals, Value.category]; done) | rfl
theorem ef_put_2 (m : MethodId) (x0 : Nat) (x2 : Nat) : entryFrame m #[(.ref x0), (.int (2 : Int32)), (.ref x2)] 3 = mkF m 0 #[.val (.ref x0), .val (.int (2 : Int32)), .val (.ref x2)] [] := by first | (simp [entryFrame, mkF, argsToLocals, Value.category]; done) | rfl
theorem ef_obf_0 (m : MethodId) (x0 : Nat) : entryFrame m #[(.ref x0), (.int (0 : Int32)), (.int (0 : Int32))] 5 = mkF m 0 #[.val (.ref x0), .val (.int (0 : Int32)), .val (.int (0 : Int32)), .unset, .unset] [] := by first | (simp [entryFrame, mkF, argsToLocals, Value.category]; done) | rfl
theorem ef_obf_1 (m : MethodId) (x0 : Nat) : entryFrame m #[(.ref x0), (.int (0 : Int32)), (.int (1 : Int32))] 5 = mkF m 0 #[.val (.ref x0), .val (.int (0 : Int32)), .val (.int (1 : Int32)), .unset, .unset] [] := by first | (simp [entryFrame, mkF, argsToLocals, Value.category]; done) | rfl
theorem ef_obf_2 (m : MethodId) (x0 : Nat) : entryFrame m #[(.ref x0), (.int (0 : Int32)), (.int (2 : Int32))] 5 = mkF m 0 #[.val (.ref x0), .val (.int (0 : Int32)), .val (.int (2 : Int32)), .unset, .unset] [] := by first | (simp [entryFrame, mkF, argsToLocals, Value.category]; done) | rfl
theorem ef_pof_1 (m : MethodId) (x0 : Nat) (x1 : Nat) (x2 : Nat) : entryFrame m #[(.ref x0), (.ref x1), (.ref x2)] 4 = mkF m 0 #[.val (.ref x0), .val (.ref x1), .val (.ref x2), .unset] [] := by first | (simp [entryFrame, mkF, argsToLocals, Value.category]; done) | rfl
theorem ef_bt_10T (m : MethodId) (x0 : Int32) (x1 : Nat) (x2 : Nat) : entryFrame m #[(.int x0), (.ref x1), (.ref x2), (.int (1 : Int32)), (.int (0 : Int32))] 5 = mkF m 0 #[.val (.int x0), .val (.ref x1), .val (.ref x2), .val (.int (1 : Int32)), .val (.int (0 : Int32))] [] := by first | (simp [entryFrame, mkF, argsToLocals, Value.category]; done) | rfl
theorem ef_bt_20T (m : MethodId) (x0 : Int32) (x1 : Nat) (x2 : Nat) : entryFrame m #[(.int x0), (.ref x1), (.ref x2), (.int (2 : Int32)), (.int (0 : Int32))] 5 = mkF m 0 #[.val (.int x0), .val (.ref x1), .val (.ref x2), .val (.int (2 : Int32)), .val (.int (0 : Int32))] [] := by first | (simp [entryFrame, mkF, argsToLocals, Value.category]; done) | rfl
theorem ef_bt_21T (m : MethodId) (x0 : Int32) (x1 : Nat) (x2 : Nat) : entryFrame m #[(.int x0), (.ref x1), (.ref x2), (.int (2 : Int32)), (.int (1 : Int32))] 5 = mkF m 0 #[.val (.int x0), .val (.ref x1), .val (.ref x2), .val (.int (2 : Int32)), .val (.int (1 : Int32))] [] := by first | (simp [entryFrame, mkF, argsToLocals, Value.category]; done) | rfl
theorem ef_pick_0_m_ (m : MethodId) (x0 : Int32) (x1 : Nat) (x2 : Nat) : entryFrame m #[(.int x0), (.ref x1), (.ref x2), (.int (0 : Int32)), (.int (-1 : Int32))] 6 = mkF m 0 #[.val (.int x0), .val (.ref x1), .val (.ref x2), .val (.int (0 : Int32)), .val (.int (-1 : Int32)), .unset] [] := by first | (simp [entryFrame, mkF, argsToLocals, Value.category]; done) | rfl
theorem ef_pick_1_m_ (m : MethodId) (x0 : Int32) (x1 : Nat) (x2 : Nat) : entryFrame m #[(.int x0), (.ref x1), (.ref x2), (.int (1 : Int32)), (.int (-1 : Int32))] 6 = mkF m 0 #[.val (.int x0), .val (.ref x1), .val (.ref x2), .val (.int (1 : Int32)), .val (.int (-1 : Int32)), .unset] [] := by first | (simp [entryFrame, mkF, argsToLocals, Value.category]; done) | rfl
theorem ef_pick_1_0_ (m : MethodId) (x0 : Int32) (x1 : Nat) (x2 : Nat) : entryFrame m #[(.int x0), (.ref x1), (.ref x2), (.int (1 : Int32)), (.int (0 : Int32))] 6 = mkF m 0 #[.val (.int x0), .val (.ref x1), .val (.ref x2), .val (.int (1 : Int32)), .val (.int (0 : Int32)), .unset] [] := by first | (simp [entryFrame, mkF, argsToLocals, Value.category]; done) | rfl
theorem ef_pick_2_m_F (m : MethodId) (x0 : Int32) (x1 : Nat) (x2 : Nat) : entryFrame m #[(.int x0), (.ref x1), (.ref x2), (.int (2 : Int32)), (.int (-1 : Int32))] 6 = mkF m 0 #[.val (.int x0), .val (.ref x1), .val (.ref x2), .val (.int (2 : Int32)), .val (.int (-1 : Int32)), .unset] [] := by first | (simp [entryFrame, mkF, argsToLocals, Value.category]; done) | rfl
theorem ef_pick_2_0_ (m : MethodId) (x0 : Int32) (x1 : Nat) (x2 : Nat) : entryFrame m #[(.int x0), (.ref x1), (.ref x2), (.int (2 : Int32)), (.int (0 : Int32))] 6 = mkF m 0 #[.val (.int x0), .val (.ref x1), .val (.ref x2), .val (.int (2 : Int32)), .val (.int (0 : Int32)), .unset] [] := by first | (simp [entryFrame, mkF, argsToLocals, Value.category]; done) | rfl
theorem ef_pick_2_1_ (m : MethodId) (x0 : Int32) (x1 : Nat) (x2 : Nat) : entryFrame m #[(.int x0), (.ref x1), (.ref x2), (.int (2 : Int32)), (.int (1 : Int32))] 6 = mkF m 0 #[.val (.int x0), .val (.ref x1), .val (.ref x2), .val (.int (2 : Int32)), .val (.int (1 : Int32)), .unset] [] := by first | (simp [entryFrame, mkF, argsToLocals, Value.category]; done) | rfl
theorem ef_pick_3_m_FF (m : MethodId) (x0 : Int32) (x1 : Nat) (x2 : Nat) : entryFrame m #[(.int x0), (.ref x1), (.ref x2), (.int (3 : Int32)), (.int (-1 : Int32))] 6 = mkF m 0 #[.val (.int x0), .val (.ref x1), .val (.ref x2), .val (.int (3 : Int32)), .val (.int (-1 : Int32)), .unset] [] := by first | (simp [entryFrame, mkF, argsToLocals, Value.category]; done) | rfl
theorem ef_pick_3_0_F (m : MethodId) (x0 : Int32) (x1 : Nat) (x2 : Nat) : entryFrame m #[(.int x0), (.ref x1), (.ref x2), (.int (3 : Int32)), (.int (0 : Int32))] 6 = mkF m 0 #[.val (.int x0), .val (.ref x1), .val (.ref x2), .val (.int (3 : Int32)), .val (.int (0 : Int32)), .unset] [] := by first | (simp [entryFrame, mkF, argsToLocals, Value.category]; done) | rfl
theorem ef_pick_3_1_F (m : MethodId) (x0 : Int32) (x1 : Nat) (x2 : Nat) : entryFrame m #[(.int x0), (.ref x1), (.ref x2), (.int (3 : Int32)), (.int (1 : Int32))] 6 = mkF m 0 #[.val (.int x0), .val (.ref x1), .val (.ref x2), .val (.int (3 : Int32)), .val (.int (1 : Int32)), .unset] [] := by first | (simp [entryFrame, mkF, argsToLocals, Value.category]; done) | rfl
theorem ef_pick_3_2_F (m : MethodId) (x0 : Int32) (x1 : Nat) (x2 : Nat) : entryFrame m #[(.int x0), (.ref x1), (.ref x2), (.int (3 : Int32)), (.int (2 : Int32))] 6 = mkF m 0 #[.val (.int x0), .val (.ref x1), .val (.ref x2), .val (.int (3 : Int32)), .val (.int (2 : Int32)), .unset] [] := by first | (simp [entryFrame, mkF, argsToLocals, Value.category]; done) | rfl
theorem ef_rm0 (m : MethodId) (x0 : Int32) (x1 : Int64) (x2 : Int64) (x3 : Int64) (x4 : Int64) : entryFrame m #[(.int x0), (.long x1), (.long x2), (.long x3), (.long x4)] maxLocals = mkF m 0 #[.val (.int x0), .val (.long x1), .second, .val (.long x2), .second, .val (.long x3), .second, .val (.long x4), .second, .unset, .unset, .unset, .unset, .unset, .unset, .unset, .unset, .unset, .unset, .unset, .unset, .unset, .unset, .unset, .unset] [] := by first | (simp [entryFrame, mkF, argsToLocals, Value.category, maxLocals]; done) | rfl
abbrev y3 : MethodName := (⟨"java/lang/Record", "<init>", "()V"⟩ : MethodName)
abbrev y1 : MethodName := (⟨"java/lang/Long", "valueOf", "(J)Ljava/lang/Long;"⟩ : MethodName)
abbrev y2 : MethodName := (⟨"com/example/tenorbook/tenorbook/model/Command$EnterOrder", "<init>", "(Ljava/lang/String;Ljava/lang/String;Ljava/lang/String;Ljava/lang/String;Ljava/lang/Long;Ljava/math/BigDecimal;Ljava/lang/String;Ljava/time/LocalDate;)V"⟩ : MethodName)
abbrev y9 : MethodName := (⟨"com/example/tenorbook/tenorbook/model/Command$EnterOrder", "time", "()Ljava/lang/String;"⟩ : MethodName)
abbrev y6 : MethodName := (⟨"com/example/tenorbook/tenorbook/model/Command$EnterOrder", "participant", "()Ljava/lang/String;"⟩ : MethodName)
abbrev y10 : MethodName := (⟨"com/example/tenorbook/tenorbook/model/Command$EnterOrder", "ref", "()Ljava/lang/String;"⟩ : MethodName)
abbrev y11 : MethodName := (⟨"com/example/tenorbook/tenorbook/model/Command$EnterOrder", "expiry", "()Ljava/time/LocalDate;"⟩ : MethodName)
abbrev y7 : MethodName := (⟨"com/example/tenorbook/tenorbook/model/Command$EnterOrder", "size", "()Ljava/lang/Long;"⟩ : MethodName)
abbrev y8 : MethodName := (⟨"java/lang/Long", "longValue", "()J"⟩ : MethodName)
abbrev y5 : MethodName := (⟨"com/example/tenorbook/tenorbook/engine/Order", "<init>", "(Lcom/example/tenorbook/tenorbook/engine/OrderBook;JLcom/example/tenorbook/tenorbook/model/Side;JLcom/example/tenorbook/tenorbook/model/Command$EnterOrder;)V"⟩ : MethodName)
abbrev y23 : MethodName := (⟨"com/example/tenorbook/tenorbook/engine/Order", "ticks", "()J"⟩ : MethodName)
abbrev y24 : MethodName := (⟨"com/example/tenorbook/tenorbook/engine/Order", "number", "()J"⟩ : MethodName)
abbrev y12 : MethodName := (⟨"com/example/tenorbook/tenorbook/engine/Ranking", "<init>", "(Z)V"⟩ : MethodName)
abbrev y17 : MethodName := (⟨"com/example/tenorbook/tenorbook/engine/Ranking$Block", "<init>", "()V"⟩ : MethodName)
abbrev y16 : MethodName := (⟨"com/example/tenorbook/tenorbook/engine/Ranking", "insertBlock", "(I)V"⟩ : MethodName)
abbrev y18 : MethodName := (⟨"com/example/tenorbook/tenorbook/engine/Ranking", "blockOf", "(Lcom/example/tenorbook/tenorbook/engine/Order;)I"⟩ : MethodName)
abbrev y33 : MethodName := (⟨"com/example/tenorbook/tenorbook/engine/Ranking", "before", "(Lcom/example/tenorbook/tenorbook/engine/Ranking$Block;ILcom/example/tenorbook/tenorbook/engine/Order;)Z"⟩ : MethodName)
abbrev y19 : MethodName := (⟨"com/example/tenorbook/tenorbook/engine/Ranking", "placeIn", "(Lcom/example/tenorbook/tenorbook/engine/Ranking$Block;Lcom/example/tenorbook/tenorbook/engine/Order;)I"⟩ : MethodName)
abbrev y35 : MethodName := (⟨"com/example/tenorbook/tenorbook/engine/Ranking$Block", "move", "(II)V"⟩ : MethodName)
abbrev y21 : MethodName := (⟨"com/example/tenorbook/tenorbook/engine/Ranking$Block", "shift", "(III)V"⟩ : MethodName)
abbrev y20 : MethodName := (⟨"com/example/tenorbook/tenorbook/engine/Ranking$Block", "open", "(I)V"⟩ : MethodName)
abbrev y31 : MethodName := (⟨"com/example/tenorbook/tenorbook/engine/Ranking$Block", "close", "(I)V"⟩ : MethodName)
abbrev y22 : MethodName := (⟨"com/example/tenorbook/tenorbook/engine/Ranking$Block", "put", "(ILcom/example/tenorbook/tenorbook/engine/Order;)V"⟩ : MethodName)
abbrev y26 : MethodName := (⟨"com/example/tenorbook/tenorbook/engine/Ranking", "orderBefore", "(II)Lcom/example/tenorbook/tenorbook/engine/Order;"⟩ : MethodName)
abbrev y27 : MethodName := (⟨"com/example/tenorbook/tenorbook/engine/Ranking", "firstOf", "(I)Lcom/example/tenorbook/tenorbook/engine/Order;"⟩ : MethodName)
abbrev y25 : MethodName := (⟨"com/example/tenorbook/tenorbook/engine/Ranking", "link", "(II)V"⟩ : MethodName)
abbrev y30 : MethodName := (⟨"com/example/tenorbook/tenorbook/engine/Ranking", "unlink", "(II)V"⟩ : MethodName)
abbrev y29 : MethodName := (⟨"com/example/tenorbook/tenorbook/engine/Ranking", "placeOf", "(Lcom/example/tenorbook/tenorbook/engine/Ranking$Block;Lcom/example/tenorbook/tenorbook/engine/Order;)I"⟩ : MethodName)
abbrev y32 : MethodName := (⟨"com/example/tenorbook/tenorbook/engine/Ranking", "removeBlock", "(I)V"⟩ : MethodName)
abbrev y15 : MethodName := (⟨"com/example/tenorbook/tenorbook/engine/Ranking", "add", "(Lcom/example/tenorbook/tenorbook/engine/Order;)V"⟩ : MethodName)
abbrev y28 : MethodName := (⟨"com/example/tenorbook/tenorbook/engine/Ranking", "remove", "(Lcom/example/tenorbook/tenorbook/engine/Order;)V"⟩ : MethodName)
abbrev y14 : MethodName := (⟨"com/example/tenorbook/tenorbook/engine/Ranking", "first", "()Lcom/example/tenorbook/tenorbook/engine/Order;"⟩ : MethodName)
abbrev y34 : MethodName := (⟨"com/example/tenorbook/tenorbook/engine/RankingFirstPinLaw", "better", "(Z[J[JII)Z"⟩ : MethodName)
abbrev y13 : MethodName := (⟨"com/example/tenorbook/tenorbook/engine/RankingFirstPinLaw", "pick", "(Z[J[JII)I"⟩ : MethodName)
set_option maxRecDepth 65536
set_option maxHeartbeats 40000000
abbrev sBk : String := "com/example/tenorbook/tenorbook/engine/Ranking$Block"
abbrev sOr : String := "com/example/tenorbook/tenorbook/engine/Order"
abbrev sRk : String := "com/example/tenorbook/tenorbook/engine/Ranking"
abbrev sEo : String := "com/example/tenorbook/tenorbook/model/Command$EnterOrder"
abbrev sLw : String := "com/example/tenorbook/tenorbook/engine/RankingFirstPinLaw"
abbrev dOs : String := "[Lcom/example/tenorbook/tenorbook/engine/Order;"
abbrev dOr : String := "Lcom/example/tenorbook/tenorbook/engine/Order;"
abbrev dBs : String := "[Lcom/example/tenorbook/tenorbook/engine/Ranking$Block;"
abbrev mPl : String := "(Lcom/example/tenorbook/tenorbook/engine/Ranking$Block;Lcom/example/tenorbook/tenorbook/engine/Order;)I"
abbrev mBe : String := "(Lcom/example/tenorbook/tenorbook/engine/Ranking$Block;ILcom/example/tenorbook/tenorbook/engine/Order;)Z"
theorem dd {p : Prop} [Decidable p] (h : decide p = true := by rfl) : p := of_decide_eq_true h
abbrev U0 : Slot := .unset
abbrev S2 : Slot := .second
abbrev vr (a : Nat) : Slot := .val (.ref a)
abbrev vi (a : Int32) : Slot := .val (.int a)
abbrev vj (a : Int64) : Slot := .val (.long a)
theorem mE {α : Type} {l : List α} {x : α} {P : Prop} (i : Nat) (h : l[i]? = some x := by rfl) : x ∈ l ∨ P := Or.inl (List.mem_of_getElem? h)
theorem cs {p : Program} {e : Env} {below : List Frame} {P : State → Prop} {S S' : State} (f : ∀ t, Steps p.tables e below S' t → Steps p.tables e below S t) (g : Comes p e below P S') : Comes p e below P S := Comes.st f g
abbrev AJ (Z : State) (h : Heap) (a : Nat) (k : ClassId) (x y z : Int64) : Prop := Arv Z h a k .long (64 : Int32) [(.long x), (.long y), (.long z)] (.long (0 : Int64))
theorem wle {a W : Nat} (h : 2 * 0 + a = W) : 2 * 0 + a ≤ W := Nat.le_of_eq h
theorem W {a0 : Array Value} {Z : State} (hw : ∀ d ∈ tables_1, d.before a0 Z = true) (i : Nat) {d : Jvm.Cond} (h : tables_1[i]? = some d := by rfl) : d.before a0 Z = true := hw _ (List.mem_of_getElem? h)
abbrev Rm (a b c d : Nat) : Room := { frames := a, cells := b, slots := c, locals := d }
abbrev Con (l : Launch) (Z : State) (y : MethodName) (code : ByteArray) (ml : Nat) (ret : Option FieldType) (ws : List Jvm.Cond) (R : Room) (av : Array Value) (h0 : Heap) (Q : Option Value → Heap → List Loc → Prop) : Prop :=
  MetFree l y (head1 (Jvm.Cond.code y code ml ret :: ws) R) (fun a U => a = av ∧ Z.Warmed39 U.vm ∧ U.heap = h0) (fun _ _ _ _ _ => True) (fun _ U o U' => ∃ v L, o = .returned v ∧ Q v U'.heap L ∧ FrameEnd U o U' L R.cells R.slots)
section OwnShort
variable {p : Program} {l : Launch} {e : Env} {R : Room} {s : State} {m : MethodId} {args a0 : Array Value} {below : List Frame} {meth : Method} {c : Code} {T : State} {locs : List Loc} {cells slots : Nat} {P : State → Prop} {Z : State} {h : Heap}
theorem Con.of {y : MethodName} {code : ByteArray} {ml : Nat} {ret : Option FieldType} {ws : List Jvm.Cond} {av : Array Value} {h0 : Heap} {Q : Option Value → Heap → List Loc → Prop} (hpl : plainFor y = true)
    (k : ∀ p e s m below meth c T, p.tables.exec = Jvm.exec → c.code = code → c.maxLocals = ml → Z.Warmed39 s.vm → s.vm.findClass y.cls = some m.cls → meth.name = y.name → meth.locks = false → meth.sig.returnType = ret → Stand p l e R s m av below meth c T [] 0 0 → T.heap = h0 →
      Comes p e below (EndsAt below s Q R.cells R.slots) (T.setTop (entryFrame m av ml))) : Con l Z y code ml ret ws R av h0 Q := by
  refine MetFree.of_bodySF hpl hisR ?_
  intro p e s m args below meth c s₁ Bd hml0 hP hK
  obtain ⟨rfl, hZ, hh⟩ := hP
  exact Comes.out (k p e s m below meth c s₁ Bd.exec Bd.bytes hml0 hZ (findClass_of_methodNamed Bd.named) (name_of_methodNamed Bd.named Bd.method).1 Bd.notSynchronized Bd.returns (Stand.of_body Bd) (by rw [← hh, Bd.state]; rfl))
theorem Comes.gF (X : Stand p l e R s m args below meth c T locs cells slots) (hx : p.tables.exec = Jvm.exec) (hZ : Z.Warmed39 s.vm) {own R0 O n d host : String} {index : Nat} (hown : s.vm.findClass own = some m.cls) (w : (Jvm.Cond.fieldLink own index R0 n d).before a0 Z = true ∨ (Jvm.Cond.fieldLinkNest own index R0 n d host).before a0 Z = true) (via : Via Z R0 O n d)
    (eT : T.heap = h) {a : Addr} {v : Value} (F : Fld Z h a O n d v) {g : JFrame} (hg : g.method = m) {rest : List Value} (hs : g.stack = .ref a :: rest) (hd : decode c.code g.pc = .ok (.getfield index, 3))
    (k : ∀ T', Stand p l e R s m args below meth c T' locs cells slots → T'.heap = h → Comes p e below P (T'.setTop { g with pc := g.pc + 3, stack := v :: rest })) : Comes p e below P (T.setTop g) := by
  obtain ⟨T', X', e', st⟩ := getF X hx hZ hown w via eT F hg hs hd
  exact Comes.st st (k T' X' e')
theorem Comes.pF (X : Stand p l e R s m args below meth c T locs cells slots) (hx : p.tables.exec = Jvm.exec) (hZ : Z.Warmed39 s.vm) {own R0 O n d host C : String} {index kk : Nat} {ty : FieldType} (hown : s.vm.findClass own = some m.cls) (w : (Jvm.Cond.fieldLink own index R0 n d).before a0 Z = true ∨ (Jvm.Cond.fieldLinkNest own index R0 n d host).before a0 Z = true) (via : Via Z R0 O n d)
    (eT : T.heap = h) {a : Addr} {v old : Value} (F : Fld Z h a O n d old) (E : Exa Z h a C) (L : (Jvm.Cond.lays C O n d).before a0 Z = true ∨ ((Jvm.Cond.laysFinal C O n d).before a0 Z = true ∧ own = O ∧ meth.name = "<init>")) (wi : (Jvm.Cond.instantiable C kk).before a0 Z = true)
    (hty : parseFieldDescriptor d = some ty) (hn : narrow ty v = v) (hf : fits ty v = true) {g : JFrame} (hg : g.method = m) {rest : List Value} (hs : g.stack = v :: .ref a :: rest) (hd : decode c.code g.pc = .ok (.putfield index, 3))
    (k : ∀ T' h', Stand p l e R s m args below meth c T' (locs ++ [⟨a, Jvm.RoadKit.slotOf Z O n d⟩]) cells slots → T'.heap = h' → Wr h h' a (Jvm.RoadKit.slotOf Z O n d) v → Fld Z h' a O n d v → Comes p e below P (T'.setTop { g with pc := g.pc + 3, stack := rest })) : Comes p e below P (T.setTop g) := by
  obtain ⟨T', h', X', e', W', st⟩ := putF X hx hZ hown w via eT F E L wi hty hn hf hg hs hd
  exact Comes.st st (k T' h' X' e' W' (F.same W'))
theorem xaloadN (X : Stand p l e R s m args below meth c T locs cells slots) {code : ByteArray} (hc' : p.tables.exec = Jvm.exec ∧ c.code = code) {g : JFrame} {target : State} {k : Fin 4} {v : Value} (hd : decode code g.pc = .ok (.aload_n k, 1)) (hl : g.locals[k.val]? = some (.val v)) (hv : v.isRef = true) (hr : Steps p.tables e below (T.setTop { g with pc := g.pc + 1, stack := v :: g.stack }) target) (hg : g.method = m := by rfl) : Steps p.tables e below (T.setTop g) target := XS.aloadN X.here hc'.1 hg (hc'.2 ▸ hd) hl hv hr
theorem xiloadN (X : Stand p l e R s m args below meth c T locs cells slots) {code : ByteArray} (hc' : p.tables.exec = Jvm.exec ∧ c.code = code) {g : JFrame} {target : State} {k : Fin 4} {v : Int32} (hd : decode code g.pc = .ok (.iload_n k, 1)) (hl : g.locals[k.val]? = some (.val (.int v))) (hr : Steps p.tables e below (T.setTop { g with pc := g.pc + 1, stack := .int v :: g.stack }) target) (hg : g.method = m := by rfl) : Steps p.tables e below (T.setTop g) target := XS.iloadN X.here hc'.1 hg (hc'.2 ▸ hd) hl hr
theorem xiconst (X : Stand p l e R s m args below meth c T locs cells slots) {code : ByteArray} (hc' : p.tables.exec = Jvm.exec ∧ c.code = code) {g : JFrame} {target : State} {i : Int} (hd : decode code g.pc = .ok (.iconst i, 1)) (hr : Steps p.tables e below (T.setTop { g with pc := g.pc + 1, stack := .int (Int32.ofInt i) :: g.stack }) target) (hg : g.method = m := by rfl) : Steps p.tables e below (T.setTop g) target := XS.iconst X.here hc'.1 hg (hc'.2 ▸ hd) hr
theorem xiload (X : Stand p l e R s m args below meth c T locs cells slots) {code : ByteArray} (hc' : p.tables.exec = Jvm.exec ∧ c.code = code) {g : JFrame} {target : State} {k : Nat} {v : Int32} (hd : decode code g.pc = .ok (.iload k, 2)) (hl : g.locals[k]? = some (.val (.int v))) (hr : Steps p.tables e below (T.setTop { g with pc := g.pc + 2, stack := .int v :: g.stack }) target) (hg : g.method = m := by rfl) : Steps p.tables e below (T.setTop g) target := XS.iload X.here hc'.1 hg (hc'.2 ▸ hd) hl hr
theorem xaload (X : Stand p l e R s m args below meth c T locs cells slots) {code : ByteArray} (hc' : p.tables.exec = Jvm.exec ∧ c.code = code) {g : JFrame} {target : State} {k : Nat} {v : Value} (hd : decode code g.pc = .ok (.aload k, 2)) (hl : g.locals[k]? = some (.val v)) (hv : v.isRef = true) (hr : Steps p.tables e below (T.setTop { g with pc := g.pc + 2, stack := v :: g.stack }) target) (hg : g.method = m := by rfl) : Steps p.tables e below (T.setTop g) target := XS.aload X.here hc'.1 hg (hc'.2 ▸ hd) hl hv hr
theorem xistore (X : Stand p l e R s m args below meth c T locs cells slots) {code : ByteArray} (hc' : p.tables.exec = Jvm.exec ∧ c.code = code) {g : JFrame} {target : State} {k : Nat} {x : Int32} {rest : List Value} {l' : Array Slot} (hd : decode code g.pc = .ok (.istore k, 2)) (hs : g.stack = .int x :: rest) (hl : storeLocals g.locals k (.int x) = some l') (hr : Steps p.tables e below (T.setTop { g with pc := g.pc + 2, stack := rest, locals := l' }) target) (hg : g.method = m := by rfl) : Steps p.tables e below (T.setTop g) target := XS.istore X.here hc'.1 hg (hc'.2 ▸ hd) hs hl hr
theorem xistoreN (X : Stand p l e R s m args below meth c T locs cells slots) {code : ByteArray} (hc' : p.tables.exec = Jvm.exec ∧ c.code = code) {g : JFrame} {target : State} {k : Fin 4} {x : Int32} {rest : List Value} {l' : Array Slot} (hd : decode code g.pc = .ok (.istore_n k, 1)) (hs : g.stack = .int x :: rest) (hl : storeLocals g.locals k.val (.int x) = some l') (hr : Steps p.tables e below (T.setTop { g with pc := g.pc + 1, stack := rest, locals := l' }) target) (hg : g.method = m := by rfl) : Steps p.tables e below (T.setTop g) target := XS.istoreN X.here hc'.1 hg (hc'.2 ▸ hd) hs hl hr
theorem xastore (X : Stand p l e R s m args below meth c T locs cells slots) {code : ByteArray} (hc' : p.tables.exec = Jvm.exec ∧ c.code = code) {g : JFrame} {target : State} {k : Nat} {x : Value} {rest : List Value} {l' : Array Slot} (hd : decode code g.pc = .ok (.astore k, 2)) (hs : g.stack = x :: rest) (hv : x.isRef = true) (hl : storeLocals g.locals k x = some l') (hr : Steps p.tables e below (T.setTop { g with pc := g.pc + 2, stack := rest, locals := l' }) target) (hg : g.method = m := by rfl) : Steps p.tables e below (T.setTop g) target := XS.astore X.here hc'.1 hg (hc'.2 ▸ hd) hs hv hl hr
theorem xastoreN (X : Stand p l e R s m args below meth c T locs cells slots) {code : ByteArray} (hc' : p.tables.exec = Jvm.exec ∧ c.code = code) {g : JFrame} {target : State} {k : Fin 4} {x : Value} {rest : List Value} {l' : Array Slot} (hd : decode code g.pc = .ok (.astore_n k, 1)) (hs : g.stack = x :: rest) (hv : x.isRef = true) (hl : storeLocals g.locals k.val x = some l') (hr : Steps p.tables e below (T.setTop { g with pc := g.pc + 1, stack := rest, locals := l' }) target) (hg : g.method = m := by rfl) : Steps p.tables e below (T.setTop g) target := XS.astoreN X.here hc'.1 hg (hc'.2 ▸ hd) hs hv hl hr
theorem xicmpNo (X : Stand p l e R s m args below meth c T locs cells slots) {code : ByteArray} (hc' : p.tables.exec = Jvm.exec ∧ c.code = code) {g : JFrame} {target : State} {cd : ClassFile.Cond} {o : Int} {x y : Int32} {rest : List Value} (hd : decode code g.pc = .ok (.if_icmp cd o, 3)) (hs : g.stack = .int y :: .int x :: rest) (hc : if_icmp.holds cd x y = false) (hr : Steps p.tables e below (T.setTop { g with pc := g.pc + 3, stack := rest }) target) (hg : g.method = m := by rfl) : Steps p.tables e below (T.setTop g) target := XS.icmpNo X.here hc'.1 hg (hc'.2 ▸ hd) hs hc hr
theorem xifNo (X : Stand p l e R s m args below meth c T locs cells slots) {code : ByteArray} (hc' : p.tables.exec = Jvm.exec ∧ c.code = code) {g : JFrame} {target : State} {cd : ClassFile.Cond} {o : Int} {x : Int32} {rest : List Value} (hd : decode code g.pc = .ok (.ifCond cd o, 3)) (hs : g.stack = .int x :: rest) (hc : ifCond.holds cd x = false) (hr : Steps p.tables e below (T.setTop { g with pc := g.pc + 3, stack := rest }) target) (hg : g.method = m := by rfl) : Steps p.tables e below (T.setTop g) target := XS.ifNo X.here hc'.1 hg (hc'.2 ▸ hd) hs hc hr
theorem xiadd (X : Stand p l e R s m args below meth c T locs cells slots) {code : ByteArray} (hc' : p.tables.exec = Jvm.exec ∧ c.code = code) {g : JFrame} {target : State} {x y : Int32} {rest : List Value} (hd : decode code g.pc = .ok (.iadd, 1)) (hs : g.stack = .int y :: .int x :: rest) (hr : Steps p.tables e below (T.setTop { g with pc := g.pc + 1, stack := .int (x + y) :: rest }) target) (hg : g.method = m := by rfl) : Steps p.tables e below (T.setTop g) target := XS.iadd X.here hc'.1 hg (hc'.2 ▸ hd) hs hr
theorem xisub (X : Stand p l e R s m args below meth c T locs cells slots) {code : ByteArray} (hc' : p.tables.exec = Jvm.exec ∧ c.code = code) {g : JFrame} {target : State} {x y : Int32} {rest : List Value} (hd : decode code g.pc = .ok (.isub, 1)) (hs : g.stack = .int y :: .int x :: rest) (hr : Steps p.tables e below (T.setTop { g with pc := g.pc + 1, stack := .int (x - y) :: rest }) target) (hg : g.method = m := by rfl) : Steps p.tables e below (T.setTop g) target := XS.isub X.here hc'.1 hg (hc'.2 ▸ hd) hs hr
theorem xifYes (X : Stand p l e R s m args below meth c T locs cells slots) {code : ByteArray} (hc' : p.tables.exec = Jvm.exec ∧ c.code = code) (pc0 pc' : Nat) {g : JFrame} {target : State} {cd : ClassFile.Cond} {x : Int32} {rest : List Value} {o : Int} (hd : decode code g.pc = .ok (.ifCond cd o, 3)) (hs : g.stack = .int x :: rest) (hc : ifCond.holds cd x = true) (hr : Steps p.tables e below (T.setTop { g with pc := pc', stack := rest }) target) (ho : 0 ≤ (pc0 : Int) + o := by decide) (hp : ((pc0 : Int) + o).toNat = pc' := by decide) (hpc : g.pc = pc0 := by rfl) (hg : g.method = m := by rfl) : Steps p.tables e below (T.setTop g) target := XS.ifYes X.here hc'.1 hg hpc (hc'.2 ▸ hd) hs hc ho hp hr
theorem xicmpYes (X : Stand p l e R s m args below meth c T locs cells slots) {code : ByteArray} (hc' : p.tables.exec = Jvm.exec ∧ c.code = code) (pc0 pc' : Nat) {g : JFrame} {target : State} {cd : ClassFile.Cond} {x y : Int32} {rest : List Value} {o : Int} (hd : decode code g.pc = .ok (.if_icmp cd o, 3)) (hs : g.stack = .int y :: .int x :: rest) (hc : if_icmp.holds cd x y = true) (hr : Steps p.tables e below (T.setTop { g with pc := pc', stack := rest }) target) (ho : 0 ≤ (pc0 : Int) + o := by decide) (hp : ((pc0 : Int) + o).toNat = pc' := by decide) (hpc : g.pc = pc0 := by rfl) (hg : g.method = m := by rfl) : Steps p.tables e below (T.setTop g) target := XS.icmpYes X.here hc'.1 hg hpc (hc'.2 ▸ hd) hs hc ho hp hr
theorem xgoto (X : Stand p l e R s m args below meth c T locs cells slots) {code : ByteArray} (hc' : p.tables.exec = Jvm.exec ∧ c.code = code) (pc0 pc' : Nat) {g : JFrame} {target : State} {o : Int} (hd : decode code g.pc = .ok (.goto o, 3)) (hr : Steps p.tables e below (T.setTop { g with pc := pc' }) target) (ho : 0 ≤ (pc0 : Int) + o := by decide) (hp : ((pc0 : Int) + o).toNat = pc' := by decide) (hpc : g.pc = pc0 := by rfl) (hg : g.method = m := by rfl) : Steps p.tables e below (T.setTop g) target := XS.goto X.here hc'.1 hg hpc (hc'.2 ▸ hd) ho hp hr
variable {k : ClassId} {z j : Int32} {vs : List Value} {dv v : Value} {a : Addr}
theorem Comes.ldI (X : Stand p l e R s m args below meth c T locs cells slots) (hx : p.tables.exec = Jvm.exec) (hZ : Z.Warmed39 s.vm) (eT : T.heap = h) (A : Arv Z h a k .int z vs dv) {x : Int32} {g : JFrame} (hg : g.method = m) {rest : List Value} (hs : g.stack = .int j :: .ref a :: rest) (u : vs.getD j.toNatClampNeg dv = .int x) (hd : decode c.code g.pc = .ok (.iaload, 1))
    (kk : Comes p e below P (T.setTop { g with pc := g.pc + 1, stack := .int x :: rest })) (q : ¬ j < 0 ∧ j < z := by decide) : Comes p e below P (T.setTop g) := by
  obtain ⟨cl, Ar, -, S, -, H, -⟩ := A
  exact Comes.st (fun t k' => X.iaload hx (by rw [eT]; exact Ar.1) (State.isArrayOf_alike hZ.alike Ar.2.1) Ar.2.2 (inb_of S q) (Has.at H (inb_of S q) u) hg hs hd _ k') kk
theorem Comes.ldJ (X : Stand p l e R s m args below meth c T locs cells slots) (hx : p.tables.exec = Jvm.exec) (hZ : Z.Warmed39 s.vm) (eT : T.heap = h) (A : Arv Z h a k .long z vs dv) {x : Int64} {g : JFrame} (hg : g.method = m) {rest : List Value} (hs : g.stack = .int j :: .ref a :: rest) (u : vs.getD j.toNatClampNeg dv = .long x) (hd : decode c.code g.pc = .ok (.laload, 1))
    (kk : Comes p e below P (T.setTop { g with pc := g.pc + 1, stack := .long x :: rest })) (q : ¬ j < 0 ∧ j < z := by decide) : Comes p e below P (T.setTop g) := by
  obtain ⟨cl, Ar, -, S, -, H, -⟩ := A
  exact Comes.st (fun t k' => X.laload hx (by rw [eT]; exact Ar.1) (State.isArrayOf_alike hZ.alike Ar.2.1) Ar.2.2 (inb_of S q) (Has.at H (inb_of S q) u) hg hs hd _ k') kk
theorem Comes.ldR (X : Stand p l e R s m args below meth c T locs cells slots) (hx : p.tables.exec = Jvm.exec) (hZ : Z.Warmed39 s.vm) (eT : T.heap = h) {C : String} (A : Arv Z h a k (.object C) z vs dv) {g : JFrame} (hg : g.method = m) {rest : List Value} (hs : g.stack = .int j :: .ref a :: rest) (u : vs.getD j.toNatClampNeg dv = v) (hd : decode c.code g.pc = .ok (.aaload, 1))
    (kk : Comes p e below P (T.setTop { g with pc := g.pc + 1, stack := v :: rest })) (q : ¬ j < 0 ∧ j < z := by decide) : Comes p e below P (T.setTop g) := by
  obtain ⟨cl, Ar, -, S, -, H, -⟩ := A
  exact Comes.st (fun t k' => X.aaload hx (by rw [eT]; exact Ar.1) (State.isArrayOf_alike hZ.alike Ar.2.1) rfl Ar.2.2 (inb_of S q) (Has.at H (inb_of S q) u) hg hs hd _ k') kk
theorem Comes.wrI (X : Stand p l e R s m args below meth c T locs cells slots) (hx : p.tables.exec = Jvm.exec) (hZ : Z.Warmed39 s.vm) (eT : T.heap = h) (A : Arv Z h a k .int z vs dv) {x : Int32} {g : JFrame} (hg : g.method = m) {rest : List Value} (hs : g.stack = .int x :: .int j :: .ref a :: rest) (i : Nat) (hd : decode c.code g.pc = .ok (.iastore, 1))
    (kk : ∀ T' h', Stand p l e R s m args below meth c T' (locs ++ [⟨a, j.toNatClampNeg⟩]) cells slots → T'.heap = h' → Wr h h' a j.toNatClampNeg (.int x) → Arv Z h' a k .int z (vs.set i (.int x)) dv → Comes p e below P (T'.setTop { g with pc := g.pc + 1, stack := rest })) (q : ¬ j < 0 ∧ j < z := by decide) (hj : j.toNatClampNeg = i := by rfl) (hi : i < vs.length := by exact Nat.le_of_ble_eq_true rfl) : Comes p e below P (T.setTop g) := by
  obtain ⟨cl, Ar, q', S, Ng, H, Gf⟩ := A
  obtain ⟨T', h', X', e', W', st⟩ := stI X hx hZ eT Ar (inb_of S q) hg hs hd
  exact Comes.st st (kk T' h' X' e' W' (Arv.set Ar q' S Ng H Gf rfl W' i hj hi))
theorem Comes.wrJ (X : Stand p l e R s m args below meth c T locs cells slots) (hx : p.tables.exec = Jvm.exec) (hZ : Z.Warmed39 s.vm) (eT : T.heap = h) (A : Arv Z h a k .long z vs dv) {x : Int64} {g : JFrame} (hg : g.method = m) {rest : List Value} (hs : g.stack = .long x :: .int j :: .ref a :: rest) (i : Nat) (hd : decode c.code g.pc = .ok (.lastore, 1))
    (kk : ∀ T' h', Stand p l e R s m args below meth c T' (locs ++ [⟨a, j.toNatClampNeg⟩]) cells slots → T'.heap = h' → Wr h h' a j.toNatClampNeg (.long x) → Arv Z h' a k .long z (vs.set i (.long x)) dv → Comes p e below P (T'.setTop { g with pc := g.pc + 1, stack := rest })) (q : ¬ j < 0 ∧ j < z := by decide) (hj : j.toNatClampNeg = i := by rfl) (hi : i < vs.length := by exact Nat.le_of_ble_eq_true rfl) : Comes p e below P (T.setTop g) := by
  obtain ⟨cl, Ar, q', S, Ng, H, Gf⟩ := A
  obtain ⟨T', h', X', e', W', st⟩ := stJ X hx hZ eT Ar (inb_of S q) hg hs hd
  exact Comes.st st (kk T' h' X' e' W' (Arv.set Ar q' S Ng H Gf rfl W' i hj hi))
theorem Comes.wrR (X : Stand p l e R s m args below meth c T locs cells slots) (hx : p.tables.exec = Jvm.exec) (hZ : Z.Warmed39 s.vm) (eT : T.heap = h) {C C' : String} (A : Arv Z h a k (.object C) z vs dv) (hv : v = .null ∨ ∃ y : Nat, v = .ref y ∧ Ovr Z k C' ∧ Ins Z h y C' true) {g : JFrame} (hg : g.method = m) {rest : List Value} (hs : g.stack = v :: .int j :: .ref a :: rest) (i : Nat) (hd : decode c.code g.pc = .ok (.aastore, 1))
    (kk : ∀ T' h', Stand p l e R s m args below meth c T' (locs ++ [⟨a, j.toNatClampNeg⟩]) cells slots → T'.heap = h' → Wr h h' a j.toNatClampNeg v → Arv Z h' a k (.object C) z (vs.set i v) dv → Comes p e below P (T'.setTop { g with pc := g.pc + 1, stack := rest })) (q : ¬ j < 0 ∧ j < z := by decide) (hj : j.toNatClampNeg = i := by rfl) (hi : i < vs.length := by exact Nat.le_of_ble_eq_true rfl) : Comes p e below P (T.setTop g) := by
  obtain ⟨cl, Ar, q', S, Ng, H, Gf⟩ := A
  have F : Sto Z h a v := by
    rcases hv with rfl | ⟨y, rfl, O, I⟩
    · exact Or.inl rfl
    · exact Sto.ofV Ar q' O I
  obtain ⟨T', h', X', e', W', st⟩ := stR X hx hZ eT Ar (inb_of S q) rfl F hg hs hd
  have hf : fits (.object C) v = true := by rcases hv with rfl | ⟨y, rfl, -⟩ <;> rfl
  exact Comes.st st (kk T' h' X' e' W' (Arv.set Ar q' S Ng H Gf hf W' i hj hi))
theorem Comes.cP (X : Stand p l e R s m args below meth c T locs cells slots) (hx : p.tables.exec = Jvm.exec) (hZ : Z.Warmed39 s.vm) {own : String} {index W : Nat} {y : MethodName} {bytes : ByteArray} {maxL : Nat} {ret : Option FieldType} {rm : Room} {av : Array Value} {Q : Option Value → Heap → List Loc → Prop} (hown : s.vm.findClass own = some m.cls) (w1 : (Jvm.Cond.methodLink own index y).before a0 Z = true) (w2 : (Jvm.Cond.instanceMethod y).before a0 Z = true) {ni : Nat} (w3 : (Jvm.Cond.instantiable y.cls ni).before a0 Z = true) (w4 : (Jvm.Cond.privateMethod y).before a0 Z = true) (hy : y.cls ≠ "java/lang/invoke/MethodHandle" ∧ y.cls ≠ "java/lang/invoke/VarHandle") (w5 : (Jvm.Cond.code y bytes maxL ret).before a0 Z = true) (hM : Con l Z y bytes maxL ret [] rm av h Q) {C : String} (E : Exa Z h a C) (wz : (Jvm.Cond.initialized y.cls).before a0 Z = true) (hf : rm.frames + 1 ≤ R.frames) (hl : W + (maxL + 11) + rm.locals ≤ R.locals) (eT : T.heap = h) {g : JFrame} (hg : g.method = m) (hsize : g.locals.size = c.maxLocals) {argsL rest : List Value} (hlen : ∀ sig, parseMethodDescriptor y.desc = some sig → argsL.length = sig.parameters.length) (hstack : g.stack = argsL.reverse ++ .ref a :: rest) (hW : 2 * g.monitorRoom + (rest.map fun v => v.category).sum ≤ W) (hdg : decode c.code g.pc = .ok (.invokevirtual index, 3)) (ha : (.ref a :: argsL).toArray = av) (hc : cells + rm.cells ≤ R.cells) (hsl : slots + rm.slots ≤ R.slots)
    (k : ∀ v T' L, Q v T'.heap L → Stand p l e R s m args below meth c T' (locs ++ L) (cells + rm.cells) (slots + rm.slots) → Comes p e below P (T'.setTop { g with pc := g.pc + 3, stack := v.toList ++ rest })) : Comes p e below P (T.setTop g) := by
  obtain ⟨cq, q, q'⟩ := E.cell
  obtain ⟨v, _, ⟨T', L', k', n'⟩, -, X', ⟨Lc, hQ, l1, l2, l3⟩, st⟩ := X.privateBack hx hown (mvT hZ w1) (mvT hZ w2) (mvT hZ (own_selp w3 w4 w2 hy)) (Cond.privateMethod_at (mvP hZ w4 (args := #[]))) (mvT hZ w5) hy (backOf (W := W) hM hZ w5 wz hf hl) hg hsize (Steps.refl _) (by rw [eT]; exact q) q' hlen hstack hW hdg (fun _ _ => ⟨ha, eT, hc, hsl⟩)
  dsimp only [Pt.U, Pt.locs, Pt.cells, Pt.slots] at X' l1 l2 l3 st hQ
  subst l1 l2 l3
  exact Comes.go st (k v T' Lc hQ X')
theorem Comes.cV (X : Stand p l e R s m args below meth c T locs cells slots) (hx : p.tables.exec = Jvm.exec) (hZ : Z.Warmed39 s.vm) {own : String} {index W : Nat} {y : MethodName} {bytes : ByteArray} {maxL : Nat} {ret : Option FieldType} {rm : Room} {av : Array Value} {Q : Option Value → Heap → List Loc → Prop} (hown : s.vm.findClass own = some m.cls) (w1 : (Jvm.Cond.methodLink own index y).before a0 Z = true) (w2 : (Jvm.Cond.declares y).before a0 Z = true) {C : String} (w3 : (Jvm.Cond.selects C y y).before a0 Z = true) (w4 : (Jvm.Cond.instanceMethod y).before a0 Z = true) (hy : y.cls ≠ "java/lang/invoke/MethodHandle" ∧ y.cls ≠ "java/lang/invoke/VarHandle") (w5 : (Jvm.Cond.code y bytes maxL ret).before a0 Z = true) (hM : Con l Z y bytes maxL ret [] rm av h Q) (E : Exa Z h a C) (wz : (Jvm.Cond.initialized y.cls).before a0 Z = true) (hf : rm.frames + 1 ≤ R.frames) (hl : W + (maxL + 11) + rm.locals ≤ R.locals) (eT : T.heap = h) {g : JFrame} (hg : g.method = m) (hsize : g.locals.size = c.maxLocals) {argsL rest : List Value} (hlen : ∀ sig, parseMethodDescriptor y.desc = some sig → argsL.length = sig.parameters.length) (hstack : g.stack = argsL.reverse ++ .ref a :: rest) (hW : 2 * g.monitorRoom + (rest.map fun v => v.category).sum ≤ W) (hdg : decode c.code g.pc = .ok (.invokevirtual index, 3)) (ha : (.ref a :: argsL).toArray = av) (hc : cells + rm.cells ≤ R.cells) (hsl : slots + rm.slots ≤ R.slots)
    (k : ∀ v T' L, Q v T'.heap L → Stand p l e R s m args below meth c T' (locs ++ L) (cells + rm.cells) (slots + rm.slots) → Comes p e below P (T'.setTop { g with pc := g.pc + 3, stack := v.toList ++ rest })) : Comes p e below P (T.setTop g) := by
  obtain ⟨cq, kq, qa, qb, qc⟩ := isOf hZ eT E
  obtain ⟨v, _, ⟨T', L', k', n'⟩, -, X', ⟨Lc, hQ, l1, l2, l3⟩, st⟩ := X.virtualBack hx (z := y) hown (mvT hZ w1) (mvT hZ w2) (notFace_of_selects (args := #[]) (mvT hZ w3)) (mvT hZ w3) (mvT hZ w4) hy (backOf (W := W) hM hZ w5 wz hf hl) qa qc hg hsize (Steps.refl _) hlen hstack hW hdg (fun _ _ => ⟨ha, eT, hc, hsl⟩)
  dsimp only [Pt.U, Pt.locs, Pt.cells, Pt.slots] at X' l1 l2 l3 st hQ
  subst l1 l2 l3
  exact Comes.go st (k v T' Lc hQ X')
theorem Comes.cS (X : Stand p l e R s m args below meth c T locs cells slots) (hx : p.tables.exec = Jvm.exec) (hZ : Z.Warmed39 s.vm) {own : String} {index W : Nat} {y : MethodName} {bytes : ByteArray} {maxL : Nat} {ret : Option FieldType} {rm : Room} {av : Array Value} {Q : Option Value → Heap → List Loc → Prop} (hown : s.vm.findClass own = some m.cls) (w1 : (Jvm.Cond.methodLink own index y).before a0 Z = true) (w2 : (Jvm.Cond.static y).before a0 Z = true) (hy : y.cls ≠ "java/lang/invoke/MethodHandle" ∧ y.cls ≠ "java/lang/invoke/VarHandle") (w5 : (Jvm.Cond.code y bytes maxL ret).before a0 Z = true) (hM : Con l Z y bytes maxL ret [] rm av h Q) (wz : (Jvm.Cond.initialized y.cls).before a0 Z = true) (hf : rm.frames + 1 ≤ R.frames) (hl : W + (maxL + 11) + rm.locals ≤ R.locals) (eT : T.heap = h) {g : JFrame} (hg : g.method = m) (hsize : g.locals.size = c.maxLocals) {argsL rest : List Value} (hlen : ∀ sig, parseMethodDescriptor y.desc = some sig → argsL.length = sig.parameters.length) (hstack : g.stack = argsL.reverse ++ rest) (hW : 2 * g.monitorRoom + (rest.map fun v => v.category).sum ≤ W) (hdg : decode c.code g.pc = .ok (.invokestatic index, 3)) (ha : argsL.toArray = av) (hc : cells + rm.cells ≤ R.cells) (hsl : slots + rm.slots ≤ R.slots)
    (k : ∀ v T' L, Q v T'.heap L → Stand p l e R s m args below meth c T' (locs ++ L) (cells + rm.cells) (slots + rm.slots) → Comes p e below P (T'.setTop { g with pc := g.pc + 3, stack := v.toList ++ rest })) : Comes p e below P (T.setTop g) := by
  obtain ⟨v, _, ⟨T', L', k', n'⟩, -, X', ⟨Lc, hQ, l1, l2, l3⟩, st⟩ := Jvm.LawKit.callS X hx hown (mvT hZ w1) (mvT hZ w2) (mvT hZ wz) (mvT hZ w5) hy (backOf (W := W) hM hZ w5 wz hf hl) hg hsize hlen hstack hW hdg (fun _ _ => ⟨ha, eT, hc, hsl⟩)
  dsimp only [Pt.U, Pt.locs, Pt.cells, Pt.slots] at X' l1 l2 l3 st hQ
  subst l1 l2 l3
  exact Comes.st st (k v T' Lc hQ X')
theorem Comes.cI (X : Stand p l e R s m args below meth c T locs cells slots) (hx : p.tables.exec = Jvm.exec) (hZ : Z.Warmed39 s.vm) {own : String} {index W : Nat} {y : MethodName} {bytes : ByteArray} {maxL : Nat} {rm : Room} {av : Array Value} {Q : Option Value → Heap → List Loc → Prop} (hown : s.vm.findClass own = some m.cls) (w1 : (Jvm.Cond.methodLink own index y).before a0 Z = true) (w2 : (Jvm.Cond.instanceMethod y).before a0 Z = true) (hy1 : y.name = "<init>") (hy : y.cls ≠ "java/lang/invoke/MethodHandle" ∧ y.cls ≠ "java/lang/invoke/VarHandle") (w5 : (Jvm.Cond.code y bytes maxL none).before a0 Z = true) (hM : Con l Z y bytes maxL none [] rm av h Q) (wz : (Jvm.Cond.initialized y.cls).before a0 Z = true) (hf : rm.frames + 1 ≤ R.frames) (hl : W + (maxL + 11) + rm.locals ≤ R.locals) (eT : T.heap = h) {g : JFrame} (hg : g.method = m) (hsize : g.locals.size = c.maxLocals) {argsL rest : List Value} (hlen : ∀ sig, parseMethodDescriptor y.desc = some sig → argsL.length = sig.parameters.length) (hstack : g.stack = argsL.reverse ++ .ref a :: rest) (hW : 2 * g.monitorRoom + (rest.map fun v => v.category).sum ≤ W) (hdg : decode c.code g.pc = .ok (.invokespecial index, 3)) (ha : (.ref a :: argsL).toArray = av) (hc : cells + rm.cells ≤ R.cells) (hsl : slots + rm.slots ≤ R.slots)
    (k : ∀ v T' L, Q v T'.heap L → Stand p l e R s m args below meth c T' (locs ++ L) (cells + rm.cells) (slots + rm.slots) → Comes p e below P (T'.setTop { g with pc := g.pc + 3, stack := v.toList ++ rest })) : Comes p e below P (T.setTop g) := by
  obtain ⟨v, _, ⟨T', L', k', n'⟩, -, X', ⟨Lc, hQ, l1, l2, l3⟩, st⟩ := X.specialBack hx hy1 hown (mvT hZ w1) (mvT hZ w2) (mvT hZ w5) hy (backOf (W := W) hM hZ w5 wz hf hl) hg hsize (Steps.refl _) hlen hstack hW hdg (fun _ _ => ⟨ha, eT, hc, hsl⟩)
  dsimp only [Pt.U, Pt.locs, Pt.cells, Pt.slots] at X' l1 l2 l3 st hQ
  subst l1 l2 l3
  exact Comes.go st (k v T' Lc hQ X')
end OwnShort

section
variable {p : Program} {l : Launch} {e : Env} {R : Room} {s : State} {m : MethodId} {args a0 : Array Value} {below : List Frame} {meth : Method} {c : Code} {T : State} {locs : List Loc} {cells slots : Nat} {Z : State} {h : Heap}
theorem own_getR (X : Stand p l e R s m args below meth c T locs cells slots) (hx : p.tables.exec = Jvm.exec) (hZ : Z.Warmed39 s.vm) {own R0 O n d : String} {index : Nat} (hown : s.vm.findClass own = some m.cls) (w : (Jvm.Cond.fieldRef own index R0 n d).before a0 Z = true) (via : Via Z R0 O n d)
    (eT : T.heap = h) {a : Addr} {v : Value} (F : Fld Z h a O n d v) {g : JFrame} (hg : g.method = m) {rest : List Value} (hs : g.stack = .ref a :: rest) (hd : decode c.code g.pc = .ok (.getfield index, 3)) : ∃ T', Stand p l e R s m args below meth c T' locs cells slots ∧ T'.heap = h ∧ ∀ target, Steps p.tables e below (T'.setTop { g with pc := g.pc + 3, stack := v :: rest }) target → Steps p.tables e below (T.setTop g) target := by
  obtain ⟨cell, cf, k, i, f, h1, h2, h3, h4, -, -, h7⟩ := F
  obtain ⟨k1, hi1, -⟩ := State.fieldFound?_setVm (s := Z) hZ.alike (via _ h2)
  have hi2 : s.fieldFound? R0 n d = some (cf, k1, i, f) := hi1
  obtain ⟨k2, hi3, -⟩ := State.fieldFound?_setVm (s := s) X.warmed.alike hi2
  have w1 : (Jvm.Cond.fieldRef own index R0 n d).before a0 s = true := (Cond.fieldRef_warmed39 hZ w :)
  have w2 := Cond.fieldRef_warmed X.warmed w1
  obtain ⟨c', k', i', f', hf', hr⟩ := Cond.fieldRef_spec (s := s.setVm T.vm) (cur := m.cls) (by rw [State.vm_setVm, X.warmed.alike.findClass]; exact hown) w2
  cases hi3.symm.trans hf'
  refine ⟨T, X, eT, fun target hrest => ?_⟩
  subst hg
  have hr' : T.vm.fieldReady g.method.cls index cf f := hr
  jvm_step X.here [hx, hd, getfield.wp_ready (e := e) (s := T) (f := g) X.here.top hr' h3 hs (by rw [eT]; exact h1) h4 h7]
  exact hrest
theorem Comes.gR {P : State → Prop} (X : Stand p l e R s m args below meth c T locs cells slots) (hx : p.tables.exec = Jvm.exec) (hZ : Z.Warmed39 s.vm) {own R0 O n d : String} {index : Nat} (hown : s.vm.findClass own = some m.cls) (w : (Jvm.Cond.fieldRef own index R0 n d).before a0 Z = true) (via : Via Z R0 O n d)
    (eT : T.heap = h) {a : Addr} {v : Value} (F : Fld Z h a O n d v) {g : JFrame} (hg : g.method = m) {rest : List Value} (hs : g.stack = .ref a :: rest) (hd : decode c.code g.pc = .ok (.getfield index, 3))
    (k : ∀ T', Stand p l e R s m args below meth c T' locs cells slots → T'.heap = h → Comes p e below P (T'.setTop { g with pc := g.pc + 3, stack := v :: rest })) : Comes p e below P (T.setTop g) := by
  obtain ⟨T', X', e', st⟩ := own_getR X hx hZ hown w via eT F hg hs hd
  exact Comes.st st (k T' X' e')
theorem own_specialR (X : Stand p l e R s m args below meth c T locs cells slots) (hexec : p.tables.exec = Jvm.exec) {own : String} {index : Nat} {y : MethodName} (hy1 : y.name = "<init>")
    (hown : s.vm.findClass own = some m.cls) (hlink : (Jvm.Cond.methodRef own index y).before args s = true) (hinst : (Jvm.Cond.instanceMethod y).before args s = true)
    {bytes : ByteArray} {maxL : Nat} (hcode : (Jvm.Cond.code y bytes maxL none).before args s = true)
    (hy : y.cls ≠ "java/lang/invoke/MethodHandle" ∧ y.cls ≠ "java/lang/invoke/VarHandle")
    {W : Nat} {Pre : Pt → Array Value → Prop} {Post : Pt → Array Value → Option Value → Pt → Prop} (hK : Back l R p e below s args y 3 W Pre Post)
    {g : JFrame} (hg : g.method = m) (hsize : g.locals.size = c.maxLocals) {s₀ : State} (hcome : Steps p.tables e below s₀ (T.setTop g)) {a : Addr} {argsL rest : List Value}
    (hlen : ∀ sig, parseMethodDescriptor y.desc = some sig → argsL.length = sig.parameters.length) (hstack : g.stack = argsL.reverse ++ .ref a :: rest) (hW : 2 * g.monitorRoom + (rest.map fun v => v.category).sum ≤ W)
    (hdg : decode c.code g.pc = .ok (.invokespecial index, 3)) (hpre : ∀ vm₁, s.WarmedH vm₁ → Pre ⟨T.setVm vm₁, locs, cells, slots⟩ (.ref a :: argsL).toArray) :
    ∃ (v : Option Value) (vm₁ : Vm) (B : Pt), s.WarmedH vm₁ ∧ Stand p l e R s m args below meth c B.U B.locs B.cells B.slots ∧ Post ⟨T.setVm vm₁, locs, cells, slots⟩ (.ref a :: argsL).toArray v B ∧
      Steps p.tables e below s₀ (B.U.setTop { g with pc := g.pc + 3, stack := v.toList ++ rest }) := by
  obtain ⟨obj, methO, hnO, hmO, hstO, habO⟩ := Cond.instanceMethod_spec hinst
  obtain ⟨methO', cO, hmO', hcO, hbO, hlO, -, hlockO, -, hsigO⟩ := Cond.code_spec hnO hcode
  cases hmO.symm.trans hmO'
  obtain ⟨kO, hkO, hnameO⟩ := className_of_methodNamed hnO
  obtain ⟨hnameMO, hdescO⟩ := name_of_methodNamed hnO hmO
  have hwarm := X.warmed
  have w2 := Cond.methodRef_warmed hwarm hnO hy hlink
  have hcur : (s.setVm T.vm).vm.findClass own = some m.cls := by rw [State.vm_setVm, hwarm.alike.findClass]; exact hown
  obtain ⟨m', c', hm', hready, hfind, hnames⟩ := Cond.methodRef_named e hcur w2
  rw [State.methodFound?_setVm_of_named hwarm.alike hnO hy, State.methodFound?_of_named hnO hy] at hm'
  cases hm'
  have hcc : c' = obj.cls := by
    have q := findClass_of_methodNamed hnO
    rw [State.vm_setVm, hwarm.alike.findClass] at hfind
    exact (Option.some.inj (q.symm.trans hfind)).symm
  subst hcc
  obtain ⟨kO₂, hkO₂, heO₂⟩ := hwarm.alike.2.2 _ _ hkO
  have hmO₂ : T.vm.method? obj = some methO := by rw [hwarm.alike.method?]; exact hmO
  have hfound : lookupSpecial T.vm obj.cls "<init>" methO.desc = .method obj := by
    rw [hwarm.alike.lookupSpecial, hdescO, ← hy1]; exact lookupSpecial_of_named hnO hmO hstO
  have hstep₁ : ∀ target, (∀ acts, Steps p.tables e below (doInvoke e ((T.setVm T.vm).setTop { g with stack := rest }) acts obj (.ref a :: argsL).toArray).1 target) → Steps p.tables e below (T.setTop g) target := by
    intro target hrest
    subst hg
    jvm_step X.here [hexec, hdg, invokespecial.wp_init (e := e) (s := T) (k := kO₂) (meth := methO) (m := obj) (a := a) (args := argsL) (rest := rest) (f := g)
      X.here.top hnames hready hkO₂ hmO₂ (by rw [hnameMO]; exact hy1) hstO habO hfound (hlen _ hsigO) hstack]
    exact hrest
  have X₁ := X.noted hwarm
  obtain ⟨v, B, X', hpost, hsteps⟩ := hK m meth c ⟨T.setVm T.vm, locs, cells, slots⟩ { g with stack := rest } (.invokespecial index) obj (.ref a :: argsL).toArray X₁ hg hsize hdg hW (X₁.named hnO) (hpre T.vm hwarm)
  exact ⟨v, T.vm, B, hwarm, X', hpost, (hcome.trans (hstep₁ _ fun acts => by rw [doInvoke_state]; exact Steps.refl _)).trans hsteps⟩
theorem own_mvMR {own : String} {index : Nat} {y : MethodName} (hZ : Z.Warmed39 s.vm) (wi : (Jvm.Cond.instanceMethod y).before a0 Z = true) (hy : y.cls ≠ "java/lang/invoke/MethodHandle" ∧ y.cls ≠ "java/lang/invoke/VarHandle") (w : (Jvm.Cond.methodRef own index y).before a0 Z = true) : (Jvm.Cond.methodRef own index y).before args s = true := by
  obtain ⟨obj, methO, hnO, -⟩ := Cond.instanceMethod_spec wi
  exact (Cond.methodRef_warmed39 hZ hnO hy w :)
end

theorem own_narb {j : Int32} (h : j = (0 : Int32) ∨ j = (1 : Int32)) : (nar .boolean j) = j := by rcases h with rfl | rfl <;> decide
theorem own_b1 {lw : Int32} {a b c d : Int64} (G : ((¬ a = c ∧ ¬ lw = (0 : Int32) ∧ a < c) ∨ (¬ a = c ∧ lw = (0 : Int32) ∧ c < a) ∨ (a = c ∧ b < d))) (h : ¬ a = c) (k : ¬ lw = (0 : Int32)) : a < c := by
  rcases G with q | q | q
  · exact q.2.2
  · exact absurd q.2.1 k
  · exact absurd q.1 h
theorem own_b2 {lw : Int32} {a b c d : Int64} (G : ((¬ a = c ∧ ¬ lw = (0 : Int32) ∧ a < c) ∨ (¬ a = c ∧ lw = (0 : Int32) ∧ c < a) ∨ (a = c ∧ b < d))) (h : ¬ a = c) (k : lw = (0 : Int32)) : c < a := by
  rcases G with q | q | q
  · exact absurd k q.2.1
  · exact q.2.2
  · exact absurd q.1 h
theorem own_b3 {lw : Int32} {a b c d : Int64} (G : ((¬ a = c ∧ ¬ lw = (0 : Int32) ∧ a < c) ∨ (¬ a = c ∧ lw = (0 : Int32) ∧ c < a) ∨ (a = c ∧ b < d))) (h : a = c) : b < d := by
  rcases G with q | q | q
  · exact absurd h q.1
  · exact absurd h q.1
  · exact q.2
theorem own_n1 {lw : Int32} {a b c d : Int64} (G : ¬ ((¬ a = c ∧ ¬ lw = (0 : Int32) ∧ a < c) ∨ (¬ a = c ∧ lw = (0 : Int32) ∧ c < a) ∨ (a = c ∧ b < d))) (h : ¬ a = c) (k : ¬ lw = (0 : Int32)) : ¬ a < c := fun q => G (Or.inl ⟨h, k, q⟩)
theorem own_n2 {lw : Int32} {a b c d : Int64} (G : ¬ ((¬ a = c ∧ ¬ lw = (0 : Int32) ∧ a < c) ∨ (¬ a = c ∧ lw = (0 : Int32) ∧ c < a) ∨ (a = c ∧ b < d))) (h : ¬ a = c) (k : lw = (0 : Int32)) : ¬ c < a := fun q => G (Or.inr (Or.inl ⟨h, k, q⟩))
theorem own_n3 {lw : Int32} {a b c d : Int64} (G : ¬ ((¬ a = c ∧ ¬ lw = (0 : Int32) ∧ a < c) ∨ (¬ a = c ∧ lw = (0 : Int32) ∧ c < a) ∨ (a = c ∧ b < d))) (h : a = c) : ¬ b < d := fun q => G (Or.inr (Or.inr ⟨h, q⟩))
theorem own_not {a c : Int64} (h : ¬ a = c) (k : ¬ a < c) : c < a := by
  rw [Int64.lt_iff_toInt_lt] at *; rw [← Int64.toInt_inj] at h; omega
theorem own_asy {a c : Int64} (k : a < c) : ¬ c < a := by rw [Int64.lt_iff_toInt_lt] at *; omega
theorem own_b4 {lw : Int32} {a b c d : Int64} (G : ((¬ a = c ∧ ¬ lw = (0 : Int32) ∧ a < c) ∨ (¬ a = c ∧ lw = (0 : Int32) ∧ c < a) ∨ (a = c ∧ b < d))) (l : lw = (0 : Int32) ∨ lw = (1 : Int32)) (h : ¬ a = c) (k : a < c) : lw = (1 : Int32) := l.resolve_left fun q => own_asy k (own_b2 G h q)
theorem own_b5 {lw : Int32} {a b c d : Int64} (G : ((¬ a = c ∧ ¬ lw = (0 : Int32) ∧ a < c) ∨ (¬ a = c ∧ lw = (0 : Int32) ∧ c < a) ∨ (a = c ∧ b < d))) (l : lw = (0 : Int32) ∨ lw = (1 : Int32)) (h : ¬ a = c) (k : ¬ a < c) : lw = (0 : Int32) := Decidable.byContradiction fun q => k (own_b1 G h q)
theorem own_n4 {lw : Int32} {a b c d : Int64} (G : ¬ ((¬ a = c ∧ ¬ lw = (0 : Int32) ∧ a < c) ∨ (¬ a = c ∧ lw = (0 : Int32) ∧ c < a) ∨ (a = c ∧ b < d))) (l : lw = (0 : Int32) ∨ lw = (1 : Int32)) (h : ¬ a = c) (k : a < c) : ¬ lw = (1 : Int32) := fun q => own_n1 G h (by rw [q]; decide) k
theorem own_n5 {lw : Int32} {a b c d : Int64} (G : ¬ ((¬ a = c ∧ ¬ lw = (0 : Int32) ∧ a < c) ∨ (¬ a = c ∧ lw = (0 : Int32) ∧ c < a) ∨ (a = c ∧ b < d))) (l : lw = (0 : Int32) ∨ lw = (1 : Int32)) (h : ¬ a = c) (k : ¬ a < c) : ¬ lw = (0 : Int32) := fun q => own_n2 G h q (own_not h k)
theorem own_addne {b x y : Int64} (h : x ≠ y) : b + x ≠ b + y := by
  intro q
  have := congrArg (fun z => z - b) q
  simp only [Int64.add_comm b, Int64.add_sub_cancel] at this
  exact h this
def own_cacheL (Z : State) (ca : Nat) : Prop := ∃ cl : Cell, Arr Z Z.heap ca cl (.object "java/lang/Long") ∧ cl.slots.size = 256 ∧ ∀ j : Int32, ¬ j < 0 → j.toNatClampNeg < 256 → ∃ (a : Nat) (u : Int64), cl.slots[j.toNatClampNeg]? = some (.ref a) ∧ Exa Z Z.heap a "java/lang/Long" ∧ Fld Z Z.heap a "java/lang/Long" "value" "J" (.long u)
theorem own_cacheL_of {Z : State} {a0 : Array Value} {C n d : String} {ca : Nat} (ht : (Term.static C n d).eval a0 Z none [] Z = some (.ref ca)) (w1 : (Jvm.Cond.arrayOf (Term.static C n d) (.object "java/lang/Long")).value a0 Z none Z [] = some true) (w2 : (Jvm.Cond.eq (Term.length (Term.static C n d)) (Term.int 256)).value a0 Z none Z [] = some true)
    (w3 : (Jvm.Cond.all (Term.static C n d) (.and (.exactly (Term.elem (Term.static C n d) (Term.index 0)) "java/lang/Long") (.eq (Term.field (Term.elem (Term.static C n d) (Term.index 0)) "java/lang/Long" "value" "J") (Term.op1 Unary.i2l (Term.sub (Term.index 0) (Term.int 128)))))).value a0 Z none Z [] = some true) : own_cacheL Z ca := by
  obtain ⟨cl, A⟩ := Arr.start ht w1
  obtain ⟨l1, l2⟩ := own_len ht A w2
  have S : cl.slots.size = 256 := by
    have q := len_toInt l1
    rw [l2] at q
    have r : (256 : Int32).toInt = 256 := by decide
    omega
  refine ⟨cl, A, S, fun j hj hl => ?_⟩
  have q := Cond.all_elim ht (A.fin (Vm.Alike.refl _)) w3 _ (by rw [S]; exact hl)
  have q1 := (and_e q).1
  have q2 := (and_e q).2
  obtain ⟨x, ex⟩ := exa_v q1
  obtain ⟨x', y', e1, e2, k1, k2⟩ := cmp_v (Or.inl q2)
  have e3 : (Term.op1 Unary.i2l (Term.sub (Term.index 0) (Term.int 128))).eval a0 Z none [j.toNatClampNeg] Z = some (.long (j.toNatClampNeg.toInt32 - 128).toInt64) := by
    have := idx_at (args := a0) (first := Z) (o := none) (s := Z) hj
    simp [Term.eval, this, Unary.apply]
  cases e3.symm.trans e2
  obtain ⟨z, rfl⟩ := k2
  exact ⟨x, z, (elem_in ex (show (Term.static C n d).eval a0 Z none [j.toNatClampNeg] Z = some (.ref ca) from ht) (idx_at hj) A.1).2, exa_at ex q1, Fld.start ((fld_at ex).symm.trans e1)⟩
def Q_rm3 (Z : State) (self : Nat) (h0 : Heap) (n0 : Nat) (v_ : Option Value) (h : Heap) (L_ : List Loc) : Prop := (v_ = none) ∧ (Fr n0 L_) ∧ (h = h0)
theorem rm3 (l : Launch) (Z : State) (a0 : Array Value) (hw : ∀ d ∈ tables_1, d.before a0 Z = true) (ws : List Jvm.Cond) (self : Nat) (h0 : Heap) (n0 : Nat) (Z0 : n0 ≤ h0.size) :
    Con l Z y3 jdk_30_method_1_code 1 none ws (Rm 1 0 0 12) #[(.ref self)] h0 (Q_rm3 Z self h0 n0) := by
  refine Con.of (plainFor_of_name pn_3) fun p e s m below meth c s₁ hx hby hml hZ hown hnm hlk hret X0 e0 => ?_
  have N0 := Fr.nil n0
  have hc := And.intro hx hby
  refine Comes.cast (ef_rm3 m self) ?_
  refine cs (fun t k => xaloadN X0 hc d3_0 rfl rfl k) ?_
  obtain ⟨T1, X1, e1, st1⟩ := initO X0 hx hZ hown (W hw 21) (W hw 22) (W hw 23) e0 (g := (mkF m 1 #[vr self] [(.ref self)])) rfl (by rw [hml]; rfl) rfl (hb hby d3_1) dd (W := 0) (by show 2 * 0 + _ ≤ _; exact Nat.le_of_eq rfl) dd
  refine Comes.st st1 ?_
  show Comes p e below _ (T1.setTop (mkF m 4 #[vr self] []))
  exact Comes.ret0 X1 hx hret hlk (hb hby d3_4) e1 ⟨rfl, N0, rfl⟩ dd dd
def Q_rm1 (Z : State) (ca : Nat) (h0 : Heap) (n0 : Nat) (v_ : Option Value) (h : Heap) (L_ : List Loc) : Prop := ∃ (r : Nat), ∃ (uu : Int64), (v_ = some (.ref r)) ∧ (Fr n0 L_) ∧ (h = h0) ∧ (Exa Z h r "java/lang/Long") ∧ (Fld Z h r "java/lang/Long" "value" "J" (.long uu))
theorem rm1 (l : Launch) (Z : State) (a0 : Array Value) (hw : ∀ d ∈ tables_1, d.before a0 Z = true) (ws : List Jvm.Cond) (ca : Nat) (h0 : Heap) (n0 : Nat) (Z0 : n0 ≤ h0.size) (G0 : Sta Z Z.heap "java/lang/Long$LongCache" "cache" "[Ljava/lang/Long;" (.ref ca)) (G1 : Old Z n0 h0) (G2 : own_cacheL Z ca) :
    Con l Z y1 jdk_35_method_24_code 3 (some (.object "java/lang/Long")) ws (Rm 0 0 0 0) #[(.long (1 : Int64))] h0 (Q_rm1 Z ca h0 n0) := by
  refine Con.of (plainFor_of_name pn_1) fun p e s m below meth c s₁ hx hby hml hZ hown hnm hlk hret X0 e0 => ?_
  have N0 := Fr.nil n0
  have hc := And.intro hx hby
  refine Comes.cast (ef_rm1 m ) ?_
  refine cs (fun t k => XS.sipush X0.here hx rfl (hb hby d1_0) (xistoreN X0 hc d1_3 rfl rfl (XS.lloadN X0.here hx rfl (hb hby d1_4) rfl (X0.ldc2Long hx hown (mvT hZ (W hw 9)) (g := (mkF m 5 #[vj (1 : Int64), S2, vi (128 : Int32)] [(.long (1 : Int64))])) rfl (hb hby d1_5) _ (XS.lcmp X0.here hx rfl (hb hby d1_8) rfl k))))) ?_
  have hc9_1 : ¬ ((1 : Int64) < (-128 : Int64)) := by decide
  refine cs (fun t k => xifNo X0 hc d1_9 rfl ((if0 _ _).trans (flt (fun q => hc9_1 ((lw_lt _ _).mp q))).1) (XS.lloadN X0.here hx rfl (hb hby d1_12) rfl (X0.ldc2Long hx hown (mvT hZ (W hw 10)) (g := (mkF m 13 #[vj (1 : Int64), S2, vi (128 : Int32)] [(.long (1 : Int64))])) rfl (hb hby d1_13) _ (XS.lcmp X0.here hx rfl (hb hby d1_16) rfl k)))) ?_
  show Comes p e below _ (s₁.setTop (mkF m 17 #[vj (1 : Int64), S2, vi (128 : Int32)] [(.int (lcmpW (1 : Int64) (127 : Int64)))]))
  have hc17_2 : ¬ ((127 : Int64) < (1 : Int64)) := by decide
  refine cs (fun t k => xifNo X0 hc d1_17 rfl ((if0 _ _).trans (flt (fun q => hc17_2 ((lw_gt _ _).mp q))).2.2.1) k) ?_
  obtain ⟨T3, X3, e3, st3⟩ := getS2 X0 hx hZ hown (host := "") (Or.inl (W hw 11)) Via.refl e0 (G0.ext G1.2) (g := (mkF m 20 #[vj (1 : Int64), S2, vi (128 : Int32)] [])) rfl (hb hby d1_20)
  refine Comes.st st3 ?_
  refine cs (fun t k => XS.lloadN X3.here hx rfl (hb hby d1_23) rfl (XS.l2i X3.here hx rfl (hb hby d1_24) rfl k)) ?_
  show Comes p e below _ (T3.setTop (mkF m 25 #[vj (1 : Int64), S2, vi (128 : Int32)] [(.int ((1 : Int64).toInt32)), (.ref ca)]))
  rw [show ((1 : Int64).toInt32) = (1 : Int32) from by decide]
  refine cs (fun t k => XS.sipush X3.here hx rfl (hb hby d1_25) (xiadd X3 hc d1_28 rfl k)) ?_
  show Comes p e below _ (T3.setTop (mkF m 29 #[vj (1 : Int64), S2, vi (128 : Int32)] [(.int ((1 : Int32) + (128 : Int32))), (.ref ca)]))
  rw [show ((1 : Int32) + (128 : Int32)) = (129 : Int32) from by decide]
  obtain ⟨cl4, Ar4, S4, H4⟩ := id G2
  obtain ⟨o4, u4, hat4, Eo4, Fo4⟩ := H4 (129 : Int32) dd dd
  have Er4 := Ar4.ext G1.2
  have Ee4 := Eo4.ext G1.2
  have Ef4 := Fo4.ext G1.2
  have hin4 : ¬ ((129 : Int32) < 0 ∨ cl4.slots.size ≤ ((129 : Int32)).toNatClampNeg) := by rw [S4]; decide
  refine cs (fun t k => X3.aaload hx (j := (129 : Int32)) (v := (.ref o4)) (by rw [e3]; exact Er4.1) (State.isArrayOf_alike hZ.alike Er4.2.1) rfl Er4.2.2 hin4 hat4 (g := (mkF m 29 #[vj (1 : Int64), S2, vi (128 : Int32)] [(.int (129 : Int32)), (.ref ca)])) rfl rfl (hb hby d1_29) _ k) ?_
  have lt_o4 : o4 < h0.size := Ee4.lt
  show Comes p e below _ (T3.setTop (mkF m 30 #[vj (1 : Int64), S2, vi (128 : Int32)] [(.ref o4)]))
  exact Comes.retV X3 hx hret (narrow_ref rfl) (Or.inr (Or.inr (Or.inr (Or.inr ⟨rfl, rfl, rfl⟩)))) hlk (hb hby d1_30) e3 ⟨o4, u4, rfl, N0, rfl, Ee4, Ef4⟩ dd dd
def Q_rm2 (Z : State) (self lo : Nat) (h0 : Heap) (n0 : Nat) (v_ : Option Value) (h : Heap) (L_ : List Loc) : Prop := (v_ = none) ∧ (Fr n0 L_) ∧ (Keep h0 h [self]) ∧ (Exa Z h self sEo) ∧ (Fld Z h self sEo "time" "Ljava/lang/String;" .null) ∧ (Fld Z h self sEo "participant" "Ljava/lang/String;" .null) ∧ (Fld Z h self sEo "side" "Ljava/lang/String;" .null) ∧ (Fld Z h self sEo "isin" "Ljava/lang/String;" .null) ∧ (Fld Z h self sEo "size" "Ljava/lang/Long;" (.ref lo)) ∧ (Fld Z h self sEo "rate" "Ljava/math/BigDecimal;" .null) ∧ (Fld Z h self sEo "ref" "Ljava/lang/String;" .null) ∧ (Fld Z h self sEo "expiry" "Ljava/time/LocalDate;" .null)
theorem rm2 (l : Launch) (Z : State) (a0 : Array Value) (hw : ∀ d ∈ tables_1, d.before a0 Z = true) (ws : List Jvm.Cond) (self lo : Nat) (h0 : Heap) (n0 : Nat) (Z0 : n0 ≤ h0.size) (G0 : Exa Z h0 self sEo) (G1 : Fld Z h0 self sEo "time" "Ljava/lang/String;" .null) (G2 : Fld Z h0 self sEo "participant" "Ljava/lang/String;" .null) (G3 : Fld Z h0 self sEo "side" "Ljava/lang/String;" .null) (G4 : Fld Z h0 self sEo "isin" "Ljava/lang/String;" .null) (G5 : Fld Z h0 self sEo "size" "Ljava/lang/Long;" .null) (G6 : Fld Z h0 self sEo "rate" "Ljava/math/BigDecimal;" .null) (G7 : Fld Z h0 self sEo "ref" "Ljava/lang/String;" .null) (G8 : Fld Z h0 self sEo "expiry" "Ljava/time/LocalDate;" .null) (G9 : n0 ≤ self) :
    Con l Z y2 prog_45_method_1_code 9 none ws (Rm 2 0 0 24) #[(.ref self), .null, .null, .null, .null, (.ref lo), .null, .null, .null] h0 (Q_rm2 Z self lo h0 n0) := by
  refine Con.of (plainFor_of_name pn_2) fun p e s m below meth c s₁ hx hby hml hZ hown hnm hlk hret X0 e0 => ?_
  have N0 := Fr.nil n0
  have hc := And.intro hx hby
  have K0 := Keep.refl h0 [self]
  refine Comes.cast (ef_rm2 m self lo) ?_
  have lt_self : self < h0.size := G0.lt
  refine cs (fun t k => xaloadN X0 hc d2_0 rfl rfl k) ?_
  refine Comes.cI X0 hx hZ hown (y := y3) (W := 0) (W hw 16) (W hw 17) rfl dd (W hw 20) (rm3 l Z a0 hw [] self h0 n0 (by omega)  ) (W hw 19) dd dd e0 rfl (by rw [hml]; rfl) (argsL := []) (rest := []) (lenOf pd_0 rfl) rfl (wle rfl) (hb hby d2_1) rfl dd dd fun v1 T1 L1 hQ1 X1 => ?_
  obtain ⟨rfl, Nq1, hs1⟩ := hQ1
  have N1 := Fr.app N0 Nq1
  refine cs (fun t k => xaloadN X1 hc d2_4 rfl rfl (xaloadN X1 hc d2_5 rfl rfl k)) ?_
  refine Comes.pF X1 hx hZ hown (host := "") (Or.inl (W hw 24)) Via.refl hs1 G1 G0 (Or.inr ⟨(W hw 25), rfl, hnm⟩) (W hw 3) (ty := (.object "java/lang/String")) dd rfl rfl rfl rfl (hb hby d2_6) fun T2 h2 X2 e2 W2 Fw2 => ?_
  have z2 : h2.size = h0.size := W2.size
  have N2 := Fr.snoc X2 N1 G9
  have K2 := K0.wr W2 (mE 0)
  refine cs (fun t k => xaloadN X2 hc d2_9 rfl rfl (xaloadN X2 hc d2_10 rfl rfl k)) ?_
  have F3 := (G0.wr W2)
  have F4 := (G2.other W2 (Or.inr (slot_ne (Or.inr (W hw 27)) (Or.inr (W hw 25)) dd (t := (.object "java/lang/String")) (t' := (.object "java/lang/String")) dd dd)))
  refine Comes.pF X2 hx hZ hown (host := "") (Or.inl (W hw 26)) Via.refl e2 F4 F3 (Or.inr ⟨(W hw 27), rfl, hnm⟩) (W hw 3) (ty := (.object "java/lang/String")) dd rfl rfl rfl rfl (hb hby d2_11) fun T5 h5 X5 e5 W5 Fw5 => ?_
  have z5 : h5.size = h2.size := W5.size
  have N5 := Fr.snoc X5 N2 G9
  have K5 := K2.wr W5 (mE 0)
  show Comes p e below _ (T5.setTop (mkF m 14 #[vr self, .val .null, .val .null, .val .null, .val .null, vr lo, .val .null, .val .null, .val .null] []))
  refine cs (fun t k => xaloadN X5 hc d2_14 rfl rfl (xaloadN X5 hc d2_15 rfl rfl k)) ?_
  have F6 := (F3.wr W5)
  have F7 := ((G3.other W2 (Or.inr (slot_ne (Or.inr (W hw 29)) (Or.inr (W hw 25)) dd (t := (.object "java/lang/String")) (t' := (.object "java/lang/String")) dd dd))).other W5 (Or.inr (slot_ne (Or.inr (W hw 29)) (Or.inr (W hw 27)) dd (t := (.object "java/lang/String")) (t' := (.object "java/lang/String")) dd dd)))
  refine Comes.pF X5 hx hZ hown (host := "") (Or.inl (W hw 28)) Via.refl e5 F7 F6 (Or.inr ⟨(W hw 29), rfl, hnm⟩) (W hw 3) (ty := (.object "java/lang/String")) dd rfl rfl rfl rfl (hb hby d2_16) fun T8 h8 X8 e8 W8 Fw8 => ?_
  have z8 : h8.size = h5.size := W8.size
  have N8 := Fr.snoc X8 N5 G9
  have K8 := K5.wr W8 (mE 0)
  refine cs (fun t k => xaloadN X8 hc d2_19 rfl rfl (xaload X8 hc d2_20 rfl rfl k)) ?_
  have F9 := (F6.wr W8)
  have F10 := (((G4.other W2 (Or.inr (slot_ne (Or.inr (W hw 31)) (Or.inr (W hw 25)) dd (t := (.object "java/lang/String")) (t' := (.object "java/lang/String")) dd dd))).other W5 (Or.inr (slot_ne (Or.inr (W hw 31)) (Or.inr (W hw 27)) dd (t := (.object "java/lang/String")) (t' := (.object "java/lang/String")) dd dd))).other W8 (Or.inr (slot_ne (Or.inr (W hw 31)) (Or.inr (W hw 29)) dd (t := (.object "java/lang/String")) (t' := (.object "java/lang/String")) dd dd)))
  refine Comes.pF X8 hx hZ hown (host := "") (Or.inl (W hw 30)) Via.refl e8 F10 F9 (Or.inr ⟨(W hw 31), rfl, hnm⟩) (W hw 3) (ty := (.object "java/lang/String")) dd rfl rfl rfl rfl (hb hby d2_22) fun T11 h11 X11 e11 W11 Fw11 => ?_
  have z11 : h11.size = h8.size := W11.size
  have N11 := Fr.snoc X11 N8 G9
  have K11 := K8.wr W11 (mE 0)
  refine cs (fun t k => xaloadN X11 hc d2_25 rfl rfl (xaload X11 hc d2_26 rfl rfl k)) ?_
  have F12 := (F9.wr W11)
  have F13 := ((((G5.other W2 (Or.inr (slot_ne (Or.inr (W hw 33)) (Or.inr (W hw 25)) dd (t := (.object "java/lang/Long")) (t' := (.object "java/lang/String")) dd dd))).other W5 (Or.inr (slot_ne (Or.inr (W hw 33)) (Or.inr (W hw 27)) dd (t := (.object "java/lang/Long")) (t' := (.object "java/lang/String")) dd dd))).other W8 (Or.inr (slot_ne (Or.inr (W hw 33)) (Or.inr (W hw 29)) dd (t := (.object "java/lang/Long")) (t' := (.object "java/lang/String")) dd dd))).other W11 (Or.inr (slot_ne (Or.inr (W hw 33)) (Or.inr (W hw 31)) dd (t := (.object "java/lang/Long")) (t' := (.object "java/lang/String")) dd dd)))
  refine Comes.pF X11 hx hZ hown (host := "") (Or.inl (W hw 32)) Via.refl e11 F13 F12 (Or.inr ⟨(W hw 33), rfl, hnm⟩) (W hw 3) (ty := (.object "java/lang/Long")) dd rfl rfl rfl rfl (hb hby d2_28) fun T14 h14 X14 e14 W14 Fw14 => ?_
  have z14 : h14.size = h11.size := W14.size
  have N14 := Fr.snoc X14 N11 G9
  have K14 := K11.wr W14 (mE 0)
  show Comes p e below _ (T14.setTop (mkF m 31 #[vr self, .val .null, .val .null, .val .null, .val .null, vr lo, .val .null, .val .null, .val .null] []))
  refine cs (fun t k => xaloadN X14 hc d2_31 rfl rfl (xaload X14 hc d2_32 rfl rfl k)) ?_
  have F15 := (F12.wr W14)
  have F16 := (((((G6.other W2 (Or.inr (slot_ne (Or.inr (W hw 35)) (Or.inr (W hw 25)) dd (t := (.object "java/math/BigDecimal")) (t' := (.object "java/lang/String")) dd dd))).other W5 (Or.inr (slot_ne (Or.inr (W hw 35)) (Or.inr (W hw 27)) dd (t := (.object "java/math/BigDecimal")) (t' := (.object "java/lang/String")) dd dd))).other W8 (Or.inr (slot_ne (Or.inr (W hw 35)) (Or.inr (W hw 29)) dd (t := (.object "java/math/BigDecimal")) (t' := (.object "java/lang/String")) dd dd))).other W11 (Or.inr (slot_ne (Or.inr (W hw 35)) (Or.inr (W hw 31)) dd (t := (.object "java/math/BigDecimal")) (t' := (.object "java/lang/String")) dd dd))).other W14 (Or.inr (slot_ne (Or.inr (W hw 35)) (Or.inr (W hw 33)) dd (t := (.object "java/math/BigDecimal")) (t' := (.object "java/lang/Long")) dd dd)))
  refine Comes.pF X14 hx hZ hown (host := "") (Or.inl (W hw 34)) Via.refl e14 F16 F15 (Or.inr ⟨(W hw 35), rfl, hnm⟩) (W hw 3) (ty := (.object "java/math/BigDecimal")) dd rfl rfl rfl rfl (hb hby d2_34) fun T17 h17 X17 e17 W17 Fw17 => ?_
  have z17 : h17.size = h14.size := W17.size
  have N17 := Fr.snoc X17 N14 G9
  have K17 := K14.wr W17 (mE 0)
  refine cs (fun t k => xaloadN X17 hc d2_37 rfl rfl (xaload X17 hc d2_38 rfl rfl k)) ?_
  have F18 := (F15.wr W17)
  have F19 := ((((((G7.other W2 (Or.inr (slot_ne (Or.inr (W hw 37)) (Or.inr (W hw 25)) dd (t := (.object "java/lang/String")) (t' := (.object "java/lang/String")) dd dd))).other W5 (Or.inr (slot_ne (Or.inr (W hw 37)) (Or.inr (W hw 27)) dd (t := (.object "java/lang/String")) (t' := (.object "java/lang/String")) dd dd))).other W8 (Or.inr (slot_ne (Or.inr (W hw 37)) (Or.inr (W hw 29)) dd (t := (.object "java/lang/String")) (t' := (.object "java/lang/String")) dd dd))).other W11 (Or.inr (slot_ne (Or.inr (W hw 37)) (Or.inr (W hw 31)) dd (t := (.object "java/lang/String")) (t' := (.object "java/lang/String")) dd dd))).other W14 (Or.inr (slot_ne (Or.inr (W hw 37)) (Or.inr (W hw 33)) dd (t := (.object "java/lang/String")) (t' := (.object "java/lang/Long")) dd dd))).other W17 (Or.inr (slot_ne (Or.inr (W hw 37)) (Or.inr (W hw 35)) dd (t := (.object "java/lang/String")) (t' := (.object "java/math/BigDecimal")) dd dd)))
  refine Comes.pF X17 hx hZ hown (host := "") (Or.inl (W hw 36)) Via.refl e17 F19 F18 (Or.inr ⟨(W hw 37), rfl, hnm⟩) (W hw 3) (ty := (.object "java/lang/String")) dd rfl rfl rfl rfl (hb hby d2_40) fun T20 h20 X20 e20 W20 Fw20 => ?_
  have z20 : h20.size = h17.size := W20.size
  have N20 := Fr.snoc X20 N17 G9
  have K20 := K17.wr W20 (mE 0)
  refine cs (fun t k => xaloadN X20 hc d2_43 rfl rfl (xaload X20 hc d2_44 rfl rfl k)) ?_
  have F21 := (F18.wr W20)
  have F22 := (((((((G8.other W2 (Or.inr (slot_ne (Or.inr (W hw 39)) (Or.inr (W hw 25)) dd (t := (.object "java/time/LocalDate")) (t' := (.object "java/lang/String")) dd dd))).other W5 (Or.inr (slot_ne (Or.inr (W hw 39)) (Or.inr (W hw 27)) dd (t := (.object "java/time/LocalDate")) (t' := (.object "java/lang/String")) dd dd))).other W8 (Or.inr (slot_ne (Or.inr (W hw 39)) (Or.inr (W hw 29)) dd (t := (.object "java/time/LocalDate")) (t' := (.object "java/lang/String")) dd dd))).other W11 (Or.inr (slot_ne (Or.inr (W hw 39)) (Or.inr (W hw 31)) dd (t := (.object "java/time/LocalDate")) (t' := (.object "java/lang/String")) dd dd))).other W14 (Or.inr (slot_ne (Or.inr (W hw 39)) (Or.inr (W hw 33)) dd (t := (.object "java/time/LocalDate")) (t' := (.object "java/lang/Long")) dd dd))).other W17 (Or.inr (slot_ne (Or.inr (W hw 39)) (Or.inr (W hw 35)) dd (t := (.object "java/time/LocalDate")) (t' := (.object "java/math/BigDecimal")) dd dd))).other W20 (Or.inr (slot_ne (Or.inr (W hw 39)) (Or.inr (W hw 37)) dd (t := (.object "java/time/LocalDate")) (t' := (.object "java/lang/String")) dd dd)))
  refine Comes.pF X20 hx hZ hown (host := "") (Or.inl (W hw 38)) Via.refl e20 F22 F21 (Or.inr ⟨(W hw 39), rfl, hnm⟩) (W hw 3) (ty := (.object "java/time/LocalDate")) dd rfl rfl rfl rfl (hb hby d2_46) fun T23 h23 X23 e23 W23 Fw23 => ?_
  have z23 : h23.size = h20.size := W23.size
  have N23 := Fr.snoc X23 N20 G9
  have K23 := K20.wr W23 (mE 0)
  show Comes p e below _ (T23.setTop (mkF m 49 #[vr self, .val .null, .val .null, .val .null, .val .null, vr lo, .val .null, .val .null, .val .null] []))
  show Comes p e below _ (T23.setTop (mkF m 49 #[vr self, .val .null, .val .null, .val .null, .val .null, vr lo, .val .null, .val .null, .val .null] []))
  have F24 := (F21.wr W23)
  have F25 := (((((((Fw2.other W5 (Or.inr (slot_ne (Or.inr (W hw 25)) (Or.inr (W hw 27)) dd (t := (.object "java/lang/String")) (t' := (.object "java/lang/String")) dd dd))).other W8 (Or.inr (slot_ne (Or.inr (W hw 25)) (Or.inr (W hw 29)) dd (t := (.object "java/lang/String")) (t' := (.object "java/lang/String")) dd dd))).other W11 (Or.inr (slot_ne (Or.inr (W hw 25)) (Or.inr (W hw 31)) dd (t := (.object "java/lang/String")) (t' := (.object "java/lang/String")) dd dd))).other W14 (Or.inr (slot_ne (Or.inr (W hw 25)) (Or.inr (W hw 33)) dd (t := (.object "java/lang/String")) (t' := (.object "java/lang/Long")) dd dd))).other W17 (Or.inr (slot_ne (Or.inr (W hw 25)) (Or.inr (W hw 35)) dd (t := (.object "java/lang/String")) (t' := (.object "java/math/BigDecimal")) dd dd))).other W20 (Or.inr (slot_ne (Or.inr (W hw 25)) (Or.inr (W hw 37)) dd (t := (.object "java/lang/String")) (t' := (.object "java/lang/String")) dd dd))).other W23 (Or.inr (slot_ne (Or.inr (W hw 25)) (Or.inr (W hw 39)) dd (t := (.object "java/lang/String")) (t' := (.object "java/time/LocalDate")) dd dd)))
  have F26 := ((((((Fw5.other W8 (Or.inr (slot_ne (Or.inr (W hw 27)) (Or.inr (W hw 29)) dd (t := (.object "java/lang/String")) (t' := (.object "java/lang/String")) dd dd))).other W11 (Or.inr (slot_ne (Or.inr (W hw 27)) (Or.inr (W hw 31)) dd (t := (.object "java/lang/String")) (t' := (.object "java/lang/String")) dd dd))).other W14 (Or.inr (slot_ne (Or.inr (W hw 27)) (Or.inr (W hw 33)) dd (t := (.object "java/lang/String")) (t' := (.object "java/lang/Long")) dd dd))).other W17 (Or.inr (slot_ne (Or.inr (W hw 27)) (Or.inr (W hw 35)) dd (t := (.object "java/lang/String")) (t' := (.object "java/math/BigDecimal")) dd dd))).other W20 (Or.inr (slot_ne (Or.inr (W hw 27)) (Or.inr (W hw 37)) dd (t := (.object "java/lang/String")) (t' := (.object "java/lang/String")) dd dd))).other W23 (Or.inr (slot_ne (Or.inr (W hw 27)) (Or.inr (W hw 39)) dd (t := (.object "java/lang/String")) (t' := (.object "java/time/LocalDate")) dd dd)))
  have F27 := (((((Fw8.other W11 (Or.inr (slot_ne (Or.inr (W hw 29)) (Or.inr (W hw 31)) dd (t := (.object "java/lang/String")) (t' := (.object "java/lang/String")) dd dd))).other W14 (Or.inr (slot_ne (Or.inr (W hw 29)) (Or.inr (W hw 33)) dd (t := (.object "java/lang/String")) (t' := (.object "java/lang/Long")) dd dd))).other W17 (Or.inr (slot_ne (Or.inr (W hw 29)) (Or.inr (W hw 35)) dd (t := (.object "java/lang/String")) (t' := (.object "java/math/BigDecimal")) dd dd))).other W20 (Or.inr (slot_ne (Or.inr (W hw 29)) (Or.inr (W hw 37)) dd (t := (.object "java/lang/String")) (t' := (.object "java/lang/String")) dd dd))).other W23 (Or.inr (slot_ne (Or.inr (W hw 29)) (Or.inr (W hw 39)) dd (t := (.object "java/lang/String")) (t' := (.object "java/time/LocalDate")) dd dd)))
  have F28 := ((((Fw11.other W14 (Or.inr (slot_ne (Or.inr (W hw 31)) (Or.inr (W hw 33)) dd (t := (.object "java/lang/String")) (t' := (.object "java/lang/Long")) dd dd))).other W17 (Or.inr (slot_ne (Or.inr (W hw 31)) (Or.inr (W hw 35)) dd (t := (.object "java/lang/String")) (t' := (.object "java/math/BigDecimal")) dd dd))).other W20 (Or.inr (slot_ne (Or.inr (W hw 31)) (Or.inr (W hw 37)) dd (t := (.object "java/lang/String")) (t' := (.object "java/lang/String")) dd dd))).other W23 (Or.inr (slot_ne (Or.inr (W hw 31)) (Or.inr (W hw 39)) dd (t := (.object "java/lang/String")) (t' := (.object "java/time/LocalDate")) dd dd)))
  have F29 := (((Fw14.other W17 (Or.inr (slot_ne (Or.inr (W hw 33)) (Or.inr (W hw 35)) dd (t := (.object "java/lang/Long")) (t' := (.object "java/math/BigDecimal")) dd dd))).other W20 (Or.inr (slot_ne (Or.inr (W hw 33)) (Or.inr (W hw 37)) dd (t := (.object "java/lang/Long")) (t' := (.object "java/lang/String")) dd dd))).other W23 (Or.inr (slot_ne (Or.inr (W hw 33)) (Or.inr (W hw 39)) dd (t := (.object "java/lang/Long")) (t' := (.object "java/time/LocalDate")) dd dd)))
  have F30 := ((Fw17.other W20 (Or.inr (slot_ne (Or.inr (W hw 35)) (Or.inr (W hw 37)) dd (t := (.object "java/math/BigDecimal")) (t' := (.object "java/lang/String")) dd dd))).other W23 (Or.inr (slot_ne (Or.inr (W hw 35)) (Or.inr (W hw 39)) dd (t := (.object "java/math/BigDecimal")) (t' := (.object "java/time/LocalDate")) dd dd)))
  have F31 := (Fw20.other W23 (Or.inr (slot_ne (Or.inr (W hw 37)) (Or.inr (W hw 39)) dd (t := (.object "java/lang/String")) (t' := (.object "java/time/LocalDate")) dd dd)))
  exact Comes.ret0 X23 hx hret hlk (hb hby d2_49) e23 ⟨rfl, N23, K23, F24, F25, F26, F27, F28, F29, F30, F31, Fw23⟩ dd dd
def Q_rm9 (Z : State) (self : Nat) (h0 : Heap) (n0 : Nat) (v_ : Option Value) (h : Heap) (L_ : List Loc) : Prop := (v_ = some .null) ∧ (Fr n0 L_) ∧ (h = h0)
theorem rm9 (l : Launch) (Z : State) (a0 : Array Value) (hw : ∀ d ∈ tables_1, d.before a0 Z = true) (ws : List Jvm.Cond) (self : Nat) (h0 : Heap) (n0 : Nat) (Z0 : n0 ≤ h0.size) (G0 : Fld Z h0 self sEo "time" "Ljava/lang/String;" .null) :
    Con l Z y9 prog_45_method_5_code 1 (some (.object "java/lang/String")) ws (Rm 0 0 0 0) #[(.ref self)] h0 (Q_rm9 Z self h0 n0) := by
  refine Con.of (plainFor_of_name pn_9) fun p e s m below meth c s₁ hx hby hml hZ hown hnm hlk hret X0 e0 => ?_
  have N0 := Fr.nil n0
  have hc := And.intro hx hby
  refine Comes.cast (ef_rm3 m self) ?_
  have lt_self : self < h0.size := G0.lt
  refine cs (fun t k => xaloadN X0 hc d9_0 rfl rfl k) ?_
  refine Comes.gF X0 hx hZ hown (host := "") (Or.inl (W hw 24)) Via.refl e0 G0 rfl rfl (hb hby d9_1) fun T1 X1 e1 => ?_
  show Comes p e below _ (T1.setTop (mkF m 4 #[vr self] [.null]))
  exact Comes.retV X1 hx hret (narrow_ref rfl) (Or.inr (Or.inr (Or.inr (Or.inr ⟨rfl, rfl, rfl⟩)))) hlk (hb hby d9_4) e1 ⟨rfl, N0, rfl⟩ dd dd
def Q_rm6 (Z : State) (self : Nat) (h0 : Heap) (n0 : Nat) (v_ : Option Value) (h : Heap) (L_ : List Loc) : Prop := (v_ = some .null) ∧ (Fr n0 L_) ∧ (h = h0)
theorem rm6 (l : Launch) (Z : State) (a0 : Array Value) (hw : ∀ d ∈ tables_1, d.before a0 Z = true) (ws : List Jvm.Cond) (self : Nat) (h0 : Heap) (n0 : Nat) (Z0 : n0 ≤ h0.size) (G0 : Fld Z h0 self sEo "participant" "Ljava/lang/String;" .null) :
    Con l Z y6 prog_45_method_6_code 1 (some (.object "java/lang/String")) ws (Rm 0 0 0 0) #[(.ref self)] h0 (Q_rm6 Z self h0 n0) := by
  refine Con.of (plainFor_of_name pn_6) fun p e s m below meth c s₁ hx hby hml hZ hown hnm hlk hret X0 e0 => ?_
  have N0 := Fr.nil n0
  have hc := And.intro hx hby
  refine Comes.cast (ef_rm3 m self) ?_
  have lt_self : self < h0.size := G0.lt
  refine cs (fun t k => xaloadN X0 hc d6_0 rfl rfl k) ?_
  refine Comes.gF X0 hx hZ hown (host := "") (Or.inl (W hw 26)) Via.refl e0 G0 rfl rfl (hb hby d6_1) fun T1 X1 e1 => ?_
  show Comes p e below _ (T1.setTop (mkF m 4 #[vr self] [.null]))
  exact Comes.retV X1 hx hret (narrow_ref rfl) (Or.inr (Or.inr (Or.inr (Or.inr ⟨rfl, rfl, rfl⟩)))) hlk (hb hby d6_4) e1 ⟨rfl, N0, rfl⟩ dd dd
def Q_rm10 (Z : State) (self : Nat) (h0 : Heap) (n0 : Nat) (v_ : Option Value) (h : Heap) (L_ : List Loc) : Prop := (v_ = some .null) ∧ (Fr n0 L_) ∧ (h = h0)
theorem rm10 (l : Launch) (Z : State) (a0 : Array Value) (hw : ∀ d ∈ tables_1, d.before a0 Z = true) (ws : List Jvm.Cond) (self : Nat) (h0 : Heap) (n0 : Nat) (Z0 : n0 ≤ h0.size) (G0 : Fld Z h0 self sEo "ref" "Ljava/lang/String;" .null) :
    Con l Z y10 prog_45_method_11_code 1 (some (.object "java/lang/String")) ws (Rm 0 0 0 0) #[(.ref self)] h0 (Q_rm10 Z self h0 n0) := by
  refine Con.of (plainFor_of_name pn_10) fun p e s m below meth c s₁ hx hby hml hZ hown hnm hlk hret X0 e0 => ?_
  have N0 := Fr.nil n0
  have hc := And.intro hx hby
  refine Comes.cast (ef_rm3 m self) ?_
  have lt_self : self < h0.size := G0.lt
  refine cs (fun t k => xaloadN X0 hc d10_0 rfl rfl k) ?_
  refine Comes.gF X0 hx hZ hown (host := "") (Or.inl (W hw 36)) Via.refl e0 G0 rfl rfl (hb hby d10_1) fun T1 X1 e1 => ?_
  show Comes p e below _ (T1.setTop (mkF m 4 #[vr self] [.null]))
  exact Comes.retV X1 hx hret (narrow_ref rfl) (Or.inr (Or.inr (Or.inr (Or.inr ⟨rfl, rfl, rfl⟩)))) hlk (hb hby d10_4) e1 ⟨rfl, N0, rfl⟩ dd dd
def Q_rm11 (Z : State) (self : Nat) (h0 : Heap) (n0 : Nat) (v_ : Option Value) (h : Heap) (L_ : List Loc) : Prop := (v_ = some .null) ∧ (Fr n0 L_) ∧ (h = h0)
theorem rm11 (l : Launch) (Z : State) (a0 : Array Value) (hw : ∀ d ∈ tables_1, d.before a0 Z = true) (ws : List Jvm.Cond) (self : Nat) (h0 : Heap) (n0 : Nat) (Z0 : n0 ≤ h0.size) (G0 : Fld Z h0 self sEo "expiry" "Ljava/time/LocalDate;" .null) :
    Con l Z y11 prog_45_method_12_code 1 (some (.object "java/time/LocalDate")) ws (Rm 0 0 0 0) #[(.ref self)] h0 (Q_rm11 Z self h0 n0) := by
  refine Con.of (plainFor_of_name pn_11) fun p e s m below meth c s₁ hx hby hml hZ hown hnm hlk hret X0 e0 => ?_
  have N0 := Fr.nil n0
  have hc := And.intro hx hby
  refine Comes.cast (ef_rm3 m self) ?_
  have lt_self : self < h0.size := G0.lt
  refine cs (fun t k => xaloadN X0 hc d11_0 rfl rfl k) ?_
  refine Comes.gF X0 hx hZ hown (host := "") (Or.inl (W hw 38)) Via.refl e0 G0 rfl rfl (hb hby d11_1) fun T1 X1 e1 => ?_
  show Comes p e below _ (T1.setTop (mkF m 4 #[vr self] [.null]))
  exact Comes.retV X1 hx hret (narrow_ref rfl) (Or.inr (Or.inr (Or.inr (Or.inr ⟨rfl, rfl, rfl⟩)))) hlk (hb hby d11_4) e1 ⟨rfl, N0, rfl⟩ dd dd
def Q_rm7 (Z : State) (self lo : Nat) (h0 : Heap) (n0 : Nat) (v_ : Option Value) (h : Heap) (L_ : List Loc) : Prop := (v_ = some (.ref lo)) ∧ (Fr n0 L_) ∧ (h = h0)
theorem rm7 (l : Launch) (Z : State) (a0 : Array Value) (hw : ∀ d ∈ tables_1, d.before a0 Z = true) (ws : List Jvm.Cond) (self lo : Nat) (h0 : Heap) (n0 : Nat) (Z0 : n0 ≤ h0.size) (G0 : Fld Z h0 self sEo "size" "Ljava/lang/Long;" (.ref lo)) :
    Con l Z y7 prog_45_method_9_code 1 (some (.object "java/lang/Long")) ws (Rm 0 0 0 0) #[(.ref self)] h0 (Q_rm7 Z self lo h0 n0) := by
  refine Con.of (plainFor_of_name pn_7) fun p e s m below meth c s₁ hx hby hml hZ hown hnm hlk hret X0 e0 => ?_
  have N0 := Fr.nil n0
  have hc := And.intro hx hby
  refine Comes.cast (ef_rm3 m self) ?_
  have lt_self : self < h0.size := G0.lt
  refine cs (fun t k => xaloadN X0 hc d7_0 rfl rfl k) ?_
  refine Comes.gF X0 hx hZ hown (host := "") (Or.inl (W hw 32)) Via.refl e0 G0 rfl rfl (hb hby d7_1) fun T1 X1 e1 => ?_
  show Comes p e below _ (T1.setTop (mkF m 4 #[vr self] [(.ref lo)]))
  exact Comes.retV X1 hx hret (narrow_ref rfl) (Or.inr (Or.inr (Or.inr (Or.inr ⟨rfl, rfl, rfl⟩)))) hlk (hb hby d7_4) e1 ⟨rfl, N0, rfl⟩ dd dd
def Q_rm8 (Z : State) (self : Nat) (lv : Int64) (h0 : Heap) (n0 : Nat) (v_ : Option Value) (h : Heap) (L_ : List Loc) : Prop := (v_ = some (.long lv)) ∧ (Fr n0 L_) ∧ (h = h0)
theorem rm8 (l : Launch) (Z : State) (a0 : Array Value) (hw : ∀ d ∈ tables_1, d.before a0 Z = true) (ws : List Jvm.Cond) (self : Nat) (lv : Int64) (h0 : Heap) (n0 : Nat) (Z0 : n0 ≤ h0.size) (G0 : Fld Z h0 self "java/lang/Long" "value" "J" (.long lv)) :
    Con l Z y8 jdk_35_method_31_code 1 (some .long) ws (Rm 0 0 0 0) #[(.ref self)] h0 (Q_rm8 Z self lv h0 n0) := by
  refine Con.of (plainFor_of_name pn_8) fun p e s m below meth c s₁ hx hby hml hZ hown hnm hlk hret X0 e0 => ?_
  have N0 := Fr.nil n0
  have hc := And.intro hx hby
  refine Comes.cast (ef_rm3 m self) ?_
  have lt_self : self < h0.size := G0.lt
  refine cs (fun t k => xaloadN X0 hc d8_0 rfl rfl k) ?_
  refine Comes.gF X0 hx hZ hown (host := "") (Or.inl (W hw 73)) Via.refl e0 G0 rfl rfl (hb hby d8_1) fun T1 X1 e1 => ?_
  show Comes p e below _ (T1.setTop (mkF m 4 #[vr self] [(.long lv)]))
  exact Comes.retV X1 hx hret rfl (Or.inr (Or.inl ⟨rfl, rfl, _, rfl⟩)) hlk (hb hby d8_4) e1 ⟨rfl, N0, rfl⟩ dd dd
def Q_rm5 (Z : State) (self : Nat) (nu ti : Int64) (cm lo : Nat) (lv : Int64) (h0 : Heap) (n0 : Nat) (v_ : Option Value) (h : Heap) (L_ : List Loc) : Prop := (v_ = none) ∧ (Fr n0 L_) ∧ (Keep h0 h [self]) ∧ (Exa Z h self sOr) ∧ (Fld Z h self sOr "number" "J" (.long nu)) ∧ (Fld Z h self sOr "ticks" "J" (.long ti)) ∧ (Fld Z h self sOr "after" dOr .null)
theorem rm5 (l : Launch) (Z : State) (a0 : Array Value) (hw : ∀ d ∈ tables_1, d.before a0 Z = true) (ws : List Jvm.Cond) (self : Nat) (nu ti : Int64) (cm lo : Nat) (lv : Int64) (h0 : Heap) (n0 : Nat) (Z0 : n0 ≤ h0.size) (G0 : Exa Z h0 self sOr) (G1 : Fld Z h0 self sOr "book" "Lcom/example/tenorbook/tenorbook/engine/OrderBook;" .null) (G2 : Fld Z h0 self sOr "number" "J" (.long (0 : Int64))) (G3 : Fld Z h0 self sOr "participant" "Ljava/lang/String;" .null) (G4 : Fld Z h0 self sOr "side" "Lcom/example/tenorbook/tenorbook/model/Side;" .null) (G5 : Fld Z h0 self sOr "ticks" "J" (.long (0 : Int64))) (G6 : Fld Z h0 self sOr "remaining" "J" (.long (0 : Int64))) (G7 : Fld Z h0 self sOr "time" "Ljava/lang/String;" .null) (G8 : Fld Z h0 self sOr "ref" "Ljava/lang/String;" .null) (G9 : Fld Z h0 self sOr "expiry" "Ljava/time/LocalDate;" .null) (G10 : Fld Z h0 self sOr "after" dOr .null) (G11 : Exa Z h0 cm sEo) (G12 : Fld Z h0 cm sEo "time" "Ljava/lang/String;" .null) (G13 : Fld Z h0 cm sEo "participant" "Ljava/lang/String;" .null) (G14 : Fld Z h0 cm sEo "size" "Ljava/lang/Long;" (.ref lo)) (G15 : Fld Z h0 cm sEo "ref" "Ljava/lang/String;" .null) (G16 : Fld Z h0 cm sEo "expiry" "Ljava/time/LocalDate;" .null) (G17 : Exa Z h0 lo "java/lang/Long") (G18 : Fld Z h0 lo "java/lang/Long" "value" "J" (.long lv)) (G19 : n0 ≤ self) (G20 : self ≠ cm) (G21 : self ≠ lo) :
    Con l Z y5 prog_22_method_1_code 8 none ws (Rm 1 0 0 13) #[(.ref self), .null, (.long nu), .null, (.long ti), (.ref cm)] h0 (Q_rm5 Z self nu ti cm lo lv h0 n0) := by
  refine Con.of (plainFor_of_name pn_5) fun p e s m below meth c s₁ hx hby hml hZ hown hnm hlk hret X0 e0 => ?_
  have N0 := Fr.nil n0
  have hc := And.intro hx hby
  have K0 := Keep.refl h0 [self]
  refine Comes.cast (ef_rm5 m self nu ti cm) ?_
  have lt_self : self < h0.size := G0.lt
  have lt_cm : cm < h0.size := G11.lt
  have lt_lo : lo < h0.size := G17.lt
  refine cs (fun t k => xaloadN X0 hc d5_0 rfl rfl k) ?_
  obtain ⟨T1, X1, e1, st1⟩ := initO X0 hx hZ hown (W hw 47) (W hw 22) (W hw 23) e0 (g := (mkF m 1 #[vr self, .val .null, vj nu, S2, .val .null, vj ti, S2, vr cm] [(.ref self)])) rfl (by rw [hml]; rfl) rfl (hb hby d5_1) dd (W := 0) (by show 2 * 0 + _ ≤ _; exact Nat.le_of_eq rfl) dd
  refine Comes.st st1 ?_
  refine cs (fun t k => xaloadN X1 hc d5_4 rfl rfl (xaloadN X1 hc d5_5 rfl rfl k)) ?_
  refine Comes.pF X1 hx hZ hown (host := "") (Or.inl (W hw 48)) Via.refl e1 G1 G0 (Or.inr ⟨(W hw 49), rfl, hnm⟩) (W hw 42) (ty := (.object "com/example/tenorbook/tenorbook/engine/OrderBook")) dd rfl rfl rfl rfl (hb hby d5_6) fun T2 h2 X2 e2 W2 Fw2 => ?_
  have z2 : h2.size = h0.size := W2.size
  have N2 := Fr.snoc X2 N0 G19
  have K2 := K0.wr W2 (mE 0)
  refine cs (fun t k => xaloadN X2 hc d5_9 rfl rfl (XS.lloadN X2.here hx rfl (hb hby d5_10) rfl k)) ?_
  have F3 := (G0.wr W2)
  have F4 := (G2.other W2 (Or.inr (slot_ne (Or.inr (W hw 51)) (Or.inr (W hw 49)) dd (t := .long) (t' := (.object "com/example/tenorbook/tenorbook/engine/OrderBook")) dd dd)))
  refine Comes.pF X2 hx hZ hown (host := "") (Or.inl (W hw 50)) Via.refl e2 F4 F3 (Or.inr ⟨(W hw 51), rfl, hnm⟩) (W hw 42) (ty := .long) dd rfl rfl rfl rfl (hb hby d5_11) fun T5 h5 X5 e5 W5 Fw5 => ?_
  have z5 : h5.size = h2.size := W5.size
  have N5 := Fr.snoc X5 N2 G19
  have K5 := K2.wr W5 (mE 0)
  refine cs (fun t k => xaloadN X5 hc d5_14 rfl rfl (xaload X5 hc d5_15 rfl rfl k)) ?_
  show Comes p e below _ (T5.setTop (mkF m 17 #[vr self, .val .null, vj nu, S2, .val .null, vj ti, S2, vr cm] [(.ref cm), (.ref self)]))
  have F6 := ((G13.other W2 (Or.inl (Ne.symm G20))).other W5 (Or.inl (Ne.symm G20)))
  have F7 := ((G11.wr W2).wr W5)
  refine Comes.cV X5 hx hZ hown (y := y6) (W := 1) (W hw 52) (W hw 53) (W hw 55) (W hw 54) dd (W hw 56) (rm6 l Z a0 hw [] cm h5 n0 (by omega)  F6) F7 (W hw 4) dd dd e5 rfl (by rw [hml]; rfl) (argsL := []) (rest := [(.ref self)]) (lenOf pd_1 rfl) rfl (wle rfl) (hb hby d5_17) rfl dd dd fun v8 T8 L8 hQ8 X8 => ?_
  obtain ⟨rfl, Nq8, hs8⟩ := hQ8
  have N8 := Fr.app N5 Nq8
  have F9 := (F3.wr W5)
  have F10 := ((G3.other W2 (Or.inr (slot_ne (Or.inr (W hw 58)) (Or.inr (W hw 49)) dd (t := (.object "java/lang/String")) (t' := (.object "com/example/tenorbook/tenorbook/engine/OrderBook")) dd dd))).other W5 (Or.inr (slot_ne (Or.inr (W hw 58)) (Or.inr (W hw 51)) dd (t := (.object "java/lang/String")) (t' := .long) dd dd)))
  refine Comes.pF X8 hx hZ hown (host := "") (Or.inl (W hw 57)) Via.refl hs8 F10 F9 (Or.inr ⟨(W hw 58), rfl, hnm⟩) (W hw 42) (ty := (.object "java/lang/String")) dd rfl rfl rfl rfl (hb hby d5_20) fun T11 h11 X11 e11 W11 Fw11 => ?_
  have z11 : h11.size = h5.size := W11.size
  have N11 := Fr.snoc X11 N8 G19
  have K11 := K5.wr W11 (mE 0)
  refine cs (fun t k => xaloadN X11 hc d5_23 rfl rfl (xaload X11 hc d5_24 rfl rfl k)) ?_
  have F12 := (F9.wr W11)
  have F13 := (((G4.other W2 (Or.inr (slot_ne (Or.inr (W hw 60)) (Or.inr (W hw 49)) dd (t := (.object "com/example/tenorbook/tenorbook/model/Side")) (t' := (.object "com/example/tenorbook/tenorbook/engine/OrderBook")) dd dd))).other W5 (Or.inr (slot_ne (Or.inr (W hw 60)) (Or.inr (W hw 51)) dd (t := (.object "com/example/tenorbook/tenorbook/model/Side")) (t' := .long) dd dd))).other W11 (Or.inr (slot_ne (Or.inr (W hw 60)) (Or.inr (W hw 58)) dd (t := (.object "com/example/tenorbook/tenorbook/model/Side")) (t' := (.object "java/lang/String")) dd dd)))
  refine Comes.pF X11 hx hZ hown (host := "") (Or.inl (W hw 59)) Via.refl e11 F13 F12 (Or.inr ⟨(W hw 60), rfl, hnm⟩) (W hw 42) (ty := (.object "com/example/tenorbook/tenorbook/model/Side")) dd rfl rfl rfl rfl (hb hby d5_26) fun T14 h14 X14 e14 W14 Fw14 => ?_
  have z14 : h14.size = h11.size := W14.size
  have N14 := Fr.snoc X14 N11 G19
  have K14 := K11.wr W14 (mE 0)
  refine cs (fun t k => xaloadN X14 hc d5_29 rfl rfl (XS.lload X14.here hx rfl (hb hby d5_30) rfl k)) ?_
  have F15 := (F12.wr W14)
  have F16 := ((((G5.other W2 (Or.inr (slot_ne (Or.inr (W hw 62)) (Or.inr (W hw 49)) dd (t := .long) (t' := (.object "com/example/tenorbook/tenorbook/engine/OrderBook")) dd dd))).other W5 (Or.inr (slot_ne (Or.inr (W hw 62)) (Or.inr (W hw 51)) dd (t := .long) (t' := .long) dd dd))).other W11 (Or.inr (slot_ne (Or.inr (W hw 62)) (Or.inr (W hw 58)) dd (t := .long) (t' := (.object "java/lang/String")) dd dd))).other W14 (Or.inr (slot_ne (Or.inr (W hw 62)) (Or.inr (W hw 60)) dd (t := .long) (t' := (.object "com/example/tenorbook/tenorbook/model/Side")) dd dd)))
  refine Comes.pF X14 hx hZ hown (host := "") (Or.inl (W hw 61)) Via.refl e14 F16 F15 (Or.inr ⟨(W hw 62), rfl, hnm⟩) (W hw 42) (ty := .long) dd rfl rfl rfl rfl (hb hby d5_32) fun T17 h17 X17 e17 W17 Fw17 => ?_
  have z17 : h17.size = h14.size := W17.size
  have N17 := Fr.snoc X17 N14 G19
  have K17 := K14.wr W17 (mE 0)
  show Comes p e below _ (T17.setTop (mkF m 35 #[vr self, .val .null, vj nu, S2, .val .null, vj ti, S2, vr cm] []))
  refine cs (fun t k => xaloadN X17 hc d5_35 rfl rfl (xaload X17 hc d5_36 rfl rfl k)) ?_
  have F18 := (((((G14.other W2 (Or.inl (Ne.symm G20))).other W5 (Or.inl (Ne.symm G20))).other W11 (Or.inl (Ne.symm G20))).other W14 (Or.inl (Ne.symm G20))).other W17 (Or.inl (Ne.symm G20)))
  have F19 := (((F7.wr W11).wr W14).wr W17)
  refine Comes.cV X17 hx hZ hown (y := y7) (W := 1) (W hw 63) (W hw 64) (W hw 66) (W hw 65) dd (W hw 67) (rm7 l Z a0 hw [] cm lo h17 n0 (by omega)  F18) F19 (W hw 4) dd dd e17 rfl (by rw [hml]; rfl) (argsL := []) (rest := [(.ref self)]) (lenOf pd_2 rfl) rfl (wle rfl) (hb hby d5_38) rfl dd dd fun v20 T20 L20 hQ20 X20 => ?_
  obtain ⟨rfl, Nq20, hs20⟩ := hQ20
  have N20 := Fr.app N17 Nq20
  have F21 := (((((G18.other W2 (Or.inl (Ne.symm G21))).other W5 (Or.inl (Ne.symm G21))).other W11 (Or.inl (Ne.symm G21))).other W14 (Or.inl (Ne.symm G21))).other W17 (Or.inl (Ne.symm G21)))
  have F22 := (((((G17.wr W2).wr W5).wr W11).wr W14).wr W17)
  refine Comes.cV X20 hx hZ hown (y := y8) (W := 1) (W hw 68) (W hw 69) (W hw 71) (W hw 70) dd (W hw 72) (rm8 l Z a0 hw [] lo lv h17 n0 (by omega)  F21) F22 (W hw 7) dd dd hs20 rfl (by rw [hml]; rfl) (argsL := []) (rest := [(.ref self)]) (lenOf pd_3 rfl) rfl (wle rfl) (hb hby d5_41) rfl dd dd fun v23 T23 L23 hQ23 X23 => ?_
  obtain ⟨rfl, Nq23, hs23⟩ := hQ23
  have N23 := Fr.app N20 Nq23
  have F24 := (F15.wr W17)
  have F25 := (((((G6.other W2 (Or.inr (slot_ne (Or.inl (W hw 76)) (Or.inr (W hw 49)) dd (t := .long) (t' := (.object "com/example/tenorbook/tenorbook/engine/OrderBook")) dd dd))).other W5 (Or.inr (slot_ne (Or.inl (W hw 76)) (Or.inr (W hw 51)) dd (t := .long) (t' := .long) dd dd))).other W11 (Or.inr (slot_ne (Or.inl (W hw 76)) (Or.inr (W hw 58)) dd (t := .long) (t' := (.object "java/lang/String")) dd dd))).other W14 (Or.inr (slot_ne (Or.inl (W hw 76)) (Or.inr (W hw 60)) dd (t := .long) (t' := (.object "com/example/tenorbook/tenorbook/model/Side")) dd dd))).other W17 (Or.inr (slot_ne (Or.inl (W hw 76)) (Or.inr (W hw 62)) dd (t := .long) (t' := .long) dd dd)))
  refine Comes.pF X23 hx hZ hown (host := "") (Or.inl (W hw 75)) Via.refl hs23 F25 F24 (Or.inl (W hw 76)) (W hw 42) (ty := .long) dd rfl rfl rfl rfl (hb hby d5_44) fun T26 h26 X26 e26 W26 Fw26 => ?_
  have z26 : h26.size = h17.size := W26.size
  have N26 := Fr.snoc X26 N23 G19
  have K26 := K17.wr W26 (mE 0)
  refine cs (fun t k => xaloadN X26 hc d5_47 rfl rfl (xaload X26 hc d5_48 rfl rfl k)) ?_
  show Comes p e below _ (T26.setTop (mkF m 50 #[vr self, .val .null, vj nu, S2, .val .null, vj ti, S2, vr cm] [(.ref cm), (.ref self)]))
  have F27 := ((((((G12.other W2 (Or.inl (Ne.symm G20))).other W5 (Or.inl (Ne.symm G20))).other W11 (Or.inl (Ne.symm G20))).other W14 (Or.inl (Ne.symm G20))).other W17 (Or.inl (Ne.symm G20))).other W26 (Or.inl (Ne.symm G20)))
  have F28 := (F19.wr W26)
  refine Comes.cV X26 hx hZ hown (y := y9) (W := 1) (W hw 77) (W hw 78) (W hw 80) (W hw 79) dd (W hw 81) (rm9 l Z a0 hw [] cm h26 n0 (by omega)  F27) F28 (W hw 4) dd dd e26 rfl (by rw [hml]; rfl) (argsL := []) (rest := [(.ref self)]) (lenOf pd_1 rfl) rfl (wle rfl) (hb hby d5_50) rfl dd dd fun v29 T29 L29 hQ29 X29 => ?_
  obtain ⟨rfl, Nq29, hs29⟩ := hQ29
  have N29 := Fr.app N26 Nq29
  have F30 := (F24.wr W26)
  have F31 := ((((((G7.other W2 (Or.inr (slot_ne (Or.inr (W hw 83)) (Or.inr (W hw 49)) dd (t := (.object "java/lang/String")) (t' := (.object "com/example/tenorbook/tenorbook/engine/OrderBook")) dd dd))).other W5 (Or.inr (slot_ne (Or.inr (W hw 83)) (Or.inr (W hw 51)) dd (t := (.object "java/lang/String")) (t' := .long) dd dd))).other W11 (Or.inr (slot_ne (Or.inr (W hw 83)) (Or.inr (W hw 58)) dd (t := (.object "java/lang/String")) (t' := (.object "java/lang/String")) dd dd))).other W14 (Or.inr (slot_ne (Or.inr (W hw 83)) (Or.inr (W hw 60)) dd (t := (.object "java/lang/String")) (t' := (.object "com/example/tenorbook/tenorbook/model/Side")) dd dd))).other W17 (Or.inr (slot_ne (Or.inr (W hw 83)) (Or.inr (W hw 62)) dd (t := (.object "java/lang/String")) (t' := .long) dd dd))).other W26 (Or.inr (slot_ne (Or.inr (W hw 83)) (Or.inl (W hw 76)) dd (t := (.object "java/lang/String")) (t' := .long) dd dd)))
  refine Comes.pF X29 hx hZ hown (host := "") (Or.inl (W hw 82)) Via.refl hs29 F31 F30 (Or.inr ⟨(W hw 83), rfl, hnm⟩) (W hw 42) (ty := (.object "java/lang/String")) dd rfl rfl rfl rfl (hb hby d5_53) fun T32 h32 X32 e32 W32 Fw32 => ?_
  have z32 : h32.size = h26.size := W32.size
  have N32 := Fr.snoc X32 N29 G19
  have K32 := K26.wr W32 (mE 0)
  refine cs (fun t k => xaloadN X32 hc d5_56 rfl rfl (xaload X32 hc d5_57 rfl rfl k)) ?_
  have F33 := (((((((G15.other W2 (Or.inl (Ne.symm G20))).other W5 (Or.inl (Ne.symm G20))).other W11 (Or.inl (Ne.symm G20))).other W14 (Or.inl (Ne.symm G20))).other W17 (Or.inl (Ne.symm G20))).other W26 (Or.inl (Ne.symm G20))).other W32 (Or.inl (Ne.symm G20)))
  have F34 := (F28.wr W32)
  refine Comes.cV X32 hx hZ hown (y := y10) (W := 1) (W hw 84) (W hw 85) (W hw 87) (W hw 86) dd (W hw 88) (rm10 l Z a0 hw [] cm h32 n0 (by omega)  F33) F34 (W hw 4) dd dd e32 rfl (by rw [hml]; rfl) (argsL := []) (rest := [(.ref self)]) (lenOf pd_1 rfl) rfl (wle rfl) (hb hby d5_59) rfl dd dd fun v35 T35 L35 hQ35 X35 => ?_
  obtain ⟨rfl, Nq35, hs35⟩ := hQ35
  have N35 := Fr.app N32 Nq35
  have F36 := (F30.wr W32)
  have F37 := (((((((G8.other W2 (Or.inr (slot_ne (Or.inr (W hw 90)) (Or.inr (W hw 49)) dd (t := (.object "java/lang/String")) (t' := (.object "com/example/tenorbook/tenorbook/engine/OrderBook")) dd dd))).other W5 (Or.inr (slot_ne (Or.inr (W hw 90)) (Or.inr (W hw 51)) dd (t := (.object "java/lang/String")) (t' := .long) dd dd))).other W11 (Or.inr (slot_ne (Or.inr (W hw 90)) (Or.inr (W hw 58)) dd (t := (.object "java/lang/String")) (t' := (.object "java/lang/String")) dd dd))).other W14 (Or.inr (slot_ne (Or.inr (W hw 90)) (Or.inr (W hw 60)) dd (t := (.object "java/lang/String")) (t' := (.object "com/example/tenorbook/tenorbook/model/Side")) dd dd))).other W17 (Or.inr (slot_ne (Or.inr (W hw 90)) (Or.inr (W hw 62)) dd (t := (.object "java/lang/String")) (t' := .long) dd dd))).other W26 (Or.inr (slot_ne (Or.inr (W hw 90)) (Or.inl (W hw 76)) dd (t := (.object "java/lang/String")) (t' := .long) dd dd))).other W32 (Or.inr (slot_ne (Or.inr (W hw 90)) (Or.inr (W hw 83)) dd (t := (.object "java/lang/String")) (t' := (.object "java/lang/String")) dd dd)))
  refine Comes.pF X35 hx hZ hown (host := "") (Or.inl (W hw 89)) Via.refl hs35 F37 F36 (Or.inr ⟨(W hw 90), rfl, hnm⟩) (W hw 42) (ty := (.object "java/lang/String")) dd rfl rfl rfl rfl (hb hby d5_62) fun T38 h38 X38 e38 W38 Fw38 => ?_
  have z38 : h38.size = h32.size := W38.size
  have N38 := Fr.snoc X38 N35 G19
  have K38 := K32.wr W38 (mE 0)
  refine cs (fun t k => xaloadN X38 hc d5_65 rfl rfl (xaload X38 hc d5_66 rfl rfl k)) ?_
  show Comes p e below _ (T38.setTop (mkF m 68 #[vr self, .val .null, vj nu, S2, .val .null, vj ti, S2, vr cm] [(.ref cm), (.ref self)]))
  have F39 := ((((((((G16.other W2 (Or.inl (Ne.symm G20))).other W5 (Or.inl (Ne.symm G20))).other W11 (Or.inl (Ne.symm G20))).other W14 (Or.inl (Ne.symm G20))).other W17 (Or.inl (Ne.symm G20))).other W26 (Or.inl (Ne.symm G20))).other W32 (Or.inl (Ne.symm G20))).other W38 (Or.inl (Ne.symm G20)))
  have F40 := (F34.wr W38)
  refine Comes.cV X38 hx hZ hown (y := y11) (W := 1) (W hw 91) (W hw 92) (W hw 94) (W hw 93) dd (W hw 95) (rm11 l Z a0 hw [] cm h38 n0 (by omega)  F39) F40 (W hw 4) dd dd e38 rfl (by rw [hml]; rfl) (argsL := []) (rest := [(.ref self)]) (lenOf pd_4 rfl) rfl (wle rfl) (hb hby d5_68) rfl dd dd fun v41 T41 L41 hQ41 X41 => ?_
  obtain ⟨rfl, Nq41, hs41⟩ := hQ41
  have N41 := Fr.app N38 Nq41
  have F42 := (F36.wr W38)
  have F43 := ((((((((G9.other W2 (Or.inr (slot_ne (Or.inr (W hw 97)) (Or.inr (W hw 49)) dd (t := (.object "java/time/LocalDate")) (t' := (.object "com/example/tenorbook/tenorbook/engine/OrderBook")) dd dd))).other W5 (Or.inr (slot_ne (Or.inr (W hw 97)) (Or.inr (W hw 51)) dd (t := (.object "java/time/LocalDate")) (t' := .long) dd dd))).other W11 (Or.inr (slot_ne (Or.inr (W hw 97)) (Or.inr (W hw 58)) dd (t := (.object "java/time/LocalDate")) (t' := (.object "java/lang/String")) dd dd))).other W14 (Or.inr (slot_ne (Or.inr (W hw 97)) (Or.inr (W hw 60)) dd (t := (.object "java/time/LocalDate")) (t' := (.object "com/example/tenorbook/tenorbook/model/Side")) dd dd))).other W17 (Or.inr (slot_ne (Or.inr (W hw 97)) (Or.inr (W hw 62)) dd (t := (.object "java/time/LocalDate")) (t' := .long) dd dd))).other W26 (Or.inr (slot_ne (Or.inr (W hw 97)) (Or.inl (W hw 76)) dd (t := (.object "java/time/LocalDate")) (t' := .long) dd dd))).other W32 (Or.inr (slot_ne (Or.inr (W hw 97)) (Or.inr (W hw 83)) dd (t := (.object "java/time/LocalDate")) (t' := (.object "java/lang/String")) dd dd))).other W38 (Or.inr (slot_ne (Or.inr (W hw 97)) (Or.inr (W hw 90)) dd (t := (.object "java/time/LocalDate")) (t' := (.object "java/lang/String")) dd dd)))
  refine Comes.pF X41 hx hZ hown (host := "") (Or.inl (W hw 96)) Via.refl hs41 F43 F42 (Or.inr ⟨(W hw 97), rfl, hnm⟩) (W hw 42) (ty := (.object "java/time/LocalDate")) dd rfl rfl rfl rfl (hb hby d5_71) fun T44 h44 X44 e44 W44 Fw44 => ?_
  have z44 : h44.size = h38.size := W44.size
  have N44 := Fr.snoc X44 N41 G19
  have K44 := K38.wr W44 (mE 0)
  show Comes p e below _ (T44.setTop (mkF m 74 #[vr self, .val .null, vj nu, S2, .val .null, vj ti, S2, vr cm] []))
  have F45 := (F42.wr W44)
  have F46 := (((((((Fw5.other W11 (Or.inr (slot_ne (Or.inr (W hw 51)) (Or.inr (W hw 58)) dd (t := .long) (t' := (.object "java/lang/String")) dd dd))).other W14 (Or.inr (slot_ne (Or.inr (W hw 51)) (Or.inr (W hw 60)) dd (t := .long) (t' := (.object "com/example/tenorbook/tenorbook/model/Side")) dd dd))).other W17 (Or.inr (slot_ne (Or.inr (W hw 51)) (Or.inr (W hw 62)) dd (t := .long) (t' := .long) dd dd))).other W26 (Or.inr (slot_ne (Or.inr (W hw 51)) (Or.inl (W hw 76)) dd (t := .long) (t' := .long) dd dd))).other W32 (Or.inr (slot_ne (Or.inr (W hw 51)) (Or.inr (W hw 83)) dd (t := .long) (t' := (.object "java/lang/String")) dd dd))).other W38 (Or.inr (slot_ne (Or.inr (W hw 51)) (Or.inr (W hw 90)) dd (t := .long) (t' := (.object "java/lang/String")) dd dd))).other W44 (Or.inr (slot_ne (Or.inr (W hw 51)) (Or.inr (W hw 97)) dd (t := .long) (t' := (.object "java/time/LocalDate")) dd dd)))
  have F47 := ((((Fw17.other W26 (Or.inr (slot_ne (Or.inr (W hw 62)) (Or.inl (W hw 76)) dd (t := .long) (t' := .long) dd dd))).other W32 (Or.inr (slot_ne (Or.inr (W hw 62)) (Or.inr (W hw 83)) dd (t := .long) (t' := (.object "java/lang/String")) dd dd))).other W38 (Or.inr (slot_ne (Or.inr (W hw 62)) (Or.inr (W hw 90)) dd (t := .long) (t' := (.object "java/lang/String")) dd dd))).other W44 (Or.inr (slot_ne (Or.inr (W hw 62)) (Or.inr (W hw 97)) dd (t := .long) (t' := (.object "java/time/LocalDate")) dd dd)))
  have F48 := (((((((((G10.other W2 (Or.inr (slot_ne (Or.inl (W hw 200)) (Or.inr (W hw 49)) dd (t := (.object sOr)) (t' := (.object "com/example/tenorbook/tenorbook/engine/OrderBook")) dd dd))).other W5 (Or.inr (slot_ne (Or.inl (W hw 200)) (Or.inr (W hw 51)) dd (t := (.object sOr)) (t' := .long) dd dd))).other W11 (Or.inr (slot_ne (Or.inl (W hw 200)) (Or.inr (W hw 58)) dd (t := (.object sOr)) (t' := (.object "java/lang/String")) dd dd))).other W14 (Or.inr (slot_ne (Or.inl (W hw 200)) (Or.inr (W hw 60)) dd (t := (.object sOr)) (t' := (.object "com/example/tenorbook/tenorbook/model/Side")) dd dd))).other W17 (Or.inr (slot_ne (Or.inl (W hw 200)) (Or.inr (W hw 62)) dd (t := (.object sOr)) (t' := .long) dd dd))).other W26 (Or.inr (slot_ne (Or.inl (W hw 200)) (Or.inl (W hw 76)) dd (t := (.object sOr)) (t' := .long) dd dd))).other W32 (Or.inr (slot_ne (Or.inl (W hw 200)) (Or.inr (W hw 83)) dd (t := (.object sOr)) (t' := (.object "java/lang/String")) dd dd))).other W38 (Or.inr (slot_ne (Or.inl (W hw 200)) (Or.inr (W hw 90)) dd (t := (.object sOr)) (t' := (.object "java/lang/String")) dd dd))).other W44 (Or.inr (slot_ne (Or.inl (W hw 200)) (Or.inr (W hw 97)) dd (t := (.object sOr)) (t' := (.object "java/time/LocalDate")) dd dd)))
  exact Comes.ret0 X44 hx hret hlk (hb hby d5_74) e44 ⟨rfl, N44, K44, F45, F46, F47, F48⟩ dd dd
def Q_rm23 (Z : State) (self : Nat) (vv : Int64) (h0 : Heap) (n0 : Nat) (v_ : Option Value) (h : Heap) (L_ : List Loc) : Prop := (v_ = some (.long vv)) ∧ (Fr n0 L_) ∧ (h = h0)
theorem rm23 (l : Launch) (Z : State) (a0 : Array Value) (hw : ∀ d ∈ tables_1, d.before a0 Z = true) (ws : List Jvm.Cond) (self : Nat) (vv : Int64) (h0 : Heap) (n0 : Nat) (Z0 : n0 ≤ h0.size) (G0 : Fld Z h0 self sOr "ticks" "J" (.long vv)) :
    Con l Z y23 prog_22_method_7_code 1 (some .long) ws (Rm 0 0 0 0) #[(.ref self)] h0 (Q_rm23 Z self vv h0 n0) := by
  refine Con.of (plainFor_of_name pn_23) fun p e s m below meth c s₁ hx hby hml hZ hown hnm hlk hret X0 e0 => ?_
  have N0 := Fr.nil n0
  have hc := And.intro hx hby
  refine Comes.cast (ef_rm3 m self) ?_
  have lt_self : self < h0.size := G0.lt
  refine cs (fun t k => xaloadN X0 hc d23_0 rfl rfl k) ?_
  refine Comes.gF X0 hx hZ hown (host := "") (Or.inl (W hw 61)) Via.refl e0 G0 rfl rfl (hb hby d23_1) fun T1 X1 e1 => ?_
  show Comes p e below _ (T1.setTop (mkF m 4 #[vr self] [(.long vv)]))
  exact Comes.retV X1 hx hret rfl (Or.inr (Or.inl ⟨rfl, rfl, _, rfl⟩)) hlk (hb hby d23_4) e1 ⟨rfl, N0, rfl⟩ dd dd
def Q_rm24 (Z : State) (self : Nat) (vv : Int64) (h0 : Heap) (n0 : Nat) (v_ : Option Value) (h : Heap) (L_ : List Loc) : Prop := (v_ = some (.long vv)) ∧ (Fr n0 L_) ∧ (h = h0)
theorem rm24 (l : Launch) (Z : State) (a0 : Array Value) (hw : ∀ d ∈ tables_1, d.before a0 Z = true) (ws : List Jvm.Cond) (self : Nat) (vv : Int64) (h0 : Heap) (n0 : Nat) (Z0 : n0 ≤ h0.size) (G0 : Fld Z h0 self sOr "number" "J" (.long vv)) :
    Con l Z y24 prog_22_method_3_code 1 (some .long) ws (Rm 0 0 0 0) #[(.ref self)] h0 (Q_rm24 Z self vv h0 n0) := by
  refine Con.of (plainFor_of_name pn_24) fun p e s m below meth c s₁ hx hby hml hZ hown hnm hlk hret X0 e0 => ?_
  have N0 := Fr.nil n0
  have hc := And.intro hx hby
  refine Comes.cast (ef_rm3 m self) ?_
  have lt_self : self < h0.size := G0.lt
  refine cs (fun t k => xaloadN X0 hc d24_0 rfl rfl k) ?_
  refine Comes.gF X0 hx hZ hown (host := "") (Or.inl (W hw 50)) Via.refl e0 G0 rfl rfl (hb hby d24_1) fun T1 X1 e1 => ?_
  show Comes p e below _ (T1.setTop (mkF m 4 #[vr self] [(.long vv)]))
  exact Comes.retV X1 hx hret rfl (Or.inr (Or.inl ⟨rfl, rfl, _, rfl⟩)) hlk (hb hby d24_4) e1 ⟨rfl, N0, rfl⟩ dd dd
def Q_rm12 (Z : State) (self : Nat) (lw : Int32) (h0 : Heap) (n0 : Nat) (v_ : Option Value) (h : Heap) (L_ : List Loc) : Prop := ∃ (bl : Nat), ∃ (kb : ClassId), (v_ = none) ∧ (Fr n0 L_) ∧ (Keep h0 h [self]) ∧ (Exa Z h self sRk) ∧ (Fld Z h self sRk "blocks" dBs (.ref bl)) ∧ (Fld Z h self sRk "count" "I" (.int (0 : Int32))) ∧ (Fld Z h self sRk "lowestBest" "Z" (.int lw)) ∧ (Arv Z h bl kb (.object sBk) (4 : Int32) [.null, .null, .null, .null] .null) ∧ (Ovr Z kb sBk) ∧ (n0 ≤ bl) ∧ (h0.size ≤ bl)
theorem rm12 (l : Launch) (Z : State) (a0 : Array Value) (hw : ∀ d ∈ tables_1, d.before a0 Z = true) (ws : List Jvm.Cond) (self : Nat) (lw : Int32) (h0 : Heap) (n0 : Nat) (Z0 : n0 ≤ h0.size) (G0 : Exa Z h0 self sRk) (G1 : Fld Z h0 self sRk "blocks" dBs .null) (G2 : Fld Z h0 self sRk "count" "I" (.int (0 : Int32))) (G3 : Fld Z h0 self sRk "lowestBest" "Z" (.int (0 : Int32))) (G4 : n0 ≤ self) (G5 : lw = (0 : Int32) ∨ lw = (1 : Int32)) :
    Con l Z y12 prog_27_method_1_code 2 none ws (Rm 1 1 4 12) #[(.ref self), (.int lw)] h0 (Q_rm12 Z self lw h0 n0) := by
  refine Con.of (plainFor_of_name pn_12) fun p e s m below meth c s₁ hx hby hml hZ hown hnm hlk hret X0 e0 => ?_
  have N0 := Fr.nil n0
  have hc := And.intro hx hby
  have K0 := Keep.refl h0 [self]
  refine Comes.cast (ef_rm12 m self lw) ?_
  have lt_self : self < h0.size := G0.lt
  refine cs (fun t k => xaloadN X0 hc d12_0 rfl rfl k) ?_
  obtain ⟨T1, X1, e1, st1⟩ := initO X0 hx hZ hown (W hw 105) (W hw 22) (W hw 23) e0 (g := (mkF m 1 #[vr self, vi lw] [(.ref self)])) rfl (by rw [hml]; rfl) rfl (hb hby d12_1) dd (W := 0) (by show 2 * 0 + _ ≤ _; exact Nat.le_of_eq rfl) dd
  refine Comes.st st1 ?_
  refine cs (fun t k => xaloadN X1 hc d12_4 rfl rfl (xiconst X1 hc d12_5 k)) ?_
  obtain ⟨T2, h2, k2, X2, e2, E2, A2, O2, st2⟩ := newR X1 hx hZ hown (W hw 106) (W hw 107) e1 (g := (mkF m 6 #[vr self, vi lw] [(.int (4 : Int32)), (.ref self)])) rfl (hb hby d12_6) rfl dd (cap := 4) dd dd dd dd
  obtain ⟨b2, g2⟩ : ∃ z, z = h0.size := ⟨_, rfl⟩
  rw [← g2] at A2 st2
  have z2 : h0.size ≤ h2.size := E2.1
  have lt2 : b2 < h2.size := A2.lt
  have V2 : Arv Z h2 b2 k2 (.object sBk) (4 : Int32) [.null, .null, .null, .null] .null := (Arv.new A2 dd).pad (pad_rep [] .null 4)
  have K2 := K0.ext E2
  refine Comes.st st2 ?_
  have F3 := (G0.ext E2)
  have F4 := (G1.ext E2)
  refine Comes.pF X2 hx hZ hown (host := "") (Or.inl (W hw 108)) Via.refl e2 F4 F3 (Or.inl (W hw 109)) (W hw 100) (ty := (.array (.object sBk))) dd rfl rfl rfl rfl (hb hby d12_9) fun T5 h5 X5 e5 W5 Fw5 => ?_
  have z5 : h5.size = h2.size := W5.size
  have N5 := Fr.snoc X5 N0 G4
  have K5 := K2.wr W5 (mE 0)
  refine cs (fun t k => xaloadN X5 hc d12_12 rfl rfl (xiloadN X5 hc d12_13 rfl k)) ?_
  have F6 := (F3.wr W5)
  have F7 := ((G3.ext E2).other W5 (Or.inr (slot_ne (Or.inr (W hw 111)) (Or.inl (W hw 109)) dd (t := .boolean) (t' := (.array (.object sBk))) dd dd)))
  obtain ⟨T8, h8, X8, e8, W8, st8⟩ := putFN X5 hx hZ hown (W hw 110) Via.refl e5 F7 F6 (Or.inr ⟨(W hw 111), rfl, hnm⟩) (W hw 100) (ty := .boolean) (v' := (.int (nar .boolean lw))) dd rfl (fits_nar_bool _) (g := (mkF m 14 #[vr self, vi lw] [(.int lw), (.ref self)])) rfl rfl (hb hby d12_14)
  have Fw8 := F7.same W8
  have z8 : h8.size = h5.size := W8.size
  have N8 := Fr.snoc X8 N5 G4
  have K8 := K5.wr W8 (mE 0)
  refine Comes.st st8 ?_
  show Comes p e below _ (T8.setTop (mkF m 17 #[vr self, vi lw] []))
  rw [own_narb G5] at Fw8
  have F9 := (F6.wr W8)
  have F10 := (Fw5.other W8 (Or.inr (slot_ne (Or.inl (W hw 109)) (Or.inr (W hw 111)) dd (t := (.array (.object sBk))) (t' := .boolean) dd dd)))
  have F11 := (((G2.ext E2).other W5 (Or.inr (slot_ne (Or.inl (W hw 122)) (Or.inl (W hw 109)) dd (t := .int) (t' := (.array (.object sBk))) dd dd))).other W8 (Or.inr (slot_ne (Or.inl (W hw 122)) (Or.inr (W hw 111)) dd (t := .int) (t' := .boolean) dd dd)))
  have ne12 : b2 ≠ self := by omega
  have F13 := ((V2.other W5 ne12).other W8 ne12)
  have gn14 : n0 ≤ b2 := by omega
  exact Comes.ret0 X8 hx hret hlk (hb hby d12_17) e8 ⟨b2, k2, rfl, N8, K8, F9, F10, F11, Fw8, F13, O2, gn14, (by omega)⟩ dd dd
def Q_rm17 (Z : State) (self : Nat) (h0 : Heap) (n0 : Nat) (v_ : Option Value) (h : Heap) (L_ : List Loc) : Prop := ∃ (os : Nat), ∃ (ts : Nat), ∃ (ns : Nat), ∃ (ko : ClassId), ∃ (kt : ClassId), ∃ (kn : ClassId), (v_ = none) ∧ (Fr n0 L_) ∧ (Keep h0 h [self]) ∧ (Exa Z h self sBk) ∧ (Fld Z h self sBk "orders" dOs (.ref os)) ∧ (Fld Z h self sBk "ticks" "[J" (.ref ts)) ∧ (Fld Z h self sBk "numbers" "[J" (.ref ns)) ∧ (Fld Z h self sBk "size" "I" (.int (0 : Int32))) ∧ (Arv Z h os ko (.object sOr) (64 : Int32) [.null, .null, .null] .null) ∧ (Ovr Z ko sOr) ∧ (AJ Z h ts kt (0 : Int64) (0 : Int64) (0 : Int64)) ∧ (AJ Z h ns kn (0 : Int64) (0 : Int64) (0 : Int64)) ∧ (n0 ≤ os) ∧ (n0 ≤ ts) ∧ (n0 ≤ ns) ∧ (h0.size ≤ os) ∧ (h0.size ≤ ts) ∧ (h0.size ≤ ns) ∧ (os ≠ ts) ∧ (os ≠ ns) ∧ (ts ≠ ns)
theorem rm17 (l : Launch) (Z : State) (a0 : Array Value) (hw : ∀ d ∈ tables_1, d.before a0 Z = true) (ws : List Jvm.Cond) (self : Nat) (h0 : Heap) (n0 : Nat) (Z0 : n0 ≤ h0.size) (G0 : Exa Z h0 self sBk) (G1 : Fld Z h0 self sBk "orders" dOs .null) (G2 : Fld Z h0 self sBk "ticks" "[J" .null) (G3 : Fld Z h0 self sBk "numbers" "[J" .null) (G4 : Fld Z h0 self sBk "size" "I" (.int (0 : Int32))) (G5 : n0 ≤ self) :
    Con l Z y17 prog_28_method_1_code 1 none ws (Rm 1 3 192 12) #[(.ref self)] h0 (Q_rm17 Z self h0 n0) := by
  refine Con.of (plainFor_of_name pn_17) fun p e s m below meth c s₁ hx hby hml hZ hown hnm hlk hret X0 e0 => ?_
  have N0 := Fr.nil n0
  have hc := And.intro hx hby
  have K0 := Keep.refl h0 [self]
  refine Comes.cast (ef_rm3 m self) ?_
  have lt_self : self < h0.size := G0.lt
  refine cs (fun t k => xaloadN X0 hc d17_0 rfl rfl k) ?_
  obtain ⟨T1, X1, e1, st1⟩ := initO X0 hx hZ hown (W hw 137) (W hw 22) (W hw 23) e0 (g := (mkF m 1 #[vr self] [(.ref self)])) rfl (by rw [hml]; rfl) rfl (hb hby d17_1) dd (W := 0) (by show 2 * 0 + _ ≤ _; exact Nat.le_of_eq rfl) dd
  refine Comes.st st1 ?_
  refine cs (fun t k => xaloadN X1 hc d17_4 rfl rfl (XS.bipush X1.here hx rfl (hb hby d17_5) k)) ?_
  obtain ⟨T2, h2, k2, X2, e2, E2, A2, O2, st2⟩ := newR X1 hx hZ hown (W hw 138) (W hw 41) e1 (g := (mkF m 7 #[vr self] [(.int (64 : Int32)), (.ref self)])) rfl (hb hby d17_7) rfl dd (cap := 64) dd dd dd dd
  obtain ⟨b2, g2⟩ : ∃ z, z = h0.size := ⟨_, rfl⟩
  rw [← g2] at A2 st2
  have z2 : h0.size ≤ h2.size := E2.1
  have lt2 : b2 < h2.size := A2.lt
  have V2 : Arv Z h2 b2 k2 (.object sOr) (64 : Int32) [.null, .null, .null] .null := (Arv.new A2 dd).pad (pad_rep [] .null 3)
  have K2 := K0.ext E2
  refine Comes.st st2 ?_
  have F3 := (G0.ext E2)
  have F4 := (G1.ext E2)
  refine Comes.pF X2 hx hZ hown (host := "") (Or.inl (W hw 139)) Via.refl e2 F4 F3 (Or.inr ⟨(W hw 140), rfl, hnm⟩) (W hw 132) (ty := (.array (.object sOr))) dd rfl rfl rfl rfl (hb hby d17_10) fun T5 h5 X5 e5 W5 Fw5 => ?_
  have z5 : h5.size = h2.size := W5.size
  have N5 := Fr.snoc X5 N0 G5
  have K5 := K2.wr W5 (mE 0)
  refine cs (fun t k => xaloadN X5 hc d17_13 rfl rfl (XS.bipush X5.here hx rfl (hb hby d17_14) k)) ?_
  obtain ⟨T6, h6, k6, X6, e6, E6, A6, st6⟩ := newP X5 hx hZ (W hw 0) e5 (g := (mkF m 16 #[vr self] [(.int (64 : Int32)), (.ref self)])) rfl (hb hby d17_16) rfl dd (cap := 64) dd dd dd dd
  obtain ⟨b6, g6⟩ : ∃ z, z = h5.size := ⟨_, rfl⟩
  rw [← g6] at A6 st6
  have z6 : h5.size ≤ h6.size := E6.1
  have lt6 : b6 < h6.size := A6.lt
  have V6 : AJ Z h6 b6 k6 (0 : Int64) (0 : Int64) (0 : Int64) := (Arv.new A6 dd).pad (pad_rep [] (.long (0 : Int64)) 3)
  have K6 := K5.ext E6
  refine Comes.st st6 ?_
  have F7 := ((F3.wr W5).ext E6)
  have F8 := (((G2.ext E2).other W5 (Or.inr (slot_ne (Or.inr (W hw 142)) (Or.inr (W hw 140)) dd (t := (.array .long)) (t' := (.array (.object sOr))) dd dd))).ext E6)
  refine Comes.pF X6 hx hZ hown (host := "") (Or.inl (W hw 141)) Via.refl e6 F8 F7 (Or.inr ⟨(W hw 142), rfl, hnm⟩) (W hw 132) (ty := (.array .long)) dd rfl rfl rfl rfl (hb hby d17_18) fun T9 h9 X9 e9 W9 Fw9 => ?_
  have z9 : h9.size = h6.size := W9.size
  have N9 := Fr.snoc X9 N5 G5
  have K9 := K6.wr W9 (mE 0)
  refine cs (fun t k => xaloadN X9 hc d17_21 rfl rfl (XS.bipush X9.here hx rfl (hb hby d17_22) k)) ?_
  obtain ⟨T10, h10, k10, X10, e10, E10, A10, st10⟩ := newP X9 hx hZ (W hw 0) e9 (g := (mkF m 24 #[vr self] [(.int (64 : Int32)), (.ref self)])) rfl (hb hby d17_24) rfl dd (cap := 64) dd dd dd dd
  obtain ⟨b10, g10⟩ : ∃ z, z = h9.size := ⟨_, rfl⟩
  rw [← g10] at A10 st10
  have z10 : h9.size ≤ h10.size := E10.1
  have lt10 : b10 < h10.size := A10.lt
  have V10 : AJ Z h10 b10 k10 (0 : Int64) (0 : Int64) (0 : Int64) := (Arv.new A10 dd).pad (pad_rep [] (.long (0 : Int64)) 3)
  have K10 := K9.ext E10
  refine Comes.st st10 ?_
  have F11 := ((F7.wr W9).ext E10)
  have F12 := (((((G3.ext E2).other W5 (Or.inr (slot_ne (Or.inr (W hw 144)) (Or.inr (W hw 140)) dd (t := (.array .long)) (t' := (.array (.object sOr))) dd dd))).ext E6).other W9 (Or.inr (slot_ne (Or.inr (W hw 144)) (Or.inr (W hw 142)) dd (t := (.array .long)) (t' := (.array .long)) dd dd))).ext E10)
  refine Comes.pF X10 hx hZ hown (host := "") (Or.inl (W hw 143)) Via.refl e10 F12 F11 (Or.inr ⟨(W hw 144), rfl, hnm⟩) (W hw 132) (ty := (.array .long)) dd rfl rfl rfl rfl (hb hby d17_26) fun T13 h13 X13 e13 W13 Fw13 => ?_
  have z13 : h13.size = h10.size := W13.size
  have N13 := Fr.snoc X13 N9 G5
  have K13 := K10.wr W13 (mE 0)
  show Comes p e below _ (T13.setTop (mkF m 29 #[vr self] []))
  have F14 := (F11.wr W13)
  have F15 := ((((Fw5.ext E6).other W9 (Or.inr (slot_ne (Or.inr (W hw 140)) (Or.inr (W hw 142)) dd (t := (.array (.object sOr))) (t' := (.array .long)) dd dd))).ext E10).other W13 (Or.inr (slot_ne (Or.inr (W hw 140)) (Or.inr (W hw 144)) dd (t := (.array (.object sOr))) (t' := (.array .long)) dd dd)))
  have F16 := ((Fw9.ext E10).other W13 (Or.inr (slot_ne (Or.inr (W hw 142)) (Or.inr (W hw 144)) dd (t := (.array .long)) (t' := (.array .long)) dd dd)))
  have F17 := ((((((G4.ext E2).other W5 (Or.inr (slot_ne (Or.inl (W hw 155)) (Or.inr (W hw 140)) dd (t := .int) (t' := (.array (.object sOr))) dd dd))).ext E6).other W9 (Or.inr (slot_ne (Or.inl (W hw 155)) (Or.inr (W hw 142)) dd (t := .int) (t' := (.array .long)) dd dd))).ext E10).other W13 (Or.inr (slot_ne (Or.inl (W hw 155)) (Or.inr (W hw 144)) dd (t := .int) (t' := (.array .long)) dd dd)))
  have ne18 : b2 ≠ self := by omega
  have F19 := (((((V2.other W5 ne18).ext E6).other W9 ne18).ext E10).other W13 ne18)
  have ne20 : b6 ≠ self := by omega
  have F21 := (((V6.other W9 ne20).ext E10).other W13 ne20)
  have ne22 : b10 ≠ self := by omega
  have F23 := (V10.other W13 ne22)
  have gn24 : n0 ≤ b2 := by omega
  have gn25 : n0 ≤ b6 := by omega
  have gn26 : n0 ≤ b10 := by omega
  have ne27 : b2 ≠ b6 := by omega
  have ne28 : b2 ≠ b10 := by omega
  have ne29 : b6 ≠ b10 := by omega
  exact Comes.ret0 X13 hx hret hlk (hb hby d17_29) e13 ⟨b2, b6, b10, k2, k6, k10, rfl, N13, K13, F14, F15, F16, Fw13, F17, F19, O2, F21, F23, gn24, gn25, gn26, (by omega), (by omega), (by omega), ne27, ne28, ne29⟩ dd dd
def Q_rm16 (Z : State) (rk bl : Nat) (kb : ClassId) (lw : Int32) (h0 : Heap) (n0 : Nat) (v_ : Option Value) (h : Heap) (L_ : List Loc) : Prop := ∃ (blk : Nat), ∃ (os : Nat), ∃ (ts : Nat), ∃ (ns : Nat), ∃ (ko : ClassId), ∃ (kt : ClassId), ∃ (kn : ClassId), (v_ = none) ∧ (Fr n0 L_) ∧ (Keep h0 h [rk, bl]) ∧ (Exa Z h rk sRk) ∧ (Fld Z h rk sRk "blocks" dBs (.ref bl)) ∧ (Fld Z h rk sRk "count" "I" (.int (1 : Int32))) ∧ (Fld Z h rk sRk "lowestBest" "Z" (.int lw)) ∧ (Arv Z h bl kb (.object sBk) (4 : Int32) [(.ref blk), .null, .null, .null] .null) ∧ (Ovr Z kb sBk) ∧ (Exa Z h blk sBk) ∧ (Fld Z h blk sBk "orders" dOs (.ref os)) ∧ (Fld Z h blk sBk "ticks" "[J" (.ref ts)) ∧ (Fld Z h blk sBk "numbers" "[J" (.ref ns)) ∧ (Fld Z h blk sBk "size" "I" (.int (0 : Int32))) ∧ (Arv Z h os ko (.object sOr) (64 : Int32) [.null, .null, .null] .null) ∧ (Ovr Z ko sOr) ∧ (AJ Z h ts kt (0 : Int64) (0 : Int64) (0 : Int64)) ∧ (AJ Z h ns kn (0 : Int64) (0 : Int64) (0 : Int64)) ∧ (n0 ≤ blk) ∧ (n0 ≤ os) ∧ (n0 ≤ ts) ∧ (n0 ≤ ns) ∧ (h0.size ≤ blk) ∧ (h0.size ≤ os) ∧ (h0.size ≤ ts) ∧ (h0.size ≤ ns) ∧ (blk ≠ os) ∧ (blk ≠ ts) ∧ (blk ≠ ns) ∧ (os ≠ ts) ∧ (os ≠ ns) ∧ (ts ≠ ns)
theorem rm16 (l : Launch) (Z : State) (a0 : Array Value) (hw : ∀ d ∈ tables_1, d.before a0 Z = true) (ws : List Jvm.Cond) (rk bl : Nat) (kb : ClassId) (lw : Int32) (h0 : Heap) (n0 : Nat) (Z0 : n0 ≤ h0.size) (G0 : Exa Z h0 rk sRk) (G1 : Fld Z h0 rk sRk "blocks" dBs (.ref bl)) (G2 : Fld Z h0 rk sRk "count" "I" (.int (0 : Int32))) (G3 : Fld Z h0 rk sRk "lowestBest" "Z" (.int lw)) (G4 : Arv Z h0 bl kb (.object sBk) (4 : Int32) [.null, .null, .null, .null] .null) (G5 : Ovr Z kb sBk) (G6 : n0 ≤ rk) (G7 : n0 ≤ bl) (G8 : rk ≠ bl) :
    Con l Z y16 prog_27_method_18_code 3 none ws (Rm 2 4 196 27) #[(.ref rk), (.int (0 : Int32))] h0 (Q_rm16 Z rk bl kb lw h0 n0) := by
  refine Con.of (plainFor_of_name pn_16) fun p e s m below meth c s₁ hx hby hml hZ hown hnm hlk hret X0 e0 => ?_
  have N0 := Fr.nil n0
  have hc := And.intro hx hby
  have K0 := Keep.refl h0 [rk, bl]
  refine Comes.cast (ef_rm16 m rk) ?_
  have lt_rk : rk < h0.size := G0.lt
  have lt_bl : bl < h0.size := G4.lt
  refine cs (fun t k => xaloadN X0 hc d16_0 rfl rfl k) ?_
  refine Comes.gF X0 hx hZ hown (host := "") (Or.inl (W hw 121)) Via.refl e0 G2 rfl rfl (hb hby d16_1) fun T1 X1 e1 => ?_
  refine cs (fun t k => xaloadN X1 hc d16_4 rfl rfl k) ?_
  refine Comes.gF X1 hx hZ hown (host := "") (Or.inl (W hw 108)) Via.refl e1 G1 rfl rfl (hb hby d16_5) fun T2 X2 e2 => ?_
  obtain ⟨cl3, Ar3, -, S3, Ng3, -, -⟩ := id G4
  refine cs (fun t k => X2.arraylength hx (by rw [e2]; exact Ar3.1) (State.isArrayOf_alike hZ.alike Ar3.2.1) (g := (mkF m 8 #[vr rk, vi (0 : Int32), U0] [(.ref bl), (.int (0 : Int32))])) rfl rfl (hb hby d16_8) _ k) ?_
  rw [len_of S3 Ng3]
  refine cs (fun t k => xicmpYes X2 hc 9 32 d16_9 rfl (feq dd).2 (xaloadN X2 hc d16_32 rfl rfl k)) ?_
  refine Comes.gF X2 hx hZ hown (host := "") (Or.inl (W hw 108)) Via.refl e2 G1 rfl rfl (hb hby d16_33) fun T5 X5 e5 => ?_
  refine cs (fun t k => xaloadN X5 hc d16_36 rfl rfl k) ?_
  show Comes p e below _ (T5.setTop (mkF m 37 #[vr rk, vi (0 : Int32), U0] [(.ref rk), (.ref bl)]))
  refine Comes.gF X5 hx hZ hown (host := "") (Or.inl (W hw 121)) Via.refl e5 G2 rfl rfl (hb hby d16_37) fun T6 X6 e6 => ?_
  refine Comes.ldR X6 hx hZ e6 G4 rfl rfl (v := .null) rfl (hb hby d16_40) ?_
  refine cs (fun t k => XS.ifnonnullNo X6.here hx rfl (hb hby d16_41) rfl k) ?_
  obtain ⟨T8, h8, X8, e8, E8, A8, D8, -, st8⟩ := newO X6 hx hZ hown (W hw 106) (W hw 132) (W hw 133) e6 (g := (mkF m 44 #[vr rk, vi (0 : Int32), U0] [])) rfl (hb hby d16_44) dd dd
  obtain ⟨b8, g8⟩ : ∃ z, z = h0.size := ⟨_, rfl⟩
  rw [← g8] at A8 D8 st8
  have z8 : h0.size ≤ h8.size := E8.1
  have lt8 : b8 < h8.size := A8.lt
  have F9 : Fld Z h8 b8 sBk "orders" dOs .null := D8 (Or.inr (W hw 140)) (ty := (.array (.object sOr))) dd
  have F10 : Fld Z h8 b8 sBk "ticks" "[J" .null := D8 (Or.inr (W hw 142)) (ty := (.array .long)) dd
  have F11 : Fld Z h8 b8 sBk "numbers" "[J" .null := D8 (Or.inr (W hw 144)) (ty := (.array .long)) dd
  have F12 : Fld Z h8 b8 sBk "size" "I" (.int (0 : Int32)) := D8 (Or.inl (W hw 155)) (ty := .int) dd
  have K8 := K0.ext E8
  refine Comes.st st8 ?_
  refine cs (fun t k => XS.dup X8.here hx rfl (hb hby d16_47) rfl rfl k) ?_
  have gn13 : n0 ≤ b8 := by omega
  obtain ⟨_, _, ⟨T14, L14, k14, n14⟩, -, X14, ⟨Lc14, hQ14, l14, y14, z14⟩, st14⟩ := own_specialR X8 hx (y := (⟨sBk, "<init>", "()V"⟩ : MethodName)) rfl hown (own_mvMR hZ (W hw 135) dd (W hw 134)) (mvT hZ (W hw 135)) (mvT hZ (W hw 136)) dd (backOf (W := 1) (rm17 l Z a0 hw [] b8 h8 n0 (by omega)  A8 F9 F10 F11 F12 gn13) hZ (W hw 136) (W hw 133) dd dd) (g := (mkF m 48 #[vr rk, vi (0 : Int32), U0] [(.ref b8), (.ref b8)])) rfl (by rw [hml]; rfl) (Steps.refl _) (a := b8) (argsL := []) (rest := [(.ref b8)]) (lenOf pd_0 rfl) rfl (by show 2 * 0 + _ ≤ _; exact Nat.le_of_eq rfl) (hb hby d16_48) (fun _ _ => ⟨rfl, e8, (by decide : 1 + 3 ≤ _), (by decide : 4 + 192 ≤ _)⟩)
  dsimp only [Pt.U, Pt.locs, Pt.cells, Pt.slots] at X14 l14 y14 z14 st14 hQ14
  subst l14 y14 z14
  obtain ⟨o15, o16, o17, r18, r19, r20, rfl, Nq14, Kq14, P14_0, P14_1, P14_2, P14_3, P14_4, P14_5, P14_6, P14_7, P14_8, P14_9, P14_10, P14_11, P14_12, P14_13, P14_14, P14_15, P14_16, P14_17⟩ := hQ14
  have N14 := Fr.app N0 Nq14
  have z14k : h8.size ≤ T14.heap.size := Kq14.1
  have gz21 : h0.size ≤ b8 := by omega
  have K14 := K8.trans Kq14 (allS (Or.inr gz21) all0)
  refine Comes.go st14 ?_
  have lt_22 : b8 < T14.heap.size := P14_0.lt
  have lt_23 : o15 < T14.heap.size := P14_5.lt
  have lt_24 : o16 < T14.heap.size := P14_7.lt
  have lt_25 : o17 < T14.heap.size := P14_8.lt
  refine cs (fun t k => xgoto X14 hc 51 63 d16_51 (xastoreN X14 hc d16_63 rfl rfl rfl (xaloadN X14 hc d16_64 rfl rfl k))) ?_
  have ne26 : rk ≠ b8 := by omega
  have ni27 := ninS ne26 nin0
  have F28 := ((G1.ext E8).keep Kq14 ni27)
  refine Comes.gF X14 hx hZ hown (host := "") (Or.inl (W hw 108)) Via.refl rfl F28 rfl rfl (hb hby d16_65) fun T29 X29 e29 => ?_
  refine cs (fun t k => xiloadN X29 hc d16_68 rfl (xaloadN X29 hc d16_69 rfl rfl k)) ?_
  refine Comes.gF X29 hx hZ hown (host := "") (Or.inl (W hw 108)) Via.refl e29 F28 rfl rfl (hb hby d16_70) fun T30 X30 e30 => ?_
  refine cs (fun t k => xiloadN X30 hc d16_73 rfl (xiconst X30 hc d16_74 (xiadd X30 hc d16_75 rfl k))) ?_
  show Comes p e below _ (T30.setTop (mkF m 76 #[vr rk, vi (0 : Int32), vr b8] [(.int ((0 : Int32) + (1 : Int32))), (.ref bl), (.int (0 : Int32)), (.ref bl)]))
  rw [show ((0 : Int32) + (1 : Int32)) = (1 : Int32) from by decide]
  refine cs (fun t k => xaloadN X30 hc d16_76 rfl rfl k) ?_
  have F31 := ((G2.ext E8).keep Kq14 ni27)
  refine Comes.gF X30 hx hZ hown (host := "") (Or.inl (W hw 121)) Via.refl e30 F31 rfl rfl (hb hby d16_77) fun T32 X32 e32 => ?_
  refine cs (fun t k => xiloadN X32 hc d16_80 rfl (xisub X32 hc d16_81 rfl k)) ?_
  show Comes p e below _ (T32.setTop (mkF m 82 #[vr rk, vi (0 : Int32), vr b8] [(.int ((0 : Int32) - (0 : Int32))), (.int (1 : Int32)), (.ref bl), (.int (0 : Int32)), (.ref bl)]))
  rw [show ((0 : Int32) - (0 : Int32)) = (0 : Int32) from by decide]
  have ne33 : bl ≠ b8 := by omega
  have ni34 := ninS ne33 nin0
  have F35 := ((G4.ext E8).keep Kq14 ni34)
  obtain ⟨T36, h36, L36, X36, e36, N36, Kq36, V36, st36⟩ := cpA X32 hx hZ hown (W hw 145) (W hw 148) (W hw 146) (W hw 147) e32 (us := []) F35 F35 (Or.inr ⟨rfl, rfl, trivial⟩) dd dd dd dd dd rfl (Nat.le_of_ble_eq_true rfl) N14 (by omega) (g := (mkF m 82 #[vr rk, vi (0 : Int32), vr b8] [(.int (0 : Int32)), (.int (1 : Int32)), (.ref bl), (.int (0 : Int32)), (.ref bl)])) rfl (by rw [hml]; rfl) (rest := []) rfl (hb hby d16_82) dd (W := 0) (by show 2 * 0 + _ ≤ _; exact Nat.le_of_eq rfl) dd
  have z36 : T14.heap.size ≤ h36.size := Kq36.1
  have K36 := K14.trans Kq36 (allS (mE 1) all0)
  have V36' : Arv Z h36 bl kb (.object sBk) (4 : Int32) [.null, .null, .null, .null] .null := V36
  refine Comes.st st36 ?_
  refine cs (fun t k => xaloadN X36 hc d16_85 rfl rfl k) ?_
  have ni37 := ninS G8 nin0
  have F38 := (F28.keep Kq36 ni37)
  refine Comes.gF X36 hx hZ hown (host := "") (Or.inl (W hw 108)) Via.refl e36 F38 rfl rfl (hb hby d16_86) fun T39 X39 e39 => ?_
  refine cs (fun t k => xiloadN X39 hc d16_89 rfl (xaloadN X39 hc d16_90 rfl rfl k)) ?_
  have F41 := (P14_0.keep Kq36)
  refine Comes.wrR X39 hx hZ e39 V36' (Or.inr ⟨_, rfl, G5, (Ins.self F41)⟩) rfl rfl 0 (hb hby d16_91) fun T40 h40 X40 e40 W40 V40 => ?_
  have z40 : h40.size = h36.size := W40.size
  have N40 := Fr.snoc X40 N36 G7
  have K40 := K36.wr W40 (mE 1)
  refine cs (fun t k => xaloadN X40 hc d16_92 rfl rfl (XS.dup X40.here hx rfl (hb hby d16_93) rfl rfl k)) ?_
  have F42 := ((F31.keep Kq36 ni37).other W40 (Or.inl G8))
  refine Comes.gF X40 hx hZ hown (host := "") (Or.inl (W hw 121)) Via.refl e40 F42 rfl rfl (hb hby d16_94) fun T43 X43 e43 => ?_
  show Comes p e below _ (T43.setTop (mkF m 97 #[vr rk, vi (0 : Int32), vr b8] [(.int (0 : Int32)), (.ref rk)]))
  refine cs (fun t k => xiconst X43 hc d16_97 (xiadd X43 hc d16_98 rfl k)) ?_
  show Comes p e below _ (T43.setTop (mkF m 99 #[vr rk, vi (0 : Int32), vr b8] [(.int ((0 : Int32) + (1 : Int32))), (.ref rk)]))
  rw [show ((0 : Int32) + (1 : Int32)) = (1 : Int32) from by decide]
  have F44 := ((((G0.ext E8).keep Kq14).keep Kq36).wr W40)
  refine Comes.pF X43 hx hZ hown (host := "") (Or.inl (W hw 121)) Via.refl e43 F42 F44 (Or.inl (W hw 122)) (W hw 100) (ty := .int) dd rfl rfl rfl rfl (hb hby d16_99) fun T45 h45 X45 e45 W45 Fw45 => ?_
  have z45 : h45.size = h40.size := W45.size
  have N45 := Fr.snoc X45 N40 G6
  have K45 := K40.wr W45 (mE 0)
  show Comes p e below _ (T45.setTop (mkF m 102 #[vr rk, vi (0 : Int32), vr b8] []))
  have F46 := (F44.wr W45)
  have F47 := ((F38.other W40 (Or.inl G8)).other W45 (Or.inr (slot_ne (Or.inl (W hw 109)) (Or.inl (W hw 122)) dd (t := (.array (.object sBk))) (t' := .int) dd dd)))
  have F48 := (((((G3.ext E8).keep Kq14 ni27).keep Kq36 ni37).other W40 (Or.inl G8)).other W45 (Or.inr (slot_ne (Or.inr (W hw 111)) (Or.inl (W hw 122)) dd (t := .boolean) (t' := .int) dd dd)))
  have F49 := (V40.other W45 (Ne.symm G8))
  have F50 := ((F41.wr W40).wr W45)
  have ni51 := ninS (Ne.symm ne33) nin0
  have F52 := (((P14_1.keep Kq36 ni51).other W40 (Or.inl (Ne.symm ne33))).other W45 (Or.inl (Ne.symm ne26)))
  have F53 := (((P14_2.keep Kq36 ni51).other W40 (Or.inl (Ne.symm ne33))).other W45 (Or.inl (Ne.symm ne26)))
  have F54 := (((P14_3.keep Kq36 ni51).other W40 (Or.inl (Ne.symm ne33))).other W45 (Or.inl (Ne.symm ne26)))
  have F55 := (((P14_4.keep Kq36 ni51).other W40 (Or.inl (Ne.symm ne33))).other W45 (Or.inl (Ne.symm ne26)))
  have ne56 : o15 ≠ bl := by omega
  have ni57 := ninS ne56 nin0
  have ne58 : o15 ≠ rk := by omega
  have F59 := (((P14_5.keep Kq36 ni57).other W40 ne56).other W45 ne58)
  have ne60 : o16 ≠ bl := by omega
  have ni61 := ninS ne60 nin0
  have ne62 : o16 ≠ rk := by omega
  have F63 := (((P14_7.keep Kq36 ni61).other W40 ne60).other W45 ne62)
  have ne64 : o17 ≠ bl := by omega
  have ni65 := ninS ne64 nin0
  have ne66 : o17 ≠ rk := by omega
  have F67 := (((P14_8.keep Kq36 ni65).other W40 ne64).other W45 ne66)
  have ne68 : b8 ≠ o15 := by omega
  have ne69 : b8 ≠ o16 := by omega
  have ne70 : b8 ≠ o17 := by omega
  exact Comes.ret0 X45 hx hret hlk (hb hby d16_102) e45 ⟨b8, o15, o16, o17, r18, r19, r20, rfl, N45, K45, F46, F47, Fw45, F48, F49, G5, F50, F52, F53, F54, F55, F59, P14_6, F63, F67, gn13, P14_9, P14_10, P14_11, (by omega), (by omega), (by omega), (by omega), ne68, ne69, ne70, P14_15, P14_16, P14_17⟩ dd dd
def Q_rm18 (Z : State) (rk ob : Nat) (h0 : Heap) (n0 : Nat) (v_ : Option Value) (h : Heap) (L_ : List Loc) : Prop := (v_ = some (.int (0 : Int32))) ∧ (Fr n0 L_) ∧ (h = h0)
theorem rm18 (l : Launch) (Z : State) (a0 : Array Value) (hw : ∀ d ∈ tables_1, d.before a0 Z = true) (ws : List Jvm.Cond) (rk ob : Nat) (h0 : Heap) (n0 : Nat) (Z0 : n0 ≤ h0.size) (G0 : Fld Z h0 rk sRk "count" "I" (.int (1 : Int32))) :
    Con l Z y18 prog_27_method_13_code 5 (some .int) ws (Rm 0 0 0 0) #[(.ref rk), (.ref ob)] h0 (Q_rm18 Z rk ob h0 n0) := by
  refine Con.of (plainFor_of_name pn_18) fun p e s m below meth c s₁ hx hby hml hZ hown hnm hlk hret X0 e0 => ?_
  have N0 := Fr.nil n0
  have hc := And.intro hx hby
  refine Comes.cast (ef_rm18 m rk ob) ?_
  have lt_rk : rk < h0.size := G0.lt
  refine cs (fun t k => xiconst X0 hc d18_0 (xistoreN X0 hc d18_1 rfl rfl (xaloadN X0 hc d18_2 rfl rfl k))) ?_
  refine Comes.gF X0 hx hZ hown (host := "") (Or.inl (W hw 121)) Via.refl e0 G0 rfl rfl (hb hby d18_3) fun T1 X1 e1 => ?_
  refine cs (fun t k => xiconst X1 hc d18_6 (xisub X1 hc d18_7 rfl k)) ?_
  show Comes p e below _ (T1.setTop (mkF m 8 #[vr rk, vr ob, vi (0 : Int32), U0, U0] [(.int ((1 : Int32) - (1 : Int32)))]))
  rw [show ((1 : Int32) - (1 : Int32)) = (0 : Int32) from by decide]
  refine cs (fun t k => xistoreN X1 hc d18_8 rfl rfl (xiloadN X1 hc d18_9 rfl (xiloadN X1 hc d18_10 rfl k))) ?_
  refine cs (fun t k => xicmpYes X1 hc 11 62 d18_11 rfl (flt dd).2.1 (xiloadN X1 hc d18_62 rfl k)) ?_
  show Comes p e below _ (T1.setTop (mkF m 63 #[vr rk, vr ob, vi (0 : Int32), vi (0 : Int32), U0] [(.int (0 : Int32))]))
  exact Comes.retV X1 hx hret rfl (Or.inl ⟨rfl, Or.inl rfl, _, rfl⟩) hlk (hb hby d18_63) e1 ⟨rfl, N0, rfl⟩ dd dd
def Q_bef_0_T (Z : State) (rk blk ob : Nat) (lw : Int32) (ts ns : Nat) (kt kn : ClassId) (ta tb tc ua ub uc tt uu : Int64) (h0 : Heap) (n0 : Nat) (v_ : Option Value) (h : Heap) (L_ : List Loc) : Prop := (v_ = some (.int (1 : Int32))) ∧ (Fr n0 L_) ∧ (h = h0)
theorem bef_0_T (l : Launch) (Z : State) (a0 : Array Value) (hw : ∀ d ∈ tables_1, d.before a0 Z = true) (ws : List Jvm.Cond) (rk blk ob : Nat) (lw : Int32) (ts ns : Nat) (kt kn : ClassId) (ta tb tc ua ub uc tt uu : Int64) (h0 : Heap) (n0 : Nat) (Z0 : n0 ≤ h0.size) (G0 : Fld Z h0 rk sRk "lowestBest" "Z" (.int lw)) (G1 : Fld Z h0 blk sBk "ticks" "[J" (.ref ts)) (G2 : Fld Z h0 blk sBk "numbers" "[J" (.ref ns)) (G3 : AJ Z h0 ts kt ta tb tc) (G4 : AJ Z h0 ns kn ua ub uc) (G5 : Exa Z h0 ob sOr) (G6 : Fld Z h0 ob sOr "number" "J" (.long uu)) (G7 : Fld Z h0 ob sOr "ticks" "J" (.long tt)) (G8 : lw = (0 : Int32) ∨ lw = (1 : Int32)) (G9 : ((¬ ta = tt ∧ ¬ lw = (0 : Int32) ∧ ta < tt) ∨ (¬ ta = tt ∧ lw = (0 : Int32) ∧ tt < ta) ∨ (ta = tt ∧ ua < uu))) :
    Con l Z y33 prog_27_method_8_code 6 (some .boolean) ws (Rm 1 0 0 15) #[(.ref rk), (.ref blk), (.int (0 : Int32)), (.ref ob)] h0 (Q_bef_0_T Z rk blk ob lw ts ns kt kn ta tb tc ua ub uc tt uu h0 n0) := by
  refine Con.of (plainFor_of_name pn_33) fun p e s m below meth c s₁ hx hby hml hZ hown hnm hlk hret X0 e0 => ?_
  have N0 := Fr.nil n0
  have hc := And.intro hx hby
  refine Comes.cast (ef_bef_0_T m rk blk ob) ?_
  have lt_rk : rk < h0.size := G0.lt
  have lt_blk : blk < h0.size := G1.lt
  have lt_ts : ts < h0.size := G3.lt
  have lt_ns : ns < h0.size := G4.lt
  have lt_ob : ob < h0.size := G5.lt
  refine cs (fun t k => xaloadN X0 hc d33_0 rfl rfl k) ?_
  refine Comes.gR X0 hx hZ hown (W hw 227) Via.refl e0 G1 rfl rfl (hb hby d33_1) fun T1 X1 e1 => ?_
  refine cs (fun t k => xiloadN X1 hc d33_4 rfl k) ?_
  refine Comes.ldJ X1 hx hZ e1 G3 rfl rfl (x := ta) rfl (hb hby d33_5) ?_
  refine cs (fun t k => XS.lstore X1.here hx rfl (hb hby d33_6) rfl rfl (XS.lload X1.here hx rfl (hb hby d33_8) rfl (xaloadN X1 hc d33_10 rfl rfl k))) ?_
  refine Comes.cV X1 hx hZ hown (y := y23) (W := 2) (W hw 228) (W hw 177) (W hw 179) (W hw 178) dd (W hw 180) (rm23 l Z a0 hw [] ob tt h0 n0 (by omega)  G7) G5 (W hw 43) dd dd e1 rfl (by rw [hml]; rfl) (argsL := []) (rest := [(.long ta)]) (lenOf pd_3 rfl) rfl (wle rfl) (hb hby d33_11) rfl dd dd fun v3 T3 L3 hQ3 X3 => ?_
  obtain ⟨rfl, Nq3, hs3⟩ := hQ3
  have N3 := Fr.app N0 Nq3
  show Comes p e below _ (T3.setTop (mkF m 14 #[vr rk, vr blk, vi (0 : Int32), vr ob, vj ta, S2] [(.long tt), (.long ta)]))
  refine cs (fun t k => XS.lcmp X3.here hx rfl (hb hby d33_14) rfl k) ?_
  by_cases hc15_4 : ta = tt
  · refine cs (fun t k => xifYes X3 hc 15 48 d33_15 rfl ((if0 _ _).trans (teq ((lw_eq _ _).mpr hc15_4)).1) (xaloadN X3 hc d33_48 rfl rfl k)) ?_
    refine Comes.gR X3 hx hZ hown (W hw 229) Via.refl hs3 G2 rfl rfl (hb hby d33_49) fun T5 X5 e5 => ?_
    refine cs (fun t k => xiloadN X5 hc d33_52 rfl k) ?_
    refine Comes.ldJ X5 hx hZ e5 G4 rfl rfl (x := ua) rfl (hb hby d33_53) ?_
    refine cs (fun t k => xaloadN X5 hc d33_54 rfl rfl k) ?_
    refine Comes.cV X5 hx hZ hown (y := y24) (W := 2) (W hw 230) (W hw 182) (W hw 184) (W hw 183) dd (W hw 185) (rm24 l Z a0 hw [] ob uu h0 n0 (by omega)  G6) G5 (W hw 43) dd dd e5 rfl (by rw [hml]; rfl) (argsL := []) (rest := [(.long ua)]) (lenOf pd_3 rfl) rfl (wle rfl) (hb hby d33_55) rfl dd dd fun v7 T7 L7 hQ7 X7 => ?_
    obtain ⟨rfl, Nq7, hs7⟩ := hQ7
    have N7 := Fr.app N3 Nq7
    show Comes p e below _ (T7.setTop (mkF m 58 #[vr rk, vr blk, vi (0 : Int32), vr ob, vj ta, S2] [(.long uu), (.long ua)]))
    refine cs (fun t k => XS.lcmp X7.here hx rfl (hb hby d33_58) rfl k) ?_
    have hc59_8 : ua < uu := by exact own_b3 G9 hc15_4
    refine cs (fun t k => xifNo X7 hc d33_59 rfl ((if0 _ _).trans (tlt ((lw_lt _ _).mpr hc59_8)).2.1) (xiconst X7 hc d33_62 (xgoto X7 hc 63 67 d33_63 k))) ?_
    show Comes p e below _ (T7.setTop (mkF m 67 #[vr rk, vr blk, vi (0 : Int32), vr ob, vj ta, S2] [(.int (1 : Int32))]))
    exact Comes.retN X7 hx (t := .boolean) hret (by simp) hlk (hb hby d33_67) hs7 ⟨rfl, N7, rfl⟩ dd dd
  · refine cs (fun t k => xifNo X3 hc d33_15 rfl ((if0 _ _).trans (feq (fun q => hc15_4 ((lw_eq _ _).mp q))).1) (xaloadN X3 hc d33_18 rfl rfl k)) ?_
    refine Comes.gF X3 hx hZ hown (host := "") (Or.inl (W hw 110)) Via.refl hs3 G0 rfl rfl (hb hby d33_19) fun T9 X9 e9 => ?_
    refine cs (fun t k => XS.lload X9.here hx rfl (hb hby d33_22) rfl (xaloadN X9 hc d33_24 rfl rfl k)) ?_
    refine Comes.cV X9 hx hZ hown (y := y23) (W := 3) (W hw 228) (W hw 177) (W hw 179) (W hw 178) dd (W hw 180) (rm23 l Z a0 hw [] ob tt h0 n0 (by omega)  G7) G5 (W hw 43) dd dd e9 rfl (by rw [hml]; rfl) (argsL := []) (rest := [(.long ta), (.int lw)]) (lenOf pd_3 rfl) rfl (wle rfl) (hb hby d33_25) rfl dd dd fun v10 T10 L10 hQ10 X10 => ?_
    obtain ⟨rfl, Nq10, hs10⟩ := hQ10
    have N10 := Fr.app N3 Nq10
    refine cs (fun t k => XS.lcmp X10.here hx rfl (hb hby d33_28) rfl k) ?_
    show Comes p e below _ (T10.setTop (mkF m 29 #[vr rk, vr blk, vi (0 : Int32), vr ob, vj ta, S2] [(.int (lcmpW ta tt)), (.int lw)]))
    by_cases hc29_11 : ta < tt
    · refine cs (fun t k => xifNo X10 hc d33_29 rfl ((if0 _ _).trans (tlt ((lw_lt _ _).mpr hc29_11)).2.1) (xiconst X10 hc d33_32 (xgoto X10 hc 33 37 d33_33 k))) ?_
      have hc37_12 : lw = (1 : Int32) := by exact own_b4 G9 G8 hc15_4 hc29_11
      refine cs (fun t k => xicmpNo X10 hc d33_37 rfl (teq hc37_12).2 (xiconst X10 hc d33_40 (xgoto X10 hc 41 67 d33_41 k))) ?_
      show Comes p e below _ (T10.setTop (mkF m 67 #[vr rk, vr blk, vi (0 : Int32), vr ob, vj ta, S2] [(.int (1 : Int32))]))
      exact Comes.retN X10 hx (t := .boolean) hret (by simp) hlk (hb hby d33_67) hs10 ⟨rfl, N10, rfl⟩ dd dd
    · refine cs (fun t k => xifYes X10 hc 29 36 d33_29 rfl ((if0 _ _).trans (flt (fun q => hc29_11 ((lw_lt _ _).mp q))).2.1) (xiconst X10 hc d33_36 k)) ?_
      have hc37_13 : lw = (0 : Int32) := by exact own_b5 G9 G8 hc15_4 hc29_11
      refine cs (fun t k => xicmpNo X10 hc d33_37 rfl (teq hc37_13).2 (xiconst X10 hc d33_40 (xgoto X10 hc 41 67 d33_41 k))) ?_
      show Comes p e below _ (T10.setTop (mkF m 67 #[vr rk, vr blk, vi (0 : Int32), vr ob, vj ta, S2] [(.int (1 : Int32))]))
      exact Comes.retN X10 hx (t := .boolean) hret (by simp) hlk (hb hby d33_67) hs10 ⟨rfl, N10, rfl⟩ dd dd
def Q_bef_0_F (Z : State) (rk blk ob : Nat) (lw : Int32) (ts ns : Nat) (kt kn : ClassId) (ta tb tc ua ub uc tt uu : Int64) (h0 : Heap) (n0 : Nat) (v_ : Option Value) (h : Heap) (L_ : List Loc) : Prop := (v_ = some (.int (0 : Int32))) ∧ (Fr n0 L_) ∧ (h = h0)
theorem bef_0_F (l : Launch) (Z : State) (a0 : Array Value) (hw : ∀ d ∈ tables_1, d.before a0 Z = true) (ws : List Jvm.Cond) (rk blk ob : Nat) (lw : Int32) (ts ns : Nat) (kt kn : ClassId) (ta tb tc ua ub uc tt uu : Int64) (h0 : Heap) (n0 : Nat) (Z0 : n0 ≤ h0.size) (G0 : Fld Z h0 rk sRk "lowestBest" "Z" (.int lw)) (G1 : Fld Z h0 blk sBk "ticks" "[J" (.ref ts)) (G2 : Fld Z h0 blk sBk "numbers" "[J" (.ref ns)) (G3 : AJ Z h0 ts kt ta tb tc) (G4 : AJ Z h0 ns kn ua ub uc) (G5 : Exa Z h0 ob sOr) (G6 : Fld Z h0 ob sOr "number" "J" (.long uu)) (G7 : Fld Z h0 ob sOr "ticks" "J" (.long tt)) (G8 : lw = (0 : Int32) ∨ lw = (1 : Int32)) (G9 : ¬ ((¬ ta = tt ∧ ¬ lw = (0 : Int32) ∧ ta < tt) ∨ (¬ ta = tt ∧ lw = (0 : Int32) ∧ tt < ta) ∨ (ta = tt ∧ ua < uu))) :
    Con l Z y33 prog_27_method_8_code 6 (some .boolean) ws (Rm 1 0 0 15) #[(.ref rk), (.ref blk), (.int (0 : Int32)), (.ref ob)] h0 (Q_bef_0_F Z rk blk ob lw ts ns kt kn ta tb tc ua ub uc tt uu h0 n0) := by
  refine Con.of (plainFor_of_name pn_33) fun p e s m below meth c s₁ hx hby hml hZ hown hnm hlk hret X0 e0 => ?_
  have N0 := Fr.nil n0
  have hc := And.intro hx hby
  refine Comes.cast (ef_bef_0_T m rk blk ob) ?_
  have lt_rk : rk < h0.size := G0.lt
  have lt_blk : blk < h0.size := G1.lt
  have lt_ts : ts < h0.size := G3.lt
  have lt_ns : ns < h0.size := G4.lt
  have lt_ob : ob < h0.size := G5.lt
  refine cs (fun t k => xaloadN X0 hc d33_0 rfl rfl k) ?_
  refine Comes.gR X0 hx hZ hown (W hw 227) Via.refl e0 G1 rfl rfl (hb hby d33_1) fun T1 X1 e1 => ?_
  refine cs (fun t k => xiloadN X1 hc d33_4 rfl k) ?_
  refine Comes.ldJ X1 hx hZ e1 G3 rfl rfl (x := ta) rfl (hb hby d33_5) ?_
  refine cs (fun t k => XS.lstore X1.here hx rfl (hb hby d33_6) rfl rfl (XS.lload X1.here hx rfl (hb hby d33_8) rfl (xaloadN X1 hc d33_10 rfl rfl k))) ?_
  refine Comes.cV X1 hx hZ hown (y := y23) (W := 2) (W hw 228) (W hw 177) (W hw 179) (W hw 178) dd (W hw 180) (rm23 l Z a0 hw [] ob tt h0 n0 (by omega)  G7) G5 (W hw 43) dd dd e1 rfl (by rw [hml]; rfl) (argsL := []) (rest := [(.long ta)]) (lenOf pd_3 rfl) rfl (wle rfl) (hb hby d33_11) rfl dd dd fun v3 T3 L3 hQ3 X3 => ?_
  obtain ⟨rfl, Nq3, hs3⟩ := hQ3
  have N3 := Fr.app N0 Nq3
  show Comes p e below _ (T3.setTop (mkF m 14 #[vr rk, vr blk, vi (0 : Int32), vr ob, vj ta, S2] [(.long tt), (.long ta)]))
  refine cs (fun t k => XS.lcmp X3.here hx rfl (hb hby d33_14) rfl k) ?_
  by_cases hc15_4 : ta = tt
  · refine cs (fun t k => xifYes X3 hc 15 48 d33_15 rfl ((if0 _ _).trans (teq ((lw_eq _ _).mpr hc15_4)).1) (xaloadN X3 hc d33_48 rfl rfl k)) ?_
    refine Comes.gR X3 hx hZ hown (W hw 229) Via.refl hs3 G2 rfl rfl (hb hby d33_49) fun T5 X5 e5 => ?_
    refine cs (fun t k => xiloadN X5 hc d33_52 rfl k) ?_
    refine Comes.ldJ X5 hx hZ e5 G4 rfl rfl (x := ua) rfl (hb hby d33_53) ?_
    refine cs (fun t k => xaloadN X5 hc d33_54 rfl rfl k) ?_
    refine Comes.cV X5 hx hZ hown (y := y24) (W := 2) (W hw 230) (W hw 182) (W hw 184) (W hw 183) dd (W hw 185) (rm24 l Z a0 hw [] ob uu h0 n0 (by omega)  G6) G5 (W hw 43) dd dd e5 rfl (by rw [hml]; rfl) (argsL := []) (rest := [(.long ua)]) (lenOf pd_3 rfl) rfl (wle rfl) (hb hby d33_55) rfl dd dd fun v7 T7 L7 hQ7 X7 => ?_
    obtain ⟨rfl, Nq7, hs7⟩ := hQ7
    have N7 := Fr.app N3 Nq7
    show Comes p e below _ (T7.setTop (mkF m 58 #[vr rk, vr blk, vi (0 : Int32), vr ob, vj ta, S2] [(.long uu), (.long ua)]))
    refine cs (fun t k => XS.lcmp X7.here hx rfl (hb hby d33_58) rfl k) ?_
    have hc59_8 : ¬ (ua < uu) := by exact own_n3 G9 hc15_4
    refine cs (fun t k => xifYes X7 hc 59 66 d33_59 rfl ((if0 _ _).trans (flt (fun q => hc59_8 ((lw_lt _ _).mp q))).2.1) (xiconst X7 hc d33_66 k)) ?_
    show Comes p e below _ (T7.setTop (mkF m 67 #[vr rk, vr blk, vi (0 : Int32), vr ob, vj ta, S2] [(.int (0 : Int32))]))
    exact Comes.retN X7 hx (t := .boolean) hret (by simp) hlk (hb hby d33_67) hs7 ⟨rfl, N7, rfl⟩ dd dd
  · refine cs (fun t k => xifNo X3 hc d33_15 rfl ((if0 _ _).trans (feq (fun q => hc15_4 ((lw_eq _ _).mp q))).1) (xaloadN X3 hc d33_18 rfl rfl k)) ?_
    refine Comes.gF X3 hx hZ hown (host := "") (Or.inl (W hw 110)) Via.refl hs3 G0 rfl rfl (hb hby d33_19) fun T9 X9 e9 => ?_
    refine cs (fun t k => XS.lload X9.here hx rfl (hb hby d33_22) rfl (xaloadN X9 hc d33_24 rfl rfl k)) ?_
    refine Comes.cV X9 hx hZ hown (y := y23) (W := 3) (W hw 228) (W hw 177) (W hw 179) (W hw 178) dd (W hw 180) (rm23 l Z a0 hw [] ob tt h0 n0 (by omega)  G7) G5 (W hw 43) dd dd e9 rfl (by rw [hml]; rfl) (argsL := []) (rest := [(.long ta), (.int lw)]) (lenOf pd_3 rfl) rfl (wle rfl) (hb hby d33_25) rfl dd dd fun v10 T10 L10 hQ10 X10 => ?_
    obtain ⟨rfl, Nq10, hs10⟩ := hQ10
    have N10 := Fr.app N3 Nq10
    refine cs (fun t k => XS.lcmp X10.here hx rfl (hb hby d33_28) rfl k) ?_
    show Comes p e below _ (T10.setTop (mkF m 29 #[vr rk, vr blk, vi (0 : Int32), vr ob, vj ta, S2] [(.int (lcmpW ta tt)), (.int lw)]))
    by_cases hc29_11 : ta < tt
    · refine cs (fun t k => xifNo X10 hc d33_29 rfl ((if0 _ _).trans (tlt ((lw_lt _ _).mpr hc29_11)).2.1) (xiconst X10 hc d33_32 (xgoto X10 hc 33 37 d33_33 k))) ?_
      have hc37_12 : ¬ (lw = (1 : Int32)) := by exact own_n4 G9 G8 hc15_4 hc29_11
      refine cs (fun t k => xicmpYes X10 hc 37 44 d33_37 rfl (feq hc37_12).2 (xiconst X10 hc d33_44 (xgoto X10 hc 45 67 d33_45 k))) ?_
      show Comes p e below _ (T10.setTop (mkF m 67 #[vr rk, vr blk, vi (0 : Int32), vr ob, vj ta, S2] [(.int (0 : Int32))]))
      exact Comes.retN X10 hx (t := .boolean) hret (by simp) hlk (hb hby d33_67) hs10 ⟨rfl, N10, rfl⟩ dd dd
    · refine cs (fun t k => xifYes X10 hc 29 36 d33_29 rfl ((if0 _ _).trans (flt (fun q => hc29_11 ((lw_lt _ _).mp q))).2.1) (xiconst X10 hc d33_36 k)) ?_
      have hc37_13 : ¬ (lw = (0 : Int32)) := by exact own_n5 G9 G8 hc15_4 hc29_11
      refine cs (fun t k => xicmpYes X10 hc 37 44 d33_37 rfl (feq hc37_13).2 (xiconst X10 hc d33_44 (xgoto X10 hc 45 67 d33_45 k))) ?_
      show Comes p e below _ (T10.setTop (mkF m 67 #[vr rk, vr blk, vi (0 : Int32), vr ob, vj ta, S2] [(.int (0 : Int32))]))
      exact Comes.retN X10 hx (t := .boolean) hret (by simp) hlk (hb hby d33_67) hs10 ⟨rfl, N10, rfl⟩ dd dd
def Q_bef_1_T (Z : State) (rk blk ob : Nat) (lw : Int32) (ts ns : Nat) (kt kn : ClassId) (ta tb tc ua ub uc tt uu : Int64) (h0 : Heap) (n0 : Nat) (v_ : Option Value) (h : Heap) (L_ : List Loc) : Prop := (v_ = some (.int (1 : Int32))) ∧ (Fr n0 L_) ∧ (h = h0)
theorem bef_1_T (l : Launch) (Z : State) (a0 : Array Value) (hw : ∀ d ∈ tables_1, d.before a0 Z = true) (ws : List Jvm.Cond) (rk blk ob : Nat) (lw : Int32) (ts ns : Nat) (kt kn : ClassId) (ta tb tc ua ub uc tt uu : Int64) (h0 : Heap) (n0 : Nat) (Z0 : n0 ≤ h0.size) (G0 : Fld Z h0 rk sRk "lowestBest" "Z" (.int lw)) (G1 : Fld Z h0 blk sBk "ticks" "[J" (.ref ts)) (G2 : Fld Z h0 blk sBk "numbers" "[J" (.ref ns)) (G3 : AJ Z h0 ts kt ta tb tc) (G4 : AJ Z h0 ns kn ua ub uc) (G5 : Exa Z h0 ob sOr) (G6 : Fld Z h0 ob sOr "number" "J" (.long uu)) (G7 : Fld Z h0 ob sOr "ticks" "J" (.long tt)) (G8 : lw = (0 : Int32) ∨ lw = (1 : Int32)) (G9 : ((¬ tb = tt ∧ ¬ lw = (0 : Int32) ∧ tb < tt) ∨ (¬ tb = tt ∧ lw = (0 : Int32) ∧ tt < tb) ∨ (tb = tt ∧ ub < uu))) :
    Con l Z y33 prog_27_method_8_code 6 (some .boolean) ws (Rm 1 0 0 15) #[(.ref rk), (.ref blk), (.int (1 : Int32)), (.ref ob)] h0 (Q_bef_1_T Z rk blk ob lw ts ns kt kn ta tb tc ua ub uc tt uu h0 n0) := by
  refine Con.of (plainFor_of_name pn_33) fun p e s m below meth c s₁ hx hby hml hZ hown hnm hlk hret X0 e0 => ?_
  have N0 := Fr.nil n0
  have hc := And.intro hx hby
  refine Comes.cast (ef_bef_1_T m rk blk ob) ?_
  have lt_rk : rk < h0.size := G0.lt
  have lt_blk : blk < h0.size := G1.lt
  have lt_ts : ts < h0.size := G3.lt
  have lt_ns : ns < h0.size := G4.lt
  have lt_ob : ob < h0.size := G5.lt
  refine cs (fun t k => xaloadN X0 hc d33_0 rfl rfl k) ?_
  refine Comes.gR X0 hx hZ hown (W hw 227) Via.refl e0 G1 rfl rfl (hb hby d33_1) fun T1 X1 e1 => ?_
  refine cs (fun t k => xiloadN X1 hc d33_4 rfl k) ?_
  refine Comes.ldJ X1 hx hZ e1 G3 rfl rfl (x := tb) rfl (hb hby d33_5) ?_
  refine cs (fun t k => XS.lstore X1.here hx rfl (hb hby d33_6) rfl rfl (XS.lload X1.here hx rfl (hb hby d33_8) rfl (xaloadN X1 hc d33_10 rfl rfl k))) ?_
  refine Comes.cV X1 hx hZ hown (y := y23) (W := 2) (W hw 228) (W hw 177) (W hw 179) (W hw 178) dd (W hw 180) (rm23 l Z a0 hw [] ob tt h0 n0 (by omega)  G7) G5 (W hw 43) dd dd e1 rfl (by rw [hml]; rfl) (argsL := []) (rest := [(.long tb)]) (lenOf pd_3 rfl) rfl (wle rfl) (hb hby d33_11) rfl dd dd fun v3 T3 L3 hQ3 X3 => ?_
  obtain ⟨rfl, Nq3, hs3⟩ := hQ3
  have N3 := Fr.app N0 Nq3
  show Comes p e below _ (T3.setTop (mkF m 14 #[vr rk, vr blk, vi (1 : Int32), vr ob, vj tb, S2] [(.long tt), (.long tb)]))
  refine cs (fun t k => XS.lcmp X3.here hx rfl (hb hby d33_14) rfl k) ?_
  by_cases hc15_4 : tb = tt
  · refine cs (fun t k => xifYes X3 hc 15 48 d33_15 rfl ((if0 _ _).trans (teq ((lw_eq _ _).mpr hc15_4)).1) (xaloadN X3 hc d33_48 rfl rfl k)) ?_
    refine Comes.gR X3 hx hZ hown (W hw 229) Via.refl hs3 G2 rfl rfl (hb hby d33_49) fun T5 X5 e5 => ?_
    refine cs (fun t k => xiloadN X5 hc d33_52 rfl k) ?_
    refine Comes.ldJ X5 hx hZ e5 G4 rfl rfl (x := ub) rfl (hb hby d33_53) ?_
    refine cs (fun t k => xaloadN X5 hc d33_54 rfl rfl k) ?_
    refine Comes.cV X5 hx hZ hown (y := y24) (W := 2) (W hw 230) (W hw 182) (W hw 184) (W hw 183) dd (W hw 185) (rm24 l Z a0 hw [] ob uu h0 n0 (by omega)  G6) G5 (W hw 43) dd dd e5 rfl (by rw [hml]; rfl) (argsL := []) (rest := [(.long ub)]) (lenOf pd_3 rfl) rfl (wle rfl) (hb hby d33_55) rfl dd dd fun v7 T7 L7 hQ7 X7 => ?_
    obtain ⟨rfl, Nq7, hs7⟩ := hQ7
    have N7 := Fr.app N3 Nq7
    show Comes p e below _ (T7.setTop (mkF m 58 #[vr rk, vr blk, vi (1 : Int32), vr ob, vj tb, S2] [(.long uu), (.long ub)]))
    refine cs (fun t k => XS.lcmp X7.here hx rfl (hb hby d33_58) rfl k) ?_
    have hc59_8 : ub < uu := by exact own_b3 G9 hc15_4
    refine cs (fun t k => xifNo X7 hc d33_59 rfl ((if0 _ _).trans (tlt ((lw_lt _ _).mpr hc59_8)).2.1) (xiconst X7 hc d33_62 (xgoto X7 hc 63 67 d33_63 k))) ?_
    show Comes p e below _ (T7.setTop (mkF m 67 #[vr rk, vr blk, vi (1 : Int32), vr ob, vj tb, S2] [(.int (1 : Int32))]))
    exact Comes.retN X7 hx (t := .boolean) hret (by simp) hlk (hb hby d33_67) hs7 ⟨rfl, N7, rfl⟩ dd dd
  · refine cs (fun t k => xifNo X3 hc d33_15 rfl ((if0 _ _).trans (feq (fun q => hc15_4 ((lw_eq _ _).mp q))).1) (xaloadN X3 hc d33_18 rfl rfl k)) ?_
    refine Comes.gF X3 hx hZ hown (host := "") (Or.inl (W hw 110)) Via.refl hs3 G0 rfl rfl (hb hby d33_19) fun T9 X9 e9 => ?_
    refine cs (fun t k => XS.lload X9.here hx rfl (hb hby d33_22) rfl (xaloadN X9 hc d33_24 rfl rfl k)) ?_
    refine Comes.cV X9 hx hZ hown (y := y23) (W := 3) (W hw 228) (W hw 177) (W hw 179) (W hw 178) dd (W hw 180) (rm23 l Z a0 hw [] ob tt h0 n0 (by omega)  G7) G5 (W hw 43) dd dd e9 rfl (by rw [hml]; rfl) (argsL := []) (rest := [(.long tb), (.int lw)]) (lenOf pd_3 rfl) rfl (wle rfl) (hb hby d33_25) rfl dd dd fun v10 T10 L10 hQ10 X10 => ?_
    obtain ⟨rfl, Nq10, hs10⟩ := hQ10
    have N10 := Fr.app N3 Nq10
    refine cs (fun t k => XS.lcmp X10.here hx rfl (hb hby d33_28) rfl k) ?_
    show Comes p e below _ (T10.setTop (mkF m 29 #[vr rk, vr blk, vi (1 : Int32), vr ob, vj tb, S2] [(.int (lcmpW tb tt)), (.int lw)]))
    by_cases hc29_11 : tb < tt
    · refine cs (fun t k => xifNo X10 hc d33_29 rfl ((if0 _ _).trans (tlt ((lw_lt _ _).mpr hc29_11)).2.1) (xiconst X10 hc d33_32 (xgoto X10 hc 33 37 d33_33 k))) ?_
      have hc37_12 : lw = (1 : Int32) := by exact own_b4 G9 G8 hc15_4 hc29_11
      refine cs (fun t k => xicmpNo X10 hc d33_37 rfl (teq hc37_12).2 (xiconst X10 hc d33_40 (xgoto X10 hc 41 67 d33_41 k))) ?_
      show Comes p e below _ (T10.setTop (mkF m 67 #[vr rk, vr blk, vi (1 : Int32), vr ob, vj tb, S2] [(.int (1 : Int32))]))
      exact Comes.retN X10 hx (t := .boolean) hret (by simp) hlk (hb hby d33_67) hs10 ⟨rfl, N10, rfl⟩ dd dd
    · refine cs (fun t k => xifYes X10 hc 29 36 d33_29 rfl ((if0 _ _).trans (flt (fun q => hc29_11 ((lw_lt _ _).mp q))).2.1) (xiconst X10 hc d33_36 k)) ?_
      have hc37_13 : lw = (0 : Int32) := by exact own_b5 G9 G8 hc15_4 hc29_11
      refine cs (fun t k => xicmpNo X10 hc d33_37 rfl (teq hc37_13).2 (xiconst X10 hc d33_40 (xgoto X10 hc 41 67 d33_41 k))) ?_
      show Comes p e below _ (T10.setTop (mkF m 67 #[vr rk, vr blk, vi (1 : Int32), vr ob, vj tb, S2] [(.int (1 : Int32))]))
      exact Comes.retN X10 hx (t := .boolean) hret (by simp) hlk (hb hby d33_67) hs10 ⟨rfl, N10, rfl⟩ dd dd
def Q_bef_1_F (Z : State) (rk blk ob : Nat) (lw : Int32) (ts ns : Nat) (kt kn : ClassId) (ta tb tc ua ub uc tt uu : Int64) (h0 : Heap) (n0 : Nat) (v_ : Option Value) (h : Heap) (L_ : List Loc) : Prop := (v_ = some (.int (0 : Int32))) ∧ (Fr n0 L_) ∧ (h = h0)
theorem bef_1_F (l : Launch) (Z : State) (a0 : Array Value) (hw : ∀ d ∈ tables_1, d.before a0 Z = true) (ws : List Jvm.Cond) (rk blk ob : Nat) (lw : Int32) (ts ns : Nat) (kt kn : ClassId) (ta tb tc ua ub uc tt uu : Int64) (h0 : Heap) (n0 : Nat) (Z0 : n0 ≤ h0.size) (G0 : Fld Z h0 rk sRk "lowestBest" "Z" (.int lw)) (G1 : Fld Z h0 blk sBk "ticks" "[J" (.ref ts)) (G2 : Fld Z h0 blk sBk "numbers" "[J" (.ref ns)) (G3 : AJ Z h0 ts kt ta tb tc) (G4 : AJ Z h0 ns kn ua ub uc) (G5 : Exa Z h0 ob sOr) (G6 : Fld Z h0 ob sOr "number" "J" (.long uu)) (G7 : Fld Z h0 ob sOr "ticks" "J" (.long tt)) (G8 : lw = (0 : Int32) ∨ lw = (1 : Int32)) (G9 : ¬ ((¬ tb = tt ∧ ¬ lw = (0 : Int32) ∧ tb < tt) ∨ (¬ tb = tt ∧ lw = (0 : Int32) ∧ tt < tb) ∨ (tb = tt ∧ ub < uu))) :
    Con l Z y33 prog_27_method_8_code 6 (some .boolean) ws (Rm 1 0 0 15) #[(.ref rk), (.ref blk), (.int (1 : Int32)), (.ref ob)] h0 (Q_bef_1_F Z rk blk ob lw ts ns kt kn ta tb tc ua ub uc tt uu h0 n0) := by
  refine Con.of (plainFor_of_name pn_33) fun p e s m below meth c s₁ hx hby hml hZ hown hnm hlk hret X0 e0 => ?_
  have N0 := Fr.nil n0
  have hc := And.intro hx hby
  refine Comes.cast (ef_bef_1_T m rk blk ob) ?_
  have lt_rk : rk < h0.size := G0.lt
  have lt_blk : blk < h0.size := G1.lt
  have lt_ts : ts < h0.size := G3.lt
  have lt_ns : ns < h0.size := G4.lt
  have lt_ob : ob < h0.size := G5.lt
  refine cs (fun t k => xaloadN X0 hc d33_0 rfl rfl k) ?_
  refine Comes.gR X0 hx hZ hown (W hw 227) Via.refl e0 G1 rfl rfl (hb hby d33_1) fun T1 X1 e1 => ?_
  refine cs (fun t k => xiloadN X1 hc d33_4 rfl k) ?_
  refine Comes.ldJ X1 hx hZ e1 G3 rfl rfl (x := tb) rfl (hb hby d33_5) ?_
  refine cs (fun t k => XS.lstore X1.here hx rfl (hb hby d33_6) rfl rfl (XS.lload X1.here hx rfl (hb hby d33_8) rfl (xaloadN X1 hc d33_10 rfl rfl k))) ?_
  refine Comes.cV X1 hx hZ hown (y := y23) (W := 2) (W hw 228) (W hw 177) (W hw 179) (W hw 178) dd (W hw 180) (rm23 l Z a0 hw [] ob tt h0 n0 (by omega)  G7) G5 (W hw 43) dd dd e1 rfl (by rw [hml]; rfl) (argsL := []) (rest := [(.long tb)]) (lenOf pd_3 rfl) rfl (wle rfl) (hb hby d33_11) rfl dd dd fun v3 T3 L3 hQ3 X3 => ?_
  obtain ⟨rfl, Nq3, hs3⟩ := hQ3
  have N3 := Fr.app N0 Nq3
  show Comes p e below _ (T3.setTop (mkF m 14 #[vr rk, vr blk, vi (1 : Int32), vr ob, vj tb, S2] [(.long tt), (.long tb)]))
  refine cs (fun t k => XS.lcmp X3.here hx rfl (hb hby d33_14) rfl k) ?_
  by_cases hc15_4 : tb = tt
  · refine cs (fun t k => xifYes X3 hc 15 48 d33_15 rfl ((if0 _ _).trans (teq ((lw_eq _ _).mpr hc15_4)).1) (xaloadN X3 hc d33_48 rfl rfl k)) ?_
    refine Comes.gR X3 hx hZ hown (W hw 229) Via.refl hs3 G2 rfl rfl (hb hby d33_49) fun T5 X5 e5 => ?_
    refine cs (fun t k => xiloadN X5 hc d33_52 rfl k) ?_
    refine Comes.ldJ X5 hx hZ e5 G4 rfl rfl (x := ub) rfl (hb hby d33_53) ?_
    refine cs (fun t k => xaloadN X5 hc d33_54 rfl rfl k) ?_
    refine Comes.cV X5 hx hZ hown (y := y24) (W := 2) (W hw 230) (W hw 182) (W hw 184) (W hw 183) dd (W hw 185) (rm24 l Z a0 hw [] ob uu h0 n0 (by omega)  G6) G5 (W hw 43) dd dd e5 rfl (by rw [hml]; rfl) (argsL := []) (rest := [(.long ub)]) (lenOf pd_3 rfl) rfl (wle rfl) (hb hby d33_55) rfl dd dd fun v7 T7 L7 hQ7 X7 => ?_
    obtain ⟨rfl, Nq7, hs7⟩ := hQ7
    have N7 := Fr.app N3 Nq7
    show Comes p e below _ (T7.setTop (mkF m 58 #[vr rk, vr blk, vi (1 : Int32), vr ob, vj tb, S2] [(.long uu), (.long ub)]))
    refine cs (fun t k => XS.lcmp X7.here hx rfl (hb hby d33_58) rfl k) ?_
    have hc59_8 : ¬ (ub < uu) := by exact own_n3 G9 hc15_4
    refine cs (fun t k => xifYes X7 hc 59 66 d33_59 rfl ((if0 _ _).trans (flt (fun q => hc59_8 ((lw_lt _ _).mp q))).2.1) (xiconst X7 hc d33_66 k)) ?_
    show Comes p e below _ (T7.setTop (mkF m 67 #[vr rk, vr blk, vi (1 : Int32), vr ob, vj tb, S2] [(.int (0 : Int32))]))
    exact Comes.retN X7 hx (t := .boolean) hret (by simp) hlk (hb hby d33_67) hs7 ⟨rfl, N7, rfl⟩ dd dd
  · refine cs (fun t k => xifNo X3 hc d33_15 rfl ((if0 _ _).trans (feq (fun q => hc15_4 ((lw_eq _ _).mp q))).1) (xaloadN X3 hc d33_18 rfl rfl k)) ?_
    refine Comes.gF X3 hx hZ hown (host := "") (Or.inl (W hw 110)) Via.refl hs3 G0 rfl rfl (hb hby d33_19) fun T9 X9 e9 => ?_
    refine cs (fun t k => XS.lload X9.here hx rfl (hb hby d33_22) rfl (xaloadN X9 hc d33_24 rfl rfl k)) ?_
    refine Comes.cV X9 hx hZ hown (y := y23) (W := 3) (W hw 228) (W hw 177) (W hw 179) (W hw 178) dd (W hw 180) (rm23 l Z a0 hw [] ob tt h0 n0 (by omega)  G7) G5 (W hw 43) dd dd e9 rfl (by rw [hml]; rfl) (argsL := []) (rest := [(.long tb), (.int lw)]) (lenOf pd_3 rfl) rfl (wle rfl) (hb hby d33_25) rfl dd dd fun v10 T10 L10 hQ10 X10 => ?_
    obtain ⟨rfl, Nq10, hs10⟩ := hQ10
    have N10 := Fr.app N3 Nq10
    refine cs (fun t k => XS.lcmp X10.here hx rfl (hb hby d33_28) rfl k) ?_
    show Comes p e below _ (T10.setTop (mkF m 29 #[vr rk, vr blk, vi (1 : Int32), vr ob, vj tb, S2] [(.int (lcmpW tb tt)), (.int lw)]))
    by_cases hc29_11 : tb < tt
    · refine cs (fun t k => xifNo X10 hc d33_29 rfl ((if0 _ _).trans (tlt ((lw_lt _ _).mpr hc29_11)).2.1) (xiconst X10 hc d33_32 (xgoto X10 hc 33 37 d33_33 k))) ?_
      have hc37_12 : ¬ (lw = (1 : Int32)) := by exact own_n4 G9 G8 hc15_4 hc29_11
      refine cs (fun t k => xicmpYes X10 hc 37 44 d33_37 rfl (feq hc37_12).2 (xiconst X10 hc d33_44 (xgoto X10 hc 45 67 d33_45 k))) ?_
      show Comes p e below _ (T10.setTop (mkF m 67 #[vr rk, vr blk, vi (1 : Int32), vr ob, vj tb, S2] [(.int (0 : Int32))]))
      exact Comes.retN X10 hx (t := .boolean) hret (by simp) hlk (hb hby d33_67) hs10 ⟨rfl, N10, rfl⟩ dd dd
    · refine cs (fun t k => xifYes X10 hc 29 36 d33_29 rfl ((if0 _ _).trans (flt (fun q => hc29_11 ((lw_lt _ _).mp q))).2.1) (xiconst X10 hc d33_36 k)) ?_
      have hc37_13 : ¬ (lw = (0 : Int32)) := by exact own_n5 G9 G8 hc15_4 hc29_11
      refine cs (fun t k => xicmpYes X10 hc 37 44 d33_37 rfl (feq hc37_13).2 (xiconst X10 hc d33_44 (xgoto X10 hc 45 67 d33_45 k))) ?_
      show Comes p e below _ (T10.setTop (mkF m 67 #[vr rk, vr blk, vi (1 : Int32), vr ob, vj tb, S2] [(.int (0 : Int32))]))
      exact Comes.retN X10 hx (t := .boolean) hret (by simp) hlk (hb hby d33_67) hs10 ⟨rfl, N10, rfl⟩ dd dd
def Q_pin_0_0 (Z : State) (rk blk ob : Nat) (lw : Int32) (ts ns : Nat) (kt kn : ClassId) (ta tb tc ua ub uc tt uu : Int64) (h0 : Heap) (n0 : Nat) (v_ : Option Value) (h : Heap) (L_ : List Loc) : Prop := (v_ = some (.int (0 : Int32))) ∧ (Fr n0 L_) ∧ (h = h0)
theorem pin_0_0 (l : Launch) (Z : State) (a0 : Array Value) (hw : ∀ d ∈ tables_1, d.before a0 Z = true) (ws : List Jvm.Cond) (rk blk ob : Nat) (lw : Int32) (ts ns : Nat) (kt kn : ClassId) (ta tb tc ua ub uc tt uu : Int64) (h0 : Heap) (n0 : Nat) (Z0 : n0 ≤ h0.size) (G0 : Exa Z h0 rk sRk) (G1 : Fld Z h0 rk sRk "lowestBest" "Z" (.int lw)) (G2 : Fld Z h0 blk sBk "size" "I" (.int (0 : Int32))) (G3 : Fld Z h0 blk sBk "ticks" "[J" (.ref ts)) (G4 : Fld Z h0 blk sBk "numbers" "[J" (.ref ns)) (G5 : AJ Z h0 ts kt ta tb tc) (G6 : AJ Z h0 ns kn ua ub uc) (G7 : Exa Z h0 ob sOr) (G8 : Fld Z h0 ob sOr "number" "J" (.long uu)) (G9 : Fld Z h0 ob sOr "ticks" "J" (.long tt)) (G10 : lw = (0 : Int32) ∨ lw = (1 : Int32)) :
    Con l Z y19 prog_27_method_14_code 6 (some .int) ws (Rm 0 0 0 0) #[(.ref rk), (.ref blk), (.ref ob)] h0 (Q_pin_0_0 Z rk blk ob lw ts ns kt kn ta tb tc ua ub uc tt uu h0 n0) := by
  refine Con.of (plainFor_of_name pn_19) fun p e s m below meth c s₁ hx hby hml hZ hown hnm hlk hret X0 e0 => ?_
  have N0 := Fr.nil n0
  have hc := And.intro hx hby
  refine Comes.cast (ef_pin_0_0 m rk blk ob) ?_
  have lt_rk : rk < h0.size := G0.lt
  have lt_blk : blk < h0.size := G2.lt
  have lt_ts : ts < h0.size := G5.lt
  have lt_ns : ns < h0.size := G6.lt
  have lt_ob : ob < h0.size := G7.lt
  refine cs (fun t k => xiconst X0 hc d19_0 (xistoreN X0 hc d19_1 rfl rfl (xaloadN X0 hc d19_2 rfl rfl k))) ?_
  refine Comes.gR X0 hx hZ hown (W hw 154) Via.refl e0 G2 rfl rfl (hb hby d19_3) fun T1 X1 e1 => ?_
  refine cs (fun t k => xistore X1 hc d19_6 rfl rfl (xiloadN X1 hc d19_8 rfl (xiload X1 hc d19_9 rfl k))) ?_
  refine cs (fun t k => xicmpYes X1 hc 11 48 d19_11 rfl (flt dd).2.1 (xiloadN X1 hc d19_48 rfl k)) ?_
  show Comes p e below _ (T1.setTop (mkF m 49 #[vr rk, vr blk, vr ob, vi (0 : Int32), vi (0 : Int32), U0] [(.int (0 : Int32))]))
  show Comes p e below _ (T1.setTop (mkF m 49 #[vr rk, vr blk, vr ob, vi (0 : Int32), vi (0 : Int32), U0] [(.int (0 : Int32))]))
  exact Comes.retV X1 hx hret rfl (Or.inl ⟨rfl, Or.inl rfl, _, rfl⟩) hlk (hb hby d19_49) e1 ⟨rfl, N0, rfl⟩ dd dd
def Q_pin_1_0 (Z : State) (rk blk ob : Nat) (lw : Int32) (ts ns : Nat) (kt kn : ClassId) (ta tb tc ua ub uc tt uu : Int64) (h0 : Heap) (n0 : Nat) (v_ : Option Value) (h : Heap) (L_ : List Loc) : Prop := (v_ = some (.int (0 : Int32))) ∧ (Fr n0 L_) ∧ (h = h0)
theorem pin_1_0 (l : Launch) (Z : State) (a0 : Array Value) (hw : ∀ d ∈ tables_1, d.before a0 Z = true) (ws : List Jvm.Cond) (rk blk ob : Nat) (lw : Int32) (ts ns : Nat) (kt kn : ClassId) (ta tb tc ua ub uc tt uu : Int64) (h0 : Heap) (n0 : Nat) (Z0 : n0 ≤ h0.size) (G0 : Exa Z h0 rk sRk) (G1 : Fld Z h0 rk sRk "lowestBest" "Z" (.int lw)) (G2 : Fld Z h0 blk sBk "size" "I" (.int (1 : Int32))) (G3 : Fld Z h0 blk sBk "ticks" "[J" (.ref ts)) (G4 : Fld Z h0 blk sBk "numbers" "[J" (.ref ns)) (G5 : AJ Z h0 ts kt ta tb tc) (G6 : AJ Z h0 ns kn ua ub uc) (G7 : Exa Z h0 ob sOr) (G8 : Fld Z h0 ob sOr "number" "J" (.long uu)) (G9 : Fld Z h0 ob sOr "ticks" "J" (.long tt)) (G10 : lw = (0 : Int32) ∨ lw = (1 : Int32)) (G11 : ¬ ((¬ ta = tt ∧ ¬ lw = (0 : Int32) ∧ ta < tt) ∨ (¬ ta = tt ∧ lw = (0 : Int32) ∧ tt < ta) ∨ (ta = tt ∧ ua < uu))) :
    Con l Z y19 prog_27_method_14_code 6 (some .int) ws (Rm 2 0 0 32) #[(.ref rk), (.ref blk), (.ref ob)] h0 (Q_pin_1_0 Z rk blk ob lw ts ns kt kn ta tb tc ua ub uc tt uu h0 n0) := by
  refine Con.of (plainFor_of_name pn_19) fun p e s m below meth c s₁ hx hby hml hZ hown hnm hlk hret X0 e0 => ?_
  have N0 := Fr.nil n0
  have hc := And.intro hx hby
  refine Comes.cast (ef_pin_0_0 m rk blk ob) ?_
  have lt_rk : rk < h0.size := G0.lt
  have lt_blk : blk < h0.size := G2.lt
  have lt_ts : ts < h0.size := G5.lt
  have lt_ns : ns < h0.size := G6.lt
  have lt_ob : ob < h0.size := G7.lt
  refine cs (fun t k => xiconst X0 hc d19_0 (xistoreN X0 hc d19_1 rfl rfl (xaloadN X0 hc d19_2 rfl rfl k))) ?_
  refine Comes.gR X0 hx hZ hown (W hw 154) Via.refl e0 G2 rfl rfl (hb hby d19_3) fun T1 X1 e1 => ?_
  refine cs (fun t k => xistore X1 hc d19_6 rfl rfl (xiloadN X1 hc d19_8 rfl (xiload X1 hc d19_9 rfl k))) ?_
  refine cs (fun t k => xicmpNo X1 hc d19_11 rfl (tlt dd).2.1 (xiloadN X1 hc d19_14 rfl (xiload X1 hc d19_15 rfl (xiadd X1 hc d19_17 rfl k)))) ?_
  show Comes p e below _ (T1.setTop (mkF m 18 #[vr rk, vr blk, vr ob, vi (0 : Int32), vi (1 : Int32), U0] [(.int ((0 : Int32) + (1 : Int32)))]))
  rw [show ((0 : Int32) + (1 : Int32)) = (1 : Int32) from by decide]
  refine cs (fun t k => xiconst X1 hc d19_18 (XS.iushr X1.here hx rfl (hb hby d19_19) rfl k)) ?_
  show Comes p e below _ (T1.setTop (mkF m 20 #[vr rk, vr blk, vr ob, vi (0 : Int32), vi (1 : Int32), U0] [(.int (((1 : Int32).toUInt32 >>> ((1 : Int32) &&& 31).toUInt32).toInt32))]))
  rw [show (((1 : Int32).toUInt32 >>> ((1 : Int32) &&& 31).toUInt32).toInt32) = (0 : Int32) from by decide]
  refine cs (fun t k => xistore X1 hc d19_20 rfl rfl (xaloadN X1 hc d19_22 rfl rfl (xaloadN X1 hc d19_23 rfl rfl (xiload X1 hc d19_24 rfl (xaloadN X1 hc d19_26 rfl rfl k))))) ?_
  refine Comes.cP X1 hx hZ hown (y := y33) (W := 0) (W hw 223) (W hw 224) (W hw 100) (W hw 225) dd (W hw 226) (bef_0_F l Z a0 hw [] rk blk ob lw ts ns kt kn ta tb tc ua ub uc tt uu h0 n0 (by omega)  G1 G3 G4 G5 G6 G7 G8 G9 (by assumption) (by assumption)) G0 (W hw 101) dd dd e1 rfl (by rw [hml]; rfl) (argsL := [(.ref blk), (.int (0 : Int32)), (.ref ob)]) (rest := []) (lenOf pd_5 rfl) rfl (wle rfl) (hb hby d19_27) rfl dd dd fun v3 T3 L3 hQ3 X3 => ?_
  obtain ⟨rfl, Nq3, hs3⟩ := hQ3
  have N3 := Fr.app N0 Nq3
  refine cs (fun t k => xifYes X3 hc 30 41 d19_30 rfl ((if0 _ _).trans (teq dd).1) (xiload X3 hc d19_41 rfl (xistore X3 hc d19_43 rfl rfl (xgoto X3 hc 45 8 d19_45 (xiloadN X3 hc d19_8 rfl (xiload X3 hc d19_9 rfl k)))))) ?_
  show Comes p e below _ (T3.setTop (mkF m 11 #[vr rk, vr blk, vr ob, vi (0 : Int32), vi (0 : Int32), vi (0 : Int32)] [(.int (0 : Int32)), (.int (0 : Int32))]))
  refine cs (fun t k => xicmpYes X3 hc 11 48 d19_11 rfl (flt dd).2.1 (xiloadN X3 hc d19_48 rfl k)) ?_
  show Comes p e below _ (T3.setTop (mkF m 49 #[vr rk, vr blk, vr ob, vi (0 : Int32), vi (0 : Int32), vi (0 : Int32)] [(.int (0 : Int32))]))
  exact Comes.retV X3 hx hret rfl (Or.inl ⟨rfl, Or.inl rfl, _, rfl⟩) hlk (hb hby d19_49) hs3 ⟨rfl, N3, rfl⟩ dd dd
def Q_pin_1_1 (Z : State) (rk blk ob : Nat) (lw : Int32) (ts ns : Nat) (kt kn : ClassId) (ta tb tc ua ub uc tt uu : Int64) (h0 : Heap) (n0 : Nat) (v_ : Option Value) (h : Heap) (L_ : List Loc) : Prop := (v_ = some (.int (1 : Int32))) ∧ (Fr n0 L_) ∧ (h = h0)
theorem pin_1_1 (l : Launch) (Z : State) (a0 : Array Value) (hw : ∀ d ∈ tables_1, d.before a0 Z = true) (ws : List Jvm.Cond) (rk blk ob : Nat) (lw : Int32) (ts ns : Nat) (kt kn : ClassId) (ta tb tc ua ub uc tt uu : Int64) (h0 : Heap) (n0 : Nat) (Z0 : n0 ≤ h0.size) (G0 : Exa Z h0 rk sRk) (G1 : Fld Z h0 rk sRk "lowestBest" "Z" (.int lw)) (G2 : Fld Z h0 blk sBk "size" "I" (.int (1 : Int32))) (G3 : Fld Z h0 blk sBk "ticks" "[J" (.ref ts)) (G4 : Fld Z h0 blk sBk "numbers" "[J" (.ref ns)) (G5 : AJ Z h0 ts kt ta tb tc) (G6 : AJ Z h0 ns kn ua ub uc) (G7 : Exa Z h0 ob sOr) (G8 : Fld Z h0 ob sOr "number" "J" (.long uu)) (G9 : Fld Z h0 ob sOr "ticks" "J" (.long tt)) (G10 : lw = (0 : Int32) ∨ lw = (1 : Int32)) (G11 : ((¬ ta = tt ∧ ¬ lw = (0 : Int32) ∧ ta < tt) ∨ (¬ ta = tt ∧ lw = (0 : Int32) ∧ tt < ta) ∨ (ta = tt ∧ ua < uu))) :
    Con l Z y19 prog_27_method_14_code 6 (some .int) ws (Rm 2 0 0 32) #[(.ref rk), (.ref blk), (.ref ob)] h0 (Q_pin_1_1 Z rk blk ob lw ts ns kt kn ta tb tc ua ub uc tt uu h0 n0) := by
  refine Con.of (plainFor_of_name pn_19) fun p e s m below meth c s₁ hx hby hml hZ hown hnm hlk hret X0 e0 => ?_
  have N0 := Fr.nil n0
  have hc := And.intro hx hby
  refine Comes.cast (ef_pin_0_0 m rk blk ob) ?_
  have lt_rk : rk < h0.size := G0.lt
  have lt_blk : blk < h0.size := G2.lt
  have lt_ts : ts < h0.size := G5.lt
  have lt_ns : ns < h0.size := G6.lt
  have lt_ob : ob < h0.size := G7.lt
  refine cs (fun t k => xiconst X0 hc d19_0 (xistoreN X0 hc d19_1 rfl rfl (xaloadN X0 hc d19_2 rfl rfl k))) ?_
  refine Comes.gR X0 hx hZ hown (W hw 154) Via.refl e0 G2 rfl rfl (hb hby d19_3) fun T1 X1 e1 => ?_
  refine cs (fun t k => xistore X1 hc d19_6 rfl rfl (xiloadN X1 hc d19_8 rfl (xiload X1 hc d19_9 rfl k))) ?_
  refine cs (fun t k => xicmpNo X1 hc d19_11 rfl (tlt dd).2.1 (xiloadN X1 hc d19_14 rfl (xiload X1 hc d19_15 rfl (xiadd X1 hc d19_17 rfl k)))) ?_
  show Comes p e below _ (T1.setTop (mkF m 18 #[vr rk, vr blk, vr ob, vi (0 : Int32), vi (1 : Int32), U0] [(.int ((0 : Int32) + (1 : Int32)))]))
  rw [show ((0 : Int32) + (1 : Int32)) = (1 : Int32) from by decide]
  refine cs (fun t k => xiconst X1 hc d19_18 (XS.iushr X1.here hx rfl (hb hby d19_19) rfl k)) ?_
  show Comes p e below _ (T1.setTop (mkF m 20 #[vr rk, vr blk, vr ob, vi (0 : Int32), vi (1 : Int32), U0] [(.int (((1 : Int32).toUInt32 >>> ((1 : Int32) &&& 31).toUInt32).toInt32))]))
  rw [show (((1 : Int32).toUInt32 >>> ((1 : Int32) &&& 31).toUInt32).toInt32) = (0 : Int32) from by decide]
  refine cs (fun t k => xistore X1 hc d19_20 rfl rfl (xaloadN X1 hc d19_22 rfl rfl (xaloadN X1 hc d19_23 rfl rfl (xiload X1 hc d19_24 rfl (xaloadN X1 hc d19_26 rfl rfl k))))) ?_
  refine Comes.cP X1 hx hZ hown (y := y33) (W := 0) (W hw 223) (W hw 224) (W hw 100) (W hw 225) dd (W hw 226) (bef_0_T l Z a0 hw [] rk blk ob lw ts ns kt kn ta tb tc ua ub uc tt uu h0 n0 (by omega)  G1 G3 G4 G5 G6 G7 G8 G9 (by assumption) (by assumption)) G0 (W hw 101) dd dd e1 rfl (by rw [hml]; rfl) (argsL := [(.ref blk), (.int (0 : Int32)), (.ref ob)]) (rest := []) (lenOf pd_5 rfl) rfl (wle rfl) (hb hby d19_27) rfl dd dd fun v3 T3 L3 hQ3 X3 => ?_
  obtain ⟨rfl, Nq3, hs3⟩ := hQ3
  have N3 := Fr.app N0 Nq3
  refine cs (fun t k => xifNo X3 hc d19_30 rfl ((if0 _ _).trans (feq dd).1) (xiload X3 hc d19_33 rfl (xiconst X3 hc d19_35 (xiadd X3 hc d19_36 rfl k)))) ?_
  show Comes p e below _ (T3.setTop (mkF m 37 #[vr rk, vr blk, vr ob, vi (0 : Int32), vi (1 : Int32), vi (0 : Int32)] [(.int ((0 : Int32) + (1 : Int32)))]))
  rw [show ((0 : Int32) + (1 : Int32)) = (1 : Int32) from by decide]
  refine cs (fun t k => xistoreN X3 hc d19_37 rfl rfl (xgoto X3 hc 38 45 d19_38 (xgoto X3 hc 45 8 d19_45 (xiloadN X3 hc d19_8 rfl (xiload X3 hc d19_9 rfl k))))) ?_
  refine cs (fun t k => xicmpYes X3 hc 11 48 d19_11 rfl (flt dd).2.1 (xiloadN X3 hc d19_48 rfl k)) ?_
  show Comes p e below _ (T3.setTop (mkF m 49 #[vr rk, vr blk, vr ob, vi (1 : Int32), vi (1 : Int32), vi (0 : Int32)] [(.int (1 : Int32))]))
  exact Comes.retV X3 hx hret rfl (Or.inl ⟨rfl, Or.inl rfl, _, rfl⟩) hlk (hb hby d19_49) hs3 ⟨rfl, N3, rfl⟩ dd dd
def Q_pin_2_0 (Z : State) (rk blk ob : Nat) (lw : Int32) (ts ns : Nat) (kt kn : ClassId) (ta tb tc ua ub uc tt uu : Int64) (h0 : Heap) (n0 : Nat) (v_ : Option Value) (h : Heap) (L_ : List Loc) : Prop := (v_ = some (.int (0 : Int32))) ∧ (Fr n0 L_) ∧ (h = h0)
theorem pin_2_0 (l : Launch) (Z : State) (a0 : Array Value) (hw : ∀ d ∈ tables_1, d.before a0 Z = true) (ws : List Jvm.Cond) (rk blk ob : Nat) (lw : Int32) (ts ns : Nat) (kt kn : ClassId) (ta tb tc ua ub uc tt uu : Int64) (h0 : Heap) (n0 : Nat) (Z0 : n0 ≤ h0.size) (G0 : Exa Z h0 rk sRk) (G1 : Fld Z h0 rk sRk "lowestBest" "Z" (.int lw)) (G2 : Fld Z h0 blk sBk "size" "I" (.int (2 : Int32))) (G3 : Fld Z h0 blk sBk "ticks" "[J" (.ref ts)) (G4 : Fld Z h0 blk sBk "numbers" "[J" (.ref ns)) (G5 : AJ Z h0 ts kt ta tb tc) (G6 : AJ Z h0 ns kn ua ub uc) (G7 : Exa Z h0 ob sOr) (G8 : Fld Z h0 ob sOr "number" "J" (.long uu)) (G9 : Fld Z h0 ob sOr "ticks" "J" (.long tt)) (G10 : lw = (0 : Int32) ∨ lw = (1 : Int32)) (G11 : ¬ ((¬ tb = tt ∧ ¬ lw = (0 : Int32) ∧ tb < tt) ∨ (¬ tb = tt ∧ lw = (0 : Int32) ∧ tt < tb) ∨ (tb = tt ∧ ub < uu))) (G12 : ¬ ((¬ ta = tt ∧ ¬ lw = (0 : Int32) ∧ ta < tt) ∨ (¬ ta = tt ∧ lw = (0 : Int32) ∧ tt < ta) ∨ (ta = tt ∧ ua < uu))) :
    Con l Z y19 prog_27_method_14_code 6 (some .int) ws (Rm 2 0 0 32) #[(.ref rk), (.ref blk), (.ref ob)] h0 (Q_pin_2_0 Z rk blk ob lw ts ns kt kn ta tb tc ua ub uc tt uu h0 n0) := by
  refine Con.of (plainFor_of_name pn_19) fun p e s m below meth c s₁ hx hby hml hZ hown hnm hlk hret X0 e0 => ?_
  have N0 := Fr.nil n0
  have hc := And.intro hx hby
  refine Comes.cast (ef_pin_0_0 m rk blk ob) ?_
  have lt_rk : rk < h0.size := G0.lt
  have lt_blk : blk < h0.size := G2.lt
  have lt_ts : ts < h0.size := G5.lt
  have lt_ns : ns < h0.size := G6.lt
  have lt_ob : ob < h0.size := G7.lt
  refine cs (fun t k => xiconst X0 hc d19_0 (xistoreN X0 hc d19_1 rfl rfl (xaloadN X0 hc d19_2 rfl rfl k))) ?_
  refine Comes.gR X0 hx hZ hown (W hw 154) Via.refl e0 G2 rfl rfl (hb hby d19_3) fun T1 X1 e1 => ?_
  refine cs (fun t k => xistore X1 hc d19_6 rfl rfl (xiloadN X1 hc d19_8 rfl (xiload X1 hc d19_9 rfl k))) ?_
  refine cs (fun t k => xicmpNo X1 hc d19_11 rfl (tlt dd).2.1 (xiloadN X1 hc d19_14 rfl (xiload X1 hc d19_15 rfl (xiadd X1 hc d19_17 rfl k)))) ?_
  show Comes p e below _ (T1.setTop (mkF m 18 #[vr rk, vr blk, vr ob, vi (0 : Int32), vi (2 : Int32), U0] [(.int ((0 : Int32) + (2 : Int32)))]))
  rw [show ((0 : Int32) + (2 : Int32)) = (2 : Int32) from by decide]
  refine cs (fun t k => xiconst X1 hc d19_18 (XS.iushr X1.here hx rfl (hb hby d19_19) rfl k)) ?_
  show Comes p e below _ (T1.setTop (mkF m 20 #[vr rk, vr blk, vr ob, vi (0 : Int32), vi (2 : Int32), U0] [(.int (((2 : Int32).toUInt32 >>> ((1 : Int32) &&& 31).toUInt32).toInt32))]))
  rw [show (((2 : Int32).toUInt32 >>> ((1 : Int32) &&& 31).toUInt32).toInt32) = (1 : Int32) from by decide]
  refine cs (fun t k => xistore X1 hc d19_20 rfl rfl (xaloadN X1 hc d19_22 rfl rfl (xaloadN X1 hc d19_23 rfl rfl (xiload X1 hc d19_24 rfl (xaloadN X1 hc d19_26 rfl rfl k))))) ?_
  refine Comes.cP X1 hx hZ hown (y := y33) (W := 0) (W hw 223) (W hw 224) (W hw 100) (W hw 225) dd (W hw 226) (bef_1_F l Z a0 hw [] rk blk ob lw ts ns kt kn ta tb tc ua ub uc tt uu h0 n0 (by omega)  G1 G3 G4 G5 G6 G7 G8 G9 (by assumption) (by assumption)) G0 (W hw 101) dd dd e1 rfl (by rw [hml]; rfl) (argsL := [(.ref blk), (.int (1 : Int32)), (.ref ob)]) (rest := []) (lenOf pd_5 rfl) rfl (wle rfl) (hb hby d19_27) rfl dd dd fun v3 T3 L3 hQ3 X3 => ?_
  obtain ⟨rfl, Nq3, hs3⟩ := hQ3
  have N3 := Fr.app N0 Nq3
  refine cs (fun t k => xifYes X3 hc 30 41 d19_30 rfl ((if0 _ _).trans (teq dd).1) (xiload X3 hc d19_41 rfl (xistore X3 hc d19_43 rfl rfl (xgoto X3 hc 45 8 d19_45 (xiloadN X3 hc d19_8 rfl (xiload X3 hc d19_9 rfl k)))))) ?_
  show Comes p e below _ (T3.setTop (mkF m 11 #[vr rk, vr blk, vr ob, vi (0 : Int32), vi (1 : Int32), vi (1 : Int32)] [(.int (1 : Int32)), (.int (0 : Int32))]))
  refine cs (fun t k => xicmpNo X3 hc d19_11 rfl (tlt dd).2.1 (xiloadN X3 hc d19_14 rfl (xiload X3 hc d19_15 rfl (xiadd X3 hc d19_17 rfl k)))) ?_
  show Comes p e below _ (T3.setTop (mkF m 18 #[vr rk, vr blk, vr ob, vi (0 : Int32), vi (1 : Int32), vi (1 : Int32)] [(.int ((0 : Int32) + (1 : Int32)))]))
  rw [show ((0 : Int32) + (1 : Int32)) = (1 : Int32) from by decide]
  refine cs (fun t k => xiconst X3 hc d19_18 (XS.iushr X3.here hx rfl (hb hby d19_19) rfl k)) ?_
  show Comes p e below _ (T3.setTop (mkF m 20 #[vr rk, vr blk, vr ob, vi (0 : Int32), vi (1 : Int32), vi (1 : Int32)] [(.int (((1 : Int32).toUInt32 >>> ((1 : Int32) &&& 31).toUInt32).toInt32))]))
  rw [show (((1 : Int32).toUInt32 >>> ((1 : Int32) &&& 31).toUInt32).toInt32) = (0 : Int32) from by decide]
  refine cs (fun t k => xistore X3 hc d19_20 rfl rfl (xaloadN X3 hc d19_22 rfl rfl (xaloadN X3 hc d19_23 rfl rfl (xiload X3 hc d19_24 rfl (xaloadN X3 hc d19_26 rfl rfl k))))) ?_
  refine Comes.cP X3 hx hZ hown (y := y33) (W := 0) (W hw 223) (W hw 224) (W hw 100) (W hw 225) dd (W hw 226) (bef_0_F l Z a0 hw [] rk blk ob lw ts ns kt kn ta tb tc ua ub uc tt uu h0 n0 (by omega)  G1 G3 G4 G5 G6 G7 G8 G9 (by assumption) (by assumption)) G0 (W hw 101) dd dd hs3 rfl (by rw [hml]; rfl) (argsL := [(.ref blk), (.int (0 : Int32)), (.ref ob)]) (rest := []) (lenOf pd_5 rfl) rfl (wle rfl) (hb hby d19_27) rfl dd dd fun v6 T6 L6 hQ6 X6 => ?_
  obtain ⟨rfl, Nq6, hs6⟩ := hQ6
  have N6 := Fr.app N3 Nq6
  refine cs (fun t k => xifYes X6 hc 30 41 d19_30 rfl ((if0 _ _).trans (teq dd).1) (xiload X6 hc d19_41 rfl (xistore X6 hc d19_43 rfl rfl (xgoto X6 hc 45 8 d19_45 (xiloadN X6 hc d19_8 rfl (xiload X6 hc d19_9 rfl k)))))) ?_
  show Comes p e below _ (T6.setTop (mkF m 11 #[vr rk, vr blk, vr ob, vi (0 : Int32), vi (0 : Int32), vi (0 : Int32)] [(.int (0 : Int32)), (.int (0 : Int32))]))
  refine cs (fun t k => xicmpYes X6 hc 11 48 d19_11 rfl (flt dd).2.1 (xiloadN X6 hc d19_48 rfl k)) ?_
  show Comes p e below _ (T6.setTop (mkF m 49 #[vr rk, vr blk, vr ob, vi (0 : Int32), vi (0 : Int32), vi (0 : Int32)] [(.int (0 : Int32))]))
  exact Comes.retV X6 hx hret rfl (Or.inl ⟨rfl, Or.inl rfl, _, rfl⟩) hlk (hb hby d19_49) hs6 ⟨rfl, N6, rfl⟩ dd dd
def Q_pin_2_1 (Z : State) (rk blk ob : Nat) (lw : Int32) (ts ns : Nat) (kt kn : ClassId) (ta tb tc ua ub uc tt uu : Int64) (h0 : Heap) (n0 : Nat) (v_ : Option Value) (h : Heap) (L_ : List Loc) : Prop := (v_ = some (.int (1 : Int32))) ∧ (Fr n0 L_) ∧ (h = h0)
theorem pin_2_1 (l : Launch) (Z : State) (a0 : Array Value) (hw : ∀ d ∈ tables_1, d.before a0 Z = true) (ws : List Jvm.Cond) (rk blk ob : Nat) (lw : Int32) (ts ns : Nat) (kt kn : ClassId) (ta tb tc ua ub uc tt uu : Int64) (h0 : Heap) (n0 : Nat) (Z0 : n0 ≤ h0.size) (G0 : Exa Z h0 rk sRk) (G1 : Fld Z h0 rk sRk "lowestBest" "Z" (.int lw)) (G2 : Fld Z h0 blk sBk "size" "I" (.int (2 : Int32))) (G3 : Fld Z h0 blk sBk "ticks" "[J" (.ref ts)) (G4 : Fld Z h0 blk sBk "numbers" "[J" (.ref ns)) (G5 : AJ Z h0 ts kt ta tb tc) (G6 : AJ Z h0 ns kn ua ub uc) (G7 : Exa Z h0 ob sOr) (G8 : Fld Z h0 ob sOr "number" "J" (.long uu)) (G9 : Fld Z h0 ob sOr "ticks" "J" (.long tt)) (G10 : lw = (0 : Int32) ∨ lw = (1 : Int32)) (G11 : ¬ ((¬ tb = tt ∧ ¬ lw = (0 : Int32) ∧ tb < tt) ∨ (¬ tb = tt ∧ lw = (0 : Int32) ∧ tt < tb) ∨ (tb = tt ∧ ub < uu))) (G12 : ((¬ ta = tt ∧ ¬ lw = (0 : Int32) ∧ ta < tt) ∨ (¬ ta = tt ∧ lw = (0 : Int32) ∧ tt < ta) ∨ (ta = tt ∧ ua < uu))) :
    Con l Z y19 prog_27_method_14_code 6 (some .int) ws (Rm 2 0 0 32) #[(.ref rk), (.ref blk), (.ref ob)] h0 (Q_pin_2_1 Z rk blk ob lw ts ns kt kn ta tb tc ua ub uc tt uu h0 n0) := by
  refine Con.of (plainFor_of_name pn_19) fun p e s m below meth c s₁ hx hby hml hZ hown hnm hlk hret X0 e0 => ?_
  have N0 := Fr.nil n0
  have hc := And.intro hx hby
  refine Comes.cast (ef_pin_0_0 m rk blk ob) ?_
  have lt_rk : rk < h0.size := G0.lt
  have lt_blk : blk < h0.size := G2.lt
  have lt_ts : ts < h0.size := G5.lt
  have lt_ns : ns < h0.size := G6.lt
  have lt_ob : ob < h0.size := G7.lt
  refine cs (fun t k => xiconst X0 hc d19_0 (xistoreN X0 hc d19_1 rfl rfl (xaloadN X0 hc d19_2 rfl rfl k))) ?_
  refine Comes.gR X0 hx hZ hown (W hw 154) Via.refl e0 G2 rfl rfl (hb hby d19_3) fun T1 X1 e1 => ?_
  refine cs (fun t k => xistore X1 hc d19_6 rfl rfl (xiloadN X1 hc d19_8 rfl (xiload X1 hc d19_9 rfl k))) ?_
  refine cs (fun t k => xicmpNo X1 hc d19_11 rfl (tlt dd).2.1 (xiloadN X1 hc d19_14 rfl (xiload X1 hc d19_15 rfl (xiadd X1 hc d19_17 rfl k)))) ?_
  show Comes p e below _ (T1.setTop (mkF m 18 #[vr rk, vr blk, vr ob, vi (0 : Int32), vi (2 : Int32), U0] [(.int ((0 : Int32) + (2 : Int32)))]))
  rw [show ((0 : Int32) + (2 : Int32)) = (2 : Int32) from by decide]
  refine cs (fun t k => xiconst X1 hc d19_18 (XS.iushr X1.here hx rfl (hb hby d19_19) rfl k)) ?_
  show Comes p e below _ (T1.setTop (mkF m 20 #[vr rk, vr blk, vr ob, vi (0 : Int32), vi (2 : Int32), U0] [(.int (((2 : Int32).toUInt32 >>> ((1 : Int32) &&& 31).toUInt32).toInt32))]))
  rw [show (((2 : Int32).toUInt32 >>> ((1 : Int32) &&& 31).toUInt32).toInt32) = (1 : Int32) from by decide]
  refine cs (fun t k => xistore X1 hc d19_20 rfl rfl (xaloadN X1 hc d19_22 rfl rfl (xaloadN X1 hc d19_23 rfl rfl (xiload X1 hc d19_24 rfl (xaloadN X1 hc d19_26 rfl rfl k))))) ?_
  refine Comes.cP X1 hx hZ hown (y := y33) (W := 0) (W hw 223) (W hw 224) (W hw 100) (W hw 225) dd (W hw 226) (bef_1_F l Z a0 hw [] rk blk ob lw ts ns kt kn ta tb tc ua ub uc tt uu h0 n0 (by omega)  G1 G3 G4 G5 G6 G7 G8 G9 (by assumption) (by assumption)) G0 (W hw 101) dd dd e1 rfl (by rw [hml]; rfl) (argsL := [(.ref blk), (.int (1 : Int32)), (.ref ob)]) (rest := []) (lenOf pd_5 rfl) rfl (wle rfl) (hb hby d19_27) rfl dd dd fun v3 T3 L3 hQ3 X3 => ?_
  obtain ⟨rfl, Nq3, hs3⟩ := hQ3
  have N3 := Fr.app N0 Nq3
  refine cs (fun t k => xifYes X3 hc 30 41 d19_30 rfl ((if0 _ _).trans (teq dd).1) (xiload X3 hc d19_41 rfl (xistore X3 hc d19_43 rfl rfl (xgoto X3 hc 45 8 d19_45 (xiloadN X3 hc d19_8 rfl (xiload X3 hc d19_9 rfl k)))))) ?_
  show Comes p e below _ (T3.setTop (mkF m 11 #[vr rk, vr blk, vr ob, vi (0 : Int32), vi (1 : Int32), vi (1 : Int32)] [(.int (1 : Int32)), (.int (0 : Int32))]))
  refine cs (fun t k => xicmpNo X3 hc d19_11 rfl (tlt dd).2.1 (xiloadN X3 hc d19_14 rfl (xiload X3 hc d19_15 rfl (xiadd X3 hc d19_17 rfl k)))) ?_
  show Comes p e below _ (T3.setTop (mkF m 18 #[vr rk, vr blk, vr ob, vi (0 : Int32), vi (1 : Int32), vi (1 : Int32)] [(.int ((0 : Int32) + (1 : Int32)))]))
  rw [show ((0 : Int32) + (1 : Int32)) = (1 : Int32) from by decide]
  refine cs (fun t k => xiconst X3 hc d19_18 (XS.iushr X3.here hx rfl (hb hby d19_19) rfl k)) ?_
  show Comes p e below _ (T3.setTop (mkF m 20 #[vr rk, vr blk, vr ob, vi (0 : Int32), vi (1 : Int32), vi (1 : Int32)] [(.int (((1 : Int32).toUInt32 >>> ((1 : Int32) &&& 31).toUInt32).toInt32))]))
  rw [show (((1 : Int32).toUInt32 >>> ((1 : Int32) &&& 31).toUInt32).toInt32) = (0 : Int32) from by decide]
  refine cs (fun t k => xistore X3 hc d19_20 rfl rfl (xaloadN X3 hc d19_22 rfl rfl (xaloadN X3 hc d19_23 rfl rfl (xiload X3 hc d19_24 rfl (xaloadN X3 hc d19_26 rfl rfl k))))) ?_
  refine Comes.cP X3 hx hZ hown (y := y33) (W := 0) (W hw 223) (W hw 224) (W hw 100) (W hw 225) dd (W hw 226) (bef_0_T l Z a0 hw [] rk blk ob lw ts ns kt kn ta tb tc ua ub uc tt uu h0 n0 (by omega)  G1 G3 G4 G5 G6 G7 G8 G9 (by assumption) (by assumption)) G0 (W hw 101) dd dd hs3 rfl (by rw [hml]; rfl) (argsL := [(.ref blk), (.int (0 : Int32)), (.ref ob)]) (rest := []) (lenOf pd_5 rfl) rfl (wle rfl) (hb hby d19_27) rfl dd dd fun v6 T6 L6 hQ6 X6 => ?_
  obtain ⟨rfl, Nq6, hs6⟩ := hQ6
  have N6 := Fr.app N3 Nq6
  refine cs (fun t k => xifNo X6 hc d19_30 rfl ((if0 _ _).trans (feq dd).1) (xiload X6 hc d19_33 rfl (xiconst X6 hc d19_35 (xiadd X6 hc d19_36 rfl k)))) ?_
  show Comes p e below _ (T6.setTop (mkF m 37 #[vr rk, vr blk, vr ob, vi (0 : Int32), vi (1 : Int32), vi (0 : Int32)] [(.int ((0 : Int32) + (1 : Int32)))]))
  rw [show ((0 : Int32) + (1 : Int32)) = (1 : Int32) from by decide]
  refine cs (fun t k => xistoreN X6 hc d19_37 rfl rfl (xgoto X6 hc 38 45 d19_38 (xgoto X6 hc 45 8 d19_45 (xiloadN X6 hc d19_8 rfl (xiload X6 hc d19_9 rfl k))))) ?_
  refine cs (fun t k => xicmpYes X6 hc 11 48 d19_11 rfl (flt dd).2.1 (xiloadN X6 hc d19_48 rfl k)) ?_
  show Comes p e below _ (T6.setTop (mkF m 49 #[vr rk, vr blk, vr ob, vi (1 : Int32), vi (1 : Int32), vi (0 : Int32)] [(.int (1 : Int32))]))
  exact Comes.retV X6 hx hret rfl (Or.inl ⟨rfl, Or.inl rfl, _, rfl⟩) hlk (hb hby d19_49) hs6 ⟨rfl, N6, rfl⟩ dd dd
def Q_pin_2_2 (Z : State) (rk blk ob : Nat) (lw : Int32) (ts ns : Nat) (kt kn : ClassId) (ta tb tc ua ub uc tt uu : Int64) (h0 : Heap) (n0 : Nat) (v_ : Option Value) (h : Heap) (L_ : List Loc) : Prop := (v_ = some (.int (2 : Int32))) ∧ (Fr n0 L_) ∧ (h = h0)
theorem pin_2_2 (l : Launch) (Z : State) (a0 : Array Value) (hw : ∀ d ∈ tables_1, d.before a0 Z = true) (ws : List Jvm.Cond) (rk blk ob : Nat) (lw : Int32) (ts ns : Nat) (kt kn : ClassId) (ta tb tc ua ub uc tt uu : Int64) (h0 : Heap) (n0 : Nat) (Z0 : n0 ≤ h0.size) (G0 : Exa Z h0 rk sRk) (G1 : Fld Z h0 rk sRk "lowestBest" "Z" (.int lw)) (G2 : Fld Z h0 blk sBk "size" "I" (.int (2 : Int32))) (G3 : Fld Z h0 blk sBk "ticks" "[J" (.ref ts)) (G4 : Fld Z h0 blk sBk "numbers" "[J" (.ref ns)) (G5 : AJ Z h0 ts kt ta tb tc) (G6 : AJ Z h0 ns kn ua ub uc) (G7 : Exa Z h0 ob sOr) (G8 : Fld Z h0 ob sOr "number" "J" (.long uu)) (G9 : Fld Z h0 ob sOr "ticks" "J" (.long tt)) (G10 : lw = (0 : Int32) ∨ lw = (1 : Int32)) (G11 : ((¬ tb = tt ∧ ¬ lw = (0 : Int32) ∧ tb < tt) ∨ (¬ tb = tt ∧ lw = (0 : Int32) ∧ tt < tb) ∨ (tb = tt ∧ ub < uu))) :
    Con l Z y19 prog_27_method_14_code 6 (some .int) ws (Rm 2 0 0 32) #[(.ref rk), (.ref blk), (.ref ob)] h0 (Q_pin_2_2 Z rk blk ob lw ts ns kt kn ta tb tc ua ub uc tt uu h0 n0) := by
  refine Con.of (plainFor_of_name pn_19) fun p e s m below meth c s₁ hx hby hml hZ hown hnm hlk hret X0 e0 => ?_
  have N0 := Fr.nil n0
  have hc := And.intro hx hby
  refine Comes.cast (ef_pin_0_0 m rk blk ob) ?_
  have lt_rk : rk < h0.size := G0.lt
  have lt_blk : blk < h0.size := G2.lt
  have lt_ts : ts < h0.size := G5.lt
  have lt_ns : ns < h0.size := G6.lt
  have lt_ob : ob < h0.size := G7.lt
  refine cs (fun t k => xiconst X0 hc d19_0 (xistoreN X0 hc d19_1 rfl rfl (xaloadN X0 hc d19_2 rfl rfl k))) ?_
  refine Comes.gR X0 hx hZ hown (W hw 154) Via.refl e0 G2 rfl rfl (hb hby d19_3) fun T1 X1 e1 => ?_
  refine cs (fun t k => xistore X1 hc d19_6 rfl rfl (xiloadN X1 hc d19_8 rfl (xiload X1 hc d19_9 rfl k))) ?_
  refine cs (fun t k => xicmpNo X1 hc d19_11 rfl (tlt dd).2.1 (xiloadN X1 hc d19_14 rfl (xiload X1 hc d19_15 rfl (xiadd X1 hc d19_17 rfl k)))) ?_
  show Comes p e below _ (T1.setTop (mkF m 18 #[vr rk, vr blk, vr ob, vi (0 : Int32), vi (2 : Int32), U0] [(.int ((0 : Int32) + (2 : Int32)))]))
  rw [show ((0 : Int32) + (2 : Int32)) = (2 : Int32) from by decide]
  refine cs (fun t k => xiconst X1 hc d19_18 (XS.iushr X1.here hx rfl (hb hby d19_19) rfl k)) ?_
  show Comes p e below _ (T1.setTop (mkF m 20 #[vr rk, vr blk, vr ob, vi (0 : Int32), vi (2 : Int32), U0] [(.int (((2 : Int32).toUInt32 >>> ((1 : Int32) &&& 31).toUInt32).toInt32))]))
  rw [show (((2 : Int32).toUInt32 >>> ((1 : Int32) &&& 31).toUInt32).toInt32) = (1 : Int32) from by decide]
  refine cs (fun t k => xistore X1 hc d19_20 rfl rfl (xaloadN X1 hc d19_22 rfl rfl (xaloadN X1 hc d19_23 rfl rfl (xiload X1 hc d19_24 rfl (xaloadN X1 hc d19_26 rfl rfl k))))) ?_
  refine Comes.cP X1 hx hZ hown (y := y33) (W := 0) (W hw 223) (W hw 224) (W hw 100) (W hw 225) dd (W hw 226) (bef_1_T l Z a0 hw [] rk blk ob lw ts ns kt kn ta tb tc ua ub uc tt uu h0 n0 (by omega)  G1 G3 G4 G5 G6 G7 G8 G9 (by assumption) (by assumption)) G0 (W hw 101) dd dd e1 rfl (by rw [hml]; rfl) (argsL := [(.ref blk), (.int (1 : Int32)), (.ref ob)]) (rest := []) (lenOf pd_5 rfl) rfl (wle rfl) (hb hby d19_27) rfl dd dd fun v3 T3 L3 hQ3 X3 => ?_
  obtain ⟨rfl, Nq3, hs3⟩ := hQ3
  have N3 := Fr.app N0 Nq3
  refine cs (fun t k => xifNo X3 hc d19_30 rfl ((if0 _ _).trans (feq dd).1) (xiload X3 hc d19_33 rfl (xiconst X3 hc d19_35 (xiadd X3 hc d19_36 rfl k)))) ?_
  show Comes p e below _ (T3.setTop (mkF m 37 #[vr rk, vr blk, vr ob, vi (0 : Int32), vi (2 : Int32), vi (1 : Int32)] [(.int ((1 : Int32) + (1 : Int32)))]))
  rw [show ((1 : Int32) + (1 : Int32)) = (2 : Int32) from by decide]
  refine cs (fun t k => xistoreN X3 hc d19_37 rfl rfl (xgoto X3 hc 38 45 d19_38 (xgoto X3 hc 45 8 d19_45 (xiloadN X3 hc d19_8 rfl (xiload X3 hc d19_9 rfl k))))) ?_
  refine cs (fun t k => xicmpYes X3 hc 11 48 d19_11 rfl (flt dd).2.1 (xiloadN X3 hc d19_48 rfl k)) ?_
  show Comes p e below _ (T3.setTop (mkF m 49 #[vr rk, vr blk, vr ob, vi (2 : Int32), vi (2 : Int32), vi (1 : Int32)] [(.int (2 : Int32))]))
  exact Comes.retV X3 hx hret rfl (Or.inl ⟨rfl, Or.inl rfl, _, rfl⟩) hlk (hb hby d19_49) hs3 ⟨rfl, N3, rfl⟩ dd dd
def Q_mv_0_1 (Z : State) (blk os ts ns : Nat) (ko kt kn : ClassId) (xa : Nat) (vb vc : Value) (ta tb tc ua ub uc : Int64) (h0 : Heap) (n0 : Nat) (v_ : Option Value) (h : Heap) (L_ : List Loc) : Prop := (v_ = none) ∧ (Fr n0 L_) ∧ (Keep h0 h [os, ts, ns]) ∧ (Arv Z h os ko (.object sOr) (64 : Int32) [(.ref xa), (.ref xa), vc] .null) ∧ (AJ Z h ts kt ta ta tc) ∧ (AJ Z h ns kn ua ua uc)
theorem mv_0_1 (l : Launch) (Z : State) (a0 : Array Value) (hw : ∀ d ∈ tables_1, d.before a0 Z = true) (ws : List Jvm.Cond) (blk os ts ns : Nat) (ko kt kn : ClassId) (xa : Nat) (vb vc : Value) (ta tb tc ua ub uc : Int64) (h0 : Heap) (n0 : Nat) (Z0 : n0 ≤ h0.size) (G0 : Exa Z h0 blk sBk) (G1 : Fld Z h0 blk sBk "orders" dOs (.ref os)) (G2 : Fld Z h0 blk sBk "ticks" "[J" (.ref ts)) (G3 : Fld Z h0 blk sBk "numbers" "[J" (.ref ns)) (G4 : Arv Z h0 os ko (.object sOr) (64 : Int32) [(.ref xa), vb, vc] .null) (G5 : Ovr Z ko sOr) (G6 : AJ Z h0 ts kt ta tb tc) (G7 : AJ Z h0 ns kn ua ub uc) (G8 : Exa Z h0 xa sOr) (G9 : n0 ≤ os) (G10 : n0 ≤ ts) (G11 : n0 ≤ ns) (G12 : blk ≠ os) (G13 : blk ≠ ts) (G14 : blk ≠ ns) (G15 : os ≠ ts) (G16 : os ≠ ns) (G17 : ts ≠ ns) :
    Con l Z y35 prog_28_method_6_code 3 none ws (Rm 0 0 0 0) #[(.ref blk), (.int (0 : Int32)), (.int (1 : Int32))] h0 (Q_mv_0_1 Z blk os ts ns ko kt kn xa vb vc ta tb tc ua ub uc h0 n0) := by
  refine Con.of (plainFor_of_name pn_35) fun p e s m below meth c s₁ hx hby hml hZ hown hnm hlk hret X0 e0 => ?_
  have N0 := Fr.nil n0
  have hc := And.intro hx hby
  have K0 := Keep.refl h0 [os, ts, ns]
  refine Comes.cast (ef_mv_0_1 m blk) ?_
  have lt_blk : blk < h0.size := G0.lt
  have lt_os : os < h0.size := G4.lt
  have lt_ts : ts < h0.size := G6.lt
  have lt_ns : ns < h0.size := G7.lt
  have lt_xa : xa < h0.size := G8.lt
  refine cs (fun t k => xaloadN X0 hc d35_0 rfl rfl k) ?_
  refine Comes.gF X0 hx hZ hown (host := "") (Or.inl (W hw 139)) Via.refl e0 G1 rfl rfl (hb hby d35_1) fun T1 X1 e1 => ?_
  refine cs (fun t k => xiloadN X1 hc d35_4 rfl (xaloadN X1 hc d35_5 rfl rfl k)) ?_
  refine Comes.gF X1 hx hZ hown (host := "") (Or.inl (W hw 139)) Via.refl e1 G1 rfl rfl (hb hby d35_6) fun T2 X2 e2 => ?_
  refine cs (fun t k => xiloadN X2 hc d35_9 rfl k) ?_
  refine Comes.ldR X2 hx hZ e2 G4 rfl rfl (v := (.ref xa)) rfl (hb hby d35_10) ?_
  refine Comes.wrR X2 hx hZ e2 G4 (Or.inr ⟨_, rfl, G5, (Ins.self G8)⟩) rfl rfl 1 (hb hby d35_11) fun T4 h4 X4 e4 W4 V4 => ?_
  have z4 : h4.size = h0.size := W4.size
  have N4 := Fr.snoc X4 N0 G9
  have K4 := K0.wr W4 (mE 0)
  refine cs (fun t k => xaloadN X4 hc d35_12 rfl rfl k) ?_
  show Comes p e below _ (T4.setTop (mkF m 13 #[vr blk, vi (0 : Int32), vi (1 : Int32)] [(.ref blk)]))
  have F5 := (G2.other W4 (Or.inl G12))
  refine Comes.gF X4 hx hZ hown (host := "") (Or.inl (W hw 141)) Via.refl e4 F5 rfl rfl (hb hby d35_13) fun T6 X6 e6 => ?_
  refine cs (fun t k => xiloadN X6 hc d35_16 rfl (xaloadN X6 hc d35_17 rfl rfl k)) ?_
  refine Comes.gF X6 hx hZ hown (host := "") (Or.inl (W hw 141)) Via.refl e6 F5 rfl rfl (hb hby d35_18) fun T7 X7 e7 => ?_
  refine cs (fun t k => xiloadN X7 hc d35_21 rfl k) ?_
  have F8 := (G6.other W4 (Ne.symm G15))
  refine Comes.ldJ X7 hx hZ e7 F8 rfl rfl (x := ta) rfl (hb hby d35_22) ?_
  refine Comes.wrJ X7 hx hZ e7 F8 rfl rfl 1 (hb hby d35_23) fun T10 h10 X10 e10 W10 V10 => ?_
  have z10 : h10.size = h4.size := W10.size
  have N10 := Fr.snoc X10 N4 G10
  have K10 := K4.wr W10 (mE 1)
  refine cs (fun t k => xaloadN X10 hc d35_24 rfl rfl k) ?_
  have F11 := ((G3.other W4 (Or.inl G12)).other W10 (Or.inl G13))
  refine Comes.gF X10 hx hZ hown (host := "") (Or.inl (W hw 143)) Via.refl e10 F11 rfl rfl (hb hby d35_25) fun T12 X12 e12 => ?_
  show Comes p e below _ (T12.setTop (mkF m 28 #[vr blk, vi (0 : Int32), vi (1 : Int32)] [(.ref ns)]))
  refine cs (fun t k => xiloadN X12 hc d35_28 rfl (xaloadN X12 hc d35_29 rfl rfl k)) ?_
  refine Comes.gF X12 hx hZ hown (host := "") (Or.inl (W hw 143)) Via.refl e12 F11 rfl rfl (hb hby d35_30) fun T13 X13 e13 => ?_
  refine cs (fun t k => xiloadN X13 hc d35_33 rfl k) ?_
  have F14 := ((G7.other W4 (Ne.symm G16)).other W10 (Ne.symm G17))
  refine Comes.ldJ X13 hx hZ e13 F14 rfl rfl (x := ua) rfl (hb hby d35_34) ?_
  refine Comes.wrJ X13 hx hZ e13 F14 rfl rfl 1 (hb hby d35_35) fun T16 h16 X16 e16 W16 V16 => ?_
  have z16 : h16.size = h10.size := W16.size
  have N16 := Fr.snoc X16 N10 G11
  have K16 := K10.wr W16 (mE 2)
  show Comes p e below _ (T16.setTop (mkF m 36 #[vr blk, vi (0 : Int32), vi (1 : Int32)] []))
  have F17 := ((V4.other W10 G15).other W16 G16)
  have F18 := (V10.other W16 G17)
  exact Comes.ret0 X16 hx hret hlk (hb hby d35_36) e16 ⟨rfl, N16, K16, F17, F18, V16⟩ dd dd
def Q_mv_1_2 (Z : State) (blk os ts ns : Nat) (ko kt kn : ClassId) (va : Value) (xb : Nat) (vc : Value) (ta tb tc ua ub uc : Int64) (h0 : Heap) (n0 : Nat) (v_ : Option Value) (h : Heap) (L_ : List Loc) : Prop := (v_ = none) ∧ (Fr n0 L_) ∧ (Keep h0 h [os, ts, ns]) ∧ (Arv Z h os ko (.object sOr) (64 : Int32) [va, (.ref xb), (.ref xb)] .null) ∧ (AJ Z h ts kt ta tb tb) ∧ (AJ Z h ns kn ua ub ub)
theorem mv_1_2 (l : Launch) (Z : State) (a0 : Array Value) (hw : ∀ d ∈ tables_1, d.before a0 Z = true) (ws : List Jvm.Cond) (blk os ts ns : Nat) (ko kt kn : ClassId) (va : Value) (xb : Nat) (vc : Value) (ta tb tc ua ub uc : Int64) (h0 : Heap) (n0 : Nat) (Z0 : n0 ≤ h0.size) (G0 : Exa Z h0 blk sBk) (G1 : Fld Z h0 blk sBk "orders" dOs (.ref os)) (G2 : Fld Z h0 blk sBk "ticks" "[J" (.ref ts)) (G3 : Fld Z h0 blk sBk "numbers" "[J" (.ref ns)) (G4 : Arv Z h0 os ko (.object sOr) (64 : Int32) [va, (.ref xb), vc] .null) (G5 : Ovr Z ko sOr) (G6 : AJ Z h0 ts kt ta tb tc) (G7 : AJ Z h0 ns kn ua ub uc) (G8 : Exa Z h0 xb sOr) (G9 : n0 ≤ os) (G10 : n0 ≤ ts) (G11 : n0 ≤ ns) (G12 : blk ≠ os) (G13 : blk ≠ ts) (G14 : blk ≠ ns) (G15 : os ≠ ts) (G16 : os ≠ ns) (G17 : ts ≠ ns) :
    Con l Z y35 prog_28_method_6_code 3 none ws (Rm 0 0 0 0) #[(.ref blk), (.int (1 : Int32)), (.int (2 : Int32))] h0 (Q_mv_1_2 Z blk os ts ns ko kt kn va xb vc ta tb tc ua ub uc h0 n0) := by
  refine Con.of (plainFor_of_name pn_35) fun p e s m below meth c s₁ hx hby hml hZ hown hnm hlk hret X0 e0 => ?_
  have N0 := Fr.nil n0
  have hc := And.intro hx hby
  have K0 := Keep.refl h0 [os, ts, ns]
  refine Comes.cast (ef_mv_1_2 m blk) ?_
  have lt_blk : blk < h0.size := G0.lt
  have lt_os : os < h0.size := G4.lt
  have lt_ts : ts < h0.size := G6.lt
  have lt_ns : ns < h0.size := G7.lt
  have lt_xb : xb < h0.size := G8.lt
  refine cs (fun t k => xaloadN X0 hc d35_0 rfl rfl k) ?_
  refine Comes.gF X0 hx hZ hown (host := "") (Or.inl (W hw 139)) Via.refl e0 G1 rfl rfl (hb hby d35_1) fun T1 X1 e1 => ?_
  refine cs (fun t k => xiloadN X1 hc d35_4 rfl (xaloadN X1 hc d35_5 rfl rfl k)) ?_
  refine Comes.gF X1 hx hZ hown (host := "") (Or.inl (W hw 139)) Via.refl e1 G1 rfl rfl (hb hby d35_6) fun T2 X2 e2 => ?_
  refine cs (fun t k => xiloadN X2 hc d35_9 rfl k) ?_
  refine Comes.ldR X2 hx hZ e2 G4 rfl rfl (v := (.ref xb)) rfl (hb hby d35_10) ?_
  refine Comes.wrR X2 hx hZ e2 G4 (Or.inr ⟨_, rfl, G5, (Ins.self G8)⟩) rfl rfl 2 (hb hby d35_11) fun T4 h4 X4 e4 W4 V4 => ?_
  have z4 : h4.size = h0.size := W4.size
  have N4 := Fr.snoc X4 N0 G9
  have K4 := K0.wr W4 (mE 0)
  refine cs (fun t k => xaloadN X4 hc d35_12 rfl rfl k) ?_
  show Comes p e below _ (T4.setTop (mkF m 13 #[vr blk, vi (1 : Int32), vi (2 : Int32)] [(.ref blk)]))
  have F5 := (G2.other W4 (Or.inl G12))
  refine Comes.gF X4 hx hZ hown (host := "") (Or.inl (W hw 141)) Via.refl e4 F5 rfl rfl (hb hby d35_13) fun T6 X6 e6 => ?_
  refine cs (fun t k => xiloadN X6 hc d35_16 rfl (xaloadN X6 hc d35_17 rfl rfl k)) ?_
  refine Comes.gF X6 hx hZ hown (host := "") (Or.inl (W hw 141)) Via.refl e6 F5 rfl rfl (hb hby d35_18) fun T7 X7 e7 => ?_
  refine cs (fun t k => xiloadN X7 hc d35_21 rfl k) ?_
  have F8 := (G6.other W4 (Ne.symm G15))
  refine Comes.ldJ X7 hx hZ e7 F8 rfl rfl (x := tb) rfl (hb hby d35_22) ?_
  refine Comes.wrJ X7 hx hZ e7 F8 rfl rfl 2 (hb hby d35_23) fun T10 h10 X10 e10 W10 V10 => ?_
  have z10 : h10.size = h4.size := W10.size
  have N10 := Fr.snoc X10 N4 G10
  have K10 := K4.wr W10 (mE 1)
  refine cs (fun t k => xaloadN X10 hc d35_24 rfl rfl k) ?_
  have F11 := ((G3.other W4 (Or.inl G12)).other W10 (Or.inl G13))
  refine Comes.gF X10 hx hZ hown (host := "") (Or.inl (W hw 143)) Via.refl e10 F11 rfl rfl (hb hby d35_25) fun T12 X12 e12 => ?_
  show Comes p e below _ (T12.setTop (mkF m 28 #[vr blk, vi (1 : Int32), vi (2 : Int32)] [(.ref ns)]))
  refine cs (fun t k => xiloadN X12 hc d35_28 rfl (xaloadN X12 hc d35_29 rfl rfl k)) ?_
  refine Comes.gF X12 hx hZ hown (host := "") (Or.inl (W hw 143)) Via.refl e12 F11 rfl rfl (hb hby d35_30) fun T13 X13 e13 => ?_
  refine cs (fun t k => xiloadN X13 hc d35_33 rfl k) ?_
  have F14 := ((G7.other W4 (Ne.symm G16)).other W10 (Ne.symm G17))
  refine Comes.ldJ X13 hx hZ e13 F14 rfl rfl (x := ub) rfl (hb hby d35_34) ?_
  refine Comes.wrJ X13 hx hZ e13 F14 rfl rfl 2 (hb hby d35_35) fun T16 h16 X16 e16 W16 V16 => ?_
  have z16 : h16.size = h10.size := W16.size
  have N16 := Fr.snoc X16 N10 G11
  have K16 := K10.wr W16 (mE 2)
  show Comes p e below _ (T16.setTop (mkF m 36 #[vr blk, vi (1 : Int32), vi (2 : Int32)] []))
  have F17 := ((V4.other W10 G15).other W16 G16)
  have F18 := (V10.other W16 G17)
  exact Comes.ret0 X16 hx hret hlk (hb hby d35_36) e16 ⟨rfl, N16, K16, F17, F18, V16⟩ dd dd
def Q_mv_1_0 (Z : State) (blk os ts ns : Nat) (ko kt kn : ClassId) (va : Value) (xb : Nat) (vc : Value) (ta tb tc ua ub uc : Int64) (h0 : Heap) (n0 : Nat) (v_ : Option Value) (h : Heap) (L_ : List Loc) : Prop := (v_ = none) ∧ (Fr n0 L_) ∧ (Keep h0 h [os, ts, ns]) ∧ (Arv Z h os ko (.object sOr) (64 : Int32) [(.ref xb), (.ref xb), vc] .null) ∧ (AJ Z h ts kt tb tb tc) ∧ (AJ Z h ns kn ub ub uc)
theorem mv_1_0 (l : Launch) (Z : State) (a0 : Array Value) (hw : ∀ d ∈ tables_1, d.before a0 Z = true) (ws : List Jvm.Cond) (blk os ts ns : Nat) (ko kt kn : ClassId) (va : Value) (xb : Nat) (vc : Value) (ta tb tc ua ub uc : Int64) (h0 : Heap) (n0 : Nat) (Z0 : n0 ≤ h0.size) (G0 : Exa Z h0 blk sBk) (G1 : Fld Z h0 blk sBk "orders" dOs (.ref os)) (G2 : Fld Z h0 blk sBk "ticks" "[J" (.ref ts)) (G3 : Fld Z h0 blk sBk "numbers" "[J" (.ref ns)) (G4 : Arv Z h0 os ko (.object sOr) (64 : Int32) [va, (.ref xb), vc] .null) (G5 : Ovr Z ko sOr) (G6 : AJ Z h0 ts kt ta tb tc) (G7 : AJ Z h0 ns kn ua ub uc) (G8 : Exa Z h0 xb sOr) (G9 : n0 ≤ os) (G10 : n0 ≤ ts) (G11 : n0 ≤ ns) (G12 : blk ≠ os) (G13 : blk ≠ ts) (G14 : blk ≠ ns) (G15 : os ≠ ts) (G16 : os ≠ ns) (G17 : ts ≠ ns) :
    Con l Z y35 prog_28_method_6_code 3 none ws (Rm 0 0 0 0) #[(.ref blk), (.int (1 : Int32)), (.int (0 : Int32))] h0 (Q_mv_1_0 Z blk os ts ns ko kt kn va xb vc ta tb tc ua ub uc h0 n0) := by
  refine Con.of (plainFor_of_name pn_35) fun p e s m below meth c s₁ hx hby hml hZ hown hnm hlk hret X0 e0 => ?_
  have N0 := Fr.nil n0
  have hc := And.intro hx hby
  have K0 := Keep.refl h0 [os, ts, ns]
  refine Comes.cast (ef_mv_1_0 m blk) ?_
  have lt_blk : blk < h0.size := G0.lt
  have lt_os : os < h0.size := G4.lt
  have lt_ts : ts < h0.size := G6.lt
  have lt_ns : ns < h0.size := G7.lt
  have lt_xb : xb < h0.size := G8.lt
  refine cs (fun t k => xaloadN X0 hc d35_0 rfl rfl k) ?_
  refine Comes.gF X0 hx hZ hown (host := "") (Or.inl (W hw 139)) Via.refl e0 G1 rfl rfl (hb hby d35_1) fun T1 X1 e1 => ?_
  refine cs (fun t k => xiloadN X1 hc d35_4 rfl (xaloadN X1 hc d35_5 rfl rfl k)) ?_
  refine Comes.gF X1 hx hZ hown (host := "") (Or.inl (W hw 139)) Via.refl e1 G1 rfl rfl (hb hby d35_6) fun T2 X2 e2 => ?_
  refine cs (fun t k => xiloadN X2 hc d35_9 rfl k) ?_
  refine Comes.ldR X2 hx hZ e2 G4 rfl rfl (v := (.ref xb)) rfl (hb hby d35_10) ?_
  refine Comes.wrR X2 hx hZ e2 G4 (Or.inr ⟨_, rfl, G5, (Ins.self G8)⟩) rfl rfl 0 (hb hby d35_11) fun T4 h4 X4 e4 W4 V4 => ?_
  have z4 : h4.size = h0.size := W4.size
  have N4 := Fr.snoc X4 N0 G9
  have K4 := K0.wr W4 (mE 0)
  refine cs (fun t k => xaloadN X4 hc d35_12 rfl rfl k) ?_
  show Comes p e below _ (T4.setTop (mkF m 13 #[vr blk, vi (1 : Int32), vi (0 : Int32)] [(.ref blk)]))
  have F5 := (G2.other W4 (Or.inl G12))
  refine Comes.gF X4 hx hZ hown (host := "") (Or.inl (W hw 141)) Via.refl e4 F5 rfl rfl (hb hby d35_13) fun T6 X6 e6 => ?_
  refine cs (fun t k => xiloadN X6 hc d35_16 rfl (xaloadN X6 hc d35_17 rfl rfl k)) ?_
  refine Comes.gF X6 hx hZ hown (host := "") (Or.inl (W hw 141)) Via.refl e6 F5 rfl rfl (hb hby d35_18) fun T7 X7 e7 => ?_
  refine cs (fun t k => xiloadN X7 hc d35_21 rfl k) ?_
  have F8 := (G6.other W4 (Ne.symm G15))
  refine Comes.ldJ X7 hx hZ e7 F8 rfl rfl (x := tb) rfl (hb hby d35_22) ?_
  refine Comes.wrJ X7 hx hZ e7 F8 rfl rfl 0 (hb hby d35_23) fun T10 h10 X10 e10 W10 V10 => ?_
  have z10 : h10.size = h4.size := W10.size
  have N10 := Fr.snoc X10 N4 G10
  have K10 := K4.wr W10 (mE 1)
  refine cs (fun t k => xaloadN X10 hc d35_24 rfl rfl k) ?_
  have F11 := ((G3.other W4 (Or.inl G12)).other W10 (Or.inl G13))
  refine Comes.gF X10 hx hZ hown (host := "") (Or.inl (W hw 143)) Via.refl e10 F11 rfl rfl (hb hby d35_25) fun T12 X12 e12 => ?_
  show Comes p e below _ (T12.setTop (mkF m 28 #[vr blk, vi (1 : Int32), vi (0 : Int32)] [(.ref ns)]))
  refine cs (fun t k => xiloadN X12 hc d35_28 rfl (xaloadN X12 hc d35_29 rfl rfl k)) ?_
  refine Comes.gF X12 hx hZ hown (host := "") (Or.inl (W hw 143)) Via.refl e12 F11 rfl rfl (hb hby d35_30) fun T13 X13 e13 => ?_
  refine cs (fun t k => xiloadN X13 hc d35_33 rfl k) ?_
  have F14 := ((G7.other W4 (Ne.symm G16)).other W10 (Ne.symm G17))
  refine Comes.ldJ X13 hx hZ e13 F14 rfl rfl (x := ub) rfl (hb hby d35_34) ?_
  refine Comes.wrJ X13 hx hZ e13 F14 rfl rfl 0 (hb hby d35_35) fun T16 h16 X16 e16 W16 V16 => ?_
  have z16 : h16.size = h10.size := W16.size
  have N16 := Fr.snoc X16 N10 G11
  have K16 := K10.wr W16 (mE 2)
  show Comes p e below _ (T16.setTop (mkF m 36 #[vr blk, vi (1 : Int32), vi (0 : Int32)] []))
  have F17 := ((V4.other W10 G15).other W16 G16)
  have F18 := (V10.other W16 G17)
  exact Comes.ret0 X16 hx hret hlk (hb hby d35_36) e16 ⟨rfl, N16, K16, F17, F18, V16⟩ dd dd
def Q_mv_2_1 (Z : State) (blk os ts ns : Nat) (ko kt kn : ClassId) (va vb : Value) (xc : Nat) (ta tb tc ua ub uc : Int64) (h0 : Heap) (n0 : Nat) (v_ : Option Value) (h : Heap) (L_ : List Loc) : Prop := (v_ = none) ∧ (Fr n0 L_) ∧ (Keep h0 h [os, ts, ns]) ∧ (Arv Z h os ko (.object sOr) (64 : Int32) [va, (.ref xc), (.ref xc)] .null) ∧ (AJ Z h ts kt ta tc tc) ∧ (AJ Z h ns kn ua uc uc)
theorem mv_2_1 (l : Launch) (Z : State) (a0 : Array Value) (hw : ∀ d ∈ tables_1, d.before a0 Z = true) (ws : List Jvm.Cond) (blk os ts ns : Nat) (ko kt kn : ClassId) (va vb : Value) (xc : Nat) (ta tb tc ua ub uc : Int64) (h0 : Heap) (n0 : Nat) (Z0 : n0 ≤ h0.size) (G0 : Exa Z h0 blk sBk) (G1 : Fld Z h0 blk sBk "orders" dOs (.ref os)) (G2 : Fld Z h0 blk sBk "ticks" "[J" (.ref ts)) (G3 : Fld Z h0 blk sBk "numbers" "[J" (.ref ns)) (G4 : Arv Z h0 os ko (.object sOr) (64 : Int32) [va, vb, (.ref xc)] .null) (G5 : Ovr Z ko sOr) (G6 : AJ Z h0 ts kt ta tb tc) (G7 : AJ Z h0 ns kn ua ub uc) (G8 : Exa Z h0 xc sOr) (G9 : n0 ≤ os) (G10 : n0 ≤ ts) (G11 : n0 ≤ ns) (G12 : blk ≠ os) (G13 : blk ≠ ts) (G14 : blk ≠ ns) (G15 : os ≠ ts) (G16 : os ≠ ns) (G17 : ts ≠ ns) :
    Con l Z y35 prog_28_method_6_code 3 none ws (Rm 0 0 0 0) #[(.ref blk), (.int (2 : Int32)), (.int (1 : Int32))] h0 (Q_mv_2_1 Z blk os ts ns ko kt kn va vb xc ta tb tc ua ub uc h0 n0) := by
  refine Con.of (plainFor_of_name pn_35) fun p e s m below meth c s₁ hx hby hml hZ hown hnm hlk hret X0 e0 => ?_
  have N0 := Fr.nil n0
  have hc := And.intro hx hby
  have K0 := Keep.refl h0 [os, ts, ns]
  refine Comes.cast (ef_mv_2_1 m blk) ?_
  have lt_blk : blk < h0.size := G0.lt
  have lt_os : os < h0.size := G4.lt
  have lt_ts : ts < h0.size := G6.lt
  have lt_ns : ns < h0.size := G7.lt
  have lt_xc : xc < h0.size := G8.lt
  refine cs (fun t k => xaloadN X0 hc d35_0 rfl rfl k) ?_
  refine Comes.gF X0 hx hZ hown (host := "") (Or.inl (W hw 139)) Via.refl e0 G1 rfl rfl (hb hby d35_1) fun T1 X1 e1 => ?_
  refine cs (fun t k => xiloadN X1 hc d35_4 rfl (xaloadN X1 hc d35_5 rfl rfl k)) ?_
  refine Comes.gF X1 hx hZ hown (host := "") (Or.inl (W hw 139)) Via.refl e1 G1 rfl rfl (hb hby d35_6) fun T2 X2 e2 => ?_
  refine cs (fun t k => xiloadN X2 hc d35_9 rfl k) ?_
  refine Comes.ldR X2 hx hZ e2 G4 rfl rfl (v := (.ref xc)) rfl (hb hby d35_10) ?_
  refine Comes.wrR X2 hx hZ e2 G4 (Or.inr ⟨_, rfl, G5, (Ins.self G8)⟩) rfl rfl 1 (hb hby d35_11) fun T4 h4 X4 e4 W4 V4 => ?_
  have z4 : h4.size = h0.size := W4.size
  have N4 := Fr.snoc X4 N0 G9
  have K4 := K0.wr W4 (mE 0)
  refine cs (fun t k => xaloadN X4 hc d35_12 rfl rfl k) ?_
  show Comes p e below _ (T4.setTop (mkF m 13 #[vr blk, vi (2 : Int32), vi (1 : Int32)] [(.ref blk)]))
  have F5 := (G2.other W4 (Or.inl G12))
  refine Comes.gF X4 hx hZ hown (host := "") (Or.inl (W hw 141)) Via.refl e4 F5 rfl rfl (hb hby d35_13) fun T6 X6 e6 => ?_
  refine cs (fun t k => xiloadN X6 hc d35_16 rfl (xaloadN X6 hc d35_17 rfl rfl k)) ?_
  refine Comes.gF X6 hx hZ hown (host := "") (Or.inl (W hw 141)) Via.refl e6 F5 rfl rfl (hb hby d35_18) fun T7 X7 e7 => ?_
  refine cs (fun t k => xiloadN X7 hc d35_21 rfl k) ?_
  have F8 := (G6.other W4 (Ne.symm G15))
  refine Comes.ldJ X7 hx hZ e7 F8 rfl rfl (x := tc) rfl (hb hby d35_22) ?_
  refine Comes.wrJ X7 hx hZ e7 F8 rfl rfl 1 (hb hby d35_23) fun T10 h10 X10 e10 W10 V10 => ?_
  have z10 : h10.size = h4.size := W10.size
  have N10 := Fr.snoc X10 N4 G10
  have K10 := K4.wr W10 (mE 1)
  refine cs (fun t k => xaloadN X10 hc d35_24 rfl rfl k) ?_
  have F11 := ((G3.other W4 (Or.inl G12)).other W10 (Or.inl G13))
  refine Comes.gF X10 hx hZ hown (host := "") (Or.inl (W hw 143)) Via.refl e10 F11 rfl rfl (hb hby d35_25) fun T12 X12 e12 => ?_
  show Comes p e below _ (T12.setTop (mkF m 28 #[vr blk, vi (2 : Int32), vi (1 : Int32)] [(.ref ns)]))
  refine cs (fun t k => xiloadN X12 hc d35_28 rfl (xaloadN X12 hc d35_29 rfl rfl k)) ?_
  refine Comes.gF X12 hx hZ hown (host := "") (Or.inl (W hw 143)) Via.refl e12 F11 rfl rfl (hb hby d35_30) fun T13 X13 e13 => ?_
  refine cs (fun t k => xiloadN X13 hc d35_33 rfl k) ?_
  have F14 := ((G7.other W4 (Ne.symm G16)).other W10 (Ne.symm G17))
  refine Comes.ldJ X13 hx hZ e13 F14 rfl rfl (x := uc) rfl (hb hby d35_34) ?_
  refine Comes.wrJ X13 hx hZ e13 F14 rfl rfl 1 (hb hby d35_35) fun T16 h16 X16 e16 W16 V16 => ?_
  have z16 : h16.size = h10.size := W16.size
  have N16 := Fr.snoc X16 N10 G11
  have K16 := K10.wr W16 (mE 2)
  show Comes p e below _ (T16.setTop (mkF m 36 #[vr blk, vi (2 : Int32), vi (1 : Int32)] []))
  have F17 := ((V4.other W10 G15).other W16 G16)
  have F18 := (V10.other W16 G17)
  exact Comes.ret0 X16 hx hret hlk (hb hby d35_36) e16 ⟨rfl, N16, K16, F17, F18, V16⟩ dd dd
def Q_sh_0_0_p (Z : State) (blk os ts ns : Nat) (ko kt kn : ClassId) (va vb vc : Value) (ta tb tc ua ub uc : Int64) (h0 : Heap) (n0 : Nat) (v_ : Option Value) (h : Heap) (L_ : List Loc) : Prop := (v_ = none) ∧ (Fr n0 L_) ∧ (Keep h0 h [os, ts, ns]) ∧ (Arv Z h os ko (.object sOr) (64 : Int32) [va, vb, vc] .null) ∧ (AJ Z h ts kt ta tb tc) ∧ (AJ Z h ns kn ua ub uc)
theorem sh_0_0_p (l : Launch) (Z : State) (a0 : Array Value) (hw : ∀ d ∈ tables_1, d.before a0 Z = true) (ws : List Jvm.Cond) (blk os ts ns : Nat) (ko kt kn : ClassId) (va vb vc : Value) (ta tb tc ua ub uc : Int64) (h0 : Heap) (n0 : Nat) (Z0 : n0 ≤ h0.size) (G0 : Exa Z h0 blk sBk) (G1 : Fld Z h0 blk sBk "orders" dOs (.ref os)) (G2 : Fld Z h0 blk sBk "ticks" "[J" (.ref ts)) (G3 : Fld Z h0 blk sBk "numbers" "[J" (.ref ns)) (G4 : Arv Z h0 os ko (.object sOr) (64 : Int32) [va, vb, vc] .null) (G5 : Ovr Z ko sOr) (G6 : AJ Z h0 ts kt ta tb tc) (G7 : AJ Z h0 ns kn ua ub uc) (G8 : n0 ≤ os) (G9 : n0 ≤ ts) (G10 : n0 ≤ ns) (G11 : blk ≠ os) (G12 : blk ≠ ts) (G13 : blk ≠ ns) (G14 : os ≠ ts) (G15 : os ≠ ns) (G16 : ts ≠ ns) :
    Con l Z y21 prog_28_method_5_code 6 none ws (Rm 0 0 0 0) #[(.ref blk), (.int (0 : Int32)), (.int (0 : Int32)), (.int (1 : Int32))] h0 (Q_sh_0_0_p Z blk os ts ns ko kt kn va vb vc ta tb tc ua ub uc h0 n0) := by
  refine Con.of (plainFor_of_name pn_21) fun p e s m below meth c s₁ hx hby hml hZ hown hnm hlk hret X0 e0 => ?_
  have N0 := Fr.nil n0
  have hc := And.intro hx hby
  have K0 := Keep.refl h0 [os, ts, ns]
  refine Comes.cast (ef_sh_0_0_p m blk) ?_
  have lt_blk : blk < h0.size := G0.lt
  have lt_os : os < h0.size := G4.lt
  have lt_ts : ts < h0.size := G6.lt
  have lt_ns : ns < h0.size := G7.lt
  refine cs (fun t k => xiloadN X0 hc d21_0 rfl (xiloadN X0 hc d21_1 rfl (xisub X0 hc d21_2 rfl k))) ?_
  show Comes p e below _ (s₁.setTop (mkF m 3 #[vr blk, vi (0 : Int32), vi (0 : Int32), vi (1 : Int32), U0, U0] [(.int ((0 : Int32) - (0 : Int32)))]))
  rw [show ((0 : Int32) - (0 : Int32)) = (0 : Int32) from by decide]
  refine cs (fun t k => xistore X0 hc d21_3 rfl rfl (xiload X0 hc d21_5 rfl (xiconst X0 hc d21_7 k))) ?_
  refine cs (fun t k => xicmpYes X0 hc 8 65 d21_8 rfl (flt dd).2.2.2 (xiloadN X0 hc d21_65 rfl k)) ?_
  refine cs (fun t k => xifNo X0 hc d21_66 rfl ((if0 _ _).trans (tlt dd).2.2.2) (xiloadN X0 hc d21_69 rfl (xiconst X0 hc d21_70 (xisub X0 hc d21_71 rfl k)))) ?_
  show Comes p e below _ (s₁.setTop (mkF m 72 #[vr blk, vi (0 : Int32), vi (0 : Int32), vi (1 : Int32), vi (0 : Int32), U0] [(.int ((0 : Int32) - (1 : Int32)))]))
  rw [show ((0 : Int32) - (1 : Int32)) = (-1 : Int32) from by decide]
  refine cs (fun t k => xistore X0 hc d21_72 rfl rfl (xiload X0 hc d21_74 rfl (xiloadN X0 hc d21_76 rfl k))) ?_
  refine cs (fun t k => xicmpYes X0 hc 77 96 d21_77 rfl (tlt dd).1 (xgoto X0 hc 96 124 d21_96 k)) ?_
  show Comes p e below _ (s₁.setTop (mkF m 124 #[vr blk, vi (0 : Int32), vi (0 : Int32), vi (1 : Int32), vi (0 : Int32), vi (-1 : Int32)] []))
  exact Comes.ret0 X0 hx hret hlk (hb hby d21_124) e0 ⟨rfl, N0, K0, G4, G6, G7⟩ dd dd
def Q_sh_0_1_p (Z : State) (blk os ts ns : Nat) (ko kt kn : ClassId) (xa : Nat) (vb vc : Value) (ta tb tc ua ub uc : Int64) (h0 : Heap) (n0 : Nat) (v_ : Option Value) (h : Heap) (L_ : List Loc) : Prop := (v_ = none) ∧ (Fr n0 L_) ∧ (Keep h0 h [os, ts, ns]) ∧ (Arv Z h os ko (.object sOr) (64 : Int32) [(.ref xa), (.ref xa), vc] .null) ∧ (AJ Z h ts kt ta ta tc) ∧ (AJ Z h ns kn ua ua uc)
theorem sh_0_1_p (l : Launch) (Z : State) (a0 : Array Value) (hw : ∀ d ∈ tables_1, d.before a0 Z = true) (ws : List Jvm.Cond) (blk os ts ns : Nat) (ko kt kn : ClassId) (xa : Nat) (vb vc : Value) (ta tb tc ua ub uc : Int64) (h0 : Heap) (n0 : Nat) (Z0 : n0 ≤ h0.size) (G0 : Exa Z h0 blk sBk) (G1 : Fld Z h0 blk sBk "orders" dOs (.ref os)) (G2 : Fld Z h0 blk sBk "ticks" "[J" (.ref ts)) (G3 : Fld Z h0 blk sBk "numbers" "[J" (.ref ns)) (G4 : Arv Z h0 os ko (.object sOr) (64 : Int32) [(.ref xa), vb, vc] .null) (G5 : Ovr Z ko sOr) (G6 : AJ Z h0 ts kt ta tb tc) (G7 : AJ Z h0 ns kn ua ub uc) (G8 : Exa Z h0 xa sOr) (G9 : n0 ≤ os) (G10 : n0 ≤ ts) (G11 : n0 ≤ ns) (G12 : blk ≠ os) (G13 : blk ≠ ts) (G14 : blk ≠ ns) (G15 : os ≠ ts) (G16 : os ≠ ns) (G17 : ts ≠ ns) :
    Con l Z y21 prog_28_method_5_code 6 none ws (Rm 1 0 0 14) #[(.ref blk), (.int (0 : Int32)), (.int (1 : Int32)), (.int (1 : Int32))] h0 (Q_sh_0_1_p Z blk os ts ns ko kt kn xa vb vc ta tb tc ua ub uc h0 n0) := by
  refine Con.of (plainFor_of_name pn_21) fun p e s m below meth c s₁ hx hby hml hZ hown hnm hlk hret X0 e0 => ?_
  have N0 := Fr.nil n0
  have hc := And.intro hx hby
  have K0 := Keep.refl h0 [os, ts, ns]
  refine Comes.cast (ef_sh_0_1_p m blk) ?_
  have lt_blk : blk < h0.size := G0.lt
  have lt_os : os < h0.size := G4.lt
  have lt_ts : ts < h0.size := G6.lt
  have lt_ns : ns < h0.size := G7.lt
  have lt_xa : xa < h0.size := G8.lt
  refine cs (fun t k => xiloadN X0 hc d21_0 rfl (xiloadN X0 hc d21_1 rfl (xisub X0 hc d21_2 rfl k))) ?_
  show Comes p e below _ (s₁.setTop (mkF m 3 #[vr blk, vi (0 : Int32), vi (1 : Int32), vi (1 : Int32), U0, U0] [(.int ((1 : Int32) - (0 : Int32)))]))
  rw [show ((1 : Int32) - (0 : Int32)) = (1 : Int32) from by decide]
  refine cs (fun t k => xistore X0 hc d21_3 rfl rfl (xiload X0 hc d21_5 rfl (xiconst X0 hc d21_7 k))) ?_
  refine cs (fun t k => xicmpYes X0 hc 8 65 d21_8 rfl (flt dd).2.2.2 (xiloadN X0 hc d21_65 rfl k)) ?_
  refine cs (fun t k => xifNo X0 hc d21_66 rfl ((if0 _ _).trans (tlt dd).2.2.2) (xiloadN X0 hc d21_69 rfl (xiconst X0 hc d21_70 (xisub X0 hc d21_71 rfl k)))) ?_
  show Comes p e below _ (s₁.setTop (mkF m 72 #[vr blk, vi (0 : Int32), vi (1 : Int32), vi (1 : Int32), vi (1 : Int32), U0] [(.int ((1 : Int32) - (1 : Int32)))]))
  rw [show ((1 : Int32) - (1 : Int32)) = (0 : Int32) from by decide]
  refine cs (fun t k => xistore X0 hc d21_72 rfl rfl (xiload X0 hc d21_74 rfl (xiloadN X0 hc d21_76 rfl k))) ?_
  refine cs (fun t k => xicmpNo X0 hc d21_77 rfl (flt dd).1 (xaloadN X0 hc d21_80 rfl rfl (xiload X0 hc d21_81 rfl (xiload X0 hc d21_83 rfl (xiloadN X0 hc d21_85 rfl (xiadd X0 hc d21_86 rfl k)))))) ?_
  show Comes p e below _ (s₁.setTop (mkF m 87 #[vr blk, vi (0 : Int32), vi (1 : Int32), vi (1 : Int32), vi (1 : Int32), vi (0 : Int32)] [(.int ((0 : Int32) + (1 : Int32))), (.int (0 : Int32)), (.ref blk)]))
  rw [show ((0 : Int32) + (1 : Int32)) = (1 : Int32) from by decide]
  refine Comes.cP X0 hx hZ hown (y := y35) (W := 0) (W hw 234) (W hw 235) (W hw 132) (W hw 236) dd (W hw 237) (mv_0_1 l Z a0 hw [] blk os ts ns ko kt kn xa vb vc ta tb tc ua ub uc h0 n0 (by omega)  G0 G1 G2 G3 G4 G5 G6 G7 G8 G9 G10 G11 G12 G13 G14 G15 G16 G17) G0 (W hw 133) dd dd e0 rfl (by rw [hml]; rfl) (argsL := [(.int (0 : Int32)), (.int (1 : Int32))]) (rest := []) (lenOf pd_6 rfl) rfl (wle rfl) (hb hby d21_87) rfl dd dd fun v4 T4 L4 hQ4 X4 => ?_
  obtain ⟨rfl, Nq4, Kq4, P4_0, P4_1, P4_2⟩ := hQ4
  have N4 := Fr.app N0 Nq4
  have z4k : h0.size ≤ T4.heap.size := Kq4.1
  have K4 := K0.trans Kq4 (allS (mE 0) (allS (mE 1) (allS (mE 2) all0)))
  refine cs (fun t k => XS.iinc X4.here hx rfl (hb hby d21_90) rfl rfl (xgoto X4 hc 93 74 d21_93 (xiload X4 hc d21_74 rfl (xiloadN X4 hc d21_76 rfl k)))) ?_
  refine cs (fun t k => xicmpYes X4 hc 77 96 d21_77 rfl (tlt dd).1 (xgoto X4 hc 96 124 d21_96 k)) ?_
  show Comes p e below _ (T4.setTop (mkF m 124 #[vr blk, vi (0 : Int32), vi (1 : Int32), vi (1 : Int32), vi (1 : Int32), vi (-1 : Int32)] []))
  exact Comes.ret0 X4 hx hret hlk (hb hby d21_124) rfl ⟨rfl, N4, K4, P4_0, P4_1, P4_2⟩ dd dd
def Q_sh_1_1_p (Z : State) (blk os ts ns : Nat) (ko kt kn : ClassId) (va vb vc : Value) (ta tb tc ua ub uc : Int64) (h0 : Heap) (n0 : Nat) (v_ : Option Value) (h : Heap) (L_ : List Loc) : Prop := (v_ = none) ∧ (Fr n0 L_) ∧ (Keep h0 h [os, ts, ns]) ∧ (Arv Z h os ko (.object sOr) (64 : Int32) [va, vb, vc] .null) ∧ (AJ Z h ts kt ta tb tc) ∧ (AJ Z h ns kn ua ub uc)
theorem sh_1_1_p (l : Launch) (Z : State) (a0 : Array Value) (hw : ∀ d ∈ tables_1, d.before a0 Z = true) (ws : List Jvm.Cond) (blk os ts ns : Nat) (ko kt kn : ClassId) (va vb vc : Value) (ta tb tc ua ub uc : Int64) (h0 : Heap) (n0 : Nat) (Z0 : n0 ≤ h0.size) (G0 : Exa Z h0 blk sBk) (G1 : Fld Z h0 blk sBk "orders" dOs (.ref os)) (G2 : Fld Z h0 blk sBk "ticks" "[J" (.ref ts)) (G3 : Fld Z h0 blk sBk "numbers" "[J" (.ref ns)) (G4 : Arv Z h0 os ko (.object sOr) (64 : Int32) [va, vb, vc] .null) (G5 : Ovr Z ko sOr) (G6 : AJ Z h0 ts kt ta tb tc) (G7 : AJ Z h0 ns kn ua ub uc) (G8 : n0 ≤ os) (G9 : n0 ≤ ts) (G10 : n0 ≤ ns) (G11 : blk ≠ os) (G12 : blk ≠ ts) (G13 : blk ≠ ns) (G14 : os ≠ ts) (G15 : os ≠ ns) (G16 : ts ≠ ns) :
    Con l Z y21 prog_28_method_5_code 6 none ws (Rm 0 0 0 0) #[(.ref blk), (.int (1 : Int32)), (.int (1 : Int32)), (.int (1 : Int32))] h0 (Q_sh_1_1_p Z blk os ts ns ko kt kn va vb vc ta tb tc ua ub uc h0 n0) := by
  refine Con.of (plainFor_of_name pn_21) fun p e s m below meth c s₁ hx hby hml hZ hown hnm hlk hret X0 e0 => ?_
  have N0 := Fr.nil n0
  have hc := And.intro hx hby
  have K0 := Keep.refl h0 [os, ts, ns]
  refine Comes.cast (ef_sh_1_1_p m blk) ?_
  have lt_blk : blk < h0.size := G0.lt
  have lt_os : os < h0.size := G4.lt
  have lt_ts : ts < h0.size := G6.lt
  have lt_ns : ns < h0.size := G7.lt
  refine cs (fun t k => xiloadN X0 hc d21_0 rfl (xiloadN X0 hc d21_1 rfl (xisub X0 hc d21_2 rfl k))) ?_
  show Comes p e below _ (s₁.setTop (mkF m 3 #[vr blk, vi (1 : Int32), vi (1 : Int32), vi (1 : Int32), U0, U0] [(.int ((1 : Int32) - (1 : Int32)))]))
  rw [show ((1 : Int32) - (1 : Int32)) = (0 : Int32) from by decide]
  refine cs (fun t k => xistore X0 hc d21_3 rfl rfl (xiload X0 hc d21_5 rfl (xiconst X0 hc d21_7 k))) ?_
  refine cs (fun t k => xicmpYes X0 hc 8 65 d21_8 rfl (flt dd).2.2.2 (xiloadN X0 hc d21_65 rfl k)) ?_
  refine cs (fun t k => xifNo X0 hc d21_66 rfl ((if0 _ _).trans (tlt dd).2.2.2) (xiloadN X0 hc d21_69 rfl (xiconst X0 hc d21_70 (xisub X0 hc d21_71 rfl k)))) ?_
  show Comes p e below _ (s₁.setTop (mkF m 72 #[vr blk, vi (1 : Int32), vi (1 : Int32), vi (1 : Int32), vi (0 : Int32), U0] [(.int ((1 : Int32) - (1 : Int32)))]))
  rw [show ((1 : Int32) - (1 : Int32)) = (0 : Int32) from by decide]
  refine cs (fun t k => xistore X0 hc d21_72 rfl rfl (xiload X0 hc d21_74 rfl (xiloadN X0 hc d21_76 rfl k))) ?_
  refine cs (fun t k => xicmpYes X0 hc 77 96 d21_77 rfl (tlt dd).1 (xgoto X0 hc 96 124 d21_96 k)) ?_
  show Comes p e below _ (s₁.setTop (mkF m 124 #[vr blk, vi (1 : Int32), vi (1 : Int32), vi (1 : Int32), vi (0 : Int32), vi (0 : Int32)] []))
  exact Comes.ret0 X0 hx hret hlk (hb hby d21_124) e0 ⟨rfl, N0, K0, G4, G6, G7⟩ dd dd
def Q_sh_0_2_p (Z : State) (blk os ts ns : Nat) (ko kt kn : ClassId) (xa xb : Nat) (vc : Value) (ta tb tc ua ub uc : Int64) (h0 : Heap) (n0 : Nat) (v_ : Option Value) (h : Heap) (L_ : List Loc) : Prop := (v_ = none) ∧ (Fr n0 L_) ∧ (Keep h0 h [os, ts, ns]) ∧ (Arv Z h os ko (.object sOr) (64 : Int32) [(.ref xa), (.ref xa), (.ref xb)] .null) ∧ (AJ Z h ts kt ta ta tb) ∧ (AJ Z h ns kn ua ua ub)
theorem sh_0_2_p (l : Launch) (Z : State) (a0 : Array Value) (hw : ∀ d ∈ tables_1, d.before a0 Z = true) (ws : List Jvm.Cond) (blk os ts ns : Nat) (ko kt kn : ClassId) (xa xb : Nat) (vc : Value) (ta tb tc ua ub uc : Int64) (h0 : Heap) (n0 : Nat) (Z0 : n0 ≤ h0.size) (G0 : Exa Z h0 blk sBk) (G1 : Fld Z h0 blk sBk "orders" dOs (.ref os)) (G2 : Fld Z h0 blk sBk "ticks" "[J" (.ref ts)) (G3 : Fld Z h0 blk sBk "numbers" "[J" (.ref ns)) (G4 : Arv Z h0 os ko (.object sOr) (64 : Int32) [(.ref xa), (.ref xb), vc] .null) (G5 : Ovr Z ko sOr) (G6 : AJ Z h0 ts kt ta tb tc) (G7 : AJ Z h0 ns kn ua ub uc) (G8 : Exa Z h0 xa sOr) (G9 : Exa Z h0 xb sOr) (G10 : n0 ≤ os) (G11 : n0 ≤ ts) (G12 : n0 ≤ ns) (G13 : blk ≠ os) (G14 : blk ≠ ts) (G15 : blk ≠ ns) (G16 : os ≠ ts) (G17 : os ≠ ns) (G18 : ts ≠ ns) :
    Con l Z y21 prog_28_method_5_code 6 none ws (Rm 1 0 0 14) #[(.ref blk), (.int (0 : Int32)), (.int (2 : Int32)), (.int (1 : Int32))] h0 (Q_sh_0_2_p Z blk os ts ns ko kt kn xa xb vc ta tb tc ua ub uc h0 n0) := by
  refine Con.of (plainFor_of_name pn_21) fun p e s m below meth c s₁ hx hby hml hZ hown hnm hlk hret X0 e0 => ?_
  have N0 := Fr.nil n0
  have hc := And.intro hx hby
  have K0 := Keep.refl h0 [os, ts, ns]
  refine Comes.cast (ef_sh_0_2_p m blk) ?_
  have lt_blk : blk < h0.size := G0.lt
  have lt_os : os < h0.size := G4.lt
  have lt_ts : ts < h0.size := G6.lt
  have lt_ns : ns < h0.size := G7.lt
  have lt_xa : xa < h0.size := G8.lt
  have lt_xb : xb < h0.size := G9.lt
  refine cs (fun t k => xiloadN X0 hc d21_0 rfl (xiloadN X0 hc d21_1 rfl (xisub X0 hc d21_2 rfl k))) ?_
  show Comes p e below _ (s₁.setTop (mkF m 3 #[vr blk, vi (0 : Int32), vi (2 : Int32), vi (1 : Int32), U0, U0] [(.int ((2 : Int32) - (0 : Int32)))]))
  rw [show ((2 : Int32) - (0 : Int32)) = (2 : Int32) from by decide]
  refine cs (fun t k => xistore X0 hc d21_3 rfl rfl (xiload X0 hc d21_5 rfl (xiconst X0 hc d21_7 k))) ?_
  refine cs (fun t k => xicmpYes X0 hc 8 65 d21_8 rfl (flt dd).2.2.2 (xiloadN X0 hc d21_65 rfl k)) ?_
  refine cs (fun t k => xifNo X0 hc d21_66 rfl ((if0 _ _).trans (tlt dd).2.2.2) (xiloadN X0 hc d21_69 rfl (xiconst X0 hc d21_70 (xisub X0 hc d21_71 rfl k)))) ?_
  show Comes p e below _ (s₁.setTop (mkF m 72 #[vr blk, vi (0 : Int32), vi (2 : Int32), vi (1 : Int32), vi (2 : Int32), U0] [(.int ((2 : Int32) - (1 : Int32)))]))
  rw [show ((2 : Int32) - (1 : Int32)) = (1 : Int32) from by decide]
  refine cs (fun t k => xistore X0 hc d21_72 rfl rfl (xiload X0 hc d21_74 rfl (xiloadN X0 hc d21_76 rfl k))) ?_
  refine cs (fun t k => xicmpNo X0 hc d21_77 rfl (flt dd).1 (xaloadN X0 hc d21_80 rfl rfl (xiload X0 hc d21_81 rfl (xiload X0 hc d21_83 rfl (xiloadN X0 hc d21_85 rfl (xiadd X0 hc d21_86 rfl k)))))) ?_
  show Comes p e below _ (s₁.setTop (mkF m 87 #[vr blk, vi (0 : Int32), vi (2 : Int32), vi (1 : Int32), vi (2 : Int32), vi (1 : Int32)] [(.int ((1 : Int32) + (1 : Int32))), (.int (1 : Int32)), (.ref blk)]))
  rw [show ((1 : Int32) + (1 : Int32)) = (2 : Int32) from by decide]
  refine Comes.cP X0 hx hZ hown (y := y35) (W := 0) (W hw 234) (W hw 235) (W hw 132) (W hw 236) dd (W hw 237) (mv_1_2 l Z a0 hw [] blk os ts ns ko kt kn ((.ref xa)) xb vc ta tb tc ua ub uc h0 n0 (by omega)  G0 G1 G2 G3 G4 G5 G6 G7 G9 G10 G11 G12 G13 G14 G15 G16 G17 G18) G0 (W hw 133) dd dd e0 rfl (by rw [hml]; rfl) (argsL := [(.int (1 : Int32)), (.int (2 : Int32))]) (rest := []) (lenOf pd_6 rfl) rfl (wle rfl) (hb hby d21_87) rfl dd dd fun v4 T4 L4 hQ4 X4 => ?_
  obtain ⟨rfl, Nq4, Kq4, P4_0, P4_1, P4_2⟩ := hQ4
  have N4 := Fr.app N0 Nq4
  have z4k : h0.size ≤ T4.heap.size := Kq4.1
  have K4 := K0.trans Kq4 (allS (mE 0) (allS (mE 1) (allS (mE 2) all0)))
  refine cs (fun t k => XS.iinc X4.here hx rfl (hb hby d21_90) rfl rfl (xgoto X4 hc 93 74 d21_93 (xiload X4 hc d21_74 rfl (xiloadN X4 hc d21_76 rfl k)))) ?_
  refine cs (fun t k => xicmpNo X4 hc d21_77 rfl (flt dd).1 (xaloadN X4 hc d21_80 rfl rfl (xiload X4 hc d21_81 rfl (xiload X4 hc d21_83 rfl (xiloadN X4 hc d21_85 rfl (xiadd X4 hc d21_86 rfl k)))))) ?_
  show Comes p e below _ (T4.setTop (mkF m 87 #[vr blk, vi (0 : Int32), vi (2 : Int32), vi (1 : Int32), vi (2 : Int32), vi (0 : Int32)] [(.int ((0 : Int32) + (1 : Int32))), (.int (0 : Int32)), (.ref blk)]))
  rw [show ((0 : Int32) + (1 : Int32)) = (1 : Int32) from by decide]
  have F6 := (G0.keep Kq4)
  have ni7 := ninS G13 (ninS G14 (ninS G15 nin0))
  have F8 := (G1.keep Kq4 ni7)
  have F9 := (G2.keep Kq4 ni7)
  have F10 := (G3.keep Kq4 ni7)
  have F11 := (G8.keep Kq4)
  refine Comes.cP X4 hx hZ hown (y := y35) (W := 0) (W hw 234) (W hw 235) (W hw 132) (W hw 236) dd (W hw 237) (mv_0_1 l Z a0 hw [] blk os ts ns ko kt kn xa ((.ref xb)) ((.ref xb)) ta tb tb ua ub ub T4.heap n0 (by omega)  F6 F8 F9 F10 P4_0 G5 P4_1 P4_2 F11 G10 G11 G12 G13 G14 G15 G16 G17 G18) F6 (W hw 133) dd dd rfl rfl (by rw [hml]; rfl) (argsL := [(.int (0 : Int32)), (.int (1 : Int32))]) (rest := []) (lenOf pd_6 rfl) rfl (wle rfl) (hb hby d21_87) rfl dd dd fun v12 T12 L12 hQ12 X12 => ?_
  obtain ⟨rfl, Nq12, Kq12, P12_0, P12_1, P12_2⟩ := hQ12
  have N12 := Fr.app N4 Nq12
  have z12k : T4.heap.size ≤ T12.heap.size := Kq12.1
  have K12 := K4.trans Kq12 (allS (mE 0) (allS (mE 1) (allS (mE 2) all0)))
  refine cs (fun t k => XS.iinc X12.here hx rfl (hb hby d21_90) rfl rfl (xgoto X12 hc 93 74 d21_93 (xiload X12 hc d21_74 rfl (xiloadN X12 hc d21_76 rfl k)))) ?_
  refine cs (fun t k => xicmpYes X12 hc 77 96 d21_77 rfl (tlt dd).1 (xgoto X12 hc 96 124 d21_96 k)) ?_
  show Comes p e below _ (T12.setTop (mkF m 124 #[vr blk, vi (0 : Int32), vi (2 : Int32), vi (1 : Int32), vi (2 : Int32), vi (-1 : Int32)] []))
  exact Comes.ret0 X12 hx hret hlk (hb hby d21_124) rfl ⟨rfl, N12, K12, P12_0, P12_1, P12_2⟩ dd dd
def Q_sh_1_2_p (Z : State) (blk os ts ns : Nat) (ko kt kn : ClassId) (va : Value) (xb : Nat) (vc : Value) (ta tb tc ua ub uc : Int64) (h0 : Heap) (n0 : Nat) (v_ : Option Value) (h : Heap) (L_ : List Loc) : Prop := (v_ = none) ∧ (Fr n0 L_) ∧ (Keep h0 h [os, ts, ns]) ∧ (Arv Z h os ko (.object sOr) (64 : Int32) [va, (.ref xb), (.ref xb)] .null) ∧ (AJ Z h ts kt ta tb tb) ∧ (AJ Z h ns kn ua ub ub)
theorem sh_1_2_p (l : Launch) (Z : State) (a0 : Array Value) (hw : ∀ d ∈ tables_1, d.before a0 Z = true) (ws : List Jvm.Cond) (blk os ts ns : Nat) (ko kt kn : ClassId) (va : Value) (xb : Nat) (vc : Value) (ta tb tc ua ub uc : Int64) (h0 : Heap) (n0 : Nat) (Z0 : n0 ≤ h0.size) (G0 : Exa Z h0 blk sBk) (G1 : Fld Z h0 blk sBk "orders" dOs (.ref os)) (G2 : Fld Z h0 blk sBk "ticks" "[J" (.ref ts)) (G3 : Fld Z h0 blk sBk "numbers" "[J" (.ref ns)) (G4 : Arv Z h0 os ko (.object sOr) (64 : Int32) [va, (.ref xb), vc] .null) (G5 : Ovr Z ko sOr) (G6 : AJ Z h0 ts kt ta tb tc) (G7 : AJ Z h0 ns kn ua ub uc) (G8 : Exa Z h0 xb sOr) (G9 : n0 ≤ os) (G10 : n0 ≤ ts) (G11 : n0 ≤ ns) (G12 : blk ≠ os) (G13 : blk ≠ ts) (G14 : blk ≠ ns) (G15 : os ≠ ts) (G16 : os ≠ ns) (G17 : ts ≠ ns) :
    Con l Z y21 prog_28_method_5_code 6 none ws (Rm 1 0 0 14) #[(.ref blk), (.int (1 : Int32)), (.int (2 : Int32)), (.int (1 : Int32))] h0 (Q_sh_1_2_p Z blk os ts ns ko kt kn va xb vc ta tb tc ua ub uc h0 n0) := by
  refine Con.of (plainFor_of_name pn_21) fun p e s m below meth c s₁ hx hby hml hZ hown hnm hlk hret X0 e0 => ?_
  have N0 := Fr.nil n0
  have hc := And.intro hx hby
  have K0 := Keep.refl h0 [os, ts, ns]
  refine Comes.cast (ef_sh_1_2_p m blk) ?_
  have lt_blk : blk < h0.size := G0.lt
  have lt_os : os < h0.size := G4.lt
  have lt_ts : ts < h0.size := G6.lt
  have lt_ns : ns < h0.size := G7.lt
  have lt_xb : xb < h0.size := G8.lt
  refine cs (fun t k => xiloadN X0 hc d21_0 rfl (xiloadN X0 hc d21_1 rfl (xisub X0 hc d21_2 rfl k))) ?_
  show Comes p e below _ (s₁.setTop (mkF m 3 #[vr blk, vi (1 : Int32), vi (2 : Int32), vi (1 : Int32), U0, U0] [(.int ((2 : Int32) - (1 : Int32)))]))
  rw [show ((2 : Int32) - (1 : Int32)) = (1 : Int32) from by decide]
  refine cs (fun t k => xistore X0 hc d21_3 rfl rfl (xiload X0 hc d21_5 rfl (xiconst X0 hc d21_7 k))) ?_
  refine cs (fun t k => xicmpYes X0 hc 8 65 d21_8 rfl (flt dd).2.2.2 (xiloadN X0 hc d21_65 rfl k)) ?_
  refine cs (fun t k => xifNo X0 hc d21_66 rfl ((if0 _ _).trans (tlt dd).2.2.2) (xiloadN X0 hc d21_69 rfl (xiconst X0 hc d21_70 (xisub X0 hc d21_71 rfl k)))) ?_
  show Comes p e below _ (s₁.setTop (mkF m 72 #[vr blk, vi (1 : Int32), vi (2 : Int32), vi (1 : Int32), vi (1 : Int32), U0] [(.int ((2 : Int32) - (1 : Int32)))]))
  rw [show ((2 : Int32) - (1 : Int32)) = (1 : Int32) from by decide]
  refine cs (fun t k => xistore X0 hc d21_72 rfl rfl (xiload X0 hc d21_74 rfl (xiloadN X0 hc d21_76 rfl k))) ?_
  refine cs (fun t k => xicmpNo X0 hc d21_77 rfl (flt dd).1 (xaloadN X0 hc d21_80 rfl rfl (xiload X0 hc d21_81 rfl (xiload X0 hc d21_83 rfl (xiloadN X0 hc d21_85 rfl (xiadd X0 hc d21_86 rfl k)))))) ?_
  show Comes p e below _ (s₁.setTop (mkF m 87 #[vr blk, vi (1 : Int32), vi (2 : Int32), vi (1 : Int32), vi (1 : Int32), vi (1 : Int32)] [(.int ((1 : Int32) + (1 : Int32))), (.int (1 : Int32)), (.ref blk)]))
  rw [show ((1 : Int32) + (1 : Int32)) = (2 : Int32) from by decide]
  refine Comes.cP X0 hx hZ hown (y := y35) (W := 0) (W hw 234) (W hw 235) (W hw 132) (W hw 236) dd (W hw 237) (mv_1_2 l Z a0 hw [] blk os ts ns ko kt kn va xb vc ta tb tc ua ub uc h0 n0 (by omega)  G0 G1 G2 G3 G4 G5 G6 G7 G8 G9 G10 G11 G12 G13 G14 G15 G16 G17) G0 (W hw 133) dd dd e0 rfl (by rw [hml]; rfl) (argsL := [(.int (1 : Int32)), (.int (2 : Int32))]) (rest := []) (lenOf pd_6 rfl) rfl (wle rfl) (hb hby d21_87) rfl dd dd fun v4 T4 L4 hQ4 X4 => ?_
  obtain ⟨rfl, Nq4, Kq4, P4_0, P4_1, P4_2⟩ := hQ4
  have N4 := Fr.app N0 Nq4
  have z4k : h0.size ≤ T4.heap.size := Kq4.1
  have K4 := K0.trans Kq4 (allS (mE 0) (allS (mE 1) (allS (mE 2) all0)))
  refine cs (fun t k => XS.iinc X4.here hx rfl (hb hby d21_90) rfl rfl (xgoto X4 hc 93 74 d21_93 (xiload X4 hc d21_74 rfl (xiloadN X4 hc d21_76 rfl k)))) ?_
  refine cs (fun t k => xicmpYes X4 hc 77 96 d21_77 rfl (tlt dd).1 (xgoto X4 hc 96 124 d21_96 k)) ?_
  show Comes p e below _ (T4.setTop (mkF m 124 #[vr blk, vi (1 : Int32), vi (2 : Int32), vi (1 : Int32), vi (1 : Int32), vi (0 : Int32)] []))
  exact Comes.ret0 X4 hx hret hlk (hb hby d21_124) rfl ⟨rfl, N4, K4, P4_0, P4_1, P4_2⟩ dd dd
def Q_sh_2_2_p (Z : State) (blk os ts ns : Nat) (ko kt kn : ClassId) (va vb vc : Value) (ta tb tc ua ub uc : Int64) (h0 : Heap) (n0 : Nat) (v_ : Option Value) (h : Heap) (L_ : List Loc) : Prop := (v_ = none) ∧ (Fr n0 L_) ∧ (Keep h0 h [os, ts, ns]) ∧ (Arv Z h os ko (.object sOr) (64 : Int32) [va, vb, vc] .null) ∧ (AJ Z h ts kt ta tb tc) ∧ (AJ Z h ns kn ua ub uc)
theorem sh_2_2_p (l : Launch) (Z : State) (a0 : Array Value) (hw : ∀ d ∈ tables_1, d.before a0 Z = true) (ws : List Jvm.Cond) (blk os ts ns : Nat) (ko kt kn : ClassId) (va vb vc : Value) (ta tb tc ua ub uc : Int64) (h0 : Heap) (n0 : Nat) (Z0 : n0 ≤ h0.size) (G0 : Exa Z h0 blk sBk) (G1 : Fld Z h0 blk sBk "orders" dOs (.ref os)) (G2 : Fld Z h0 blk sBk "ticks" "[J" (.ref ts)) (G3 : Fld Z h0 blk sBk "numbers" "[J" (.ref ns)) (G4 : Arv Z h0 os ko (.object sOr) (64 : Int32) [va, vb, vc] .null) (G5 : Ovr Z ko sOr) (G6 : AJ Z h0 ts kt ta tb tc) (G7 : AJ Z h0 ns kn ua ub uc) (G8 : n0 ≤ os) (G9 : n0 ≤ ts) (G10 : n0 ≤ ns) (G11 : blk ≠ os) (G12 : blk ≠ ts) (G13 : blk ≠ ns) (G14 : os ≠ ts) (G15 : os ≠ ns) (G16 : ts ≠ ns) :
    Con l Z y21 prog_28_method_5_code 6 none ws (Rm 0 0 0 0) #[(.ref blk), (.int (2 : Int32)), (.int (2 : Int32)), (.int (1 : Int32))] h0 (Q_sh_2_2_p Z blk os ts ns ko kt kn va vb vc ta tb tc ua ub uc h0 n0) := by
  refine Con.of (plainFor_of_name pn_21) fun p e s m below meth c s₁ hx hby hml hZ hown hnm hlk hret X0 e0 => ?_
  have N0 := Fr.nil n0
  have hc := And.intro hx hby
  have K0 := Keep.refl h0 [os, ts, ns]
  refine Comes.cast (ef_sh_2_2_p m blk) ?_
  have lt_blk : blk < h0.size := G0.lt
  have lt_os : os < h0.size := G4.lt
  have lt_ts : ts < h0.size := G6.lt
  have lt_ns : ns < h0.size := G7.lt
  refine cs (fun t k => xiloadN X0 hc d21_0 rfl (xiloadN X0 hc d21_1 rfl (xisub X0 hc d21_2 rfl k))) ?_
  show Comes p e below _ (s₁.setTop (mkF m 3 #[vr blk, vi (2 : Int32), vi (2 : Int32), vi (1 : Int32), U0, U0] [(.int ((2 : Int32) - (2 : Int32)))]))
  rw [show ((2 : Int32) - (2 : Int32)) = (0 : Int32) from by decide]
  refine cs (fun t k => xistore X0 hc d21_3 rfl rfl (xiload X0 hc d21_5 rfl (xiconst X0 hc d21_7 k))) ?_
  refine cs (fun t k => xicmpYes X0 hc 8 65 d21_8 rfl (flt dd).2.2.2 (xiloadN X0 hc d21_65 rfl k)) ?_
  refine cs (fun t k => xifNo X0 hc d21_66 rfl ((if0 _ _).trans (tlt dd).2.2.2) (xiloadN X0 hc d21_69 rfl (xiconst X0 hc d21_70 (xisub X0 hc d21_71 rfl k)))) ?_
  show Comes p e below _ (s₁.setTop (mkF m 72 #[vr blk, vi (2 : Int32), vi (2 : Int32), vi (1 : Int32), vi (0 : Int32), U0] [(.int ((2 : Int32) - (1 : Int32)))]))
  rw [show ((2 : Int32) - (1 : Int32)) = (1 : Int32) from by decide]
  refine cs (fun t k => xistore X0 hc d21_72 rfl rfl (xiload X0 hc d21_74 rfl (xiloadN X0 hc d21_76 rfl k))) ?_
  refine cs (fun t k => xicmpYes X0 hc 77 96 d21_77 rfl (tlt dd).1 (xgoto X0 hc 96 124 d21_96 k)) ?_
  show Comes p e below _ (s₁.setTop (mkF m 124 #[vr blk, vi (2 : Int32), vi (2 : Int32), vi (1 : Int32), vi (0 : Int32), vi (1 : Int32)] []))
  exact Comes.ret0 X0 hx hret hlk (hb hby d21_124) e0 ⟨rfl, N0, K0, G4, G6, G7⟩ dd dd
def Q_sh_1_1_m (Z : State) (blk os ts ns : Nat) (ko kt kn : ClassId) (va vb vc : Value) (ta tb tc ua ub uc : Int64) (h0 : Heap) (n0 : Nat) (v_ : Option Value) (h : Heap) (L_ : List Loc) : Prop := (v_ = none) ∧ (Fr n0 L_) ∧ (Keep h0 h [os, ts, ns]) ∧ (Arv Z h os ko (.object sOr) (64 : Int32) [va, vb, vc] .null) ∧ (AJ Z h ts kt ta tb tc) ∧ (AJ Z h ns kn ua ub uc)
theorem sh_1_1_m (l : Launch) (Z : State) (a0 : Array Value) (hw : ∀ d ∈ tables_1, d.before a0 Z = true) (ws : List Jvm.Cond) (blk os ts ns : Nat) (ko kt kn : ClassId) (va vb vc : Value) (ta tb tc ua ub uc : Int64) (h0 : Heap) (n0 : Nat) (Z0 : n0 ≤ h0.size) (G0 : Exa Z h0 blk sBk) (G1 : Fld Z h0 blk sBk "orders" dOs (.ref os)) (G2 : Fld Z h0 blk sBk "ticks" "[J" (.ref ts)) (G3 : Fld Z h0 blk sBk "numbers" "[J" (.ref ns)) (G4 : Arv Z h0 os ko (.object sOr) (64 : Int32) [va, vb, vc] .null) (G5 : Ovr Z ko sOr) (G6 : AJ Z h0 ts kt ta tb tc) (G7 : AJ Z h0 ns kn ua ub uc) (G8 : n0 ≤ os) (G9 : n0 ≤ ts) (G10 : n0 ≤ ns) (G11 : blk ≠ os) (G12 : blk ≠ ts) (G13 : blk ≠ ns) (G14 : os ≠ ts) (G15 : os ≠ ns) (G16 : ts ≠ ns) :
    Con l Z y21 prog_28_method_5_code 6 none ws (Rm 0 0 0 0) #[(.ref blk), (.int (1 : Int32)), (.int (1 : Int32)), (.int (-1 : Int32))] h0 (Q_sh_1_1_m Z blk os ts ns ko kt kn va vb vc ta tb tc ua ub uc h0 n0) := by
  refine Con.of (plainFor_of_name pn_21) fun p e s m below meth c s₁ hx hby hml hZ hown hnm hlk hret X0 e0 => ?_
  have N0 := Fr.nil n0
  have hc := And.intro hx hby
  have K0 := Keep.refl h0 [os, ts, ns]
  refine Comes.cast (ef_sh_1_1_m m blk) ?_
  have lt_blk : blk < h0.size := G0.lt
  have lt_os : os < h0.size := G4.lt
  have lt_ts : ts < h0.size := G6.lt
  have lt_ns : ns < h0.size := G7.lt
  refine cs (fun t k => xiloadN X0 hc d21_0 rfl (xiloadN X0 hc d21_1 rfl (xisub X0 hc d21_2 rfl k))) ?_
  show Comes p e below _ (s₁.setTop (mkF m 3 #[vr blk, vi (1 : Int32), vi (1 : Int32), vi (-1 : Int32), U0, U0] [(.int ((1 : Int32) - (1 : Int32)))]))
  rw [show ((1 : Int32) - (1 : Int32)) = (0 : Int32) from by decide]
  refine cs (fun t k => xistore X0 hc d21_3 rfl rfl (xiload X0 hc d21_5 rfl (xiconst X0 hc d21_7 k))) ?_
  refine cs (fun t k => xicmpYes X0 hc 8 65 d21_8 rfl (flt dd).2.2.2 (xiloadN X0 hc d21_65 rfl k)) ?_
  refine cs (fun t k => xifYes X0 hc 66 99 d21_66 rfl ((if0 _ _).trans (flt dd).2.2.2) (xiloadN X0 hc d21_99 rfl (xistore X0 hc d21_100 rfl rfl (xiload X0 hc d21_102 rfl (xiloadN X0 hc d21_104 rfl k))))) ?_
  show Comes p e below _ (s₁.setTop (mkF m 105 #[vr blk, vi (1 : Int32), vi (1 : Int32), vi (-1 : Int32), vi (0 : Int32), vi (1 : Int32)] [(.int (1 : Int32)), (.int (1 : Int32))]))
  refine cs (fun t k => xicmpYes X0 hc 105 124 d21_105 rfl (flt dd).2.1 k) ?_
  show Comes p e below _ (s₁.setTop (mkF m 124 #[vr blk, vi (1 : Int32), vi (1 : Int32), vi (-1 : Int32), vi (0 : Int32), vi (1 : Int32)] []))
  exact Comes.ret0 X0 hx hret hlk (hb hby d21_124) e0 ⟨rfl, N0, K0, G4, G6, G7⟩ dd dd
def Q_sh_1_2_m (Z : State) (blk os ts ns : Nat) (ko kt kn : ClassId) (va : Value) (xb : Nat) (vc : Value) (ta tb tc ua ub uc : Int64) (h0 : Heap) (n0 : Nat) (v_ : Option Value) (h : Heap) (L_ : List Loc) : Prop := (v_ = none) ∧ (Fr n0 L_) ∧ (Keep h0 h [os, ts, ns]) ∧ (Arv Z h os ko (.object sOr) (64 : Int32) [(.ref xb), (.ref xb), vc] .null) ∧ (AJ Z h ts kt tb tb tc) ∧ (AJ Z h ns kn ub ub uc)
theorem sh_1_2_m (l : Launch) (Z : State) (a0 : Array Value) (hw : ∀ d ∈ tables_1, d.before a0 Z = true) (ws : List Jvm.Cond) (blk os ts ns : Nat) (ko kt kn : ClassId) (va : Value) (xb : Nat) (vc : Value) (ta tb tc ua ub uc : Int64) (h0 : Heap) (n0 : Nat) (Z0 : n0 ≤ h0.size) (G0 : Exa Z h0 blk sBk) (G1 : Fld Z h0 blk sBk "orders" dOs (.ref os)) (G2 : Fld Z h0 blk sBk "ticks" "[J" (.ref ts)) (G3 : Fld Z h0 blk sBk "numbers" "[J" (.ref ns)) (G4 : Arv Z h0 os ko (.object sOr) (64 : Int32) [va, (.ref xb), vc] .null) (G5 : Ovr Z ko sOr) (G6 : AJ Z h0 ts kt ta tb tc) (G7 : AJ Z h0 ns kn ua ub uc) (G8 : Exa Z h0 xb sOr) (G9 : n0 ≤ os) (G10 : n0 ≤ ts) (G11 : n0 ≤ ns) (G12 : blk ≠ os) (G13 : blk ≠ ts) (G14 : blk ≠ ns) (G15 : os ≠ ts) (G16 : os ≠ ns) (G17 : ts ≠ ns) :
    Con l Z y21 prog_28_method_5_code 6 none ws (Rm 1 0 0 14) #[(.ref blk), (.int (1 : Int32)), (.int (2 : Int32)), (.int (-1 : Int32))] h0 (Q_sh_1_2_m Z blk os ts ns ko kt kn va xb vc ta tb tc ua ub uc h0 n0) := by
  refine Con.of (plainFor_of_name pn_21) fun p e s m below meth c s₁ hx hby hml hZ hown hnm hlk hret X0 e0 => ?_
  have N0 := Fr.nil n0
  have hc := And.intro hx hby
  have K0 := Keep.refl h0 [os, ts, ns]
  refine Comes.cast (ef_sh_1_2_m m blk) ?_
  have lt_blk : blk < h0.size := G0.lt
  have lt_os : os < h0.size := G4.lt
  have lt_ts : ts < h0.size := G6.lt
  have lt_ns : ns < h0.size := G7.lt
  have lt_xb : xb < h0.size := G8.lt
  refine cs (fun t k => xiloadN X0 hc d21_0 rfl (xiloadN X0 hc d21_1 rfl (xisub X0 hc d21_2 rfl k))) ?_
  show Comes p e below _ (s₁.setTop (mkF m 3 #[vr blk, vi (1 : Int32), vi (2 : Int32), vi (-1 : Int32), U0, U0] [(.int ((2 : Int32) - (1 : Int32)))]))
  rw [show ((2 : Int32) - (1 : Int32)) = (1 : Int32) from by decide]
  refine cs (fun t k => xistore X0 hc d21_3 rfl rfl (xiload X0 hc d21_5 rfl (xiconst X0 hc d21_7 k))) ?_
  refine cs (fun t k => xicmpYes X0 hc 8 65 d21_8 rfl (flt dd).2.2.2 (xiloadN X0 hc d21_65 rfl k)) ?_
  refine cs (fun t k => xifYes X0 hc 66 99 d21_66 rfl ((if0 _ _).trans (flt dd).2.2.2) (xiloadN X0 hc d21_99 rfl (xistore X0 hc d21_100 rfl rfl (xiload X0 hc d21_102 rfl (xiloadN X0 hc d21_104 rfl k))))) ?_
  show Comes p e below _ (s₁.setTop (mkF m 105 #[vr blk, vi (1 : Int32), vi (2 : Int32), vi (-1 : Int32), vi (1 : Int32), vi (1 : Int32)] [(.int (2 : Int32)), (.int (1 : Int32))]))
  refine cs (fun t k => xicmpNo X0 hc d21_105 rfl (tlt dd).2.1 (xaloadN X0 hc d21_108 rfl rfl (xiload X0 hc d21_109 rfl (xiload X0 hc d21_111 rfl (xiloadN X0 hc d21_113 rfl (xiadd X0 hc d21_114 rfl k)))))) ?_
  show Comes p e below _ (s₁.setTop (mkF m 115 #[vr blk, vi (1 : Int32), vi (2 : Int32), vi (-1 : Int32), vi (1 : Int32), vi (1 : Int32)] [(.int ((1 : Int32) + (-1 : Int32))), (.int (1 : Int32)), (.ref blk)]))
  rw [show ((1 : Int32) + (-1 : Int32)) = (0 : Int32) from by decide]
  refine Comes.cP X0 hx hZ hown (y := y35) (W := 0) (W hw 234) (W hw 235) (W hw 132) (W hw 236) dd (W hw 237) (mv_1_0 l Z a0 hw [] blk os ts ns ko kt kn va xb vc ta tb tc ua ub uc h0 n0 (by omega)  G0 G1 G2 G3 G4 G5 G6 G7 G8 G9 G10 G11 G12 G13 G14 G15 G16 G17) G0 (W hw 133) dd dd e0 rfl (by rw [hml]; rfl) (argsL := [(.int (1 : Int32)), (.int (0 : Int32))]) (rest := []) (lenOf pd_6 rfl) rfl (wle rfl) (hb hby d21_115) rfl dd dd fun v4 T4 L4 hQ4 X4 => ?_
  obtain ⟨rfl, Nq4, Kq4, P4_0, P4_1, P4_2⟩ := hQ4
  have N4 := Fr.app N0 Nq4
  have z4k : h0.size ≤ T4.heap.size := Kq4.1
  have K4 := K0.trans Kq4 (allS (mE 0) (allS (mE 1) (allS (mE 2) all0)))
  refine cs (fun t k => XS.iinc X4.here hx rfl (hb hby d21_118) rfl rfl (xgoto X4 hc 121 102 d21_121 (xiload X4 hc d21_102 rfl (xiloadN X4 hc d21_104 rfl k)))) ?_
  refine cs (fun t k => xicmpYes X4 hc 105 124 d21_105 rfl (flt dd).2.1 k) ?_
  show Comes p e below _ (T4.setTop (mkF m 124 #[vr blk, vi (1 : Int32), vi (2 : Int32), vi (-1 : Int32), vi (1 : Int32), vi (2 : Int32)] []))
  exact Comes.ret0 X4 hx hret hlk (hb hby d21_124) rfl ⟨rfl, N4, K4, P4_0, P4_1, P4_2⟩ dd dd
def Q_sh_1_3_m (Z : State) (blk os ts ns : Nat) (ko kt kn : ClassId) (va : Value) (xb xc : Nat) (ta tb tc ua ub uc : Int64) (h0 : Heap) (n0 : Nat) (v_ : Option Value) (h : Heap) (L_ : List Loc) : Prop := (v_ = none) ∧ (Fr n0 L_) ∧ (Keep h0 h [os, ts, ns]) ∧ (Arv Z h os ko (.object sOr) (64 : Int32) [(.ref xb), (.ref xc), (.ref xc)] .null) ∧ (AJ Z h ts kt tb tc tc) ∧ (AJ Z h ns kn ub uc uc)
theorem sh_1_3_m (l : Launch) (Z : State) (a0 : Array Value) (hw : ∀ d ∈ tables_1, d.before a0 Z = true) (ws : List Jvm.Cond) (blk os ts ns : Nat) (ko kt kn : ClassId) (va : Value) (xb xc : Nat) (ta tb tc ua ub uc : Int64) (h0 : Heap) (n0 : Nat) (Z0 : n0 ≤ h0.size) (G0 : Exa Z h0 blk sBk) (G1 : Fld Z h0 blk sBk "orders" dOs (.ref os)) (G2 : Fld Z h0 blk sBk "ticks" "[J" (.ref ts)) (G3 : Fld Z h0 blk sBk "numbers" "[J" (.ref ns)) (G4 : Arv Z h0 os ko (.object sOr) (64 : Int32) [va, (.ref xb), (.ref xc)] .null) (G5 : Ovr Z ko sOr) (G6 : AJ Z h0 ts kt ta tb tc) (G7 : AJ Z h0 ns kn ua ub uc) (G8 : Exa Z h0 xb sOr) (G9 : Exa Z h0 xc sOr) (G10 : n0 ≤ os) (G11 : n0 ≤ ts) (G12 : n0 ≤ ns) (G13 : blk ≠ os) (G14 : blk ≠ ts) (G15 : blk ≠ ns) (G16 : os ≠ ts) (G17 : os ≠ ns) (G18 : ts ≠ ns) :
    Con l Z y21 prog_28_method_5_code 6 none ws (Rm 1 0 0 14) #[(.ref blk), (.int (1 : Int32)), (.int (3 : Int32)), (.int (-1 : Int32))] h0 (Q_sh_1_3_m Z blk os ts ns ko kt kn va xb xc ta tb tc ua ub uc h0 n0) := by
  refine Con.of (plainFor_of_name pn_21) fun p e s m below meth c s₁ hx hby hml hZ hown hnm hlk hret X0 e0 => ?_
  have N0 := Fr.nil n0
  have hc := And.intro hx hby
  have K0 := Keep.refl h0 [os, ts, ns]
  refine Comes.cast (ef_sh_1_3_m m blk) ?_
  have lt_blk : blk < h0.size := G0.lt
  have lt_os : os < h0.size := G4.lt
  have lt_ts : ts < h0.size := G6.lt
  have lt_ns : ns < h0.size := G7.lt
  have lt_xb : xb < h0.size := G8.lt
  have lt_xc : xc < h0.size := G9.lt
  refine cs (fun t k => xiloadN X0 hc d21_0 rfl (xiloadN X0 hc d21_1 rfl (xisub X0 hc d21_2 rfl k))) ?_
  show Comes p e below _ (s₁.setTop (mkF m 3 #[vr blk, vi (1 : Int32), vi (3 : Int32), vi (-1 : Int32), U0, U0] [(.int ((3 : Int32) - (1 : Int32)))]))
  rw [show ((3 : Int32) - (1 : Int32)) = (2 : Int32) from by decide]
  refine cs (fun t k => xistore X0 hc d21_3 rfl rfl (xiload X0 hc d21_5 rfl (xiconst X0 hc d21_7 k))) ?_
  refine cs (fun t k => xicmpYes X0 hc 8 65 d21_8 rfl (flt dd).2.2.2 (xiloadN X0 hc d21_65 rfl k)) ?_
  refine cs (fun t k => xifYes X0 hc 66 99 d21_66 rfl ((if0 _ _).trans (flt dd).2.2.2) (xiloadN X0 hc d21_99 rfl (xistore X0 hc d21_100 rfl rfl (xiload X0 hc d21_102 rfl (xiloadN X0 hc d21_104 rfl k))))) ?_
  show Comes p e below _ (s₁.setTop (mkF m 105 #[vr blk, vi (1 : Int32), vi (3 : Int32), vi (-1 : Int32), vi (2 : Int32), vi (1 : Int32)] [(.int (3 : Int32)), (.int (1 : Int32))]))
  refine cs (fun t k => xicmpNo X0 hc d21_105 rfl (tlt dd).2.1 (xaloadN X0 hc d21_108 rfl rfl (xiload X0 hc d21_109 rfl (xiload X0 hc d21_111 rfl (xiloadN X0 hc d21_113 rfl (xiadd X0 hc d21_114 rfl k)))))) ?_
  show Comes p e below _ (s₁.setTop (mkF m 115 #[vr blk, vi (1 : Int32), vi (3 : Int32), vi (-1 : Int32), vi (2 : Int32), vi (1 : Int32)] [(.int ((1 : Int32) + (-1 : Int32))), (.int (1 : Int32)), (.ref blk)]))
  rw [show ((1 : Int32) + (-1 : Int32)) = (0 : Int32) from by decide]
  refine Comes.cP X0 hx hZ hown (y := y35) (W := 0) (W hw 234) (W hw 235) (W hw 132) (W hw 236) dd (W hw 237) (mv_1_0 l Z a0 hw [] blk os ts ns ko kt kn va xb ((.ref xc)) ta tb tc ua ub uc h0 n0 (by omega)  G0 G1 G2 G3 G4 G5 G6 G7 G8 G10 G11 G12 G13 G14 G15 G16 G17 G18) G0 (W hw 133) dd dd e0 rfl (by rw [hml]; rfl) (argsL := [(.int (1 : Int32)), (.int (0 : Int32))]) (rest := []) (lenOf pd_6 rfl) rfl (wle rfl) (hb hby d21_115) rfl dd dd fun v4 T4 L4 hQ4 X4 => ?_
  obtain ⟨rfl, Nq4, Kq4, P4_0, P4_1, P4_2⟩ := hQ4
  have N4 := Fr.app N0 Nq4
  have z4k : h0.size ≤ T4.heap.size := Kq4.1
  have K4 := K0.trans Kq4 (allS (mE 0) (allS (mE 1) (allS (mE 2) all0)))
  refine cs (fun t k => XS.iinc X4.here hx rfl (hb hby d21_118) rfl rfl (xgoto X4 hc 121 102 d21_121 (xiload X4 hc d21_102 rfl (xiloadN X4 hc d21_104 rfl k)))) ?_
  refine cs (fun t k => xicmpNo X4 hc d21_105 rfl (tlt dd).2.1 (xaloadN X4 hc d21_108 rfl rfl (xiload X4 hc d21_109 rfl (xiload X4 hc d21_111 rfl (xiloadN X4 hc d21_113 rfl (xiadd X4 hc d21_114 rfl k)))))) ?_
  show Comes p e below _ (T4.setTop (mkF m 115 #[vr blk, vi (1 : Int32), vi (3 : Int32), vi (-1 : Int32), vi (2 : Int32), vi (2 : Int32)] [(.int ((2 : Int32) + (-1 : Int32))), (.int (2 : Int32)), (.ref blk)]))
  rw [show ((2 : Int32) + (-1 : Int32)) = (1 : Int32) from by decide]
  have F6 := (G0.keep Kq4)
  have ni7 := ninS G13 (ninS G14 (ninS G15 nin0))
  have F8 := (G1.keep Kq4 ni7)
  have F9 := (G2.keep Kq4 ni7)
  have F10 := (G3.keep Kq4 ni7)
  have F11 := (G9.keep Kq4)
  refine Comes.cP X4 hx hZ hown (y := y35) (W := 0) (W hw 234) (W hw 235) (W hw 132) (W hw 236) dd (W hw 237) (mv_2_1 l Z a0 hw [] blk os ts ns ko kt kn ((.ref xb)) ((.ref xb)) xc tb tb tc ub ub uc T4.heap n0 (by omega)  F6 F8 F9 F10 P4_0 G5 P4_1 P4_2 F11 G10 G11 G12 G13 G14 G15 G16 G17 G18) F6 (W hw 133) dd dd rfl rfl (by rw [hml]; rfl) (argsL := [(.int (2 : Int32)), (.int (1 : Int32))]) (rest := []) (lenOf pd_6 rfl) rfl (wle rfl) (hb hby d21_115) rfl dd dd fun v12 T12 L12 hQ12 X12 => ?_
  obtain ⟨rfl, Nq12, Kq12, P12_0, P12_1, P12_2⟩ := hQ12
  have N12 := Fr.app N4 Nq12
  have z12k : T4.heap.size ≤ T12.heap.size := Kq12.1
  have K12 := K4.trans Kq12 (allS (mE 0) (allS (mE 1) (allS (mE 2) all0)))
  refine cs (fun t k => XS.iinc X12.here hx rfl (hb hby d21_118) rfl rfl (xgoto X12 hc 121 102 d21_121 (xiload X12 hc d21_102 rfl (xiloadN X12 hc d21_104 rfl k)))) ?_
  refine cs (fun t k => xicmpYes X12 hc 105 124 d21_105 rfl (flt dd).2.1 k) ?_
  show Comes p e below _ (T12.setTop (mkF m 124 #[vr blk, vi (1 : Int32), vi (3 : Int32), vi (-1 : Int32), vi (2 : Int32), vi (3 : Int32)] []))
  exact Comes.ret0 X12 hx hret hlk (hb hby d21_124) rfl ⟨rfl, N12, K12, P12_0, P12_1, P12_2⟩ dd dd
def Q_open_0_0 (Z : State) (blk os ts ns : Nat) (ko kt kn : ClassId) (va vb vc : Value) (ta tb tc ua ub uc : Int64) (h0 : Heap) (n0 : Nat) (v_ : Option Value) (h : Heap) (L_ : List Loc) : Prop := (v_ = none) ∧ (Fr n0 L_) ∧ (Keep h0 h [blk, os, ts, ns]) ∧ (Exa Z h blk sBk) ∧ (Fld Z h blk sBk "orders" dOs (.ref os)) ∧ (Fld Z h blk sBk "ticks" "[J" (.ref ts)) ∧ (Fld Z h blk sBk "numbers" "[J" (.ref ns)) ∧ (Fld Z h blk sBk "size" "I" (.int (1 : Int32))) ∧ (Arv Z h os ko (.object sOr) (64 : Int32) [va, vb, vc] .null) ∧ (AJ Z h ts kt ta tb tc) ∧ (AJ Z h ns kn ua ub uc)
theorem open_0_0 (l : Launch) (Z : State) (a0 : Array Value) (hw : ∀ d ∈ tables_1, d.before a0 Z = true) (ws : List Jvm.Cond) (blk os ts ns : Nat) (ko kt kn : ClassId) (va vb vc : Value) (ta tb tc ua ub uc : Int64) (h0 : Heap) (n0 : Nat) (Z0 : n0 ≤ h0.size) (G0 : Exa Z h0 blk sBk) (G1 : Fld Z h0 blk sBk "orders" dOs (.ref os)) (G2 : Fld Z h0 blk sBk "ticks" "[J" (.ref ts)) (G3 : Fld Z h0 blk sBk "numbers" "[J" (.ref ns)) (G4 : Fld Z h0 blk sBk "size" "I" (.int (0 : Int32))) (G5 : Arv Z h0 os ko (.object sOr) (64 : Int32) [va, vb, vc] .null) (G6 : Ovr Z ko sOr) (G7 : AJ Z h0 ts kt ta tb tc) (G8 : AJ Z h0 ns kn ua ub uc) (G9 : n0 ≤ blk) (G10 : n0 ≤ os) (G11 : n0 ≤ ts) (G12 : n0 ≤ ns) (G13 : blk ≠ os) (G14 : blk ≠ ts) (G15 : blk ≠ ns) (G16 : os ≠ ts) (G17 : os ≠ ns) (G18 : ts ≠ ns) :
    Con l Z y20 prog_28_method_2_code 2 none ws (Rm 1 0 0 17) #[(.ref blk), (.int (0 : Int32))] h0 (Q_open_0_0 Z blk os ts ns ko kt kn va vb vc ta tb tc ua ub uc h0 n0) := by
  refine Con.of (plainFor_of_name pn_20) fun p e s m below meth c s₁ hx hby hml hZ hown hnm hlk hret X0 e0 => ?_
  have N0 := Fr.nil n0
  have hc := And.intro hx hby
  have K0 := Keep.refl h0 [blk, os, ts, ns]
  refine Comes.cast (ef_open_0_0 m blk) ?_
  have lt_blk : blk < h0.size := G0.lt
  have lt_os : os < h0.size := G5.lt
  have lt_ts : ts < h0.size := G7.lt
  have lt_ns : ns < h0.size := G8.lt
  refine cs (fun t k => xaloadN X0 hc d20_0 rfl rfl (xiloadN X0 hc d20_1 rfl (xaloadN X0 hc d20_2 rfl rfl k))) ?_
  refine Comes.gF X0 hx hZ hown (host := "") (Or.inl (W hw 165)) Via.refl e0 G4 rfl rfl (hb hby d20_3) fun T1 X1 e1 => ?_
  refine cs (fun t k => xiconst X1 hc d20_6 k) ?_
  refine Comes.cV X1 hx hZ hown (y := y21) (W := 0) (W hw 166) (W hw 167) (W hw 169) (W hw 168) dd (W hw 170) (sh_0_0_p l Z a0 hw [] blk os ts ns ko kt kn va vb vc ta tb tc ua ub uc h0 n0 (by omega)  G0 G1 G2 G3 G5 G6 G7 G8 G10 G11 G12 G13 G14 G15 G16 G17 G18) G0 (W hw 133) dd dd e1 rfl (by rw [hml]; rfl) (argsL := [(.int (0 : Int32)), (.int (0 : Int32)), (.int (1 : Int32))]) (rest := []) (lenOf pd_7 rfl) rfl (wle rfl) (hb hby d20_7) rfl dd dd fun v2 T2 L2 hQ2 X2 => ?_
  obtain ⟨rfl, Nq2, Kq2, P2_0, P2_1, P2_2⟩ := hQ2
  have N2 := Fr.app N0 Nq2
  have z2k : h0.size ≤ T2.heap.size := Kq2.1
  have K2 := K0.trans Kq2 (allS (mE 1) (allS (mE 2) (allS (mE 3) all0)))
  refine cs (fun t k => xaloadN X2 hc d20_10 rfl rfl (XS.dup X2.here hx rfl (hb hby d20_11) rfl rfl k)) ?_
  show Comes p e below _ (T2.setTop (mkF m 12 #[vr blk, vi (0 : Int32)] [(.ref blk), (.ref blk)]))
  have ni3 := ninS G13 (ninS G14 (ninS G15 nin0))
  have F4 := (G4.keep Kq2 ni3)
  refine Comes.gF X2 hx hZ hown (host := "") (Or.inl (W hw 165)) Via.refl rfl F4 rfl rfl (hb hby d20_12) fun T5 X5 e5 => ?_
  refine cs (fun t k => xiconst X5 hc d20_15 (xiadd X5 hc d20_16 rfl k)) ?_
  show Comes p e below _ (T5.setTop (mkF m 17 #[vr blk, vi (0 : Int32)] [(.int ((0 : Int32) + (1 : Int32))), (.ref blk)]))
  rw [show ((0 : Int32) + (1 : Int32)) = (1 : Int32) from by decide]
  have F6 := (G0.keep Kq2)
  refine Comes.pF X5 hx hZ hown (host := "") (Or.inl (W hw 165)) Via.refl e5 F4 F6 (Or.inl (W hw 155)) (W hw 132) (ty := .int) dd rfl rfl rfl rfl (hb hby d20_17) fun T7 h7 X7 e7 W7 Fw7 => ?_
  have z7 : h7.size = T2.heap.size := W7.size
  have N7 := Fr.snoc X7 N2 G9
  have K7 := K2.wr W7 (mE 0)
  show Comes p e below _ (T7.setTop (mkF m 20 #[vr blk, vi (0 : Int32)] []))
  have F8 := (F6.wr W7)
  have F9 := ((G1.keep Kq2 ni3).other W7 (Or.inr (slot_ne (Or.inr (W hw 140)) (Or.inl (W hw 155)) dd (t := (.array (.object sOr))) (t' := .int) dd dd)))
  have F10 := ((G2.keep Kq2 ni3).other W7 (Or.inr (slot_ne (Or.inr (W hw 142)) (Or.inl (W hw 155)) dd (t := (.array .long)) (t' := .int) dd dd)))
  have F11 := ((G3.keep Kq2 ni3).other W7 (Or.inr (slot_ne (Or.inr (W hw 144)) (Or.inl (W hw 155)) dd (t := (.array .long)) (t' := .int) dd dd)))
  have F12 := (P2_0.other W7 (Ne.symm G13))
  have F13 := (P2_1.other W7 (Ne.symm G14))
  have F14 := (P2_2.other W7 (Ne.symm G15))
  exact Comes.ret0 X7 hx hret hlk (hb hby d20_20) e7 ⟨rfl, N7, K7, F8, F9, F10, F11, Fw7, F12, F13, F14⟩ dd dd
def Q_open_1_0 (Z : State) (blk os ts ns : Nat) (ko kt kn : ClassId) (xa : Nat) (vb vc : Value) (ta tb tc ua ub uc : Int64) (h0 : Heap) (n0 : Nat) (v_ : Option Value) (h : Heap) (L_ : List Loc) : Prop := (v_ = none) ∧ (Fr n0 L_) ∧ (Keep h0 h [blk, os, ts, ns]) ∧ (Exa Z h blk sBk) ∧ (Fld Z h blk sBk "orders" dOs (.ref os)) ∧ (Fld Z h blk sBk "ticks" "[J" (.ref ts)) ∧ (Fld Z h blk sBk "numbers" "[J" (.ref ns)) ∧ (Fld Z h blk sBk "size" "I" (.int (2 : Int32))) ∧ (Arv Z h os ko (.object sOr) (64 : Int32) [(.ref xa), (.ref xa), vc] .null) ∧ (AJ Z h ts kt ta ta tc) ∧ (AJ Z h ns kn ua ua uc)
theorem open_1_0 (l : Launch) (Z : State) (a0 : Array Value) (hw : ∀ d ∈ tables_1, d.before a0 Z = true) (ws : List Jvm.Cond) (blk os ts ns : Nat) (ko kt kn : ClassId) (xa : Nat) (vb vc : Value) (ta tb tc ua ub uc : Int64) (h0 : Heap) (n0 : Nat) (Z0 : n0 ≤ h0.size) (G0 : Exa Z h0 blk sBk) (G1 : Fld Z h0 blk sBk "orders" dOs (.ref os)) (G2 : Fld Z h0 blk sBk "ticks" "[J" (.ref ts)) (G3 : Fld Z h0 blk sBk "numbers" "[J" (.ref ns)) (G4 : Fld Z h0 blk sBk "size" "I" (.int (1 : Int32))) (G5 : Arv Z h0 os ko (.object sOr) (64 : Int32) [(.ref xa), vb, vc] .null) (G6 : Ovr Z ko sOr) (G7 : AJ Z h0 ts kt ta tb tc) (G8 : AJ Z h0 ns kn ua ub uc) (G9 : Exa Z h0 xa sOr) (G10 : n0 ≤ blk) (G11 : n0 ≤ os) (G12 : n0 ≤ ts) (G13 : n0 ≤ ns) (G14 : blk ≠ os) (G15 : blk ≠ ts) (G16 : blk ≠ ns) (G17 : os ≠ ts) (G18 : os ≠ ns) (G19 : ts ≠ ns) :
    Con l Z y20 prog_28_method_2_code 2 none ws (Rm 2 0 0 31) #[(.ref blk), (.int (0 : Int32))] h0 (Q_open_1_0 Z blk os ts ns ko kt kn xa vb vc ta tb tc ua ub uc h0 n0) := by
  refine Con.of (plainFor_of_name pn_20) fun p e s m below meth c s₁ hx hby hml hZ hown hnm hlk hret X0 e0 => ?_
  have N0 := Fr.nil n0
  have hc := And.intro hx hby
  have K0 := Keep.refl h0 [blk, os, ts, ns]
  refine Comes.cast (ef_open_0_0 m blk) ?_
  have lt_blk : blk < h0.size := G0.lt
  have lt_os : os < h0.size := G5.lt
  have lt_ts : ts < h0.size := G7.lt
  have lt_ns : ns < h0.size := G8.lt
  have lt_xa : xa < h0.size := G9.lt
  refine cs (fun t k => xaloadN X0 hc d20_0 rfl rfl (xiloadN X0 hc d20_1 rfl (xaloadN X0 hc d20_2 rfl rfl k))) ?_
  refine Comes.gF X0 hx hZ hown (host := "") (Or.inl (W hw 165)) Via.refl e0 G4 rfl rfl (hb hby d20_3) fun T1 X1 e1 => ?_
  refine cs (fun t k => xiconst X1 hc d20_6 k) ?_
  refine Comes.cV X1 hx hZ hown (y := y21) (W := 0) (W hw 166) (W hw 167) (W hw 169) (W hw 168) dd (W hw 170) (sh_0_1_p l Z a0 hw [] blk os ts ns ko kt kn xa vb vc ta tb tc ua ub uc h0 n0 (by omega)  G0 G1 G2 G3 G5 G6 G7 G8 G9 G11 G12 G13 G14 G15 G16 G17 G18 G19) G0 (W hw 133) dd dd e1 rfl (by rw [hml]; rfl) (argsL := [(.int (0 : Int32)), (.int (1 : Int32)), (.int (1 : Int32))]) (rest := []) (lenOf pd_7 rfl) rfl (wle rfl) (hb hby d20_7) rfl dd dd fun v2 T2 L2 hQ2 X2 => ?_
  obtain ⟨rfl, Nq2, Kq2, P2_0, P2_1, P2_2⟩ := hQ2
  have N2 := Fr.app N0 Nq2
  have z2k : h0.size ≤ T2.heap.size := Kq2.1
  have K2 := K0.trans Kq2 (allS (mE 1) (allS (mE 2) (allS (mE 3) all0)))
  refine cs (fun t k => xaloadN X2 hc d20_10 rfl rfl (XS.dup X2.here hx rfl (hb hby d20_11) rfl rfl k)) ?_
  show Comes p e below _ (T2.setTop (mkF m 12 #[vr blk, vi (0 : Int32)] [(.ref blk), (.ref blk)]))
  have ni3 := ninS G14 (ninS G15 (ninS G16 nin0))
  have F4 := (G4.keep Kq2 ni3)
  refine Comes.gF X2 hx hZ hown (host := "") (Or.inl (W hw 165)) Via.refl rfl F4 rfl rfl (hb hby d20_12) fun T5 X5 e5 => ?_
  refine cs (fun t k => xiconst X5 hc d20_15 (xiadd X5 hc d20_16 rfl k)) ?_
  show Comes p e below _ (T5.setTop (mkF m 17 #[vr blk, vi (0 : Int32)] [(.int ((1 : Int32) + (1 : Int32))), (.ref blk)]))
  rw [show ((1 : Int32) + (1 : Int32)) = (2 : Int32) from by decide]
  have F6 := (G0.keep Kq2)
  refine Comes.pF X5 hx hZ hown (host := "") (Or.inl (W hw 165)) Via.refl e5 F4 F6 (Or.inl (W hw 155)) (W hw 132) (ty := .int) dd rfl rfl rfl rfl (hb hby d20_17) fun T7 h7 X7 e7 W7 Fw7 => ?_
  have z7 : h7.size = T2.heap.size := W7.size
  have N7 := Fr.snoc X7 N2 G10
  have K7 := K2.wr W7 (mE 0)
  show Comes p e below _ (T7.setTop (mkF m 20 #[vr blk, vi (0 : Int32)] []))
  have F8 := (F6.wr W7)
  have F9 := ((G1.keep Kq2 ni3).other W7 (Or.inr (slot_ne (Or.inr (W hw 140)) (Or.inl (W hw 155)) dd (t := (.array (.object sOr))) (t' := .int) dd dd)))
  have F10 := ((G2.keep Kq2 ni3).other W7 (Or.inr (slot_ne (Or.inr (W hw 142)) (Or.inl (W hw 155)) dd (t := (.array .long)) (t' := .int) dd dd)))
  have F11 := ((G3.keep Kq2 ni3).other W7 (Or.inr (slot_ne (Or.inr (W hw 144)) (Or.inl (W hw 155)) dd (t := (.array .long)) (t' := .int) dd dd)))
  have F12 := (P2_0.other W7 (Ne.symm G14))
  have F13 := (P2_1.other W7 (Ne.symm G15))
  have F14 := (P2_2.other W7 (Ne.symm G16))
  exact Comes.ret0 X7 hx hret hlk (hb hby d20_20) e7 ⟨rfl, N7, K7, F8, F9, F10, F11, Fw7, F12, F13, F14⟩ dd dd
def Q_open_1_1 (Z : State) (blk os ts ns : Nat) (ko kt kn : ClassId) (va vb vc : Value) (ta tb tc ua ub uc : Int64) (h0 : Heap) (n0 : Nat) (v_ : Option Value) (h : Heap) (L_ : List Loc) : Prop := (v_ = none) ∧ (Fr n0 L_) ∧ (Keep h0 h [blk, os, ts, ns]) ∧ (Exa Z h blk sBk) ∧ (Fld Z h blk sBk "orders" dOs (.ref os)) ∧ (Fld Z h blk sBk "ticks" "[J" (.ref ts)) ∧ (Fld Z h blk sBk "numbers" "[J" (.ref ns)) ∧ (Fld Z h blk sBk "size" "I" (.int (2 : Int32))) ∧ (Arv Z h os ko (.object sOr) (64 : Int32) [va, vb, vc] .null) ∧ (AJ Z h ts kt ta tb tc) ∧ (AJ Z h ns kn ua ub uc)
theorem open_1_1 (l : Launch) (Z : State) (a0 : Array Value) (hw : ∀ d ∈ tables_1, d.before a0 Z = true) (ws : List Jvm.Cond) (blk os ts ns : Nat) (ko kt kn : ClassId) (va vb vc : Value) (ta tb tc ua ub uc : Int64) (h0 : Heap) (n0 : Nat) (Z0 : n0 ≤ h0.size) (G0 : Exa Z h0 blk sBk) (G1 : Fld Z h0 blk sBk "orders" dOs (.ref os)) (G2 : Fld Z h0 blk sBk "ticks" "[J" (.ref ts)) (G3 : Fld Z h0 blk sBk "numbers" "[J" (.ref ns)) (G4 : Fld Z h0 blk sBk "size" "I" (.int (1 : Int32))) (G5 : Arv Z h0 os ko (.object sOr) (64 : Int32) [va, vb, vc] .null) (G6 : Ovr Z ko sOr) (G7 : AJ Z h0 ts kt ta tb tc) (G8 : AJ Z h0 ns kn ua ub uc) (G9 : n0 ≤ blk) (G10 : n0 ≤ os) (G11 : n0 ≤ ts) (G12 : n0 ≤ ns) (G13 : blk ≠ os) (G14 : blk ≠ ts) (G15 : blk ≠ ns) (G16 : os ≠ ts) (G17 : os ≠ ns) (G18 : ts ≠ ns) :
    Con l Z y20 prog_28_method_2_code 2 none ws (Rm 1 0 0 17) #[(.ref blk), (.int (1 : Int32))] h0 (Q_open_1_1 Z blk os ts ns ko kt kn va vb vc ta tb tc ua ub uc h0 n0) := by
  refine Con.of (plainFor_of_name pn_20) fun p e s m below meth c s₁ hx hby hml hZ hown hnm hlk hret X0 e0 => ?_
  have N0 := Fr.nil n0
  have hc := And.intro hx hby
  have K0 := Keep.refl h0 [blk, os, ts, ns]
  refine Comes.cast (ef_open_1_1 m blk) ?_
  have lt_blk : blk < h0.size := G0.lt
  have lt_os : os < h0.size := G5.lt
  have lt_ts : ts < h0.size := G7.lt
  have lt_ns : ns < h0.size := G8.lt
  refine cs (fun t k => xaloadN X0 hc d20_0 rfl rfl (xiloadN X0 hc d20_1 rfl (xaloadN X0 hc d20_2 rfl rfl k))) ?_
  refine Comes.gF X0 hx hZ hown (host := "") (Or.inl (W hw 165)) Via.refl e0 G4 rfl rfl (hb hby d20_3) fun T1 X1 e1 => ?_
  refine cs (fun t k => xiconst X1 hc d20_6 k) ?_
  refine Comes.cV X1 hx hZ hown (y := y21) (W := 0) (W hw 166) (W hw 167) (W hw 169) (W hw 168) dd (W hw 170) (sh_1_1_p l Z a0 hw [] blk os ts ns ko kt kn va vb vc ta tb tc ua ub uc h0 n0 (by omega)  G0 G1 G2 G3 G5 G6 G7 G8 G10 G11 G12 G13 G14 G15 G16 G17 G18) G0 (W hw 133) dd dd e1 rfl (by rw [hml]; rfl) (argsL := [(.int (1 : Int32)), (.int (1 : Int32)), (.int (1 : Int32))]) (rest := []) (lenOf pd_7 rfl) rfl (wle rfl) (hb hby d20_7) rfl dd dd fun v2 T2 L2 hQ2 X2 => ?_
  obtain ⟨rfl, Nq2, Kq2, P2_0, P2_1, P2_2⟩ := hQ2
  have N2 := Fr.app N0 Nq2
  have z2k : h0.size ≤ T2.heap.size := Kq2.1
  have K2 := K0.trans Kq2 (allS (mE 1) (allS (mE 2) (allS (mE 3) all0)))
  refine cs (fun t k => xaloadN X2 hc d20_10 rfl rfl (XS.dup X2.here hx rfl (hb hby d20_11) rfl rfl k)) ?_
  show Comes p e below _ (T2.setTop (mkF m 12 #[vr blk, vi (1 : Int32)] [(.ref blk), (.ref blk)]))
  have ni3 := ninS G13 (ninS G14 (ninS G15 nin0))
  have F4 := (G4.keep Kq2 ni3)
  refine Comes.gF X2 hx hZ hown (host := "") (Or.inl (W hw 165)) Via.refl rfl F4 rfl rfl (hb hby d20_12) fun T5 X5 e5 => ?_
  refine cs (fun t k => xiconst X5 hc d20_15 (xiadd X5 hc d20_16 rfl k)) ?_
  show Comes p e below _ (T5.setTop (mkF m 17 #[vr blk, vi (1 : Int32)] [(.int ((1 : Int32) + (1 : Int32))), (.ref blk)]))
  rw [show ((1 : Int32) + (1 : Int32)) = (2 : Int32) from by decide]
  have F6 := (G0.keep Kq2)
  refine Comes.pF X5 hx hZ hown (host := "") (Or.inl (W hw 165)) Via.refl e5 F4 F6 (Or.inl (W hw 155)) (W hw 132) (ty := .int) dd rfl rfl rfl rfl (hb hby d20_17) fun T7 h7 X7 e7 W7 Fw7 => ?_
  have z7 : h7.size = T2.heap.size := W7.size
  have N7 := Fr.snoc X7 N2 G9
  have K7 := K2.wr W7 (mE 0)
  show Comes p e below _ (T7.setTop (mkF m 20 #[vr blk, vi (1 : Int32)] []))
  have F8 := (F6.wr W7)
  have F9 := ((G1.keep Kq2 ni3).other W7 (Or.inr (slot_ne (Or.inr (W hw 140)) (Or.inl (W hw 155)) dd (t := (.array (.object sOr))) (t' := .int) dd dd)))
  have F10 := ((G2.keep Kq2 ni3).other W7 (Or.inr (slot_ne (Or.inr (W hw 142)) (Or.inl (W hw 155)) dd (t := (.array .long)) (t' := .int) dd dd)))
  have F11 := ((G3.keep Kq2 ni3).other W7 (Or.inr (slot_ne (Or.inr (W hw 144)) (Or.inl (W hw 155)) dd (t := (.array .long)) (t' := .int) dd dd)))
  have F12 := (P2_0.other W7 (Ne.symm G13))
  have F13 := (P2_1.other W7 (Ne.symm G14))
  have F14 := (P2_2.other W7 (Ne.symm G15))
  exact Comes.ret0 X7 hx hret hlk (hb hby d20_20) e7 ⟨rfl, N7, K7, F8, F9, F10, F11, Fw7, F12, F13, F14⟩ dd dd
def Q_open_2_0 (Z : State) (blk os ts ns : Nat) (ko kt kn : ClassId) (xa xb : Nat) (vc : Value) (ta tb tc ua ub uc : Int64) (h0 : Heap) (n0 : Nat) (v_ : Option Value) (h : Heap) (L_ : List Loc) : Prop := (v_ = none) ∧ (Fr n0 L_) ∧ (Keep h0 h [blk, os, ts, ns]) ∧ (Exa Z h blk sBk) ∧ (Fld Z h blk sBk "orders" dOs (.ref os)) ∧ (Fld Z h blk sBk "ticks" "[J" (.ref ts)) ∧ (Fld Z h blk sBk "numbers" "[J" (.ref ns)) ∧ (Fld Z h blk sBk "size" "I" (.int (3 : Int32))) ∧ (Arv Z h os ko (.object sOr) (64 : Int32) [(.ref xa), (.ref xa), (.ref xb)] .null) ∧ (AJ Z h ts kt ta ta tb) ∧ (AJ Z h ns kn ua ua ub)
theorem open_2_0 (l : Launch) (Z : State) (a0 : Array Value) (hw : ∀ d ∈ tables_1, d.before a0 Z = true) (ws : List Jvm.Cond) (blk os ts ns : Nat) (ko kt kn : ClassId) (xa xb : Nat) (vc : Value) (ta tb tc ua ub uc : Int64) (h0 : Heap) (n0 : Nat) (Z0 : n0 ≤ h0.size) (G0 : Exa Z h0 blk sBk) (G1 : Fld Z h0 blk sBk "orders" dOs (.ref os)) (G2 : Fld Z h0 blk sBk "ticks" "[J" (.ref ts)) (G3 : Fld Z h0 blk sBk "numbers" "[J" (.ref ns)) (G4 : Fld Z h0 blk sBk "size" "I" (.int (2 : Int32))) (G5 : Arv Z h0 os ko (.object sOr) (64 : Int32) [(.ref xa), (.ref xb), vc] .null) (G6 : Ovr Z ko sOr) (G7 : AJ Z h0 ts kt ta tb tc) (G8 : AJ Z h0 ns kn ua ub uc) (G9 : Exa Z h0 xa sOr) (G10 : Exa Z h0 xb sOr) (G11 : n0 ≤ blk) (G12 : n0 ≤ os) (G13 : n0 ≤ ts) (G14 : n0 ≤ ns) (G15 : blk ≠ os) (G16 : blk ≠ ts) (G17 : blk ≠ ns) (G18 : os ≠ ts) (G19 : os ≠ ns) (G20 : ts ≠ ns) :
    Con l Z y20 prog_28_method_2_code 2 none ws (Rm 2 0 0 31) #[(.ref blk), (.int (0 : Int32))] h0 (Q_open_2_0 Z blk os ts ns ko kt kn xa xb vc ta tb tc ua ub uc h0 n0) := by
  refine Con.of (plainFor_of_name pn_20) fun p e s m below meth c s₁ hx hby hml hZ hown hnm hlk hret X0 e0 => ?_
  have N0 := Fr.nil n0
  have hc := And.intro hx hby
  have K0 := Keep.refl h0 [blk, os, ts, ns]
  refine Comes.cast (ef_open_0_0 m blk) ?_
  have lt_blk : blk < h0.size := G0.lt
  have lt_os : os < h0.size := G5.lt
  have lt_ts : ts < h0.size := G7.lt
  have lt_ns : ns < h0.size := G8.lt
  have lt_xa : xa < h0.size := G9.lt
  have lt_xb : xb < h0.size := G10.lt
  refine cs (fun t k => xaloadN X0 hc d20_0 rfl rfl (xiloadN X0 hc d20_1 rfl (xaloadN X0 hc d20_2 rfl rfl k))) ?_
  refine Comes.gF X0 hx hZ hown (host := "") (Or.inl (W hw 165)) Via.refl e0 G4 rfl rfl (hb hby d20_3) fun T1 X1 e1 => ?_
  refine cs (fun t k => xiconst X1 hc d20_6 k) ?_
  refine Comes.cV X1 hx hZ hown (y := y21) (W := 0) (W hw 166) (W hw 167) (W hw 169) (W hw 168) dd (W hw 170) (sh_0_2_p l Z a0 hw [] blk os ts ns ko kt kn xa xb vc ta tb tc ua ub uc h0 n0 (by omega)  G0 G1 G2 G3 G5 G6 G7 G8 G9 G10 G12 G13 G14 G15 G16 G17 G18 G19 G20) G0 (W hw 133) dd dd e1 rfl (by rw [hml]; rfl) (argsL := [(.int (0 : Int32)), (.int (2 : Int32)), (.int (1 : Int32))]) (rest := []) (lenOf pd_7 rfl) rfl (wle rfl) (hb hby d20_7) rfl dd dd fun v2 T2 L2 hQ2 X2 => ?_
  obtain ⟨rfl, Nq2, Kq2, P2_0, P2_1, P2_2⟩ := hQ2
  have N2 := Fr.app N0 Nq2
  have z2k : h0.size ≤ T2.heap.size := Kq2.1
  have K2 := K0.trans Kq2 (allS (mE 1) (allS (mE 2) (allS (mE 3) all0)))
  refine cs (fun t k => xaloadN X2 hc d20_10 rfl rfl (XS.dup X2.here hx rfl (hb hby d20_11) rfl rfl k)) ?_
  show Comes p e below _ (T2.setTop (mkF m 12 #[vr blk, vi (0 : Int32)] [(.ref blk), (.ref blk)]))
  have ni3 := ninS G15 (ninS G16 (ninS G17 nin0))
  have F4 := (G4.keep Kq2 ni3)
  refine Comes.gF X2 hx hZ hown (host := "") (Or.inl (W hw 165)) Via.refl rfl F4 rfl rfl (hb hby d20_12) fun T5 X5 e5 => ?_
  refine cs (fun t k => xiconst X5 hc d20_15 (xiadd X5 hc d20_16 rfl k)) ?_
  show Comes p e below _ (T5.setTop (mkF m 17 #[vr blk, vi (0 : Int32)] [(.int ((2 : Int32) + (1 : Int32))), (.ref blk)]))
  rw [show ((2 : Int32) + (1 : Int32)) = (3 : Int32) from by decide]
  have F6 := (G0.keep Kq2)
  refine Comes.pF X5 hx hZ hown (host := "") (Or.inl (W hw 165)) Via.refl e5 F4 F6 (Or.inl (W hw 155)) (W hw 132) (ty := .int) dd rfl rfl rfl rfl (hb hby d20_17) fun T7 h7 X7 e7 W7 Fw7 => ?_
  have z7 : h7.size = T2.heap.size := W7.size
  have N7 := Fr.snoc X7 N2 G11
  have K7 := K2.wr W7 (mE 0)
  show Comes p e below _ (T7.setTop (mkF m 20 #[vr blk, vi (0 : Int32)] []))
  have F8 := (F6.wr W7)
  have F9 := ((G1.keep Kq2 ni3).other W7 (Or.inr (slot_ne (Or.inr (W hw 140)) (Or.inl (W hw 155)) dd (t := (.array (.object sOr))) (t' := .int) dd dd)))
  have F10 := ((G2.keep Kq2 ni3).other W7 (Or.inr (slot_ne (Or.inr (W hw 142)) (Or.inl (W hw 155)) dd (t := (.array .long)) (t' := .int) dd dd)))
  have F11 := ((G3.keep Kq2 ni3).other W7 (Or.inr (slot_ne (Or.inr (W hw 144)) (Or.inl (W hw 155)) dd (t := (.array .long)) (t' := .int) dd dd)))
  have F12 := (P2_0.other W7 (Ne.symm G15))
  have F13 := (P2_1.other W7 (Ne.symm G16))
  have F14 := (P2_2.other W7 (Ne.symm G17))
  exact Comes.ret0 X7 hx hret hlk (hb hby d20_20) e7 ⟨rfl, N7, K7, F8, F9, F10, F11, Fw7, F12, F13, F14⟩ dd dd
def Q_open_2_1 (Z : State) (blk os ts ns : Nat) (ko kt kn : ClassId) (va : Value) (xb : Nat) (vc : Value) (ta tb tc ua ub uc : Int64) (h0 : Heap) (n0 : Nat) (v_ : Option Value) (h : Heap) (L_ : List Loc) : Prop := (v_ = none) ∧ (Fr n0 L_) ∧ (Keep h0 h [blk, os, ts, ns]) ∧ (Exa Z h blk sBk) ∧ (Fld Z h blk sBk "orders" dOs (.ref os)) ∧ (Fld Z h blk sBk "ticks" "[J" (.ref ts)) ∧ (Fld Z h blk sBk "numbers" "[J" (.ref ns)) ∧ (Fld Z h blk sBk "size" "I" (.int (3 : Int32))) ∧ (Arv Z h os ko (.object sOr) (64 : Int32) [va, (.ref xb), (.ref xb)] .null) ∧ (AJ Z h ts kt ta tb tb) ∧ (AJ Z h ns kn ua ub ub)
theorem open_2_1 (l : Launch) (Z : State) (a0 : Array Value) (hw : ∀ d ∈ tables_1, d.before a0 Z = true) (ws : List Jvm.Cond) (blk os ts ns : Nat) (ko kt kn : ClassId) (va : Value) (xb : Nat) (vc : Value) (ta tb tc ua ub uc : Int64) (h0 : Heap) (n0 : Nat) (Z0 : n0 ≤ h0.size) (G0 : Exa Z h0 blk sBk) (G1 : Fld Z h0 blk sBk "orders" dOs (.ref os)) (G2 : Fld Z h0 blk sBk "ticks" "[J" (.ref ts)) (G3 : Fld Z h0 blk sBk "numbers" "[J" (.ref ns)) (G4 : Fld Z h0 blk sBk "size" "I" (.int (2 : Int32))) (G5 : Arv Z h0 os ko (.object sOr) (64 : Int32) [va, (.ref xb), vc] .null) (G6 : Ovr Z ko sOr) (G7 : AJ Z h0 ts kt ta tb tc) (G8 : AJ Z h0 ns kn ua ub uc) (G9 : Exa Z h0 xb sOr) (G10 : n0 ≤ blk) (G11 : n0 ≤ os) (G12 : n0 ≤ ts) (G13 : n0 ≤ ns) (G14 : blk ≠ os) (G15 : blk ≠ ts) (G16 : blk ≠ ns) (G17 : os ≠ ts) (G18 : os ≠ ns) (G19 : ts ≠ ns) :
    Con l Z y20 prog_28_method_2_code 2 none ws (Rm 2 0 0 31) #[(.ref blk), (.int (1 : Int32))] h0 (Q_open_2_1 Z blk os ts ns ko kt kn va xb vc ta tb tc ua ub uc h0 n0) := by
  refine Con.of (plainFor_of_name pn_20) fun p e s m below meth c s₁ hx hby hml hZ hown hnm hlk hret X0 e0 => ?_
  have N0 := Fr.nil n0
  have hc := And.intro hx hby
  have K0 := Keep.refl h0 [blk, os, ts, ns]
  refine Comes.cast (ef_open_1_1 m blk) ?_
  have lt_blk : blk < h0.size := G0.lt
  have lt_os : os < h0.size := G5.lt
  have lt_ts : ts < h0.size := G7.lt
  have lt_ns : ns < h0.size := G8.lt
  have lt_xb : xb < h0.size := G9.lt
  refine cs (fun t k => xaloadN X0 hc d20_0 rfl rfl (xiloadN X0 hc d20_1 rfl (xaloadN X0 hc d20_2 rfl rfl k))) ?_
  refine Comes.gF X0 hx hZ hown (host := "") (Or.inl (W hw 165)) Via.refl e0 G4 rfl rfl (hb hby d20_3) fun T1 X1 e1 => ?_
  refine cs (fun t k => xiconst X1 hc d20_6 k) ?_
  refine Comes.cV X1 hx hZ hown (y := y21) (W := 0) (W hw 166) (W hw 167) (W hw 169) (W hw 168) dd (W hw 170) (sh_1_2_p l Z a0 hw [] blk os ts ns ko kt kn va xb vc ta tb tc ua ub uc h0 n0 (by omega)  G0 G1 G2 G3 G5 G6 G7 G8 G9 G11 G12 G13 G14 G15 G16 G17 G18 G19) G0 (W hw 133) dd dd e1 rfl (by rw [hml]; rfl) (argsL := [(.int (1 : Int32)), (.int (2 : Int32)), (.int (1 : Int32))]) (rest := []) (lenOf pd_7 rfl) rfl (wle rfl) (hb hby d20_7) rfl dd dd fun v2 T2 L2 hQ2 X2 => ?_
  obtain ⟨rfl, Nq2, Kq2, P2_0, P2_1, P2_2⟩ := hQ2
  have N2 := Fr.app N0 Nq2
  have z2k : h0.size ≤ T2.heap.size := Kq2.1
  have K2 := K0.trans Kq2 (allS (mE 1) (allS (mE 2) (allS (mE 3) all0)))
  refine cs (fun t k => xaloadN X2 hc d20_10 rfl rfl (XS.dup X2.here hx rfl (hb hby d20_11) rfl rfl k)) ?_
  show Comes p e below _ (T2.setTop (mkF m 12 #[vr blk, vi (1 : Int32)] [(.ref blk), (.ref blk)]))
  have ni3 := ninS G14 (ninS G15 (ninS G16 nin0))
  have F4 := (G4.keep Kq2 ni3)
  refine Comes.gF X2 hx hZ hown (host := "") (Or.inl (W hw 165)) Via.refl rfl F4 rfl rfl (hb hby d20_12) fun T5 X5 e5 => ?_
  refine cs (fun t k => xiconst X5 hc d20_15 (xiadd X5 hc d20_16 rfl k)) ?_
  show Comes p e below _ (T5.setTop (mkF m 17 #[vr blk, vi (1 : Int32)] [(.int ((2 : Int32) + (1 : Int32))), (.ref blk)]))
  rw [show ((2 : Int32) + (1 : Int32)) = (3 : Int32) from by decide]
  have F6 := (G0.keep Kq2)
  refine Comes.pF X5 hx hZ hown (host := "") (Or.inl (W hw 165)) Via.refl e5 F4 F6 (Or.inl (W hw 155)) (W hw 132) (ty := .int) dd rfl rfl rfl rfl (hb hby d20_17) fun T7 h7 X7 e7 W7 Fw7 => ?_
  have z7 : h7.size = T2.heap.size := W7.size
  have N7 := Fr.snoc X7 N2 G10
  have K7 := K2.wr W7 (mE 0)
  show Comes p e below _ (T7.setTop (mkF m 20 #[vr blk, vi (1 : Int32)] []))
  have F8 := (F6.wr W7)
  have F9 := ((G1.keep Kq2 ni3).other W7 (Or.inr (slot_ne (Or.inr (W hw 140)) (Or.inl (W hw 155)) dd (t := (.array (.object sOr))) (t' := .int) dd dd)))
  have F10 := ((G2.keep Kq2 ni3).other W7 (Or.inr (slot_ne (Or.inr (W hw 142)) (Or.inl (W hw 155)) dd (t := (.array .long)) (t' := .int) dd dd)))
  have F11 := ((G3.keep Kq2 ni3).other W7 (Or.inr (slot_ne (Or.inr (W hw 144)) (Or.inl (W hw 155)) dd (t := (.array .long)) (t' := .int) dd dd)))
  have F12 := (P2_0.other W7 (Ne.symm G14))
  have F13 := (P2_1.other W7 (Ne.symm G15))
  have F14 := (P2_2.other W7 (Ne.symm G16))
  exact Comes.ret0 X7 hx hret hlk (hb hby d20_20) e7 ⟨rfl, N7, K7, F8, F9, F10, F11, Fw7, F12, F13, F14⟩ dd dd
def Q_open_2_2 (Z : State) (blk os ts ns : Nat) (ko kt kn : ClassId) (va vb vc : Value) (ta tb tc ua ub uc : Int64) (h0 : Heap) (n0 : Nat) (v_ : Option Value) (h : Heap) (L_ : List Loc) : Prop := (v_ = none) ∧ (Fr n0 L_) ∧ (Keep h0 h [blk, os, ts, ns]) ∧ (Exa Z h blk sBk) ∧ (Fld Z h blk sBk "orders" dOs (.ref os)) ∧ (Fld Z h blk sBk "ticks" "[J" (.ref ts)) ∧ (Fld Z h blk sBk "numbers" "[J" (.ref ns)) ∧ (Fld Z h blk sBk "size" "I" (.int (3 : Int32))) ∧ (Arv Z h os ko (.object sOr) (64 : Int32) [va, vb, vc] .null) ∧ (AJ Z h ts kt ta tb tc) ∧ (AJ Z h ns kn ua ub uc)
theorem open_2_2 (l : Launch) (Z : State) (a0 : Array Value) (hw : ∀ d ∈ tables_1, d.before a0 Z = true) (ws : List Jvm.Cond) (blk os ts ns : Nat) (ko kt kn : ClassId) (va vb vc : Value) (ta tb tc ua ub uc : Int64) (h0 : Heap) (n0 : Nat) (Z0 : n0 ≤ h0.size) (G0 : Exa Z h0 blk sBk) (G1 : Fld Z h0 blk sBk "orders" dOs (.ref os)) (G2 : Fld Z h0 blk sBk "ticks" "[J" (.ref ts)) (G3 : Fld Z h0 blk sBk "numbers" "[J" (.ref ns)) (G4 : Fld Z h0 blk sBk "size" "I" (.int (2 : Int32))) (G5 : Arv Z h0 os ko (.object sOr) (64 : Int32) [va, vb, vc] .null) (G6 : Ovr Z ko sOr) (G7 : AJ Z h0 ts kt ta tb tc) (G8 : AJ Z h0 ns kn ua ub uc) (G9 : n0 ≤ blk) (G10 : n0 ≤ os) (G11 : n0 ≤ ts) (G12 : n0 ≤ ns) (G13 : blk ≠ os) (G14 : blk ≠ ts) (G15 : blk ≠ ns) (G16 : os ≠ ts) (G17 : os ≠ ns) (G18 : ts ≠ ns) :
    Con l Z y20 prog_28_method_2_code 2 none ws (Rm 1 0 0 17) #[(.ref blk), (.int (2 : Int32))] h0 (Q_open_2_2 Z blk os ts ns ko kt kn va vb vc ta tb tc ua ub uc h0 n0) := by
  refine Con.of (plainFor_of_name pn_20) fun p e s m below meth c s₁ hx hby hml hZ hown hnm hlk hret X0 e0 => ?_
  have N0 := Fr.nil n0
  have hc := And.intro hx hby
  have K0 := Keep.refl h0 [blk, os, ts, ns]
  refine Comes.cast (ef_open_2_2 m blk) ?_
  have lt_blk : blk < h0.size := G0.lt
  have lt_os : os < h0.size := G5.lt
  have lt_ts : ts < h0.size := G7.lt
  have lt_ns : ns < h0.size := G8.lt
  refine cs (fun t k => xaloadN X0 hc d20_0 rfl rfl (xiloadN X0 hc d20_1 rfl (xaloadN X0 hc d20_2 rfl rfl k))) ?_
  refine Comes.gF X0 hx hZ hown (host := "") (Or.inl (W hw 165)) Via.refl e0 G4 rfl rfl (hb hby d20_3) fun T1 X1 e1 => ?_
  refine cs (fun t k => xiconst X1 hc d20_6 k) ?_
  refine Comes.cV X1 hx hZ hown (y := y21) (W := 0) (W hw 166) (W hw 167) (W hw 169) (W hw 168) dd (W hw 170) (sh_2_2_p l Z a0 hw [] blk os ts ns ko kt kn va vb vc ta tb tc ua ub uc h0 n0 (by omega)  G0 G1 G2 G3 G5 G6 G7 G8 G10 G11 G12 G13 G14 G15 G16 G17 G18) G0 (W hw 133) dd dd e1 rfl (by rw [hml]; rfl) (argsL := [(.int (2 : Int32)), (.int (2 : Int32)), (.int (1 : Int32))]) (rest := []) (lenOf pd_7 rfl) rfl (wle rfl) (hb hby d20_7) rfl dd dd fun v2 T2 L2 hQ2 X2 => ?_
  obtain ⟨rfl, Nq2, Kq2, P2_0, P2_1, P2_2⟩ := hQ2
  have N2 := Fr.app N0 Nq2
  have z2k : h0.size ≤ T2.heap.size := Kq2.1
  have K2 := K0.trans Kq2 (allS (mE 1) (allS (mE 2) (allS (mE 3) all0)))
  refine cs (fun t k => xaloadN X2 hc d20_10 rfl rfl (XS.dup X2.here hx rfl (hb hby d20_11) rfl rfl k)) ?_
  show Comes p e below _ (T2.setTop (mkF m 12 #[vr blk, vi (2 : Int32)] [(.ref blk), (.ref blk)]))
  have ni3 := ninS G13 (ninS G14 (ninS G15 nin0))
  have F4 := (G4.keep Kq2 ni3)
  refine Comes.gF X2 hx hZ hown (host := "") (Or.inl (W hw 165)) Via.refl rfl F4 rfl rfl (hb hby d20_12) fun T5 X5 e5 => ?_
  refine cs (fun t k => xiconst X5 hc d20_15 (xiadd X5 hc d20_16 rfl k)) ?_
  show Comes p e below _ (T5.setTop (mkF m 17 #[vr blk, vi (2 : Int32)] [(.int ((2 : Int32) + (1 : Int32))), (.ref blk)]))
  rw [show ((2 : Int32) + (1 : Int32)) = (3 : Int32) from by decide]
  have F6 := (G0.keep Kq2)
  refine Comes.pF X5 hx hZ hown (host := "") (Or.inl (W hw 165)) Via.refl e5 F4 F6 (Or.inl (W hw 155)) (W hw 132) (ty := .int) dd rfl rfl rfl rfl (hb hby d20_17) fun T7 h7 X7 e7 W7 Fw7 => ?_
  have z7 : h7.size = T2.heap.size := W7.size
  have N7 := Fr.snoc X7 N2 G9
  have K7 := K2.wr W7 (mE 0)
  show Comes p e below _ (T7.setTop (mkF m 20 #[vr blk, vi (2 : Int32)] []))
  have F8 := (F6.wr W7)
  have F9 := ((G1.keep Kq2 ni3).other W7 (Or.inr (slot_ne (Or.inr (W hw 140)) (Or.inl (W hw 155)) dd (t := (.array (.object sOr))) (t' := .int) dd dd)))
  have F10 := ((G2.keep Kq2 ni3).other W7 (Or.inr (slot_ne (Or.inr (W hw 142)) (Or.inl (W hw 155)) dd (t := (.array .long)) (t' := .int) dd dd)))
  have F11 := ((G3.keep Kq2 ni3).other W7 (Or.inr (slot_ne (Or.inr (W hw 144)) (Or.inl (W hw 155)) dd (t := (.array .long)) (t' := .int) dd dd)))
  have F12 := (P2_0.other W7 (Ne.symm G13))
  have F13 := (P2_1.other W7 (Ne.symm G14))
  have F14 := (P2_2.other W7 (Ne.symm G15))
  exact Comes.ret0 X7 hx hret hlk (hb hby d20_20) e7 ⟨rfl, N7, K7, F8, F9, F10, F11, Fw7, F12, F13, F14⟩ dd dd
def Q_close_1 (Z : State) (blk os ts ns : Nat) (ko kt kn : ClassId) (va vb vc : Value) (ta tb tc ua ub uc : Int64) (h0 : Heap) (n0 : Nat) (v_ : Option Value) (h : Heap) (L_ : List Loc) : Prop := (v_ = none) ∧ (Fr n0 L_) ∧ (Keep h0 h [blk, os, ts, ns]) ∧ (Exa Z h blk sBk) ∧ (Fld Z h blk sBk "orders" dOs (.ref os)) ∧ (Fld Z h blk sBk "ticks" "[J" (.ref ts)) ∧ (Fld Z h blk sBk "numbers" "[J" (.ref ns)) ∧ (Fld Z h blk sBk "size" "I" (.int (0 : Int32))) ∧ (Arv Z h os ko (.object sOr) (64 : Int32) [.null, vb, vc] .null) ∧ (AJ Z h ts kt ta tb tc) ∧ (AJ Z h ns kn ua ub uc)
theorem close_1 (l : Launch) (Z : State) (a0 : Array Value) (hw : ∀ d ∈ tables_1, d.before a0 Z = true) (ws : List Jvm.Cond) (blk os ts ns : Nat) (ko kt kn : ClassId) (va vb vc : Value) (ta tb tc ua ub uc : Int64) (h0 : Heap) (n0 : Nat) (Z0 : n0 ≤ h0.size) (G0 : Exa Z h0 blk sBk) (G1 : Fld Z h0 blk sBk "orders" dOs (.ref os)) (G2 : Fld Z h0 blk sBk "ticks" "[J" (.ref ts)) (G3 : Fld Z h0 blk sBk "numbers" "[J" (.ref ns)) (G4 : Fld Z h0 blk sBk "size" "I" (.int (1 : Int32))) (G5 : Arv Z h0 os ko (.object sOr) (64 : Int32) [va, vb, vc] .null) (G6 : Ovr Z ko sOr) (G7 : AJ Z h0 ts kt ta tb tc) (G8 : AJ Z h0 ns kn ua ub uc) (G9 : n0 ≤ blk) (G10 : n0 ≤ os) (G11 : n0 ≤ ts) (G12 : n0 ≤ ns) (G13 : blk ≠ os) (G14 : blk ≠ ts) (G15 : blk ≠ ns) (G16 : os ≠ ts) (G17 : os ≠ ns) (G18 : ts ≠ ns) :
    Con l Z y31 prog_28_method_4_code 2 none ws (Rm 1 0 0 17) #[(.ref blk), (.int (0 : Int32))] h0 (Q_close_1 Z blk os ts ns ko kt kn va vb vc ta tb tc ua ub uc h0 n0) := by
  refine Con.of (plainFor_of_name pn_31) fun p e s m below meth c s₁ hx hby hml hZ hown hnm hlk hret X0 e0 => ?_
  have N0 := Fr.nil n0
  have hc := And.intro hx hby
  have K0 := Keep.refl h0 [blk, os, ts, ns]
  refine Comes.cast (ef_open_0_0 m blk) ?_
  have lt_blk : blk < h0.size := G0.lt
  have lt_os : os < h0.size := G5.lt
  have lt_ts : ts < h0.size := G7.lt
  have lt_ns : ns < h0.size := G8.lt
  refine cs (fun t k => xaloadN X0 hc d31_0 rfl rfl (xiloadN X0 hc d31_1 rfl (xiconst X0 hc d31_2 (xiadd X0 hc d31_3 rfl k)))) ?_
  show Comes p e below _ (s₁.setTop (mkF m 4 #[vr blk, vi (0 : Int32)] [(.int ((0 : Int32) + (1 : Int32))), (.ref blk)]))
  rw [show ((0 : Int32) + (1 : Int32)) = (1 : Int32) from by decide]
  refine cs (fun t k => xaloadN X0 hc d31_4 rfl rfl k) ?_
  refine Comes.gF X0 hx hZ hown (host := "") (Or.inl (W hw 165)) Via.refl e0 G4 rfl rfl (hb hby d31_5) fun T1 X1 e1 => ?_
  refine cs (fun t k => xiconst X1 hc d31_8 k) ?_
  refine Comes.cV X1 hx hZ hown (y := y21) (W := 0) (W hw 166) (W hw 167) (W hw 169) (W hw 168) dd (W hw 170) (sh_1_1_m l Z a0 hw [] blk os ts ns ko kt kn va vb vc ta tb tc ua ub uc h0 n0 (by omega)  G0 G1 G2 G3 G5 G6 G7 G8 G10 G11 G12 G13 G14 G15 G16 G17 G18) G0 (W hw 133) dd dd e1 rfl (by rw [hml]; rfl) (argsL := [(.int (1 : Int32)), (.int (1 : Int32)), (.int (-1 : Int32))]) (rest := []) (lenOf pd_7 rfl) rfl (wle rfl) (hb hby d31_9) rfl dd dd fun v2 T2 L2 hQ2 X2 => ?_
  obtain ⟨rfl, Nq2, Kq2, P2_0, P2_1, P2_2⟩ := hQ2
  have N2 := Fr.app N0 Nq2
  have z2k : h0.size ≤ T2.heap.size := Kq2.1
  have K2 := K0.trans Kq2 (allS (mE 1) (allS (mE 2) (allS (mE 3) all0)))
  refine cs (fun t k => xaloadN X2 hc d31_12 rfl rfl (XS.dup X2.here hx rfl (hb hby d31_13) rfl rfl k)) ?_
  have ni3 := ninS G13 (ninS G14 (ninS G15 nin0))
  have F4 := (G4.keep Kq2 ni3)
  refine Comes.gF X2 hx hZ hown (host := "") (Or.inl (W hw 165)) Via.refl rfl F4 rfl rfl (hb hby d31_14) fun T5 X5 e5 => ?_
  refine cs (fun t k => xiconst X5 hc d31_17 (xisub X5 hc d31_18 rfl k)) ?_
  show Comes p e below _ (T5.setTop (mkF m 19 #[vr blk, vi (0 : Int32)] [(.int ((1 : Int32) - (1 : Int32))), (.ref blk)]))
  rw [show ((1 : Int32) - (1 : Int32)) = (0 : Int32) from by decide]
  have F6 := (G0.keep Kq2)
  refine Comes.pF X5 hx hZ hown (host := "") (Or.inl (W hw 165)) Via.refl e5 F4 F6 (Or.inl (W hw 155)) (W hw 132) (ty := .int) dd rfl rfl rfl rfl (hb hby d31_19) fun T7 h7 X7 e7 W7 Fw7 => ?_
  have z7 : h7.size = T2.heap.size := W7.size
  have N7 := Fr.snoc X7 N2 G9
  have K7 := K2.wr W7 (mE 0)
  refine cs (fun t k => xaloadN X7 hc d31_22 rfl rfl k) ?_
  have F8 := ((G1.keep Kq2 ni3).other W7 (Or.inr (slot_ne (Or.inr (W hw 140)) (Or.inl (W hw 155)) dd (t := (.array (.object sOr))) (t' := .int) dd dd)))
  refine Comes.gF X7 hx hZ hown (host := "") (Or.inl (W hw 139)) Via.refl e7 F8 rfl rfl (hb hby d31_23) fun T9 X9 e9 => ?_
  refine cs (fun t k => xaloadN X9 hc d31_26 rfl rfl k) ?_
  refine Comes.gF X9 hx hZ hown (host := "") (Or.inl (W hw 165)) Via.refl e9 Fw7 rfl rfl (hb hby d31_27) fun T10 X10 e10 => ?_
  refine cs (fun t k => XS.aconstNull X10.here hx rfl (hb hby d31_30) k) ?_
  have F11 := (P2_0.other W7 (Ne.symm G13))
  refine Comes.wrR X10 hx hZ e10 F11 (C' := "") (Or.inl rfl) rfl rfl 0 (hb hby d31_31) fun T12 h12 X12 e12 W12 V12 => ?_
  have z12 : h12.size = h7.size := W12.size
  have N12 := Fr.snoc X12 N7 G10
  have K12 := K7.wr W12 (mE 1)
  show Comes p e below _ (T12.setTop (mkF m 32 #[vr blk, vi (0 : Int32)] []))
  have F13 := ((F6.wr W7).wr W12)
  have F14 := (F8.other W12 (Or.inl G13))
  have F15 := (((G2.keep Kq2 ni3).other W7 (Or.inr (slot_ne (Or.inr (W hw 142)) (Or.inl (W hw 155)) dd (t := (.array .long)) (t' := .int) dd dd))).other W12 (Or.inl G13))
  have F16 := (((G3.keep Kq2 ni3).other W7 (Or.inr (slot_ne (Or.inr (W hw 144)) (Or.inl (W hw 155)) dd (t := (.array .long)) (t' := .int) dd dd))).other W12 (Or.inl G13))
  have F17 := (Fw7.other W12 (Or.inl G13))
  have F18 := ((P2_1.other W7 (Ne.symm G14)).other W12 (Ne.symm G16))
  have F19 := ((P2_2.other W7 (Ne.symm G15)).other W12 (Ne.symm G17))
  exact Comes.ret0 X12 hx hret hlk (hb hby d31_32) e12 ⟨rfl, N12, K12, F13, F14, F15, F16, F17, V12, F18, F19⟩ dd dd
def Q_close_2 (Z : State) (blk os ts ns : Nat) (ko kt kn : ClassId) (va : Value) (xb : Nat) (vc : Value) (ta tb tc ua ub uc : Int64) (h0 : Heap) (n0 : Nat) (v_ : Option Value) (h : Heap) (L_ : List Loc) : Prop := (v_ = none) ∧ (Fr n0 L_) ∧ (Keep h0 h [blk, os, ts, ns]) ∧ (Exa Z h blk sBk) ∧ (Fld Z h blk sBk "orders" dOs (.ref os)) ∧ (Fld Z h blk sBk "ticks" "[J" (.ref ts)) ∧ (Fld Z h blk sBk "numbers" "[J" (.ref ns)) ∧ (Fld Z h blk sBk "size" "I" (.int (1 : Int32))) ∧ (Arv Z h os ko (.object sOr) (64 : Int32) [(.ref xb), .null, vc] .null) ∧ (AJ Z h ts kt tb tb tc) ∧ (AJ Z h ns kn ub ub uc)
theorem close_2 (l : Launch) (Z : State) (a0 : Array Value) (hw : ∀ d ∈ tables_1, d.before a0 Z = true) (ws : List Jvm.Cond) (blk os ts ns : Nat) (ko kt kn : ClassId) (va : Value) (xb : Nat) (vc : Value) (ta tb tc ua ub uc : Int64) (h0 : Heap) (n0 : Nat) (Z0 : n0 ≤ h0.size) (G0 : Exa Z h0 blk sBk) (G1 : Fld Z h0 blk sBk "orders" dOs (.ref os)) (G2 : Fld Z h0 blk sBk "ticks" "[J" (.ref ts)) (G3 : Fld Z h0 blk sBk "numbers" "[J" (.ref ns)) (G4 : Fld Z h0 blk sBk "size" "I" (.int (2 : Int32))) (G5 : Arv Z h0 os ko (.object sOr) (64 : Int32) [va, (.ref xb), vc] .null) (G6 : Ovr Z ko sOr) (G7 : AJ Z h0 ts kt ta tb tc) (G8 : AJ Z h0 ns kn ua ub uc) (G9 : Exa Z h0 xb sOr) (G10 : n0 ≤ blk) (G11 : n0 ≤ os) (G12 : n0 ≤ ts) (G13 : n0 ≤ ns) (G14 : blk ≠ os) (G15 : blk ≠ ts) (G16 : blk ≠ ns) (G17 : os ≠ ts) (G18 : os ≠ ns) (G19 : ts ≠ ns) :
    Con l Z y31 prog_28_method_4_code 2 none ws (Rm 2 0 0 31) #[(.ref blk), (.int (0 : Int32))] h0 (Q_close_2 Z blk os ts ns ko kt kn va xb vc ta tb tc ua ub uc h0 n0) := by
  refine Con.of (plainFor_of_name pn_31) fun p e s m below meth c s₁ hx hby hml hZ hown hnm hlk hret X0 e0 => ?_
  have N0 := Fr.nil n0
  have hc := And.intro hx hby
  have K0 := Keep.refl h0 [blk, os, ts, ns]
  refine Comes.cast (ef_open_0_0 m blk) ?_
  have lt_blk : blk < h0.size := G0.lt
  have lt_os : os < h0.size := G5.lt
  have lt_ts : ts < h0.size := G7.lt
  have lt_ns : ns < h0.size := G8.lt
  have lt_xb : xb < h0.size := G9.lt
  refine cs (fun t k => xaloadN X0 hc d31_0 rfl rfl (xiloadN X0 hc d31_1 rfl (xiconst X0 hc d31_2 (xiadd X0 hc d31_3 rfl k)))) ?_
  show Comes p e below _ (s₁.setTop (mkF m 4 #[vr blk, vi (0 : Int32)] [(.int ((0 : Int32) + (1 : Int32))), (.ref blk)]))
  rw [show ((0 : Int32) + (1 : Int32)) = (1 : Int32) from by decide]
  refine cs (fun t k => xaloadN X0 hc d31_4 rfl rfl k) ?_
  refine Comes.gF X0 hx hZ hown (host := "") (Or.inl (W hw 165)) Via.refl e0 G4 rfl rfl (hb hby d31_5) fun T1 X1 e1 => ?_
  refine cs (fun t k => xiconst X1 hc d31_8 k) ?_
  refine Comes.cV X1 hx hZ hown (y := y21) (W := 0) (W hw 166) (W hw 167) (W hw 169) (W hw 168) dd (W hw 170) (sh_1_2_m l Z a0 hw [] blk os ts ns ko kt kn va xb vc ta tb tc ua ub uc h0 n0 (by omega)  G0 G1 G2 G3 G5 G6 G7 G8 G9 G11 G12 G13 G14 G15 G16 G17 G18 G19) G0 (W hw 133) dd dd e1 rfl (by rw [hml]; rfl) (argsL := [(.int (1 : Int32)), (.int (2 : Int32)), (.int (-1 : Int32))]) (rest := []) (lenOf pd_7 rfl) rfl (wle rfl) (hb hby d31_9) rfl dd dd fun v2 T2 L2 hQ2 X2 => ?_
  obtain ⟨rfl, Nq2, Kq2, P2_0, P2_1, P2_2⟩ := hQ2
  have N2 := Fr.app N0 Nq2
  have z2k : h0.size ≤ T2.heap.size := Kq2.1
  have K2 := K0.trans Kq2 (allS (mE 1) (allS (mE 2) (allS (mE 3) all0)))
  refine cs (fun t k => xaloadN X2 hc d31_12 rfl rfl (XS.dup X2.here hx rfl (hb hby d31_13) rfl rfl k)) ?_
  have ni3 := ninS G14 (ninS G15 (ninS G16 nin0))
  have F4 := (G4.keep Kq2 ni3)
  refine Comes.gF X2 hx hZ hown (host := "") (Or.inl (W hw 165)) Via.refl rfl F4 rfl rfl (hb hby d31_14) fun T5 X5 e5 => ?_
  refine cs (fun t k => xiconst X5 hc d31_17 (xisub X5 hc d31_18 rfl k)) ?_
  show Comes p e below _ (T5.setTop (mkF m 19 #[vr blk, vi (0 : Int32)] [(.int ((2 : Int32) - (1 : Int32))), (.ref blk)]))
  rw [show ((2 : Int32) - (1 : Int32)) = (1 : Int32) from by decide]
  have F6 := (G0.keep Kq2)
  refine Comes.pF X5 hx hZ hown (host := "") (Or.inl (W hw 165)) Via.refl e5 F4 F6 (Or.inl (W hw 155)) (W hw 132) (ty := .int) dd rfl rfl rfl rfl (hb hby d31_19) fun T7 h7 X7 e7 W7 Fw7 => ?_
  have z7 : h7.size = T2.heap.size := W7.size
  have N7 := Fr.snoc X7 N2 G10
  have K7 := K2.wr W7 (mE 0)
  refine cs (fun t k => xaloadN X7 hc d31_22 rfl rfl k) ?_
  have F8 := ((G1.keep Kq2 ni3).other W7 (Or.inr (slot_ne (Or.inr (W hw 140)) (Or.inl (W hw 155)) dd (t := (.array (.object sOr))) (t' := .int) dd dd)))
  refine Comes.gF X7 hx hZ hown (host := "") (Or.inl (W hw 139)) Via.refl e7 F8 rfl rfl (hb hby d31_23) fun T9 X9 e9 => ?_
  refine cs (fun t k => xaloadN X9 hc d31_26 rfl rfl k) ?_
  refine Comes.gF X9 hx hZ hown (host := "") (Or.inl (W hw 165)) Via.refl e9 Fw7 rfl rfl (hb hby d31_27) fun T10 X10 e10 => ?_
  refine cs (fun t k => XS.aconstNull X10.here hx rfl (hb hby d31_30) k) ?_
  have F11 := (P2_0.other W7 (Ne.symm G14))
  refine Comes.wrR X10 hx hZ e10 F11 (C' := "") (Or.inl rfl) rfl rfl 1 (hb hby d31_31) fun T12 h12 X12 e12 W12 V12 => ?_
  have z12 : h12.size = h7.size := W12.size
  have N12 := Fr.snoc X12 N7 G11
  have K12 := K7.wr W12 (mE 1)
  show Comes p e below _ (T12.setTop (mkF m 32 #[vr blk, vi (0 : Int32)] []))
  have F13 := ((F6.wr W7).wr W12)
  have F14 := (F8.other W12 (Or.inl G14))
  have F15 := (((G2.keep Kq2 ni3).other W7 (Or.inr (slot_ne (Or.inr (W hw 142)) (Or.inl (W hw 155)) dd (t := (.array .long)) (t' := .int) dd dd))).other W12 (Or.inl G14))
  have F16 := (((G3.keep Kq2 ni3).other W7 (Or.inr (slot_ne (Or.inr (W hw 144)) (Or.inl (W hw 155)) dd (t := (.array .long)) (t' := .int) dd dd))).other W12 (Or.inl G14))
  have F17 := (Fw7.other W12 (Or.inl G14))
  have F18 := ((P2_1.other W7 (Ne.symm G15)).other W12 (Ne.symm G17))
  have F19 := ((P2_2.other W7 (Ne.symm G16)).other W12 (Ne.symm G18))
  exact Comes.ret0 X12 hx hret hlk (hb hby d31_32) e12 ⟨rfl, N12, K12, F13, F14, F15, F16, F17, V12, F18, F19⟩ dd dd
def Q_close_3 (Z : State) (blk os ts ns : Nat) (ko kt kn : ClassId) (va : Value) (xb xc : Nat) (ta tb tc ua ub uc : Int64) (h0 : Heap) (n0 : Nat) (v_ : Option Value) (h : Heap) (L_ : List Loc) : Prop := (v_ = none) ∧ (Fr n0 L_) ∧ (Keep h0 h [blk, os, ts, ns]) ∧ (Exa Z h blk sBk) ∧ (Fld Z h blk sBk "orders" dOs (.ref os)) ∧ (Fld Z h blk sBk "ticks" "[J" (.ref ts)) ∧ (Fld Z h blk sBk "numbers" "[J" (.ref ns)) ∧ (Fld Z h blk sBk "size" "I" (.int (2 : Int32))) ∧ (Arv Z h os ko (.object sOr) (64 : Int32) [(.ref xb), (.ref xc), .null] .null) ∧ (AJ Z h ts kt tb tc tc) ∧ (AJ Z h ns kn ub uc uc)
theorem close_3 (l : Launch) (Z : State) (a0 : Array Value) (hw : ∀ d ∈ tables_1, d.before a0 Z = true) (ws : List Jvm.Cond) (blk os ts ns : Nat) (ko kt kn : ClassId) (va : Value) (xb xc : Nat) (ta tb tc ua ub uc : Int64) (h0 : Heap) (n0 : Nat) (Z0 : n0 ≤ h0.size) (G0 : Exa Z h0 blk sBk) (G1 : Fld Z h0 blk sBk "orders" dOs (.ref os)) (G2 : Fld Z h0 blk sBk "ticks" "[J" (.ref ts)) (G3 : Fld Z h0 blk sBk "numbers" "[J" (.ref ns)) (G4 : Fld Z h0 blk sBk "size" "I" (.int (3 : Int32))) (G5 : Arv Z h0 os ko (.object sOr) (64 : Int32) [va, (.ref xb), (.ref xc)] .null) (G6 : Ovr Z ko sOr) (G7 : AJ Z h0 ts kt ta tb tc) (G8 : AJ Z h0 ns kn ua ub uc) (G9 : Exa Z h0 xb sOr) (G10 : Exa Z h0 xc sOr) (G11 : n0 ≤ blk) (G12 : n0 ≤ os) (G13 : n0 ≤ ts) (G14 : n0 ≤ ns) (G15 : blk ≠ os) (G16 : blk ≠ ts) (G17 : blk ≠ ns) (G18 : os ≠ ts) (G19 : os ≠ ns) (G20 : ts ≠ ns) :
    Con l Z y31 prog_28_method_4_code 2 none ws (Rm 2 0 0 31) #[(.ref blk), (.int (0 : Int32))] h0 (Q_close_3 Z blk os ts ns ko kt kn va xb xc ta tb tc ua ub uc h0 n0) := by
  refine Con.of (plainFor_of_name pn_31) fun p e s m below meth c s₁ hx hby hml hZ hown hnm hlk hret X0 e0 => ?_
  have N0 := Fr.nil n0
  have hc := And.intro hx hby
  have K0 := Keep.refl h0 [blk, os, ts, ns]
  refine Comes.cast (ef_open_0_0 m blk) ?_
  have lt_blk : blk < h0.size := G0.lt
  have lt_os : os < h0.size := G5.lt
  have lt_ts : ts < h0.size := G7.lt
  have lt_ns : ns < h0.size := G8.lt
  have lt_xb : xb < h0.size := G9.lt
  have lt_xc : xc < h0.size := G10.lt
  refine cs (fun t k => xaloadN X0 hc d31_0 rfl rfl (xiloadN X0 hc d31_1 rfl (xiconst X0 hc d31_2 (xiadd X0 hc d31_3 rfl k)))) ?_
  show Comes p e below _ (s₁.setTop (mkF m 4 #[vr blk, vi (0 : Int32)] [(.int ((0 : Int32) + (1 : Int32))), (.ref blk)]))
  rw [show ((0 : Int32) + (1 : Int32)) = (1 : Int32) from by decide]
  refine cs (fun t k => xaloadN X0 hc d31_4 rfl rfl k) ?_
  refine Comes.gF X0 hx hZ hown (host := "") (Or.inl (W hw 165)) Via.refl e0 G4 rfl rfl (hb hby d31_5) fun T1 X1 e1 => ?_
  refine cs (fun t k => xiconst X1 hc d31_8 k) ?_
  refine Comes.cV X1 hx hZ hown (y := y21) (W := 0) (W hw 166) (W hw 167) (W hw 169) (W hw 168) dd (W hw 170) (sh_1_3_m l Z a0 hw [] blk os ts ns ko kt kn va xb xc ta tb tc ua ub uc h0 n0 (by omega)  G0 G1 G2 G3 G5 G6 G7 G8 G9 G10 G12 G13 G14 G15 G16 G17 G18 G19 G20) G0 (W hw 133) dd dd e1 rfl (by rw [hml]; rfl) (argsL := [(.int (1 : Int32)), (.int (3 : Int32)), (.int (-1 : Int32))]) (rest := []) (lenOf pd_7 rfl) rfl (wle rfl) (hb hby d31_9) rfl dd dd fun v2 T2 L2 hQ2 X2 => ?_
  obtain ⟨rfl, Nq2, Kq2, P2_0, P2_1, P2_2⟩ := hQ2
  have N2 := Fr.app N0 Nq2
  have z2k : h0.size ≤ T2.heap.size := Kq2.1
  have K2 := K0.trans Kq2 (allS (mE 1) (allS (mE 2) (allS (mE 3) all0)))
  refine cs (fun t k => xaloadN X2 hc d31_12 rfl rfl (XS.dup X2.here hx rfl (hb hby d31_13) rfl rfl k)) ?_
  have ni3 := ninS G15 (ninS G16 (ninS G17 nin0))
  have F4 := (G4.keep Kq2 ni3)
  refine Comes.gF X2 hx hZ hown (host := "") (Or.inl (W hw 165)) Via.refl rfl F4 rfl rfl (hb hby d31_14) fun T5 X5 e5 => ?_
  refine cs (fun t k => xiconst X5 hc d31_17 (xisub X5 hc d31_18 rfl k)) ?_
  show Comes p e below _ (T5.setTop (mkF m 19 #[vr blk, vi (0 : Int32)] [(.int ((3 : Int32) - (1 : Int32))), (.ref blk)]))
  rw [show ((3 : Int32) - (1 : Int32)) = (2 : Int32) from by decide]
  have F6 := (G0.keep Kq2)
  refine Comes.pF X5 hx hZ hown (host := "") (Or.inl (W hw 165)) Via.refl e5 F4 F6 (Or.inl (W hw 155)) (W hw 132) (ty := .int) dd rfl rfl rfl rfl (hb hby d31_19) fun T7 h7 X7 e7 W7 Fw7 => ?_
  have z7 : h7.size = T2.heap.size := W7.size
  have N7 := Fr.snoc X7 N2 G11
  have K7 := K2.wr W7 (mE 0)
  refine cs (fun t k => xaloadN X7 hc d31_22 rfl rfl k) ?_
  have F8 := ((G1.keep Kq2 ni3).other W7 (Or.inr (slot_ne (Or.inr (W hw 140)) (Or.inl (W hw 155)) dd (t := (.array (.object sOr))) (t' := .int) dd dd)))
  refine Comes.gF X7 hx hZ hown (host := "") (Or.inl (W hw 139)) Via.refl e7 F8 rfl rfl (hb hby d31_23) fun T9 X9 e9 => ?_
  refine cs (fun t k => xaloadN X9 hc d31_26 rfl rfl k) ?_
  refine Comes.gF X9 hx hZ hown (host := "") (Or.inl (W hw 165)) Via.refl e9 Fw7 rfl rfl (hb hby d31_27) fun T10 X10 e10 => ?_
  refine cs (fun t k => XS.aconstNull X10.here hx rfl (hb hby d31_30) k) ?_
  have F11 := (P2_0.other W7 (Ne.symm G15))
  refine Comes.wrR X10 hx hZ e10 F11 (C' := "") (Or.inl rfl) rfl rfl 2 (hb hby d31_31) fun T12 h12 X12 e12 W12 V12 => ?_
  have z12 : h12.size = h7.size := W12.size
  have N12 := Fr.snoc X12 N7 G12
  have K12 := K7.wr W12 (mE 1)
  show Comes p e below _ (T12.setTop (mkF m 32 #[vr blk, vi (0 : Int32)] []))
  have F13 := ((F6.wr W7).wr W12)
  have F14 := (F8.other W12 (Or.inl G15))
  have F15 := (((G2.keep Kq2 ni3).other W7 (Or.inr (slot_ne (Or.inr (W hw 142)) (Or.inl (W hw 155)) dd (t := (.array .long)) (t' := .int) dd dd))).other W12 (Or.inl G15))
  have F16 := (((G3.keep Kq2 ni3).other W7 (Or.inr (slot_ne (Or.inr (W hw 144)) (Or.inl (W hw 155)) dd (t := (.array .long)) (t' := .int) dd dd))).other W12 (Or.inl G15))
  have F17 := (Fw7.other W12 (Or.inl G15))
  have F18 := ((P2_1.other W7 (Ne.symm G16)).other W12 (Ne.symm G18))
  have F19 := ((P2_2.other W7 (Ne.symm G17)).other W12 (Ne.symm G19))
  exact Comes.ret0 X12 hx hret hlk (hb hby d31_32) e12 ⟨rfl, N12, K12, F13, F14, F15, F16, F17, V12, F18, F19⟩ dd dd
def Q_put_0 (Z : State) (blk ob os ts ns : Nat) (ko kt kn : ClassId) (va vb vc : Value) (ta tb tc ua ub uc tt uu : Int64) (h0 : Heap) (n0 : Nat) (v_ : Option Value) (h : Heap) (L_ : List Loc) : Prop := (v_ = none) ∧ (Fr n0 L_) ∧ (Keep h0 h [os, ts, ns]) ∧ (Arv Z h os ko (.object sOr) (64 : Int32) [(.ref ob), vb, vc] .null) ∧ (AJ Z h ts kt tt tb tc) ∧ (AJ Z h ns kn uu ub uc)
theorem put_0 (l : Launch) (Z : State) (a0 : Array Value) (hw : ∀ d ∈ tables_1, d.before a0 Z = true) (ws : List Jvm.Cond) (blk ob os ts ns : Nat) (ko kt kn : ClassId) (va vb vc : Value) (ta tb tc ua ub uc tt uu : Int64) (h0 : Heap) (n0 : Nat) (Z0 : n0 ≤ h0.size) (G0 : Exa Z h0 blk sBk) (G1 : Fld Z h0 blk sBk "orders" dOs (.ref os)) (G2 : Fld Z h0 blk sBk "ticks" "[J" (.ref ts)) (G3 : Fld Z h0 blk sBk "numbers" "[J" (.ref ns)) (G4 : Arv Z h0 os ko (.object sOr) (64 : Int32) [va, vb, vc] .null) (G5 : Ovr Z ko sOr) (G6 : AJ Z h0 ts kt ta tb tc) (G7 : AJ Z h0 ns kn ua ub uc) (G8 : Exa Z h0 ob sOr) (G9 : Fld Z h0 ob sOr "number" "J" (.long uu)) (G10 : Fld Z h0 ob sOr "ticks" "J" (.long tt)) (G11 : n0 ≤ os) (G12 : n0 ≤ ts) (G13 : n0 ≤ ns) (G14 : blk ≠ os) (G15 : blk ≠ ts) (G16 : blk ≠ ns) (G17 : os ≠ ts) (G18 : os ≠ ns) (G19 : ts ≠ ns) (G20 : ob ≠ os) (G21 : ob ≠ ts) (G22 : ob ≠ ns) :
    Con l Z y22 prog_28_method_3_code 3 none ws (Rm 1 0 0 14) #[(.ref blk), (.int (0 : Int32)), (.ref ob)] h0 (Q_put_0 Z blk ob os ts ns ko kt kn va vb vc ta tb tc ua ub uc tt uu h0 n0) := by
  refine Con.of (plainFor_of_name pn_22) fun p e s m below meth c s₁ hx hby hml hZ hown hnm hlk hret X0 e0 => ?_
  have N0 := Fr.nil n0
  have hc := And.intro hx hby
  have K0 := Keep.refl h0 [os, ts, ns]
  refine Comes.cast (ef_put_0 m blk ob) ?_
  have lt_blk : blk < h0.size := G0.lt
  have lt_os : os < h0.size := G4.lt
  have lt_ts : ts < h0.size := G6.lt
  have lt_ns : ns < h0.size := G7.lt
  have lt_ob : ob < h0.size := G8.lt
  refine cs (fun t k => xaloadN X0 hc d22_0 rfl rfl k) ?_
  refine Comes.gF X0 hx hZ hown (host := "") (Or.inl (W hw 139)) Via.refl e0 G1 rfl rfl (hb hby d22_1) fun T1 X1 e1 => ?_
  refine cs (fun t k => xiloadN X1 hc d22_4 rfl (xaloadN X1 hc d22_5 rfl rfl k)) ?_
  refine Comes.wrR X1 hx hZ e1 G4 (Or.inr ⟨_, rfl, G5, (Ins.self G8)⟩) rfl rfl 0 (hb hby d22_6) fun T2 h2 X2 e2 W2 V2 => ?_
  have z2 : h2.size = h0.size := W2.size
  have N2 := Fr.snoc X2 N0 G11
  have K2 := K0.wr W2 (mE 0)
  refine cs (fun t k => xaloadN X2 hc d22_7 rfl rfl k) ?_
  have F3 := (G2.other W2 (Or.inl G14))
  refine Comes.gF X2 hx hZ hown (host := "") (Or.inl (W hw 141)) Via.refl e2 F3 rfl rfl (hb hby d22_8) fun T4 X4 e4 => ?_
  refine cs (fun t k => xiloadN X4 hc d22_11 rfl (xaloadN X4 hc d22_12 rfl rfl k)) ?_
  show Comes p e below _ (T4.setTop (mkF m 13 #[vr blk, vi (0 : Int32), vr ob] [(.ref ob), (.int (0 : Int32)), (.ref ts)]))
  have F5 := (G10.other W2 (Or.inl G20))
  have F6 := (G8.wr W2)
  refine Comes.cV X4 hx hZ hown (y := y23) (W := 2) (W hw 176) (W hw 177) (W hw 179) (W hw 178) dd (W hw 180) (rm23 l Z a0 hw [] ob tt h2 n0 (by omega)  F5) F6 (W hw 43) dd dd e4 rfl (by rw [hml]; rfl) (argsL := []) (rest := [(.int (0 : Int32)), (.ref ts)]) (lenOf pd_3 rfl) rfl (wle rfl) (hb hby d22_13) rfl dd dd fun v7 T7 L7 hQ7 X7 => ?_
  obtain ⟨rfl, Nq7, hs7⟩ := hQ7
  have N7 := Fr.app N2 Nq7
  have F8 := (G6.other W2 (Ne.symm G17))
  refine Comes.wrJ X7 hx hZ hs7 F8 rfl rfl 0 (hb hby d22_16) fun T9 h9 X9 e9 W9 V9 => ?_
  have z9 : h9.size = h2.size := W9.size
  have N9 := Fr.snoc X9 N7 G12
  have K9 := K2.wr W9 (mE 1)
  refine cs (fun t k => xaloadN X9 hc d22_17 rfl rfl k) ?_
  have F10 := ((G3.other W2 (Or.inl G14)).other W9 (Or.inl G15))
  refine Comes.gF X9 hx hZ hown (host := "") (Or.inl (W hw 143)) Via.refl e9 F10 rfl rfl (hb hby d22_18) fun T11 X11 e11 => ?_
  refine cs (fun t k => xiloadN X11 hc d22_21 rfl (xaloadN X11 hc d22_22 rfl rfl k)) ?_
  have F12 := ((G9.other W2 (Or.inl G20)).other W9 (Or.inl G21))
  have F13 := (F6.wr W9)
  refine Comes.cV X11 hx hZ hown (y := y24) (W := 2) (W hw 181) (W hw 182) (W hw 184) (W hw 183) dd (W hw 185) (rm24 l Z a0 hw [] ob uu h9 n0 (by omega)  F12) F13 (W hw 43) dd dd e11 rfl (by rw [hml]; rfl) (argsL := []) (rest := [(.int (0 : Int32)), (.ref ns)]) (lenOf pd_3 rfl) rfl (wle rfl) (hb hby d22_23) rfl dd dd fun v14 T14 L14 hQ14 X14 => ?_
  obtain ⟨rfl, Nq14, hs14⟩ := hQ14
  have N14 := Fr.app N9 Nq14
  show Comes p e below _ (T14.setTop (mkF m 26 #[vr blk, vi (0 : Int32), vr ob] [(.long uu), (.int (0 : Int32)), (.ref ns)]))
  have F15 := ((G7.other W2 (Ne.symm G18)).other W9 (Ne.symm G19))
  refine Comes.wrJ X14 hx hZ hs14 F15 rfl rfl 0 (hb hby d22_26) fun T16 h16 X16 e16 W16 V16 => ?_
  have z16 : h16.size = h9.size := W16.size
  have N16 := Fr.snoc X16 N14 G13
  have K16 := K9.wr W16 (mE 2)
  show Comes p e below _ (T16.setTop (mkF m 27 #[vr blk, vi (0 : Int32), vr ob] []))
  have F17 := ((V2.other W9 G17).other W16 G18)
  have F18 := (V9.other W16 G19)
  exact Comes.ret0 X16 hx hret hlk (hb hby d22_27) e16 ⟨rfl, N16, K16, F17, F18, V16⟩ dd dd
def Q_put_1 (Z : State) (blk ob os ts ns : Nat) (ko kt kn : ClassId) (va vb vc : Value) (ta tb tc ua ub uc tt uu : Int64) (h0 : Heap) (n0 : Nat) (v_ : Option Value) (h : Heap) (L_ : List Loc) : Prop := (v_ = none) ∧ (Fr n0 L_) ∧ (Keep h0 h [os, ts, ns]) ∧ (Arv Z h os ko (.object sOr) (64 : Int32) [va, (.ref ob), vc] .null) ∧ (AJ Z h ts kt ta tt tc) ∧ (AJ Z h ns kn ua uu uc)
theorem put_1 (l : Launch) (Z : State) (a0 : Array Value) (hw : ∀ d ∈ tables_1, d.before a0 Z = true) (ws : List Jvm.Cond) (blk ob os ts ns : Nat) (ko kt kn : ClassId) (va vb vc : Value) (ta tb tc ua ub uc tt uu : Int64) (h0 : Heap) (n0 : Nat) (Z0 : n0 ≤ h0.size) (G0 : Exa Z h0 blk sBk) (G1 : Fld Z h0 blk sBk "orders" dOs (.ref os)) (G2 : Fld Z h0 blk sBk "ticks" "[J" (.ref ts)) (G3 : Fld Z h0 blk sBk "numbers" "[J" (.ref ns)) (G4 : Arv Z h0 os ko (.object sOr) (64 : Int32) [va, vb, vc] .null) (G5 : Ovr Z ko sOr) (G6 : AJ Z h0 ts kt ta tb tc) (G7 : AJ Z h0 ns kn ua ub uc) (G8 : Exa Z h0 ob sOr) (G9 : Fld Z h0 ob sOr "number" "J" (.long uu)) (G10 : Fld Z h0 ob sOr "ticks" "J" (.long tt)) (G11 : n0 ≤ os) (G12 : n0 ≤ ts) (G13 : n0 ≤ ns) (G14 : blk ≠ os) (G15 : blk ≠ ts) (G16 : blk ≠ ns) (G17 : os ≠ ts) (G18 : os ≠ ns) (G19 : ts ≠ ns) (G20 : ob ≠ os) (G21 : ob ≠ ts) (G22 : ob ≠ ns) :
    Con l Z y22 prog_28_method_3_code 3 none ws (Rm 1 0 0 14) #[(.ref blk), (.int (1 : Int32)), (.ref ob)] h0 (Q_put_1 Z blk ob os ts ns ko kt kn va vb vc ta tb tc ua ub uc tt uu h0 n0) := by
  refine Con.of (plainFor_of_name pn_22) fun p e s m below meth c s₁ hx hby hml hZ hown hnm hlk hret X0 e0 => ?_
  have N0 := Fr.nil n0
  have hc := And.intro hx hby
  have K0 := Keep.refl h0 [os, ts, ns]
  refine Comes.cast (ef_put_1 m blk ob) ?_
  have lt_blk : blk < h0.size := G0.lt
  have lt_os : os < h0.size := G4.lt
  have lt_ts : ts < h0.size := G6.lt
  have lt_ns : ns < h0.size := G7.lt
  have lt_ob : ob < h0.size := G8.lt
  refine cs (fun t k => xaloadN X0 hc d22_0 rfl rfl k) ?_
  refine Comes.gF X0 hx hZ hown (host := "") (Or.inl (W hw 139)) Via.refl e0 G1 rfl rfl (hb hby d22_1) fun T1 X1 e1 => ?_
  refine cs (fun t k => xiloadN X1 hc d22_4 rfl (xaloadN X1 hc d22_5 rfl rfl k)) ?_
  refine Comes.wrR X1 hx hZ e1 G4 (Or.inr ⟨_, rfl, G5, (Ins.self G8)⟩) rfl rfl 1 (hb hby d22_6) fun T2 h2 X2 e2 W2 V2 => ?_
  have z2 : h2.size = h0.size := W2.size
  have N2 := Fr.snoc X2 N0 G11
  have K2 := K0.wr W2 (mE 0)
  refine cs (fun t k => xaloadN X2 hc d22_7 rfl rfl k) ?_
  have F3 := (G2.other W2 (Or.inl G14))
  refine Comes.gF X2 hx hZ hown (host := "") (Or.inl (W hw 141)) Via.refl e2 F3 rfl rfl (hb hby d22_8) fun T4 X4 e4 => ?_
  refine cs (fun t k => xiloadN X4 hc d22_11 rfl (xaloadN X4 hc d22_12 rfl rfl k)) ?_
  show Comes p e below _ (T4.setTop (mkF m 13 #[vr blk, vi (1 : Int32), vr ob] [(.ref ob), (.int (1 : Int32)), (.ref ts)]))
  have F5 := (G10.other W2 (Or.inl G20))
  have F6 := (G8.wr W2)
  refine Comes.cV X4 hx hZ hown (y := y23) (W := 2) (W hw 176) (W hw 177) (W hw 179) (W hw 178) dd (W hw 180) (rm23 l Z a0 hw [] ob tt h2 n0 (by omega)  F5) F6 (W hw 43) dd dd e4 rfl (by rw [hml]; rfl) (argsL := []) (rest := [(.int (1 : Int32)), (.ref ts)]) (lenOf pd_3 rfl) rfl (wle rfl) (hb hby d22_13) rfl dd dd fun v7 T7 L7 hQ7 X7 => ?_
  obtain ⟨rfl, Nq7, hs7⟩ := hQ7
  have N7 := Fr.app N2 Nq7
  have F8 := (G6.other W2 (Ne.symm G17))
  refine Comes.wrJ X7 hx hZ hs7 F8 rfl rfl 1 (hb hby d22_16) fun T9 h9 X9 e9 W9 V9 => ?_
  have z9 : h9.size = h2.size := W9.size
  have N9 := Fr.snoc X9 N7 G12
  have K9 := K2.wr W9 (mE 1)
  refine cs (fun t k => xaloadN X9 hc d22_17 rfl rfl k) ?_
  have F10 := ((G3.other W2 (Or.inl G14)).other W9 (Or.inl G15))
  refine Comes.gF X9 hx hZ hown (host := "") (Or.inl (W hw 143)) Via.refl e9 F10 rfl rfl (hb hby d22_18) fun T11 X11 e11 => ?_
  refine cs (fun t k => xiloadN X11 hc d22_21 rfl (xaloadN X11 hc d22_22 rfl rfl k)) ?_
  have F12 := ((G9.other W2 (Or.inl G20)).other W9 (Or.inl G21))
  have F13 := (F6.wr W9)
  refine Comes.cV X11 hx hZ hown (y := y24) (W := 2) (W hw 181) (W hw 182) (W hw 184) (W hw 183) dd (W hw 185) (rm24 l Z a0 hw [] ob uu h9 n0 (by omega)  F12) F13 (W hw 43) dd dd e11 rfl (by rw [hml]; rfl) (argsL := []) (rest := [(.int (1 : Int32)), (.ref ns)]) (lenOf pd_3 rfl) rfl (wle rfl) (hb hby d22_23) rfl dd dd fun v14 T14 L14 hQ14 X14 => ?_
  obtain ⟨rfl, Nq14, hs14⟩ := hQ14
  have N14 := Fr.app N9 Nq14
  show Comes p e below _ (T14.setTop (mkF m 26 #[vr blk, vi (1 : Int32), vr ob] [(.long uu), (.int (1 : Int32)), (.ref ns)]))
  have F15 := ((G7.other W2 (Ne.symm G18)).other W9 (Ne.symm G19))
  refine Comes.wrJ X14 hx hZ hs14 F15 rfl rfl 1 (hb hby d22_26) fun T16 h16 X16 e16 W16 V16 => ?_
  have z16 : h16.size = h9.size := W16.size
  have N16 := Fr.snoc X16 N14 G13
  have K16 := K9.wr W16 (mE 2)
  show Comes p e below _ (T16.setTop (mkF m 27 #[vr blk, vi (1 : Int32), vr ob] []))
  have F17 := ((V2.other W9 G17).other W16 G18)
  have F18 := (V9.other W16 G19)
  exact Comes.ret0 X16 hx hret hlk (hb hby d22_27) e16 ⟨rfl, N16, K16, F17, F18, V16⟩ dd dd
def Q_put_2 (Z : State) (blk ob os ts ns : Nat) (ko kt kn : ClassId) (va vb vc : Value) (ta tb tc ua ub uc tt uu : Int64) (h0 : Heap) (n0 : Nat) (v_ : Option Value) (h : Heap) (L_ : List Loc) : Prop := (v_ = none) ∧ (Fr n0 L_) ∧ (Keep h0 h [os, ts, ns]) ∧ (Arv Z h os ko (.object sOr) (64 : Int32) [va, vb, (.ref ob)] .null) ∧ (AJ Z h ts kt ta tb tt) ∧ (AJ Z h ns kn ua ub uu)
theorem put_2 (l : Launch) (Z : State) (a0 : Array Value) (hw : ∀ d ∈ tables_1, d.before a0 Z = true) (ws : List Jvm.Cond) (blk ob os ts ns : Nat) (ko kt kn : ClassId) (va vb vc : Value) (ta tb tc ua ub uc tt uu : Int64) (h0 : Heap) (n0 : Nat) (Z0 : n0 ≤ h0.size) (G0 : Exa Z h0 blk sBk) (G1 : Fld Z h0 blk sBk "orders" dOs (.ref os)) (G2 : Fld Z h0 blk sBk "ticks" "[J" (.ref ts)) (G3 : Fld Z h0 blk sBk "numbers" "[J" (.ref ns)) (G4 : Arv Z h0 os ko (.object sOr) (64 : Int32) [va, vb, vc] .null) (G5 : Ovr Z ko sOr) (G6 : AJ Z h0 ts kt ta tb tc) (G7 : AJ Z h0 ns kn ua ub uc) (G8 : Exa Z h0 ob sOr) (G9 : Fld Z h0 ob sOr "number" "J" (.long uu)) (G10 : Fld Z h0 ob sOr "ticks" "J" (.long tt)) (G11 : n0 ≤ os) (G12 : n0 ≤ ts) (G13 : n0 ≤ ns) (G14 : blk ≠ os) (G15 : blk ≠ ts) (G16 : blk ≠ ns) (G17 : os ≠ ts) (G18 : os ≠ ns) (G19 : ts ≠ ns) (G20 : ob ≠ os) (G21 : ob ≠ ts) (G22 : ob ≠ ns) :
    Con l Z y22 prog_28_method_3_code 3 none ws (Rm 1 0 0 14) #[(.ref blk), (.int (2 : Int32)), (.ref ob)] h0 (Q_put_2 Z blk ob os ts ns ko kt kn va vb vc ta tb tc ua ub uc tt uu h0 n0) := by
  refine Con.of (plainFor_of_name pn_22) fun p e s m below meth c s₁ hx hby hml hZ hown hnm hlk hret X0 e0 => ?_
  have N0 := Fr.nil n0
  have hc := And.intro hx hby
  have K0 := Keep.refl h0 [os, ts, ns]
  refine Comes.cast (ef_put_2 m blk ob) ?_
  have lt_blk : blk < h0.size := G0.lt
  have lt_os : os < h0.size := G4.lt
  have lt_ts : ts < h0.size := G6.lt
  have lt_ns : ns < h0.size := G7.lt
  have lt_ob : ob < h0.size := G8.lt
  refine cs (fun t k => xaloadN X0 hc d22_0 rfl rfl k) ?_
  refine Comes.gF X0 hx hZ hown (host := "") (Or.inl (W hw 139)) Via.refl e0 G1 rfl rfl (hb hby d22_1) fun T1 X1 e1 => ?_
  refine cs (fun t k => xiloadN X1 hc d22_4 rfl (xaloadN X1 hc d22_5 rfl rfl k)) ?_
  refine Comes.wrR X1 hx hZ e1 G4 (Or.inr ⟨_, rfl, G5, (Ins.self G8)⟩) rfl rfl 2 (hb hby d22_6) fun T2 h2 X2 e2 W2 V2 => ?_
  have z2 : h2.size = h0.size := W2.size
  have N2 := Fr.snoc X2 N0 G11
  have K2 := K0.wr W2 (mE 0)
  refine cs (fun t k => xaloadN X2 hc d22_7 rfl rfl k) ?_
  have F3 := (G2.other W2 (Or.inl G14))
  refine Comes.gF X2 hx hZ hown (host := "") (Or.inl (W hw 141)) Via.refl e2 F3 rfl rfl (hb hby d22_8) fun T4 X4 e4 => ?_
  refine cs (fun t k => xiloadN X4 hc d22_11 rfl (xaloadN X4 hc d22_12 rfl rfl k)) ?_
  show Comes p e below _ (T4.setTop (mkF m 13 #[vr blk, vi (2 : Int32), vr ob] [(.ref ob), (.int (2 : Int32)), (.ref ts)]))
  have F5 := (G10.other W2 (Or.inl G20))
  have F6 := (G8.wr W2)
  refine Comes.cV X4 hx hZ hown (y := y23) (W := 2) (W hw 176) (W hw 177) (W hw 179) (W hw 178) dd (W hw 180) (rm23 l Z a0 hw [] ob tt h2 n0 (by omega)  F5) F6 (W hw 43) dd dd e4 rfl (by rw [hml]; rfl) (argsL := []) (rest := [(.int (2 : Int32)), (.ref ts)]) (lenOf pd_3 rfl) rfl (wle rfl) (hb hby d22_13) rfl dd dd fun v7 T7 L7 hQ7 X7 => ?_
  obtain ⟨rfl, Nq7, hs7⟩ := hQ7
  have N7 := Fr.app N2 Nq7
  have F8 := (G6.other W2 (Ne.symm G17))
  refine Comes.wrJ X7 hx hZ hs7 F8 rfl rfl 2 (hb hby d22_16) fun T9 h9 X9 e9 W9 V9 => ?_
  have z9 : h9.size = h2.size := W9.size
  have N9 := Fr.snoc X9 N7 G12
  have K9 := K2.wr W9 (mE 1)
  refine cs (fun t k => xaloadN X9 hc d22_17 rfl rfl k) ?_
  have F10 := ((G3.other W2 (Or.inl G14)).other W9 (Or.inl G15))
  refine Comes.gF X9 hx hZ hown (host := "") (Or.inl (W hw 143)) Via.refl e9 F10 rfl rfl (hb hby d22_18) fun T11 X11 e11 => ?_
  refine cs (fun t k => xiloadN X11 hc d22_21 rfl (xaloadN X11 hc d22_22 rfl rfl k)) ?_
  have F12 := ((G9.other W2 (Or.inl G20)).other W9 (Or.inl G21))
  have F13 := (F6.wr W9)
  refine Comes.cV X11 hx hZ hown (y := y24) (W := 2) (W hw 181) (W hw 182) (W hw 184) (W hw 183) dd (W hw 185) (rm24 l Z a0 hw [] ob uu h9 n0 (by omega)  F12) F13 (W hw 43) dd dd e11 rfl (by rw [hml]; rfl) (argsL := []) (rest := [(.int (2 : Int32)), (.ref ns)]) (lenOf pd_3 rfl) rfl (wle rfl) (hb hby d22_23) rfl dd dd fun v14 T14 L14 hQ14 X14 => ?_
  obtain ⟨rfl, Nq14, hs14⟩ := hQ14
  have N14 := Fr.app N9 Nq14
  show Comes p e below _ (T14.setTop (mkF m 26 #[vr blk, vi (2 : Int32), vr ob] [(.long uu), (.int (2 : Int32)), (.ref ns)]))
  have F15 := ((G7.other W2 (Ne.symm G18)).other W9 (Ne.symm G19))
  refine Comes.wrJ X14 hx hZ hs14 F15 rfl rfl 2 (hb hby d22_26) fun T16 h16 X16 e16 W16 V16 => ?_
  have z16 : h16.size = h9.size := W16.size
  have N16 := Fr.snoc X16 N14 G13
  have K16 := K9.wr W16 (mE 2)
  show Comes p e below _ (T16.setTop (mkF m 27 #[vr blk, vi (2 : Int32), vr ob] []))
  have F17 := ((V2.other W9 G17).other W16 G18)
  have F18 := (V9.other W16 G19)
  exact Comes.ret0 X16 hx hret hlk (hb hby d22_27) e16 ⟨rfl, N16, K16, F17, F18, V16⟩ dd dd
def Q_obf_0 (Z : State) (rk : Nat) (h0 : Heap) (n0 : Nat) (v_ : Option Value) (h : Heap) (L_ : List Loc) : Prop := (v_ = some .null) ∧ (Fr n0 L_) ∧ (h = h0)
theorem obf_0 (l : Launch) (Z : State) (a0 : Array Value) (hw : ∀ d ∈ tables_1, d.before a0 Z = true) (ws : List Jvm.Cond) (rk : Nat) (h0 : Heap) (n0 : Nat) (Z0 : n0 ≤ h0.size) :
    Con l Z y26 prog_27_method_11_code 5 (some (.object sOr)) ws (Rm 0 0 0 0) #[(.ref rk), (.int (0 : Int32)), (.int (0 : Int32))] h0 (Q_obf_0 Z rk h0 n0) := by
  refine Con.of (plainFor_of_name pn_26) fun p e s m below meth c s₁ hx hby hml hZ hown hnm hlk hret X0 e0 => ?_
  have N0 := Fr.nil n0
  have hc := And.intro hx hby
  refine Comes.cast (ef_obf_0 m rk) ?_
  refine cs (fun t k => XS.aconstNull X0.here hx rfl (hb hby d26_0) (xastoreN X0 hc d26_1 rfl rfl rfl (xiloadN X0 hc d26_2 rfl k))) ?_
  refine cs (fun t k => xifYes X0 hc 3 23 d26_3 rfl ((if0 _ _).trans (flt dd).2.2.2) (xiloadN X0 hc d26_23 rfl k)) ?_
  refine cs (fun t k => xifYes X0 hc 24 51 d26_24 rfl ((if0 _ _).trans (flt dd).2.2.2) (xaloadN X0 hc d26_51 rfl rfl k)) ?_
  show Comes p e below _ (s₁.setTop (mkF m 52 #[vr rk, vi (0 : Int32), vi (0 : Int32), .val .null, U0] [.null]))
  exact Comes.retV X0 hx hret (narrow_ref rfl) (Or.inr (Or.inr (Or.inr (Or.inr ⟨rfl, rfl, rfl⟩)))) hlk (hb hby d26_52) e0 ⟨rfl, N0, rfl⟩ dd dd
def Q_obf_1 (Z : State) (rk bl : Nat) (kb : ClassId) (blk os : Nat) (ko : ClassId) (xa : Nat) (vb vc : Value) (h0 : Heap) (n0 : Nat) (v_ : Option Value) (h : Heap) (L_ : List Loc) : Prop := (v_ = some (.ref xa)) ∧ (Fr n0 L_) ∧ (h = h0)
theorem obf_1 (l : Launch) (Z : State) (a0 : Array Value) (hw : ∀ d ∈ tables_1, d.before a0 Z = true) (ws : List Jvm.Cond) (rk bl : Nat) (kb : ClassId) (blk os : Nat) (ko : ClassId) (xa : Nat) (vb vc : Value) (h0 : Heap) (n0 : Nat) (Z0 : n0 ≤ h0.size) (G0 : Fld Z h0 rk sRk "blocks" dBs (.ref bl)) (G1 : Arv Z h0 bl kb (.object sBk) (4 : Int32) [(.ref blk), .null, .null, .null] .null) (G2 : Fld Z h0 blk sBk "orders" dOs (.ref os)) (G3 : Arv Z h0 os ko (.object sOr) (64 : Int32) [(.ref xa), vb, vc] .null) :
    Con l Z y26 prog_27_method_11_code 5 (some (.object sOr)) ws (Rm 0 0 0 0) #[(.ref rk), (.int (0 : Int32)), (.int (1 : Int32))] h0 (Q_obf_1 Z rk bl kb blk os ko xa vb vc h0 n0) := by
  refine Con.of (plainFor_of_name pn_26) fun p e s m below meth c s₁ hx hby hml hZ hown hnm hlk hret X0 e0 => ?_
  have N0 := Fr.nil n0
  have hc := And.intro hx hby
  refine Comes.cast (ef_obf_1 m rk) ?_
  have lt_rk : rk < h0.size := G0.lt
  have lt_bl : bl < h0.size := G1.lt
  have lt_blk : blk < h0.size := G2.lt
  have lt_os : os < h0.size := G3.lt
  refine cs (fun t k => XS.aconstNull X0.here hx rfl (hb hby d26_0) (xastoreN X0 hc d26_1 rfl rfl rfl (xiloadN X0 hc d26_2 rfl k))) ?_
  refine cs (fun t k => xifNo X0 hc d26_3 rfl ((if0 _ _).trans (tlt dd).2.2.2) (xaloadN X0 hc d26_6 rfl rfl k)) ?_
  refine Comes.gF X0 hx hZ hown (host := "") (Or.inl (W hw 108)) Via.refl e0 G0 rfl rfl (hb hby d26_7) fun T2 X2 e2 => ?_
  refine cs (fun t k => xiloadN X2 hc d26_10 rfl k) ?_
  refine Comes.ldR X2 hx hZ e2 G1 rfl rfl (v := (.ref blk)) rfl (hb hby d26_11) ?_
  refine Comes.gR X2 hx hZ hown (W hw 190) Via.refl e2 G2 rfl rfl (hb hby d26_12) fun T4 X4 e4 => ?_
  show Comes p e below _ (T4.setTop (mkF m 15 #[vr rk, vi (0 : Int32), vi (1 : Int32), .val .null, U0] [(.ref os)]))
  refine cs (fun t k => xiloadN X4 hc d26_15 rfl (xiconst X4 hc d26_16 (xisub X4 hc d26_17 rfl k))) ?_
  show Comes p e below _ (T4.setTop (mkF m 18 #[vr rk, vi (0 : Int32), vi (1 : Int32), .val .null, U0] [(.int ((1 : Int32) - (1 : Int32))), (.ref os)]))
  rw [show ((1 : Int32) - (1 : Int32)) = (0 : Int32) from by decide]
  refine Comes.ldR X4 hx hZ e4 G3 rfl rfl (v := (.ref xa)) rfl (hb hby d26_18) ?_
  refine cs (fun t k => xastoreN X4 hc d26_19 rfl rfl rfl (xgoto X4 hc 20 51 d26_20 (xaloadN X4 hc d26_51 rfl rfl k))) ?_
  show Comes p e below _ (T4.setTop (mkF m 52 #[vr rk, vi (0 : Int32), vi (1 : Int32), vr xa, U0] [(.ref xa)]))
  exact Comes.retV X4 hx hret (narrow_ref rfl) (Or.inr (Or.inr (Or.inr (Or.inr ⟨rfl, rfl, rfl⟩)))) hlk (hb hby d26_52) e4 ⟨rfl, N0, rfl⟩ dd dd
def Q_obf_2 (Z : State) (rk bl : Nat) (kb : ClassId) (blk os : Nat) (ko : ClassId) (va : Value) (xb : Nat) (vc : Value) (h0 : Heap) (n0 : Nat) (v_ : Option Value) (h : Heap) (L_ : List Loc) : Prop := (v_ = some (.ref xb)) ∧ (Fr n0 L_) ∧ (h = h0)
theorem obf_2 (l : Launch) (Z : State) (a0 : Array Value) (hw : ∀ d ∈ tables_1, d.before a0 Z = true) (ws : List Jvm.Cond) (rk bl : Nat) (kb : ClassId) (blk os : Nat) (ko : ClassId) (va : Value) (xb : Nat) (vc : Value) (h0 : Heap) (n0 : Nat) (Z0 : n0 ≤ h0.size) (G0 : Fld Z h0 rk sRk "blocks" dBs (.ref bl)) (G1 : Arv Z h0 bl kb (.object sBk) (4 : Int32) [(.ref blk), .null, .null, .null] .null) (G2 : Fld Z h0 blk sBk "orders" dOs (.ref os)) (G3 : Arv Z h0 os ko (.object sOr) (64 : Int32) [va, (.ref xb), vc] .null) :
    Con l Z y26 prog_27_method_11_code 5 (some (.object sOr)) ws (Rm 0 0 0 0) #[(.ref rk), (.int (0 : Int32)), (.int (2 : Int32))] h0 (Q_obf_2 Z rk bl kb blk os ko va xb vc h0 n0) := by
  refine Con.of (plainFor_of_name pn_26) fun p e s m below meth c s₁ hx hby hml hZ hown hnm hlk hret X0 e0 => ?_
  have N0 := Fr.nil n0
  have hc := And.intro hx hby
  refine Comes.cast (ef_obf_2 m rk) ?_
  have lt_rk : rk < h0.size := G0.lt
  have lt_bl : bl < h0.size := G1.lt
  have lt_blk : blk < h0.size := G2.lt
  have lt_os : os < h0.size := G3.lt
  refine cs (fun t k => XS.aconstNull X0.here hx rfl (hb hby d26_0) (xastoreN X0 hc d26_1 rfl rfl rfl (xiloadN X0 hc d26_2 rfl k))) ?_
  refine cs (fun t k => xifNo X0 hc d26_3 rfl ((if0 _ _).trans (tlt dd).2.2.2) (xaloadN X0 hc d26_6 rfl rfl k)) ?_
  refine Comes.gF X0 hx hZ hown (host := "") (Or.inl (W hw 108)) Via.refl e0 G0 rfl rfl (hb hby d26_7) fun T2 X2 e2 => ?_
  refine cs (fun t k => xiloadN X2 hc d26_10 rfl k) ?_
  refine Comes.ldR X2 hx hZ e2 G1 rfl rfl (v := (.ref blk)) rfl (hb hby d26_11) ?_
  refine Comes.gR X2 hx hZ hown (W hw 190) Via.refl e2 G2 rfl rfl (hb hby d26_12) fun T4 X4 e4 => ?_
  show Comes p e below _ (T4.setTop (mkF m 15 #[vr rk, vi (0 : Int32), vi (2 : Int32), .val .null, U0] [(.ref os)]))
  refine cs (fun t k => xiloadN X4 hc d26_15 rfl (xiconst X4 hc d26_16 (xisub X4 hc d26_17 rfl k))) ?_
  show Comes p e below _ (T4.setTop (mkF m 18 #[vr rk, vi (0 : Int32), vi (2 : Int32), .val .null, U0] [(.int ((2 : Int32) - (1 : Int32))), (.ref os)]))
  rw [show ((2 : Int32) - (1 : Int32)) = (1 : Int32) from by decide]
  refine Comes.ldR X4 hx hZ e4 G3 rfl rfl (v := (.ref xb)) rfl (hb hby d26_18) ?_
  refine cs (fun t k => xastoreN X4 hc d26_19 rfl rfl rfl (xgoto X4 hc 20 51 d26_20 (xaloadN X4 hc d26_51 rfl rfl k))) ?_
  show Comes p e below _ (T4.setTop (mkF m 52 #[vr rk, vi (0 : Int32), vi (2 : Int32), vr xb, U0] [(.ref xb)]))
  exact Comes.retV X4 hx hret (narrow_ref rfl) (Or.inr (Or.inr (Or.inr (Or.inr ⟨rfl, rfl, rfl⟩)))) hlk (hb hby d26_52) e4 ⟨rfl, N0, rfl⟩ dd dd
def Q_rm27 (Z : State) (rk : Nat) (h0 : Heap) (n0 : Nat) (v_ : Option Value) (h : Heap) (L_ : List Loc) : Prop := (v_ = some .null) ∧ (Fr n0 L_) ∧ (h = h0)
theorem rm27 (l : Launch) (Z : State) (a0 : Array Value) (hw : ∀ d ∈ tables_1, d.before a0 Z = true) (ws : List Jvm.Cond) (rk : Nat) (h0 : Heap) (n0 : Nat) (Z0 : n0 ≤ h0.size) (G0 : Fld Z h0 rk sRk "count" "I" (.int (1 : Int32))) :
    Con l Z y27 prog_27_method_12_code 2 (some (.object sOr)) ws (Rm 0 0 0 0) #[(.ref rk), (.int (1 : Int32))] h0 (Q_rm27 Z rk h0 n0) := by
  refine Con.of (plainFor_of_name pn_27) fun p e s m below meth c s₁ hx hby hml hZ hown hnm hlk hret X0 e0 => ?_
  have N0 := Fr.nil n0
  have hc := And.intro hx hby
  refine Comes.cast (ef_open_1_1 m rk) ?_
  have lt_rk : rk < h0.size := G0.lt
  refine cs (fun t k => xiloadN X0 hc d27_0 rfl (xaloadN X0 hc d27_1 rfl rfl k)) ?_
  refine Comes.gF X0 hx hZ hown (host := "") (Or.inl (W hw 121)) Via.refl e0 G0 rfl rfl (hb hby d27_2) fun T1 X1 e1 => ?_
  refine cs (fun t k => xicmpYes X1 hc 5 22 d27_5 rfl (flt dd).2.1 (XS.aconstNull X1.here hx rfl (hb hby d27_22) k)) ?_
  show Comes p e below _ (T1.setTop (mkF m 23 #[vr rk, vi (1 : Int32)] [.null]))
  exact Comes.retV X1 hx hret (narrow_ref rfl) (Or.inr (Or.inr (Or.inr (Or.inr ⟨rfl, rfl, rfl⟩)))) hlk (hb hby d27_23) e1 ⟨rfl, N0, rfl⟩ dd dd
def Q_link_1_0 (Z : State) (rk bl : Nat) (kb : ClassId) (blk os : Nat) (ko : ClassId) (xa : Nat) (vb vc wa : Value) (h0 : Heap) (n0 : Nat) (v_ : Option Value) (h : Heap) (L_ : List Loc) : Prop := (v_ = none) ∧ (Fr n0 L_) ∧ (Keep h0 h [xa]) ∧ (Fld Z h xa sOr "after" dOr .null)
theorem link_1_0 (l : Launch) (Z : State) (a0 : Array Value) (hw : ∀ d ∈ tables_1, d.before a0 Z = true) (ws : List Jvm.Cond) (rk bl : Nat) (kb : ClassId) (blk os : Nat) (ko : ClassId) (xa : Nat) (vb vc wa : Value) (h0 : Heap) (n0 : Nat) (Z0 : n0 ≤ h0.size) (G0 : Exa Z h0 rk sRk) (G1 : Fld Z h0 rk sRk "blocks" dBs (.ref bl)) (G2 : Fld Z h0 rk sRk "count" "I" (.int (1 : Int32))) (G3 : Arv Z h0 bl kb (.object sBk) (4 : Int32) [(.ref blk), .null, .null, .null] .null) (G4 : Fld Z h0 blk sBk "orders" dOs (.ref os)) (G5 : Fld Z h0 blk sBk "size" "I" (.int (1 : Int32))) (G6 : Arv Z h0 os ko (.object sOr) (64 : Int32) [(.ref xa), vb, vc] .null) (G7 : Exa Z h0 xa sOr) (G8 : Fld Z h0 xa sOr "after" dOr wa) (G9 : n0 ≤ xa) (G10 : xa ≠ rk) (G11 : xa ≠ bl) (G12 : xa ≠ blk) (G13 : xa ≠ os) :
    Con l Z y25 prog_27_method_9_code 5 none ws (Rm 1 0 0 16) #[(.ref rk), (.int (0 : Int32)), (.int (0 : Int32))] h0 (Q_link_1_0 Z rk bl kb blk os ko xa vb vc wa h0 n0) := by
  refine Con.of (plainFor_of_name pn_25) fun p e s m below meth c s₁ hx hby hml hZ hown hnm hlk hret X0 e0 => ?_
  have N0 := Fr.nil n0
  have hc := And.intro hx hby
  have K0 := Keep.refl h0 [xa]
  refine Comes.cast (ef_obf_0 m rk) ?_
  have lt_rk : rk < h0.size := G0.lt
  have lt_bl : bl < h0.size := G3.lt
  have lt_blk : blk < h0.size := G4.lt
  have lt_os : os < h0.size := G6.lt
  have lt_xa : xa < h0.size := G7.lt
  refine cs (fun t k => xaloadN X0 hc d25_0 rfl rfl k) ?_
  refine Comes.gF X0 hx hZ hown (host := "") (Or.inl (W hw 108)) Via.refl e0 G1 rfl rfl (hb hby d25_1) fun T1 X1 e1 => ?_
  refine cs (fun t k => xiloadN X1 hc d25_4 rfl k) ?_
  refine Comes.ldR X1 hx hZ e1 G3 rfl rfl (v := (.ref blk)) rfl (hb hby d25_5) ?_
  refine Comes.gR X1 hx hZ hown (W hw 190) Via.refl e1 G4 rfl rfl (hb hby d25_6) fun T3 X3 e3 => ?_
  refine cs (fun t k => xiloadN X3 hc d25_9 rfl k) ?_
  refine Comes.ldR X3 hx hZ e3 G6 rfl rfl (v := (.ref xa)) rfl (hb hby d25_10) ?_
  refine cs (fun t k => xastoreN X3 hc d25_11 rfl rfl rfl (xaloadN X3 hc d25_12 rfl rfl (xiloadN X3 hc d25_13 rfl (xiloadN X3 hc d25_14 rfl k)))) ?_
  show Comes p e below _ (T3.setTop (mkF m 15 #[vr rk, vi (0 : Int32), vi (0 : Int32), vr xa, U0] [(.int (0 : Int32)), (.int (0 : Int32)), (.ref rk)]))
  refine Comes.cP X3 hx hZ hown (y := y26) (W := 0) (W hw 191) (W hw 192) (W hw 100) (W hw 193) dd (W hw 194) (obf_0 l Z a0 hw [] rk h0 n0 (by omega)  ) G0 (W hw 101) dd dd e3 rfl (by rw [hml]; rfl) (argsL := [(.int (0 : Int32)), (.int (0 : Int32))]) (rest := []) (lenOf pd_8 rfl) rfl (wle rfl) (hb hby d25_15) rfl dd dd fun v5 T5 L5 hQ5 X5 => ?_
  obtain ⟨rfl, Nq5, hs5⟩ := hQ5
  have N5 := Fr.app N0 Nq5
  refine cs (fun t k => xastore X5 hc d25_18 rfl rfl rfl (xaloadN X5 hc d25_20 rfl rfl (xiloadN X5 hc d25_21 rfl (xiconst X5 hc d25_22 (xiadd X5 hc d25_23 rfl k))))) ?_
  show Comes p e below _ (T5.setTop (mkF m 24 #[vr rk, vi (0 : Int32), vi (0 : Int32), vr xa, .val .null] [(.int ((0 : Int32) + (1 : Int32))), (.ref xa)]))
  rw [show ((0 : Int32) + (1 : Int32)) = (1 : Int32) from by decide]
  refine cs (fun t k => xaloadN X5 hc d25_24 rfl rfl k) ?_
  refine Comes.gF X5 hx hZ hown (host := "") (Or.inl (W hw 108)) Via.refl hs5 G1 rfl rfl (hb hby d25_25) fun T6 X6 e6 => ?_
  refine cs (fun t k => xiloadN X6 hc d25_28 rfl k) ?_
  refine Comes.ldR X6 hx hZ e6 G3 rfl rfl (v := (.ref blk)) rfl (hb hby d25_29) ?_
  refine Comes.gR X6 hx hZ hown (W hw 154) Via.refl e6 G5 rfl rfl (hb hby d25_30) fun T8 X8 e8 => ?_
  refine cs (fun t k => xicmpYes X8 hc 33 52 d25_33 rfl (flt dd).2.1 (xaloadN X8 hc d25_52 rfl rfl (xiloadN X8 hc d25_53 rfl (xiconst X8 hc d25_54 (xiadd X8 hc d25_55 rfl k))))) ?_
  show Comes p e below _ (T8.setTop (mkF m 56 #[vr rk, vi (0 : Int32), vi (0 : Int32), vr xa, .val .null] [(.int ((0 : Int32) + (1 : Int32))), (.ref rk), (.ref xa)]))
  rw [show ((0 : Int32) + (1 : Int32)) = (1 : Int32) from by decide]
  refine Comes.cP X8 hx hZ hown (y := y27) (W := 1) (W hw 195) (W hw 196) (W hw 100) (W hw 197) dd (W hw 198) (rm27 l Z a0 hw [] rk h0 n0 (by omega)  G2) G0 (W hw 101) dd dd e8 rfl (by rw [hml]; rfl) (argsL := [(.int (1 : Int32))]) (rest := [(.ref xa)]) (lenOf pd_9 rfl) rfl (wle rfl) (hb hby d25_56) rfl dd dd fun v10 T10 L10 hQ10 X10 => ?_
  obtain ⟨rfl, Nq10, hs10⟩ := hQ10
  have N10 := Fr.app N5 Nq10
  refine Comes.pF X10 hx hZ hown (host := "") (Or.inl (W hw 199)) Via.refl hs10 G8 G7 (Or.inl (W hw 200)) (W hw 42) (ty := (.object sOr)) dd rfl rfl rfl rfl (hb hby d25_59) fun T11 h11 X11 e11 W11 Fw11 => ?_
  have z11 : h11.size = h0.size := W11.size
  have N11 := Fr.snoc X11 N10 G9
  have K11 := K0.wr W11 (mE 0)
  refine cs (fun t k => xaload X11 hc d25_62 rfl rfl (XS.ifnullYes X11.here hx rfl (pc0 := 64) (pc' := 73) rfl (hb hby d25_64) rfl dd dd k)) ?_
  show Comes p e below _ (T11.setTop (mkF m 73 #[vr rk, vi (0 : Int32), vi (0 : Int32), vr xa, .val .null] []))
  exact Comes.ret0 X11 hx hret hlk (hb hby d25_73) e11 ⟨rfl, N11, K11, Fw11⟩ dd dd
def Q_link_2_0 (Z : State) (rk bl : Nat) (kb : ClassId) (blk os : Nat) (ko : ClassId) (xa xb : Nat) (vc wa : Value) (h0 : Heap) (n0 : Nat) (v_ : Option Value) (h : Heap) (L_ : List Loc) : Prop := (v_ = none) ∧ (Fr n0 L_) ∧ (Keep h0 h [xa]) ∧ (Fld Z h xa sOr "after" dOr (.ref xb))
theorem link_2_0 (l : Launch) (Z : State) (a0 : Array Value) (hw : ∀ d ∈ tables_1, d.before a0 Z = true) (ws : List Jvm.Cond) (rk bl : Nat) (kb : ClassId) (blk os : Nat) (ko : ClassId) (xa xb : Nat) (vc wa : Value) (h0 : Heap) (n0 : Nat) (Z0 : n0 ≤ h0.size) (G0 : Exa Z h0 rk sRk) (G1 : Fld Z h0 rk sRk "blocks" dBs (.ref bl)) (G2 : Fld Z h0 rk sRk "count" "I" (.int (1 : Int32))) (G3 : Arv Z h0 bl kb (.object sBk) (4 : Int32) [(.ref blk), .null, .null, .null] .null) (G4 : Fld Z h0 blk sBk "orders" dOs (.ref os)) (G5 : Fld Z h0 blk sBk "size" "I" (.int (2 : Int32))) (G6 : Arv Z h0 os ko (.object sOr) (64 : Int32) [(.ref xa), (.ref xb), vc] .null) (G7 : Exa Z h0 xa sOr) (G8 : Exa Z h0 xb sOr) (G9 : Fld Z h0 xa sOr "after" dOr wa) (G10 : n0 ≤ xa) (G11 : xa ≠ rk) (G12 : xa ≠ bl) (G13 : xa ≠ blk) (G14 : xa ≠ os) :
    Con l Z y25 prog_27_method_9_code 5 none ws (Rm 1 0 0 16) #[(.ref rk), (.int (0 : Int32)), (.int (0 : Int32))] h0 (Q_link_2_0 Z rk bl kb blk os ko xa xb vc wa h0 n0) := by
  refine Con.of (plainFor_of_name pn_25) fun p e s m below meth c s₁ hx hby hml hZ hown hnm hlk hret X0 e0 => ?_
  have N0 := Fr.nil n0
  have hc := And.intro hx hby
  have K0 := Keep.refl h0 [xa]
  refine Comes.cast (ef_obf_0 m rk) ?_
  have lt_rk : rk < h0.size := G0.lt
  have lt_bl : bl < h0.size := G3.lt
  have lt_blk : blk < h0.size := G4.lt
  have lt_os : os < h0.size := G6.lt
  have lt_xa : xa < h0.size := G7.lt
  have lt_xb : xb < h0.size := G8.lt
  refine cs (fun t k => xaloadN X0 hc d25_0 rfl rfl k) ?_
  refine Comes.gF X0 hx hZ hown (host := "") (Or.inl (W hw 108)) Via.refl e0 G1 rfl rfl (hb hby d25_1) fun T1 X1 e1 => ?_
  refine cs (fun t k => xiloadN X1 hc d25_4 rfl k) ?_
  refine Comes.ldR X1 hx hZ e1 G3 rfl rfl (v := (.ref blk)) rfl (hb hby d25_5) ?_
  refine Comes.gR X1 hx hZ hown (W hw 190) Via.refl e1 G4 rfl rfl (hb hby d25_6) fun T3 X3 e3 => ?_
  refine cs (fun t k => xiloadN X3 hc d25_9 rfl k) ?_
  refine Comes.ldR X3 hx hZ e3 G6 rfl rfl (v := (.ref xa)) rfl (hb hby d25_10) ?_
  refine cs (fun t k => xastoreN X3 hc d25_11 rfl rfl rfl (xaloadN X3 hc d25_12 rfl rfl (xiloadN X3 hc d25_13 rfl (xiloadN X3 hc d25_14 rfl k)))) ?_
  show Comes p e below _ (T3.setTop (mkF m 15 #[vr rk, vi (0 : Int32), vi (0 : Int32), vr xa, U0] [(.int (0 : Int32)), (.int (0 : Int32)), (.ref rk)]))
  refine Comes.cP X3 hx hZ hown (y := y26) (W := 0) (W hw 191) (W hw 192) (W hw 100) (W hw 193) dd (W hw 194) (obf_0 l Z a0 hw [] rk h0 n0 (by omega)  ) G0 (W hw 101) dd dd e3 rfl (by rw [hml]; rfl) (argsL := [(.int (0 : Int32)), (.int (0 : Int32))]) (rest := []) (lenOf pd_8 rfl) rfl (wle rfl) (hb hby d25_15) rfl dd dd fun v5 T5 L5 hQ5 X5 => ?_
  obtain ⟨rfl, Nq5, hs5⟩ := hQ5
  have N5 := Fr.app N0 Nq5
  refine cs (fun t k => xastore X5 hc d25_18 rfl rfl rfl (xaloadN X5 hc d25_20 rfl rfl (xiloadN X5 hc d25_21 rfl (xiconst X5 hc d25_22 (xiadd X5 hc d25_23 rfl k))))) ?_
  show Comes p e below _ (T5.setTop (mkF m 24 #[vr rk, vi (0 : Int32), vi (0 : Int32), vr xa, .val .null] [(.int ((0 : Int32) + (1 : Int32))), (.ref xa)]))
  rw [show ((0 : Int32) + (1 : Int32)) = (1 : Int32) from by decide]
  refine cs (fun t k => xaloadN X5 hc d25_24 rfl rfl k) ?_
  refine Comes.gF X5 hx hZ hown (host := "") (Or.inl (W hw 108)) Via.refl hs5 G1 rfl rfl (hb hby d25_25) fun T6 X6 e6 => ?_
  refine cs (fun t k => xiloadN X6 hc d25_28 rfl k) ?_
  refine Comes.ldR X6 hx hZ e6 G3 rfl rfl (v := (.ref blk)) rfl (hb hby d25_29) ?_
  refine Comes.gR X6 hx hZ hown (W hw 154) Via.refl e6 G5 rfl rfl (hb hby d25_30) fun T8 X8 e8 => ?_
  refine cs (fun t k => xicmpNo X8 hc d25_33 rfl (tlt dd).2.1 (xaloadN X8 hc d25_36 rfl rfl k)) ?_
  refine Comes.gF X8 hx hZ hown (host := "") (Or.inl (W hw 108)) Via.refl e8 G1 rfl rfl (hb hby d25_37) fun T10 X10 e10 => ?_
  refine cs (fun t k => xiloadN X10 hc d25_40 rfl k) ?_
  show Comes p e below _ (T10.setTop (mkF m 41 #[vr rk, vi (0 : Int32), vi (0 : Int32), vr xa, .val .null] [(.int (0 : Int32)), (.ref bl), (.ref xa)]))
  refine Comes.ldR X10 hx hZ e10 G3 rfl rfl (v := (.ref blk)) rfl (hb hby d25_41) ?_
  refine Comes.gR X10 hx hZ hown (W hw 190) Via.refl e10 G4 rfl rfl (hb hby d25_42) fun T12 X12 e12 => ?_
  refine cs (fun t k => xiloadN X12 hc d25_45 rfl (xiconst X12 hc d25_46 (xiadd X12 hc d25_47 rfl k))) ?_
  show Comes p e below _ (T12.setTop (mkF m 48 #[vr rk, vi (0 : Int32), vi (0 : Int32), vr xa, .val .null] [(.int ((0 : Int32) + (1 : Int32))), (.ref os), (.ref xa)]))
  rw [show ((0 : Int32) + (1 : Int32)) = (1 : Int32) from by decide]
  refine Comes.ldR X12 hx hZ e12 G6 rfl rfl (v := (.ref xb)) rfl (hb hby d25_48) ?_
  refine cs (fun t k => xgoto X12 hc 49 59 d25_49 k) ?_
  refine Comes.pF X12 hx hZ hown (host := "") (Or.inl (W hw 199)) Via.refl e12 G9 G7 (Or.inl (W hw 200)) (W hw 42) (ty := (.object sOr)) dd rfl rfl rfl rfl (hb hby d25_59) fun T14 h14 X14 e14 W14 Fw14 => ?_
  have z14 : h14.size = h0.size := W14.size
  have N14 := Fr.snoc X14 N5 G10
  have K14 := K0.wr W14 (mE 0)
  refine cs (fun t k => xaload X14 hc d25_62 rfl rfl (XS.ifnullYes X14.here hx rfl (pc0 := 64) (pc' := 73) rfl (hb hby d25_64) rfl dd dd k)) ?_
  show Comes p e below _ (T14.setTop (mkF m 73 #[vr rk, vi (0 : Int32), vi (0 : Int32), vr xa, .val .null] []))
  exact Comes.ret0 X14 hx hret hlk (hb hby d25_73) e14 ⟨rfl, N14, K14, Fw14⟩ dd dd
def Q_link_2_1 (Z : State) (rk bl : Nat) (kb : ClassId) (blk os : Nat) (ko : ClassId) (xa xb : Nat) (vc wa wb : Value) (h0 : Heap) (n0 : Nat) (v_ : Option Value) (h : Heap) (L_ : List Loc) : Prop := (v_ = none) ∧ (Fr n0 L_) ∧ (Keep h0 h [xb, xa]) ∧ (Fld Z h xb sOr "after" dOr .null) ∧ (Fld Z h xa sOr "after" dOr (.ref xb))
theorem link_2_1 (l : Launch) (Z : State) (a0 : Array Value) (hw : ∀ d ∈ tables_1, d.before a0 Z = true) (ws : List Jvm.Cond) (rk bl : Nat) (kb : ClassId) (blk os : Nat) (ko : ClassId) (xa xb : Nat) (vc wa wb : Value) (h0 : Heap) (n0 : Nat) (Z0 : n0 ≤ h0.size) (G0 : Exa Z h0 rk sRk) (G1 : Fld Z h0 rk sRk "blocks" dBs (.ref bl)) (G2 : Fld Z h0 rk sRk "count" "I" (.int (1 : Int32))) (G3 : Arv Z h0 bl kb (.object sBk) (4 : Int32) [(.ref blk), .null, .null, .null] .null) (G4 : Fld Z h0 blk sBk "orders" dOs (.ref os)) (G5 : Fld Z h0 blk sBk "size" "I" (.int (2 : Int32))) (G6 : Arv Z h0 os ko (.object sOr) (64 : Int32) [(.ref xa), (.ref xb), vc] .null) (G7 : Exa Z h0 xa sOr) (G8 : Exa Z h0 xb sOr) (G9 : Fld Z h0 xb sOr "after" dOr wa) (G10 : Fld Z h0 xa sOr "after" dOr wb) (G11 : n0 ≤ xb) (G12 : n0 ≤ xa) (G13 : xb ≠ xa) (G14 : xb ≠ rk) (G15 : xb ≠ bl) (G16 : xb ≠ blk) (G17 : xb ≠ os) (G18 : xa ≠ rk) (G19 : xa ≠ bl) (G20 : xa ≠ blk) (G21 : xa ≠ os) :
    Con l Z y25 prog_27_method_9_code 5 none ws (Rm 1 0 0 16) #[(.ref rk), (.int (0 : Int32)), (.int (1 : Int32))] h0 (Q_link_2_1 Z rk bl kb blk os ko xa xb vc wa wb h0 n0) := by
  refine Con.of (plainFor_of_name pn_25) fun p e s m below meth c s₁ hx hby hml hZ hown hnm hlk hret X0 e0 => ?_
  have N0 := Fr.nil n0
  have hc := And.intro hx hby
  have K0 := Keep.refl h0 [xb, xa]
  refine Comes.cast (ef_obf_1 m rk) ?_
  have lt_rk : rk < h0.size := G0.lt
  have lt_bl : bl < h0.size := G3.lt
  have lt_blk : blk < h0.size := G4.lt
  have lt_os : os < h0.size := G6.lt
  have lt_xa : xa < h0.size := G7.lt
  have lt_xb : xb < h0.size := G8.lt
  refine cs (fun t k => xaloadN X0 hc d25_0 rfl rfl k) ?_
  refine Comes.gF X0 hx hZ hown (host := "") (Or.inl (W hw 108)) Via.refl e0 G1 rfl rfl (hb hby d25_1) fun T1 X1 e1 => ?_
  refine cs (fun t k => xiloadN X1 hc d25_4 rfl k) ?_
  refine Comes.ldR X1 hx hZ e1 G3 rfl rfl (v := (.ref blk)) rfl (hb hby d25_5) ?_
  refine Comes.gR X1 hx hZ hown (W hw 190) Via.refl e1 G4 rfl rfl (hb hby d25_6) fun T3 X3 e3 => ?_
  refine cs (fun t k => xiloadN X3 hc d25_9 rfl k) ?_
  refine Comes.ldR X3 hx hZ e3 G6 rfl rfl (v := (.ref xb)) rfl (hb hby d25_10) ?_
  refine cs (fun t k => xastoreN X3 hc d25_11 rfl rfl rfl (xaloadN X3 hc d25_12 rfl rfl (xiloadN X3 hc d25_13 rfl (xiloadN X3 hc d25_14 rfl k)))) ?_
  show Comes p e below _ (T3.setTop (mkF m 15 #[vr rk, vi (0 : Int32), vi (1 : Int32), vr xb, U0] [(.int (1 : Int32)), (.int (0 : Int32)), (.ref rk)]))
  refine Comes.cP X3 hx hZ hown (y := y26) (W := 0) (W hw 191) (W hw 192) (W hw 100) (W hw 193) dd (W hw 194) (obf_1 l Z a0 hw [] rk bl kb blk os ko xa ((.ref xb)) vc h0 n0 (by omega)  G1 G3 G4 G6) G0 (W hw 101) dd dd e3 rfl (by rw [hml]; rfl) (argsL := [(.int (0 : Int32)), (.int (1 : Int32))]) (rest := []) (lenOf pd_8 rfl) rfl (wle rfl) (hb hby d25_15) rfl dd dd fun v5 T5 L5 hQ5 X5 => ?_
  obtain ⟨rfl, Nq5, hs5⟩ := hQ5
  have N5 := Fr.app N0 Nq5
  refine cs (fun t k => xastore X5 hc d25_18 rfl rfl rfl (xaloadN X5 hc d25_20 rfl rfl (xiloadN X5 hc d25_21 rfl (xiconst X5 hc d25_22 (xiadd X5 hc d25_23 rfl k))))) ?_
  show Comes p e below _ (T5.setTop (mkF m 24 #[vr rk, vi (0 : Int32), vi (1 : Int32), vr xb, vr xa] [(.int ((1 : Int32) + (1 : Int32))), (.ref xb)]))
  rw [show ((1 : Int32) + (1 : Int32)) = (2 : Int32) from by decide]
  refine cs (fun t k => xaloadN X5 hc d25_24 rfl rfl k) ?_
  refine Comes.gF X5 hx hZ hown (host := "") (Or.inl (W hw 108)) Via.refl hs5 G1 rfl rfl (hb hby d25_25) fun T6 X6 e6 => ?_
  refine cs (fun t k => xiloadN X6 hc d25_28 rfl k) ?_
  refine Comes.ldR X6 hx hZ e6 G3 rfl rfl (v := (.ref blk)) rfl (hb hby d25_29) ?_
  refine Comes.gR X6 hx hZ hown (W hw 154) Via.refl e6 G5 rfl rfl (hb hby d25_30) fun T8 X8 e8 => ?_
  refine cs (fun t k => xicmpYes X8 hc 33 52 d25_33 rfl (flt dd).2.1 (xaloadN X8 hc d25_52 rfl rfl (xiloadN X8 hc d25_53 rfl (xiconst X8 hc d25_54 (xiadd X8 hc d25_55 rfl k))))) ?_
  show Comes p e below _ (T8.setTop (mkF m 56 #[vr rk, vi (0 : Int32), vi (1 : Int32), vr xb, vr xa] [(.int ((0 : Int32) + (1 : Int32))), (.ref rk), (.ref xb)]))
  rw [show ((0 : Int32) + (1 : Int32)) = (1 : Int32) from by decide]
  refine Comes.cP X8 hx hZ hown (y := y27) (W := 1) (W hw 195) (W hw 196) (W hw 100) (W hw 197) dd (W hw 198) (rm27 l Z a0 hw [] rk h0 n0 (by omega)  G2) G0 (W hw 101) dd dd e8 rfl (by rw [hml]; rfl) (argsL := [(.int (1 : Int32))]) (rest := [(.ref xb)]) (lenOf pd_9 rfl) rfl (wle rfl) (hb hby d25_56) rfl dd dd fun v10 T10 L10 hQ10 X10 => ?_
  obtain ⟨rfl, Nq10, hs10⟩ := hQ10
  have N10 := Fr.app N5 Nq10
  refine Comes.pF X10 hx hZ hown (host := "") (Or.inl (W hw 199)) Via.refl hs10 G9 G8 (Or.inl (W hw 200)) (W hw 42) (ty := (.object sOr)) dd rfl rfl rfl rfl (hb hby d25_59) fun T11 h11 X11 e11 W11 Fw11 => ?_
  have z11 : h11.size = h0.size := W11.size
  have N11 := Fr.snoc X11 N10 G11
  have K11 := K0.wr W11 (mE 0)
  refine cs (fun t k => xaload X11 hc d25_62 rfl rfl (XS.ifnullNo X11.here hx rfl (hb hby d25_64) rfl (xaload X11 hc d25_67 rfl rfl (xaloadN X11 hc d25_69 rfl rfl k)))) ?_
  have F12 := (G7.wr W11)
  have F13 := (G10.other W11 (Or.inl (Ne.symm G13)))
  refine Comes.pF X11 hx hZ hown (host := "") (Or.inl (W hw 199)) Via.refl e11 F13 F12 (Or.inl (W hw 200)) (W hw 42) (ty := (.object sOr)) dd rfl rfl rfl rfl (hb hby d25_70) fun T14 h14 X14 e14 W14 Fw14 => ?_
  have z14 : h14.size = h11.size := W14.size
  have N14 := Fr.snoc X14 N11 G12
  have K14 := K11.wr W14 (mE 1)
  show Comes p e below _ (T14.setTop (mkF m 73 #[vr rk, vi (0 : Int32), vi (1 : Int32), vr xb, vr xa] []))
  have F15 := (Fw11.other W14 (Or.inl G13))
  exact Comes.ret0 X14 hx hret hlk (hb hby d25_73) e14 ⟨rfl, N14, K14, F15, Fw14⟩ dd dd
def Q_link_3_0 (Z : State) (rk bl : Nat) (kb : ClassId) (blk os : Nat) (ko : ClassId) (xa xb xc : Nat) (wa : Value) (h0 : Heap) (n0 : Nat) (v_ : Option Value) (h : Heap) (L_ : List Loc) : Prop := (v_ = none) ∧ (Fr n0 L_) ∧ (Keep h0 h [xa]) ∧ (Fld Z h xa sOr "after" dOr (.ref xb))
theorem link_3_0 (l : Launch) (Z : State) (a0 : Array Value) (hw : ∀ d ∈ tables_1, d.before a0 Z = true) (ws : List Jvm.Cond) (rk bl : Nat) (kb : ClassId) (blk os : Nat) (ko : ClassId) (xa xb xc : Nat) (wa : Value) (h0 : Heap) (n0 : Nat) (Z0 : n0 ≤ h0.size) (G0 : Exa Z h0 rk sRk) (G1 : Fld Z h0 rk sRk "blocks" dBs (.ref bl)) (G2 : Fld Z h0 rk sRk "count" "I" (.int (1 : Int32))) (G3 : Arv Z h0 bl kb (.object sBk) (4 : Int32) [(.ref blk), .null, .null, .null] .null) (G4 : Fld Z h0 blk sBk "orders" dOs (.ref os)) (G5 : Fld Z h0 blk sBk "size" "I" (.int (3 : Int32))) (G6 : Arv Z h0 os ko (.object sOr) (64 : Int32) [(.ref xa), (.ref xb), (.ref xc)] .null) (G7 : Exa Z h0 xa sOr) (G8 : Exa Z h0 xb sOr) (G9 : Exa Z h0 xc sOr) (G10 : Fld Z h0 xa sOr "after" dOr wa) (G11 : n0 ≤ xa) (G12 : xa ≠ rk) (G13 : xa ≠ bl) (G14 : xa ≠ blk) (G15 : xa ≠ os) :
    Con l Z y25 prog_27_method_9_code 5 none ws (Rm 1 0 0 16) #[(.ref rk), (.int (0 : Int32)), (.int (0 : Int32))] h0 (Q_link_3_0 Z rk bl kb blk os ko xa xb xc wa h0 n0) := by
  refine Con.of (plainFor_of_name pn_25) fun p e s m below meth c s₁ hx hby hml hZ hown hnm hlk hret X0 e0 => ?_
  have N0 := Fr.nil n0
  have hc := And.intro hx hby
  have K0 := Keep.refl h0 [xa]
  refine Comes.cast (ef_obf_0 m rk) ?_
  have lt_rk : rk < h0.size := G0.lt
  have lt_bl : bl < h0.size := G3.lt
  have lt_blk : blk < h0.size := G4.lt
  have lt_os : os < h0.size := G6.lt
  have lt_xa : xa < h0.size := G7.lt
  have lt_xb : xb < h0.size := G8.lt
  have lt_xc : xc < h0.size := G9.lt
  refine cs (fun t k => xaloadN X0 hc d25_0 rfl rfl k) ?_
  refine Comes.gF X0 hx hZ hown (host := "") (Or.inl (W hw 108)) Via.refl e0 G1 rfl rfl (hb hby d25_1) fun T1 X1 e1 => ?_
  refine cs (fun t k => xiloadN X1 hc d25_4 rfl k) ?_
  refine Comes.ldR X1 hx hZ e1 G3 rfl rfl (v := (.ref blk)) rfl (hb hby d25_5) ?_
  refine Comes.gR X1 hx hZ hown (W hw 190) Via.refl e1 G4 rfl rfl (hb hby d25_6) fun T3 X3 e3 => ?_
  refine cs (fun t k => xiloadN X3 hc d25_9 rfl k) ?_
  refine Comes.ldR X3 hx hZ e3 G6 rfl rfl (v := (.ref xa)) rfl (hb hby d25_10) ?_
  refine cs (fun t k => xastoreN X3 hc d25_11 rfl rfl rfl (xaloadN X3 hc d25_12 rfl rfl (xiloadN X3 hc d25_13 rfl (xiloadN X3 hc d25_14 rfl k)))) ?_
  show Comes p e below _ (T3.setTop (mkF m 15 #[vr rk, vi (0 : Int32), vi (0 : Int32), vr xa, U0] [(.int (0 : Int32)), (.int (0 : Int32)), (.ref rk)]))
  refine Comes.cP X3 hx hZ hown (y := y26) (W := 0) (W hw 191) (W hw 192) (W hw 100) (W hw 193) dd (W hw 194) (obf_0 l Z a0 hw [] rk h0 n0 (by omega)  ) G0 (W hw 101) dd dd e3 rfl (by rw [hml]; rfl) (argsL := [(.int (0 : Int32)), (.int (0 : Int32))]) (rest := []) (lenOf pd_8 rfl) rfl (wle rfl) (hb hby d25_15) rfl dd dd fun v5 T5 L5 hQ5 X5 => ?_
  obtain ⟨rfl, Nq5, hs5⟩ := hQ5
  have N5 := Fr.app N0 Nq5
  refine cs (fun t k => xastore X5 hc d25_18 rfl rfl rfl (xaloadN X5 hc d25_20 rfl rfl (xiloadN X5 hc d25_21 rfl (xiconst X5 hc d25_22 (xiadd X5 hc d25_23 rfl k))))) ?_
  show Comes p e below _ (T5.setTop (mkF m 24 #[vr rk, vi (0 : Int32), vi (0 : Int32), vr xa, .val .null] [(.int ((0 : Int32) + (1 : Int32))), (.ref xa)]))
  rw [show ((0 : Int32) + (1 : Int32)) = (1 : Int32) from by decide]
  refine cs (fun t k => xaloadN X5 hc d25_24 rfl rfl k) ?_
  refine Comes.gF X5 hx hZ hown (host := "") (Or.inl (W hw 108)) Via.refl hs5 G1 rfl rfl (hb hby d25_25) fun T6 X6 e6 => ?_
  refine cs (fun t k => xiloadN X6 hc d25_28 rfl k) ?_
  refine Comes.ldR X6 hx hZ e6 G3 rfl rfl (v := (.ref blk)) rfl (hb hby d25_29) ?_
  refine Comes.gR X6 hx hZ hown (W hw 154) Via.refl e6 G5 rfl rfl (hb hby d25_30) fun T8 X8 e8 => ?_
  refine cs (fun t k => xicmpNo X8 hc d25_33 rfl (tlt dd).2.1 (xaloadN X8 hc d25_36 rfl rfl k)) ?_
  refine Comes.gF X8 hx hZ hown (host := "") (Or.inl (W hw 108)) Via.refl e8 G1 rfl rfl (hb hby d25_37) fun T10 X10 e10 => ?_
  refine cs (fun t k => xiloadN X10 hc d25_40 rfl k) ?_
  show Comes p e below _ (T10.setTop (mkF m 41 #[vr rk, vi (0 : Int32), vi (0 : Int32), vr xa, .val .null] [(.int (0 : Int32)), (.ref bl), (.ref xa)]))
  refine Comes.ldR X10 hx hZ e10 G3 rfl rfl (v := (.ref blk)) rfl (hb hby d25_41) ?_
  refine Comes.gR X10 hx hZ hown (W hw 190) Via.refl e10 G4 rfl rfl (hb hby d25_42) fun T12 X12 e12 => ?_
  refine cs (fun t k => xiloadN X12 hc d25_45 rfl (xiconst X12 hc d25_46 (xiadd X12 hc d25_47 rfl k))) ?_
  show Comes p e below _ (T12.setTop (mkF m 48 #[vr rk, vi (0 : Int32), vi (0 : Int32), vr xa, .val .null] [(.int ((0 : Int32) + (1 : Int32))), (.ref os), (.ref xa)]))
  rw [show ((0 : Int32) + (1 : Int32)) = (1 : Int32) from by decide]
  refine Comes.ldR X12 hx hZ e12 G6 rfl rfl (v := (.ref xb)) rfl (hb hby d25_48) ?_
  refine cs (fun t k => xgoto X12 hc 49 59 d25_49 k) ?_
  refine Comes.pF X12 hx hZ hown (host := "") (Or.inl (W hw 199)) Via.refl e12 G10 G7 (Or.inl (W hw 200)) (W hw 42) (ty := (.object sOr)) dd rfl rfl rfl rfl (hb hby d25_59) fun T14 h14 X14 e14 W14 Fw14 => ?_
  have z14 : h14.size = h0.size := W14.size
  have N14 := Fr.snoc X14 N5 G11
  have K14 := K0.wr W14 (mE 0)
  refine cs (fun t k => xaload X14 hc d25_62 rfl rfl (XS.ifnullYes X14.here hx rfl (pc0 := 64) (pc' := 73) rfl (hb hby d25_64) rfl dd dd k)) ?_
  show Comes p e below _ (T14.setTop (mkF m 73 #[vr rk, vi (0 : Int32), vi (0 : Int32), vr xa, .val .null] []))
  exact Comes.ret0 X14 hx hret hlk (hb hby d25_73) e14 ⟨rfl, N14, K14, Fw14⟩ dd dd
def Q_link_3_1 (Z : State) (rk bl : Nat) (kb : ClassId) (blk os : Nat) (ko : ClassId) (xa xb xc : Nat) (wa wb : Value) (h0 : Heap) (n0 : Nat) (v_ : Option Value) (h : Heap) (L_ : List Loc) : Prop := (v_ = none) ∧ (Fr n0 L_) ∧ (Keep h0 h [xb, xa]) ∧ (Fld Z h xb sOr "after" dOr (.ref xc)) ∧ (Fld Z h xa sOr "after" dOr (.ref xb))
theorem link_3_1 (l : Launch) (Z : State) (a0 : Array Value) (hw : ∀ d ∈ tables_1, d.before a0 Z = true) (ws : List Jvm.Cond) (rk bl : Nat) (kb : ClassId) (blk os : Nat) (ko : ClassId) (xa xb xc : Nat) (wa wb : Value) (h0 : Heap) (n0 : Nat) (Z0 : n0 ≤ h0.size) (G0 : Exa Z h0 rk sRk) (G1 : Fld Z h0 rk sRk "blocks" dBs (.ref bl)) (G2 : Fld Z h0 rk sRk "count" "I" (.int (1 : Int32))) (G3 : Arv Z h0 bl kb (.object sBk) (4 : Int32) [(.ref blk), .null, .null, .null] .null) (G4 : Fld Z h0 blk sBk "orders" dOs (.ref os)) (G5 : Fld Z h0 blk sBk "size" "I" (.int (3 : Int32))) (G6 : Arv Z h0 os ko (.object sOr) (64 : Int32) [(.ref xa), (.ref xb), (.ref xc)] .null) (G7 : Exa Z h0 xa sOr) (G8 : Exa Z h0 xb sOr) (G9 : Exa Z h0 xc sOr) (G10 : Fld Z h0 xb sOr "after" dOr wa) (G11 : Fld Z h0 xa sOr "after" dOr wb) (G12 : n0 ≤ xb) (G13 : n0 ≤ xa) (G14 : xb ≠ xa) (G15 : xb ≠ rk) (G16 : xb ≠ bl) (G17 : xb ≠ blk) (G18 : xb ≠ os) (G19 : xa ≠ rk) (G20 : xa ≠ bl) (G21 : xa ≠ blk) (G22 : xa ≠ os) :
    Con l Z y25 prog_27_method_9_code 5 none ws (Rm 1 0 0 16) #[(.ref rk), (.int (0 : Int32)), (.int (1 : Int32))] h0 (Q_link_3_1 Z rk bl kb blk os ko xa xb xc wa wb h0 n0) := by
  refine Con.of (plainFor_of_name pn_25) fun p e s m below meth c s₁ hx hby hml hZ hown hnm hlk hret X0 e0 => ?_
  have N0 := Fr.nil n0
  have hc := And.intro hx hby
  have K0 := Keep.refl h0 [xb, xa]
  refine Comes.cast (ef_obf_1 m rk) ?_
  have lt_rk : rk < h0.size := G0.lt
  have lt_bl : bl < h0.size := G3.lt
  have lt_blk : blk < h0.size := G4.lt
  have lt_os : os < h0.size := G6.lt
  have lt_xa : xa < h0.size := G7.lt
  have lt_xb : xb < h0.size := G8.lt
  have lt_xc : xc < h0.size := G9.lt
  refine cs (fun t k => xaloadN X0 hc d25_0 rfl rfl k) ?_
  refine Comes.gF X0 hx hZ hown (host := "") (Or.inl (W hw 108)) Via.refl e0 G1 rfl rfl (hb hby d25_1) fun T1 X1 e1 => ?_
  refine cs (fun t k => xiloadN X1 hc d25_4 rfl k) ?_
  refine Comes.ldR X1 hx hZ e1 G3 rfl rfl (v := (.ref blk)) rfl (hb hby d25_5) ?_
  refine Comes.gR X1 hx hZ hown (W hw 190) Via.refl e1 G4 rfl rfl (hb hby d25_6) fun T3 X3 e3 => ?_
  refine cs (fun t k => xiloadN X3 hc d25_9 rfl k) ?_
  refine Comes.ldR X3 hx hZ e3 G6 rfl rfl (v := (.ref xb)) rfl (hb hby d25_10) ?_
  refine cs (fun t k => xastoreN X3 hc d25_11 rfl rfl rfl (xaloadN X3 hc d25_12 rfl rfl (xiloadN X3 hc d25_13 rfl (xiloadN X3 hc d25_14 rfl k)))) ?_
  show Comes p e below _ (T3.setTop (mkF m 15 #[vr rk, vi (0 : Int32), vi (1 : Int32), vr xb, U0] [(.int (1 : Int32)), (.int (0 : Int32)), (.ref rk)]))
  refine Comes.cP X3 hx hZ hown (y := y26) (W := 0) (W hw 191) (W hw 192) (W hw 100) (W hw 193) dd (W hw 194) (obf_1 l Z a0 hw [] rk bl kb blk os ko xa ((.ref xb)) ((.ref xc)) h0 n0 (by omega)  G1 G3 G4 G6) G0 (W hw 101) dd dd e3 rfl (by rw [hml]; rfl) (argsL := [(.int (0 : Int32)), (.int (1 : Int32))]) (rest := []) (lenOf pd_8 rfl) rfl (wle rfl) (hb hby d25_15) rfl dd dd fun v5 T5 L5 hQ5 X5 => ?_
  obtain ⟨rfl, Nq5, hs5⟩ := hQ5
  have N5 := Fr.app N0 Nq5
  refine cs (fun t k => xastore X5 hc d25_18 rfl rfl rfl (xaloadN X5 hc d25_20 rfl rfl (xiloadN X5 hc d25_21 rfl (xiconst X5 hc d25_22 (xiadd X5 hc d25_23 rfl k))))) ?_
  show Comes p e below _ (T5.setTop (mkF m 24 #[vr rk, vi (0 : Int32), vi (1 : Int32), vr xb, vr xa] [(.int ((1 : Int32) + (1 : Int32))), (.ref xb)]))
  rw [show ((1 : Int32) + (1 : Int32)) = (2 : Int32) from by decide]
  refine cs (fun t k => xaloadN X5 hc d25_24 rfl rfl k) ?_
  refine Comes.gF X5 hx hZ hown (host := "") (Or.inl (W hw 108)) Via.refl hs5 G1 rfl rfl (hb hby d25_25) fun T6 X6 e6 => ?_
  refine cs (fun t k => xiloadN X6 hc d25_28 rfl k) ?_
  refine Comes.ldR X6 hx hZ e6 G3 rfl rfl (v := (.ref blk)) rfl (hb hby d25_29) ?_
  refine Comes.gR X6 hx hZ hown (W hw 154) Via.refl e6 G5 rfl rfl (hb hby d25_30) fun T8 X8 e8 => ?_
  refine cs (fun t k => xicmpNo X8 hc d25_33 rfl (tlt dd).2.1 (xaloadN X8 hc d25_36 rfl rfl k)) ?_
  refine Comes.gF X8 hx hZ hown (host := "") (Or.inl (W hw 108)) Via.refl e8 G1 rfl rfl (hb hby d25_37) fun T10 X10 e10 => ?_
  refine cs (fun t k => xiloadN X10 hc d25_40 rfl k) ?_
  show Comes p e below _ (T10.setTop (mkF m 41 #[vr rk, vi (0 : Int32), vi (1 : Int32), vr xb, vr xa] [(.int (0 : Int32)), (.ref bl), (.ref xb)]))
  refine Comes.ldR X10 hx hZ e10 G3 rfl rfl (v := (.ref blk)) rfl (hb hby d25_41) ?_
  refine Comes.gR X10 hx hZ hown (W hw 190) Via.refl e10 G4 rfl rfl (hb hby d25_42) fun T12 X12 e12 => ?_
  refine cs (fun t k => xiloadN X12 hc d25_45 rfl (xiconst X12 hc d25_46 (xiadd X12 hc d25_47 rfl k))) ?_
  show Comes p e below _ (T12.setTop (mkF m 48 #[vr rk, vi (0 : Int32), vi (1 : Int32), vr xb, vr xa] [(.int ((1 : Int32) + (1 : Int32))), (.ref os), (.ref xb)]))
  rw [show ((1 : Int32) + (1 : Int32)) = (2 : Int32) from by decide]
  refine Comes.ldR X12 hx hZ e12 G6 rfl rfl (v := (.ref xc)) rfl (hb hby d25_48) ?_
  refine cs (fun t k => xgoto X12 hc 49 59 d25_49 k) ?_
  refine Comes.pF X12 hx hZ hown (host := "") (Or.inl (W hw 199)) Via.refl e12 G10 G8 (Or.inl (W hw 200)) (W hw 42) (ty := (.object sOr)) dd rfl rfl rfl rfl (hb hby d25_59) fun T14 h14 X14 e14 W14 Fw14 => ?_
  have z14 : h14.size = h0.size := W14.size
  have N14 := Fr.snoc X14 N5 G12
  have K14 := K0.wr W14 (mE 0)
  refine cs (fun t k => xaload X14 hc d25_62 rfl rfl (XS.ifnullNo X14.here hx rfl (hb hby d25_64) rfl (xaload X14 hc d25_67 rfl rfl (xaloadN X14 hc d25_69 rfl rfl k)))) ?_
  have F15 := (G7.wr W14)
  have F16 := (G11.other W14 (Or.inl (Ne.symm G14)))
  refine Comes.pF X14 hx hZ hown (host := "") (Or.inl (W hw 199)) Via.refl e14 F16 F15 (Or.inl (W hw 200)) (W hw 42) (ty := (.object sOr)) dd rfl rfl rfl rfl (hb hby d25_70) fun T17 h17 X17 e17 W17 Fw17 => ?_
  have z17 : h17.size = h14.size := W17.size
  have N17 := Fr.snoc X17 N14 G13
  have K17 := K14.wr W17 (mE 1)
  show Comes p e below _ (T17.setTop (mkF m 73 #[vr rk, vi (0 : Int32), vi (1 : Int32), vr xb, vr xa] []))
  have F18 := (Fw14.other W17 (Or.inl G14))
  exact Comes.ret0 X17 hx hret hlk (hb hby d25_73) e17 ⟨rfl, N17, K17, F18, Fw17⟩ dd dd
def Q_link_3_2 (Z : State) (rk bl : Nat) (kb : ClassId) (blk os : Nat) (ko : ClassId) (xa xb xc : Nat) (wa wb : Value) (h0 : Heap) (n0 : Nat) (v_ : Option Value) (h : Heap) (L_ : List Loc) : Prop := (v_ = none) ∧ (Fr n0 L_) ∧ (Keep h0 h [xc, xb]) ∧ (Fld Z h xc sOr "after" dOr .null) ∧ (Fld Z h xb sOr "after" dOr (.ref xc))
theorem link_3_2 (l : Launch) (Z : State) (a0 : Array Value) (hw : ∀ d ∈ tables_1, d.before a0 Z = true) (ws : List Jvm.Cond) (rk bl : Nat) (kb : ClassId) (blk os : Nat) (ko : ClassId) (xa xb xc : Nat) (wa wb : Value) (h0 : Heap) (n0 : Nat) (Z0 : n0 ≤ h0.size) (G0 : Exa Z h0 rk sRk) (G1 : Fld Z h0 rk sRk "blocks" dBs (.ref bl)) (G2 : Fld Z h0 rk sRk "count" "I" (.int (1 : Int32))) (G3 : Arv Z h0 bl kb (.object sBk) (4 : Int32) [(.ref blk), .null, .null, .null] .null) (G4 : Fld Z h0 blk sBk "orders" dOs (.ref os)) (G5 : Fld Z h0 blk sBk "size" "I" (.int (3 : Int32))) (G6 : Arv Z h0 os ko (.object sOr) (64 : Int32) [(.ref xa), (.ref xb), (.ref xc)] .null) (G7 : Exa Z h0 xa sOr) (G8 : Exa Z h0 xb sOr) (G9 : Exa Z h0 xc sOr) (G10 : Fld Z h0 xc sOr "after" dOr wa) (G11 : Fld Z h0 xb sOr "after" dOr wb) (G12 : n0 ≤ xc) (G13 : n0 ≤ xb) (G14 : xc ≠ xb) (G15 : xc ≠ rk) (G16 : xc ≠ bl) (G17 : xc ≠ blk) (G18 : xc ≠ os) (G19 : xb ≠ rk) (G20 : xb ≠ bl) (G21 : xb ≠ blk) (G22 : xb ≠ os) :
    Con l Z y25 prog_27_method_9_code 5 none ws (Rm 1 0 0 16) #[(.ref rk), (.int (0 : Int32)), (.int (2 : Int32))] h0 (Q_link_3_2 Z rk bl kb blk os ko xa xb xc wa wb h0 n0) := by
  refine Con.of (plainFor_of_name pn_25) fun p e s m below meth c s₁ hx hby hml hZ hown hnm hlk hret X0 e0 => ?_
  have N0 := Fr.nil n0
  have hc := And.intro hx hby
  have K0 := Keep.refl h0 [xc, xb]
  refine Comes.cast (ef_obf_2 m rk) ?_
  have lt_rk : rk < h0.size := G0.lt
  have lt_bl : bl < h0.size := G3.lt
  have lt_blk : blk < h0.size := G4.lt
  have lt_os : os < h0.size := G6.lt
  have lt_xa : xa < h0.size := G7.lt
  have lt_xb : xb < h0.size := G8.lt
  have lt_xc : xc < h0.size := G9.lt
  refine cs (fun t k => xaloadN X0 hc d25_0 rfl rfl k) ?_
  refine Comes.gF X0 hx hZ hown (host := "") (Or.inl (W hw 108)) Via.refl e0 G1 rfl rfl (hb hby d25_1) fun T1 X1 e1 => ?_
  refine cs (fun t k => xiloadN X1 hc d25_4 rfl k) ?_
  refine Comes.ldR X1 hx hZ e1 G3 rfl rfl (v := (.ref blk)) rfl (hb hby d25_5) ?_
  refine Comes.gR X1 hx hZ hown (W hw 190) Via.refl e1 G4 rfl rfl (hb hby d25_6) fun T3 X3 e3 => ?_
  refine cs (fun t k => xiloadN X3 hc d25_9 rfl k) ?_
  refine Comes.ldR X3 hx hZ e3 G6 rfl rfl (v := (.ref xc)) rfl (hb hby d25_10) ?_
  refine cs (fun t k => xastoreN X3 hc d25_11 rfl rfl rfl (xaloadN X3 hc d25_12 rfl rfl (xiloadN X3 hc d25_13 rfl (xiloadN X3 hc d25_14 rfl k)))) ?_
  show Comes p e below _ (T3.setTop (mkF m 15 #[vr rk, vi (0 : Int32), vi (2 : Int32), vr xc, U0] [(.int (2 : Int32)), (.int (0 : Int32)), (.ref rk)]))
  refine Comes.cP X3 hx hZ hown (y := y26) (W := 0) (W hw 191) (W hw 192) (W hw 100) (W hw 193) dd (W hw 194) (obf_2 l Z a0 hw [] rk bl kb blk os ko ((.ref xa)) xb ((.ref xc)) h0 n0 (by omega)  G1 G3 G4 G6) G0 (W hw 101) dd dd e3 rfl (by rw [hml]; rfl) (argsL := [(.int (0 : Int32)), (.int (2 : Int32))]) (rest := []) (lenOf pd_8 rfl) rfl (wle rfl) (hb hby d25_15) rfl dd dd fun v5 T5 L5 hQ5 X5 => ?_
  obtain ⟨rfl, Nq5, hs5⟩ := hQ5
  have N5 := Fr.app N0 Nq5
  refine cs (fun t k => xastore X5 hc d25_18 rfl rfl rfl (xaloadN X5 hc d25_20 rfl rfl (xiloadN X5 hc d25_21 rfl (xiconst X5 hc d25_22 (xiadd X5 hc d25_23 rfl k))))) ?_
  show Comes p e below _ (T5.setTop (mkF m 24 #[vr rk, vi (0 : Int32), vi (2 : Int32), vr xc, vr xb] [(.int ((2 : Int32) + (1 : Int32))), (.ref xc)]))
  rw [show ((2 : Int32) + (1 : Int32)) = (3 : Int32) from by decide]
  refine cs (fun t k => xaloadN X5 hc d25_24 rfl rfl k) ?_
  refine Comes.gF X5 hx hZ hown (host := "") (Or.inl (W hw 108)) Via.refl hs5 G1 rfl rfl (hb hby d25_25) fun T6 X6 e6 => ?_
  refine cs (fun t k => xiloadN X6 hc d25_28 rfl k) ?_
  refine Comes.ldR X6 hx hZ e6 G3 rfl rfl (v := (.ref blk)) rfl (hb hby d25_29) ?_
  refine Comes.gR X6 hx hZ hown (W hw 154) Via.refl e6 G5 rfl rfl (hb hby d25_30) fun T8 X8 e8 => ?_
  refine cs (fun t k => xicmpYes X8 hc 33 52 d25_33 rfl (flt dd).2.1 (xaloadN X8 hc d25_52 rfl rfl (xiloadN X8 hc d25_53 rfl (xiconst X8 hc d25_54 (xiadd X8 hc d25_55 rfl k))))) ?_
  show Comes p e below _ (T8.setTop (mkF m 56 #[vr rk, vi (0 : Int32), vi (2 : Int32), vr xc, vr xb] [(.int ((0 : Int32) + (1 : Int32))), (.ref rk), (.ref xc)]))
  rw [show ((0 : Int32) + (1 : Int32)) = (1 : Int32) from by decide]
  refine Comes.cP X8 hx hZ hown (y := y27) (W := 1) (W hw 195) (W hw 196) (W hw 100) (W hw 197) dd (W hw 198) (rm27 l Z a0 hw [] rk h0 n0 (by omega)  G2) G0 (W hw 101) dd dd e8 rfl (by rw [hml]; rfl) (argsL := [(.int (1 : Int32))]) (rest := [(.ref xc)]) (lenOf pd_9 rfl) rfl (wle rfl) (hb hby d25_56) rfl dd dd fun v10 T10 L10 hQ10 X10 => ?_
  obtain ⟨rfl, Nq10, hs10⟩ := hQ10
  have N10 := Fr.app N5 Nq10
  refine Comes.pF X10 hx hZ hown (host := "") (Or.inl (W hw 199)) Via.refl hs10 G10 G9 (Or.inl (W hw 200)) (W hw 42) (ty := (.object sOr)) dd rfl rfl rfl rfl (hb hby d25_59) fun T11 h11 X11 e11 W11 Fw11 => ?_
  have z11 : h11.size = h0.size := W11.size
  have N11 := Fr.snoc X11 N10 G12
  have K11 := K0.wr W11 (mE 0)
  refine cs (fun t k => xaload X11 hc d25_62 rfl rfl (XS.ifnullNo X11.here hx rfl (hb hby d25_64) rfl (xaload X11 hc d25_67 rfl rfl (xaloadN X11 hc d25_69 rfl rfl k)))) ?_
  have F12 := (G8.wr W11)
  have F13 := (G11.other W11 (Or.inl (Ne.symm G14)))
  refine Comes.pF X11 hx hZ hown (host := "") (Or.inl (W hw 199)) Via.refl e11 F13 F12 (Or.inl (W hw 200)) (W hw 42) (ty := (.object sOr)) dd rfl rfl rfl rfl (hb hby d25_70) fun T14 h14 X14 e14 W14 Fw14 => ?_
  have z14 : h14.size = h11.size := W14.size
  have N14 := Fr.snoc X14 N11 G13
  have K14 := K11.wr W14 (mE 1)
  show Comes p e below _ (T14.setTop (mkF m 73 #[vr rk, vi (0 : Int32), vi (2 : Int32), vr xc, vr xb] []))
  have F15 := (Fw11.other W14 (Or.inl G14))
  exact Comes.ret0 X14 hx hret hlk (hb hby d25_73) e14 ⟨rfl, N14, K14, F15, Fw14⟩ dd dd
def Q_rm30 (Z : State) (rk bl : Nat) (kb : ClassId) (blk os : Nat) (ko : ClassId) (xa : Nat) (vb vc wa : Value) (h0 : Heap) (n0 : Nat) (v_ : Option Value) (h : Heap) (L_ : List Loc) : Prop := (v_ = none) ∧ (Fr n0 L_) ∧ (Keep h0 h [xa])
theorem rm30 (l : Launch) (Z : State) (a0 : Array Value) (hw : ∀ d ∈ tables_1, d.before a0 Z = true) (ws : List Jvm.Cond) (rk bl : Nat) (kb : ClassId) (blk os : Nat) (ko : ClassId) (xa : Nat) (vb vc wa : Value) (h0 : Heap) (n0 : Nat) (Z0 : n0 ≤ h0.size) (G0 : Exa Z h0 rk sRk) (G1 : Fld Z h0 rk sRk "blocks" dBs (.ref bl)) (G2 : Fld Z h0 rk sRk "count" "I" (.int (1 : Int32))) (G3 : Arv Z h0 bl kb (.object sBk) (4 : Int32) [(.ref blk), .null, .null, .null] .null) (G4 : Fld Z h0 blk sBk "orders" dOs (.ref os)) (G5 : Arv Z h0 os ko (.object sOr) (64 : Int32) [(.ref xa), vb, vc] .null) (G6 : Exa Z h0 xa sOr) (G7 : Fld Z h0 xa sOr "after" dOr wa) (G8 : n0 ≤ xa) (G9 : xa ≠ rk) (G10 : xa ≠ bl) (G11 : xa ≠ blk) (G12 : xa ≠ os) :
    Con l Z y30 prog_27_method_10_code 5 none ws (Rm 1 0 0 16) #[(.ref rk), (.int (0 : Int32)), (.int (0 : Int32))] h0 (Q_rm30 Z rk bl kb blk os ko xa vb vc wa h0 n0) := by
  refine Con.of (plainFor_of_name pn_30) fun p e s m below meth c s₁ hx hby hml hZ hown hnm hlk hret X0 e0 => ?_
  have N0 := Fr.nil n0
  have hc := And.intro hx hby
  have K0 := Keep.refl h0 [xa]
  refine Comes.cast (ef_obf_0 m rk) ?_
  have lt_rk : rk < h0.size := G0.lt
  have lt_bl : bl < h0.size := G3.lt
  have lt_blk : blk < h0.size := G4.lt
  have lt_os : os < h0.size := G5.lt
  have lt_xa : xa < h0.size := G6.lt
  refine cs (fun t k => xaloadN X0 hc d30_0 rfl rfl k) ?_
  refine Comes.gF X0 hx hZ hown (host := "") (Or.inl (W hw 108)) Via.refl e0 G1 rfl rfl (hb hby d30_1) fun T1 X1 e1 => ?_
  refine cs (fun t k => xiloadN X1 hc d30_4 rfl k) ?_
  refine Comes.ldR X1 hx hZ e1 G3 rfl rfl (v := (.ref blk)) rfl (hb hby d30_5) ?_
  refine Comes.gR X1 hx hZ hown (W hw 190) Via.refl e1 G4 rfl rfl (hb hby d30_6) fun T3 X3 e3 => ?_
  refine cs (fun t k => xiloadN X3 hc d30_9 rfl k) ?_
  refine Comes.ldR X3 hx hZ e3 G5 rfl rfl (v := (.ref xa)) rfl (hb hby d30_10) ?_
  refine cs (fun t k => xastoreN X3 hc d30_11 rfl rfl rfl (xaloadN X3 hc d30_12 rfl rfl (xiloadN X3 hc d30_13 rfl (xiloadN X3 hc d30_14 rfl k)))) ?_
  show Comes p e below _ (T3.setTop (mkF m 15 #[vr rk, vi (0 : Int32), vi (0 : Int32), vr xa, U0] [(.int (0 : Int32)), (.int (0 : Int32)), (.ref rk)]))
  refine Comes.cP X3 hx hZ hown (y := y26) (W := 0) (W hw 191) (W hw 192) (W hw 100) (W hw 193) dd (W hw 194) (obf_0 l Z a0 hw [] rk h0 n0 (by omega)  ) G0 (W hw 101) dd dd e3 rfl (by rw [hml]; rfl) (argsL := [(.int (0 : Int32)), (.int (0 : Int32))]) (rest := []) (lenOf pd_8 rfl) rfl (wle rfl) (hb hby d30_15) rfl dd dd fun v5 T5 L5 hQ5 X5 => ?_
  obtain ⟨rfl, Nq5, hs5⟩ := hQ5
  have N5 := Fr.app N0 Nq5
  refine cs (fun t k => xastore X5 hc d30_18 rfl rfl rfl (xaload X5 hc d30_20 rfl rfl (XS.ifnullYes X5.here hx rfl (pc0 := 22) (pc' := 34) rfl (hb hby d30_22) rfl dd dd (xaloadN X5 hc d30_34 rfl rfl (XS.aconstNull X5.here hx rfl (hb hby d30_35) k))))) ?_
  refine Comes.pF X5 hx hZ hown (host := "") (Or.inl (W hw 199)) Via.refl hs5 G7 G6 (Or.inl (W hw 200)) (W hw 42) (ty := (.object sOr)) dd rfl rfl rfl rfl (hb hby d30_36) fun T6 h6 X6 e6 W6 Fw6 => ?_
  have z6 : h6.size = h0.size := W6.size
  have N6 := Fr.snoc X6 N5 G8
  have K6 := K0.wr W6 (mE 0)
  show Comes p e below _ (T6.setTop (mkF m 39 #[vr rk, vi (0 : Int32), vi (0 : Int32), vr xa, .val .null] []))
  exact Comes.ret0 X6 hx hret hlk (hb hby d30_39) e6 ⟨rfl, N6, K6⟩ dd dd
def Q_pof_1 (Z : State) (rk blk xa os : Nat) (ko : ClassId) (vb vc : Value) (h0 : Heap) (n0 : Nat) (v_ : Option Value) (h : Heap) (L_ : List Loc) : Prop := (v_ = some (.int (0 : Int32))) ∧ (Fr n0 L_) ∧ (h = h0)
theorem pof_1 (l : Launch) (Z : State) (a0 : Array Value) (hw : ∀ d ∈ tables_1, d.before a0 Z = true) (ws : List Jvm.Cond) (rk blk xa os : Nat) (ko : ClassId) (vb vc : Value) (h0 : Heap) (n0 : Nat) (Z0 : n0 ≤ h0.size) (G0 : Fld Z h0 blk sBk "size" "I" (.int (1 : Int32))) (G1 : Fld Z h0 blk sBk "orders" dOs (.ref os)) (G2 : Arv Z h0 os ko (.object sOr) (64 : Int32) [(.ref xa), vb, vc] .null) :
    Con l Z y29 prog_27_method_15_code 4 (some .int) ws (Rm 0 0 0 0) #[(.ref rk), (.ref blk), (.ref xa)] h0 (Q_pof_1 Z rk blk xa os ko vb vc h0 n0) := by
  refine Con.of (plainFor_of_name pn_29) fun p e s m below meth c s₁ hx hby hml hZ hown hnm hlk hret X0 e0 => ?_
  have N0 := Fr.nil n0
  have hc := And.intro hx hby
  refine Comes.cast (ef_pof_1 m rk blk xa) ?_
  have lt_blk : blk < h0.size := G0.lt
  have lt_os : os < h0.size := G2.lt
  refine cs (fun t k => xiconst X0 hc d29_0 (xistoreN X0 hc d29_1 rfl rfl (xiloadN X0 hc d29_2 rfl (xaloadN X0 hc d29_3 rfl rfl k)))) ?_
  refine Comes.gR X0 hx hZ hown (W hw 154) Via.refl e0 G0 rfl rfl (hb hby d29_4) fun T1 X1 e1 => ?_
  refine cs (fun t k => xicmpNo X1 hc d29_7 rfl (tlt dd).2.1 (xaloadN X1 hc d29_10 rfl rfl k)) ?_
  refine Comes.gR X1 hx hZ hown (W hw 190) Via.refl e1 G1 rfl rfl (hb hby d29_11) fun T3 X3 e3 => ?_
  refine cs (fun t k => xiloadN X3 hc d29_14 rfl k) ?_
  show Comes p e below _ (T3.setTop (mkF m 15 #[vr rk, vr blk, vr xa, vi (0 : Int32)] [(.int (0 : Int32)), (.ref os)]))
  refine Comes.ldR X3 hx hZ e3 G2 rfl rfl (v := (.ref xa)) rfl (hb hby d29_15) ?_
  refine cs (fun t k => xaloadN X3 hc d29_16 rfl rfl k) ?_
  have hc17_5 : xa = xa := by rfl
  refine cs (fun t k => Jvm.RoadKit.acmp (g := (mkF m 17 #[vr rk, vr blk, vr xa, vi (0 : Int32)] [(.ref xa), (.ref xa)])) X3 hx rfl rfl rfl (pc0 := 17) (pc' := 26) (same := true) rfl (hb hby d29_17) rfl (decide_eq_true (congrArg Value.ref hc17_5)) dd dd (xiloadN X3 hc d29_26 rfl (xaloadN X3 hc d29_27 rfl rfl k))) ?_
  refine Comes.gR X3 hx hZ hown (W hw 154) Via.refl e3 G0 rfl rfl (hb hby d29_28) fun T6 X6 e6 => ?_
  refine cs (fun t k => xicmpYes X6 hc 31 51 d29_31 rfl (feq dd).2 (xiloadN X6 hc d29_51 rfl k)) ?_
  show Comes p e below _ (T6.setTop (mkF m 52 #[vr rk, vr blk, vr xa, vi (0 : Int32)] [(.int (0 : Int32))]))
  exact Comes.retV X6 hx hret rfl (Or.inl ⟨rfl, Or.inl rfl, _, rfl⟩) hlk (hb hby d29_52) e6 ⟨rfl, N0, rfl⟩ dd dd
def Q_pof_2 (Z : State) (rk blk xa os : Nat) (ko : ClassId) (vb vc : Value) (h0 : Heap) (n0 : Nat) (v_ : Option Value) (h : Heap) (L_ : List Loc) : Prop := (v_ = some (.int (0 : Int32))) ∧ (Fr n0 L_) ∧ (h = h0)
theorem pof_2 (l : Launch) (Z : State) (a0 : Array Value) (hw : ∀ d ∈ tables_1, d.before a0 Z = true) (ws : List Jvm.Cond) (rk blk xa os : Nat) (ko : ClassId) (vb vc : Value) (h0 : Heap) (n0 : Nat) (Z0 : n0 ≤ h0.size) (G0 : Fld Z h0 blk sBk "size" "I" (.int (2 : Int32))) (G1 : Fld Z h0 blk sBk "orders" dOs (.ref os)) (G2 : Arv Z h0 os ko (.object sOr) (64 : Int32) [(.ref xa), vb, vc] .null) :
    Con l Z y29 prog_27_method_15_code 4 (some .int) ws (Rm 0 0 0 0) #[(.ref rk), (.ref blk), (.ref xa)] h0 (Q_pof_2 Z rk blk xa os ko vb vc h0 n0) := by
  refine Con.of (plainFor_of_name pn_29) fun p e s m below meth c s₁ hx hby hml hZ hown hnm hlk hret X0 e0 => ?_
  have N0 := Fr.nil n0
  have hc := And.intro hx hby
  refine Comes.cast (ef_pof_1 m rk blk xa) ?_
  have lt_blk : blk < h0.size := G0.lt
  have lt_os : os < h0.size := G2.lt
  refine cs (fun t k => xiconst X0 hc d29_0 (xistoreN X0 hc d29_1 rfl rfl (xiloadN X0 hc d29_2 rfl (xaloadN X0 hc d29_3 rfl rfl k)))) ?_
  refine Comes.gR X0 hx hZ hown (W hw 154) Via.refl e0 G0 rfl rfl (hb hby d29_4) fun T1 X1 e1 => ?_
  refine cs (fun t k => xicmpNo X1 hc d29_7 rfl (tlt dd).2.1 (xaloadN X1 hc d29_10 rfl rfl k)) ?_
  refine Comes.gR X1 hx hZ hown (W hw 190) Via.refl e1 G1 rfl rfl (hb hby d29_11) fun T3 X3 e3 => ?_
  refine cs (fun t k => xiloadN X3 hc d29_14 rfl k) ?_
  show Comes p e below _ (T3.setTop (mkF m 15 #[vr rk, vr blk, vr xa, vi (0 : Int32)] [(.int (0 : Int32)), (.ref os)]))
  refine Comes.ldR X3 hx hZ e3 G2 rfl rfl (v := (.ref xa)) rfl (hb hby d29_15) ?_
  refine cs (fun t k => xaloadN X3 hc d29_16 rfl rfl k) ?_
  have hc17_5 : xa = xa := by rfl
  refine cs (fun t k => Jvm.RoadKit.acmp (g := (mkF m 17 #[vr rk, vr blk, vr xa, vi (0 : Int32)] [(.ref xa), (.ref xa)])) X3 hx rfl rfl rfl (pc0 := 17) (pc' := 26) (same := true) rfl (hb hby d29_17) rfl (decide_eq_true (congrArg Value.ref hc17_5)) dd dd (xiloadN X3 hc d29_26 rfl (xaloadN X3 hc d29_27 rfl rfl k))) ?_
  refine Comes.gR X3 hx hZ hown (W hw 154) Via.refl e3 G0 rfl rfl (hb hby d29_28) fun T6 X6 e6 => ?_
  refine cs (fun t k => xicmpYes X6 hc 31 51 d29_31 rfl (feq dd).2 (xiloadN X6 hc d29_51 rfl k)) ?_
  show Comes p e below _ (T6.setTop (mkF m 52 #[vr rk, vr blk, vr xa, vi (0 : Int32)] [(.int (0 : Int32))]))
  exact Comes.retV X6 hx hret rfl (Or.inl ⟨rfl, Or.inl rfl, _, rfl⟩) hlk (hb hby d29_52) e6 ⟨rfl, N0, rfl⟩ dd dd
def Q_pof_3 (Z : State) (rk blk xa os : Nat) (ko : ClassId) (vb vc : Value) (h0 : Heap) (n0 : Nat) (v_ : Option Value) (h : Heap) (L_ : List Loc) : Prop := (v_ = some (.int (0 : Int32))) ∧ (Fr n0 L_) ∧ (h = h0)
theorem pof_3 (l : Launch) (Z : State) (a0 : Array Value) (hw : ∀ d ∈ tables_1, d.before a0 Z = true) (ws : List Jvm.Cond) (rk blk xa os : Nat) (ko : ClassId) (vb vc : Value) (h0 : Heap) (n0 : Nat) (Z0 : n0 ≤ h0.size) (G0 : Fld Z h0 blk sBk "size" "I" (.int (3 : Int32))) (G1 : Fld Z h0 blk sBk "orders" dOs (.ref os)) (G2 : Arv Z h0 os ko (.object sOr) (64 : Int32) [(.ref xa), vb, vc] .null) :
    Con l Z y29 prog_27_method_15_code 4 (some .int) ws (Rm 0 0 0 0) #[(.ref rk), (.ref blk), (.ref xa)] h0 (Q_pof_3 Z rk blk xa os ko vb vc h0 n0) := by
  refine Con.of (plainFor_of_name pn_29) fun p e s m below meth c s₁ hx hby hml hZ hown hnm hlk hret X0 e0 => ?_
  have N0 := Fr.nil n0
  have hc := And.intro hx hby
  refine Comes.cast (ef_pof_1 m rk blk xa) ?_
  have lt_blk : blk < h0.size := G0.lt
  have lt_os : os < h0.size := G2.lt
  refine cs (fun t k => xiconst X0 hc d29_0 (xistoreN X0 hc d29_1 rfl rfl (xiloadN X0 hc d29_2 rfl (xaloadN X0 hc d29_3 rfl rfl k)))) ?_
  refine Comes.gR X0 hx hZ hown (W hw 154) Via.refl e0 G0 rfl rfl (hb hby d29_4) fun T1 X1 e1 => ?_
  refine cs (fun t k => xicmpNo X1 hc d29_7 rfl (tlt dd).2.1 (xaloadN X1 hc d29_10 rfl rfl k)) ?_
  refine Comes.gR X1 hx hZ hown (W hw 190) Via.refl e1 G1 rfl rfl (hb hby d29_11) fun T3 X3 e3 => ?_
  refine cs (fun t k => xiloadN X3 hc d29_14 rfl k) ?_
  show Comes p e below _ (T3.setTop (mkF m 15 #[vr rk, vr blk, vr xa, vi (0 : Int32)] [(.int (0 : Int32)), (.ref os)]))
  refine Comes.ldR X3 hx hZ e3 G2 rfl rfl (v := (.ref xa)) rfl (hb hby d29_15) ?_
  refine cs (fun t k => xaloadN X3 hc d29_16 rfl rfl k) ?_
  have hc17_5 : xa = xa := by rfl
  refine cs (fun t k => Jvm.RoadKit.acmp (g := (mkF m 17 #[vr rk, vr blk, vr xa, vi (0 : Int32)] [(.ref xa), (.ref xa)])) X3 hx rfl rfl rfl (pc0 := 17) (pc' := 26) (same := true) rfl (hb hby d29_17) rfl (decide_eq_true (congrArg Value.ref hc17_5)) dd dd (xiloadN X3 hc d29_26 rfl (xaloadN X3 hc d29_27 rfl rfl k))) ?_
  refine Comes.gR X3 hx hZ hown (W hw 154) Via.refl e3 G0 rfl rfl (hb hby d29_28) fun T6 X6 e6 => ?_
  refine cs (fun t k => xicmpYes X6 hc 31 51 d29_31 rfl (feq dd).2 (xiloadN X6 hc d29_51 rfl k)) ?_
  show Comes p e below _ (T6.setTop (mkF m 52 #[vr rk, vr blk, vr xa, vi (0 : Int32)] [(.int (0 : Int32))]))
  exact Comes.retV X6 hx hret rfl (Or.inl ⟨rfl, Or.inl rfl, _, rfl⟩) hlk (hb hby d29_52) e6 ⟨rfl, N0, rfl⟩ dd dd
def Q_rm32 (Z : State) (rk bl : Nat) (kb : ClassId) (lw : Int32) (blk : Nat) (h0 : Heap) (n0 : Nat) (v_ : Option Value) (h : Heap) (L_ : List Loc) : Prop := (v_ = none) ∧ (Fr n0 L_) ∧ (Keep h0 h [rk, bl]) ∧ (Exa Z h rk sRk) ∧ (Fld Z h rk sRk "blocks" dBs (.ref bl)) ∧ (Fld Z h rk sRk "count" "I" (.int (0 : Int32))) ∧ (Fld Z h rk sRk "lowestBest" "Z" (.int lw))
theorem rm32 (l : Launch) (Z : State) (a0 : Array Value) (hw : ∀ d ∈ tables_1, d.before a0 Z = true) (ws : List Jvm.Cond) (rk bl : Nat) (kb : ClassId) (lw : Int32) (blk : Nat) (h0 : Heap) (n0 : Nat) (Z0 : n0 ≤ h0.size) (G0 : Exa Z h0 rk sRk) (G1 : Fld Z h0 rk sRk "blocks" dBs (.ref bl)) (G2 : Fld Z h0 rk sRk "count" "I" (.int (1 : Int32))) (G3 : Fld Z h0 rk sRk "lowestBest" "Z" (.int lw)) (G4 : Arv Z h0 bl kb (.object sBk) (4 : Int32) [(.ref blk), .null, .null, .null] .null) (G5 : Ovr Z kb sBk) (G6 : Exa Z h0 blk sBk) (G7 : n0 ≤ rk) (G8 : n0 ≤ bl) (G9 : rk ≠ bl) :
    Con l Z y32 prog_27_method_19_code 3 none ws (Rm 1 0 0 27) #[(.ref rk), (.int (0 : Int32))] h0 (Q_rm32 Z rk bl kb lw blk h0 n0) := by
  refine Con.of (plainFor_of_name pn_32) fun p e s m below meth c s₁ hx hby hml hZ hown hnm hlk hret X0 e0 => ?_
  have N0 := Fr.nil n0
  have hc := And.intro hx hby
  have K0 := Keep.refl h0 [rk, bl]
  refine Comes.cast (ef_rm16 m rk) ?_
  have lt_rk : rk < h0.size := G0.lt
  have lt_bl : bl < h0.size := G4.lt
  have lt_blk : blk < h0.size := G6.lt
  refine cs (fun t k => xaloadN X0 hc d32_0 rfl rfl k) ?_
  refine Comes.gF X0 hx hZ hown (host := "") (Or.inl (W hw 108)) Via.refl e0 G1 rfl rfl (hb hby d32_1) fun T1 X1 e1 => ?_
  refine cs (fun t k => xiloadN X1 hc d32_4 rfl k) ?_
  refine Comes.ldR X1 hx hZ e1 G4 rfl rfl (v := (.ref blk)) rfl (hb hby d32_5) ?_
  refine cs (fun t k => xastoreN X1 hc d32_6 rfl rfl rfl (xaloadN X1 hc d32_7 rfl rfl (XS.dup X1.here hx rfl (hb hby d32_8) rfl rfl k))) ?_
  refine Comes.gF X1 hx hZ hown (host := "") (Or.inl (W hw 121)) Via.refl e1 G2 rfl rfl (hb hby d32_9) fun T3 X3 e3 => ?_
  refine cs (fun t k => xiconst X3 hc d32_12 (xisub X3 hc d32_13 rfl k)) ?_
  show Comes p e below _ (T3.setTop (mkF m 14 #[vr rk, vi (0 : Int32), vr blk] [(.int ((1 : Int32) - (1 : Int32))), (.ref rk)]))
  rw [show ((1 : Int32) - (1 : Int32)) = (0 : Int32) from by decide]
  refine Comes.pF X3 hx hZ hown (host := "") (Or.inl (W hw 121)) Via.refl e3 G2 G0 (Or.inl (W hw 122)) (W hw 100) (ty := .int) dd rfl rfl rfl rfl (hb hby d32_14) fun T4 h4 X4 e4 W4 Fw4 => ?_
  have z4 : h4.size = h0.size := W4.size
  have N4 := Fr.snoc X4 N0 G7
  have K4 := K0.wr W4 (mE 0)
  refine cs (fun t k => xaloadN X4 hc d32_17 rfl rfl k) ?_
  have F5 := (G1.other W4 (Or.inr (slot_ne (Or.inl (W hw 109)) (Or.inl (W hw 122)) dd (t := (.array (.object sBk))) (t' := .int) dd dd)))
  refine Comes.gF X4 hx hZ hown (host := "") (Or.inl (W hw 108)) Via.refl e4 F5 rfl rfl (hb hby d32_18) fun T6 X6 e6 => ?_
  refine cs (fun t k => xiloadN X6 hc d32_21 rfl (xiconst X6 hc d32_22 (xiadd X6 hc d32_23 rfl k))) ?_
  show Comes p e below _ (T6.setTop (mkF m 24 #[vr rk, vi (0 : Int32), vr blk] [(.int ((0 : Int32) + (1 : Int32))), (.ref bl)]))
  rw [show ((0 : Int32) + (1 : Int32)) = (1 : Int32) from by decide]
  refine cs (fun t k => xaloadN X6 hc d32_24 rfl rfl k) ?_
  refine Comes.gF X6 hx hZ hown (host := "") (Or.inl (W hw 108)) Via.refl e6 F5 rfl rfl (hb hby d32_25) fun T7 X7 e7 => ?_
  refine cs (fun t k => xiloadN X7 hc d32_28 rfl (xaloadN X7 hc d32_29 rfl rfl k)) ?_
  refine Comes.gF X7 hx hZ hown (host := "") (Or.inl (W hw 121)) Via.refl e7 Fw4 rfl rfl (hb hby d32_30) fun T8 X8 e8 => ?_
  refine cs (fun t k => xiloadN X8 hc d32_33 rfl (xisub X8 hc d32_34 rfl k)) ?_
  show Comes p e below _ (T8.setTop (mkF m 35 #[vr rk, vi (0 : Int32), vr blk] [(.int ((0 : Int32) - (0 : Int32))), (.int (0 : Int32)), (.ref bl), (.int (1 : Int32)), (.ref bl)]))
  rw [show ((0 : Int32) - (0 : Int32)) = (0 : Int32) from by decide]
  have F9 := (G4.other W4 (Ne.symm G9))
  obtain ⟨T10, h10, L10, X10, e10, N10, Kq10, V10, st10⟩ := cpA X8 hx hZ hown (W hw 145) (W hw 148) (W hw 146) (W hw 147) e8 (us := []) F9 F9 (Or.inr ⟨rfl, rfl, trivial⟩) dd dd dd dd dd rfl (Nat.le_of_ble_eq_true rfl) N4 (by omega) (g := (mkF m 35 #[vr rk, vi (0 : Int32), vr blk] [(.int (0 : Int32)), (.int (0 : Int32)), (.ref bl), (.int (1 : Int32)), (.ref bl)])) rfl (by rw [hml]; rfl) (rest := []) rfl (hb hby d32_35) dd (W := 0) (by show 2 * 0 + _ ≤ _; exact Nat.le_of_eq rfl) dd
  have z10 : h4.size ≤ h10.size := Kq10.1
  have K10 := K4.trans Kq10 (allS (mE 1) all0)
  have V10' : Arv Z h10 bl kb (.object sBk) (4 : Int32) [(.ref blk), .null, .null, .null] .null := V10
  refine Comes.st st10 ?_
  refine cs (fun t k => xaloadN X10 hc d32_38 rfl rfl k) ?_
  have ni11 := ninS G9 nin0
  have F12 := (F5.keep Kq10 ni11)
  refine Comes.gF X10 hx hZ hown (host := "") (Or.inl (W hw 108)) Via.refl e10 F12 rfl rfl (hb hby d32_39) fun T13 X13 e13 => ?_
  refine cs (fun t k => xaloadN X13 hc d32_42 rfl rfl k) ?_
  have F14 := (Fw4.keep Kq10 ni11)
  refine Comes.gF X13 hx hZ hown (host := "") (Or.inl (W hw 121)) Via.refl e13 F14 rfl rfl (hb hby d32_43) fun T15 X15 e15 => ?_
  refine cs (fun t k => xaloadN X15 hc d32_46 rfl rfl k) ?_
  have F17 := ((G6.wr W4).keep Kq10)
  refine Comes.wrR X15 hx hZ e15 V10' (Or.inr ⟨_, rfl, G5, (Ins.self F17)⟩) rfl rfl 0 (hb hby d32_47) fun T16 h16 X16 e16 W16 V16 => ?_
  have z16 : h16.size = h10.size := W16.size
  have N16 := Fr.snoc X16 N10 G8
  have K16 := K10.wr W16 (mE 1)
  show Comes p e below _ (T16.setTop (mkF m 48 #[vr rk, vi (0 : Int32), vr blk] []))
  have F18 := (((G0.wr W4).keep Kq10).wr W16)
  have F19 := (F12.other W16 (Or.inl G9))
  have F20 := (F14.other W16 (Or.inl G9))
  have F21 := (((G3.other W4 (Or.inr (slot_ne (Or.inr (W hw 111)) (Or.inl (W hw 122)) dd (t := .boolean) (t' := .int) dd dd))).keep Kq10 ni11).other W16 (Or.inl G9))
  exact Comes.ret0 X16 hx hret hlk (hb hby d32_48) e16 ⟨rfl, N16, K16, F18, F19, F20, F21⟩ dd dd
def Q_add_0_0 (Z : State) (rk ob bl : Nat) (kb : ClassId) (lw : Int32) (tt uu : Int64) (wo : Value) (h0 : Heap) (n0 : Nat) (v_ : Option Value) (h : Heap) (L_ : List Loc) : Prop := ∃ (blk : Nat), ∃ (os : Nat), ∃ (ts : Nat), ∃ (ns : Nat), ∃ (ko : ClassId), ∃ (kt : ClassId), ∃ (kn : ClassId), (v_ = none) ∧ (Fr n0 L_) ∧ (Keep h0 h [rk, bl, ob]) ∧ (Exa Z h rk sRk) ∧ (Fld Z h rk sRk "blocks" dBs (.ref bl)) ∧ (Fld Z h rk sRk "count" "I" (.int (1 : Int32))) ∧ (Fld Z h rk sRk "lowestBest" "Z" (.int lw)) ∧ (Arv Z h bl kb (.object sBk) (4 : Int32) [(.ref blk), .null, .null, .null] .null) ∧ (Ovr Z kb sBk) ∧ (Exa Z h blk sBk) ∧ (Fld Z h blk sBk "orders" dOs (.ref os)) ∧ (Fld Z h blk sBk "ticks" "[J" (.ref ts)) ∧ (Fld Z h blk sBk "numbers" "[J" (.ref ns)) ∧ (Fld Z h blk sBk "size" "I" (.int (1 : Int32))) ∧ (Arv Z h os ko (.object sOr) (64 : Int32) [(.ref ob), .null, .null] .null) ∧ (Ovr Z ko sOr) ∧ (AJ Z h ts kt tt (0 : Int64) (0 : Int64)) ∧ (AJ Z h ns kn uu (0 : Int64) (0 : Int64)) ∧ (Fld Z h ob sOr "after" dOr .null) ∧ (n0 ≤ blk) ∧ (n0 ≤ os) ∧ (n0 ≤ ts) ∧ (n0 ≤ ns) ∧ (h0.size ≤ blk) ∧ (h0.size ≤ os) ∧ (h0.size ≤ ts) ∧ (h0.size ≤ ns) ∧ (blk ≠ os) ∧ (blk ≠ ts) ∧ (blk ≠ ns) ∧ (os ≠ ts) ∧ (os ≠ ns) ∧ (ts ≠ ns)
theorem add_0_0 (l : Launch) (Z : State) (a0 : Array Value) (hw : ∀ d ∈ tables_1, d.before a0 Z = true) (ws : List Jvm.Cond) (rk ob bl : Nat) (kb : ClassId) (lw : Int32) (tt uu : Int64) (wo : Value) (h0 : Heap) (n0 : Nat) (Z0 : n0 ≤ h0.size) (G0 : Exa Z h0 rk sRk) (G1 : Fld Z h0 rk sRk "blocks" dBs (.ref bl)) (G2 : Fld Z h0 rk sRk "count" "I" (.int (0 : Int32))) (G3 : Fld Z h0 rk sRk "lowestBest" "Z" (.int lw)) (G4 : Arv Z h0 bl kb (.object sBk) (4 : Int32) [.null, .null, .null, .null] .null) (G5 : Ovr Z kb sBk) (G6 : Exa Z h0 ob sOr) (G7 : Fld Z h0 ob sOr "number" "J" (.long uu)) (G8 : Fld Z h0 ob sOr "ticks" "J" (.long tt)) (G9 : Fld Z h0 ob sOr "after" dOr wo) (G10 : lw = (0 : Int32) ∨ lw = (1 : Int32)) (G11 : n0 ≤ rk) (G12 : n0 ≤ bl) (G13 : n0 ≤ ob) (G14 : rk ≠ bl) (G15 : rk ≠ ob) (G16 : bl ≠ ob) :
    Con l Z y15 prog_27_method_5_code 5 none ws (Rm 3 4 196 41) #[(.ref rk), (.ref ob)] h0 (Q_add_0_0 Z rk ob bl kb lw tt uu wo h0 n0) := by
  refine Con.of (plainFor_of_name pn_15) fun p e s m below meth c s₁ hx hby hml hZ hown hnm hlk hret X0 e0 => ?_
  have N0 := Fr.nil n0
  have hc := And.intro hx hby
  have K0 := Keep.refl h0 [rk, bl, ob]
  refine Comes.cast (ef_rm18 m rk ob) ?_
  have lt_rk : rk < h0.size := G0.lt
  have lt_bl : bl < h0.size := G4.lt
  have lt_ob : ob < h0.size := G6.lt
  refine cs (fun t k => xaloadN X0 hc d15_0 rfl rfl k) ?_
  refine Comes.gF X0 hx hZ hown (host := "") (Or.inl (W hw 121)) Via.refl e0 G2 rfl rfl (hb hby d15_1) fun T1 X1 e1 => ?_
  refine cs (fun t k => xifNo X1 hc d15_4 rfl ((if0 _ _).trans (teq dd).2) (xaloadN X1 hc d15_7 rfl rfl (xiconst X1 hc d15_8 k))) ?_
  refine Comes.cP X1 hx hZ hown (y := y16) (W := 0) (W hw 128) (W hw 129) (W hw 100) (W hw 130) dd (W hw 131) (rm16 l Z a0 hw [] rk bl kb lw h0 n0 (by omega)  G0 G1 G2 G3 G4 G5 G11 G12 G14) G0 (W hw 101) dd dd e1 rfl (by rw [hml]; rfl) (argsL := [(.int (0 : Int32))]) (rest := []) (lenOf pd_10 rfl) rfl (wle rfl) (hb hby d15_9) rfl dd dd fun v3 T3 L3 hQ3 X3 => ?_
  obtain ⟨o4, o5, o6, o7, r8, r9, r10, rfl, Nq3, Kq3, P3_0, P3_1, P3_2, P3_3, P3_4, P3_5, P3_6, P3_7, P3_8, P3_9, P3_10, P3_11, P3_12, P3_13, P3_14, P3_15, P3_16, P3_17, P3_18, P3_19, P3_20, P3_21, P3_22, P3_23, P3_24, P3_25, P3_26, P3_27, P3_28⟩ := hQ3
  have N3 := Fr.app N0 Nq3
  have z3k : h0.size ≤ T3.heap.size := Kq3.1
  have K3 := K0.trans Kq3 (allS (mE 0) (allS (mE 1) all0))
  have lt_11 : o4 < T3.heap.size := P3_6.lt
  have lt_12 : o5 < T3.heap.size := P3_11.lt
  have lt_13 : o6 < T3.heap.size := P3_13.lt
  have lt_14 : o7 < T3.heap.size := P3_14.lt
  refine cs (fun t k => xaloadN X3 hc d15_12 rfl rfl (xaloadN X3 hc d15_13 rfl rfl k)) ?_
  show Comes p e below _ (T3.setTop (mkF m 14 #[vr rk, vr ob, U0, U0, U0] [(.ref ob), (.ref rk)]))
  refine Comes.cP X3 hx hZ hown (y := y18) (W := 0) (W hw 150) (W hw 151) (W hw 100) (W hw 152) dd (W hw 153) (rm18 l Z a0 hw [] rk ob T3.heap n0 (by omega)  P3_2) P3_0 (W hw 101) dd dd rfl rfl (by rw [hml]; rfl) (argsL := [(.ref ob)]) (rest := []) (lenOf pd_11 rfl) rfl (wle rfl) (hb hby d15_14) rfl dd dd fun v15 T15 L15 hQ15 X15 => ?_
  obtain ⟨rfl, Nq15, hs15⟩ := hQ15
  have N15 := Fr.app N3 Nq15
  refine cs (fun t k => xistoreN X15 hc d15_17 rfl rfl (xaloadN X15 hc d15_18 rfl rfl k)) ?_
  refine Comes.gF X15 hx hZ hown (host := "") (Or.inl (W hw 108)) Via.refl hs15 P3_1 rfl rfl (hb hby d15_19) fun T16 X16 e16 => ?_
  refine cs (fun t k => xiloadN X16 hc d15_22 rfl k) ?_
  refine Comes.ldR X16 hx hZ e16 P3_4 rfl rfl (v := (.ref o4)) rfl (hb hby d15_23) ?_
  refine Comes.gR X16 hx hZ hown (W hw 154) Via.refl e16 P3_10 rfl rfl (hb hby d15_24) fun T18 X18 e18 => ?_
  refine cs (fun t k => XS.bipush X18.here hx rfl (hb hby d15_27) k) ?_
  show Comes p e below _ (T18.setTop (mkF m 29 #[vr rk, vr ob, vi (0 : Int32), U0, U0] [(.int (64 : Int32)), (.int (0 : Int32))]))
  refine cs (fun t k => xicmpYes X18 hc 29 56 d15_29 rfl (feq dd).2 (xaloadN X18 hc d15_56 rfl rfl k)) ?_
  refine Comes.gF X18 hx hZ hown (host := "") (Or.inl (W hw 108)) Via.refl e18 P3_1 rfl rfl (hb hby d15_57) fun T20 X20 e20 => ?_
  refine cs (fun t k => xiloadN X20 hc d15_60 rfl k) ?_
  refine Comes.ldR X20 hx hZ e20 P3_4 rfl rfl (v := (.ref o4)) rfl (hb hby d15_61) ?_
  refine cs (fun t k => xastoreN X20 hc d15_62 rfl rfl rfl (xaloadN X20 hc d15_63 rfl rfl (xaloadN X20 hc d15_64 rfl rfl (xaloadN X20 hc d15_65 rfl rfl k)))) ?_
  show Comes p e below _ (T20.setTop (mkF m 66 #[vr rk, vr ob, vi (0 : Int32), vr o4, U0] [(.ref ob), (.ref o4), (.ref rk)]))
  have F22 := (G6.keep Kq3)
  have ni23 := ninS (Ne.symm G15) (ninS (Ne.symm G16) nin0)
  have F24 := (G7.keep Kq3 ni23)
  have F25 := (G8.keep Kq3 ni23)
  refine Comes.cP X20 hx hZ hown (y := y19) (W := 0) (W hw 156) (W hw 157) (W hw 100) (W hw 158) dd (W hw 159) (pin_0_0 l Z a0 hw [] rk o4 ob lw o6 o7 r9 r10 ((0 : Int64)) ((0 : Int64)) ((0 : Int64)) ((0 : Int64)) ((0 : Int64)) ((0 : Int64)) tt uu T3.heap n0 (by omega)  P3_0 P3_3 P3_10 P3_8 P3_9 P3_13 P3_14 F22 F24 F25 (by assumption)) P3_0 (W hw 101) dd dd e20 rfl (by rw [hml]; rfl) (argsL := [(.ref o4), (.ref ob)]) (rest := []) (lenOf pd_12 rfl) rfl (wle rfl) (hb hby d15_66) rfl dd dd fun v26 T26 L26 hQ26 X26 => ?_
  obtain ⟨rfl, Nq26, hs26⟩ := hQ26
  have N26 := Fr.app N15 Nq26
  refine cs (fun t k => xistore X26 hc d15_69 rfl rfl (xaloadN X26 hc d15_71 rfl rfl (xiload X26 hc d15_72 rfl k))) ?_
  refine Comes.cV X26 hx hZ hown (y := y20) (W := 0) (W hw 160) (W hw 161) (W hw 163) (W hw 162) dd (W hw 164) (open_0_0 l Z a0 hw [] o4 o5 o6 o7 r8 r9 r10 (.null) (.null) (.null) ((0 : Int64)) ((0 : Int64)) ((0 : Int64)) ((0 : Int64)) ((0 : Int64)) ((0 : Int64)) T3.heap n0 (by omega)  P3_6 P3_7 P3_8 P3_9 P3_10 P3_11 P3_12 P3_13 P3_14 P3_15 P3_16 P3_17 P3_18 P3_23 P3_24 P3_25 P3_26 P3_27 P3_28) P3_6 (W hw 133) dd dd hs26 rfl (by rw [hml]; rfl) (argsL := [(.int (0 : Int32))]) (rest := []) (lenOf pd_10 rfl) rfl (wle rfl) (hb hby d15_74) rfl dd dd fun v27 T27 L27 hQ27 X27 => ?_
  obtain ⟨rfl, Nq27, Kq27, P27_0, P27_1, P27_2, P27_3, P27_4, P27_5, P27_6, P27_7⟩ := hQ27
  have N27 := Fr.app N26 Nq27
  have z27k : T3.heap.size ≤ T27.heap.size := Kq27.1
  have gz28 : h0.size ≤ o7 := by omega
  have gz29 : h0.size ≤ o6 := by omega
  have gz30 : h0.size ≤ o5 := by omega
  have gz31 : h0.size ≤ o4 := by omega
  have K27 := K3.trans Kq27 (allS (Or.inr gz31) (allS (Or.inr gz30) (allS (Or.inr gz29) (allS (Or.inr gz28) all0))))
  refine cs (fun t k => xaloadN X27 hc d15_77 rfl rfl (xiload X27 hc d15_78 rfl (xaloadN X27 hc d15_80 rfl rfl k))) ?_
  show Comes p e below _ (T27.setTop (mkF m 81 #[vr rk, vr ob, vi (0 : Int32), vr o4, vi (0 : Int32)] [(.ref ob), (.int (0 : Int32)), (.ref o4)]))
  have F32 := (F22.keep Kq27)
  have ne33 : ob ≠ o7 := by omega
  have ne34 : ob ≠ o6 := by omega
  have ne35 : ob ≠ o5 := by omega
  have ne36 := ne_exa F32 P27_0 dd
  have ni37 := ninS ne36 (ninS ne35 (ninS ne34 (ninS ne33 nin0)))
  have F38 := (F24.keep Kq27 ni37)
  have F39 := (F25.keep Kq27 ni37)
  refine Comes.cV X27 hx hZ hown (y := y22) (W := 0) (W hw 171) (W hw 172) (W hw 174) (W hw 173) dd (W hw 175) (put_0 l Z a0 hw [] o4 ob o5 o6 o7 r8 r9 r10 (.null) (.null) (.null) ((0 : Int64)) ((0 : Int64)) ((0 : Int64)) ((0 : Int64)) ((0 : Int64)) ((0 : Int64)) tt uu T27.heap n0 (by omega)  P27_0 P27_1 P27_2 P27_3 P27_5 P3_12 P27_6 P27_7 F32 F38 F39 P3_16 P3_17 P3_18 P3_23 P3_24 P3_25 P3_26 P3_27 P3_28 ne35 ne34 ne33) P27_0 (W hw 133) dd dd rfl rfl (by rw [hml]; rfl) (argsL := [(.int (0 : Int32)), (.ref ob)]) (rest := []) (lenOf pd_13 rfl) rfl (wle rfl) (hb hby d15_81) rfl dd dd fun v40 T40 L40 hQ40 X40 => ?_
  obtain ⟨rfl, Nq40, Kq40, P40_0, P40_1, P40_2⟩ := hQ40
  have N40 := Fr.app N27 Nq40
  have z40k : T27.heap.size ≤ T40.heap.size := Kq40.1
  have K40 := K27.trans Kq40 (allS (Or.inr gz30) (allS (Or.inr gz29) (allS (Or.inr gz28) all0)))
  refine cs (fun t k => xaloadN X40 hc d15_84 rfl rfl (xiloadN X40 hc d15_85 rfl (xiload X40 hc d15_86 rfl k))) ?_
  have F41 := ((P3_0.keep Kq27).keep Kq40)
  have ne42 : rk ≠ o7 := by omega
  have ne43 : rk ≠ o6 := by omega
  have ne44 : rk ≠ o5 := by omega
  have F45 := (P27_0.keep Kq40)
  have ne46 := ne_exa F41 F45 dd
  have ni47 := ninS ne46 (ninS ne44 (ninS ne43 (ninS ne42 nin0)))
  have ni48 := ninS ne44 (ninS ne43 (ninS ne42 nin0))
  have F49 := ((P3_1.keep Kq27 ni47).keep Kq40 ni48)
  have F50 := ((P3_2.keep Kq27 ni47).keep Kq40 ni48)
  have ne51 : bl ≠ o7 := by omega
  have ne52 : bl ≠ o6 := by omega
  have ne53 : bl ≠ o5 := by omega
  have ne54 : bl ≠ o4 := by omega
  have ni55 := ninS ne54 (ninS ne53 (ninS ne52 (ninS ne51 nin0)))
  have ni56 := ninS ne53 (ninS ne52 (ninS ne51 nin0))
  have F57 := ((P3_4.keep Kq27 ni55).keep Kq40 ni56)
  have ni58 := ninS P3_23 (ninS P3_24 (ninS P3_25 nin0))
  have F59 := (P27_1.keep Kq40 ni58)
  have F60 := (P27_4.keep Kq40 ni58)
  have F61 := (F32.keep Kq40)
  have ni62 := ninS ne35 (ninS ne34 (ninS ne33 nin0))
  have F63 := (((G9.keep Kq3 ni23).keep Kq27 ni37).keep Kq40 ni62)
  refine Comes.cP X40 hx hZ hown (y := y25) (W := 0) (W hw 186) (W hw 187) (W hw 100) (W hw 188) dd (W hw 189) (link_1_0 l Z a0 hw [] rk bl kb o4 o5 r8 ob (.null) (.null) wo T40.heap n0 (by omega)  F41 F49 F50 F57 F59 F60 P40_0 F61 F63 G13 (Ne.symm G15) (Ne.symm G16) ne36 ne35) F41 (W hw 101) dd dd rfl rfl (by rw [hml]; rfl) (argsL := [(.int (0 : Int32)), (.int (0 : Int32))]) (rest := []) (lenOf pd_6 rfl) rfl (wle rfl) (hb hby d15_88) rfl dd dd fun v64 T64 L64 hQ64 X64 => ?_
  obtain ⟨rfl, Nq64, Kq64, P64_0⟩ := hQ64
  have N64 := Fr.app N40 Nq64
  have z64k : T40.heap.size ≤ T64.heap.size := Kq64.1
  have K64 := K40.trans Kq64 (allS (mE 2) all0)
  show Comes p e below _ (T64.setTop (mkF m 91 #[vr rk, vr ob, vi (0 : Int32), vr o4, vi (0 : Int32)] []))
  have F65 := (F41.keep Kq64)
  have ni66 := ninS G15 nin0
  have F67 := (F49.keep Kq64 ni66)
  have F68 := (F50.keep Kq64 ni66)
  have F69 := (((P3_3.keep Kq27 ni47).keep Kq40 ni48).keep Kq64 ni66)
  have ni70 := ninS G16 nin0
  have F71 := (F57.keep Kq64 ni70)
  have F72 := (F45.keep Kq64)
  have ni73 := ninS (Ne.symm ne36) nin0
  have F74 := (F59.keep Kq64 ni73)
  have F75 := ((P27_2.keep Kq40 ni58).keep Kq64 ni73)
  have F76 := ((P27_3.keep Kq40 ni58).keep Kq64 ni73)
  have F77 := (F60.keep Kq64 ni73)
  have ni78 := ninS (Ne.symm ne35) nin0
  have F79 := (P40_0.keep Kq64 ni78)
  have ni80 := ninS (Ne.symm ne34) nin0
  have F81 := (P40_1.keep Kq64 ni80)
  have ni82 := ninS (Ne.symm ne33) nin0
  have F83 := (P40_2.keep Kq64 ni82)
  exact Comes.ret0 X64 hx hret hlk (hb hby d15_91) rfl ⟨o4, o5, o6, o7, r8, r9, r10, rfl, N64, K64, F65, F67, F68, F69, F71, P3_5, F72, F74, F75, F76, F77, F79, P3_12, F81, F83, P64_0, P3_15, P3_16, P3_17, P3_18, (by omega), (by omega), (by omega), (by omega), P3_23, P3_24, P3_25, P3_26, P3_27, P3_28⟩ dd dd
def Q_add_1_0 (Z : State) (rk ob bl : Nat) (kb : ClassId) (lw : Int32) (blk os ts ns : Nat) (ko kt kn : ClassId) (xa : Nat) (vb vc : Value) (ta tb tc ua ub uc tt uu : Int64) (wo : Value) (h0 : Heap) (n0 : Nat) (v_ : Option Value) (h : Heap) (L_ : List Loc) : Prop := (v_ = none) ∧ (Fr n0 L_) ∧ (Keep h0 h [blk, os, ts, ns, ob]) ∧ (Exa Z h blk sBk) ∧ (Fld Z h blk sBk "orders" dOs (.ref os)) ∧ (Fld Z h blk sBk "ticks" "[J" (.ref ts)) ∧ (Fld Z h blk sBk "numbers" "[J" (.ref ns)) ∧ (Fld Z h blk sBk "size" "I" (.int (2 : Int32))) ∧ (Arv Z h os ko (.object sOr) (64 : Int32) [(.ref ob), (.ref xa), vc] .null) ∧ (AJ Z h ts kt tt ta tc) ∧ (AJ Z h ns kn uu ua uc) ∧ (Fld Z h ob sOr "after" dOr (.ref xa))
theorem add_1_0 (l : Launch) (Z : State) (a0 : Array Value) (hw : ∀ d ∈ tables_1, d.before a0 Z = true) (ws : List Jvm.Cond) (rk ob bl : Nat) (kb : ClassId) (lw : Int32) (blk os ts ns : Nat) (ko kt kn : ClassId) (xa : Nat) (vb vc : Value) (ta tb tc ua ub uc tt uu : Int64) (wo : Value) (h0 : Heap) (n0 : Nat) (Z0 : n0 ≤ h0.size) (G0 : Exa Z h0 rk sRk) (G1 : Fld Z h0 rk sRk "blocks" dBs (.ref bl)) (G2 : Fld Z h0 rk sRk "count" "I" (.int (1 : Int32))) (G3 : Fld Z h0 rk sRk "lowestBest" "Z" (.int lw)) (G4 : Arv Z h0 bl kb (.object sBk) (4 : Int32) [(.ref blk), .null, .null, .null] .null) (G5 : Exa Z h0 blk sBk) (G6 : Fld Z h0 blk sBk "orders" dOs (.ref os)) (G7 : Fld Z h0 blk sBk "ticks" "[J" (.ref ts)) (G8 : Fld Z h0 blk sBk "numbers" "[J" (.ref ns)) (G9 : Fld Z h0 blk sBk "size" "I" (.int (1 : Int32))) (G10 : Arv Z h0 os ko (.object sOr) (64 : Int32) [(.ref xa), vb, vc] .null) (G11 : Ovr Z ko sOr) (G12 : AJ Z h0 ts kt ta tb tc) (G13 : AJ Z h0 ns kn ua ub uc) (G14 : Exa Z h0 xa sOr) (G15 : Exa Z h0 ob sOr) (G16 : Fld Z h0 ob sOr "number" "J" (.long uu)) (G17 : Fld Z h0 ob sOr "ticks" "J" (.long tt)) (G18 : Fld Z h0 ob sOr "after" dOr wo) (G19 : lw = (0 : Int32) ∨ lw = (1 : Int32)) (G20 : ¬ ((¬ ta = tt ∧ ¬ lw = (0 : Int32) ∧ ta < tt) ∨ (¬ ta = tt ∧ lw = (0 : Int32) ∧ tt < ta) ∨ (ta = tt ∧ ua < uu))) (G21 : n0 ≤ blk) (G22 : n0 ≤ os) (G23 : n0 ≤ ts) (G24 : n0 ≤ ns) (G25 : n0 ≤ ob) (G26 : blk ≠ os) (G27 : blk ≠ ts) (G28 : blk ≠ ns) (G29 : blk ≠ ob) (G30 : os ≠ ts) (G31 : os ≠ ns) (G32 : os ≠ ob) (G33 : ts ≠ ns) (G34 : ts ≠ ob) (G35 : ns ≠ ob) (G36 : blk ≠ rk) (G37 : blk ≠ bl) (G38 : os ≠ rk) (G39 : os ≠ bl) (G40 : ts ≠ rk) (G41 : ts ≠ bl) (G42 : ns ≠ rk) (G43 : ns ≠ bl) (G44 : ob ≠ rk) (G45 : ob ≠ bl) :
    Con l Z y15 prog_27_method_5_code 5 none ws (Rm 3 0 0 49) #[(.ref rk), (.ref ob)] h0 (Q_add_1_0 Z rk ob bl kb lw blk os ts ns ko kt kn xa vb vc ta tb tc ua ub uc tt uu wo h0 n0) := by
  refine Con.of (plainFor_of_name pn_15) fun p e s m below meth c s₁ hx hby hml hZ hown hnm hlk hret X0 e0 => ?_
  have N0 := Fr.nil n0
  have hc := And.intro hx hby
  have K0 := Keep.refl h0 [blk, os, ts, ns, ob]
  refine Comes.cast (ef_rm18 m rk ob) ?_
  have lt_rk : rk < h0.size := G0.lt
  have lt_bl : bl < h0.size := G4.lt
  have lt_blk : blk < h0.size := G5.lt
  have lt_os : os < h0.size := G10.lt
  have lt_ts : ts < h0.size := G12.lt
  have lt_ns : ns < h0.size := G13.lt
  have lt_xa : xa < h0.size := G14.lt
  have lt_ob : ob < h0.size := G15.lt
  refine cs (fun t k => xaloadN X0 hc d15_0 rfl rfl k) ?_
  refine Comes.gF X0 hx hZ hown (host := "") (Or.inl (W hw 121)) Via.refl e0 G2 rfl rfl (hb hby d15_1) fun T1 X1 e1 => ?_
  refine cs (fun t k => xifYes X1 hc 4 12 d15_4 rfl ((if0 _ _).trans (feq dd).2) (xaloadN X1 hc d15_12 rfl rfl (xaloadN X1 hc d15_13 rfl rfl k))) ?_
  refine Comes.cP X1 hx hZ hown (y := y18) (W := 0) (W hw 150) (W hw 151) (W hw 100) (W hw 152) dd (W hw 153) (rm18 l Z a0 hw [] rk ob h0 n0 (by omega)  G2) G0 (W hw 101) dd dd e1 rfl (by rw [hml]; rfl) (argsL := [(.ref ob)]) (rest := []) (lenOf pd_11 rfl) rfl (wle rfl) (hb hby d15_14) rfl dd dd fun v3 T3 L3 hQ3 X3 => ?_
  obtain ⟨rfl, Nq3, hs3⟩ := hQ3
  have N3 := Fr.app N0 Nq3
  refine cs (fun t k => xistoreN X3 hc d15_17 rfl rfl (xaloadN X3 hc d15_18 rfl rfl k)) ?_
  show Comes p e below _ (T3.setTop (mkF m 19 #[vr rk, vr ob, vi (0 : Int32), U0, U0] [(.ref rk)]))
  refine Comes.gF X3 hx hZ hown (host := "") (Or.inl (W hw 108)) Via.refl hs3 G1 rfl rfl (hb hby d15_19) fun T4 X4 e4 => ?_
  refine cs (fun t k => xiloadN X4 hc d15_22 rfl k) ?_
  refine Comes.ldR X4 hx hZ e4 G4 rfl rfl (v := (.ref blk)) rfl (hb hby d15_23) ?_
  refine Comes.gR X4 hx hZ hown (W hw 154) Via.refl e4 G9 rfl rfl (hb hby d15_24) fun T6 X6 e6 => ?_
  refine cs (fun t k => XS.bipush X6.here hx rfl (hb hby d15_27) k) ?_
  refine cs (fun t k => xicmpYes X6 hc 29 56 d15_29 rfl (feq dd).2 (xaloadN X6 hc d15_56 rfl rfl k)) ?_
  refine Comes.gF X6 hx hZ hown (host := "") (Or.inl (W hw 108)) Via.refl e6 G1 rfl rfl (hb hby d15_57) fun T8 X8 e8 => ?_
  refine cs (fun t k => xiloadN X8 hc d15_60 rfl k) ?_
  show Comes p e below _ (T8.setTop (mkF m 61 #[vr rk, vr ob, vi (0 : Int32), U0, U0] [(.int (0 : Int32)), (.ref bl)]))
  refine Comes.ldR X8 hx hZ e8 G4 rfl rfl (v := (.ref blk)) rfl (hb hby d15_61) ?_
  refine cs (fun t k => xastoreN X8 hc d15_62 rfl rfl rfl (xaloadN X8 hc d15_63 rfl rfl (xaloadN X8 hc d15_64 rfl rfl (xaloadN X8 hc d15_65 rfl rfl k)))) ?_
  refine Comes.cP X8 hx hZ hown (y := y19) (W := 0) (W hw 156) (W hw 157) (W hw 100) (W hw 158) dd (W hw 159) (pin_1_0 l Z a0 hw [] rk blk ob lw ts ns kt kn ta tb tc ua ub uc tt uu h0 n0 (by omega)  G0 G3 G9 G7 G8 G12 G13 G15 G16 G17 (by assumption) (by assumption)) G0 (W hw 101) dd dd e8 rfl (by rw [hml]; rfl) (argsL := [(.ref blk), (.ref ob)]) (rest := []) (lenOf pd_12 rfl) rfl (wle rfl) (hb hby d15_66) rfl dd dd fun v10 T10 L10 hQ10 X10 => ?_
  obtain ⟨rfl, Nq10, hs10⟩ := hQ10
  have N10 := Fr.app N3 Nq10
  refine cs (fun t k => xistore X10 hc d15_69 rfl rfl (xaloadN X10 hc d15_71 rfl rfl (xiload X10 hc d15_72 rfl k))) ?_
  show Comes p e below _ (T10.setTop (mkF m 74 #[vr rk, vr ob, vi (0 : Int32), vr blk, vi (0 : Int32)] [(.int (0 : Int32)), (.ref blk)]))
  refine Comes.cV X10 hx hZ hown (y := y20) (W := 0) (W hw 160) (W hw 161) (W hw 163) (W hw 162) dd (W hw 164) (open_1_0 l Z a0 hw [] blk os ts ns ko kt kn xa vb vc ta tb tc ua ub uc h0 n0 (by omega)  G5 G6 G7 G8 G9 G10 G11 G12 G13 G14 G21 G22 G23 G24 G26 G27 G28 G30 G31 G33) G5 (W hw 133) dd dd hs10 rfl (by rw [hml]; rfl) (argsL := [(.int (0 : Int32))]) (rest := []) (lenOf pd_10 rfl) rfl (wle rfl) (hb hby d15_74) rfl dd dd fun v11 T11 L11 hQ11 X11 => ?_
  obtain ⟨rfl, Nq11, Kq11, P11_0, P11_1, P11_2, P11_3, P11_4, P11_5, P11_6, P11_7⟩ := hQ11
  have N11 := Fr.app N10 Nq11
  have z11k : h0.size ≤ T11.heap.size := Kq11.1
  have K11 := K0.trans Kq11 (allS (mE 0) (allS (mE 1) (allS (mE 2) (allS (mE 3) all0))))
  refine cs (fun t k => xaloadN X11 hc d15_77 rfl rfl (xiload X11 hc d15_78 rfl (xaloadN X11 hc d15_80 rfl rfl k))) ?_
  have F12 := (G15.keep Kq11)
  have ni13 := ninS (Ne.symm G29) (ninS (Ne.symm G32) (ninS (Ne.symm G34) (ninS (Ne.symm G35) nin0)))
  have F14 := (G16.keep Kq11 ni13)
  have F15 := (G17.keep Kq11 ni13)
  refine Comes.cV X11 hx hZ hown (y := y22) (W := 0) (W hw 171) (W hw 172) (W hw 174) (W hw 173) dd (W hw 175) (put_0 l Z a0 hw [] blk ob os ts ns ko kt kn ((.ref xa)) ((.ref xa)) vc ta ta tc ua ua uc tt uu T11.heap n0 (by omega)  P11_0 P11_1 P11_2 P11_3 P11_5 G11 P11_6 P11_7 F12 F14 F15 G22 G23 G24 G26 G27 G28 G30 G31 G33 (Ne.symm G32) (Ne.symm G34) (Ne.symm G35)) P11_0 (W hw 133) dd dd rfl rfl (by rw [hml]; rfl) (argsL := [(.int (0 : Int32)), (.ref ob)]) (rest := []) (lenOf pd_13 rfl) rfl (wle rfl) (hb hby d15_81) rfl dd dd fun v16 T16 L16 hQ16 X16 => ?_
  obtain ⟨rfl, Nq16, Kq16, P16_0, P16_1, P16_2⟩ := hQ16
  have N16 := Fr.app N11 Nq16
  have z16k : T11.heap.size ≤ T16.heap.size := Kq16.1
  have K16 := K11.trans Kq16 (allS (mE 1) (allS (mE 2) (allS (mE 3) all0)))
  refine cs (fun t k => xaloadN X16 hc d15_84 rfl rfl (xiloadN X16 hc d15_85 rfl (xiload X16 hc d15_86 rfl k))) ?_
  show Comes p e below _ (T16.setTop (mkF m 88 #[vr rk, vr ob, vi (0 : Int32), vr blk, vi (0 : Int32)] [(.int (0 : Int32)), (.int (0 : Int32)), (.ref rk)]))
  have F17 := ((G0.keep Kq11).keep Kq16)
  have ni18 := ninS (Ne.symm G36) (ninS (Ne.symm G38) (ninS (Ne.symm G40) (ninS (Ne.symm G42) nin0)))
  have ni19 := ninS (Ne.symm G38) (ninS (Ne.symm G40) (ninS (Ne.symm G42) nin0))
  have F20 := ((G1.keep Kq11 ni18).keep Kq16 ni19)
  have F21 := ((G2.keep Kq11 ni18).keep Kq16 ni19)
  have ni22 := ninS (Ne.symm G37) (ninS (Ne.symm G39) (ninS (Ne.symm G41) (ninS (Ne.symm G43) nin0)))
  have ni23 := ninS (Ne.symm G39) (ninS (Ne.symm G41) (ninS (Ne.symm G43) nin0))
  have F24 := ((G4.keep Kq11 ni22).keep Kq16 ni23)
  have ni25 := ninS G26 (ninS G27 (ninS G28 nin0))
  have F26 := (P11_1.keep Kq16 ni25)
  have F27 := (P11_4.keep Kq16 ni25)
  have F28 := (F12.keep Kq16)
  have F29 := ((G14.keep Kq11).keep Kq16)
  have ni30 := ninS (Ne.symm G32) (ninS (Ne.symm G34) (ninS (Ne.symm G35) nin0))
  have F31 := ((G18.keep Kq11 ni13).keep Kq16 ni30)
  refine Comes.cP X16 hx hZ hown (y := y25) (W := 0) (W hw 186) (W hw 187) (W hw 100) (W hw 188) dd (W hw 189) (link_2_0 l Z a0 hw [] rk bl kb blk os ko ob xa vc wo T16.heap n0 (by omega)  F17 F20 F21 F24 F26 F27 P16_0 F28 F29 F31 G25 G44 G45 (Ne.symm G29) (Ne.symm G32)) F17 (W hw 101) dd dd rfl rfl (by rw [hml]; rfl) (argsL := [(.int (0 : Int32)), (.int (0 : Int32))]) (rest := []) (lenOf pd_6 rfl) rfl (wle rfl) (hb hby d15_88) rfl dd dd fun v32 T32 L32 hQ32 X32 => ?_
  obtain ⟨rfl, Nq32, Kq32, P32_0⟩ := hQ32
  have N32 := Fr.app N16 Nq32
  have z32k : T16.heap.size ≤ T32.heap.size := Kq32.1
  have K32 := K16.trans Kq32 (allS (mE 4) all0)
  show Comes p e below _ (T32.setTop (mkF m 91 #[vr rk, vr ob, vi (0 : Int32), vr blk, vi (0 : Int32)] []))
  have F33 := ((P11_0.keep Kq16).keep Kq32)
  have ni34 := ninS G29 nin0
  have F35 := (F26.keep Kq32 ni34)
  have F36 := ((P11_2.keep Kq16 ni25).keep Kq32 ni34)
  have F37 := ((P11_3.keep Kq16 ni25).keep Kq32 ni34)
  have F38 := (F27.keep Kq32 ni34)
  have ni39 := ninS G32 nin0
  have F40 := (P16_0.keep Kq32 ni39)
  have ni41 := ninS G34 nin0
  have F42 := (P16_1.keep Kq32 ni41)
  have ni43 := ninS G35 nin0
  have F44 := (P16_2.keep Kq32 ni43)
  exact Comes.ret0 X32 hx hret hlk (hb hby d15_91) rfl ⟨rfl, N32, K32, F33, F35, F36, F37, F38, F40, F42, F44, P32_0⟩ dd dd
def Q_add_1_1 (Z : State) (rk ob bl : Nat) (kb : ClassId) (lw : Int32) (blk os ts ns : Nat) (ko kt kn : ClassId) (xa : Nat) (vb vc : Value) (ta tb tc ua ub uc tt uu : Int64) (wo wb : Value) (h0 : Heap) (n0 : Nat) (v_ : Option Value) (h : Heap) (L_ : List Loc) : Prop := (v_ = none) ∧ (Fr n0 L_) ∧ (Keep h0 h [blk, os, ts, ns, ob, xa]) ∧ (Exa Z h blk sBk) ∧ (Fld Z h blk sBk "orders" dOs (.ref os)) ∧ (Fld Z h blk sBk "ticks" "[J" (.ref ts)) ∧ (Fld Z h blk sBk "numbers" "[J" (.ref ns)) ∧ (Fld Z h blk sBk "size" "I" (.int (2 : Int32))) ∧ (Arv Z h os ko (.object sOr) (64 : Int32) [(.ref xa), (.ref ob), vc] .null) ∧ (AJ Z h ts kt ta tt tc) ∧ (AJ Z h ns kn ua uu uc) ∧ (Fld Z h ob sOr "after" dOr .null) ∧ (Fld Z h xa sOr "after" dOr (.ref ob))
theorem add_1_1 (l : Launch) (Z : State) (a0 : Array Value) (hw : ∀ d ∈ tables_1, d.before a0 Z = true) (ws : List Jvm.Cond) (rk ob bl : Nat) (kb : ClassId) (lw : Int32) (blk os ts ns : Nat) (ko kt kn : ClassId) (xa : Nat) (vb vc : Value) (ta tb tc ua ub uc tt uu : Int64) (wo wb : Value) (h0 : Heap) (n0 : Nat) (Z0 : n0 ≤ h0.size) (G0 : Exa Z h0 rk sRk) (G1 : Fld Z h0 rk sRk "blocks" dBs (.ref bl)) (G2 : Fld Z h0 rk sRk "count" "I" (.int (1 : Int32))) (G3 : Fld Z h0 rk sRk "lowestBest" "Z" (.int lw)) (G4 : Arv Z h0 bl kb (.object sBk) (4 : Int32) [(.ref blk), .null, .null, .null] .null) (G5 : Exa Z h0 blk sBk) (G6 : Fld Z h0 blk sBk "orders" dOs (.ref os)) (G7 : Fld Z h0 blk sBk "ticks" "[J" (.ref ts)) (G8 : Fld Z h0 blk sBk "numbers" "[J" (.ref ns)) (G9 : Fld Z h0 blk sBk "size" "I" (.int (1 : Int32))) (G10 : Arv Z h0 os ko (.object sOr) (64 : Int32) [(.ref xa), vb, vc] .null) (G11 : Ovr Z ko sOr) (G12 : AJ Z h0 ts kt ta tb tc) (G13 : AJ Z h0 ns kn ua ub uc) (G14 : Exa Z h0 xa sOr) (G15 : Fld Z h0 xa sOr "after" dOr wb) (G16 : Exa Z h0 ob sOr) (G17 : Fld Z h0 ob sOr "number" "J" (.long uu)) (G18 : Fld Z h0 ob sOr "ticks" "J" (.long tt)) (G19 : Fld Z h0 ob sOr "after" dOr wo) (G20 : lw = (0 : Int32) ∨ lw = (1 : Int32)) (G21 : ((¬ ta = tt ∧ ¬ lw = (0 : Int32) ∧ ta < tt) ∨ (¬ ta = tt ∧ lw = (0 : Int32) ∧ tt < ta) ∨ (ta = tt ∧ ua < uu))) (G22 : n0 ≤ blk) (G23 : n0 ≤ os) (G24 : n0 ≤ ts) (G25 : n0 ≤ ns) (G26 : n0 ≤ ob) (G27 : n0 ≤ xa) (G28 : blk ≠ os) (G29 : blk ≠ ts) (G30 : blk ≠ ns) (G31 : blk ≠ ob) (G32 : blk ≠ xa) (G33 : os ≠ ts) (G34 : os ≠ ns) (G35 : os ≠ ob) (G36 : os ≠ xa) (G37 : ts ≠ ns) (G38 : ts ≠ ob) (G39 : ts ≠ xa) (G40 : ns ≠ ob) (G41 : ns ≠ xa) (G42 : ob ≠ xa) (G43 : blk ≠ rk) (G44 : blk ≠ bl) (G45 : os ≠ rk) (G46 : os ≠ bl) (G47 : ts ≠ rk) (G48 : ts ≠ bl) (G49 : ns ≠ rk) (G50 : ns ≠ bl) (G51 : ob ≠ rk) (G52 : ob ≠ bl) (G53 : xa ≠ rk) (G54 : xa ≠ bl) :
    Con l Z y15 prog_27_method_5_code 5 none ws (Rm 3 0 0 49) #[(.ref rk), (.ref ob)] h0 (Q_add_1_1 Z rk ob bl kb lw blk os ts ns ko kt kn xa vb vc ta tb tc ua ub uc tt uu wo wb h0 n0) := by
  refine Con.of (plainFor_of_name pn_15) fun p e s m below meth c s₁ hx hby hml hZ hown hnm hlk hret X0 e0 => ?_
  have N0 := Fr.nil n0
  have hc := And.intro hx hby
  have K0 := Keep.refl h0 [blk, os, ts, ns, ob, xa]
  refine Comes.cast (ef_rm18 m rk ob) ?_
  have lt_rk : rk < h0.size := G0.lt
  have lt_bl : bl < h0.size := G4.lt
  have lt_blk : blk < h0.size := G5.lt
  have lt_os : os < h0.size := G10.lt
  have lt_ts : ts < h0.size := G12.lt
  have lt_ns : ns < h0.size := G13.lt
  have lt_xa : xa < h0.size := G14.lt
  have lt_ob : ob < h0.size := G16.lt
  refine cs (fun t k => xaloadN X0 hc d15_0 rfl rfl k) ?_
  refine Comes.gF X0 hx hZ hown (host := "") (Or.inl (W hw 121)) Via.refl e0 G2 rfl rfl (hb hby d15_1) fun T1 X1 e1 => ?_
  refine cs (fun t k => xifYes X1 hc 4 12 d15_4 rfl ((if0 _ _).trans (feq dd).2) (xaloadN X1 hc d15_12 rfl rfl (xaloadN X1 hc d15_13 rfl rfl k))) ?_
  refine Comes.cP X1 hx hZ hown (y := y18) (W := 0) (W hw 150) (W hw 151) (W hw 100) (W hw 152) dd (W hw 153) (rm18 l Z a0 hw [] rk ob h0 n0 (by omega)  G2) G0 (W hw 101) dd dd e1 rfl (by rw [hml]; rfl) (argsL := [(.ref ob)]) (rest := []) (lenOf pd_11 rfl) rfl (wle rfl) (hb hby d15_14) rfl dd dd fun v3 T3 L3 hQ3 X3 => ?_
  obtain ⟨rfl, Nq3, hs3⟩ := hQ3
  have N3 := Fr.app N0 Nq3
  refine cs (fun t k => xistoreN X3 hc d15_17 rfl rfl (xaloadN X3 hc d15_18 rfl rfl k)) ?_
  show Comes p e below _ (T3.setTop (mkF m 19 #[vr rk, vr ob, vi (0 : Int32), U0, U0] [(.ref rk)]))
  refine Comes.gF X3 hx hZ hown (host := "") (Or.inl (W hw 108)) Via.refl hs3 G1 rfl rfl (hb hby d15_19) fun T4 X4 e4 => ?_
  refine cs (fun t k => xiloadN X4 hc d15_22 rfl k) ?_
  refine Comes.ldR X4 hx hZ e4 G4 rfl rfl (v := (.ref blk)) rfl (hb hby d15_23) ?_
  refine Comes.gR X4 hx hZ hown (W hw 154) Via.refl e4 G9 rfl rfl (hb hby d15_24) fun T6 X6 e6 => ?_
  refine cs (fun t k => XS.bipush X6.here hx rfl (hb hby d15_27) k) ?_
  refine cs (fun t k => xicmpYes X6 hc 29 56 d15_29 rfl (feq dd).2 (xaloadN X6 hc d15_56 rfl rfl k)) ?_
  refine Comes.gF X6 hx hZ hown (host := "") (Or.inl (W hw 108)) Via.refl e6 G1 rfl rfl (hb hby d15_57) fun T8 X8 e8 => ?_
  refine cs (fun t k => xiloadN X8 hc d15_60 rfl k) ?_
  show Comes p e below _ (T8.setTop (mkF m 61 #[vr rk, vr ob, vi (0 : Int32), U0, U0] [(.int (0 : Int32)), (.ref bl)]))
  refine Comes.ldR X8 hx hZ e8 G4 rfl rfl (v := (.ref blk)) rfl (hb hby d15_61) ?_
  refine cs (fun t k => xastoreN X8 hc d15_62 rfl rfl rfl (xaloadN X8 hc d15_63 rfl rfl (xaloadN X8 hc d15_64 rfl rfl (xaloadN X8 hc d15_65 rfl rfl k)))) ?_
  refine Comes.cP X8 hx hZ hown (y := y19) (W := 0) (W hw 156) (W hw 157) (W hw 100) (W hw 158) dd (W hw 159) (pin_1_1 l Z a0 hw [] rk blk ob lw ts ns kt kn ta tb tc ua ub uc tt uu h0 n0 (by omega)  G0 G3 G9 G7 G8 G12 G13 G16 G17 G18 (by assumption) (by assumption)) G0 (W hw 101) dd dd e8 rfl (by rw [hml]; rfl) (argsL := [(.ref blk), (.ref ob)]) (rest := []) (lenOf pd_12 rfl) rfl (wle rfl) (hb hby d15_66) rfl dd dd fun v10 T10 L10 hQ10 X10 => ?_
  obtain ⟨rfl, Nq10, hs10⟩ := hQ10
  have N10 := Fr.app N3 Nq10
  refine cs (fun t k => xistore X10 hc d15_69 rfl rfl (xaloadN X10 hc d15_71 rfl rfl (xiload X10 hc d15_72 rfl k))) ?_
  show Comes p e below _ (T10.setTop (mkF m 74 #[vr rk, vr ob, vi (0 : Int32), vr blk, vi (1 : Int32)] [(.int (1 : Int32)), (.ref blk)]))
  refine Comes.cV X10 hx hZ hown (y := y20) (W := 0) (W hw 160) (W hw 161) (W hw 163) (W hw 162) dd (W hw 164) (open_1_1 l Z a0 hw [] blk os ts ns ko kt kn ((.ref xa)) vb vc ta tb tc ua ub uc h0 n0 (by omega)  G5 G6 G7 G8 G9 G10 G11 G12 G13 G22 G23 G24 G25 G28 G29 G30 G33 G34 G37) G5 (W hw 133) dd dd hs10 rfl (by rw [hml]; rfl) (argsL := [(.int (1 : Int32))]) (rest := []) (lenOf pd_10 rfl) rfl (wle rfl) (hb hby d15_74) rfl dd dd fun v11 T11 L11 hQ11 X11 => ?_
  obtain ⟨rfl, Nq11, Kq11, P11_0, P11_1, P11_2, P11_3, P11_4, P11_5, P11_6, P11_7⟩ := hQ11
  have N11 := Fr.app N10 Nq11
  have z11k : h0.size ≤ T11.heap.size := Kq11.1
  have K11 := K0.trans Kq11 (allS (mE 0) (allS (mE 1) (allS (mE 2) (allS (mE 3) all0))))
  refine cs (fun t k => xaloadN X11 hc d15_77 rfl rfl (xiload X11 hc d15_78 rfl (xaloadN X11 hc d15_80 rfl rfl k))) ?_
  have F12 := (G16.keep Kq11)
  have ni13 := ninS (Ne.symm G31) (ninS (Ne.symm G35) (ninS (Ne.symm G38) (ninS (Ne.symm G40) nin0)))
  have F14 := (G17.keep Kq11 ni13)
  have F15 := (G18.keep Kq11 ni13)
  refine Comes.cV X11 hx hZ hown (y := y22) (W := 0) (W hw 171) (W hw 172) (W hw 174) (W hw 173) dd (W hw 175) (put_1 l Z a0 hw [] blk ob os ts ns ko kt kn ((.ref xa)) vb vc ta tb tc ua ub uc tt uu T11.heap n0 (by omega)  P11_0 P11_1 P11_2 P11_3 P11_5 G11 P11_6 P11_7 F12 F14 F15 G23 G24 G25 G28 G29 G30 G33 G34 G37 (Ne.symm G35) (Ne.symm G38) (Ne.symm G40)) P11_0 (W hw 133) dd dd rfl rfl (by rw [hml]; rfl) (argsL := [(.int (1 : Int32)), (.ref ob)]) (rest := []) (lenOf pd_13 rfl) rfl (wle rfl) (hb hby d15_81) rfl dd dd fun v16 T16 L16 hQ16 X16 => ?_
  obtain ⟨rfl, Nq16, Kq16, P16_0, P16_1, P16_2⟩ := hQ16
  have N16 := Fr.app N11 Nq16
  have z16k : T11.heap.size ≤ T16.heap.size := Kq16.1
  have K16 := K11.trans Kq16 (allS (mE 1) (allS (mE 2) (allS (mE 3) all0)))
  refine cs (fun t k => xaloadN X16 hc d15_84 rfl rfl (xiloadN X16 hc d15_85 rfl (xiload X16 hc d15_86 rfl k))) ?_
  show Comes p e below _ (T16.setTop (mkF m 88 #[vr rk, vr ob, vi (0 : Int32), vr blk, vi (1 : Int32)] [(.int (1 : Int32)), (.int (0 : Int32)), (.ref rk)]))
  have F17 := ((G0.keep Kq11).keep Kq16)
  have ni18 := ninS (Ne.symm G43) (ninS (Ne.symm G45) (ninS (Ne.symm G47) (ninS (Ne.symm G49) nin0)))
  have ni19 := ninS (Ne.symm G45) (ninS (Ne.symm G47) (ninS (Ne.symm G49) nin0))
  have F20 := ((G1.keep Kq11 ni18).keep Kq16 ni19)
  have F21 := ((G2.keep Kq11 ni18).keep Kq16 ni19)
  have ni22 := ninS (Ne.symm G44) (ninS (Ne.symm G46) (ninS (Ne.symm G48) (ninS (Ne.symm G50) nin0)))
  have ni23 := ninS (Ne.symm G46) (ninS (Ne.symm G48) (ninS (Ne.symm G50) nin0))
  have F24 := ((G4.keep Kq11 ni22).keep Kq16 ni23)
  have ni25 := ninS G28 (ninS G29 (ninS G30 nin0))
  have F26 := (P11_1.keep Kq16 ni25)
  have F27 := (P11_4.keep Kq16 ni25)
  have F28 := ((G14.keep Kq11).keep Kq16)
  have F29 := (F12.keep Kq16)
  have ni30 := ninS (Ne.symm G35) (ninS (Ne.symm G38) (ninS (Ne.symm G40) nin0))
  have F31 := ((G19.keep Kq11 ni13).keep Kq16 ni30)
  have ni32 := ninS (Ne.symm G32) (ninS (Ne.symm G36) (ninS (Ne.symm G39) (ninS (Ne.symm G41) nin0)))
  have ni33 := ninS (Ne.symm G36) (ninS (Ne.symm G39) (ninS (Ne.symm G41) nin0))
  have F34 := ((G15.keep Kq11 ni32).keep Kq16 ni33)
  refine Comes.cP X16 hx hZ hown (y := y25) (W := 0) (W hw 186) (W hw 187) (W hw 100) (W hw 188) dd (W hw 189) (link_2_1 l Z a0 hw [] rk bl kb blk os ko xa ob vc wo wb T16.heap n0 (by omega)  F17 F20 F21 F24 F26 F27 P16_0 F28 F29 F31 F34 G26 G27 G42 G51 G52 (Ne.symm G31) (Ne.symm G35) G53 G54 (Ne.symm G32) (Ne.symm G36)) F17 (W hw 101) dd dd rfl rfl (by rw [hml]; rfl) (argsL := [(.int (0 : Int32)), (.int (1 : Int32))]) (rest := []) (lenOf pd_6 rfl) rfl (wle rfl) (hb hby d15_88) rfl dd dd fun v35 T35 L35 hQ35 X35 => ?_
  obtain ⟨rfl, Nq35, Kq35, P35_0, P35_1⟩ := hQ35
  have N35 := Fr.app N16 Nq35
  have z35k : T16.heap.size ≤ T35.heap.size := Kq35.1
  have K35 := K16.trans Kq35 (allS (mE 4) (allS (mE 5) all0))
  show Comes p e below _ (T35.setTop (mkF m 91 #[vr rk, vr ob, vi (0 : Int32), vr blk, vi (1 : Int32)] []))
  have F36 := ((P11_0.keep Kq16).keep Kq35)
  have ni37 := ninS G31 (ninS G32 nin0)
  have F38 := (F26.keep Kq35 ni37)
  have F39 := ((P11_2.keep Kq16 ni25).keep Kq35 ni37)
  have F40 := ((P11_3.keep Kq16 ni25).keep Kq35 ni37)
  have F41 := (F27.keep Kq35 ni37)
  have ni42 := ninS G35 (ninS G36 nin0)
  have F43 := (P16_0.keep Kq35 ni42)
  have ni44 := ninS G38 (ninS G39 nin0)
  have F45 := (P16_1.keep Kq35 ni44)
  have ni46 := ninS G40 (ninS G41 nin0)
  have F47 := (P16_2.keep Kq35 ni46)
  exact Comes.ret0 X35 hx hret hlk (hb hby d15_91) rfl ⟨rfl, N35, K35, F36, F38, F39, F40, F41, F43, F45, F47, P35_0, P35_1⟩ dd dd
def Q_add_2_0 (Z : State) (rk ob bl : Nat) (kb : ClassId) (lw : Int32) (blk os ts ns : Nat) (ko kt kn : ClassId) (xa xb : Nat) (vc : Value) (ta tb tc ua ub uc tt uu : Int64) (wo : Value) (h0 : Heap) (n0 : Nat) (v_ : Option Value) (h : Heap) (L_ : List Loc) : Prop := (v_ = none) ∧ (Fr n0 L_) ∧ (Keep h0 h [blk, os, ts, ns, ob]) ∧ (Exa Z h blk sBk) ∧ (Fld Z h blk sBk "orders" dOs (.ref os)) ∧ (Fld Z h blk sBk "ticks" "[J" (.ref ts)) ∧ (Fld Z h blk sBk "numbers" "[J" (.ref ns)) ∧ (Fld Z h blk sBk "size" "I" (.int (3 : Int32))) ∧ (Arv Z h os ko (.object sOr) (64 : Int32) [(.ref ob), (.ref xa), (.ref xb)] .null) ∧ (AJ Z h ts kt tt ta tb) ∧ (AJ Z h ns kn uu ua ub) ∧ (Fld Z h ob sOr "after" dOr (.ref xa))
theorem add_2_0 (l : Launch) (Z : State) (a0 : Array Value) (hw : ∀ d ∈ tables_1, d.before a0 Z = true) (ws : List Jvm.Cond) (rk ob bl : Nat) (kb : ClassId) (lw : Int32) (blk os ts ns : Nat) (ko kt kn : ClassId) (xa xb : Nat) (vc : Value) (ta tb tc ua ub uc tt uu : Int64) (wo : Value) (h0 : Heap) (n0 : Nat) (Z0 : n0 ≤ h0.size) (G0 : Exa Z h0 rk sRk) (G1 : Fld Z h0 rk sRk "blocks" dBs (.ref bl)) (G2 : Fld Z h0 rk sRk "count" "I" (.int (1 : Int32))) (G3 : Fld Z h0 rk sRk "lowestBest" "Z" (.int lw)) (G4 : Arv Z h0 bl kb (.object sBk) (4 : Int32) [(.ref blk), .null, .null, .null] .null) (G5 : Exa Z h0 blk sBk) (G6 : Fld Z h0 blk sBk "orders" dOs (.ref os)) (G7 : Fld Z h0 blk sBk "ticks" "[J" (.ref ts)) (G8 : Fld Z h0 blk sBk "numbers" "[J" (.ref ns)) (G9 : Fld Z h0 blk sBk "size" "I" (.int (2 : Int32))) (G10 : Arv Z h0 os ko (.object sOr) (64 : Int32) [(.ref xa), (.ref xb), vc] .null) (G11 : Ovr Z ko sOr) (G12 : AJ Z h0 ts kt ta tb tc) (G13 : AJ Z h0 ns kn ua ub uc) (G14 : Exa Z h0 xa sOr) (G15 : Exa Z h0 xb sOr) (G16 : Exa Z h0 ob sOr) (G17 : Fld Z h0 ob sOr "number" "J" (.long uu)) (G18 : Fld Z h0 ob sOr "ticks" "J" (.long tt)) (G19 : Fld Z h0 ob sOr "after" dOr wo) (G20 : lw = (0 : Int32) ∨ lw = (1 : Int32)) (G21 : ¬ ((¬ tb = tt ∧ ¬ lw = (0 : Int32) ∧ tb < tt) ∨ (¬ tb = tt ∧ lw = (0 : Int32) ∧ tt < tb) ∨ (tb = tt ∧ ub < uu))) (G22 : ¬ ((¬ ta = tt ∧ ¬ lw = (0 : Int32) ∧ ta < tt) ∨ (¬ ta = tt ∧ lw = (0 : Int32) ∧ tt < ta) ∨ (ta = tt ∧ ua < uu))) (G23 : n0 ≤ blk) (G24 : n0 ≤ os) (G25 : n0 ≤ ts) (G26 : n0 ≤ ns) (G27 : n0 ≤ ob) (G28 : blk ≠ os) (G29 : blk ≠ ts) (G30 : blk ≠ ns) (G31 : blk ≠ ob) (G32 : os ≠ ts) (G33 : os ≠ ns) (G34 : os ≠ ob) (G35 : ts ≠ ns) (G36 : ts ≠ ob) (G37 : ns ≠ ob) (G38 : blk ≠ rk) (G39 : blk ≠ bl) (G40 : os ≠ rk) (G41 : os ≠ bl) (G42 : ts ≠ rk) (G43 : ts ≠ bl) (G44 : ns ≠ rk) (G45 : ns ≠ bl) (G46 : ob ≠ rk) (G47 : ob ≠ bl) :
    Con l Z y15 prog_27_method_5_code 5 none ws (Rm 3 0 0 49) #[(.ref rk), (.ref ob)] h0 (Q_add_2_0 Z rk ob bl kb lw blk os ts ns ko kt kn xa xb vc ta tb tc ua ub uc tt uu wo h0 n0) := by
  refine Con.of (plainFor_of_name pn_15) fun p e s m below meth c s₁ hx hby hml hZ hown hnm hlk hret X0 e0 => ?_
  have N0 := Fr.nil n0
  have hc := And.intro hx hby
  have K0 := Keep.refl h0 [blk, os, ts, ns, ob]
  refine Comes.cast (ef_rm18 m rk ob) ?_
  have lt_rk : rk < h0.size := G0.lt
  have lt_bl : bl < h0.size := G4.lt
  have lt_blk : blk < h0.size := G5.lt
  have lt_os : os < h0.size := G10.lt
  have lt_ts : ts < h0.size := G12.lt
  have lt_ns : ns < h0.size := G13.lt
  have lt_xa : xa < h0.size := G14.lt
  have lt_xb : xb < h0.size := G15.lt
  have lt_ob : ob < h0.size := G16.lt
  refine cs (fun t k => xaloadN X0 hc d15_0 rfl rfl k) ?_
  refine Comes.gF X0 hx hZ hown (host := "") (Or.inl (W hw 121)) Via.refl e0 G2 rfl rfl (hb hby d15_1) fun T1 X1 e1 => ?_
  refine cs (fun t k => xifYes X1 hc 4 12 d15_4 rfl ((if0 _ _).trans (feq dd).2) (xaloadN X1 hc d15_12 rfl rfl (xaloadN X1 hc d15_13 rfl rfl k))) ?_
  refine Comes.cP X1 hx hZ hown (y := y18) (W := 0) (W hw 150) (W hw 151) (W hw 100) (W hw 152) dd (W hw 153) (rm18 l Z a0 hw [] rk ob h0 n0 (by omega)  G2) G0 (W hw 101) dd dd e1 rfl (by rw [hml]; rfl) (argsL := [(.ref ob)]) (rest := []) (lenOf pd_11 rfl) rfl (wle rfl) (hb hby d15_14) rfl dd dd fun v3 T3 L3 hQ3 X3 => ?_
  obtain ⟨rfl, Nq3, hs3⟩ := hQ3
  have N3 := Fr.app N0 Nq3
  refine cs (fun t k => xistoreN X3 hc d15_17 rfl rfl (xaloadN X3 hc d15_18 rfl rfl k)) ?_
  show Comes p e below _ (T3.setTop (mkF m 19 #[vr rk, vr ob, vi (0 : Int32), U0, U0] [(.ref rk)]))
  refine Comes.gF X3 hx hZ hown (host := "") (Or.inl (W hw 108)) Via.refl hs3 G1 rfl rfl (hb hby d15_19) fun T4 X4 e4 => ?_
  refine cs (fun t k => xiloadN X4 hc d15_22 rfl k) ?_
  refine Comes.ldR X4 hx hZ e4 G4 rfl rfl (v := (.ref blk)) rfl (hb hby d15_23) ?_
  refine Comes.gR X4 hx hZ hown (W hw 154) Via.refl e4 G9 rfl rfl (hb hby d15_24) fun T6 X6 e6 => ?_
  refine cs (fun t k => XS.bipush X6.here hx rfl (hb hby d15_27) k) ?_
  refine cs (fun t k => xicmpYes X6 hc 29 56 d15_29 rfl (feq dd).2 (xaloadN X6 hc d15_56 rfl rfl k)) ?_
  refine Comes.gF X6 hx hZ hown (host := "") (Or.inl (W hw 108)) Via.refl e6 G1 rfl rfl (hb hby d15_57) fun T8 X8 e8 => ?_
  refine cs (fun t k => xiloadN X8 hc d15_60 rfl k) ?_
  show Comes p e below _ (T8.setTop (mkF m 61 #[vr rk, vr ob, vi (0 : Int32), U0, U0] [(.int (0 : Int32)), (.ref bl)]))
  refine Comes.ldR X8 hx hZ e8 G4 rfl rfl (v := (.ref blk)) rfl (hb hby d15_61) ?_
  refine cs (fun t k => xastoreN X8 hc d15_62 rfl rfl rfl (xaloadN X8 hc d15_63 rfl rfl (xaloadN X8 hc d15_64 rfl rfl (xaloadN X8 hc d15_65 rfl rfl k)))) ?_
  refine Comes.cP X8 hx hZ hown (y := y19) (W := 0) (W hw 156) (W hw 157) (W hw 100) (W hw 158) dd (W hw 159) (pin_2_0 l Z a0 hw [] rk blk ob lw ts ns kt kn ta tb tc ua ub uc tt uu h0 n0 (by omega)  G0 G3 G9 G7 G8 G12 G13 G16 G17 G18 (by assumption) (by assumption) (by assumption)) G0 (W hw 101) dd dd e8 rfl (by rw [hml]; rfl) (argsL := [(.ref blk), (.ref ob)]) (rest := []) (lenOf pd_12 rfl) rfl (wle rfl) (hb hby d15_66) rfl dd dd fun v10 T10 L10 hQ10 X10 => ?_
  obtain ⟨rfl, Nq10, hs10⟩ := hQ10
  have N10 := Fr.app N3 Nq10
  refine cs (fun t k => xistore X10 hc d15_69 rfl rfl (xaloadN X10 hc d15_71 rfl rfl (xiload X10 hc d15_72 rfl k))) ?_
  show Comes p e below _ (T10.setTop (mkF m 74 #[vr rk, vr ob, vi (0 : Int32), vr blk, vi (0 : Int32)] [(.int (0 : Int32)), (.ref blk)]))
  refine Comes.cV X10 hx hZ hown (y := y20) (W := 0) (W hw 160) (W hw 161) (W hw 163) (W hw 162) dd (W hw 164) (open_2_0 l Z a0 hw [] blk os ts ns ko kt kn xa xb vc ta tb tc ua ub uc h0 n0 (by omega)  G5 G6 G7 G8 G9 G10 G11 G12 G13 G14 G15 G23 G24 G25 G26 G28 G29 G30 G32 G33 G35) G5 (W hw 133) dd dd hs10 rfl (by rw [hml]; rfl) (argsL := [(.int (0 : Int32))]) (rest := []) (lenOf pd_10 rfl) rfl (wle rfl) (hb hby d15_74) rfl dd dd fun v11 T11 L11 hQ11 X11 => ?_
  obtain ⟨rfl, Nq11, Kq11, P11_0, P11_1, P11_2, P11_3, P11_4, P11_5, P11_6, P11_7⟩ := hQ11
  have N11 := Fr.app N10 Nq11
  have z11k : h0.size ≤ T11.heap.size := Kq11.1
  have K11 := K0.trans Kq11 (allS (mE 0) (allS (mE 1) (allS (mE 2) (allS (mE 3) all0))))
  refine cs (fun t k => xaloadN X11 hc d15_77 rfl rfl (xiload X11 hc d15_78 rfl (xaloadN X11 hc d15_80 rfl rfl k))) ?_
  have F12 := (G16.keep Kq11)
  have ni13 := ninS (Ne.symm G31) (ninS (Ne.symm G34) (ninS (Ne.symm G36) (ninS (Ne.symm G37) nin0)))
  have F14 := (G17.keep Kq11 ni13)
  have F15 := (G18.keep Kq11 ni13)
  refine Comes.cV X11 hx hZ hown (y := y22) (W := 0) (W hw 171) (W hw 172) (W hw 174) (W hw 173) dd (W hw 175) (put_0 l Z a0 hw [] blk ob os ts ns ko kt kn ((.ref xa)) ((.ref xa)) ((.ref xb)) ta ta tb ua ua ub tt uu T11.heap n0 (by omega)  P11_0 P11_1 P11_2 P11_3 P11_5 G11 P11_6 P11_7 F12 F14 F15 G24 G25 G26 G28 G29 G30 G32 G33 G35 (Ne.symm G34) (Ne.symm G36) (Ne.symm G37)) P11_0 (W hw 133) dd dd rfl rfl (by rw [hml]; rfl) (argsL := [(.int (0 : Int32)), (.ref ob)]) (rest := []) (lenOf pd_13 rfl) rfl (wle rfl) (hb hby d15_81) rfl dd dd fun v16 T16 L16 hQ16 X16 => ?_
  obtain ⟨rfl, Nq16, Kq16, P16_0, P16_1, P16_2⟩ := hQ16
  have N16 := Fr.app N11 Nq16
  have z16k : T11.heap.size ≤ T16.heap.size := Kq16.1
  have K16 := K11.trans Kq16 (allS (mE 1) (allS (mE 2) (allS (mE 3) all0)))
  refine cs (fun t k => xaloadN X16 hc d15_84 rfl rfl (xiloadN X16 hc d15_85 rfl (xiload X16 hc d15_86 rfl k))) ?_
  show Comes p e below _ (T16.setTop (mkF m 88 #[vr rk, vr ob, vi (0 : Int32), vr blk, vi (0 : Int32)] [(.int (0 : Int32)), (.int (0 : Int32)), (.ref rk)]))
  have F17 := ((G0.keep Kq11).keep Kq16)
  have ni18 := ninS (Ne.symm G38) (ninS (Ne.symm G40) (ninS (Ne.symm G42) (ninS (Ne.symm G44) nin0)))
  have ni19 := ninS (Ne.symm G40) (ninS (Ne.symm G42) (ninS (Ne.symm G44) nin0))
  have F20 := ((G1.keep Kq11 ni18).keep Kq16 ni19)
  have F21 := ((G2.keep Kq11 ni18).keep Kq16 ni19)
  have ni22 := ninS (Ne.symm G39) (ninS (Ne.symm G41) (ninS (Ne.symm G43) (ninS (Ne.symm G45) nin0)))
  have ni23 := ninS (Ne.symm G41) (ninS (Ne.symm G43) (ninS (Ne.symm G45) nin0))
  have F24 := ((G4.keep Kq11 ni22).keep Kq16 ni23)
  have ni25 := ninS G28 (ninS G29 (ninS G30 nin0))
  have F26 := (P11_1.keep Kq16 ni25)
  have F27 := (P11_4.keep Kq16 ni25)
  have F28 := (F12.keep Kq16)
  have F29 := ((G14.keep Kq11).keep Kq16)
  have F30 := ((G15.keep Kq11).keep Kq16)
  have ni31 := ninS (Ne.symm G34) (ninS (Ne.symm G36) (ninS (Ne.symm G37) nin0))
  have F32 := ((G19.keep Kq11 ni13).keep Kq16 ni31)
  refine Comes.cP X16 hx hZ hown (y := y25) (W := 0) (W hw 186) (W hw 187) (W hw 100) (W hw 188) dd (W hw 189) (link_3_0 l Z a0 hw [] rk bl kb blk os ko ob xa xb wo T16.heap n0 (by omega)  F17 F20 F21 F24 F26 F27 P16_0 F28 F29 F30 F32 G27 G46 G47 (Ne.symm G31) (Ne.symm G34)) F17 (W hw 101) dd dd rfl rfl (by rw [hml]; rfl) (argsL := [(.int (0 : Int32)), (.int (0 : Int32))]) (rest := []) (lenOf pd_6 rfl) rfl (wle rfl) (hb hby d15_88) rfl dd dd fun v33 T33 L33 hQ33 X33 => ?_
  obtain ⟨rfl, Nq33, Kq33, P33_0⟩ := hQ33
  have N33 := Fr.app N16 Nq33
  have z33k : T16.heap.size ≤ T33.heap.size := Kq33.1
  have K33 := K16.trans Kq33 (allS (mE 4) all0)
  show Comes p e below _ (T33.setTop (mkF m 91 #[vr rk, vr ob, vi (0 : Int32), vr blk, vi (0 : Int32)] []))
  have F34 := ((P11_0.keep Kq16).keep Kq33)
  have ni35 := ninS G31 nin0
  have F36 := (F26.keep Kq33 ni35)
  have F37 := ((P11_2.keep Kq16 ni25).keep Kq33 ni35)
  have F38 := ((P11_3.keep Kq16 ni25).keep Kq33 ni35)
  have F39 := (F27.keep Kq33 ni35)
  have ni40 := ninS G34 nin0
  have F41 := (P16_0.keep Kq33 ni40)
  have ni42 := ninS G36 nin0
  have F43 := (P16_1.keep Kq33 ni42)
  have ni44 := ninS G37 nin0
  have F45 := (P16_2.keep Kq33 ni44)
  exact Comes.ret0 X33 hx hret hlk (hb hby d15_91) rfl ⟨rfl, N33, K33, F34, F36, F37, F38, F39, F41, F43, F45, P33_0⟩ dd dd
def Q_add_2_1 (Z : State) (rk ob bl : Nat) (kb : ClassId) (lw : Int32) (blk os ts ns : Nat) (ko kt kn : ClassId) (xa xb : Nat) (vc : Value) (ta tb tc ua ub uc tt uu : Int64) (wo wb : Value) (h0 : Heap) (n0 : Nat) (v_ : Option Value) (h : Heap) (L_ : List Loc) : Prop := (v_ = none) ∧ (Fr n0 L_) ∧ (Keep h0 h [blk, os, ts, ns, ob, xa]) ∧ (Exa Z h blk sBk) ∧ (Fld Z h blk sBk "orders" dOs (.ref os)) ∧ (Fld Z h blk sBk "ticks" "[J" (.ref ts)) ∧ (Fld Z h blk sBk "numbers" "[J" (.ref ns)) ∧ (Fld Z h blk sBk "size" "I" (.int (3 : Int32))) ∧ (Arv Z h os ko (.object sOr) (64 : Int32) [(.ref xa), (.ref ob), (.ref xb)] .null) ∧ (AJ Z h ts kt ta tt tb) ∧ (AJ Z h ns kn ua uu ub) ∧ (Fld Z h ob sOr "after" dOr (.ref xb)) ∧ (Fld Z h xa sOr "after" dOr (.ref ob))
theorem add_2_1 (l : Launch) (Z : State) (a0 : Array Value) (hw : ∀ d ∈ tables_1, d.before a0 Z = true) (ws : List Jvm.Cond) (rk ob bl : Nat) (kb : ClassId) (lw : Int32) (blk os ts ns : Nat) (ko kt kn : ClassId) (xa xb : Nat) (vc : Value) (ta tb tc ua ub uc tt uu : Int64) (wo wb : Value) (h0 : Heap) (n0 : Nat) (Z0 : n0 ≤ h0.size) (G0 : Exa Z h0 rk sRk) (G1 : Fld Z h0 rk sRk "blocks" dBs (.ref bl)) (G2 : Fld Z h0 rk sRk "count" "I" (.int (1 : Int32))) (G3 : Fld Z h0 rk sRk "lowestBest" "Z" (.int lw)) (G4 : Arv Z h0 bl kb (.object sBk) (4 : Int32) [(.ref blk), .null, .null, .null] .null) (G5 : Exa Z h0 blk sBk) (G6 : Fld Z h0 blk sBk "orders" dOs (.ref os)) (G7 : Fld Z h0 blk sBk "ticks" "[J" (.ref ts)) (G8 : Fld Z h0 blk sBk "numbers" "[J" (.ref ns)) (G9 : Fld Z h0 blk sBk "size" "I" (.int (2 : Int32))) (G10 : Arv Z h0 os ko (.object sOr) (64 : Int32) [(.ref xa), (.ref xb), vc] .null) (G11 : Ovr Z ko sOr) (G12 : AJ Z h0 ts kt ta tb tc) (G13 : AJ Z h0 ns kn ua ub uc) (G14 : Exa Z h0 xa sOr) (G15 : Exa Z h0 xb sOr) (G16 : Fld Z h0 xa sOr "after" dOr wb) (G17 : Exa Z h0 ob sOr) (G18 : Fld Z h0 ob sOr "number" "J" (.long uu)) (G19 : Fld Z h0 ob sOr "ticks" "J" (.long tt)) (G20 : Fld Z h0 ob sOr "after" dOr wo) (G21 : lw = (0 : Int32) ∨ lw = (1 : Int32)) (G22 : ¬ ((¬ tb = tt ∧ ¬ lw = (0 : Int32) ∧ tb < tt) ∨ (¬ tb = tt ∧ lw = (0 : Int32) ∧ tt < tb) ∨ (tb = tt ∧ ub < uu))) (G23 : ((¬ ta = tt ∧ ¬ lw = (0 : Int32) ∧ ta < tt) ∨ (¬ ta = tt ∧ lw = (0 : Int32) ∧ tt < ta) ∨ (ta = tt ∧ ua < uu))) (G24 : n0 ≤ blk) (G25 : n0 ≤ os) (G26 : n0 ≤ ts) (G27 : n0 ≤ ns) (G28 : n0 ≤ ob) (G29 : n0 ≤ xa) (G30 : blk ≠ os) (G31 : blk ≠ ts) (G32 : blk ≠ ns) (G33 : blk ≠ ob) (G34 : blk ≠ xa) (G35 : os ≠ ts) (G36 : os ≠ ns) (G37 : os ≠ ob) (G38 : os ≠ xa) (G39 : ts ≠ ns) (G40 : ts ≠ ob) (G41 : ts ≠ xa) (G42 : ns ≠ ob) (G43 : ns ≠ xa) (G44 : ob ≠ xa) (G45 : blk ≠ rk) (G46 : blk ≠ bl) (G47 : os ≠ rk) (G48 : os ≠ bl) (G49 : ts ≠ rk) (G50 : ts ≠ bl) (G51 : ns ≠ rk) (G52 : ns ≠ bl) (G53 : ob ≠ rk) (G54 : ob ≠ bl) (G55 : xa ≠ rk) (G56 : xa ≠ bl) :
    Con l Z y15 prog_27_method_5_code 5 none ws (Rm 3 0 0 49) #[(.ref rk), (.ref ob)] h0 (Q_add_2_1 Z rk ob bl kb lw blk os ts ns ko kt kn xa xb vc ta tb tc ua ub uc tt uu wo wb h0 n0) := by
  refine Con.of (plainFor_of_name pn_15) fun p e s m below meth c s₁ hx hby hml hZ hown hnm hlk hret X0 e0 => ?_
  have N0 := Fr.nil n0
  have hc := And.intro hx hby
  have K0 := Keep.refl h0 [blk, os, ts, ns, ob, xa]
  refine Comes.cast (ef_rm18 m rk ob) ?_
  have lt_rk : rk < h0.size := G0.lt
  have lt_bl : bl < h0.size := G4.lt
  have lt_blk : blk < h0.size := G5.lt
  have lt_os : os < h0.size := G10.lt
  have lt_ts : ts < h0.size := G12.lt
  have lt_ns : ns < h0.size := G13.lt
  have lt_xa : xa < h0.size := G14.lt
  have lt_xb : xb < h0.size := G15.lt
  have lt_ob : ob < h0.size := G17.lt
  refine cs (fun t k => xaloadN X0 hc d15_0 rfl rfl k) ?_
  refine Comes.gF X0 hx hZ hown (host := "") (Or.inl (W hw 121)) Via.refl e0 G2 rfl rfl (hb hby d15_1) fun T1 X1 e1 => ?_
  refine cs (fun t k => xifYes X1 hc 4 12 d15_4 rfl ((if0 _ _).trans (feq dd).2) (xaloadN X1 hc d15_12 rfl rfl (xaloadN X1 hc d15_13 rfl rfl k))) ?_
  refine Comes.cP X1 hx hZ hown (y := y18) (W := 0) (W hw 150) (W hw 151) (W hw 100) (W hw 152) dd (W hw 153) (rm18 l Z a0 hw [] rk ob h0 n0 (by omega)  G2) G0 (W hw 101) dd dd e1 rfl (by rw [hml]; rfl) (argsL := [(.ref ob)]) (rest := []) (lenOf pd_11 rfl) rfl (wle rfl) (hb hby d15_14) rfl dd dd fun v3 T3 L3 hQ3 X3 => ?_
  obtain ⟨rfl, Nq3, hs3⟩ := hQ3
  have N3 := Fr.app N0 Nq3
  refine cs (fun t k => xistoreN X3 hc d15_17 rfl rfl (xaloadN X3 hc d15_18 rfl rfl k)) ?_
  show Comes p e below _ (T3.setTop (mkF m 19 #[vr rk, vr ob, vi (0 : Int32), U0, U0] [(.ref rk)]))
  refine Comes.gF X3 hx hZ hown (host := "") (Or.inl (W hw 108)) Via.refl hs3 G1 rfl rfl (hb hby d15_19) fun T4 X4 e4 => ?_
  refine cs (fun t k => xiloadN X4 hc d15_22 rfl k) ?_
  refine Comes.ldR X4 hx hZ e4 G4 rfl rfl (v := (.ref blk)) rfl (hb hby d15_23) ?_
  refine Comes.gR X4 hx hZ hown (W hw 154) Via.refl e4 G9 rfl rfl (hb hby d15_24) fun T6 X6 e6 => ?_
  refine cs (fun t k => XS.bipush X6.here hx rfl (hb hby d15_27) k) ?_
  refine cs (fun t k => xicmpYes X6 hc 29 56 d15_29 rfl (feq dd).2 (xaloadN X6 hc d15_56 rfl rfl k)) ?_
  refine Comes.gF X6 hx hZ hown (host := "") (Or.inl (W hw 108)) Via.refl e6 G1 rfl rfl (hb hby d15_57) fun T8 X8 e8 => ?_
  refine cs (fun t k => xiloadN X8 hc d15_60 rfl k) ?_
  show Comes p e below _ (T8.setTop (mkF m 61 #[vr rk, vr ob, vi (0 : Int32), U0, U0] [(.int (0 : Int32)), (.ref bl)]))
  refine Comes.ldR X8 hx hZ e8 G4 rfl rfl (v := (.ref blk)) rfl (hb hby d15_61) ?_
  refine cs (fun t k => xastoreN X8 hc d15_62 rfl rfl rfl (xaloadN X8 hc d15_63 rfl rfl (xaloadN X8 hc d15_64 rfl rfl (xaloadN X8 hc d15_65 rfl rfl k)))) ?_
  refine Comes.cP X8 hx hZ hown (y := y19) (W := 0) (W hw 156) (W hw 157) (W hw 100) (W hw 158) dd (W hw 159) (pin_2_1 l Z a0 hw [] rk blk ob lw ts ns kt kn ta tb tc ua ub uc tt uu h0 n0 (by omega)  G0 G3 G9 G7 G8 G12 G13 G17 G18 G19 (by assumption) (by assumption) (by assumption)) G0 (W hw 101) dd dd e8 rfl (by rw [hml]; rfl) (argsL := [(.ref blk), (.ref ob)]) (rest := []) (lenOf pd_12 rfl) rfl (wle rfl) (hb hby d15_66) rfl dd dd fun v10 T10 L10 hQ10 X10 => ?_
  obtain ⟨rfl, Nq10, hs10⟩ := hQ10
  have N10 := Fr.app N3 Nq10
  refine cs (fun t k => xistore X10 hc d15_69 rfl rfl (xaloadN X10 hc d15_71 rfl rfl (xiload X10 hc d15_72 rfl k))) ?_
  show Comes p e below _ (T10.setTop (mkF m 74 #[vr rk, vr ob, vi (0 : Int32), vr blk, vi (1 : Int32)] [(.int (1 : Int32)), (.ref blk)]))
  refine Comes.cV X10 hx hZ hown (y := y20) (W := 0) (W hw 160) (W hw 161) (W hw 163) (W hw 162) dd (W hw 164) (open_2_1 l Z a0 hw [] blk os ts ns ko kt kn ((.ref xa)) xb vc ta tb tc ua ub uc h0 n0 (by omega)  G5 G6 G7 G8 G9 G10 G11 G12 G13 G15 G24 G25 G26 G27 G30 G31 G32 G35 G36 G39) G5 (W hw 133) dd dd hs10 rfl (by rw [hml]; rfl) (argsL := [(.int (1 : Int32))]) (rest := []) (lenOf pd_10 rfl) rfl (wle rfl) (hb hby d15_74) rfl dd dd fun v11 T11 L11 hQ11 X11 => ?_
  obtain ⟨rfl, Nq11, Kq11, P11_0, P11_1, P11_2, P11_3, P11_4, P11_5, P11_6, P11_7⟩ := hQ11
  have N11 := Fr.app N10 Nq11
  have z11k : h0.size ≤ T11.heap.size := Kq11.1
  have K11 := K0.trans Kq11 (allS (mE 0) (allS (mE 1) (allS (mE 2) (allS (mE 3) all0))))
  refine cs (fun t k => xaloadN X11 hc d15_77 rfl rfl (xiload X11 hc d15_78 rfl (xaloadN X11 hc d15_80 rfl rfl k))) ?_
  have F12 := (G17.keep Kq11)
  have ni13 := ninS (Ne.symm G33) (ninS (Ne.symm G37) (ninS (Ne.symm G40) (ninS (Ne.symm G42) nin0)))
  have F14 := (G18.keep Kq11 ni13)
  have F15 := (G19.keep Kq11 ni13)
  refine Comes.cV X11 hx hZ hown (y := y22) (W := 0) (W hw 171) (W hw 172) (W hw 174) (W hw 173) dd (W hw 175) (put_1 l Z a0 hw [] blk ob os ts ns ko kt kn ((.ref xa)) ((.ref xb)) ((.ref xb)) ta tb tb ua ub ub tt uu T11.heap n0 (by omega)  P11_0 P11_1 P11_2 P11_3 P11_5 G11 P11_6 P11_7 F12 F14 F15 G25 G26 G27 G30 G31 G32 G35 G36 G39 (Ne.symm G37) (Ne.symm G40) (Ne.symm G42)) P11_0 (W hw 133) dd dd rfl rfl (by rw [hml]; rfl) (argsL := [(.int (1 : Int32)), (.ref ob)]) (rest := []) (lenOf pd_13 rfl) rfl (wle rfl) (hb hby d15_81) rfl dd dd fun v16 T16 L16 hQ16 X16 => ?_
  obtain ⟨rfl, Nq16, Kq16, P16_0, P16_1, P16_2⟩ := hQ16
  have N16 := Fr.app N11 Nq16
  have z16k : T11.heap.size ≤ T16.heap.size := Kq16.1
  have K16 := K11.trans Kq16 (allS (mE 1) (allS (mE 2) (allS (mE 3) all0)))
  refine cs (fun t k => xaloadN X16 hc d15_84 rfl rfl (xiloadN X16 hc d15_85 rfl (xiload X16 hc d15_86 rfl k))) ?_
  show Comes p e below _ (T16.setTop (mkF m 88 #[vr rk, vr ob, vi (0 : Int32), vr blk, vi (1 : Int32)] [(.int (1 : Int32)), (.int (0 : Int32)), (.ref rk)]))
  have F17 := ((G0.keep Kq11).keep Kq16)
  have ni18 := ninS (Ne.symm G45) (ninS (Ne.symm G47) (ninS (Ne.symm G49) (ninS (Ne.symm G51) nin0)))
  have ni19 := ninS (Ne.symm G47) (ninS (Ne.symm G49) (ninS (Ne.symm G51) nin0))
  have F20 := ((G1.keep Kq11 ni18).keep Kq16 ni19)
  have F21 := ((G2.keep Kq11 ni18).keep Kq16 ni19)
  have ni22 := ninS (Ne.symm G46) (ninS (Ne.symm G48) (ninS (Ne.symm G50) (ninS (Ne.symm G52) nin0)))
  have ni23 := ninS (Ne.symm G48) (ninS (Ne.symm G50) (ninS (Ne.symm G52) nin0))
  have F24 := ((G4.keep Kq11 ni22).keep Kq16 ni23)
  have ni25 := ninS G30 (ninS G31 (ninS G32 nin0))
  have F26 := (P11_1.keep Kq16 ni25)
  have F27 := (P11_4.keep Kq16 ni25)
  have F28 := ((G14.keep Kq11).keep Kq16)
  have F29 := (F12.keep Kq16)
  have F30 := ((G15.keep Kq11).keep Kq16)
  have ni31 := ninS (Ne.symm G37) (ninS (Ne.symm G40) (ninS (Ne.symm G42) nin0))
  have F32 := ((G20.keep Kq11 ni13).keep Kq16 ni31)
  have ni33 := ninS (Ne.symm G34) (ninS (Ne.symm G38) (ninS (Ne.symm G41) (ninS (Ne.symm G43) nin0)))
  have ni34 := ninS (Ne.symm G38) (ninS (Ne.symm G41) (ninS (Ne.symm G43) nin0))
  have F35 := ((G16.keep Kq11 ni33).keep Kq16 ni34)
  refine Comes.cP X16 hx hZ hown (y := y25) (W := 0) (W hw 186) (W hw 187) (W hw 100) (W hw 188) dd (W hw 189) (link_3_1 l Z a0 hw [] rk bl kb blk os ko xa ob xb wo wb T16.heap n0 (by omega)  F17 F20 F21 F24 F26 F27 P16_0 F28 F29 F30 F32 F35 G28 G29 G44 G53 G54 (Ne.symm G33) (Ne.symm G37) G55 G56 (Ne.symm G34) (Ne.symm G38)) F17 (W hw 101) dd dd rfl rfl (by rw [hml]; rfl) (argsL := [(.int (0 : Int32)), (.int (1 : Int32))]) (rest := []) (lenOf pd_6 rfl) rfl (wle rfl) (hb hby d15_88) rfl dd dd fun v36 T36 L36 hQ36 X36 => ?_
  obtain ⟨rfl, Nq36, Kq36, P36_0, P36_1⟩ := hQ36
  have N36 := Fr.app N16 Nq36
  have z36k : T16.heap.size ≤ T36.heap.size := Kq36.1
  have K36 := K16.trans Kq36 (allS (mE 4) (allS (mE 5) all0))
  show Comes p e below _ (T36.setTop (mkF m 91 #[vr rk, vr ob, vi (0 : Int32), vr blk, vi (1 : Int32)] []))
  have F37 := ((P11_0.keep Kq16).keep Kq36)
  have ni38 := ninS G33 (ninS G34 nin0)
  have F39 := (F26.keep Kq36 ni38)
  have F40 := ((P11_2.keep Kq16 ni25).keep Kq36 ni38)
  have F41 := ((P11_3.keep Kq16 ni25).keep Kq36 ni38)
  have F42 := (F27.keep Kq36 ni38)
  have ni43 := ninS G37 (ninS G38 nin0)
  have F44 := (P16_0.keep Kq36 ni43)
  have ni45 := ninS G40 (ninS G41 nin0)
  have F46 := (P16_1.keep Kq36 ni45)
  have ni47 := ninS G42 (ninS G43 nin0)
  have F48 := (P16_2.keep Kq36 ni47)
  exact Comes.ret0 X36 hx hret hlk (hb hby d15_91) rfl ⟨rfl, N36, K36, F37, F39, F40, F41, F42, F44, F46, F48, P36_0, P36_1⟩ dd dd
def Q_add_2_2 (Z : State) (rk ob bl : Nat) (kb : ClassId) (lw : Int32) (blk os ts ns : Nat) (ko kt kn : ClassId) (xa xb : Nat) (vc : Value) (ta tb tc ua ub uc tt uu : Int64) (wo wb : Value) (h0 : Heap) (n0 : Nat) (v_ : Option Value) (h : Heap) (L_ : List Loc) : Prop := (v_ = none) ∧ (Fr n0 L_) ∧ (Keep h0 h [blk, os, ts, ns, ob, xb]) ∧ (Exa Z h blk sBk) ∧ (Fld Z h blk sBk "orders" dOs (.ref os)) ∧ (Fld Z h blk sBk "ticks" "[J" (.ref ts)) ∧ (Fld Z h blk sBk "numbers" "[J" (.ref ns)) ∧ (Fld Z h blk sBk "size" "I" (.int (3 : Int32))) ∧ (Arv Z h os ko (.object sOr) (64 : Int32) [(.ref xa), (.ref xb), (.ref ob)] .null) ∧ (AJ Z h ts kt ta tb tt) ∧ (AJ Z h ns kn ua ub uu) ∧ (Fld Z h ob sOr "after" dOr .null) ∧ (Fld Z h xb sOr "after" dOr (.ref ob))
theorem add_2_2 (l : Launch) (Z : State) (a0 : Array Value) (hw : ∀ d ∈ tables_1, d.before a0 Z = true) (ws : List Jvm.Cond) (rk ob bl : Nat) (kb : ClassId) (lw : Int32) (blk os ts ns : Nat) (ko kt kn : ClassId) (xa xb : Nat) (vc : Value) (ta tb tc ua ub uc tt uu : Int64) (wo wb : Value) (h0 : Heap) (n0 : Nat) (Z0 : n0 ≤ h0.size) (G0 : Exa Z h0 rk sRk) (G1 : Fld Z h0 rk sRk "blocks" dBs (.ref bl)) (G2 : Fld Z h0 rk sRk "count" "I" (.int (1 : Int32))) (G3 : Fld Z h0 rk sRk "lowestBest" "Z" (.int lw)) (G4 : Arv Z h0 bl kb (.object sBk) (4 : Int32) [(.ref blk), .null, .null, .null] .null) (G5 : Exa Z h0 blk sBk) (G6 : Fld Z h0 blk sBk "orders" dOs (.ref os)) (G7 : Fld Z h0 blk sBk "ticks" "[J" (.ref ts)) (G8 : Fld Z h0 blk sBk "numbers" "[J" (.ref ns)) (G9 : Fld Z h0 blk sBk "size" "I" (.int (2 : Int32))) (G10 : Arv Z h0 os ko (.object sOr) (64 : Int32) [(.ref xa), (.ref xb), vc] .null) (G11 : Ovr Z ko sOr) (G12 : AJ Z h0 ts kt ta tb tc) (G13 : AJ Z h0 ns kn ua ub uc) (G14 : Exa Z h0 xa sOr) (G15 : Exa Z h0 xb sOr) (G16 : Fld Z h0 xb sOr "after" dOr wb) (G17 : Exa Z h0 ob sOr) (G18 : Fld Z h0 ob sOr "number" "J" (.long uu)) (G19 : Fld Z h0 ob sOr "ticks" "J" (.long tt)) (G20 : Fld Z h0 ob sOr "after" dOr wo) (G21 : lw = (0 : Int32) ∨ lw = (1 : Int32)) (G22 : ((¬ tb = tt ∧ ¬ lw = (0 : Int32) ∧ tb < tt) ∨ (¬ tb = tt ∧ lw = (0 : Int32) ∧ tt < tb) ∨ (tb = tt ∧ ub < uu))) (G23 : n0 ≤ blk) (G24 : n0 ≤ os) (G25 : n0 ≤ ts) (G26 : n0 ≤ ns) (G27 : n0 ≤ ob) (G28 : n0 ≤ xb) (G29 : blk ≠ os) (G30 : blk ≠ ts) (G31 : blk ≠ ns) (G32 : blk ≠ ob) (G33 : blk ≠ xb) (G34 : os ≠ ts) (G35 : os ≠ ns) (G36 : os ≠ ob) (G37 : os ≠ xb) (G38 : ts ≠ ns) (G39 : ts ≠ ob) (G40 : ts ≠ xb) (G41 : ns ≠ ob) (G42 : ns ≠ xb) (G43 : ob ≠ xb) (G44 : blk ≠ rk) (G45 : blk ≠ bl) (G46 : os ≠ rk) (G47 : os ≠ bl) (G48 : ts ≠ rk) (G49 : ts ≠ bl) (G50 : ns ≠ rk) (G51 : ns ≠ bl) (G52 : ob ≠ rk) (G53 : ob ≠ bl) (G54 : xb ≠ rk) (G55 : xb ≠ bl) :
    Con l Z y15 prog_27_method_5_code 5 none ws (Rm 3 0 0 49) #[(.ref rk), (.ref ob)] h0 (Q_add_2_2 Z rk ob bl kb lw blk os ts ns ko kt kn xa xb vc ta tb tc ua ub uc tt uu wo wb h0 n0) := by
  refine Con.of (plainFor_of_name pn_15) fun p e s m below meth c s₁ hx hby hml hZ hown hnm hlk hret X0 e0 => ?_
  have N0 := Fr.nil n0
  have hc := And.intro hx hby
  have K0 := Keep.refl h0 [blk, os, ts, ns, ob, xb]
  refine Comes.cast (ef_rm18 m rk ob) ?_
  have lt_rk : rk < h0.size := G0.lt
  have lt_bl : bl < h0.size := G4.lt
  have lt_blk : blk < h0.size := G5.lt
  have lt_os : os < h0.size := G10.lt
  have lt_ts : ts < h0.size := G12.lt
  have lt_ns : ns < h0.size := G13.lt
  have lt_xa : xa < h0.size := G14.lt
  have lt_xb : xb < h0.size := G15.lt
  have lt_ob : ob < h0.size := G17.lt
  refine cs (fun t k => xaloadN X0 hc d15_0 rfl rfl k) ?_
  refine Comes.gF X0 hx hZ hown (host := "") (Or.inl (W hw 121)) Via.refl e0 G2 rfl rfl (hb hby d15_1) fun T1 X1 e1 => ?_
  refine cs (fun t k => xifYes X1 hc 4 12 d15_4 rfl ((if0 _ _).trans (feq dd).2) (xaloadN X1 hc d15_12 rfl rfl (xaloadN X1 hc d15_13 rfl rfl k))) ?_
  refine Comes.cP X1 hx hZ hown (y := y18) (W := 0) (W hw 150) (W hw 151) (W hw 100) (W hw 152) dd (W hw 153) (rm18 l Z a0 hw [] rk ob h0 n0 (by omega)  G2) G0 (W hw 101) dd dd e1 rfl (by rw [hml]; rfl) (argsL := [(.ref ob)]) (rest := []) (lenOf pd_11 rfl) rfl (wle rfl) (hb hby d15_14) rfl dd dd fun v3 T3 L3 hQ3 X3 => ?_
  obtain ⟨rfl, Nq3, hs3⟩ := hQ3
  have N3 := Fr.app N0 Nq3
  refine cs (fun t k => xistoreN X3 hc d15_17 rfl rfl (xaloadN X3 hc d15_18 rfl rfl k)) ?_
  show Comes p e below _ (T3.setTop (mkF m 19 #[vr rk, vr ob, vi (0 : Int32), U0, U0] [(.ref rk)]))
  refine Comes.gF X3 hx hZ hown (host := "") (Or.inl (W hw 108)) Via.refl hs3 G1 rfl rfl (hb hby d15_19) fun T4 X4 e4 => ?_
  refine cs (fun t k => xiloadN X4 hc d15_22 rfl k) ?_
  refine Comes.ldR X4 hx hZ e4 G4 rfl rfl (v := (.ref blk)) rfl (hb hby d15_23) ?_
  refine Comes.gR X4 hx hZ hown (W hw 154) Via.refl e4 G9 rfl rfl (hb hby d15_24) fun T6 X6 e6 => ?_
  refine cs (fun t k => XS.bipush X6.here hx rfl (hb hby d15_27) k) ?_
  refine cs (fun t k => xicmpYes X6 hc 29 56 d15_29 rfl (feq dd).2 (xaloadN X6 hc d15_56 rfl rfl k)) ?_
  refine Comes.gF X6 hx hZ hown (host := "") (Or.inl (W hw 108)) Via.refl e6 G1 rfl rfl (hb hby d15_57) fun T8 X8 e8 => ?_
  refine cs (fun t k => xiloadN X8 hc d15_60 rfl k) ?_
  show Comes p e below _ (T8.setTop (mkF m 61 #[vr rk, vr ob, vi (0 : Int32), U0, U0] [(.int (0 : Int32)), (.ref bl)]))
  refine Comes.ldR X8 hx hZ e8 G4 rfl rfl (v := (.ref blk)) rfl (hb hby d15_61) ?_
  refine cs (fun t k => xastoreN X8 hc d15_62 rfl rfl rfl (xaloadN X8 hc d15_63 rfl rfl (xaloadN X8 hc d15_64 rfl rfl (xaloadN X8 hc d15_65 rfl rfl k)))) ?_
  refine Comes.cP X8 hx hZ hown (y := y19) (W := 0) (W hw 156) (W hw 157) (W hw 100) (W hw 158) dd (W hw 159) (pin_2_2 l Z a0 hw [] rk blk ob lw ts ns kt kn ta tb tc ua ub uc tt uu h0 n0 (by omega)  G0 G3 G9 G7 G8 G12 G13 G17 G18 G19 (by assumption) (by assumption)) G0 (W hw 101) dd dd e8 rfl (by rw [hml]; rfl) (argsL := [(.ref blk), (.ref ob)]) (rest := []) (lenOf pd_12 rfl) rfl (wle rfl) (hb hby d15_66) rfl dd dd fun v10 T10 L10 hQ10 X10 => ?_
  obtain ⟨rfl, Nq10, hs10⟩ := hQ10
  have N10 := Fr.app N3 Nq10
  refine cs (fun t k => xistore X10 hc d15_69 rfl rfl (xaloadN X10 hc d15_71 rfl rfl (xiload X10 hc d15_72 rfl k))) ?_
  show Comes p e below _ (T10.setTop (mkF m 74 #[vr rk, vr ob, vi (0 : Int32), vr blk, vi (2 : Int32)] [(.int (2 : Int32)), (.ref blk)]))
  refine Comes.cV X10 hx hZ hown (y := y20) (W := 0) (W hw 160) (W hw 161) (W hw 163) (W hw 162) dd (W hw 164) (open_2_2 l Z a0 hw [] blk os ts ns ko kt kn ((.ref xa)) ((.ref xb)) vc ta tb tc ua ub uc h0 n0 (by omega)  G5 G6 G7 G8 G9 G10 G11 G12 G13 G23 G24 G25 G26 G29 G30 G31 G34 G35 G38) G5 (W hw 133) dd dd hs10 rfl (by rw [hml]; rfl) (argsL := [(.int (2 : Int32))]) (rest := []) (lenOf pd_10 rfl) rfl (wle rfl) (hb hby d15_74) rfl dd dd fun v11 T11 L11 hQ11 X11 => ?_
  obtain ⟨rfl, Nq11, Kq11, P11_0, P11_1, P11_2, P11_3, P11_4, P11_5, P11_6, P11_7⟩ := hQ11
  have N11 := Fr.app N10 Nq11
  have z11k : h0.size ≤ T11.heap.size := Kq11.1
  have K11 := K0.trans Kq11 (allS (mE 0) (allS (mE 1) (allS (mE 2) (allS (mE 3) all0))))
  refine cs (fun t k => xaloadN X11 hc d15_77 rfl rfl (xiload X11 hc d15_78 rfl (xaloadN X11 hc d15_80 rfl rfl k))) ?_
  have F12 := (G17.keep Kq11)
  have ni13 := ninS (Ne.symm G32) (ninS (Ne.symm G36) (ninS (Ne.symm G39) (ninS (Ne.symm G41) nin0)))
  have F14 := (G18.keep Kq11 ni13)
  have F15 := (G19.keep Kq11 ni13)
  refine Comes.cV X11 hx hZ hown (y := y22) (W := 0) (W hw 171) (W hw 172) (W hw 174) (W hw 173) dd (W hw 175) (put_2 l Z a0 hw [] blk ob os ts ns ko kt kn ((.ref xa)) ((.ref xb)) vc ta tb tc ua ub uc tt uu T11.heap n0 (by omega)  P11_0 P11_1 P11_2 P11_3 P11_5 G11 P11_6 P11_7 F12 F14 F15 G24 G25 G26 G29 G30 G31 G34 G35 G38 (Ne.symm G36) (Ne.symm G39) (Ne.symm G41)) P11_0 (W hw 133) dd dd rfl rfl (by rw [hml]; rfl) (argsL := [(.int (2 : Int32)), (.ref ob)]) (rest := []) (lenOf pd_13 rfl) rfl (wle rfl) (hb hby d15_81) rfl dd dd fun v16 T16 L16 hQ16 X16 => ?_
  obtain ⟨rfl, Nq16, Kq16, P16_0, P16_1, P16_2⟩ := hQ16
  have N16 := Fr.app N11 Nq16
  have z16k : T11.heap.size ≤ T16.heap.size := Kq16.1
  have K16 := K11.trans Kq16 (allS (mE 1) (allS (mE 2) (allS (mE 3) all0)))
  refine cs (fun t k => xaloadN X16 hc d15_84 rfl rfl (xiloadN X16 hc d15_85 rfl (xiload X16 hc d15_86 rfl k))) ?_
  show Comes p e below _ (T16.setTop (mkF m 88 #[vr rk, vr ob, vi (0 : Int32), vr blk, vi (2 : Int32)] [(.int (2 : Int32)), (.int (0 : Int32)), (.ref rk)]))
  have F17 := ((G0.keep Kq11).keep Kq16)
  have ni18 := ninS (Ne.symm G44) (ninS (Ne.symm G46) (ninS (Ne.symm G48) (ninS (Ne.symm G50) nin0)))
  have ni19 := ninS (Ne.symm G46) (ninS (Ne.symm G48) (ninS (Ne.symm G50) nin0))
  have F20 := ((G1.keep Kq11 ni18).keep Kq16 ni19)
  have F21 := ((G2.keep Kq11 ni18).keep Kq16 ni19)
  have ni22 := ninS (Ne.symm G45) (ninS (Ne.symm G47) (ninS (Ne.symm G49) (ninS (Ne.symm G51) nin0)))
  have ni23 := ninS (Ne.symm G47) (ninS (Ne.symm G49) (ninS (Ne.symm G51) nin0))
  have F24 := ((G4.keep Kq11 ni22).keep Kq16 ni23)
  have ni25 := ninS G29 (ninS G30 (ninS G31 nin0))
  have F26 := (P11_1.keep Kq16 ni25)
  have F27 := (P11_4.keep Kq16 ni25)
  have F28 := ((G14.keep Kq11).keep Kq16)
  have F29 := ((G15.keep Kq11).keep Kq16)
  have F30 := (F12.keep Kq16)
  have ni31 := ninS (Ne.symm G36) (ninS (Ne.symm G39) (ninS (Ne.symm G41) nin0))
  have F32 := ((G20.keep Kq11 ni13).keep Kq16 ni31)
  have ni33 := ninS (Ne.symm G33) (ninS (Ne.symm G37) (ninS (Ne.symm G40) (ninS (Ne.symm G42) nin0)))
  have ni34 := ninS (Ne.symm G37) (ninS (Ne.symm G40) (ninS (Ne.symm G42) nin0))
  have F35 := ((G16.keep Kq11 ni33).keep Kq16 ni34)
  refine Comes.cP X16 hx hZ hown (y := y25) (W := 0) (W hw 186) (W hw 187) (W hw 100) (W hw 188) dd (W hw 189) (link_3_2 l Z a0 hw [] rk bl kb blk os ko xa xb ob wo wb T16.heap n0 (by omega)  F17 F20 F21 F24 F26 F27 P16_0 F28 F29 F30 F32 F35 G27 G28 G43 G52 G53 (Ne.symm G32) (Ne.symm G36) G54 G55 (Ne.symm G33) (Ne.symm G37)) F17 (W hw 101) dd dd rfl rfl (by rw [hml]; rfl) (argsL := [(.int (0 : Int32)), (.int (2 : Int32))]) (rest := []) (lenOf pd_6 rfl) rfl (wle rfl) (hb hby d15_88) rfl dd dd fun v36 T36 L36 hQ36 X36 => ?_
  obtain ⟨rfl, Nq36, Kq36, P36_0, P36_1⟩ := hQ36
  have N36 := Fr.app N16 Nq36
  have z36k : T16.heap.size ≤ T36.heap.size := Kq36.1
  have K36 := K16.trans Kq36 (allS (mE 4) (allS (mE 5) all0))
  show Comes p e below _ (T36.setTop (mkF m 91 #[vr rk, vr ob, vi (0 : Int32), vr blk, vi (2 : Int32)] []))
  have F37 := ((P11_0.keep Kq16).keep Kq36)
  have ni38 := ninS G32 (ninS G33 nin0)
  have F39 := (F26.keep Kq36 ni38)
  have F40 := ((P11_2.keep Kq16 ni25).keep Kq36 ni38)
  have F41 := ((P11_3.keep Kq16 ni25).keep Kq36 ni38)
  have F42 := (F27.keep Kq36 ni38)
  have ni43 := ninS G36 (ninS G37 nin0)
  have F44 := (P16_0.keep Kq36 ni43)
  have ni45 := ninS G39 (ninS G40 nin0)
  have F46 := (P16_1.keep Kq36 ni45)
  have ni47 := ninS G41 (ninS G42 nin0)
  have F48 := (P16_2.keep Kq36 ni47)
  exact Comes.ret0 X36 hx hret hlk (hb hby d15_91) rfl ⟨rfl, N36, K36, F37, F39, F40, F41, F42, F44, F46, F48, P36_0, P36_1⟩ dd dd
def Q_rem_1 (Z : State) (rk xa bl : Nat) (kb : ClassId) (lw : Int32) (blk os ts ns : Nat) (ko kt kn : ClassId) (vb vc : Value) (ta tb tc ua ub uc : Int64) (wa : Value) (h0 : Heap) (n0 : Nat) (v_ : Option Value) (h : Heap) (L_ : List Loc) : Prop := (v_ = none) ∧ (Fr n0 L_) ∧ (Keep h0 h [blk, os, ts, ns, xa, rk, bl]) ∧ (Exa Z h rk sRk) ∧ (Fld Z h rk sRk "blocks" dBs (.ref bl)) ∧ (Fld Z h rk sRk "count" "I" (.int (0 : Int32)))
theorem rem_1 (l : Launch) (Z : State) (a0 : Array Value) (hw : ∀ d ∈ tables_1, d.before a0 Z = true) (ws : List Jvm.Cond) (rk xa bl : Nat) (kb : ClassId) (lw : Int32) (blk os ts ns : Nat) (ko kt kn : ClassId) (vb vc : Value) (ta tb tc ua ub uc : Int64) (wa : Value) (h0 : Heap) (n0 : Nat) (Z0 : n0 ≤ h0.size) (G0 : Exa Z h0 rk sRk) (G1 : Fld Z h0 rk sRk "blocks" dBs (.ref bl)) (G2 : Fld Z h0 rk sRk "count" "I" (.int (1 : Int32))) (G3 : Fld Z h0 rk sRk "lowestBest" "Z" (.int lw)) (G4 : Arv Z h0 bl kb (.object sBk) (4 : Int32) [(.ref blk), .null, .null, .null] .null) (G5 : Ovr Z kb sBk) (G6 : Exa Z h0 blk sBk) (G7 : Fld Z h0 blk sBk "orders" dOs (.ref os)) (G8 : Fld Z h0 blk sBk "ticks" "[J" (.ref ts)) (G9 : Fld Z h0 blk sBk "numbers" "[J" (.ref ns)) (G10 : Fld Z h0 blk sBk "size" "I" (.int (1 : Int32))) (G11 : Arv Z h0 os ko (.object sOr) (64 : Int32) [(.ref xa), vb, vc] .null) (G12 : Ovr Z ko sOr) (G13 : AJ Z h0 ts kt ta tb tc) (G14 : AJ Z h0 ns kn ua ub uc) (G15 : Exa Z h0 xa sOr) (G16 : Fld Z h0 xa sOr "after" dOr wa) (G17 : n0 ≤ blk) (G18 : n0 ≤ os) (G19 : n0 ≤ ts) (G20 : n0 ≤ ns) (G21 : n0 ≤ xa) (G22 : n0 ≤ rk) (G23 : n0 ≤ bl) (G24 : blk ≠ os) (G25 : blk ≠ ts) (G26 : blk ≠ ns) (G27 : blk ≠ xa) (G28 : blk ≠ rk) (G29 : blk ≠ bl) (G30 : os ≠ ts) (G31 : os ≠ ns) (G32 : os ≠ xa) (G33 : os ≠ rk) (G34 : os ≠ bl) (G35 : ts ≠ ns) (G36 : ts ≠ xa) (G37 : ts ≠ rk) (G38 : ts ≠ bl) (G39 : ns ≠ xa) (G40 : ns ≠ rk) (G41 : ns ≠ bl) (G42 : xa ≠ rk) (G43 : xa ≠ bl) (G44 : rk ≠ bl) :
    Con l Z y28 prog_27_method_7_code 5 none ws (Rm 2 0 0 41) #[(.ref rk), (.ref xa)] h0 (Q_rem_1 Z rk xa bl kb lw blk os ts ns ko kt kn vb vc ta tb tc ua ub uc wa h0 n0) := by
  refine Con.of (plainFor_of_name pn_28) fun p e s m below meth c s₁ hx hby hml hZ hown hnm hlk hret X0 e0 => ?_
  have N0 := Fr.nil n0
  have hc := And.intro hx hby
  have K0 := Keep.refl h0 [blk, os, ts, ns, xa, rk, bl]
  refine Comes.cast (ef_rm18 m rk xa) ?_
  have lt_rk : rk < h0.size := G0.lt
  have lt_bl : bl < h0.size := G4.lt
  have lt_blk : blk < h0.size := G6.lt
  have lt_os : os < h0.size := G11.lt
  have lt_ts : ts < h0.size := G13.lt
  have lt_ns : ns < h0.size := G14.lt
  have lt_xa : xa < h0.size := G15.lt
  refine cs (fun t k => xaloadN X0 hc d28_0 rfl rfl (xaloadN X0 hc d28_1 rfl rfl k)) ?_
  refine Comes.cP X0 hx hZ hown (y := y18) (W := 0) (W hw 150) (W hw 151) (W hw 100) (W hw 152) dd (W hw 153) (rm18 l Z a0 hw [] rk xa h0 n0 (by omega)  G2) G0 (W hw 101) dd dd e0 rfl (by rw [hml]; rfl) (argsL := [(.ref xa)]) (rest := []) (lenOf pd_11 rfl) rfl (wle rfl) (hb hby d28_2) rfl dd dd fun v1 T1 L1 hQ1 X1 => ?_
  obtain ⟨rfl, Nq1, hs1⟩ := hQ1
  have N1 := Fr.app N0 Nq1
  refine cs (fun t k => xistoreN X1 hc d28_5 rfl rfl (xaloadN X1 hc d28_6 rfl rfl k)) ?_
  refine Comes.gF X1 hx hZ hown (host := "") (Or.inl (W hw 108)) Via.refl hs1 G1 rfl rfl (hb hby d28_7) fun T2 X2 e2 => ?_
  refine cs (fun t k => xiloadN X2 hc d28_10 rfl k) ?_
  refine Comes.ldR X2 hx hZ e2 G4 rfl rfl (v := (.ref blk)) rfl (hb hby d28_11) ?_
  show Comes p e below _ (T2.setTop (mkF m 12 #[vr rk, vr xa, vi (0 : Int32), U0, U0] [(.ref blk)]))
  refine cs (fun t k => xastoreN X2 hc d28_12 rfl rfl rfl (xaloadN X2 hc d28_13 rfl rfl (xaloadN X2 hc d28_14 rfl rfl (xaloadN X2 hc d28_15 rfl rfl k)))) ?_
  refine Comes.cP X2 hx hZ hown (y := y29) (W := 0) (W hw 206) (W hw 207) (W hw 100) (W hw 208) dd (W hw 209) (pof_1 l Z a0 hw [] rk blk xa os ko vb vc h0 n0 (by omega)  G10 G7 G11) G0 (W hw 101) dd dd e2 rfl (by rw [hml]; rfl) (argsL := [(.ref blk), (.ref xa)]) (rest := []) (lenOf pd_12 rfl) rfl (wle rfl) (hb hby d28_16) rfl dd dd fun v4 T4 L4 hQ4 X4 => ?_
  obtain ⟨rfl, Nq4, hs4⟩ := hQ4
  have N4 := Fr.app N1 Nq4
  refine cs (fun t k => xistore X4 hc d28_19 rfl rfl (xaloadN X4 hc d28_21 rfl rfl (xiloadN X4 hc d28_22 rfl (xiload X4 hc d28_23 rfl k)))) ?_
  show Comes p e below _ (T4.setTop (mkF m 25 #[vr rk, vr xa, vi (0 : Int32), vr blk, vi (0 : Int32)] [(.int (0 : Int32)), (.int (0 : Int32)), (.ref rk)]))
  refine Comes.cP X4 hx hZ hown (y := y30) (W := 0) (W hw 210) (W hw 211) (W hw 100) (W hw 212) dd (W hw 213) (rm30 l Z a0 hw [] rk bl kb blk os ko xa vb vc wa h0 n0 (by omega)  G0 G1 G2 G4 G7 G11 G15 G16 G21 G42 G43 (Ne.symm G27) (Ne.symm G32)) G0 (W hw 101) dd dd hs4 rfl (by rw [hml]; rfl) (argsL := [(.int (0 : Int32)), (.int (0 : Int32))]) (rest := []) (lenOf pd_6 rfl) rfl (wle rfl) (hb hby d28_25) rfl dd dd fun v5 T5 L5 hQ5 X5 => ?_
  obtain ⟨rfl, Nq5, Kq5⟩ := hQ5
  have N5 := Fr.app N4 Nq5
  have z5k : h0.size ≤ T5.heap.size := Kq5.1
  have K5 := K0.trans Kq5 (allS (mE 4) all0)
  refine cs (fun t k => xaloadN X5 hc d28_28 rfl rfl (xiload X5 hc d28_29 rfl k)) ?_
  have F6 := (G6.keep Kq5)
  have ni7 := ninS G27 nin0
  have F8 := (G7.keep Kq5 ni7)
  have F9 := (G8.keep Kq5 ni7)
  have F10 := (G9.keep Kq5 ni7)
  have F11 := (G10.keep Kq5 ni7)
  have ni12 := ninS G32 nin0
  have F13 := (G11.keep Kq5 ni12)
  have ni14 := ninS G36 nin0
  have F15 := (G13.keep Kq5 ni14)
  have ni16 := ninS G39 nin0
  have F17 := (G14.keep Kq5 ni16)
  refine Comes.cV X5 hx hZ hown (y := y31) (W := 0) (W hw 214) (W hw 215) (W hw 217) (W hw 216) dd (W hw 218) (close_1 l Z a0 hw [] blk os ts ns ko kt kn ((.ref xa)) vb vc ta tb tc ua ub uc T5.heap n0 (by omega)  F6 F8 F9 F10 F11 F13 G12 F15 F17 G17 G18 G19 G20 G24 G25 G26 G30 G31 G35) F6 (W hw 133) dd dd rfl rfl (by rw [hml]; rfl) (argsL := [(.int (0 : Int32))]) (rest := []) (lenOf pd_10 rfl) rfl (wle rfl) (hb hby d28_31) rfl dd dd fun v18 T18 L18 hQ18 X18 => ?_
  obtain ⟨rfl, Nq18, Kq18, P18_0, P18_1, P18_2, P18_3, P18_4, P18_5, P18_6, P18_7⟩ := hQ18
  have N18 := Fr.app N5 Nq18
  have z18k : T5.heap.size ≤ T18.heap.size := Kq18.1
  have K18 := K5.trans Kq18 (allS (mE 0) (allS (mE 1) (allS (mE 2) (allS (mE 3) all0))))
  refine cs (fun t k => xiloadN X18 hc d28_34 rfl (xiconst X18 hc d28_35 (xiadd X18 hc d28_36 rfl k))) ?_
  show Comes p e below _ (T18.setTop (mkF m 37 #[vr rk, vr xa, vi (0 : Int32), vr blk, vi (0 : Int32)] [(.int ((0 : Int32) + (1 : Int32)))]))
  rw [show ((0 : Int32) + (1 : Int32)) = (1 : Int32) from by decide]
  refine cs (fun t k => xaloadN X18 hc d28_37 rfl rfl k) ?_
  have ni19 := ninS (Ne.symm G42) nin0
  have ni20 := ninS (Ne.symm G28) (ninS (Ne.symm G33) (ninS (Ne.symm G37) (ninS (Ne.symm G40) nin0)))
  have F21 := ((G2.keep Kq5 ni19).keep Kq18 ni20)
  refine Comes.gF X18 hx hZ hown (host := "") (Or.inl (W hw 121)) Via.refl rfl F21 rfl rfl (hb hby d28_38) fun T22 X22 e22 => ?_
  refine cs (fun t k => xicmpYes X22 hc 41 73 d28_41 rfl (flt dd).2.1 (xiloadN X22 hc d28_73 rfl k)) ?_
  refine cs (fun t k => xifYes X22 hc 74 108 d28_74 rfl ((if0 _ _).trans (flt dd).2.2.2) (xaloadN X22 hc d28_108 rfl rfl k)) ?_
  refine Comes.gR X22 hx hZ hown (W hw 154) Via.refl e22 P18_4 rfl rfl (hb hby d28_109) fun T25 X25 e25 => ?_
  refine cs (fun t k => xifNo X25 hc d28_112 rfl ((if0 _ _).trans (teq dd).2) (xaloadN X25 hc d28_115 rfl rfl (xiloadN X25 hc d28_116 rfl k))) ?_
  show Comes p e below _ (T25.setTop (mkF m 117 #[vr rk, vr xa, vi (0 : Int32), vr blk, vi (0 : Int32)] [(.int (0 : Int32)), (.ref rk)]))
  have F27 := ((G0.keep Kq5).keep Kq18)
  have F28 := ((G1.keep Kq5 ni19).keep Kq18 ni20)
  have F29 := ((G3.keep Kq5 ni19).keep Kq18 ni20)
  have ni30 := ninS (Ne.symm G43) nin0
  have ni31 := ninS (Ne.symm G29) (ninS (Ne.symm G34) (ninS (Ne.symm G38) (ninS (Ne.symm G41) nin0)))
  have F32 := ((G4.keep Kq5 ni30).keep Kq18 ni31)
  refine Comes.cP X25 hx hZ hown (y := y32) (W := 0) (W hw 219) (W hw 220) (W hw 100) (W hw 221) dd (W hw 222) (rm32 l Z a0 hw [] rk bl kb lw blk T18.heap n0 (by omega)  F27 F28 F21 F29 F32 G5 P18_0 G22 G23 G44) F27 (W hw 101) dd dd e25 rfl (by rw [hml]; rfl) (argsL := [(.int (0 : Int32))]) (rest := []) (lenOf pd_10 rfl) rfl (wle rfl) (hb hby d28_117) rfl dd dd fun v33 T33 L33 hQ33 X33 => ?_
  obtain ⟨rfl, Nq33, Kq33, P33_0, P33_1, P33_2, P33_3⟩ := hQ33
  have N33 := Fr.app N18 Nq33
  have z33k : T18.heap.size ≤ T33.heap.size := Kq33.1
  have K33 := K18.trans Kq33 (allS (mE 5) (allS (mE 6) all0))
  show Comes p e below _ (T33.setTop (mkF m 120 #[vr rk, vr xa, vi (0 : Int32), vr blk, vi (0 : Int32)] []))
  exact Comes.ret0 X33 hx hret hlk (hb hby d28_120) rfl ⟨rfl, N33, K33, P33_0, P33_1, P33_2⟩ dd dd
def Q_rem_2 (Z : State) (rk xa bl : Nat) (kb : ClassId) (lw : Int32) (blk os ts ns : Nat) (ko kt kn : ClassId) (xb : Nat) (vc : Value) (ta tb tc ua ub uc : Int64) (wa : Value) (h0 : Heap) (n0 : Nat) (v_ : Option Value) (h : Heap) (L_ : List Loc) : Prop := (v_ = none) ∧ (Fr n0 L_) ∧ (Keep h0 h [blk, os, ts, ns, xa]) ∧ (Fld Z h blk sBk "orders" dOs (.ref os)) ∧ (Arv Z h os ko (.object sOr) (64 : Int32) [(.ref xb), .null, vc] .null)
theorem rem_2 (l : Launch) (Z : State) (a0 : Array Value) (hw : ∀ d ∈ tables_1, d.before a0 Z = true) (ws : List Jvm.Cond) (rk xa bl : Nat) (kb : ClassId) (lw : Int32) (blk os ts ns : Nat) (ko kt kn : ClassId) (xb : Nat) (vc : Value) (ta tb tc ua ub uc : Int64) (wa : Value) (h0 : Heap) (n0 : Nat) (Z0 : n0 ≤ h0.size) (G0 : Exa Z h0 rk sRk) (G1 : Fld Z h0 rk sRk "blocks" dBs (.ref bl)) (G2 : Fld Z h0 rk sRk "count" "I" (.int (1 : Int32))) (G3 : Fld Z h0 rk sRk "lowestBest" "Z" (.int lw)) (G4 : Arv Z h0 bl kb (.object sBk) (4 : Int32) [(.ref blk), .null, .null, .null] .null) (G5 : Ovr Z kb sBk) (G6 : Exa Z h0 blk sBk) (G7 : Fld Z h0 blk sBk "orders" dOs (.ref os)) (G8 : Fld Z h0 blk sBk "ticks" "[J" (.ref ts)) (G9 : Fld Z h0 blk sBk "numbers" "[J" (.ref ns)) (G10 : Fld Z h0 blk sBk "size" "I" (.int (2 : Int32))) (G11 : Arv Z h0 os ko (.object sOr) (64 : Int32) [(.ref xa), (.ref xb), vc] .null) (G12 : Ovr Z ko sOr) (G13 : AJ Z h0 ts kt ta tb tc) (G14 : AJ Z h0 ns kn ua ub uc) (G15 : Exa Z h0 xa sOr) (G16 : Exa Z h0 xb sOr) (G17 : Fld Z h0 xa sOr "after" dOr wa) (G18 : n0 ≤ blk) (G19 : n0 ≤ os) (G20 : n0 ≤ ts) (G21 : n0 ≤ ns) (G22 : n0 ≤ xa) (G23 : blk ≠ os) (G24 : blk ≠ ts) (G25 : blk ≠ ns) (G26 : blk ≠ xa) (G27 : os ≠ ts) (G28 : os ≠ ns) (G29 : os ≠ xa) (G30 : ts ≠ ns) (G31 : ts ≠ xa) (G32 : ns ≠ xa) (G33 : blk ≠ rk) (G34 : blk ≠ bl) (G35 : os ≠ rk) (G36 : os ≠ bl) (G37 : ts ≠ rk) (G38 : ts ≠ bl) (G39 : ns ≠ rk) (G40 : ns ≠ bl) (G41 : xa ≠ rk) (G42 : xa ≠ bl) :
    Con l Z y28 prog_27_method_7_code 5 none ws (Rm 3 0 0 44) #[(.ref rk), (.ref xa)] h0 (Q_rem_2 Z rk xa bl kb lw blk os ts ns ko kt kn xb vc ta tb tc ua ub uc wa h0 n0) := by
  refine Con.of (plainFor_of_name pn_28) fun p e s m below meth c s₁ hx hby hml hZ hown hnm hlk hret X0 e0 => ?_
  have N0 := Fr.nil n0
  have hc := And.intro hx hby
  have K0 := Keep.refl h0 [blk, os, ts, ns, xa]
  refine Comes.cast (ef_rm18 m rk xa) ?_
  have lt_rk : rk < h0.size := G0.lt
  have lt_bl : bl < h0.size := G4.lt
  have lt_blk : blk < h0.size := G6.lt
  have lt_os : os < h0.size := G11.lt
  have lt_ts : ts < h0.size := G13.lt
  have lt_ns : ns < h0.size := G14.lt
  have lt_xa : xa < h0.size := G15.lt
  have lt_xb : xb < h0.size := G16.lt
  refine cs (fun t k => xaloadN X0 hc d28_0 rfl rfl (xaloadN X0 hc d28_1 rfl rfl k)) ?_
  refine Comes.cP X0 hx hZ hown (y := y18) (W := 0) (W hw 150) (W hw 151) (W hw 100) (W hw 152) dd (W hw 153) (rm18 l Z a0 hw [] rk xa h0 n0 (by omega)  G2) G0 (W hw 101) dd dd e0 rfl (by rw [hml]; rfl) (argsL := [(.ref xa)]) (rest := []) (lenOf pd_11 rfl) rfl (wle rfl) (hb hby d28_2) rfl dd dd fun v1 T1 L1 hQ1 X1 => ?_
  obtain ⟨rfl, Nq1, hs1⟩ := hQ1
  have N1 := Fr.app N0 Nq1
  refine cs (fun t k => xistoreN X1 hc d28_5 rfl rfl (xaloadN X1 hc d28_6 rfl rfl k)) ?_
  refine Comes.gF X1 hx hZ hown (host := "") (Or.inl (W hw 108)) Via.refl hs1 G1 rfl rfl (hb hby d28_7) fun T2 X2 e2 => ?_
  refine cs (fun t k => xiloadN X2 hc d28_10 rfl k) ?_
  refine Comes.ldR X2 hx hZ e2 G4 rfl rfl (v := (.ref blk)) rfl (hb hby d28_11) ?_
  show Comes p e below _ (T2.setTop (mkF m 12 #[vr rk, vr xa, vi (0 : Int32), U0, U0] [(.ref blk)]))
  refine cs (fun t k => xastoreN X2 hc d28_12 rfl rfl rfl (xaloadN X2 hc d28_13 rfl rfl (xaloadN X2 hc d28_14 rfl rfl (xaloadN X2 hc d28_15 rfl rfl k)))) ?_
  refine Comes.cP X2 hx hZ hown (y := y29) (W := 0) (W hw 206) (W hw 207) (W hw 100) (W hw 208) dd (W hw 209) (pof_2 l Z a0 hw [] rk blk xa os ko ((.ref xb)) vc h0 n0 (by omega)  G10 G7 G11) G0 (W hw 101) dd dd e2 rfl (by rw [hml]; rfl) (argsL := [(.ref blk), (.ref xa)]) (rest := []) (lenOf pd_12 rfl) rfl (wle rfl) (hb hby d28_16) rfl dd dd fun v4 T4 L4 hQ4 X4 => ?_
  obtain ⟨rfl, Nq4, hs4⟩ := hQ4
  have N4 := Fr.app N1 Nq4
  refine cs (fun t k => xistore X4 hc d28_19 rfl rfl (xaloadN X4 hc d28_21 rfl rfl (xiloadN X4 hc d28_22 rfl (xiload X4 hc d28_23 rfl k)))) ?_
  show Comes p e below _ (T4.setTop (mkF m 25 #[vr rk, vr xa, vi (0 : Int32), vr blk, vi (0 : Int32)] [(.int (0 : Int32)), (.int (0 : Int32)), (.ref rk)]))
  refine Comes.cP X4 hx hZ hown (y := y30) (W := 0) (W hw 210) (W hw 211) (W hw 100) (W hw 212) dd (W hw 213) (rm30 l Z a0 hw [] rk bl kb blk os ko xa ((.ref xb)) vc wa h0 n0 (by omega)  G0 G1 G2 G4 G7 G11 G15 G17 G22 G41 G42 (Ne.symm G26) (Ne.symm G29)) G0 (W hw 101) dd dd hs4 rfl (by rw [hml]; rfl) (argsL := [(.int (0 : Int32)), (.int (0 : Int32))]) (rest := []) (lenOf pd_6 rfl) rfl (wle rfl) (hb hby d28_25) rfl dd dd fun v5 T5 L5 hQ5 X5 => ?_
  obtain ⟨rfl, Nq5, Kq5⟩ := hQ5
  have N5 := Fr.app N4 Nq5
  have z5k : h0.size ≤ T5.heap.size := Kq5.1
  have K5 := K0.trans Kq5 (allS (mE 4) all0)
  refine cs (fun t k => xaloadN X5 hc d28_28 rfl rfl (xiload X5 hc d28_29 rfl k)) ?_
  have F6 := (G6.keep Kq5)
  have ni7 := ninS G26 nin0
  have F8 := (G7.keep Kq5 ni7)
  have F9 := (G8.keep Kq5 ni7)
  have F10 := (G9.keep Kq5 ni7)
  have F11 := (G10.keep Kq5 ni7)
  have ni12 := ninS G29 nin0
  have F13 := (G11.keep Kq5 ni12)
  have ni14 := ninS G31 nin0
  have F15 := (G13.keep Kq5 ni14)
  have ni16 := ninS G32 nin0
  have F17 := (G14.keep Kq5 ni16)
  have F18 := (G16.keep Kq5)
  refine Comes.cV X5 hx hZ hown (y := y31) (W := 0) (W hw 214) (W hw 215) (W hw 217) (W hw 216) dd (W hw 218) (close_2 l Z a0 hw [] blk os ts ns ko kt kn ((.ref xa)) xb vc ta tb tc ua ub uc T5.heap n0 (by omega)  F6 F8 F9 F10 F11 F13 G12 F15 F17 F18 G18 G19 G20 G21 G23 G24 G25 G27 G28 G30) F6 (W hw 133) dd dd rfl rfl (by rw [hml]; rfl) (argsL := [(.int (0 : Int32))]) (rest := []) (lenOf pd_10 rfl) rfl (wle rfl) (hb hby d28_31) rfl dd dd fun v19 T19 L19 hQ19 X19 => ?_
  obtain ⟨rfl, Nq19, Kq19, P19_0, P19_1, P19_2, P19_3, P19_4, P19_5, P19_6, P19_7⟩ := hQ19
  have N19 := Fr.app N5 Nq19
  have z19k : T5.heap.size ≤ T19.heap.size := Kq19.1
  have K19 := K5.trans Kq19 (allS (mE 0) (allS (mE 1) (allS (mE 2) (allS (mE 3) all0))))
  refine cs (fun t k => xiloadN X19 hc d28_34 rfl (xiconst X19 hc d28_35 (xiadd X19 hc d28_36 rfl k))) ?_
  show Comes p e below _ (T19.setTop (mkF m 37 #[vr rk, vr xa, vi (0 : Int32), vr blk, vi (0 : Int32)] [(.int ((0 : Int32) + (1 : Int32)))]))
  rw [show ((0 : Int32) + (1 : Int32)) = (1 : Int32) from by decide]
  refine cs (fun t k => xaloadN X19 hc d28_37 rfl rfl k) ?_
  have ni20 := ninS (Ne.symm G41) nin0
  have ni21 := ninS (Ne.symm G33) (ninS (Ne.symm G35) (ninS (Ne.symm G37) (ninS (Ne.symm G39) nin0)))
  have F22 := ((G2.keep Kq5 ni20).keep Kq19 ni21)
  refine Comes.gF X19 hx hZ hown (host := "") (Or.inl (W hw 121)) Via.refl rfl F22 rfl rfl (hb hby d28_38) fun T23 X23 e23 => ?_
  refine cs (fun t k => xicmpYes X23 hc 41 73 d28_41 rfl (flt dd).2.1 (xiloadN X23 hc d28_73 rfl k)) ?_
  refine cs (fun t k => xifYes X23 hc 74 108 d28_74 rfl ((if0 _ _).trans (flt dd).2.2.2) (xaloadN X23 hc d28_108 rfl rfl k)) ?_
  refine Comes.gR X23 hx hZ hown (W hw 154) Via.refl e23 P19_4 rfl rfl (hb hby d28_109) fun T26 X26 e26 => ?_
  refine cs (fun t k => xifYes X26 hc 112 120 d28_112 rfl ((if0 _ _).trans (feq dd).2) k) ?_
  show Comes p e below _ (T26.setTop (mkF m 120 #[vr rk, vr xa, vi (0 : Int32), vr blk, vi (0 : Int32)] []))
  exact Comes.ret0 X26 hx hret hlk (hb hby d28_120) e26 ⟨rfl, N19, K19, P19_1, P19_5⟩ dd dd
def Q_rem_3 (Z : State) (rk xa bl : Nat) (kb : ClassId) (lw : Int32) (blk os ts ns : Nat) (ko kt kn : ClassId) (xb xc : Nat) (ta tb tc ua ub uc : Int64) (wa : Value) (h0 : Heap) (n0 : Nat) (v_ : Option Value) (h : Heap) (L_ : List Loc) : Prop := (v_ = none) ∧ (Fr n0 L_) ∧ (Keep h0 h [blk, os, ts, ns, xa]) ∧ (Fld Z h blk sBk "orders" dOs (.ref os)) ∧ (Arv Z h os ko (.object sOr) (64 : Int32) [(.ref xb), (.ref xc), .null] .null)
theorem rem_3 (l : Launch) (Z : State) (a0 : Array Value) (hw : ∀ d ∈ tables_1, d.before a0 Z = true) (ws : List Jvm.Cond) (rk xa bl : Nat) (kb : ClassId) (lw : Int32) (blk os ts ns : Nat) (ko kt kn : ClassId) (xb xc : Nat) (ta tb tc ua ub uc : Int64) (wa : Value) (h0 : Heap) (n0 : Nat) (Z0 : n0 ≤ h0.size) (G0 : Exa Z h0 rk sRk) (G1 : Fld Z h0 rk sRk "blocks" dBs (.ref bl)) (G2 : Fld Z h0 rk sRk "count" "I" (.int (1 : Int32))) (G3 : Fld Z h0 rk sRk "lowestBest" "Z" (.int lw)) (G4 : Arv Z h0 bl kb (.object sBk) (4 : Int32) [(.ref blk), .null, .null, .null] .null) (G5 : Ovr Z kb sBk) (G6 : Exa Z h0 blk sBk) (G7 : Fld Z h0 blk sBk "orders" dOs (.ref os)) (G8 : Fld Z h0 blk sBk "ticks" "[J" (.ref ts)) (G9 : Fld Z h0 blk sBk "numbers" "[J" (.ref ns)) (G10 : Fld Z h0 blk sBk "size" "I" (.int (3 : Int32))) (G11 : Arv Z h0 os ko (.object sOr) (64 : Int32) [(.ref xa), (.ref xb), (.ref xc)] .null) (G12 : Ovr Z ko sOr) (G13 : AJ Z h0 ts kt ta tb tc) (G14 : AJ Z h0 ns kn ua ub uc) (G15 : Exa Z h0 xa sOr) (G16 : Exa Z h0 xb sOr) (G17 : Exa Z h0 xc sOr) (G18 : Fld Z h0 xa sOr "after" dOr wa) (G19 : n0 ≤ blk) (G20 : n0 ≤ os) (G21 : n0 ≤ ts) (G22 : n0 ≤ ns) (G23 : n0 ≤ xa) (G24 : blk ≠ os) (G25 : blk ≠ ts) (G26 : blk ≠ ns) (G27 : blk ≠ xa) (G28 : os ≠ ts) (G29 : os ≠ ns) (G30 : os ≠ xa) (G31 : ts ≠ ns) (G32 : ts ≠ xa) (G33 : ns ≠ xa) (G34 : blk ≠ rk) (G35 : blk ≠ bl) (G36 : os ≠ rk) (G37 : os ≠ bl) (G38 : ts ≠ rk) (G39 : ts ≠ bl) (G40 : ns ≠ rk) (G41 : ns ≠ bl) (G42 : xa ≠ rk) (G43 : xa ≠ bl) :
    Con l Z y28 prog_27_method_7_code 5 none ws (Rm 3 0 0 44) #[(.ref rk), (.ref xa)] h0 (Q_rem_3 Z rk xa bl kb lw blk os ts ns ko kt kn xb xc ta tb tc ua ub uc wa h0 n0) := by
  refine Con.of (plainFor_of_name pn_28) fun p e s m below meth c s₁ hx hby hml hZ hown hnm hlk hret X0 e0 => ?_
  have N0 := Fr.nil n0
  have hc := And.intro hx hby
  have K0 := Keep.refl h0 [blk, os, ts, ns, xa]
  refine Comes.cast (ef_rm18 m rk xa) ?_
  have lt_rk : rk < h0.size := G0.lt
  have lt_bl : bl < h0.size := G4.lt
  have lt_blk : blk < h0.size := G6.lt
  have lt_os : os < h0.size := G11.lt
  have lt_ts : ts < h0.size := G13.lt
  have lt_ns : ns < h0.size := G14.lt
  have lt_xa : xa < h0.size := G15.lt
  have lt_xb : xb < h0.size := G16.lt
  have lt_xc : xc < h0.size := G17.lt
  refine cs (fun t k => xaloadN X0 hc d28_0 rfl rfl (xaloadN X0 hc d28_1 rfl rfl k)) ?_
  refine Comes.cP X0 hx hZ hown (y := y18) (W := 0) (W hw 150) (W hw 151) (W hw 100) (W hw 152) dd (W hw 153) (rm18 l Z a0 hw [] rk xa h0 n0 (by omega)  G2) G0 (W hw 101) dd dd e0 rfl (by rw [hml]; rfl) (argsL := [(.ref xa)]) (rest := []) (lenOf pd_11 rfl) rfl (wle rfl) (hb hby d28_2) rfl dd dd fun v1 T1 L1 hQ1 X1 => ?_
  obtain ⟨rfl, Nq1, hs1⟩ := hQ1
  have N1 := Fr.app N0 Nq1
  refine cs (fun t k => xistoreN X1 hc d28_5 rfl rfl (xaloadN X1 hc d28_6 rfl rfl k)) ?_
  refine Comes.gF X1 hx hZ hown (host := "") (Or.inl (W hw 108)) Via.refl hs1 G1 rfl rfl (hb hby d28_7) fun T2 X2 e2 => ?_
  refine cs (fun t k => xiloadN X2 hc d28_10 rfl k) ?_
  refine Comes.ldR X2 hx hZ e2 G4 rfl rfl (v := (.ref blk)) rfl (hb hby d28_11) ?_
  show Comes p e below _ (T2.setTop (mkF m 12 #[vr rk, vr xa, vi (0 : Int32), U0, U0] [(.ref blk)]))
  refine cs (fun t k => xastoreN X2 hc d28_12 rfl rfl rfl (xaloadN X2 hc d28_13 rfl rfl (xaloadN X2 hc d28_14 rfl rfl (xaloadN X2 hc d28_15 rfl rfl k)))) ?_
  refine Comes.cP X2 hx hZ hown (y := y29) (W := 0) (W hw 206) (W hw 207) (W hw 100) (W hw 208) dd (W hw 209) (pof_3 l Z a0 hw [] rk blk xa os ko ((.ref xb)) ((.ref xc)) h0 n0 (by omega)  G10 G7 G11) G0 (W hw 101) dd dd e2 rfl (by rw [hml]; rfl) (argsL := [(.ref blk), (.ref xa)]) (rest := []) (lenOf pd_12 rfl) rfl (wle rfl) (hb hby d28_16) rfl dd dd fun v4 T4 L4 hQ4 X4 => ?_
  obtain ⟨rfl, Nq4, hs4⟩ := hQ4
  have N4 := Fr.app N1 Nq4
  refine cs (fun t k => xistore X4 hc d28_19 rfl rfl (xaloadN X4 hc d28_21 rfl rfl (xiloadN X4 hc d28_22 rfl (xiload X4 hc d28_23 rfl k)))) ?_
  show Comes p e below _ (T4.setTop (mkF m 25 #[vr rk, vr xa, vi (0 : Int32), vr blk, vi (0 : Int32)] [(.int (0 : Int32)), (.int (0 : Int32)), (.ref rk)]))
  refine Comes.cP X4 hx hZ hown (y := y30) (W := 0) (W hw 210) (W hw 211) (W hw 100) (W hw 212) dd (W hw 213) (rm30 l Z a0 hw [] rk bl kb blk os ko xa ((.ref xb)) ((.ref xc)) wa h0 n0 (by omega)  G0 G1 G2 G4 G7 G11 G15 G18 G23 G42 G43 (Ne.symm G27) (Ne.symm G30)) G0 (W hw 101) dd dd hs4 rfl (by rw [hml]; rfl) (argsL := [(.int (0 : Int32)), (.int (0 : Int32))]) (rest := []) (lenOf pd_6 rfl) rfl (wle rfl) (hb hby d28_25) rfl dd dd fun v5 T5 L5 hQ5 X5 => ?_
  obtain ⟨rfl, Nq5, Kq5⟩ := hQ5
  have N5 := Fr.app N4 Nq5
  have z5k : h0.size ≤ T5.heap.size := Kq5.1
  have K5 := K0.trans Kq5 (allS (mE 4) all0)
  refine cs (fun t k => xaloadN X5 hc d28_28 rfl rfl (xiload X5 hc d28_29 rfl k)) ?_
  have F6 := (G6.keep Kq5)
  have ni7 := ninS G27 nin0
  have F8 := (G7.keep Kq5 ni7)
  have F9 := (G8.keep Kq5 ni7)
  have F10 := (G9.keep Kq5 ni7)
  have F11 := (G10.keep Kq5 ni7)
  have ni12 := ninS G30 nin0
  have F13 := (G11.keep Kq5 ni12)
  have ni14 := ninS G32 nin0
  have F15 := (G13.keep Kq5 ni14)
  have ni16 := ninS G33 nin0
  have F17 := (G14.keep Kq5 ni16)
  have F18 := (G16.keep Kq5)
  have F19 := (G17.keep Kq5)
  refine Comes.cV X5 hx hZ hown (y := y31) (W := 0) (W hw 214) (W hw 215) (W hw 217) (W hw 216) dd (W hw 218) (close_3 l Z a0 hw [] blk os ts ns ko kt kn ((.ref xa)) xb xc ta tb tc ua ub uc T5.heap n0 (by omega)  F6 F8 F9 F10 F11 F13 G12 F15 F17 F18 F19 G19 G20 G21 G22 G24 G25 G26 G28 G29 G31) F6 (W hw 133) dd dd rfl rfl (by rw [hml]; rfl) (argsL := [(.int (0 : Int32))]) (rest := []) (lenOf pd_10 rfl) rfl (wle rfl) (hb hby d28_31) rfl dd dd fun v20 T20 L20 hQ20 X20 => ?_
  obtain ⟨rfl, Nq20, Kq20, P20_0, P20_1, P20_2, P20_3, P20_4, P20_5, P20_6, P20_7⟩ := hQ20
  have N20 := Fr.app N5 Nq20
  have z20k : T5.heap.size ≤ T20.heap.size := Kq20.1
  have K20 := K5.trans Kq20 (allS (mE 0) (allS (mE 1) (allS (mE 2) (allS (mE 3) all0))))
  refine cs (fun t k => xiloadN X20 hc d28_34 rfl (xiconst X20 hc d28_35 (xiadd X20 hc d28_36 rfl k))) ?_
  show Comes p e below _ (T20.setTop (mkF m 37 #[vr rk, vr xa, vi (0 : Int32), vr blk, vi (0 : Int32)] [(.int ((0 : Int32) + (1 : Int32)))]))
  rw [show ((0 : Int32) + (1 : Int32)) = (1 : Int32) from by decide]
  refine cs (fun t k => xaloadN X20 hc d28_37 rfl rfl k) ?_
  have ni21 := ninS (Ne.symm G42) nin0
  have ni22 := ninS (Ne.symm G34) (ninS (Ne.symm G36) (ninS (Ne.symm G38) (ninS (Ne.symm G40) nin0)))
  have F23 := ((G2.keep Kq5 ni21).keep Kq20 ni22)
  refine Comes.gF X20 hx hZ hown (host := "") (Or.inl (W hw 121)) Via.refl rfl F23 rfl rfl (hb hby d28_38) fun T24 X24 e24 => ?_
  refine cs (fun t k => xicmpYes X24 hc 41 73 d28_41 rfl (flt dd).2.1 (xiloadN X24 hc d28_73 rfl k)) ?_
  refine cs (fun t k => xifYes X24 hc 74 108 d28_74 rfl ((if0 _ _).trans (flt dd).2.2.2) (xaloadN X24 hc d28_108 rfl rfl k)) ?_
  refine Comes.gR X24 hx hZ hown (W hw 154) Via.refl e24 P20_4 rfl rfl (hb hby d28_109) fun T27 X27 e27 => ?_
  refine cs (fun t k => xifYes X27 hc 112 120 d28_112 rfl ((if0 _ _).trans (feq dd).2) k) ?_
  show Comes p e below _ (T27.setTop (mkF m 120 #[vr rk, vr xa, vi (0 : Int32), vr blk, vi (0 : Int32)] []))
  exact Comes.ret0 X27 hx hret hlk (hb hby d28_120) e27 ⟨rfl, N20, K20, P20_1, P20_5⟩ dd dd
def Q_first0 (Z : State) (rk : Nat) (h0 : Heap) (n0 : Nat) (v_ : Option Value) (h : Heap) (L_ : List Loc) : Prop := (v_ = some .null) ∧ (Fr n0 L_) ∧ (h = h0)
theorem first0 (l : Launch) (Z : State) (a0 : Array Value) (hw : ∀ d ∈ tables_1, d.before a0 Z = true) (ws : List Jvm.Cond) (rk : Nat) (h0 : Heap) (n0 : Nat) (Z0 : n0 ≤ h0.size) (G0 : Fld Z h0 rk sRk "count" "I" (.int (0 : Int32))) :
    Con l Z y14 prog_27_method_3_code 1 (some (.object sOr)) ws (Rm 0 0 0 0) #[(.ref rk)] h0 (Q_first0 Z rk h0 n0) := by
  refine Con.of (plainFor_of_name pn_14) fun p e s m below meth c s₁ hx hby hml hZ hown hnm hlk hret X0 e0 => ?_
  have N0 := Fr.nil n0
  have hc := And.intro hx hby
  refine Comes.cast (ef_rm3 m rk) ?_
  have lt_rk : rk < h0.size := G0.lt
  refine cs (fun t k => xaloadN X0 hc d14_0 rfl rfl k) ?_
  refine Comes.gF X0 hx hZ hown (host := "") (Or.inl (W hw 121)) Via.refl e0 G0 rfl rfl (hb hby d14_1) fun T1 X1 e1 => ?_
  refine cs (fun t k => xifNo X1 hc d14_4 rfl ((if0 _ _).trans (teq dd).2) (XS.aconstNull X1.here hx rfl (hb hby d14_7) (xgoto X1 hc 8 22 d14_8 k))) ?_
  show Comes p e below _ (T1.setTop (mkF m 22 #[vr rk] [.null]))
  exact Comes.retV X1 hx hret (narrow_ref rfl) (Or.inr (Or.inr (Or.inr (Or.inr ⟨rfl, rfl, rfl⟩)))) hlk (hb hby d14_22) e1 ⟨rfl, N0, rfl⟩ dd dd
def Q_first1 (Z : State) (rk bl : Nat) (kb : ClassId) (blk os : Nat) (ko : ClassId) (xa : Nat) (vb vc : Value) (h0 : Heap) (n0 : Nat) (v_ : Option Value) (h : Heap) (L_ : List Loc) : Prop := (v_ = some (.ref xa)) ∧ (Fr n0 L_) ∧ (h = h0)
theorem first1 (l : Launch) (Z : State) (a0 : Array Value) (hw : ∀ d ∈ tables_1, d.before a0 Z = true) (ws : List Jvm.Cond) (rk bl : Nat) (kb : ClassId) (blk os : Nat) (ko : ClassId) (xa : Nat) (vb vc : Value) (h0 : Heap) (n0 : Nat) (Z0 : n0 ≤ h0.size) (G0 : Fld Z h0 rk sRk "blocks" dBs (.ref bl)) (G1 : Fld Z h0 rk sRk "count" "I" (.int (1 : Int32))) (G2 : Arv Z h0 bl kb (.object sBk) (4 : Int32) [(.ref blk), .null, .null, .null] .null) (G3 : Fld Z h0 blk sBk "orders" dOs (.ref os)) (G4 : Arv Z h0 os ko (.object sOr) (64 : Int32) [(.ref xa), vb, vc] .null) :
    Con l Z y14 prog_27_method_3_code 1 (some (.object sOr)) ws (Rm 0 0 0 0) #[(.ref rk)] h0 (Q_first1 Z rk bl kb blk os ko xa vb vc h0 n0) := by
  refine Con.of (plainFor_of_name pn_14) fun p e s m below meth c s₁ hx hby hml hZ hown hnm hlk hret X0 e0 => ?_
  have N0 := Fr.nil n0
  have hc := And.intro hx hby
  refine Comes.cast (ef_rm3 m rk) ?_
  have lt_rk : rk < h0.size := G0.lt
  have lt_bl : bl < h0.size := G2.lt
  have lt_blk : blk < h0.size := G3.lt
  have lt_os : os < h0.size := G4.lt
  refine cs (fun t k => xaloadN X0 hc d14_0 rfl rfl k) ?_
  refine Comes.gF X0 hx hZ hown (host := "") (Or.inl (W hw 121)) Via.refl e0 G1 rfl rfl (hb hby d14_1) fun T1 X1 e1 => ?_
  refine cs (fun t k => xifYes X1 hc 4 11 d14_4 rfl ((if0 _ _).trans (feq dd).2) (xaloadN X1 hc d14_11 rfl rfl k)) ?_
  refine Comes.gF X1 hx hZ hown (host := "") (Or.inl (W hw 108)) Via.refl e1 G0 rfl rfl (hb hby d14_12) fun T3 X3 e3 => ?_
  refine cs (fun t k => xiconst X3 hc d14_15 k) ?_
  refine Comes.ldR X3 hx hZ e3 G2 rfl rfl (v := (.ref blk)) rfl (hb hby d14_16) ?_
  refine Comes.gR X3 hx hZ hown (W hw 190) Via.refl e3 G3 rfl rfl (hb hby d14_17) fun T5 X5 e5 => ?_
  refine cs (fun t k => xiconst X5 hc d14_20 k) ?_
  show Comes p e below _ (T5.setTop (mkF m 21 #[vr rk] [(.int (0 : Int32)), (.ref os)]))
  refine Comes.ldR X5 hx hZ e5 G4 rfl rfl (v := (.ref xa)) rfl (hb hby d14_21) ?_
  show Comes p e below _ (T5.setTop (mkF m 22 #[vr rk] [(.ref xa)]))
  exact Comes.retV X5 hx hret (narrow_ref rfl) (Or.inr (Or.inr (Or.inr (Or.inr ⟨rfl, rfl, rfl⟩)))) hlk (hb hby d14_22) e5 ⟨rfl, N0, rfl⟩ dd dd
def Q_bt_10T (Z : State) (lw : Int32) (tr nr : Nat) (k1 k2 : ClassId) (ta tb tc ua ub uc : Int64) (h0 : Heap) (n0 : Nat) (v_ : Option Value) (h : Heap) (L_ : List Loc) : Prop := (v_ = some (.int (1 : Int32))) ∧ (Fr n0 L_) ∧ (h = h0)
theorem bt_10T (l : Launch) (Z : State) (a0 : Array Value) (hw : ∀ d ∈ tables_1, d.before a0 Z = true) (ws : List Jvm.Cond) (lw : Int32) (tr nr : Nat) (k1 k2 : ClassId) (ta tb tc ua ub uc : Int64) (h0 : Heap) (n0 : Nat) (Z0 : n0 ≤ h0.size) (G0 : Arv Z h0 tr k1 .long (3 : Int32) [(.long ta), (.long tb), (.long tc)] (.long (0 : Int64))) (G1 : Arv Z h0 nr k2 .long (3 : Int32) [(.long ua), (.long ub), (.long uc)] (.long (0 : Int64))) (G2 : ((¬ tb = ta ∧ ¬ lw = (0 : Int32) ∧ tb < ta) ∨ (¬ tb = ta ∧ lw = (0 : Int32) ∧ ta < tb) ∨ (tb = ta ∧ ub < ua))) :
    Con l Z y34 method_3_code 5 (some .boolean) ws (Rm 0 0 0 0) #[(.int lw), (.ref tr), (.ref nr), (.int (1 : Int32)), (.int (0 : Int32))] h0 (Q_bt_10T Z lw tr nr k1 k2 ta tb tc ua ub uc h0 n0) := by
  refine Con.of (plainFor_of_name pn_34) fun p e s m below meth c s₁ hx hby hml hZ hown hnm hlk hret X0 e0 => ?_
  have N0 := Fr.nil n0
  have hc := And.intro hx hby
  refine Comes.cast (ef_bt_10T m lw tr nr) ?_
  have lt_tr : tr < h0.size := G0.lt
  have lt_nr : nr < h0.size := G1.lt
  refine cs (fun t k => xaloadN X0 hc d34_0 rfl rfl (xiloadN X0 hc d34_1 rfl k)) ?_
  refine Comes.ldJ X0 hx hZ e0 G0 rfl rfl (x := tb) rfl (hb hby d34_2) ?_
  refine cs (fun t k => xaloadN X0 hc d34_3 rfl rfl (xiload X0 hc d34_4 rfl k)) ?_
  refine Comes.ldJ X0 hx hZ e0 G0 rfl rfl (x := ta) rfl (hb hby d34_6) ?_
  refine cs (fun t k => XS.lcmp X0.here hx rfl (hb hby d34_7) rfl k) ?_
  by_cases hc8_3 : tb = ta
  · refine cs (fun t k => xifYes X0 hc 8 49 d34_8 rfl ((if0 _ _).trans (teq ((lw_eq _ _).mpr hc8_3)).1) (xaloadN X0 hc d34_49 rfl rfl (xiloadN X0 hc d34_50 rfl k))) ?_
    show Comes p e below _ (s₁.setTop (mkF m 51 #[vi lw, vr tr, vr nr, vi (1 : Int32), vi (0 : Int32)] [(.int (1 : Int32)), (.ref nr)]))
    refine Comes.ldJ X0 hx hZ e0 G1 rfl rfl (x := ub) rfl (hb hby d34_51) ?_
    refine cs (fun t k => xaloadN X0 hc d34_52 rfl rfl (xiload X0 hc d34_53 rfl k)) ?_
    refine Comes.ldJ X0 hx hZ e0 G1 rfl rfl (x := ua) rfl (hb hby d34_55) ?_
    refine cs (fun t k => XS.lcmp X0.here hx rfl (hb hby d34_56) rfl k) ?_
    have hc57_6 : ub < ua := by exact own_b3 G2 hc8_3
    refine cs (fun t k => xifNo X0 hc d34_57 rfl ((if0 _ _).trans (tlt ((lw_lt _ _).mpr hc57_6)).2.1) (xiconst X0 hc d34_60 (xgoto X0 hc 61 65 d34_61 k))) ?_
    show Comes p e below _ (s₁.setTop (mkF m 65 #[vi lw, vr tr, vr nr, vi (1 : Int32), vi (0 : Int32)] [(.int (1 : Int32))]))
    exact Comes.retN X0 hx (t := .boolean) hret (by simp) hlk (hb hby d34_65) e0 ⟨rfl, N0, rfl⟩ dd dd
  · refine cs (fun t k => xifNo X0 hc d34_8 rfl ((if0 _ _).trans (feq (fun q => hc8_3 ((lw_eq _ _).mp q))).1) (xiloadN X0 hc d34_11 rfl k)) ?_
    show Comes p e below _ (s₁.setTop (mkF m 12 #[vi lw, vr tr, vr nr, vi (1 : Int32), vi (0 : Int32)] [(.int lw)]))
    by_cases hc12_7 : lw = (0 : Int32)
    · refine cs (fun t k => xifYes X0 hc 12 32 d34_12 rfl ((if0 _ _).trans (teq hc12_7).1) (xaloadN X0 hc d34_32 rfl rfl (xiloadN X0 hc d34_33 rfl k))) ?_
      refine Comes.ldJ X0 hx hZ e0 G0 rfl rfl (x := tb) rfl (hb hby d34_34) ?_
      refine cs (fun t k => xaloadN X0 hc d34_35 rfl rfl (xiload X0 hc d34_36 rfl k)) ?_
      refine Comes.ldJ X0 hx hZ e0 G0 rfl rfl (x := ta) rfl (hb hby d34_38) ?_
      refine cs (fun t k => XS.lcmp X0.here hx rfl (hb hby d34_39) rfl k) ?_
      have hc40_10 : ta < tb := by exact own_b2 G2 hc8_3 hc12_7
      refine cs (fun t k => xifNo X0 hc d34_40 rfl ((if0 _ _).trans (tlt ((lw_gt _ _).mpr hc40_10)).2.2.2) (xiconst X0 hc d34_43 (xgoto X0 hc 44 48 d34_44 k))) ?_
      show Comes p e below _ (s₁.setTop (mkF m 48 #[vi lw, vr tr, vr nr, vi (1 : Int32), vi (0 : Int32)] [(.int (1 : Int32))]))
      show Comes p e below _ (s₁.setTop (mkF m 48 #[vi lw, vr tr, vr nr, vi (1 : Int32), vi (0 : Int32)] [(.int (1 : Int32))]))
      exact Comes.retN X0 hx (t := .boolean) hret (by simp) hlk (hb hby d34_48) e0 ⟨rfl, N0, rfl⟩ dd dd
    · refine cs (fun t k => xifNo X0 hc d34_12 rfl ((if0 _ _).trans (feq hc12_7).1) (xaloadN X0 hc d34_15 rfl rfl (xiloadN X0 hc d34_16 rfl k))) ?_
      refine Comes.ldJ X0 hx hZ e0 G0 rfl rfl (x := tb) rfl (hb hby d34_17) ?_
      refine cs (fun t k => xaloadN X0 hc d34_18 rfl rfl (xiload X0 hc d34_19 rfl k)) ?_
      refine Comes.ldJ X0 hx hZ e0 G0 rfl rfl (x := ta) rfl (hb hby d34_21) ?_
      refine cs (fun t k => XS.lcmp X0.here hx rfl (hb hby d34_22) rfl k) ?_
      have hc23_13 : tb < ta := by exact own_b1 G2 hc8_3 hc12_7
      refine cs (fun t k => xifNo X0 hc d34_23 rfl ((if0 _ _).trans (tlt ((lw_lt _ _).mpr hc23_13)).2.1) (xiconst X0 hc d34_26 (xgoto X0 hc 27 31 d34_27 k))) ?_
      show Comes p e below _ (s₁.setTop (mkF m 31 #[vi lw, vr tr, vr nr, vi (1 : Int32), vi (0 : Int32)] [(.int (1 : Int32))]))
      show Comes p e below _ (s₁.setTop (mkF m 31 #[vi lw, vr tr, vr nr, vi (1 : Int32), vi (0 : Int32)] [(.int (1 : Int32))]))
      exact Comes.retN X0 hx (t := .boolean) hret (by simp) hlk (hb hby d34_31) e0 ⟨rfl, N0, rfl⟩ dd dd
def Q_bt_10F (Z : State) (lw : Int32) (tr nr : Nat) (k1 k2 : ClassId) (ta tb tc ua ub uc : Int64) (h0 : Heap) (n0 : Nat) (v_ : Option Value) (h : Heap) (L_ : List Loc) : Prop := (v_ = some (.int (0 : Int32))) ∧ (Fr n0 L_) ∧ (h = h0)
theorem bt_10F (l : Launch) (Z : State) (a0 : Array Value) (hw : ∀ d ∈ tables_1, d.before a0 Z = true) (ws : List Jvm.Cond) (lw : Int32) (tr nr : Nat) (k1 k2 : ClassId) (ta tb tc ua ub uc : Int64) (h0 : Heap) (n0 : Nat) (Z0 : n0 ≤ h0.size) (G0 : Arv Z h0 tr k1 .long (3 : Int32) [(.long ta), (.long tb), (.long tc)] (.long (0 : Int64))) (G1 : Arv Z h0 nr k2 .long (3 : Int32) [(.long ua), (.long ub), (.long uc)] (.long (0 : Int64))) (G2 : ¬ ((¬ tb = ta ∧ ¬ lw = (0 : Int32) ∧ tb < ta) ∨ (¬ tb = ta ∧ lw = (0 : Int32) ∧ ta < tb) ∨ (tb = ta ∧ ub < ua))) :
    Con l Z y34 method_3_code 5 (some .boolean) ws (Rm 0 0 0 0) #[(.int lw), (.ref tr), (.ref nr), (.int (1 : Int32)), (.int (0 : Int32))] h0 (Q_bt_10F Z lw tr nr k1 k2 ta tb tc ua ub uc h0 n0) := by
  refine Con.of (plainFor_of_name pn_34) fun p e s m below meth c s₁ hx hby hml hZ hown hnm hlk hret X0 e0 => ?_
  have N0 := Fr.nil n0
  have hc := And.intro hx hby
  refine Comes.cast (ef_bt_10T m lw tr nr) ?_
  have lt_tr : tr < h0.size := G0.lt
  have lt_nr : nr < h0.size := G1.lt
  refine cs (fun t k => xaloadN X0 hc d34_0 rfl rfl (xiloadN X0 hc d34_1 rfl k)) ?_
  refine Comes.ldJ X0 hx hZ e0 G0 rfl rfl (x := tb) rfl (hb hby d34_2) ?_
  refine cs (fun t k => xaloadN X0 hc d34_3 rfl rfl (xiload X0 hc d34_4 rfl k)) ?_
  refine Comes.ldJ X0 hx hZ e0 G0 rfl rfl (x := ta) rfl (hb hby d34_6) ?_
  refine cs (fun t k => XS.lcmp X0.here hx rfl (hb hby d34_7) rfl k) ?_
  by_cases hc8_3 : tb = ta
  · refine cs (fun t k => xifYes X0 hc 8 49 d34_8 rfl ((if0 _ _).trans (teq ((lw_eq _ _).mpr hc8_3)).1) (xaloadN X0 hc d34_49 rfl rfl (xiloadN X0 hc d34_50 rfl k))) ?_
    show Comes p e below _ (s₁.setTop (mkF m 51 #[vi lw, vr tr, vr nr, vi (1 : Int32), vi (0 : Int32)] [(.int (1 : Int32)), (.ref nr)]))
    refine Comes.ldJ X0 hx hZ e0 G1 rfl rfl (x := ub) rfl (hb hby d34_51) ?_
    refine cs (fun t k => xaloadN X0 hc d34_52 rfl rfl (xiload X0 hc d34_53 rfl k)) ?_
    refine Comes.ldJ X0 hx hZ e0 G1 rfl rfl (x := ua) rfl (hb hby d34_55) ?_
    refine cs (fun t k => XS.lcmp X0.here hx rfl (hb hby d34_56) rfl k) ?_
    have hc57_6 : ¬ (ub < ua) := by exact own_n3 G2 hc8_3
    refine cs (fun t k => xifYes X0 hc 57 64 d34_57 rfl ((if0 _ _).trans (flt (fun q => hc57_6 ((lw_lt _ _).mp q))).2.1) (xiconst X0 hc d34_64 k)) ?_
    show Comes p e below _ (s₁.setTop (mkF m 65 #[vi lw, vr tr, vr nr, vi (1 : Int32), vi (0 : Int32)] [(.int (0 : Int32))]))
    exact Comes.retN X0 hx (t := .boolean) hret (by simp) hlk (hb hby d34_65) e0 ⟨rfl, N0, rfl⟩ dd dd
  · refine cs (fun t k => xifNo X0 hc d34_8 rfl ((if0 _ _).trans (feq (fun q => hc8_3 ((lw_eq _ _).mp q))).1) (xiloadN X0 hc d34_11 rfl k)) ?_
    show Comes p e below _ (s₁.setTop (mkF m 12 #[vi lw, vr tr, vr nr, vi (1 : Int32), vi (0 : Int32)] [(.int lw)]))
    by_cases hc12_7 : lw = (0 : Int32)
    · refine cs (fun t k => xifYes X0 hc 12 32 d34_12 rfl ((if0 _ _).trans (teq hc12_7).1) (xaloadN X0 hc d34_32 rfl rfl (xiloadN X0 hc d34_33 rfl k))) ?_
      refine Comes.ldJ X0 hx hZ e0 G0 rfl rfl (x := tb) rfl (hb hby d34_34) ?_
      refine cs (fun t k => xaloadN X0 hc d34_35 rfl rfl (xiload X0 hc d34_36 rfl k)) ?_
      refine Comes.ldJ X0 hx hZ e0 G0 rfl rfl (x := ta) rfl (hb hby d34_38) ?_
      refine cs (fun t k => XS.lcmp X0.here hx rfl (hb hby d34_39) rfl k) ?_
      have hc40_10 : ¬ (ta < tb) := by exact own_n2 G2 hc8_3 hc12_7
      refine cs (fun t k => xifYes X0 hc 40 47 d34_40 rfl ((if0 _ _).trans (flt (fun q => hc40_10 ((lw_gt _ _).mp q))).2.2.2) (xiconst X0 hc d34_47 k)) ?_
      show Comes p e below _ (s₁.setTop (mkF m 48 #[vi lw, vr tr, vr nr, vi (1 : Int32), vi (0 : Int32)] [(.int (0 : Int32))]))
      show Comes p e below _ (s₁.setTop (mkF m 48 #[vi lw, vr tr, vr nr, vi (1 : Int32), vi (0 : Int32)] [(.int (0 : Int32))]))
      exact Comes.retN X0 hx (t := .boolean) hret (by simp) hlk (hb hby d34_48) e0 ⟨rfl, N0, rfl⟩ dd dd
    · refine cs (fun t k => xifNo X0 hc d34_12 rfl ((if0 _ _).trans (feq hc12_7).1) (xaloadN X0 hc d34_15 rfl rfl (xiloadN X0 hc d34_16 rfl k))) ?_
      refine Comes.ldJ X0 hx hZ e0 G0 rfl rfl (x := tb) rfl (hb hby d34_17) ?_
      refine cs (fun t k => xaloadN X0 hc d34_18 rfl rfl (xiload X0 hc d34_19 rfl k)) ?_
      refine Comes.ldJ X0 hx hZ e0 G0 rfl rfl (x := ta) rfl (hb hby d34_21) ?_
      refine cs (fun t k => XS.lcmp X0.here hx rfl (hb hby d34_22) rfl k) ?_
      have hc23_13 : ¬ (tb < ta) := by exact own_n1 G2 hc8_3 hc12_7
      refine cs (fun t k => xifYes X0 hc 23 30 d34_23 rfl ((if0 _ _).trans (flt (fun q => hc23_13 ((lw_lt _ _).mp q))).2.1) (xiconst X0 hc d34_30 k)) ?_
      show Comes p e below _ (s₁.setTop (mkF m 31 #[vi lw, vr tr, vr nr, vi (1 : Int32), vi (0 : Int32)] [(.int (0 : Int32))]))
      show Comes p e below _ (s₁.setTop (mkF m 31 #[vi lw, vr tr, vr nr, vi (1 : Int32), vi (0 : Int32)] [(.int (0 : Int32))]))
      exact Comes.retN X0 hx (t := .boolean) hret (by simp) hlk (hb hby d34_31) e0 ⟨rfl, N0, rfl⟩ dd dd
def Q_bt_20T (Z : State) (lw : Int32) (tr nr : Nat) (k1 k2 : ClassId) (ta tb tc ua ub uc : Int64) (h0 : Heap) (n0 : Nat) (v_ : Option Value) (h : Heap) (L_ : List Loc) : Prop := (v_ = some (.int (1 : Int32))) ∧ (Fr n0 L_) ∧ (h = h0)
theorem bt_20T (l : Launch) (Z : State) (a0 : Array Value) (hw : ∀ d ∈ tables_1, d.before a0 Z = true) (ws : List Jvm.Cond) (lw : Int32) (tr nr : Nat) (k1 k2 : ClassId) (ta tb tc ua ub uc : Int64) (h0 : Heap) (n0 : Nat) (Z0 : n0 ≤ h0.size) (G0 : Arv Z h0 tr k1 .long (3 : Int32) [(.long ta), (.long tb), (.long tc)] (.long (0 : Int64))) (G1 : Arv Z h0 nr k2 .long (3 : Int32) [(.long ua), (.long ub), (.long uc)] (.long (0 : Int64))) (G2 : ((¬ tc = ta ∧ ¬ lw = (0 : Int32) ∧ tc < ta) ∨ (¬ tc = ta ∧ lw = (0 : Int32) ∧ ta < tc) ∨ (tc = ta ∧ uc < ua))) :
    Con l Z y34 method_3_code 5 (some .boolean) ws (Rm 0 0 0 0) #[(.int lw), (.ref tr), (.ref nr), (.int (2 : Int32)), (.int (0 : Int32))] h0 (Q_bt_20T Z lw tr nr k1 k2 ta tb tc ua ub uc h0 n0) := by
  refine Con.of (plainFor_of_name pn_34) fun p e s m below meth c s₁ hx hby hml hZ hown hnm hlk hret X0 e0 => ?_
  have N0 := Fr.nil n0
  have hc := And.intro hx hby
  refine Comes.cast (ef_bt_20T m lw tr nr) ?_
  have lt_tr : tr < h0.size := G0.lt
  have lt_nr : nr < h0.size := G1.lt
  refine cs (fun t k => xaloadN X0 hc d34_0 rfl rfl (xiloadN X0 hc d34_1 rfl k)) ?_
  refine Comes.ldJ X0 hx hZ e0 G0 rfl rfl (x := tc) rfl (hb hby d34_2) ?_
  refine cs (fun t k => xaloadN X0 hc d34_3 rfl rfl (xiload X0 hc d34_4 rfl k)) ?_
  refine Comes.ldJ X0 hx hZ e0 G0 rfl rfl (x := ta) rfl (hb hby d34_6) ?_
  refine cs (fun t k => XS.lcmp X0.here hx rfl (hb hby d34_7) rfl k) ?_
  by_cases hc8_3 : tc = ta
  · refine cs (fun t k => xifYes X0 hc 8 49 d34_8 rfl ((if0 _ _).trans (teq ((lw_eq _ _).mpr hc8_3)).1) (xaloadN X0 hc d34_49 rfl rfl (xiloadN X0 hc d34_50 rfl k))) ?_
    show Comes p e below _ (s₁.setTop (mkF m 51 #[vi lw, vr tr, vr nr, vi (2 : Int32), vi (0 : Int32)] [(.int (2 : Int32)), (.ref nr)]))
    refine Comes.ldJ X0 hx hZ e0 G1 rfl rfl (x := uc) rfl (hb hby d34_51) ?_
    refine cs (fun t k => xaloadN X0 hc d34_52 rfl rfl (xiload X0 hc d34_53 rfl k)) ?_
    refine Comes.ldJ X0 hx hZ e0 G1 rfl rfl (x := ua) rfl (hb hby d34_55) ?_
    refine cs (fun t k => XS.lcmp X0.here hx rfl (hb hby d34_56) rfl k) ?_
    have hc57_6 : uc < ua := by exact own_b3 G2 hc8_3
    refine cs (fun t k => xifNo X0 hc d34_57 rfl ((if0 _ _).trans (tlt ((lw_lt _ _).mpr hc57_6)).2.1) (xiconst X0 hc d34_60 (xgoto X0 hc 61 65 d34_61 k))) ?_
    show Comes p e below _ (s₁.setTop (mkF m 65 #[vi lw, vr tr, vr nr, vi (2 : Int32), vi (0 : Int32)] [(.int (1 : Int32))]))
    exact Comes.retN X0 hx (t := .boolean) hret (by simp) hlk (hb hby d34_65) e0 ⟨rfl, N0, rfl⟩ dd dd
  · refine cs (fun t k => xifNo X0 hc d34_8 rfl ((if0 _ _).trans (feq (fun q => hc8_3 ((lw_eq _ _).mp q))).1) (xiloadN X0 hc d34_11 rfl k)) ?_
    show Comes p e below _ (s₁.setTop (mkF m 12 #[vi lw, vr tr, vr nr, vi (2 : Int32), vi (0 : Int32)] [(.int lw)]))
    by_cases hc12_7 : lw = (0 : Int32)
    · refine cs (fun t k => xifYes X0 hc 12 32 d34_12 rfl ((if0 _ _).trans (teq hc12_7).1) (xaloadN X0 hc d34_32 rfl rfl (xiloadN X0 hc d34_33 rfl k))) ?_
      refine Comes.ldJ X0 hx hZ e0 G0 rfl rfl (x := tc) rfl (hb hby d34_34) ?_
      refine cs (fun t k => xaloadN X0 hc d34_35 rfl rfl (xiload X0 hc d34_36 rfl k)) ?_
      refine Comes.ldJ X0 hx hZ e0 G0 rfl rfl (x := ta) rfl (hb hby d34_38) ?_
      refine cs (fun t k => XS.lcmp X0.here hx rfl (hb hby d34_39) rfl k) ?_
      have hc40_10 : ta < tc := by exact own_b2 G2 hc8_3 hc12_7
      refine cs (fun t k => xifNo X0 hc d34_40 rfl ((if0 _ _).trans (tlt ((lw_gt _ _).mpr hc40_10)).2.2.2) (xiconst X0 hc d34_43 (xgoto X0 hc 44 48 d34_44 k))) ?_
      show Comes p e below _ (s₁.setTop (mkF m 48 #[vi lw, vr tr, vr nr, vi (2 : Int32), vi (0 : Int32)] [(.int (1 : Int32))]))
      show Comes p e below _ (s₁.setTop (mkF m 48 #[vi lw, vr tr, vr nr, vi (2 : Int32), vi (0 : Int32)] [(.int (1 : Int32))]))
      exact Comes.retN X0 hx (t := .boolean) hret (by simp) hlk (hb hby d34_48) e0 ⟨rfl, N0, rfl⟩ dd dd
    · refine cs (fun t k => xifNo X0 hc d34_12 rfl ((if0 _ _).trans (feq hc12_7).1) (xaloadN X0 hc d34_15 rfl rfl (xiloadN X0 hc d34_16 rfl k))) ?_
      refine Comes.ldJ X0 hx hZ e0 G0 rfl rfl (x := tc) rfl (hb hby d34_17) ?_
      refine cs (fun t k => xaloadN X0 hc d34_18 rfl rfl (xiload X0 hc d34_19 rfl k)) ?_
      refine Comes.ldJ X0 hx hZ e0 G0 rfl rfl (x := ta) rfl (hb hby d34_21) ?_
      refine cs (fun t k => XS.lcmp X0.here hx rfl (hb hby d34_22) rfl k) ?_
      have hc23_13 : tc < ta := by exact own_b1 G2 hc8_3 hc12_7
      refine cs (fun t k => xifNo X0 hc d34_23 rfl ((if0 _ _).trans (tlt ((lw_lt _ _).mpr hc23_13)).2.1) (xiconst X0 hc d34_26 (xgoto X0 hc 27 31 d34_27 k))) ?_
      show Comes p e below _ (s₁.setTop (mkF m 31 #[vi lw, vr tr, vr nr, vi (2 : Int32), vi (0 : Int32)] [(.int (1 : Int32))]))
      show Comes p e below _ (s₁.setTop (mkF m 31 #[vi lw, vr tr, vr nr, vi (2 : Int32), vi (0 : Int32)] [(.int (1 : Int32))]))
      exact Comes.retN X0 hx (t := .boolean) hret (by simp) hlk (hb hby d34_31) e0 ⟨rfl, N0, rfl⟩ dd dd
def Q_bt_20F (Z : State) (lw : Int32) (tr nr : Nat) (k1 k2 : ClassId) (ta tb tc ua ub uc : Int64) (h0 : Heap) (n0 : Nat) (v_ : Option Value) (h : Heap) (L_ : List Loc) : Prop := (v_ = some (.int (0 : Int32))) ∧ (Fr n0 L_) ∧ (h = h0)
theorem bt_20F (l : Launch) (Z : State) (a0 : Array Value) (hw : ∀ d ∈ tables_1, d.before a0 Z = true) (ws : List Jvm.Cond) (lw : Int32) (tr nr : Nat) (k1 k2 : ClassId) (ta tb tc ua ub uc : Int64) (h0 : Heap) (n0 : Nat) (Z0 : n0 ≤ h0.size) (G0 : Arv Z h0 tr k1 .long (3 : Int32) [(.long ta), (.long tb), (.long tc)] (.long (0 : Int64))) (G1 : Arv Z h0 nr k2 .long (3 : Int32) [(.long ua), (.long ub), (.long uc)] (.long (0 : Int64))) (G2 : ¬ ((¬ tc = ta ∧ ¬ lw = (0 : Int32) ∧ tc < ta) ∨ (¬ tc = ta ∧ lw = (0 : Int32) ∧ ta < tc) ∨ (tc = ta ∧ uc < ua))) :
    Con l Z y34 method_3_code 5 (some .boolean) ws (Rm 0 0 0 0) #[(.int lw), (.ref tr), (.ref nr), (.int (2 : Int32)), (.int (0 : Int32))] h0 (Q_bt_20F Z lw tr nr k1 k2 ta tb tc ua ub uc h0 n0) := by
  refine Con.of (plainFor_of_name pn_34) fun p e s m below meth c s₁ hx hby hml hZ hown hnm hlk hret X0 e0 => ?_
  have N0 := Fr.nil n0
  have hc := And.intro hx hby
  refine Comes.cast (ef_bt_20T m lw tr nr) ?_
  have lt_tr : tr < h0.size := G0.lt
  have lt_nr : nr < h0.size := G1.lt
  refine cs (fun t k => xaloadN X0 hc d34_0 rfl rfl (xiloadN X0 hc d34_1 rfl k)) ?_
  refine Comes.ldJ X0 hx hZ e0 G0 rfl rfl (x := tc) rfl (hb hby d34_2) ?_
  refine cs (fun t k => xaloadN X0 hc d34_3 rfl rfl (xiload X0 hc d34_4 rfl k)) ?_
  refine Comes.ldJ X0 hx hZ e0 G0 rfl rfl (x := ta) rfl (hb hby d34_6) ?_
  refine cs (fun t k => XS.lcmp X0.here hx rfl (hb hby d34_7) rfl k) ?_
  by_cases hc8_3 : tc = ta
  · refine cs (fun t k => xifYes X0 hc 8 49 d34_8 rfl ((if0 _ _).trans (teq ((lw_eq _ _).mpr hc8_3)).1) (xaloadN X0 hc d34_49 rfl rfl (xiloadN X0 hc d34_50 rfl k))) ?_
    show Comes p e below _ (s₁.setTop (mkF m 51 #[vi lw, vr tr, vr nr, vi (2 : Int32), vi (0 : Int32)] [(.int (2 : Int32)), (.ref nr)]))
    refine Comes.ldJ X0 hx hZ e0 G1 rfl rfl (x := uc) rfl (hb hby d34_51) ?_
    refine cs (fun t k => xaloadN X0 hc d34_52 rfl rfl (xiload X0 hc d34_53 rfl k)) ?_
    refine Comes.ldJ X0 hx hZ e0 G1 rfl rfl (x := ua) rfl (hb hby d34_55) ?_
    refine cs (fun t k => XS.lcmp X0.here hx rfl (hb hby d34_56) rfl k) ?_
    have hc57_6 : ¬ (uc < ua) := by exact own_n3 G2 hc8_3
    refine cs (fun t k => xifYes X0 hc 57 64 d34_57 rfl ((if0 _ _).trans (flt (fun q => hc57_6 ((lw_lt _ _).mp q))).2.1) (xiconst X0 hc d34_64 k)) ?_
    show Comes p e below _ (s₁.setTop (mkF m 65 #[vi lw, vr tr, vr nr, vi (2 : Int32), vi (0 : Int32)] [(.int (0 : Int32))]))
    exact Comes.retN X0 hx (t := .boolean) hret (by simp) hlk (hb hby d34_65) e0 ⟨rfl, N0, rfl⟩ dd dd
  · refine cs (fun t k => xifNo X0 hc d34_8 rfl ((if0 _ _).trans (feq (fun q => hc8_3 ((lw_eq _ _).mp q))).1) (xiloadN X0 hc d34_11 rfl k)) ?_
    show Comes p e below _ (s₁.setTop (mkF m 12 #[vi lw, vr tr, vr nr, vi (2 : Int32), vi (0 : Int32)] [(.int lw)]))
    by_cases hc12_7 : lw = (0 : Int32)
    · refine cs (fun t k => xifYes X0 hc 12 32 d34_12 rfl ((if0 _ _).trans (teq hc12_7).1) (xaloadN X0 hc d34_32 rfl rfl (xiloadN X0 hc d34_33 rfl k))) ?_
      refine Comes.ldJ X0 hx hZ e0 G0 rfl rfl (x := tc) rfl (hb hby d34_34) ?_
      refine cs (fun t k => xaloadN X0 hc d34_35 rfl rfl (xiload X0 hc d34_36 rfl k)) ?_
      refine Comes.ldJ X0 hx hZ e0 G0 rfl rfl (x := ta) rfl (hb hby d34_38) ?_
      refine cs (fun t k => XS.lcmp X0.here hx rfl (hb hby d34_39) rfl k) ?_
      have hc40_10 : ¬ (ta < tc) := by exact own_n2 G2 hc8_3 hc12_7
      refine cs (fun t k => xifYes X0 hc 40 47 d34_40 rfl ((if0 _ _).trans (flt (fun q => hc40_10 ((lw_gt _ _).mp q))).2.2.2) (xiconst X0 hc d34_47 k)) ?_
      show Comes p e below _ (s₁.setTop (mkF m 48 #[vi lw, vr tr, vr nr, vi (2 : Int32), vi (0 : Int32)] [(.int (0 : Int32))]))
      show Comes p e below _ (s₁.setTop (mkF m 48 #[vi lw, vr tr, vr nr, vi (2 : Int32), vi (0 : Int32)] [(.int (0 : Int32))]))
      exact Comes.retN X0 hx (t := .boolean) hret (by simp) hlk (hb hby d34_48) e0 ⟨rfl, N0, rfl⟩ dd dd
    · refine cs (fun t k => xifNo X0 hc d34_12 rfl ((if0 _ _).trans (feq hc12_7).1) (xaloadN X0 hc d34_15 rfl rfl (xiloadN X0 hc d34_16 rfl k))) ?_
      refine Comes.ldJ X0 hx hZ e0 G0 rfl rfl (x := tc) rfl (hb hby d34_17) ?_
      refine cs (fun t k => xaloadN X0 hc d34_18 rfl rfl (xiload X0 hc d34_19 rfl k)) ?_
      refine Comes.ldJ X0 hx hZ e0 G0 rfl rfl (x := ta) rfl (hb hby d34_21) ?_
      refine cs (fun t k => XS.lcmp X0.here hx rfl (hb hby d34_22) rfl k) ?_
      have hc23_13 : ¬ (tc < ta) := by exact own_n1 G2 hc8_3 hc12_7
      refine cs (fun t k => xifYes X0 hc 23 30 d34_23 rfl ((if0 _ _).trans (flt (fun q => hc23_13 ((lw_lt _ _).mp q))).2.1) (xiconst X0 hc d34_30 k)) ?_
      show Comes p e below _ (s₁.setTop (mkF m 31 #[vi lw, vr tr, vr nr, vi (2 : Int32), vi (0 : Int32)] [(.int (0 : Int32))]))
      show Comes p e below _ (s₁.setTop (mkF m 31 #[vi lw, vr tr, vr nr, vi (2 : Int32), vi (0 : Int32)] [(.int (0 : Int32))]))
      exact Comes.retN X0 hx (t := .boolean) hret (by simp) hlk (hb hby d34_31) e0 ⟨rfl, N0, rfl⟩ dd dd
def Q_bt_21T (Z : State) (lw : Int32) (tr nr : Nat) (k1 k2 : ClassId) (ta tb tc ua ub uc : Int64) (h0 : Heap) (n0 : Nat) (v_ : Option Value) (h : Heap) (L_ : List Loc) : Prop := (v_ = some (.int (1 : Int32))) ∧ (Fr n0 L_) ∧ (h = h0)
theorem bt_21T (l : Launch) (Z : State) (a0 : Array Value) (hw : ∀ d ∈ tables_1, d.before a0 Z = true) (ws : List Jvm.Cond) (lw : Int32) (tr nr : Nat) (k1 k2 : ClassId) (ta tb tc ua ub uc : Int64) (h0 : Heap) (n0 : Nat) (Z0 : n0 ≤ h0.size) (G0 : Arv Z h0 tr k1 .long (3 : Int32) [(.long ta), (.long tb), (.long tc)] (.long (0 : Int64))) (G1 : Arv Z h0 nr k2 .long (3 : Int32) [(.long ua), (.long ub), (.long uc)] (.long (0 : Int64))) (G2 : ((¬ tc = tb ∧ ¬ lw = (0 : Int32) ∧ tc < tb) ∨ (¬ tc = tb ∧ lw = (0 : Int32) ∧ tb < tc) ∨ (tc = tb ∧ uc < ub))) :
    Con l Z y34 method_3_code 5 (some .boolean) ws (Rm 0 0 0 0) #[(.int lw), (.ref tr), (.ref nr), (.int (2 : Int32)), (.int (1 : Int32))] h0 (Q_bt_21T Z lw tr nr k1 k2 ta tb tc ua ub uc h0 n0) := by
  refine Con.of (plainFor_of_name pn_34) fun p e s m below meth c s₁ hx hby hml hZ hown hnm hlk hret X0 e0 => ?_
  have N0 := Fr.nil n0
  have hc := And.intro hx hby
  refine Comes.cast (ef_bt_21T m lw tr nr) ?_
  have lt_tr : tr < h0.size := G0.lt
  have lt_nr : nr < h0.size := G1.lt
  refine cs (fun t k => xaloadN X0 hc d34_0 rfl rfl (xiloadN X0 hc d34_1 rfl k)) ?_
  refine Comes.ldJ X0 hx hZ e0 G0 rfl rfl (x := tc) rfl (hb hby d34_2) ?_
  refine cs (fun t k => xaloadN X0 hc d34_3 rfl rfl (xiload X0 hc d34_4 rfl k)) ?_
  refine Comes.ldJ X0 hx hZ e0 G0 rfl rfl (x := tb) rfl (hb hby d34_6) ?_
  refine cs (fun t k => XS.lcmp X0.here hx rfl (hb hby d34_7) rfl k) ?_
  by_cases hc8_3 : tc = tb
  · refine cs (fun t k => xifYes X0 hc 8 49 d34_8 rfl ((if0 _ _).trans (teq ((lw_eq _ _).mpr hc8_3)).1) (xaloadN X0 hc d34_49 rfl rfl (xiloadN X0 hc d34_50 rfl k))) ?_
    show Comes p e below _ (s₁.setTop (mkF m 51 #[vi lw, vr tr, vr nr, vi (2 : Int32), vi (1 : Int32)] [(.int (2 : Int32)), (.ref nr)]))
    refine Comes.ldJ X0 hx hZ e0 G1 rfl rfl (x := uc) rfl (hb hby d34_51) ?_
    refine cs (fun t k => xaloadN X0 hc d34_52 rfl rfl (xiload X0 hc d34_53 rfl k)) ?_
    refine Comes.ldJ X0 hx hZ e0 G1 rfl rfl (x := ub) rfl (hb hby d34_55) ?_
    refine cs (fun t k => XS.lcmp X0.here hx rfl (hb hby d34_56) rfl k) ?_
    have hc57_6 : uc < ub := by exact own_b3 G2 hc8_3
    refine cs (fun t k => xifNo X0 hc d34_57 rfl ((if0 _ _).trans (tlt ((lw_lt _ _).mpr hc57_6)).2.1) (xiconst X0 hc d34_60 (xgoto X0 hc 61 65 d34_61 k))) ?_
    show Comes p e below _ (s₁.setTop (mkF m 65 #[vi lw, vr tr, vr nr, vi (2 : Int32), vi (1 : Int32)] [(.int (1 : Int32))]))
    exact Comes.retN X0 hx (t := .boolean) hret (by simp) hlk (hb hby d34_65) e0 ⟨rfl, N0, rfl⟩ dd dd
  · refine cs (fun t k => xifNo X0 hc d34_8 rfl ((if0 _ _).trans (feq (fun q => hc8_3 ((lw_eq _ _).mp q))).1) (xiloadN X0 hc d34_11 rfl k)) ?_
    show Comes p e below _ (s₁.setTop (mkF m 12 #[vi lw, vr tr, vr nr, vi (2 : Int32), vi (1 : Int32)] [(.int lw)]))
    by_cases hc12_7 : lw = (0 : Int32)
    · refine cs (fun t k => xifYes X0 hc 12 32 d34_12 rfl ((if0 _ _).trans (teq hc12_7).1) (xaloadN X0 hc d34_32 rfl rfl (xiloadN X0 hc d34_33 rfl k))) ?_
      refine Comes.ldJ X0 hx hZ e0 G0 rfl rfl (x := tc) rfl (hb hby d34_34) ?_
      refine cs (fun t k => xaloadN X0 hc d34_35 rfl rfl (xiload X0 hc d34_36 rfl k)) ?_
      refine Comes.ldJ X0 hx hZ e0 G0 rfl rfl (x := tb) rfl (hb hby d34_38) ?_
      refine cs (fun t k => XS.lcmp X0.here hx rfl (hb hby d34_39) rfl k) ?_
      have hc40_10 : tb < tc := by exact own_b2 G2 hc8_3 hc12_7
      refine cs (fun t k => xifNo X0 hc d34_40 rfl ((if0 _ _).trans (tlt ((lw_gt _ _).mpr hc40_10)).2.2.2) (xiconst X0 hc d34_43 (xgoto X0 hc 44 48 d34_44 k))) ?_
      show Comes p e below _ (s₁.setTop (mkF m 48 #[vi lw, vr tr, vr nr, vi (2 : Int32), vi (1 : Int32)] [(.int (1 : Int32))]))
      show Comes p e below _ (s₁.setTop (mkF m 48 #[vi lw, vr tr, vr nr, vi (2 : Int32), vi (1 : Int32)] [(.int (1 : Int32))]))
      exact Comes.retN X0 hx (t := .boolean) hret (by simp) hlk (hb hby d34_48) e0 ⟨rfl, N0, rfl⟩ dd dd
    · refine cs (fun t k => xifNo X0 hc d34_12 rfl ((if0 _ _).trans (feq hc12_7).1) (xaloadN X0 hc d34_15 rfl rfl (xiloadN X0 hc d34_16 rfl k))) ?_
      refine Comes.ldJ X0 hx hZ e0 G0 rfl rfl (x := tc) rfl (hb hby d34_17) ?_
      refine cs (fun t k => xaloadN X0 hc d34_18 rfl rfl (xiload X0 hc d34_19 rfl k)) ?_
      refine Comes.ldJ X0 hx hZ e0 G0 rfl rfl (x := tb) rfl (hb hby d34_21) ?_
      refine cs (fun t k => XS.lcmp X0.here hx rfl (hb hby d34_22) rfl k) ?_
      have hc23_13 : tc < tb := by exact own_b1 G2 hc8_3 hc12_7
      refine cs (fun t k => xifNo X0 hc d34_23 rfl ((if0 _ _).trans (tlt ((lw_lt _ _).mpr hc23_13)).2.1) (xiconst X0 hc d34_26 (xgoto X0 hc 27 31 d34_27 k))) ?_
      show Comes p e below _ (s₁.setTop (mkF m 31 #[vi lw, vr tr, vr nr, vi (2 : Int32), vi (1 : Int32)] [(.int (1 : Int32))]))
      show Comes p e below _ (s₁.setTop (mkF m 31 #[vi lw, vr tr, vr nr, vi (2 : Int32), vi (1 : Int32)] [(.int (1 : Int32))]))
      exact Comes.retN X0 hx (t := .boolean) hret (by simp) hlk (hb hby d34_31) e0 ⟨rfl, N0, rfl⟩ dd dd
def Q_bt_21F (Z : State) (lw : Int32) (tr nr : Nat) (k1 k2 : ClassId) (ta tb tc ua ub uc : Int64) (h0 : Heap) (n0 : Nat) (v_ : Option Value) (h : Heap) (L_ : List Loc) : Prop := (v_ = some (.int (0 : Int32))) ∧ (Fr n0 L_) ∧ (h = h0)
theorem bt_21F (l : Launch) (Z : State) (a0 : Array Value) (hw : ∀ d ∈ tables_1, d.before a0 Z = true) (ws : List Jvm.Cond) (lw : Int32) (tr nr : Nat) (k1 k2 : ClassId) (ta tb tc ua ub uc : Int64) (h0 : Heap) (n0 : Nat) (Z0 : n0 ≤ h0.size) (G0 : Arv Z h0 tr k1 .long (3 : Int32) [(.long ta), (.long tb), (.long tc)] (.long (0 : Int64))) (G1 : Arv Z h0 nr k2 .long (3 : Int32) [(.long ua), (.long ub), (.long uc)] (.long (0 : Int64))) (G2 : ¬ ((¬ tc = tb ∧ ¬ lw = (0 : Int32) ∧ tc < tb) ∨ (¬ tc = tb ∧ lw = (0 : Int32) ∧ tb < tc) ∨ (tc = tb ∧ uc < ub))) :
    Con l Z y34 method_3_code 5 (some .boolean) ws (Rm 0 0 0 0) #[(.int lw), (.ref tr), (.ref nr), (.int (2 : Int32)), (.int (1 : Int32))] h0 (Q_bt_21F Z lw tr nr k1 k2 ta tb tc ua ub uc h0 n0) := by
  refine Con.of (plainFor_of_name pn_34) fun p e s m below meth c s₁ hx hby hml hZ hown hnm hlk hret X0 e0 => ?_
  have N0 := Fr.nil n0
  have hc := And.intro hx hby
  refine Comes.cast (ef_bt_21T m lw tr nr) ?_
  have lt_tr : tr < h0.size := G0.lt
  have lt_nr : nr < h0.size := G1.lt
  refine cs (fun t k => xaloadN X0 hc d34_0 rfl rfl (xiloadN X0 hc d34_1 rfl k)) ?_
  refine Comes.ldJ X0 hx hZ e0 G0 rfl rfl (x := tc) rfl (hb hby d34_2) ?_
  refine cs (fun t k => xaloadN X0 hc d34_3 rfl rfl (xiload X0 hc d34_4 rfl k)) ?_
  refine Comes.ldJ X0 hx hZ e0 G0 rfl rfl (x := tb) rfl (hb hby d34_6) ?_
  refine cs (fun t k => XS.lcmp X0.here hx rfl (hb hby d34_7) rfl k) ?_
  by_cases hc8_3 : tc = tb
  · refine cs (fun t k => xifYes X0 hc 8 49 d34_8 rfl ((if0 _ _).trans (teq ((lw_eq _ _).mpr hc8_3)).1) (xaloadN X0 hc d34_49 rfl rfl (xiloadN X0 hc d34_50 rfl k))) ?_
    show Comes p e below _ (s₁.setTop (mkF m 51 #[vi lw, vr tr, vr nr, vi (2 : Int32), vi (1 : Int32)] [(.int (2 : Int32)), (.ref nr)]))
    refine Comes.ldJ X0 hx hZ e0 G1 rfl rfl (x := uc) rfl (hb hby d34_51) ?_
    refine cs (fun t k => xaloadN X0 hc d34_52 rfl rfl (xiload X0 hc d34_53 rfl k)) ?_
    refine Comes.ldJ X0 hx hZ e0 G1 rfl rfl (x := ub) rfl (hb hby d34_55) ?_
    refine cs (fun t k => XS.lcmp X0.here hx rfl (hb hby d34_56) rfl k) ?_
    have hc57_6 : ¬ (uc < ub) := by exact own_n3 G2 hc8_3
    refine cs (fun t k => xifYes X0 hc 57 64 d34_57 rfl ((if0 _ _).trans (flt (fun q => hc57_6 ((lw_lt _ _).mp q))).2.1) (xiconst X0 hc d34_64 k)) ?_
    show Comes p e below _ (s₁.setTop (mkF m 65 #[vi lw, vr tr, vr nr, vi (2 : Int32), vi (1 : Int32)] [(.int (0 : Int32))]))
    exact Comes.retN X0 hx (t := .boolean) hret (by simp) hlk (hb hby d34_65) e0 ⟨rfl, N0, rfl⟩ dd dd
  · refine cs (fun t k => xifNo X0 hc d34_8 rfl ((if0 _ _).trans (feq (fun q => hc8_3 ((lw_eq _ _).mp q))).1) (xiloadN X0 hc d34_11 rfl k)) ?_
    show Comes p e below _ (s₁.setTop (mkF m 12 #[vi lw, vr tr, vr nr, vi (2 : Int32), vi (1 : Int32)] [(.int lw)]))
    by_cases hc12_7 : lw = (0 : Int32)
    · refine cs (fun t k => xifYes X0 hc 12 32 d34_12 rfl ((if0 _ _).trans (teq hc12_7).1) (xaloadN X0 hc d34_32 rfl rfl (xiloadN X0 hc d34_33 rfl k))) ?_
      refine Comes.ldJ X0 hx hZ e0 G0 rfl rfl (x := tc) rfl (hb hby d34_34) ?_
      refine cs (fun t k => xaloadN X0 hc d34_35 rfl rfl (xiload X0 hc d34_36 rfl k)) ?_
      refine Comes.ldJ X0 hx hZ e0 G0 rfl rfl (x := tb) rfl (hb hby d34_38) ?_
      refine cs (fun t k => XS.lcmp X0.here hx rfl (hb hby d34_39) rfl k) ?_
      have hc40_10 : ¬ (tb < tc) := by exact own_n2 G2 hc8_3 hc12_7
      refine cs (fun t k => xifYes X0 hc 40 47 d34_40 rfl ((if0 _ _).trans (flt (fun q => hc40_10 ((lw_gt _ _).mp q))).2.2.2) (xiconst X0 hc d34_47 k)) ?_
      show Comes p e below _ (s₁.setTop (mkF m 48 #[vi lw, vr tr, vr nr, vi (2 : Int32), vi (1 : Int32)] [(.int (0 : Int32))]))
      show Comes p e below _ (s₁.setTop (mkF m 48 #[vi lw, vr tr, vr nr, vi (2 : Int32), vi (1 : Int32)] [(.int (0 : Int32))]))
      exact Comes.retN X0 hx (t := .boolean) hret (by simp) hlk (hb hby d34_48) e0 ⟨rfl, N0, rfl⟩ dd dd
    · refine cs (fun t k => xifNo X0 hc d34_12 rfl ((if0 _ _).trans (feq hc12_7).1) (xaloadN X0 hc d34_15 rfl rfl (xiloadN X0 hc d34_16 rfl k))) ?_
      refine Comes.ldJ X0 hx hZ e0 G0 rfl rfl (x := tc) rfl (hb hby d34_17) ?_
      refine cs (fun t k => xaloadN X0 hc d34_18 rfl rfl (xiload X0 hc d34_19 rfl k)) ?_
      refine Comes.ldJ X0 hx hZ e0 G0 rfl rfl (x := tb) rfl (hb hby d34_21) ?_
      refine cs (fun t k => XS.lcmp X0.here hx rfl (hb hby d34_22) rfl k) ?_
      have hc23_13 : ¬ (tc < tb) := by exact own_n1 G2 hc8_3 hc12_7
      refine cs (fun t k => xifYes X0 hc 23 30 d34_23 rfl ((if0 _ _).trans (flt (fun q => hc23_13 ((lw_lt _ _).mp q))).2.1) (xiconst X0 hc d34_30 k)) ?_
      show Comes p e below _ (s₁.setTop (mkF m 31 #[vi lw, vr tr, vr nr, vi (2 : Int32), vi (1 : Int32)] [(.int (0 : Int32))]))
      show Comes p e below _ (s₁.setTop (mkF m 31 #[vi lw, vr tr, vr nr, vi (2 : Int32), vi (1 : Int32)] [(.int (0 : Int32))]))
      exact Comes.retN X0 hx (t := .boolean) hret (by simp) hlk (hb hby d34_31) e0 ⟨rfl, N0, rfl⟩ dd dd
def Q_pick_0_m_ (Z : State) (lw : Int32) (tr nr : Nat) (k1 k2 : ClassId) (ta tb tc ua ub uc : Int64) (h0 : Heap) (n0 : Nat) (v_ : Option Value) (h : Heap) (L_ : List Loc) : Prop := (v_ = some (.int (-1 : Int32))) ∧ (Fr n0 L_) ∧ (h = h0)
theorem pick_0_m_ (l : Launch) (Z : State) (a0 : Array Value) (hw : ∀ d ∈ tables_1, d.before a0 Z = true) (ws : List Jvm.Cond) (lw : Int32) (tr nr : Nat) (k1 k2 : ClassId) (ta tb tc ua ub uc : Int64) (h0 : Heap) (n0 : Nat) (Z0 : n0 ≤ h0.size) (G0 : Arv Z h0 tr k1 .long (3 : Int32) [(.long ta), (.long tb), (.long tc)] (.long (0 : Int64))) (G1 : Arv Z h0 nr k2 .long (3 : Int32) [(.long ua), (.long ub), (.long uc)] (.long (0 : Int64))) :
    Con l Z y13 method_4_code 6 (some .int) ws (Rm 0 0 0 0) #[(.int lw), (.ref tr), (.ref nr), (.int (0 : Int32)), (.int (-1 : Int32))] h0 (Q_pick_0_m_ Z lw tr nr k1 k2 ta tb tc ua ub uc h0 n0) := by
  refine Con.of (plainFor_of_name pn_13) fun p e s m below meth c s₁ hx hby hml hZ hown hnm hlk hret X0 e0 => ?_
  have N0 := Fr.nil n0
  have hc := And.intro hx hby
  refine Comes.cast (ef_pick_0_m_ m lw tr nr) ?_
  have lt_tr : tr < h0.size := G0.lt
  have lt_nr : nr < h0.size := G1.lt
  refine cs (fun t k => xiconst X0 hc d13_0 (xistore X0 hc d13_1 rfl rfl (xiconst X0 hc d13_3 (xiloadN X0 hc d13_4 rfl k)))) ?_
  refine cs (fun t k => xicmpYes X0 hc 5 17 d13_5 rfl (flt dd).2.1 (xiconst X0 hc d13_17 (xiloadN X0 hc d13_18 rfl k))) ?_
  refine cs (fun t k => xicmpYes X0 hc 19 48 d13_19 rfl (flt dd).2.1 (xiconst X0 hc d13_48 (xiloadN X0 hc d13_49 rfl k))) ?_
  show Comes p e below _ (s₁.setTop (mkF m 50 #[vi lw, vr tr, vr nr, vi (0 : Int32), vi (-1 : Int32), vi (-1 : Int32)] [(.int (0 : Int32)), (.int (2 : Int32))]))
  refine cs (fun t k => xicmpYes X0 hc 50 79 d13_50 rfl (flt dd).2.1 (xiload X0 hc d13_79 rfl k)) ?_
  show Comes p e below _ (s₁.setTop (mkF m 81 #[vi lw, vr tr, vr nr, vi (0 : Int32), vi (-1 : Int32), vi (-1 : Int32)] [(.int (-1 : Int32))]))
  exact Comes.retV X0 hx hret rfl (Or.inl ⟨rfl, Or.inl rfl, _, rfl⟩) hlk (hb hby d13_81) e0 ⟨rfl, N0, rfl⟩ dd dd
def Q_pick_1_m_ (Z : State) (lw : Int32) (tr nr : Nat) (k1 k2 : ClassId) (ta tb tc ua ub uc : Int64) (h0 : Heap) (n0 : Nat) (v_ : Option Value) (h : Heap) (L_ : List Loc) : Prop := (v_ = some (.int (0 : Int32))) ∧ (Fr n0 L_) ∧ (h = h0)
theorem pick_1_m_ (l : Launch) (Z : State) (a0 : Array Value) (hw : ∀ d ∈ tables_1, d.before a0 Z = true) (ws : List Jvm.Cond) (lw : Int32) (tr nr : Nat) (k1 k2 : ClassId) (ta tb tc ua ub uc : Int64) (h0 : Heap) (n0 : Nat) (Z0 : n0 ≤ h0.size) (G0 : Arv Z h0 tr k1 .long (3 : Int32) [(.long ta), (.long tb), (.long tc)] (.long (0 : Int64))) (G1 : Arv Z h0 nr k2 .long (3 : Int32) [(.long ua), (.long ub), (.long uc)] (.long (0 : Int64))) :
    Con l Z y13 method_4_code 6 (some .int) ws (Rm 0 0 0 0) #[(.int lw), (.ref tr), (.ref nr), (.int (1 : Int32)), (.int (-1 : Int32))] h0 (Q_pick_1_m_ Z lw tr nr k1 k2 ta tb tc ua ub uc h0 n0) := by
  refine Con.of (plainFor_of_name pn_13) fun p e s m below meth c s₁ hx hby hml hZ hown hnm hlk hret X0 e0 => ?_
  have N0 := Fr.nil n0
  have hc := And.intro hx hby
  refine Comes.cast (ef_pick_1_m_ m lw tr nr) ?_
  have lt_tr : tr < h0.size := G0.lt
  have lt_nr : nr < h0.size := G1.lt
  refine cs (fun t k => xiconst X0 hc d13_0 (xistore X0 hc d13_1 rfl rfl (xiconst X0 hc d13_3 (xiloadN X0 hc d13_4 rfl k)))) ?_
  refine cs (fun t k => xicmpNo X0 hc d13_5 rfl (tlt dd).2.1 (xiconst X0 hc d13_8 (xiload X0 hc d13_9 rfl k))) ?_
  refine cs (fun t k => xicmpNo X0 hc d13_11 rfl (feq dd).1 (xiconst X0 hc d13_14 (xistore X0 hc d13_15 rfl rfl (xiconst X0 hc d13_17 (xiloadN X0 hc d13_18 rfl k))))) ?_
  show Comes p e below _ (s₁.setTop (mkF m 19 #[vi lw, vr tr, vr nr, vi (1 : Int32), vi (-1 : Int32), vi (0 : Int32)] [(.int (1 : Int32)), (.int (1 : Int32))]))
  refine cs (fun t k => xicmpYes X0 hc 19 48 d13_19 rfl (flt dd).2.1 (xiconst X0 hc d13_48 (xiloadN X0 hc d13_49 rfl k))) ?_
  refine cs (fun t k => xicmpYes X0 hc 50 79 d13_50 rfl (flt dd).2.1 (xiload X0 hc d13_79 rfl k)) ?_
  show Comes p e below _ (s₁.setTop (mkF m 81 #[vi lw, vr tr, vr nr, vi (1 : Int32), vi (-1 : Int32), vi (0 : Int32)] [(.int (0 : Int32))]))
  exact Comes.retV X0 hx hret rfl (Or.inl ⟨rfl, Or.inl rfl, _, rfl⟩) hlk (hb hby d13_81) e0 ⟨rfl, N0, rfl⟩ dd dd
def Q_pick_1_0_ (Z : State) (lw : Int32) (tr nr : Nat) (k1 k2 : ClassId) (ta tb tc ua ub uc : Int64) (h0 : Heap) (n0 : Nat) (v_ : Option Value) (h : Heap) (L_ : List Loc) : Prop := (v_ = some (.int (-1 : Int32))) ∧ (Fr n0 L_) ∧ (h = h0)
theorem pick_1_0_ (l : Launch) (Z : State) (a0 : Array Value) (hw : ∀ d ∈ tables_1, d.before a0 Z = true) (ws : List Jvm.Cond) (lw : Int32) (tr nr : Nat) (k1 k2 : ClassId) (ta tb tc ua ub uc : Int64) (h0 : Heap) (n0 : Nat) (Z0 : n0 ≤ h0.size) (G0 : Arv Z h0 tr k1 .long (3 : Int32) [(.long ta), (.long tb), (.long tc)] (.long (0 : Int64))) (G1 : Arv Z h0 nr k2 .long (3 : Int32) [(.long ua), (.long ub), (.long uc)] (.long (0 : Int64))) :
    Con l Z y13 method_4_code 6 (some .int) ws (Rm 0 0 0 0) #[(.int lw), (.ref tr), (.ref nr), (.int (1 : Int32)), (.int (0 : Int32))] h0 (Q_pick_1_0_ Z lw tr nr k1 k2 ta tb tc ua ub uc h0 n0) := by
  refine Con.of (plainFor_of_name pn_13) fun p e s m below meth c s₁ hx hby hml hZ hown hnm hlk hret X0 e0 => ?_
  have N0 := Fr.nil n0
  have hc := And.intro hx hby
  refine Comes.cast (ef_pick_1_0_ m lw tr nr) ?_
  have lt_tr : tr < h0.size := G0.lt
  have lt_nr : nr < h0.size := G1.lt
  refine cs (fun t k => xiconst X0 hc d13_0 (xistore X0 hc d13_1 rfl rfl (xiconst X0 hc d13_3 (xiloadN X0 hc d13_4 rfl k)))) ?_
  refine cs (fun t k => xicmpNo X0 hc d13_5 rfl (tlt dd).2.1 (xiconst X0 hc d13_8 (xiload X0 hc d13_9 rfl k))) ?_
  refine cs (fun t k => xicmpYes X0 hc 11 17 d13_11 rfl (teq dd).1 (xiconst X0 hc d13_17 (xiloadN X0 hc d13_18 rfl k))) ?_
  show Comes p e below _ (s₁.setTop (mkF m 19 #[vi lw, vr tr, vr nr, vi (1 : Int32), vi (0 : Int32), vi (-1 : Int32)] [(.int (1 : Int32)), (.int (1 : Int32))]))
  refine cs (fun t k => xicmpYes X0 hc 19 48 d13_19 rfl (flt dd).2.1 (xiconst X0 hc d13_48 (xiloadN X0 hc d13_49 rfl k))) ?_
  refine cs (fun t k => xicmpYes X0 hc 50 79 d13_50 rfl (flt dd).2.1 (xiload X0 hc d13_79 rfl k)) ?_
  show Comes p e below _ (s₁.setTop (mkF m 81 #[vi lw, vr tr, vr nr, vi (1 : Int32), vi (0 : Int32), vi (-1 : Int32)] [(.int (-1 : Int32))]))
  exact Comes.retV X0 hx hret rfl (Or.inl ⟨rfl, Or.inl rfl, _, rfl⟩) hlk (hb hby d13_81) e0 ⟨rfl, N0, rfl⟩ dd dd
def Q_pick_2_m_F (Z : State) (lw : Int32) (tr nr : Nat) (k1 k2 : ClassId) (ta tb tc ua ub uc : Int64) (h0 : Heap) (n0 : Nat) (v_ : Option Value) (h : Heap) (L_ : List Loc) : Prop := (v_ = some (.int (0 : Int32))) ∧ (Fr n0 L_) ∧ (h = h0)
theorem pick_2_m_F (l : Launch) (Z : State) (a0 : Array Value) (hw : ∀ d ∈ tables_1, d.before a0 Z = true) (ws : List Jvm.Cond) (lw : Int32) (tr nr : Nat) (k1 k2 : ClassId) (ta tb tc ua ub uc : Int64) (h0 : Heap) (n0 : Nat) (Z0 : n0 ≤ h0.size) (G0 : Arv Z h0 tr k1 .long (3 : Int32) [(.long ta), (.long tb), (.long tc)] (.long (0 : Int64))) (G1 : Arv Z h0 nr k2 .long (3 : Int32) [(.long ua), (.long ub), (.long uc)] (.long (0 : Int64))) (G2 : ¬ ((¬ tb = ta ∧ ¬ lw = (0 : Int32) ∧ tb < ta) ∨ (¬ tb = ta ∧ lw = (0 : Int32) ∧ ta < tb) ∨ (tb = ta ∧ ub < ua))) :
    Con l Z y13 method_4_code 6 (some .int) ws (Rm 1 0 0 16) #[(.int lw), (.ref tr), (.ref nr), (.int (2 : Int32)), (.int (-1 : Int32))] h0 (Q_pick_2_m_F Z lw tr nr k1 k2 ta tb tc ua ub uc h0 n0) := by
  refine Con.of (plainFor_of_name pn_13) fun p e s m below meth c s₁ hx hby hml hZ hown hnm hlk hret X0 e0 => ?_
  have N0 := Fr.nil n0
  have hc := And.intro hx hby
  refine Comes.cast (ef_pick_2_m_F m lw tr nr) ?_
  have lt_tr : tr < h0.size := G0.lt
  have lt_nr : nr < h0.size := G1.lt
  refine cs (fun t k => xiconst X0 hc d13_0 (xistore X0 hc d13_1 rfl rfl (xiconst X0 hc d13_3 (xiloadN X0 hc d13_4 rfl k)))) ?_
  refine cs (fun t k => xicmpNo X0 hc d13_5 rfl (tlt dd).2.1 (xiconst X0 hc d13_8 (xiload X0 hc d13_9 rfl k))) ?_
  refine cs (fun t k => xicmpNo X0 hc d13_11 rfl (feq dd).1 (xiconst X0 hc d13_14 (xistore X0 hc d13_15 rfl rfl (xiconst X0 hc d13_17 (xiloadN X0 hc d13_18 rfl k))))) ?_
  show Comes p e below _ (s₁.setTop (mkF m 19 #[vi lw, vr tr, vr nr, vi (2 : Int32), vi (-1 : Int32), vi (0 : Int32)] [(.int (2 : Int32)), (.int (1 : Int32))]))
  refine cs (fun t k => xicmpNo X0 hc d13_19 rfl (tlt dd).2.1 (xiconst X0 hc d13_22 (xiload X0 hc d13_23 rfl k))) ?_
  refine cs (fun t k => xicmpNo X0 hc d13_25 rfl (feq dd).1 (xiload X0 hc d13_28 rfl k)) ?_
  refine cs (fun t k => xifNo X0 hc d13_30 rfl ((if0 _ _).trans (flt dd).1) (xiloadN X0 hc d13_33 rfl (xaloadN X0 hc d13_34 rfl rfl (xaloadN X0 hc d13_35 rfl rfl (xiconst X0 hc d13_36 (xiload X0 hc d13_37 rfl k)))))) ?_
  show Comes p e below _ (s₁.setTop (mkF m 39 #[vi lw, vr tr, vr nr, vi (2 : Int32), vi (-1 : Int32), vi (0 : Int32)] [(.int (0 : Int32)), (.int (1 : Int32)), (.ref nr), (.ref tr), (.int lw)]))
  refine Comes.cS X0 hx hZ hown (y := y34) (W := 0) (W hw 231) (W hw 232) dd (W hw 233) (bt_10F l Z a0 hw [] lw tr nr k1 k2 ta tb tc ua ub uc h0 n0 (by omega)  G0 G1 (by assumption)) (W hw 114) dd dd e0 rfl (by rw [hml]; rfl) (argsL := [(.int lw), (.ref tr), (.ref nr), (.int (1 : Int32)), (.int (0 : Int32))]) (rest := []) (lenOf pd_14 rfl) rfl (wle rfl) (hb hby d13_39) rfl dd dd fun v6 T6 L6 hQ6 X6 => ?_
  obtain ⟨rfl, Nq6, hs6⟩ := hQ6
  have N6 := Fr.app N0 Nq6
  refine cs (fun t k => xifYes X6 hc 42 48 d13_42 rfl ((if0 _ _).trans (teq dd).1) (xiconst X6 hc d13_48 (xiloadN X6 hc d13_49 rfl k))) ?_
  refine cs (fun t k => xicmpYes X6 hc 50 79 d13_50 rfl (flt dd).2.1 (xiload X6 hc d13_79 rfl k)) ?_
  show Comes p e below _ (T6.setTop (mkF m 81 #[vi lw, vr tr, vr nr, vi (2 : Int32), vi (-1 : Int32), vi (0 : Int32)] [(.int (0 : Int32))]))
  exact Comes.retV X6 hx hret rfl (Or.inl ⟨rfl, Or.inl rfl, _, rfl⟩) hlk (hb hby d13_81) hs6 ⟨rfl, N6, rfl⟩ dd dd
def Q_pick_2_m_T (Z : State) (lw : Int32) (tr nr : Nat) (k1 k2 : ClassId) (ta tb tc ua ub uc : Int64) (h0 : Heap) (n0 : Nat) (v_ : Option Value) (h : Heap) (L_ : List Loc) : Prop := (v_ = some (.int (1 : Int32))) ∧ (Fr n0 L_) ∧ (h = h0)
theorem pick_2_m_T (l : Launch) (Z : State) (a0 : Array Value) (hw : ∀ d ∈ tables_1, d.before a0 Z = true) (ws : List Jvm.Cond) (lw : Int32) (tr nr : Nat) (k1 k2 : ClassId) (ta tb tc ua ub uc : Int64) (h0 : Heap) (n0 : Nat) (Z0 : n0 ≤ h0.size) (G0 : Arv Z h0 tr k1 .long (3 : Int32) [(.long ta), (.long tb), (.long tc)] (.long (0 : Int64))) (G1 : Arv Z h0 nr k2 .long (3 : Int32) [(.long ua), (.long ub), (.long uc)] (.long (0 : Int64))) (G2 : ((¬ tb = ta ∧ ¬ lw = (0 : Int32) ∧ tb < ta) ∨ (¬ tb = ta ∧ lw = (0 : Int32) ∧ ta < tb) ∨ (tb = ta ∧ ub < ua))) :
    Con l Z y13 method_4_code 6 (some .int) ws (Rm 1 0 0 16) #[(.int lw), (.ref tr), (.ref nr), (.int (2 : Int32)), (.int (-1 : Int32))] h0 (Q_pick_2_m_T Z lw tr nr k1 k2 ta tb tc ua ub uc h0 n0) := by
  refine Con.of (plainFor_of_name pn_13) fun p e s m below meth c s₁ hx hby hml hZ hown hnm hlk hret X0 e0 => ?_
  have N0 := Fr.nil n0
  have hc := And.intro hx hby
  refine Comes.cast (ef_pick_2_m_F m lw tr nr) ?_
  have lt_tr : tr < h0.size := G0.lt
  have lt_nr : nr < h0.size := G1.lt
  refine cs (fun t k => xiconst X0 hc d13_0 (xistore X0 hc d13_1 rfl rfl (xiconst X0 hc d13_3 (xiloadN X0 hc d13_4 rfl k)))) ?_
  refine cs (fun t k => xicmpNo X0 hc d13_5 rfl (tlt dd).2.1 (xiconst X0 hc d13_8 (xiload X0 hc d13_9 rfl k))) ?_
  refine cs (fun t k => xicmpNo X0 hc d13_11 rfl (feq dd).1 (xiconst X0 hc d13_14 (xistore X0 hc d13_15 rfl rfl (xiconst X0 hc d13_17 (xiloadN X0 hc d13_18 rfl k))))) ?_
  show Comes p e below _ (s₁.setTop (mkF m 19 #[vi lw, vr tr, vr nr, vi (2 : Int32), vi (-1 : Int32), vi (0 : Int32)] [(.int (2 : Int32)), (.int (1 : Int32))]))
  refine cs (fun t k => xicmpNo X0 hc d13_19 rfl (tlt dd).2.1 (xiconst X0 hc d13_22 (xiload X0 hc d13_23 rfl k))) ?_
  refine cs (fun t k => xicmpNo X0 hc d13_25 rfl (feq dd).1 (xiload X0 hc d13_28 rfl k)) ?_
  refine cs (fun t k => xifNo X0 hc d13_30 rfl ((if0 _ _).trans (flt dd).1) (xiloadN X0 hc d13_33 rfl (xaloadN X0 hc d13_34 rfl rfl (xaloadN X0 hc d13_35 rfl rfl (xiconst X0 hc d13_36 (xiload X0 hc d13_37 rfl k)))))) ?_
  show Comes p e below _ (s₁.setTop (mkF m 39 #[vi lw, vr tr, vr nr, vi (2 : Int32), vi (-1 : Int32), vi (0 : Int32)] [(.int (0 : Int32)), (.int (1 : Int32)), (.ref nr), (.ref tr), (.int lw)]))
  refine Comes.cS X0 hx hZ hown (y := y34) (W := 0) (W hw 231) (W hw 232) dd (W hw 233) (bt_10T l Z a0 hw [] lw tr nr k1 k2 ta tb tc ua ub uc h0 n0 (by omega)  G0 G1 (by assumption)) (W hw 114) dd dd e0 rfl (by rw [hml]; rfl) (argsL := [(.int lw), (.ref tr), (.ref nr), (.int (1 : Int32)), (.int (0 : Int32))]) (rest := []) (lenOf pd_14 rfl) rfl (wle rfl) (hb hby d13_39) rfl dd dd fun v6 T6 L6 hQ6 X6 => ?_
  obtain ⟨rfl, Nq6, hs6⟩ := hQ6
  have N6 := Fr.app N0 Nq6
  refine cs (fun t k => xifNo X6 hc d13_42 rfl ((if0 _ _).trans (feq dd).1) (xiconst X6 hc d13_45 (xistore X6 hc d13_46 rfl rfl (xiconst X6 hc d13_48 (xiloadN X6 hc d13_49 rfl k))))) ?_
  refine cs (fun t k => xicmpYes X6 hc 50 79 d13_50 rfl (flt dd).2.1 (xiload X6 hc d13_79 rfl k)) ?_
  show Comes p e below _ (T6.setTop (mkF m 81 #[vi lw, vr tr, vr nr, vi (2 : Int32), vi (-1 : Int32), vi (1 : Int32)] [(.int (1 : Int32))]))
  show Comes p e below _ (T6.setTop (mkF m 81 #[vi lw, vr tr, vr nr, vi (2 : Int32), vi (-1 : Int32), vi (1 : Int32)] [(.int (1 : Int32))]))
  exact Comes.retV X6 hx hret rfl (Or.inl ⟨rfl, Or.inl rfl, _, rfl⟩) hlk (hb hby d13_81) hs6 ⟨rfl, N6, rfl⟩ dd dd
def Q_pick_2_0_ (Z : State) (lw : Int32) (tr nr : Nat) (k1 k2 : ClassId) (ta tb tc ua ub uc : Int64) (h0 : Heap) (n0 : Nat) (v_ : Option Value) (h : Heap) (L_ : List Loc) : Prop := (v_ = some (.int (1 : Int32))) ∧ (Fr n0 L_) ∧ (h = h0)
theorem pick_2_0_ (l : Launch) (Z : State) (a0 : Array Value) (hw : ∀ d ∈ tables_1, d.before a0 Z = true) (ws : List Jvm.Cond) (lw : Int32) (tr nr : Nat) (k1 k2 : ClassId) (ta tb tc ua ub uc : Int64) (h0 : Heap) (n0 : Nat) (Z0 : n0 ≤ h0.size) (G0 : Arv Z h0 tr k1 .long (3 : Int32) [(.long ta), (.long tb), (.long tc)] (.long (0 : Int64))) (G1 : Arv Z h0 nr k2 .long (3 : Int32) [(.long ua), (.long ub), (.long uc)] (.long (0 : Int64))) :
    Con l Z y13 method_4_code 6 (some .int) ws (Rm 0 0 0 0) #[(.int lw), (.ref tr), (.ref nr), (.int (2 : Int32)), (.int (0 : Int32))] h0 (Q_pick_2_0_ Z lw tr nr k1 k2 ta tb tc ua ub uc h0 n0) := by
  refine Con.of (plainFor_of_name pn_13) fun p e s m below meth c s₁ hx hby hml hZ hown hnm hlk hret X0 e0 => ?_
  have N0 := Fr.nil n0
  have hc := And.intro hx hby
  refine Comes.cast (ef_pick_2_0_ m lw tr nr) ?_
  have lt_tr : tr < h0.size := G0.lt
  have lt_nr : nr < h0.size := G1.lt
  refine cs (fun t k => xiconst X0 hc d13_0 (xistore X0 hc d13_1 rfl rfl (xiconst X0 hc d13_3 (xiloadN X0 hc d13_4 rfl k)))) ?_
  refine cs (fun t k => xicmpNo X0 hc d13_5 rfl (tlt dd).2.1 (xiconst X0 hc d13_8 (xiload X0 hc d13_9 rfl k))) ?_
  refine cs (fun t k => xicmpYes X0 hc 11 17 d13_11 rfl (teq dd).1 (xiconst X0 hc d13_17 (xiloadN X0 hc d13_18 rfl k))) ?_
  show Comes p e below _ (s₁.setTop (mkF m 19 #[vi lw, vr tr, vr nr, vi (2 : Int32), vi (0 : Int32), vi (-1 : Int32)] [(.int (2 : Int32)), (.int (1 : Int32))]))
  refine cs (fun t k => xicmpNo X0 hc d13_19 rfl (tlt dd).2.1 (xiconst X0 hc d13_22 (xiload X0 hc d13_23 rfl k))) ?_
  refine cs (fun t k => xicmpNo X0 hc d13_25 rfl (feq dd).1 (xiload X0 hc d13_28 rfl k)) ?_
  refine cs (fun t k => xifYes X0 hc 30 45 d13_30 rfl ((if0 _ _).trans (tlt dd).1) (xiconst X0 hc d13_45 (xistore X0 hc d13_46 rfl rfl (xiconst X0 hc d13_48 (xiloadN X0 hc d13_49 rfl k))))) ?_
  show Comes p e below _ (s₁.setTop (mkF m 50 #[vi lw, vr tr, vr nr, vi (2 : Int32), vi (0 : Int32), vi (1 : Int32)] [(.int (2 : Int32)), (.int (2 : Int32))]))
  refine cs (fun t k => xicmpYes X0 hc 50 79 d13_50 rfl (flt dd).2.1 (xiload X0 hc d13_79 rfl k)) ?_
  show Comes p e below _ (s₁.setTop (mkF m 81 #[vi lw, vr tr, vr nr, vi (2 : Int32), vi (0 : Int32), vi (1 : Int32)] [(.int (1 : Int32))]))
  exact Comes.retV X0 hx hret rfl (Or.inl ⟨rfl, Or.inl rfl, _, rfl⟩) hlk (hb hby d13_81) e0 ⟨rfl, N0, rfl⟩ dd dd
def Q_pick_2_1_ (Z : State) (lw : Int32) (tr nr : Nat) (k1 k2 : ClassId) (ta tb tc ua ub uc : Int64) (h0 : Heap) (n0 : Nat) (v_ : Option Value) (h : Heap) (L_ : List Loc) : Prop := (v_ = some (.int (0 : Int32))) ∧ (Fr n0 L_) ∧ (h = h0)
theorem pick_2_1_ (l : Launch) (Z : State) (a0 : Array Value) (hw : ∀ d ∈ tables_1, d.before a0 Z = true) (ws : List Jvm.Cond) (lw : Int32) (tr nr : Nat) (k1 k2 : ClassId) (ta tb tc ua ub uc : Int64) (h0 : Heap) (n0 : Nat) (Z0 : n0 ≤ h0.size) (G0 : Arv Z h0 tr k1 .long (3 : Int32) [(.long ta), (.long tb), (.long tc)] (.long (0 : Int64))) (G1 : Arv Z h0 nr k2 .long (3 : Int32) [(.long ua), (.long ub), (.long uc)] (.long (0 : Int64))) :
    Con l Z y13 method_4_code 6 (some .int) ws (Rm 0 0 0 0) #[(.int lw), (.ref tr), (.ref nr), (.int (2 : Int32)), (.int (1 : Int32))] h0 (Q_pick_2_1_ Z lw tr nr k1 k2 ta tb tc ua ub uc h0 n0) := by
  refine Con.of (plainFor_of_name pn_13) fun p e s m below meth c s₁ hx hby hml hZ hown hnm hlk hret X0 e0 => ?_
  have N0 := Fr.nil n0
  have hc := And.intro hx hby
  refine Comes.cast (ef_pick_2_1_ m lw tr nr) ?_
  have lt_tr : tr < h0.size := G0.lt
  have lt_nr : nr < h0.size := G1.lt
  refine cs (fun t k => xiconst X0 hc d13_0 (xistore X0 hc d13_1 rfl rfl (xiconst X0 hc d13_3 (xiloadN X0 hc d13_4 rfl k)))) ?_
  refine cs (fun t k => xicmpNo X0 hc d13_5 rfl (tlt dd).2.1 (xiconst X0 hc d13_8 (xiload X0 hc d13_9 rfl k))) ?_
  refine cs (fun t k => xicmpNo X0 hc d13_11 rfl (feq dd).1 (xiconst X0 hc d13_14 (xistore X0 hc d13_15 rfl rfl (xiconst X0 hc d13_17 (xiloadN X0 hc d13_18 rfl k))))) ?_
  show Comes p e below _ (s₁.setTop (mkF m 19 #[vi lw, vr tr, vr nr, vi (2 : Int32), vi (1 : Int32), vi (0 : Int32)] [(.int (2 : Int32)), (.int (1 : Int32))]))
  refine cs (fun t k => xicmpNo X0 hc d13_19 rfl (tlt dd).2.1 (xiconst X0 hc d13_22 (xiload X0 hc d13_23 rfl k))) ?_
  refine cs (fun t k => xicmpYes X0 hc 25 48 d13_25 rfl (teq dd).1 (xiconst X0 hc d13_48 (xiloadN X0 hc d13_49 rfl k))) ?_
  refine cs (fun t k => xicmpYes X0 hc 50 79 d13_50 rfl (flt dd).2.1 (xiload X0 hc d13_79 rfl k)) ?_
  show Comes p e below _ (s₁.setTop (mkF m 81 #[vi lw, vr tr, vr nr, vi (2 : Int32), vi (1 : Int32), vi (0 : Int32)] [(.int (0 : Int32))]))
  exact Comes.retV X0 hx hret rfl (Or.inl ⟨rfl, Or.inl rfl, _, rfl⟩) hlk (hb hby d13_81) e0 ⟨rfl, N0, rfl⟩ dd dd
def Q_pick_3_m_FF (Z : State) (lw : Int32) (tr nr : Nat) (k1 k2 : ClassId) (ta tb tc ua ub uc : Int64) (h0 : Heap) (n0 : Nat) (v_ : Option Value) (h : Heap) (L_ : List Loc) : Prop := (v_ = some (.int (0 : Int32))) ∧ (Fr n0 L_) ∧ (h = h0)
theorem pick_3_m_FF (l : Launch) (Z : State) (a0 : Array Value) (hw : ∀ d ∈ tables_1, d.before a0 Z = true) (ws : List Jvm.Cond) (lw : Int32) (tr nr : Nat) (k1 k2 : ClassId) (ta tb tc ua ub uc : Int64) (h0 : Heap) (n0 : Nat) (Z0 : n0 ≤ h0.size) (G0 : Arv Z h0 tr k1 .long (3 : Int32) [(.long ta), (.long tb), (.long tc)] (.long (0 : Int64))) (G1 : Arv Z h0 nr k2 .long (3 : Int32) [(.long ua), (.long ub), (.long uc)] (.long (0 : Int64))) (G2 : ¬ ((¬ tb = ta ∧ ¬ lw = (0 : Int32) ∧ tb < ta) ∨ (¬ tb = ta ∧ lw = (0 : Int32) ∧ ta < tb) ∨ (tb = ta ∧ ub < ua))) (G3 : ¬ ((¬ tc = ta ∧ ¬ lw = (0 : Int32) ∧ tc < ta) ∨ (¬ tc = ta ∧ lw = (0 : Int32) ∧ ta < tc) ∨ (tc = ta ∧ uc < ua))) :
    Con l Z y13 method_4_code 6 (some .int) ws (Rm 1 0 0 16) #[(.int lw), (.ref tr), (.ref nr), (.int (3 : Int32)), (.int (-1 : Int32))] h0 (Q_pick_3_m_FF Z lw tr nr k1 k2 ta tb tc ua ub uc h0 n0) := by
  refine Con.of (plainFor_of_name pn_13) fun p e s m below meth c s₁ hx hby hml hZ hown hnm hlk hret X0 e0 => ?_
  have N0 := Fr.nil n0
  have hc := And.intro hx hby
  refine Comes.cast (ef_pick_3_m_FF m lw tr nr) ?_
  have lt_tr : tr < h0.size := G0.lt
  have lt_nr : nr < h0.size := G1.lt
  refine cs (fun t k => xiconst X0 hc d13_0 (xistore X0 hc d13_1 rfl rfl (xiconst X0 hc d13_3 (xiloadN X0 hc d13_4 rfl k)))) ?_
  refine cs (fun t k => xicmpNo X0 hc d13_5 rfl (tlt dd).2.1 (xiconst X0 hc d13_8 (xiload X0 hc d13_9 rfl k))) ?_
  refine cs (fun t k => xicmpNo X0 hc d13_11 rfl (feq dd).1 (xiconst X0 hc d13_14 (xistore X0 hc d13_15 rfl rfl (xiconst X0 hc d13_17 (xiloadN X0 hc d13_18 rfl k))))) ?_
  show Comes p e below _ (s₁.setTop (mkF m 19 #[vi lw, vr tr, vr nr, vi (3 : Int32), vi (-1 : Int32), vi (0 : Int32)] [(.int (3 : Int32)), (.int (1 : Int32))]))
  refine cs (fun t k => xicmpNo X0 hc d13_19 rfl (tlt dd).2.1 (xiconst X0 hc d13_22 (xiload X0 hc d13_23 rfl k))) ?_
  refine cs (fun t k => xicmpNo X0 hc d13_25 rfl (feq dd).1 (xiload X0 hc d13_28 rfl k)) ?_
  refine cs (fun t k => xifNo X0 hc d13_30 rfl ((if0 _ _).trans (flt dd).1) (xiloadN X0 hc d13_33 rfl (xaloadN X0 hc d13_34 rfl rfl (xaloadN X0 hc d13_35 rfl rfl (xiconst X0 hc d13_36 (xiload X0 hc d13_37 rfl k)))))) ?_
  show Comes p e below _ (s₁.setTop (mkF m 39 #[vi lw, vr tr, vr nr, vi (3 : Int32), vi (-1 : Int32), vi (0 : Int32)] [(.int (0 : Int32)), (.int (1 : Int32)), (.ref nr), (.ref tr), (.int lw)]))
  refine Comes.cS X0 hx hZ hown (y := y34) (W := 0) (W hw 231) (W hw 232) dd (W hw 233) (bt_10F l Z a0 hw [] lw tr nr k1 k2 ta tb tc ua ub uc h0 n0 (by omega)  G0 G1 (by assumption)) (W hw 114) dd dd e0 rfl (by rw [hml]; rfl) (argsL := [(.int lw), (.ref tr), (.ref nr), (.int (1 : Int32)), (.int (0 : Int32))]) (rest := []) (lenOf pd_14 rfl) rfl (wle rfl) (hb hby d13_39) rfl dd dd fun v6 T6 L6 hQ6 X6 => ?_
  obtain ⟨rfl, Nq6, hs6⟩ := hQ6
  have N6 := Fr.app N0 Nq6
  refine cs (fun t k => xifYes X6 hc 42 48 d13_42 rfl ((if0 _ _).trans (teq dd).1) (xiconst X6 hc d13_48 (xiloadN X6 hc d13_49 rfl k))) ?_
  refine cs (fun t k => xicmpNo X6 hc d13_50 rfl (tlt dd).2.1 (xiconst X6 hc d13_53 (xiload X6 hc d13_54 rfl k))) ?_
  refine cs (fun t k => xicmpNo X6 hc d13_56 rfl (feq dd).1 (xiload X6 hc d13_59 rfl k)) ?_
  show Comes p e below _ (T6.setTop (mkF m 61 #[vi lw, vr tr, vr nr, vi (3 : Int32), vi (-1 : Int32), vi (0 : Int32)] [(.int (0 : Int32))]))
  refine cs (fun t k => xifNo X6 hc d13_61 rfl ((if0 _ _).trans (flt dd).1) (xiloadN X6 hc d13_64 rfl (xaloadN X6 hc d13_65 rfl rfl (xaloadN X6 hc d13_66 rfl rfl (xiconst X6 hc d13_67 (xiload X6 hc d13_68 rfl k)))))) ?_
  refine Comes.cS X6 hx hZ hown (y := y34) (W := 0) (W hw 231) (W hw 232) dd (W hw 233) (bt_20F l Z a0 hw [] lw tr nr k1 k2 ta tb tc ua ub uc h0 n0 (by omega)  G0 G1 (by assumption)) (W hw 114) dd dd hs6 rfl (by rw [hml]; rfl) (argsL := [(.int lw), (.ref tr), (.ref nr), (.int (2 : Int32)), (.int (0 : Int32))]) (rest := []) (lenOf pd_14 rfl) rfl (wle rfl) (hb hby d13_70) rfl dd dd fun v11 T11 L11 hQ11 X11 => ?_
  obtain ⟨rfl, Nq11, hs11⟩ := hQ11
  have N11 := Fr.app N6 Nq11
  refine cs (fun t k => xifYes X11 hc 73 79 d13_73 rfl ((if0 _ _).trans (teq dd).1) (xiload X11 hc d13_79 rfl k)) ?_
  show Comes p e below _ (T11.setTop (mkF m 81 #[vi lw, vr tr, vr nr, vi (3 : Int32), vi (-1 : Int32), vi (0 : Int32)] [(.int (0 : Int32))]))
  show Comes p e below _ (T11.setTop (mkF m 81 #[vi lw, vr tr, vr nr, vi (3 : Int32), vi (-1 : Int32), vi (0 : Int32)] [(.int (0 : Int32))]))
  exact Comes.retV X11 hx hret rfl (Or.inl ⟨rfl, Or.inl rfl, _, rfl⟩) hlk (hb hby d13_81) hs11 ⟨rfl, N11, rfl⟩ dd dd
def Q_pick_3_m_TF (Z : State) (lw : Int32) (tr nr : Nat) (k1 k2 : ClassId) (ta tb tc ua ub uc : Int64) (h0 : Heap) (n0 : Nat) (v_ : Option Value) (h : Heap) (L_ : List Loc) : Prop := (v_ = some (.int (1 : Int32))) ∧ (Fr n0 L_) ∧ (h = h0)
theorem pick_3_m_TF (l : Launch) (Z : State) (a0 : Array Value) (hw : ∀ d ∈ tables_1, d.before a0 Z = true) (ws : List Jvm.Cond) (lw : Int32) (tr nr : Nat) (k1 k2 : ClassId) (ta tb tc ua ub uc : Int64) (h0 : Heap) (n0 : Nat) (Z0 : n0 ≤ h0.size) (G0 : Arv Z h0 tr k1 .long (3 : Int32) [(.long ta), (.long tb), (.long tc)] (.long (0 : Int64))) (G1 : Arv Z h0 nr k2 .long (3 : Int32) [(.long ua), (.long ub), (.long uc)] (.long (0 : Int64))) (G2 : ((¬ tb = ta ∧ ¬ lw = (0 : Int32) ∧ tb < ta) ∨ (¬ tb = ta ∧ lw = (0 : Int32) ∧ ta < tb) ∨ (tb = ta ∧ ub < ua))) (G3 : ¬ ((¬ tc = tb ∧ ¬ lw = (0 : Int32) ∧ tc < tb) ∨ (¬ tc = tb ∧ lw = (0 : Int32) ∧ tb < tc) ∨ (tc = tb ∧ uc < ub))) :
    Con l Z y13 method_4_code 6 (some .int) ws (Rm 1 0 0 16) #[(.int lw), (.ref tr), (.ref nr), (.int (3 : Int32)), (.int (-1 : Int32))] h0 (Q_pick_3_m_TF Z lw tr nr k1 k2 ta tb tc ua ub uc h0 n0) := by
  refine Con.of (plainFor_of_name pn_13) fun p e s m below meth c s₁ hx hby hml hZ hown hnm hlk hret X0 e0 => ?_
  have N0 := Fr.nil n0
  have hc := And.intro hx hby
  refine Comes.cast (ef_pick_3_m_FF m lw tr nr) ?_
  have lt_tr : tr < h0.size := G0.lt
  have lt_nr : nr < h0.size := G1.lt
  refine cs (fun t k => xiconst X0 hc d13_0 (xistore X0 hc d13_1 rfl rfl (xiconst X0 hc d13_3 (xiloadN X0 hc d13_4 rfl k)))) ?_
  refine cs (fun t k => xicmpNo X0 hc d13_5 rfl (tlt dd).2.1 (xiconst X0 hc d13_8 (xiload X0 hc d13_9 rfl k))) ?_
  refine cs (fun t k => xicmpNo X0 hc d13_11 rfl (feq dd).1 (xiconst X0 hc d13_14 (xistore X0 hc d13_15 rfl rfl (xiconst X0 hc d13_17 (xiloadN X0 hc d13_18 rfl k))))) ?_
  show Comes p e below _ (s₁.setTop (mkF m 19 #[vi lw, vr tr, vr nr, vi (3 : Int32), vi (-1 : Int32), vi (0 : Int32)] [(.int (3 : Int32)), (.int (1 : Int32))]))
  refine cs (fun t k => xicmpNo X0 hc d13_19 rfl (tlt dd).2.1 (xiconst X0 hc d13_22 (xiload X0 hc d13_23 rfl k))) ?_
  refine cs (fun t k => xicmpNo X0 hc d13_25 rfl (feq dd).1 (xiload X0 hc d13_28 rfl k)) ?_
  refine cs (fun t k => xifNo X0 hc d13_30 rfl ((if0 _ _).trans (flt dd).1) (xiloadN X0 hc d13_33 rfl (xaloadN X0 hc d13_34 rfl rfl (xaloadN X0 hc d13_35 rfl rfl (xiconst X0 hc d13_36 (xiload X0 hc d13_37 rfl k)))))) ?_
  show Comes p e below _ (s₁.setTop (mkF m 39 #[vi lw, vr tr, vr nr, vi (3 : Int32), vi (-1 : Int32), vi (0 : Int32)] [(.int (0 : Int32)), (.int (1 : Int32)), (.ref nr), (.ref tr), (.int lw)]))
  refine Comes.cS X0 hx hZ hown (y := y34) (W := 0) (W hw 231) (W hw 232) dd (W hw 233) (bt_10T l Z a0 hw [] lw tr nr k1 k2 ta tb tc ua ub uc h0 n0 (by omega)  G0 G1 (by assumption)) (W hw 114) dd dd e0 rfl (by rw [hml]; rfl) (argsL := [(.int lw), (.ref tr), (.ref nr), (.int (1 : Int32)), (.int (0 : Int32))]) (rest := []) (lenOf pd_14 rfl) rfl (wle rfl) (hb hby d13_39) rfl dd dd fun v6 T6 L6 hQ6 X6 => ?_
  obtain ⟨rfl, Nq6, hs6⟩ := hQ6
  have N6 := Fr.app N0 Nq6
  refine cs (fun t k => xifNo X6 hc d13_42 rfl ((if0 _ _).trans (feq dd).1) (xiconst X6 hc d13_45 (xistore X6 hc d13_46 rfl rfl (xiconst X6 hc d13_48 (xiloadN X6 hc d13_49 rfl k))))) ?_
  refine cs (fun t k => xicmpNo X6 hc d13_50 rfl (tlt dd).2.1 (xiconst X6 hc d13_53 (xiload X6 hc d13_54 rfl k))) ?_
  show Comes p e below _ (T6.setTop (mkF m 56 #[vi lw, vr tr, vr nr, vi (3 : Int32), vi (-1 : Int32), vi (1 : Int32)] [(.int (-1 : Int32)), (.int (2 : Int32))]))
  refine cs (fun t k => xicmpNo X6 hc d13_56 rfl (feq dd).1 (xiload X6 hc d13_59 rfl k)) ?_
  refine cs (fun t k => xifNo X6 hc d13_61 rfl ((if0 _ _).trans (flt dd).1) (xiloadN X6 hc d13_64 rfl (xaloadN X6 hc d13_65 rfl rfl (xaloadN X6 hc d13_66 rfl rfl (xiconst X6 hc d13_67 (xiload X6 hc d13_68 rfl k)))))) ?_
  refine Comes.cS X6 hx hZ hown (y := y34) (W := 0) (W hw 231) (W hw 232) dd (W hw 233) (bt_21F l Z a0 hw [] lw tr nr k1 k2 ta tb tc ua ub uc h0 n0 (by omega)  G0 G1 (by assumption)) (W hw 114) dd dd hs6 rfl (by rw [hml]; rfl) (argsL := [(.int lw), (.ref tr), (.ref nr), (.int (2 : Int32)), (.int (1 : Int32))]) (rest := []) (lenOf pd_14 rfl) rfl (wle rfl) (hb hby d13_70) rfl dd dd fun v11 T11 L11 hQ11 X11 => ?_
  obtain ⟨rfl, Nq11, hs11⟩ := hQ11
  have N11 := Fr.app N6 Nq11
  show Comes p e below _ (T11.setTop (mkF m 73 #[vi lw, vr tr, vr nr, vi (3 : Int32), vi (-1 : Int32), vi (1 : Int32)] [(.int (0 : Int32))]))
  refine cs (fun t k => xifYes X11 hc 73 79 d13_73 rfl ((if0 _ _).trans (teq dd).1) (xiload X11 hc d13_79 rfl k)) ?_
  show Comes p e below _ (T11.setTop (mkF m 81 #[vi lw, vr tr, vr nr, vi (3 : Int32), vi (-1 : Int32), vi (1 : Int32)] [(.int (1 : Int32))]))
  exact Comes.retV X11 hx hret rfl (Or.inl ⟨rfl, Or.inl rfl, _, rfl⟩) hlk (hb hby d13_81) hs11 ⟨rfl, N11, rfl⟩ dd dd
def Q_pick_3_m_FT (Z : State) (lw : Int32) (tr nr : Nat) (k1 k2 : ClassId) (ta tb tc ua ub uc : Int64) (h0 : Heap) (n0 : Nat) (v_ : Option Value) (h : Heap) (L_ : List Loc) : Prop := (v_ = some (.int (2 : Int32))) ∧ (Fr n0 L_) ∧ (h = h0)
theorem pick_3_m_FT (l : Launch) (Z : State) (a0 : Array Value) (hw : ∀ d ∈ tables_1, d.before a0 Z = true) (ws : List Jvm.Cond) (lw : Int32) (tr nr : Nat) (k1 k2 : ClassId) (ta tb tc ua ub uc : Int64) (h0 : Heap) (n0 : Nat) (Z0 : n0 ≤ h0.size) (G0 : Arv Z h0 tr k1 .long (3 : Int32) [(.long ta), (.long tb), (.long tc)] (.long (0 : Int64))) (G1 : Arv Z h0 nr k2 .long (3 : Int32) [(.long ua), (.long ub), (.long uc)] (.long (0 : Int64))) (G2 : ¬ ((¬ tb = ta ∧ ¬ lw = (0 : Int32) ∧ tb < ta) ∨ (¬ tb = ta ∧ lw = (0 : Int32) ∧ ta < tb) ∨ (tb = ta ∧ ub < ua))) (G3 : ((¬ tc = ta ∧ ¬ lw = (0 : Int32) ∧ tc < ta) ∨ (¬ tc = ta ∧ lw = (0 : Int32) ∧ ta < tc) ∨ (tc = ta ∧ uc < ua))) :
    Con l Z y13 method_4_code 6 (some .int) ws (Rm 1 0 0 16) #[(.int lw), (.ref tr), (.ref nr), (.int (3 : Int32)), (.int (-1 : Int32))] h0 (Q_pick_3_m_FT Z lw tr nr k1 k2 ta tb tc ua ub uc h0 n0) := by
  refine Con.of (plainFor_of_name pn_13) fun p e s m below meth c s₁ hx hby hml hZ hown hnm hlk hret X0 e0 => ?_
  have N0 := Fr.nil n0
  have hc := And.intro hx hby
  refine Comes.cast (ef_pick_3_m_FF m lw tr nr) ?_
  have lt_tr : tr < h0.size := G0.lt
  have lt_nr : nr < h0.size := G1.lt
  refine cs (fun t k => xiconst X0 hc d13_0 (xistore X0 hc d13_1 rfl rfl (xiconst X0 hc d13_3 (xiloadN X0 hc d13_4 rfl k)))) ?_
  refine cs (fun t k => xicmpNo X0 hc d13_5 rfl (tlt dd).2.1 (xiconst X0 hc d13_8 (xiload X0 hc d13_9 rfl k))) ?_
  refine cs (fun t k => xicmpNo X0 hc d13_11 rfl (feq dd).1 (xiconst X0 hc d13_14 (xistore X0 hc d13_15 rfl rfl (xiconst X0 hc d13_17 (xiloadN X0 hc d13_18 rfl k))))) ?_
  show Comes p e below _ (s₁.setTop (mkF m 19 #[vi lw, vr tr, vr nr, vi (3 : Int32), vi (-1 : Int32), vi (0 : Int32)] [(.int (3 : Int32)), (.int (1 : Int32))]))
  refine cs (fun t k => xicmpNo X0 hc d13_19 rfl (tlt dd).2.1 (xiconst X0 hc d13_22 (xiload X0 hc d13_23 rfl k))) ?_
  refine cs (fun t k => xicmpNo X0 hc d13_25 rfl (feq dd).1 (xiload X0 hc d13_28 rfl k)) ?_
  refine cs (fun t k => xifNo X0 hc d13_30 rfl ((if0 _ _).trans (flt dd).1) (xiloadN X0 hc d13_33 rfl (xaloadN X0 hc d13_34 rfl rfl (xaloadN X0 hc d13_35 rfl rfl (xiconst X0 hc d13_36 (xiload X0 hc d13_37 rfl k)))))) ?_
  show Comes p e below _ (s₁.setTop (mkF m 39 #[vi lw, vr tr, vr nr, vi (3 : Int32), vi (-1 : Int32), vi (0 : Int32)] [(.int (0 : Int32)), (.int (1 : Int32)), (.ref nr), (.ref tr), (.int lw)]))
  refine Comes.cS X0 hx hZ hown (y := y34) (W := 0) (W hw 231) (W hw 232) dd (W hw 233) (bt_10F l Z a0 hw [] lw tr nr k1 k2 ta tb tc ua ub uc h0 n0 (by omega)  G0 G1 (by assumption)) (W hw 114) dd dd e0 rfl (by rw [hml]; rfl) (argsL := [(.int lw), (.ref tr), (.ref nr), (.int (1 : Int32)), (.int (0 : Int32))]) (rest := []) (lenOf pd_14 rfl) rfl (wle rfl) (hb hby d13_39) rfl dd dd fun v6 T6 L6 hQ6 X6 => ?_
  obtain ⟨rfl, Nq6, hs6⟩ := hQ6
  have N6 := Fr.app N0 Nq6
  refine cs (fun t k => xifYes X6 hc 42 48 d13_42 rfl ((if0 _ _).trans (teq dd).1) (xiconst X6 hc d13_48 (xiloadN X6 hc d13_49 rfl k))) ?_
  refine cs (fun t k => xicmpNo X6 hc d13_50 rfl (tlt dd).2.1 (xiconst X6 hc d13_53 (xiload X6 hc d13_54 rfl k))) ?_
  refine cs (fun t k => xicmpNo X6 hc d13_56 rfl (feq dd).1 (xiload X6 hc d13_59 rfl k)) ?_
  show Comes p e below _ (T6.setTop (mkF m 61 #[vi lw, vr tr, vr nr, vi (3 : Int32), vi (-1 : Int32), vi (0 : Int32)] [(.int (0 : Int32))]))
  refine cs (fun t k => xifNo X6 hc d13_61 rfl ((if0 _ _).trans (flt dd).1) (xiloadN X6 hc d13_64 rfl (xaloadN X6 hc d13_65 rfl rfl (xaloadN X6 hc d13_66 rfl rfl (xiconst X6 hc d13_67 (xiload X6 hc d13_68 rfl k)))))) ?_
  refine Comes.cS X6 hx hZ hown (y := y34) (W := 0) (W hw 231) (W hw 232) dd (W hw 233) (bt_20T l Z a0 hw [] lw tr nr k1 k2 ta tb tc ua ub uc h0 n0 (by omega)  G0 G1 (by assumption)) (W hw 114) dd dd hs6 rfl (by rw [hml]; rfl) (argsL := [(.int lw), (.ref tr), (.ref nr), (.int (2 : Int32)), (.int (0 : Int32))]) (rest := []) (lenOf pd_14 rfl) rfl (wle rfl) (hb hby d13_70) rfl dd dd fun v11 T11 L11 hQ11 X11 => ?_
  obtain ⟨rfl, Nq11, hs11⟩ := hQ11
  have N11 := Fr.app N6 Nq11
  refine cs (fun t k => xifNo X11 hc d13_73 rfl ((if0 _ _).trans (feq dd).1) (xiconst X11 hc d13_76 (xistore X11 hc d13_77 rfl rfl (xiload X11 hc d13_79 rfl k)))) ?_
  show Comes p e below _ (T11.setTop (mkF m 81 #[vi lw, vr tr, vr nr, vi (3 : Int32), vi (-1 : Int32), vi (2 : Int32)] [(.int (2 : Int32))]))
  show Comes p e below _ (T11.setTop (mkF m 81 #[vi lw, vr tr, vr nr, vi (3 : Int32), vi (-1 : Int32), vi (2 : Int32)] [(.int (2 : Int32))]))
  exact Comes.retV X11 hx hret rfl (Or.inl ⟨rfl, Or.inl rfl, _, rfl⟩) hlk (hb hby d13_81) hs11 ⟨rfl, N11, rfl⟩ dd dd
def Q_pick_3_m_TT (Z : State) (lw : Int32) (tr nr : Nat) (k1 k2 : ClassId) (ta tb tc ua ub uc : Int64) (h0 : Heap) (n0 : Nat) (v_ : Option Value) (h : Heap) (L_ : List Loc) : Prop := (v_ = some (.int (2 : Int32))) ∧ (Fr n0 L_) ∧ (h = h0)
theorem pick_3_m_TT (l : Launch) (Z : State) (a0 : Array Value) (hw : ∀ d ∈ tables_1, d.before a0 Z = true) (ws : List Jvm.Cond) (lw : Int32) (tr nr : Nat) (k1 k2 : ClassId) (ta tb tc ua ub uc : Int64) (h0 : Heap) (n0 : Nat) (Z0 : n0 ≤ h0.size) (G0 : Arv Z h0 tr k1 .long (3 : Int32) [(.long ta), (.long tb), (.long tc)] (.long (0 : Int64))) (G1 : Arv Z h0 nr k2 .long (3 : Int32) [(.long ua), (.long ub), (.long uc)] (.long (0 : Int64))) (G2 : ((¬ tb = ta ∧ ¬ lw = (0 : Int32) ∧ tb < ta) ∨ (¬ tb = ta ∧ lw = (0 : Int32) ∧ ta < tb) ∨ (tb = ta ∧ ub < ua))) (G3 : ((¬ tc = tb ∧ ¬ lw = (0 : Int32) ∧ tc < tb) ∨ (¬ tc = tb ∧ lw = (0 : Int32) ∧ tb < tc) ∨ (tc = tb ∧ uc < ub))) :
    Con l Z y13 method_4_code 6 (some .int) ws (Rm 1 0 0 16) #[(.int lw), (.ref tr), (.ref nr), (.int (3 : Int32)), (.int (-1 : Int32))] h0 (Q_pick_3_m_TT Z lw tr nr k1 k2 ta tb tc ua ub uc h0 n0) := by
  refine Con.of (plainFor_of_name pn_13) fun p e s m below meth c s₁ hx hby hml hZ hown hnm hlk hret X0 e0 => ?_
  have N0 := Fr.nil n0
  have hc := And.intro hx hby
  refine Comes.cast (ef_pick_3_m_FF m lw tr nr) ?_
  have lt_tr : tr < h0.size := G0.lt
  have lt_nr : nr < h0.size := G1.lt
  refine cs (fun t k => xiconst X0 hc d13_0 (xistore X0 hc d13_1 rfl rfl (xiconst X0 hc d13_3 (xiloadN X0 hc d13_4 rfl k)))) ?_
  refine cs (fun t k => xicmpNo X0 hc d13_5 rfl (tlt dd).2.1 (xiconst X0 hc d13_8 (xiload X0 hc d13_9 rfl k))) ?_
  refine cs (fun t k => xicmpNo X0 hc d13_11 rfl (feq dd).1 (xiconst X0 hc d13_14 (xistore X0 hc d13_15 rfl rfl (xiconst X0 hc d13_17 (xiloadN X0 hc d13_18 rfl k))))) ?_
  show Comes p e below _ (s₁.setTop (mkF m 19 #[vi lw, vr tr, vr nr, vi (3 : Int32), vi (-1 : Int32), vi (0 : Int32)] [(.int (3 : Int32)), (.int (1 : Int32))]))
  refine cs (fun t k => xicmpNo X0 hc d13_19 rfl (tlt dd).2.1 (xiconst X0 hc d13_22 (xiload X0 hc d13_23 rfl k))) ?_
  refine cs (fun t k => xicmpNo X0 hc d13_25 rfl (feq dd).1 (xiload X0 hc d13_28 rfl k)) ?_
  refine cs (fun t k => xifNo X0 hc d13_30 rfl ((if0 _ _).trans (flt dd).1) (xiloadN X0 hc d13_33 rfl (xaloadN X0 hc d13_34 rfl rfl (xaloadN X0 hc d13_35 rfl rfl (xiconst X0 hc d13_36 (xiload X0 hc d13_37 rfl k)))))) ?_
  show Comes p e below _ (s₁.setTop (mkF m 39 #[vi lw, vr tr, vr nr, vi (3 : Int32), vi (-1 : Int32), vi (0 : Int32)] [(.int (0 : Int32)), (.int (1 : Int32)), (.ref nr), (.ref tr), (.int lw)]))
  refine Comes.cS X0 hx hZ hown (y := y34) (W := 0) (W hw 231) (W hw 232) dd (W hw 233) (bt_10T l Z a0 hw [] lw tr nr k1 k2 ta tb tc ua ub uc h0 n0 (by omega)  G0 G1 (by assumption)) (W hw 114) dd dd e0 rfl (by rw [hml]; rfl) (argsL := [(.int lw), (.ref tr), (.ref nr), (.int (1 : Int32)), (.int (0 : Int32))]) (rest := []) (lenOf pd_14 rfl) rfl (wle rfl) (hb hby d13_39) rfl dd dd fun v6 T6 L6 hQ6 X6 => ?_
  obtain ⟨rfl, Nq6, hs6⟩ := hQ6
  have N6 := Fr.app N0 Nq6
  refine cs (fun t k => xifNo X6 hc d13_42 rfl ((if0 _ _).trans (feq dd).1) (xiconst X6 hc d13_45 (xistore X6 hc d13_46 rfl rfl (xiconst X6 hc d13_48 (xiloadN X6 hc d13_49 rfl k))))) ?_
  refine cs (fun t k => xicmpNo X6 hc d13_50 rfl (tlt dd).2.1 (xiconst X6 hc d13_53 (xiload X6 hc d13_54 rfl k))) ?_
  show Comes p e below _ (T6.setTop (mkF m 56 #[vi lw, vr tr, vr nr, vi (3 : Int32), vi (-1 : Int32), vi (1 : Int32)] [(.int (-1 : Int32)), (.int (2 : Int32))]))
  refine cs (fun t k => xicmpNo X6 hc d13_56 rfl (feq dd).1 (xiload X6 hc d13_59 rfl k)) ?_
  refine cs (fun t k => xifNo X6 hc d13_61 rfl ((if0 _ _).trans (flt dd).1) (xiloadN X6 hc d13_64 rfl (xaloadN X6 hc d13_65 rfl rfl (xaloadN X6 hc d13_66 rfl rfl (xiconst X6 hc d13_67 (xiload X6 hc d13_68 rfl k)))))) ?_
  refine Comes.cS X6 hx hZ hown (y := y34) (W := 0) (W hw 231) (W hw 232) dd (W hw 233) (bt_21T l Z a0 hw [] lw tr nr k1 k2 ta tb tc ua ub uc h0 n0 (by omega)  G0 G1 (by assumption)) (W hw 114) dd dd hs6 rfl (by rw [hml]; rfl) (argsL := [(.int lw), (.ref tr), (.ref nr), (.int (2 : Int32)), (.int (1 : Int32))]) (rest := []) (lenOf pd_14 rfl) rfl (wle rfl) (hb hby d13_70) rfl dd dd fun v11 T11 L11 hQ11 X11 => ?_
  obtain ⟨rfl, Nq11, hs11⟩ := hQ11
  have N11 := Fr.app N6 Nq11
  show Comes p e below _ (T11.setTop (mkF m 73 #[vi lw, vr tr, vr nr, vi (3 : Int32), vi (-1 : Int32), vi (1 : Int32)] [(.int (1 : Int32))]))
  refine cs (fun t k => xifNo X11 hc d13_73 rfl ((if0 _ _).trans (feq dd).1) (xiconst X11 hc d13_76 (xistore X11 hc d13_77 rfl rfl (xiload X11 hc d13_79 rfl k)))) ?_
  show Comes p e below _ (T11.setTop (mkF m 81 #[vi lw, vr tr, vr nr, vi (3 : Int32), vi (-1 : Int32), vi (2 : Int32)] [(.int (2 : Int32))]))
  exact Comes.retV X11 hx hret rfl (Or.inl ⟨rfl, Or.inl rfl, _, rfl⟩) hlk (hb hby d13_81) hs11 ⟨rfl, N11, rfl⟩ dd dd
def Q_pick_3_0_F (Z : State) (lw : Int32) (tr nr : Nat) (k1 k2 : ClassId) (ta tb tc ua ub uc : Int64) (h0 : Heap) (n0 : Nat) (v_ : Option Value) (h : Heap) (L_ : List Loc) : Prop := (v_ = some (.int (1 : Int32))) ∧ (Fr n0 L_) ∧ (h = h0)
theorem pick_3_0_F (l : Launch) (Z : State) (a0 : Array Value) (hw : ∀ d ∈ tables_1, d.before a0 Z = true) (ws : List Jvm.Cond) (lw : Int32) (tr nr : Nat) (k1 k2 : ClassId) (ta tb tc ua ub uc : Int64) (h0 : Heap) (n0 : Nat) (Z0 : n0 ≤ h0.size) (G0 : Arv Z h0 tr k1 .long (3 : Int32) [(.long ta), (.long tb), (.long tc)] (.long (0 : Int64))) (G1 : Arv Z h0 nr k2 .long (3 : Int32) [(.long ua), (.long ub), (.long uc)] (.long (0 : Int64))) (G2 : ¬ ((¬ tc = tb ∧ ¬ lw = (0 : Int32) ∧ tc < tb) ∨ (¬ tc = tb ∧ lw = (0 : Int32) ∧ tb < tc) ∨ (tc = tb ∧ uc < ub))) :
    Con l Z y13 method_4_code 6 (some .int) ws (Rm 1 0 0 16) #[(.int lw), (.ref tr), (.ref nr), (.int (3 : Int32)), (.int (0 : Int32))] h0 (Q_pick_3_0_F Z lw tr nr k1 k2 ta tb tc ua ub uc h0 n0) := by
  refine Con.of (plainFor_of_name pn_13) fun p e s m below meth c s₁ hx hby hml hZ hown hnm hlk hret X0 e0 => ?_
  have N0 := Fr.nil n0
  have hc := And.intro hx hby
  refine Comes.cast (ef_pick_3_0_F m lw tr nr) ?_
  have lt_tr : tr < h0.size := G0.lt
  have lt_nr : nr < h0.size := G1.lt
  refine cs (fun t k => xiconst X0 hc d13_0 (xistore X0 hc d13_1 rfl rfl (xiconst X0 hc d13_3 (xiloadN X0 hc d13_4 rfl k)))) ?_
  refine cs (fun t k => xicmpNo X0 hc d13_5 rfl (tlt dd).2.1 (xiconst X0 hc d13_8 (xiload X0 hc d13_9 rfl k))) ?_
  refine cs (fun t k => xicmpYes X0 hc 11 17 d13_11 rfl (teq dd).1 (xiconst X0 hc d13_17 (xiloadN X0 hc d13_18 rfl k))) ?_
  show Comes p e below _ (s₁.setTop (mkF m 19 #[vi lw, vr tr, vr nr, vi (3 : Int32), vi (0 : Int32), vi (-1 : Int32)] [(.int (3 : Int32)), (.int (1 : Int32))]))
  refine cs (fun t k => xicmpNo X0 hc d13_19 rfl (tlt dd).2.1 (xiconst X0 hc d13_22 (xiload X0 hc d13_23 rfl k))) ?_
  refine cs (fun t k => xicmpNo X0 hc d13_25 rfl (feq dd).1 (xiload X0 hc d13_28 rfl k)) ?_
  refine cs (fun t k => xifYes X0 hc 30 45 d13_30 rfl ((if0 _ _).trans (tlt dd).1) (xiconst X0 hc d13_45 (xistore X0 hc d13_46 rfl rfl (xiconst X0 hc d13_48 (xiloadN X0 hc d13_49 rfl k))))) ?_
  show Comes p e below _ (s₁.setTop (mkF m 50 #[vi lw, vr tr, vr nr, vi (3 : Int32), vi (0 : Int32), vi (1 : Int32)] [(.int (3 : Int32)), (.int (2 : Int32))]))
  refine cs (fun t k => xicmpNo X0 hc d13_50 rfl (tlt dd).2.1 (xiconst X0 hc d13_53 (xiload X0 hc d13_54 rfl k))) ?_
  refine cs (fun t k => xicmpNo X0 hc d13_56 rfl (feq dd).1 (xiload X0 hc d13_59 rfl k)) ?_
  refine cs (fun t k => xifNo X0 hc d13_61 rfl ((if0 _ _).trans (flt dd).1) (xiloadN X0 hc d13_64 rfl (xaloadN X0 hc d13_65 rfl rfl (xaloadN X0 hc d13_66 rfl rfl (xiconst X0 hc d13_67 (xiload X0 hc d13_68 rfl k)))))) ?_
  show Comes p e below _ (s₁.setTop (mkF m 70 #[vi lw, vr tr, vr nr, vi (3 : Int32), vi (0 : Int32), vi (1 : Int32)] [(.int (1 : Int32)), (.int (2 : Int32)), (.ref nr), (.ref tr), (.int lw)]))
  refine Comes.cS X0 hx hZ hown (y := y34) (W := 0) (W hw 231) (W hw 232) dd (W hw 233) (bt_21F l Z a0 hw [] lw tr nr k1 k2 ta tb tc ua ub uc h0 n0 (by omega)  G0 G1 (by assumption)) (W hw 114) dd dd e0 rfl (by rw [hml]; rfl) (argsL := [(.int lw), (.ref tr), (.ref nr), (.int (2 : Int32)), (.int (1 : Int32))]) (rest := []) (lenOf pd_14 rfl) rfl (wle rfl) (hb hby d13_70) rfl dd dd fun v9 T9 L9 hQ9 X9 => ?_
  obtain ⟨rfl, Nq9, hs9⟩ := hQ9
  have N9 := Fr.app N0 Nq9
  refine cs (fun t k => xifYes X9 hc 73 79 d13_73 rfl ((if0 _ _).trans (teq dd).1) (xiload X9 hc d13_79 rfl k)) ?_
  show Comes p e below _ (T9.setTop (mkF m 81 #[vi lw, vr tr, vr nr, vi (3 : Int32), vi (0 : Int32), vi (1 : Int32)] [(.int (1 : Int32))]))
  exact Comes.retV X9 hx hret rfl (Or.inl ⟨rfl, Or.inl rfl, _, rfl⟩) hlk (hb hby d13_81) hs9 ⟨rfl, N9, rfl⟩ dd dd
def Q_pick_3_0_T (Z : State) (lw : Int32) (tr nr : Nat) (k1 k2 : ClassId) (ta tb tc ua ub uc : Int64) (h0 : Heap) (n0 : Nat) (v_ : Option Value) (h : Heap) (L_ : List Loc) : Prop := (v_ = some (.int (2 : Int32))) ∧ (Fr n0 L_) ∧ (h = h0)
theorem pick_3_0_T (l : Launch) (Z : State) (a0 : Array Value) (hw : ∀ d ∈ tables_1, d.before a0 Z = true) (ws : List Jvm.Cond) (lw : Int32) (tr nr : Nat) (k1 k2 : ClassId) (ta tb tc ua ub uc : Int64) (h0 : Heap) (n0 : Nat) (Z0 : n0 ≤ h0.size) (G0 : Arv Z h0 tr k1 .long (3 : Int32) [(.long ta), (.long tb), (.long tc)] (.long (0 : Int64))) (G1 : Arv Z h0 nr k2 .long (3 : Int32) [(.long ua), (.long ub), (.long uc)] (.long (0 : Int64))) (G2 : ((¬ tc = tb ∧ ¬ lw = (0 : Int32) ∧ tc < tb) ∨ (¬ tc = tb ∧ lw = (0 : Int32) ∧ tb < tc) ∨ (tc = tb ∧ uc < ub))) :
    Con l Z y13 method_4_code 6 (some .int) ws (Rm 1 0 0 16) #[(.int lw), (.ref tr), (.ref nr), (.int (3 : Int32)), (.int (0 : Int32))] h0 (Q_pick_3_0_T Z lw tr nr k1 k2 ta tb tc ua ub uc h0 n0) := by
  refine Con.of (plainFor_of_name pn_13) fun p e s m below meth c s₁ hx hby hml hZ hown hnm hlk hret X0 e0 => ?_
  have N0 := Fr.nil n0
  have hc := And.intro hx hby
  refine Comes.cast (ef_pick_3_0_F m lw tr nr) ?_
  have lt_tr : tr < h0.size := G0.lt
  have lt_nr : nr < h0.size := G1.lt
  refine cs (fun t k => xiconst X0 hc d13_0 (xistore X0 hc d13_1 rfl rfl (xiconst X0 hc d13_3 (xiloadN X0 hc d13_4 rfl k)))) ?_
  refine cs (fun t k => xicmpNo X0 hc d13_5 rfl (tlt dd).2.1 (xiconst X0 hc d13_8 (xiload X0 hc d13_9 rfl k))) ?_
  refine cs (fun t k => xicmpYes X0 hc 11 17 d13_11 rfl (teq dd).1 (xiconst X0 hc d13_17 (xiloadN X0 hc d13_18 rfl k))) ?_
  show Comes p e below _ (s₁.setTop (mkF m 19 #[vi lw, vr tr, vr nr, vi (3 : Int32), vi (0 : Int32), vi (-1 : Int32)] [(.int (3 : Int32)), (.int (1 : Int32))]))
  refine cs (fun t k => xicmpNo X0 hc d13_19 rfl (tlt dd).2.1 (xiconst X0 hc d13_22 (xiload X0 hc d13_23 rfl k))) ?_
  refine cs (fun t k => xicmpNo X0 hc d13_25 rfl (feq dd).1 (xiload X0 hc d13_28 rfl k)) ?_
  refine cs (fun t k => xifYes X0 hc 30 45 d13_30 rfl ((if0 _ _).trans (tlt dd).1) (xiconst X0 hc d13_45 (xistore X0 hc d13_46 rfl rfl (xiconst X0 hc d13_48 (xiloadN X0 hc d13_49 rfl k))))) ?_
  show Comes p e below _ (s₁.setTop (mkF m 50 #[vi lw, vr tr, vr nr, vi (3 : Int32), vi (0 : Int32), vi (1 : Int32)] [(.int (3 : Int32)), (.int (2 : Int32))]))
  refine cs (fun t k => xicmpNo X0 hc d13_50 rfl (tlt dd).2.1 (xiconst X0 hc d13_53 (xiload X0 hc d13_54 rfl k))) ?_
  refine cs (fun t k => xicmpNo X0 hc d13_56 rfl (feq dd).1 (xiload X0 hc d13_59 rfl k)) ?_
  refine cs (fun t k => xifNo X0 hc d13_61 rfl ((if0 _ _).trans (flt dd).1) (xiloadN X0 hc d13_64 rfl (xaloadN X0 hc d13_65 rfl rfl (xaloadN X0 hc d13_66 rfl rfl (xiconst X0 hc d13_67 (xiload X0 hc d13_68 rfl k)))))) ?_
  show Comes p e below _ (s₁.setTop (mkF m 70 #[vi lw, vr tr, vr nr, vi (3 : Int32), vi (0 : Int32), vi (1 : Int32)] [(.int (1 : Int32)), (.int (2 : Int32)), (.ref nr), (.ref tr), (.int lw)]))
  refine Comes.cS X0 hx hZ hown (y := y34) (W := 0) (W hw 231) (W hw 232) dd (W hw 233) (bt_21T l Z a0 hw [] lw tr nr k1 k2 ta tb tc ua ub uc h0 n0 (by omega)  G0 G1 (by assumption)) (W hw 114) dd dd e0 rfl (by rw [hml]; rfl) (argsL := [(.int lw), (.ref tr), (.ref nr), (.int (2 : Int32)), (.int (1 : Int32))]) (rest := []) (lenOf pd_14 rfl) rfl (wle rfl) (hb hby d13_70) rfl dd dd fun v9 T9 L9 hQ9 X9 => ?_
  obtain ⟨rfl, Nq9, hs9⟩ := hQ9
  have N9 := Fr.app N0 Nq9
  refine cs (fun t k => xifNo X9 hc d13_73 rfl ((if0 _ _).trans (feq dd).1) (xiconst X9 hc d13_76 (xistore X9 hc d13_77 rfl rfl (xiload X9 hc d13_79 rfl k)))) ?_
  show Comes p e below _ (T9.setTop (mkF m 81 #[vi lw, vr tr, vr nr, vi (3 : Int32), vi (0 : Int32), vi (2 : Int32)] [(.int (2 : Int32))]))
  exact Comes.retV X9 hx hret rfl (Or.inl ⟨rfl, Or.inl rfl, _, rfl⟩) hlk (hb hby d13_81) hs9 ⟨rfl, N9, rfl⟩ dd dd
def Q_pick_3_1_F (Z : State) (lw : Int32) (tr nr : Nat) (k1 k2 : ClassId) (ta tb tc ua ub uc : Int64) (h0 : Heap) (n0 : Nat) (v_ : Option Value) (h : Heap) (L_ : List Loc) : Prop := (v_ = some (.int (0 : Int32))) ∧ (Fr n0 L_) ∧ (h = h0)
theorem pick_3_1_F (l : Launch) (Z : State) (a0 : Array Value) (hw : ∀ d ∈ tables_1, d.before a0 Z = true) (ws : List Jvm.Cond) (lw : Int32) (tr nr : Nat) (k1 k2 : ClassId) (ta tb tc ua ub uc : Int64) (h0 : Heap) (n0 : Nat) (Z0 : n0 ≤ h0.size) (G0 : Arv Z h0 tr k1 .long (3 : Int32) [(.long ta), (.long tb), (.long tc)] (.long (0 : Int64))) (G1 : Arv Z h0 nr k2 .long (3 : Int32) [(.long ua), (.long ub), (.long uc)] (.long (0 : Int64))) (G2 : ¬ ((¬ tc = ta ∧ ¬ lw = (0 : Int32) ∧ tc < ta) ∨ (¬ tc = ta ∧ lw = (0 : Int32) ∧ ta < tc) ∨ (tc = ta ∧ uc < ua))) :
    Con l Z y13 method_4_code 6 (some .int) ws (Rm 1 0 0 16) #[(.int lw), (.ref tr), (.ref nr), (.int (3 : Int32)), (.int (1 : Int32))] h0 (Q_pick_3_1_F Z lw tr nr k1 k2 ta tb tc ua ub uc h0 n0) := by
  refine Con.of (plainFor_of_name pn_13) fun p e s m below meth c s₁ hx hby hml hZ hown hnm hlk hret X0 e0 => ?_
  have N0 := Fr.nil n0
  have hc := And.intro hx hby
  refine Comes.cast (ef_pick_3_1_F m lw tr nr) ?_
  have lt_tr : tr < h0.size := G0.lt
  have lt_nr : nr < h0.size := G1.lt
  refine cs (fun t k => xiconst X0 hc d13_0 (xistore X0 hc d13_1 rfl rfl (xiconst X0 hc d13_3 (xiloadN X0 hc d13_4 rfl k)))) ?_
  refine cs (fun t k => xicmpNo X0 hc d13_5 rfl (tlt dd).2.1 (xiconst X0 hc d13_8 (xiload X0 hc d13_9 rfl k))) ?_
  refine cs (fun t k => xicmpNo X0 hc d13_11 rfl (feq dd).1 (xiconst X0 hc d13_14 (xistore X0 hc d13_15 rfl rfl (xiconst X0 hc d13_17 (xiloadN X0 hc d13_18 rfl k))))) ?_
  show Comes p e below _ (s₁.setTop (mkF m 19 #[vi lw, vr tr, vr nr, vi (3 : Int32), vi (1 : Int32), vi (0 : Int32)] [(.int (3 : Int32)), (.int (1 : Int32))]))
  refine cs (fun t k => xicmpNo X0 hc d13_19 rfl (tlt dd).2.1 (xiconst X0 hc d13_22 (xiload X0 hc d13_23 rfl k))) ?_
  refine cs (fun t k => xicmpYes X0 hc 25 48 d13_25 rfl (teq dd).1 (xiconst X0 hc d13_48 (xiloadN X0 hc d13_49 rfl k))) ?_
  refine cs (fun t k => xicmpNo X0 hc d13_50 rfl (tlt dd).2.1 (xiconst X0 hc d13_53 (xiload X0 hc d13_54 rfl k))) ?_
  show Comes p e below _ (s₁.setTop (mkF m 56 #[vi lw, vr tr, vr nr, vi (3 : Int32), vi (1 : Int32), vi (0 : Int32)] [(.int (1 : Int32)), (.int (2 : Int32))]))
  refine cs (fun t k => xicmpNo X0 hc d13_56 rfl (feq dd).1 (xiload X0 hc d13_59 rfl k)) ?_
  refine cs (fun t k => xifNo X0 hc d13_61 rfl ((if0 _ _).trans (flt dd).1) (xiloadN X0 hc d13_64 rfl (xaloadN X0 hc d13_65 rfl rfl (xaloadN X0 hc d13_66 rfl rfl (xiconst X0 hc d13_67 (xiload X0 hc d13_68 rfl k)))))) ?_
  refine Comes.cS X0 hx hZ hown (y := y34) (W := 0) (W hw 231) (W hw 232) dd (W hw 233) (bt_20F l Z a0 hw [] lw tr nr k1 k2 ta tb tc ua ub uc h0 n0 (by omega)  G0 G1 (by assumption)) (W hw 114) dd dd e0 rfl (by rw [hml]; rfl) (argsL := [(.int lw), (.ref tr), (.ref nr), (.int (2 : Int32)), (.int (0 : Int32))]) (rest := []) (lenOf pd_14 rfl) rfl (wle rfl) (hb hby d13_70) rfl dd dd fun v8 T8 L8 hQ8 X8 => ?_
  obtain ⟨rfl, Nq8, hs8⟩ := hQ8
  have N8 := Fr.app N0 Nq8
  show Comes p e below _ (T8.setTop (mkF m 73 #[vi lw, vr tr, vr nr, vi (3 : Int32), vi (1 : Int32), vi (0 : Int32)] [(.int (0 : Int32))]))
  refine cs (fun t k => xifYes X8 hc 73 79 d13_73 rfl ((if0 _ _).trans (teq dd).1) (xiload X8 hc d13_79 rfl k)) ?_
  show Comes p e below _ (T8.setTop (mkF m 81 #[vi lw, vr tr, vr nr, vi (3 : Int32), vi (1 : Int32), vi (0 : Int32)] [(.int (0 : Int32))]))
  exact Comes.retV X8 hx hret rfl (Or.inl ⟨rfl, Or.inl rfl, _, rfl⟩) hlk (hb hby d13_81) hs8 ⟨rfl, N8, rfl⟩ dd dd
def Q_pick_3_1_T (Z : State) (lw : Int32) (tr nr : Nat) (k1 k2 : ClassId) (ta tb tc ua ub uc : Int64) (h0 : Heap) (n0 : Nat) (v_ : Option Value) (h : Heap) (L_ : List Loc) : Prop := (v_ = some (.int (2 : Int32))) ∧ (Fr n0 L_) ∧ (h = h0)
theorem pick_3_1_T (l : Launch) (Z : State) (a0 : Array Value) (hw : ∀ d ∈ tables_1, d.before a0 Z = true) (ws : List Jvm.Cond) (lw : Int32) (tr nr : Nat) (k1 k2 : ClassId) (ta tb tc ua ub uc : Int64) (h0 : Heap) (n0 : Nat) (Z0 : n0 ≤ h0.size) (G0 : Arv Z h0 tr k1 .long (3 : Int32) [(.long ta), (.long tb), (.long tc)] (.long (0 : Int64))) (G1 : Arv Z h0 nr k2 .long (3 : Int32) [(.long ua), (.long ub), (.long uc)] (.long (0 : Int64))) (G2 : ((¬ tc = ta ∧ ¬ lw = (0 : Int32) ∧ tc < ta) ∨ (¬ tc = ta ∧ lw = (0 : Int32) ∧ ta < tc) ∨ (tc = ta ∧ uc < ua))) :
    Con l Z y13 method_4_code 6 (some .int) ws (Rm 1 0 0 16) #[(.int lw), (.ref tr), (.ref nr), (.int (3 : Int32)), (.int (1 : Int32))] h0 (Q_pick_3_1_T Z lw tr nr k1 k2 ta tb tc ua ub uc h0 n0) := by
  refine Con.of (plainFor_of_name pn_13) fun p e s m below meth c s₁ hx hby hml hZ hown hnm hlk hret X0 e0 => ?_
  have N0 := Fr.nil n0
  have hc := And.intro hx hby
  refine Comes.cast (ef_pick_3_1_F m lw tr nr) ?_
  have lt_tr : tr < h0.size := G0.lt
  have lt_nr : nr < h0.size := G1.lt
  refine cs (fun t k => xiconst X0 hc d13_0 (xistore X0 hc d13_1 rfl rfl (xiconst X0 hc d13_3 (xiloadN X0 hc d13_4 rfl k)))) ?_
  refine cs (fun t k => xicmpNo X0 hc d13_5 rfl (tlt dd).2.1 (xiconst X0 hc d13_8 (xiload X0 hc d13_9 rfl k))) ?_
  refine cs (fun t k => xicmpNo X0 hc d13_11 rfl (feq dd).1 (xiconst X0 hc d13_14 (xistore X0 hc d13_15 rfl rfl (xiconst X0 hc d13_17 (xiloadN X0 hc d13_18 rfl k))))) ?_
  show Comes p e below _ (s₁.setTop (mkF m 19 #[vi lw, vr tr, vr nr, vi (3 : Int32), vi (1 : Int32), vi (0 : Int32)] [(.int (3 : Int32)), (.int (1 : Int32))]))
  refine cs (fun t k => xicmpNo X0 hc d13_19 rfl (tlt dd).2.1 (xiconst X0 hc d13_22 (xiload X0 hc d13_23 rfl k))) ?_
  refine cs (fun t k => xicmpYes X0 hc 25 48 d13_25 rfl (teq dd).1 (xiconst X0 hc d13_48 (xiloadN X0 hc d13_49 rfl k))) ?_
  refine cs (fun t k => xicmpNo X0 hc d13_50 rfl (tlt dd).2.1 (xiconst X0 hc d13_53 (xiload X0 hc d13_54 rfl k))) ?_
  show Comes p e below _ (s₁.setTop (mkF m 56 #[vi lw, vr tr, vr nr, vi (3 : Int32), vi (1 : Int32), vi (0 : Int32)] [(.int (1 : Int32)), (.int (2 : Int32))]))
  refine cs (fun t k => xicmpNo X0 hc d13_56 rfl (feq dd).1 (xiload X0 hc d13_59 rfl k)) ?_
  refine cs (fun t k => xifNo X0 hc d13_61 rfl ((if0 _ _).trans (flt dd).1) (xiloadN X0 hc d13_64 rfl (xaloadN X0 hc d13_65 rfl rfl (xaloadN X0 hc d13_66 rfl rfl (xiconst X0 hc d13_67 (xiload X0 hc d13_68 rfl k)))))) ?_
  refine Comes.cS X0 hx hZ hown (y := y34) (W := 0) (W hw 231) (W hw 232) dd (W hw 233) (bt_20T l Z a0 hw [] lw tr nr k1 k2 ta tb tc ua ub uc h0 n0 (by omega)  G0 G1 (by assumption)) (W hw 114) dd dd e0 rfl (by rw [hml]; rfl) (argsL := [(.int lw), (.ref tr), (.ref nr), (.int (2 : Int32)), (.int (0 : Int32))]) (rest := []) (lenOf pd_14 rfl) rfl (wle rfl) (hb hby d13_70) rfl dd dd fun v8 T8 L8 hQ8 X8 => ?_
  obtain ⟨rfl, Nq8, hs8⟩ := hQ8
  have N8 := Fr.app N0 Nq8
  show Comes p e below _ (T8.setTop (mkF m 73 #[vi lw, vr tr, vr nr, vi (3 : Int32), vi (1 : Int32), vi (0 : Int32)] [(.int (1 : Int32))]))
  refine cs (fun t k => xifNo X8 hc d13_73 rfl ((if0 _ _).trans (feq dd).1) (xiconst X8 hc d13_76 (xistore X8 hc d13_77 rfl rfl (xiload X8 hc d13_79 rfl k)))) ?_
  show Comes p e below _ (T8.setTop (mkF m 81 #[vi lw, vr tr, vr nr, vi (3 : Int32), vi (1 : Int32), vi (2 : Int32)] [(.int (2 : Int32))]))
  exact Comes.retV X8 hx hret rfl (Or.inl ⟨rfl, Or.inl rfl, _, rfl⟩) hlk (hb hby d13_81) hs8 ⟨rfl, N8, rfl⟩ dd dd
def Q_pick_3_2_F (Z : State) (lw : Int32) (tr nr : Nat) (k1 k2 : ClassId) (ta tb tc ua ub uc : Int64) (h0 : Heap) (n0 : Nat) (v_ : Option Value) (h : Heap) (L_ : List Loc) : Prop := (v_ = some (.int (0 : Int32))) ∧ (Fr n0 L_) ∧ (h = h0)
theorem pick_3_2_F (l : Launch) (Z : State) (a0 : Array Value) (hw : ∀ d ∈ tables_1, d.before a0 Z = true) (ws : List Jvm.Cond) (lw : Int32) (tr nr : Nat) (k1 k2 : ClassId) (ta tb tc ua ub uc : Int64) (h0 : Heap) (n0 : Nat) (Z0 : n0 ≤ h0.size) (G0 : Arv Z h0 tr k1 .long (3 : Int32) [(.long ta), (.long tb), (.long tc)] (.long (0 : Int64))) (G1 : Arv Z h0 nr k2 .long (3 : Int32) [(.long ua), (.long ub), (.long uc)] (.long (0 : Int64))) (G2 : ¬ ((¬ tb = ta ∧ ¬ lw = (0 : Int32) ∧ tb < ta) ∨ (¬ tb = ta ∧ lw = (0 : Int32) ∧ ta < tb) ∨ (tb = ta ∧ ub < ua))) :
    Con l Z y13 method_4_code 6 (some .int) ws (Rm 1 0 0 16) #[(.int lw), (.ref tr), (.ref nr), (.int (3 : Int32)), (.int (2 : Int32))] h0 (Q_pick_3_2_F Z lw tr nr k1 k2 ta tb tc ua ub uc h0 n0) := by
  refine Con.of (plainFor_of_name pn_13) fun p e s m below meth c s₁ hx hby hml hZ hown hnm hlk hret X0 e0 => ?_
  have N0 := Fr.nil n0
  have hc := And.intro hx hby
  refine Comes.cast (ef_pick_3_2_F m lw tr nr) ?_
  have lt_tr : tr < h0.size := G0.lt
  have lt_nr : nr < h0.size := G1.lt
  refine cs (fun t k => xiconst X0 hc d13_0 (xistore X0 hc d13_1 rfl rfl (xiconst X0 hc d13_3 (xiloadN X0 hc d13_4 rfl k)))) ?_
  refine cs (fun t k => xicmpNo X0 hc d13_5 rfl (tlt dd).2.1 (xiconst X0 hc d13_8 (xiload X0 hc d13_9 rfl k))) ?_
  refine cs (fun t k => xicmpNo X0 hc d13_11 rfl (feq dd).1 (xiconst X0 hc d13_14 (xistore X0 hc d13_15 rfl rfl (xiconst X0 hc d13_17 (xiloadN X0 hc d13_18 rfl k))))) ?_
  show Comes p e below _ (s₁.setTop (mkF m 19 #[vi lw, vr tr, vr nr, vi (3 : Int32), vi (2 : Int32), vi (0 : Int32)] [(.int (3 : Int32)), (.int (1 : Int32))]))
  refine cs (fun t k => xicmpNo X0 hc d13_19 rfl (tlt dd).2.1 (xiconst X0 hc d13_22 (xiload X0 hc d13_23 rfl k))) ?_
  refine cs (fun t k => xicmpNo X0 hc d13_25 rfl (feq dd).1 (xiload X0 hc d13_28 rfl k)) ?_
  refine cs (fun t k => xifNo X0 hc d13_30 rfl ((if0 _ _).trans (flt dd).1) (xiloadN X0 hc d13_33 rfl (xaloadN X0 hc d13_34 rfl rfl (xaloadN X0 hc d13_35 rfl rfl (xiconst X0 hc d13_36 (xiload X0 hc d13_37 rfl k)))))) ?_
  show Comes p e below _ (s₁.setTop (mkF m 39 #[vi lw, vr tr, vr nr, vi (3 : Int32), vi (2 : Int32), vi (0 : Int32)] [(.int (0 : Int32)), (.int (1 : Int32)), (.ref nr), (.ref tr), (.int lw)]))
  refine Comes.cS X0 hx hZ hown (y := y34) (W := 0) (W hw 231) (W hw 232) dd (W hw 233) (bt_10F l Z a0 hw [] lw tr nr k1 k2 ta tb tc ua ub uc h0 n0 (by omega)  G0 G1 (by assumption)) (W hw 114) dd dd e0 rfl (by rw [hml]; rfl) (argsL := [(.int lw), (.ref tr), (.ref nr), (.int (1 : Int32)), (.int (0 : Int32))]) (rest := []) (lenOf pd_14 rfl) rfl (wle rfl) (hb hby d13_39) rfl dd dd fun v6 T6 L6 hQ6 X6 => ?_
  obtain ⟨rfl, Nq6, hs6⟩ := hQ6
  have N6 := Fr.app N0 Nq6
  refine cs (fun t k => xifYes X6 hc 42 48 d13_42 rfl ((if0 _ _).trans (teq dd).1) (xiconst X6 hc d13_48 (xiloadN X6 hc d13_49 rfl k))) ?_
  refine cs (fun t k => xicmpNo X6 hc d13_50 rfl (tlt dd).2.1 (xiconst X6 hc d13_53 (xiload X6 hc d13_54 rfl k))) ?_
  refine cs (fun t k => xicmpYes X6 hc 56 79 d13_56 rfl (teq dd).1 (xiload X6 hc d13_79 rfl k)) ?_
  show Comes p e below _ (T6.setTop (mkF m 81 #[vi lw, vr tr, vr nr, vi (3 : Int32), vi (2 : Int32), vi (0 : Int32)] [(.int (0 : Int32))]))
  show Comes p e below _ (T6.setTop (mkF m 81 #[vi lw, vr tr, vr nr, vi (3 : Int32), vi (2 : Int32), vi (0 : Int32)] [(.int (0 : Int32))]))
  exact Comes.retV X6 hx hret rfl (Or.inl ⟨rfl, Or.inl rfl, _, rfl⟩) hlk (hb hby d13_81) hs6 ⟨rfl, N6, rfl⟩ dd dd
def Q_pick_3_2_T (Z : State) (lw : Int32) (tr nr : Nat) (k1 k2 : ClassId) (ta tb tc ua ub uc : Int64) (h0 : Heap) (n0 : Nat) (v_ : Option Value) (h : Heap) (L_ : List Loc) : Prop := (v_ = some (.int (1 : Int32))) ∧ (Fr n0 L_) ∧ (h = h0)
theorem pick_3_2_T (l : Launch) (Z : State) (a0 : Array Value) (hw : ∀ d ∈ tables_1, d.before a0 Z = true) (ws : List Jvm.Cond) (lw : Int32) (tr nr : Nat) (k1 k2 : ClassId) (ta tb tc ua ub uc : Int64) (h0 : Heap) (n0 : Nat) (Z0 : n0 ≤ h0.size) (G0 : Arv Z h0 tr k1 .long (3 : Int32) [(.long ta), (.long tb), (.long tc)] (.long (0 : Int64))) (G1 : Arv Z h0 nr k2 .long (3 : Int32) [(.long ua), (.long ub), (.long uc)] (.long (0 : Int64))) (G2 : ((¬ tb = ta ∧ ¬ lw = (0 : Int32) ∧ tb < ta) ∨ (¬ tb = ta ∧ lw = (0 : Int32) ∧ ta < tb) ∨ (tb = ta ∧ ub < ua))) :
    Con l Z y13 method_4_code 6 (some .int) ws (Rm 1 0 0 16) #[(.int lw), (.ref tr), (.ref nr), (.int (3 : Int32)), (.int (2 : Int32))] h0 (Q_pick_3_2_T Z lw tr nr k1 k2 ta tb tc ua ub uc h0 n0) := by
  refine Con.of (plainFor_of_name pn_13) fun p e s m below meth c s₁ hx hby hml hZ hown hnm hlk hret X0 e0 => ?_
  have N0 := Fr.nil n0
  have hc := And.intro hx hby
  refine Comes.cast (ef_pick_3_2_F m lw tr nr) ?_
  have lt_tr : tr < h0.size := G0.lt
  have lt_nr : nr < h0.size := G1.lt
  refine cs (fun t k => xiconst X0 hc d13_0 (xistore X0 hc d13_1 rfl rfl (xiconst X0 hc d13_3 (xiloadN X0 hc d13_4 rfl k)))) ?_
  refine cs (fun t k => xicmpNo X0 hc d13_5 rfl (tlt dd).2.1 (xiconst X0 hc d13_8 (xiload X0 hc d13_9 rfl k))) ?_
  refine cs (fun t k => xicmpNo X0 hc d13_11 rfl (feq dd).1 (xiconst X0 hc d13_14 (xistore X0 hc d13_15 rfl rfl (xiconst X0 hc d13_17 (xiloadN X0 hc d13_18 rfl k))))) ?_
  show Comes p e below _ (s₁.setTop (mkF m 19 #[vi lw, vr tr, vr nr, vi (3 : Int32), vi (2 : Int32), vi (0 : Int32)] [(.int (3 : Int32)), (.int (1 : Int32))]))
  refine cs (fun t k => xicmpNo X0 hc d13_19 rfl (tlt dd).2.1 (xiconst X0 hc d13_22 (xiload X0 hc d13_23 rfl k))) ?_
  refine cs (fun t k => xicmpNo X0 hc d13_25 rfl (feq dd).1 (xiload X0 hc d13_28 rfl k)) ?_
  refine cs (fun t k => xifNo X0 hc d13_30 rfl ((if0 _ _).trans (flt dd).1) (xiloadN X0 hc d13_33 rfl (xaloadN X0 hc d13_34 rfl rfl (xaloadN X0 hc d13_35 rfl rfl (xiconst X0 hc d13_36 (xiload X0 hc d13_37 rfl k)))))) ?_
  show Comes p e below _ (s₁.setTop (mkF m 39 #[vi lw, vr tr, vr nr, vi (3 : Int32), vi (2 : Int32), vi (0 : Int32)] [(.int (0 : Int32)), (.int (1 : Int32)), (.ref nr), (.ref tr), (.int lw)]))
  refine Comes.cS X0 hx hZ hown (y := y34) (W := 0) (W hw 231) (W hw 232) dd (W hw 233) (bt_10T l Z a0 hw [] lw tr nr k1 k2 ta tb tc ua ub uc h0 n0 (by omega)  G0 G1 (by assumption)) (W hw 114) dd dd e0 rfl (by rw [hml]; rfl) (argsL := [(.int lw), (.ref tr), (.ref nr), (.int (1 : Int32)), (.int (0 : Int32))]) (rest := []) (lenOf pd_14 rfl) rfl (wle rfl) (hb hby d13_39) rfl dd dd fun v6 T6 L6 hQ6 X6 => ?_
  obtain ⟨rfl, Nq6, hs6⟩ := hQ6
  have N6 := Fr.app N0 Nq6
  refine cs (fun t k => xifNo X6 hc d13_42 rfl ((if0 _ _).trans (feq dd).1) (xiconst X6 hc d13_45 (xistore X6 hc d13_46 rfl rfl (xiconst X6 hc d13_48 (xiloadN X6 hc d13_49 rfl k))))) ?_
  refine cs (fun t k => xicmpNo X6 hc d13_50 rfl (tlt dd).2.1 (xiconst X6 hc d13_53 (xiload X6 hc d13_54 rfl k))) ?_
  show Comes p e below _ (T6.setTop (mkF m 56 #[vi lw, vr tr, vr nr, vi (3 : Int32), vi (2 : Int32), vi (1 : Int32)] [(.int (2 : Int32)), (.int (2 : Int32))]))
  refine cs (fun t k => xicmpYes X6 hc 56 79 d13_56 rfl (teq dd).1 (xiload X6 hc d13_79 rfl k)) ?_
  show Comes p e below _ (T6.setTop (mkF m 81 #[vi lw, vr tr, vr nr, vi (3 : Int32), vi (2 : Int32), vi (1 : Int32)] [(.int (1 : Int32))]))
  exact Comes.retV X6 hx hret rfl (Or.inl ⟨rfl, Or.inl rfl, _, rfl⟩) hlk (hb hby d13_81) hs6 ⟨rfl, N6, rfl⟩ dd dd
def Q_rm0 (Z : State) (flag : Int32) (q1 q2 q3 base : Int64) (ca : Nat) (h0 : Heap) (n0 : Nat) (v_ : Option Value) (h : Heap) (L_ : List Loc) : Prop := (v_ = some (.int (1 : Int32))) ∧ (Fr n0 L_)
set_option maxRecDepth 65536 in
set_option maxHeartbeats 40000000 in
theorem rm0 (l : Launch) (Z : State) (a0 : Array Value) (hw : ∀ d ∈ tables_1, d.before a0 Z = true) (ws : List Jvm.Cond) (flag : Int32) (q1 q2 q3 base : Int64) (ca : Nat) (h0 : Heap) (n0 : Nat) (Z0 : n0 ≤ h0.size) (G0 : Sta Z Z.heap "java/lang/Long$LongCache" "cache" "[Ljava/lang/Long;" (.ref ca)) (G1 : Old Z n0 h0) (G2 : own_cacheL Z ca) :
    MetFree l x (head1 (Jvm.Cond.code x code maxLocals ret :: ws) room_1) (fun a_ U_ => a_ = #[(.int flag), (.long q1), (.long q2), (.long q3), (.long base)] ∧ Z.Warmed39 U_.vm ∧ U_.heap = h0) (fun _ _ _ _ _ => True) (fun _ U_ o_ V_ => ∃ v_ L_, o_ = .returned v_ ∧ Q_rm0 Z flag q1 q2 q3 base ca h0 n0 v_ V_.heap L_ ∧ FrameEnd U_ o_ V_ L_ room_1.cells room_1.slots) := by
  refine MetFree.of_bodySF (plainFor_of_name pn_0) hisR ?_
  intro p e s m args below meth c s₁ Bd hml0 hP hK
  obtain ⟨rfl, hZ, hh⟩ := hP
  have hx := Bd.exec
  have hby := Bd.bytes
  have hml : c.maxLocals = 25 := hml0
  have hown : s.vm.findClass sLw = some m.cls := findClass_of_methodNamed Bd.named
  have hnm := (name_of_methodNamed Bd.named Bd.method).1
  have hlk : meth.locks = false := Bd.notSynchronized
  have X0 : Stand p l e room_1 s m #[(.int flag), (.long q1), (.long q2), (.long q3), (.long base)] below meth c s₁ [] 0 0 := Stand.of_body Bd
  have e0 : s₁.heap = h0 := by rw [← hh, Bd.state]; rfl
  have N0 := Fr.nil n0
  have hc := And.intro hx hby
  refine Comes.out (Q := Q_rm0 Z flag q1 q2 q3 base ca h0 n0) (kc := room_1.cells) (ks := room_1.slots) ?_
  refine Comes.cast (ef_rm0 m flag q1 q2 q3 base) ?_
  refine cs (fun t k => xiloadN X0 hc at_0 rfl (xiconst X0 hc at_1 (XS.iand X0.here hx rfl (hb hby at_2) rfl k))) ?_
  have J1 : Comes p e below (fun S' => ∃ (T' : State), ∃ (L' : List Loc), ∃ (j3 : Int32), (S' = T'.setTop (mkF m 11 #[vi flag, vj q1, S2, vj q2, S2, vj q3, S2, vj base, S2, U0, U0, U0, U0, U0, U0, U0, U0, U0, U0, U0, U0, U0, U0, U0, U0] [(.int j3)])) ∧ (Stand p l e room_1 s m #[(.int flag), (.long q1), (.long q2), (.long q3), (.long base)] below meth c T' L' 0 0) ∧ (T'.heap = h0) ∧ (Fr n0 L') ∧ (j3 = (0 : Int32) ∨ j3 = (1 : Int32))) (s₁.setTop (mkF m 3 #[vi flag, vj q1, S2, vj q2, S2, vj q3, S2, vj base, S2, U0, U0, U0, U0, U0, U0, U0, U0, U0, U0, U0, U0, U0, U0, U0, U0] [(.int (flag &&& (1 : Int32)))])) := by
    show Comes p e below _ (s₁.setTop (mkF m 3 #[vi flag, vj q1, S2, vj q2, S2, vj q3, S2, vj base, S2, U0, U0, U0, U0, U0, U0, U0, U0, U0, U0, U0, U0, U0, U0, U0, U0] [(.int (flag &&& (1 : Int32)))]))
    by_cases hc3_2 : (flag &&& (1 : Int32)) = (0 : Int32)
    · refine cs (fun t k => xifYes X0 hc 3 10 at_3 rfl ((if0 _ _).trans (teq hc3_2).1) (xiconst X0 hc at_10 k)) ?_
      show Comes p e below _ (s₁.setTop (mkF m 11 #[vi flag, vj q1, S2, vj q2, S2, vj q3, S2, vj base, S2, U0, U0, U0, U0, U0, U0, U0, U0, U0, U0, U0, U0, U0, U0, U0, U0] [(.int (0 : Int32))]))
      exact Comes.here ⟨_, _, (0 : Int32), rfl, X0, e0, N0, (by first | exact Or.inl rfl | exact Or.inr rfl)⟩
    · refine cs (fun t k => xifNo X0 hc at_3 rfl ((if0 _ _).trans (feq hc3_2).1) (xiconst X0 hc at_6 (xgoto X0 hc 7 11 at_7 k))) ?_
      show Comes p e below _ (s₁.setTop (mkF m 11 #[vi flag, vj q1, S2, vj q2, S2, vj q3, S2, vj base, S2, U0, U0, U0, U0, U0, U0, U0, U0, U0, U0, U0, U0, U0, U0, U0, U0] [(.int (1 : Int32))]))
      exact Comes.here ⟨_, _, (1 : Int32), rfl, X0, e0, N0, (by first | exact Or.inl rfl | exact Or.inr rfl)⟩
  obtain ⟨_, st4, T4, L4, j3, rfl, X4, e4, N4, rel4⟩ := J1
  refine Comes.go st4 ?_
  refine cs (fun t k => xistore X4 hc at_11 rfl rfl (xiloadN X4 hc at_13 rfl (xiconst X4 hc at_14 (XS.iushr X4.here hx rfl (hb hby at_15) rfl (xiconst X4 hc at_16 (XS.iand X4.here hx rfl (hb hby at_17) rfl k)))))) ?_
  show Comes p e below _ (T4.setTop (mkF m 18 #[vi flag, vj q1, S2, vj q2, S2, vj q3, S2, vj base, S2, vi j3, U0, U0, U0, U0, U0, U0, U0, U0, U0, U0, U0, U0, U0, U0, U0] [(.int (((flag.toUInt32 >>> ((3 : Int32) &&& 31).toUInt32).toInt32) &&& (3 : Int32)))]))
  generalize hv_v5 : (((flag.toUInt32 >>> ((3 : Int32) &&& 31).toUInt32).toInt32) &&& (3 : Int32)) = v5
  refine cs (fun t k => xistore X4 hc at_18 rfl rfl (xiconst X4 hc at_20 k)) ?_
  obtain ⟨T6, h6, k6, X6, e6, E6, A6, st6⟩ := newP X4 hx hZ (W hw 0) e4 (g := (mkF m 21 #[vi flag, vj q1, S2, vj q2, S2, vj q3, S2, vj base, S2, vi j3, vi v5, U0, U0, U0, U0, U0, U0, U0, U0, U0, U0, U0, U0, U0, U0] [(.int (3 : Int32))])) rfl (hb hby at_21) rfl dd (cap := 3) dd dd dd dd
  obtain ⟨b6, g6⟩ : ∃ z, z = h0.size := ⟨_, rfl⟩
  rw [← g6] at A6 st6
  have z6 : h0.size ≤ h6.size := E6.1
  have lt6 : b6 < h6.size := A6.lt
  have V6 : Arv Z h6 b6 k6 .long (3 : Int32) [(.long (0 : Int64)), (.long (0 : Int64)), (.long (0 : Int64))] (.long (0 : Int64)) := (Arv.new A6 dd).pad (pad_rep [] (.long (0 : Int64)) 3)
  refine Comes.st st6 ?_
  refine cs (fun t k => xastore X6 hc at_23 rfl rfl rfl (xaload X6 hc at_25 rfl rfl (xiconst X6 hc at_27 (XS.lloadN X6.here hx rfl (hb hby at_28) rfl k)))) ?_
  show Comes p e below _ (T6.setTop (mkF m 29 #[vi flag, vj q1, S2, vj q2, S2, vj q3, S2, vj base, S2, vi j3, vi v5, vr b6, U0, U0, U0, U0, U0, U0, U0, U0, U0, U0, U0, U0, U0] [(.long q1), (.int (0 : Int32)), (.ref b6)]))
  refine Comes.wrJ X6 hx hZ e6 V6 rfl rfl 0 (hb hby at_29) fun T7 h7 X7 e7 W7 V7 => ?_
  have z7 : h7.size = h6.size := W7.size
  have gn8 : n0 ≤ b6 := by omega
  have N7 := Fr.snoc X7 N4 gn8
  refine cs (fun t k => xaload X7 hc at_30 rfl rfl (xiconst X7 hc at_32 (xiloadN X7 hc at_33 rfl (xiconst X7 hc at_34 (XS.iushr X7.here hx rfl (hb hby at_35) rfl (xiconst X7 hc at_36 k)))))) ?_
  refine cs (fun t k => XS.iand X7.here hx rfl (hb hby at_37) rfl k) ?_
  have J9 : Comes p e below (fun S' => ∃ (T' : State), ∃ (L' : List Loc), ∃ (j11 : Int64), (S' = T'.setTop (mkF m 46 #[vi flag, vj q1, S2, vj q2, S2, vj q3, S2, vj base, S2, vi j3, vi v5, vr b6, U0, U0, U0, U0, U0, U0, U0, U0, U0, U0, U0, U0, U0] [(.long j11), (.int (1 : Int32)), (.ref b6)])) ∧ (Stand p l e room_1 s m #[(.int flag), (.long q1), (.long q2), (.long q3), (.long base)] below meth c T' L' 1 3) ∧ (T'.heap = h7) ∧ (Fr n0 L') ∧ (True)) (T7.setTop (mkF m 38 #[vi flag, vj q1, S2, vj q2, S2, vj q3, S2, vj base, S2, vi j3, vi v5, vr b6, U0, U0, U0, U0, U0, U0, U0, U0, U0, U0, U0, U0, U0] [(.int (((flag.toUInt32 >>> ((5 : Int32) &&& 31).toUInt32).toInt32) &&& (1 : Int32))), (.int (1 : Int32)), (.ref b6)])) := by
    show Comes p e below _ (T7.setTop (mkF m 38 #[vi flag, vj q1, S2, vj q2, S2, vj q3, S2, vj base, S2, vi j3, vi v5, vr b6, U0, U0, U0, U0, U0, U0, U0, U0, U0, U0, U0, U0, U0] [(.int (((flag.toUInt32 >>> ((5 : Int32) &&& 31).toUInt32).toInt32) &&& (1 : Int32))), (.int (1 : Int32)), (.ref b6)]))
    by_cases hc38_10 : (((flag.toUInt32 >>> ((5 : Int32) &&& 31).toUInt32).toInt32) &&& (1 : Int32)) = (0 : Int32)
    · refine cs (fun t k => xifYes X7 hc 38 45 at_38 rfl ((if0 _ _).trans (teq hc38_10).1) (XS.lloadN X7.here hx rfl (hb hby at_45) rfl k)) ?_
      show Comes p e below _ (T7.setTop (mkF m 46 #[vi flag, vj q1, S2, vj q2, S2, vj q3, S2, vj base, S2, vi j3, vi v5, vr b6, U0, U0, U0, U0, U0, U0, U0, U0, U0, U0, U0, U0, U0] [(.long q2), (.int (1 : Int32)), (.ref b6)]))
      exact Comes.here ⟨_, _, q2, rfl, X7, e7, N7, (by trivial)⟩
    · refine cs (fun t k => xifNo X7 hc at_38 rfl ((if0 _ _).trans (feq hc38_10).1) (XS.lloadN X7.here hx rfl (hb hby at_41) rfl (xgoto X7 hc 42 46 at_42 k))) ?_
      show Comes p e below _ (T7.setTop (mkF m 46 #[vi flag, vj q1, S2, vj q2, S2, vj q3, S2, vj base, S2, vi j3, vi v5, vr b6, U0, U0, U0, U0, U0, U0, U0, U0, U0, U0, U0, U0, U0] [(.long q1), (.int (1 : Int32)), (.ref b6)]))
      exact Comes.here ⟨_, _, q1, rfl, X7, e7, N7, (by trivial)⟩
  obtain ⟨_, st12, T12, L12, j11, rfl, X12, e12, N12, rel12⟩ := J9
  refine Comes.go st12 ?_
  show Comes p e below _ (T12.setTop (mkF m 46 #[vi flag, vj q1, S2, vj q2, S2, vj q3, S2, vj base, S2, vi j3, vi v5, vr b6, U0, U0, U0, U0, U0, U0, U0, U0, U0, U0, U0, U0, U0] [(.long j11), (.int (1 : Int32)), (.ref b6)]))
  refine Comes.wrJ X12 hx hZ e12 V7 rfl rfl 1 (hb hby at_46) fun T13 h13 X13 e13 W13 V13 => ?_
  have z13 : h13.size = h7.size := W13.size
  have N13 := Fr.snoc X13 N12 gn8
  refine cs (fun t k => xaload X13 hc at_47 rfl rfl (xiconst X13 hc at_49 (xiloadN X13 hc at_50 rfl (XS.bipush X13.here hx rfl (hb hby at_51) (XS.iushr X13.here hx rfl (hb hby at_53) rfl (xiconst X13 hc at_54 k)))))) ?_
  refine cs (fun t k => XS.iand X13.here hx rfl (hb hby at_55) rfl k) ?_
  have J14 : Comes p e below (fun S' => ∃ (T' : State), ∃ (L' : List Loc), ∃ (j18 : Int64), (S' = T'.setTop (mkF m 80 #[vi flag, vj q1, S2, vj q2, S2, vj q3, S2, vj base, S2, vi j3, vi v5, vr b6, U0, U0, U0, U0, U0, U0, U0, U0, U0, U0, U0, U0, U0] [(.long j18), (.int (2 : Int32)), (.ref b6)])) ∧ (Stand p l e room_1 s m #[(.int flag), (.long q1), (.long q2), (.long q3), (.long base)] below meth c T' L' 1 3) ∧ (T'.heap = h13) ∧ (Fr n0 L') ∧ (True)) (T13.setTop (mkF m 56 #[vi flag, vj q1, S2, vj q2, S2, vj q3, S2, vj base, S2, vi j3, vi v5, vr b6, U0, U0, U0, U0, U0, U0, U0, U0, U0, U0, U0, U0, U0] [(.int (((flag.toUInt32 >>> ((6 : Int32) &&& 31).toUInt32).toInt32) &&& (1 : Int32))), (.int (2 : Int32)), (.ref b6)])) := by
    show Comes p e below _ (T13.setTop (mkF m 56 #[vi flag, vj q1, S2, vj q2, S2, vj q3, S2, vj base, S2, vi j3, vi v5, vr b6, U0, U0, U0, U0, U0, U0, U0, U0, U0, U0, U0, U0, U0] [(.int (((flag.toUInt32 >>> ((6 : Int32) &&& 31).toUInt32).toInt32) &&& (1 : Int32))), (.int (2 : Int32)), (.ref b6)]))
    by_cases hc56_15 : (((flag.toUInt32 >>> ((6 : Int32) &&& 31).toUInt32).toInt32) &&& (1 : Int32)) = (0 : Int32)
    · refine cs (fun t k => xifYes X13 hc 56 63 at_56 rfl ((if0 _ _).trans (teq hc56_15).1) (xiloadN X13 hc at_63 rfl (xiconst X13 hc at_64 (XS.iushr X13.here hx rfl (hb hby at_65) rfl (xiconst X13 hc at_66 (XS.iand X13.here hx rfl (hb hby at_67) rfl k)))))) ?_
      show Comes p e below _ (T13.setTop (mkF m 68 #[vi flag, vj q1, S2, vj q2, S2, vj q3, S2, vj base, S2, vi j3, vi v5, vr b6, U0, U0, U0, U0, U0, U0, U0, U0, U0, U0, U0, U0, U0] [(.int (((flag.toUInt32 >>> ((1 : Int32) &&& 31).toUInt32).toInt32) &&& (1 : Int32))), (.int (2 : Int32)), (.ref b6)]))
      by_cases hc68_16 : (((flag.toUInt32 >>> ((1 : Int32) &&& 31).toUInt32).toInt32) &&& (1 : Int32)) = (0 : Int32)
      · refine cs (fun t k => xifYes X13 hc 68 78 at_68 rfl ((if0 _ _).trans (teq hc68_16).1) (XS.lload X13.here hx rfl (hb hby at_78) rfl k)) ?_
        show Comes p e below _ (T13.setTop (mkF m 80 #[vi flag, vj q1, S2, vj q2, S2, vj q3, S2, vj base, S2, vi j3, vi v5, vr b6, U0, U0, U0, U0, U0, U0, U0, U0, U0, U0, U0, U0, U0] [(.long q3), (.int (2 : Int32)), (.ref b6)]))
        exact Comes.here ⟨_, _, q3, rfl, X13, e13, N13, (by trivial)⟩
      · refine cs (fun t k => xifNo X13 hc at_68 rfl ((if0 _ _).trans (feq hc68_16).1) (xaload X13 hc at_71 rfl rfl (xiconst X13 hc at_73 k))) ?_
        show Comes p e below _ (T13.setTop (mkF m 74 #[vi flag, vj q1, S2, vj q2, S2, vj q3, S2, vj base, S2, vi j3, vi v5, vr b6, U0, U0, U0, U0, U0, U0, U0, U0, U0, U0, U0, U0, U0] [(.int (1 : Int32)), (.ref b6), (.int (2 : Int32)), (.ref b6)]))
        refine Comes.ldJ X13 hx hZ e13 V13 rfl rfl (x := j11) rfl (hb hby at_74) ?_
        refine cs (fun t k => xgoto X13 hc 75 80 at_75 k) ?_
        show Comes p e below _ (T13.setTop (mkF m 80 #[vi flag, vj q1, S2, vj q2, S2, vj q3, S2, vj base, S2, vi j3, vi v5, vr b6, U0, U0, U0, U0, U0, U0, U0, U0, U0, U0, U0, U0, U0] [(.long j11), (.int (2 : Int32)), (.ref b6)]))
        exact Comes.here ⟨_, _, j11, rfl, X13, e13, N13, (by trivial)⟩
    · refine cs (fun t k => xifNo X13 hc at_56 rfl ((if0 _ _).trans (feq hc56_15).1) (XS.lloadN X13.here hx rfl (hb hby at_59) rfl (xgoto X13 hc 60 80 at_60 k))) ?_
      show Comes p e below _ (T13.setTop (mkF m 80 #[vi flag, vj q1, S2, vj q2, S2, vj q3, S2, vj base, S2, vi j3, vi v5, vr b6, U0, U0, U0, U0, U0, U0, U0, U0, U0, U0, U0, U0, U0] [(.long q1), (.int (2 : Int32)), (.ref b6)]))
      exact Comes.here ⟨_, _, q1, rfl, X13, e13, N13, (by trivial)⟩
  obtain ⟨_, st19, T19, L19, j18, rfl, X19, e19, N19, rel19⟩ := J14
  refine Comes.go st19 ?_
  show Comes p e below _ (T19.setTop (mkF m 80 #[vi flag, vj q1, S2, vj q2, S2, vj q3, S2, vj base, S2, vi j3, vi v5, vr b6, U0, U0, U0, U0, U0, U0, U0, U0, U0, U0, U0, U0, U0] [(.long j18), (.int (2 : Int32)), (.ref b6)]))
  refine Comes.wrJ X19 hx hZ e19 V13 rfl rfl 2 (hb hby at_80) fun T20 h20 X20 e20 W20 V20 => ?_
  have z20 : h20.size = h13.size := W20.size
  have N20 := Fr.snoc X20 N19 gn8
  refine cs (fun t k => xiloadN X20 hc at_81 rfl (XS.bipush X20.here hx rfl (hb hby at_82) (XS.iushr X20.here hx rfl (hb hby at_84) rfl (XS.bipush X20.here hx rfl (hb hby at_85) k)))) ?_
  show Comes p e below _ (T20.setTop (mkF m 87 #[vi flag, vj q1, S2, vj q2, S2, vj q3, S2, vj base, S2, vi j3, vi v5, vr b6, U0, U0, U0, U0, U0, U0, U0, U0, U0, U0, U0, U0, U0] [(.int (6 : Int32)), (.int ((flag.toUInt32 >>> ((7 : Int32) &&& 31).toUInt32).toInt32))]))
  have hnz21 : ¬ ((6 : Int32) = (0 : Int32)) := by decide
  refine cs (fun t k => iremM X20 hx rfl (hb hby at_87) rfl hnz21 k) ?_
  show Comes p e below _ (T20.setTop (mkF m 88 #[vi flag, vj q1, S2, vj q2, S2, vj q3, S2, vj base, S2, vi j3, vi v5, vr b6, U0, U0, U0, U0, U0, U0, U0, U0, U0, U0, U0, U0, U0] [(.int (((flag.toUInt32 >>> ((7 : Int32) &&& 31).toUInt32).toInt32) % (6 : Int32)))]))
  generalize hv_v22 : (((flag.toUInt32 >>> ((7 : Int32) &&& 31).toUInt32).toInt32) % (6 : Int32)) = v22
  refine cs (fun t k => xistore X20 hc at_88 rfl rfl (XS.bipush X20.here hx rfl (hb hby at_90) k)) ?_
  obtain ⟨T23, h23, k23, X23, e23, E23, A23, st23⟩ := newP X20 hx hZ (W hw 1) e20 (g := (mkF m 92 #[vi flag, vj q1, S2, vj q2, S2, vj q3, S2, vj base, S2, vi j3, vi v5, vr b6, vi v22, U0, U0, U0, U0, U0, U0, U0, U0, U0, U0, U0, U0] [(.int (6 : Int32))])) rfl (hb hby at_92) rfl dd (cap := 6) dd dd dd dd
  obtain ⟨b23, g23⟩ : ∃ z, z = h20.size := ⟨_, rfl⟩
  rw [← g23] at A23 st23
  have z23 : h20.size ≤ h23.size := E23.1
  have lt23 : b23 < h23.size := A23.lt
  have V23 : Arv Z h23 b23 k23 .int (6 : Int32) [(.int (0 : Int32)), (.int (0 : Int32)), (.int (0 : Int32)), (.int (0 : Int32)), (.int (0 : Int32)), (.int (0 : Int32))] (.int (0 : Int32)) := (Arv.new A23 dd).pad (pad_rep [] (.int (0 : Int32)) 6)
  refine Comes.st st23 ?_
  refine cs (fun t k => XS.dup X23.here hx rfl (hb hby at_94) rfl rfl (xiconst X23 hc at_95 (xiconst X23 hc at_96 k))) ?_
  show Comes p e below _ (T23.setTop (mkF m 97 #[vi flag, vj q1, S2, vj q2, S2, vj q3, S2, vj base, S2, vi j3, vi v5, vr b6, vi v22, U0, U0, U0, U0, U0, U0, U0, U0, U0, U0, U0, U0] [(.int (0 : Int32)), (.int (0 : Int32)), (.ref b23), (.ref b23)]))
  refine Comes.wrI X23 hx hZ e23 V23 rfl rfl 0 (hb hby at_97) fun T24 h24 X24 e24 W24 V24 => ?_
  have z24 : h24.size = h23.size := W24.size
  have gn25 : n0 ≤ b23 := by omega
  have N24 := Fr.snoc X24 N20 gn25
  refine cs (fun t k => XS.dup X24.here hx rfl (hb hby at_98) rfl rfl (xiconst X24 hc at_99 (xiconst X24 hc at_100 k))) ?_
  show Comes p e below _ (T24.setTop (mkF m 101 #[vi flag, vj q1, S2, vj q2, S2, vj q3, S2, vj base, S2, vi j3, vi v5, vr b6, vi v22, U0, U0, U0, U0, U0, U0, U0, U0, U0, U0, U0, U0] [(.int (0 : Int32)), (.int (1 : Int32)), (.ref b23), (.ref b23)]))
  refine Comes.wrI X24 hx hZ e24 V24 rfl rfl 1 (hb hby at_101) fun T26 h26 X26 e26 W26 V26 => ?_
  have z26 : h26.size = h24.size := W26.size
  have N26 := Fr.snoc X26 N24 gn25
  refine cs (fun t k => XS.dup X26.here hx rfl (hb hby at_102) rfl rfl (xiconst X26 hc at_103 (xiconst X26 hc at_104 k))) ?_
  show Comes p e below _ (T26.setTop (mkF m 105 #[vi flag, vj q1, S2, vj q2, S2, vj q3, S2, vj base, S2, vi j3, vi v5, vr b6, vi v22, U0, U0, U0, U0, U0, U0, U0, U0, U0, U0, U0, U0] [(.int (1 : Int32)), (.int (2 : Int32)), (.ref b23), (.ref b23)]))
  refine Comes.wrI X26 hx hZ e26 V26 rfl rfl 2 (hb hby at_105) fun T27 h27 X27 e27 W27 V27 => ?_
  have z27 : h27.size = h26.size := W27.size
  have N27 := Fr.snoc X27 N26 gn25
  refine cs (fun t k => XS.dup X27.here hx rfl (hb hby at_106) rfl rfl (xiconst X27 hc at_107 (xiconst X27 hc at_108 k))) ?_
  show Comes p e below _ (T27.setTop (mkF m 109 #[vi flag, vj q1, S2, vj q2, S2, vj q3, S2, vj base, S2, vi j3, vi v5, vr b6, vi v22, U0, U0, U0, U0, U0, U0, U0, U0, U0, U0, U0, U0] [(.int (1 : Int32)), (.int (3 : Int32)), (.ref b23), (.ref b23)]))
  refine Comes.wrI X27 hx hZ e27 V27 rfl rfl 3 (hb hby at_109) fun T28 h28 X28 e28 W28 V28 => ?_
  have z28 : h28.size = h27.size := W28.size
  have N28 := Fr.snoc X28 N27 gn25
  refine cs (fun t k => XS.dup X28.here hx rfl (hb hby at_110) rfl rfl (xiconst X28 hc at_111 (xiconst X28 hc at_112 k))) ?_
  show Comes p e below _ (T28.setTop (mkF m 113 #[vi flag, vj q1, S2, vj q2, S2, vj q3, S2, vj base, S2, vi j3, vi v5, vr b6, vi v22, U0, U0, U0, U0, U0, U0, U0, U0, U0, U0, U0, U0] [(.int (2 : Int32)), (.int (4 : Int32)), (.ref b23), (.ref b23)]))
  refine Comes.wrI X28 hx hZ e28 V28 rfl rfl 4 (hb hby at_113) fun T29 h29 X29 e29 W29 V29 => ?_
  have z29 : h29.size = h28.size := W29.size
  have N29 := Fr.snoc X29 N28 gn25
  refine cs (fun t k => XS.dup X29.here hx rfl (hb hby at_114) rfl rfl (xiconst X29 hc at_115 (xiconst X29 hc at_116 k))) ?_
  show Comes p e below _ (T29.setTop (mkF m 117 #[vi flag, vj q1, S2, vj q2, S2, vj q3, S2, vj base, S2, vi j3, vi v5, vr b6, vi v22, U0, U0, U0, U0, U0, U0, U0, U0, U0, U0, U0, U0] [(.int (2 : Int32)), (.int (5 : Int32)), (.ref b23), (.ref b23)]))
  refine Comes.wrI X29 hx hZ e29 V29 rfl rfl 5 (hb hby at_117) fun T30 h30 X30 e30 W30 V30 => ?_
  have z30 : h30.size = h29.size := W30.size
  have N30 := Fr.snoc X30 N29 gn25
  refine cs (fun t k => xastore X30 hc at_118 rfl rfl rfl (XS.bipush X30.here hx rfl (hb hby at_120) k)) ?_
  show Comes p e below _ (T30.setTop (mkF m 122 #[vi flag, vj q1, S2, vj q2, S2, vj q3, S2, vj base, S2, vi j3, vi v5, vr b6, vi v22, vr b23, U0, U0, U0, U0, U0, U0, U0, U0, U0, U0, U0] [(.int (6 : Int32))]))
  obtain ⟨T31, h31, k31, X31, e31, E31, A31, st31⟩ := newP X30 hx hZ (W hw 1) e30 (g := (mkF m 122 #[vi flag, vj q1, S2, vj q2, S2, vj q3, S2, vj base, S2, vi j3, vi v5, vr b6, vi v22, vr b23, U0, U0, U0, U0, U0, U0, U0, U0, U0, U0, U0] [(.int (6 : Int32))])) rfl (hb hby at_122) rfl dd (cap := 6) dd dd dd dd
  obtain ⟨b31, g31⟩ : ∃ z, z = h30.size := ⟨_, rfl⟩
  rw [← g31] at A31 st31
  have z31 : h30.size ≤ h31.size := E31.1
  have lt31 : b31 < h31.size := A31.lt
  have V31 : Arv Z h31 b31 k31 .int (6 : Int32) [(.int (0 : Int32)), (.int (0 : Int32)), (.int (0 : Int32)), (.int (0 : Int32)), (.int (0 : Int32)), (.int (0 : Int32))] (.int (0 : Int32)) := (Arv.new A31 dd).pad (pad_rep [] (.int (0 : Int32)) 6)
  refine Comes.st st31 ?_
  refine cs (fun t k => XS.dup X31.here hx rfl (hb hby at_124) rfl rfl (xiconst X31 hc at_125 (xiconst X31 hc at_126 k))) ?_
  show Comes p e below _ (T31.setTop (mkF m 127 #[vi flag, vj q1, S2, vj q2, S2, vj q3, S2, vj base, S2, vi j3, vi v5, vr b6, vi v22, vr b23, U0, U0, U0, U0, U0, U0, U0, U0, U0, U0, U0] [(.int (1 : Int32)), (.int (0 : Int32)), (.ref b31), (.ref b31)]))
  refine Comes.wrI X31 hx hZ e31 V31 rfl rfl 0 (hb hby at_127) fun T32 h32 X32 e32 W32 V32 => ?_
  have z32 : h32.size = h31.size := W32.size
  have gn33 : n0 ≤ b31 := by omega
  have N32 := Fr.snoc X32 N30 gn33
  refine cs (fun t k => XS.dup X32.here hx rfl (hb hby at_128) rfl rfl (xiconst X32 hc at_129 (xiconst X32 hc at_130 k))) ?_
  show Comes p e below _ (T32.setTop (mkF m 131 #[vi flag, vj q1, S2, vj q2, S2, vj q3, S2, vj base, S2, vi j3, vi v5, vr b6, vi v22, vr b23, U0, U0, U0, U0, U0, U0, U0, U0, U0, U0, U0] [(.int (2 : Int32)), (.int (1 : Int32)), (.ref b31), (.ref b31)]))
  refine Comes.wrI X32 hx hZ e32 V32 rfl rfl 1 (hb hby at_131) fun T34 h34 X34 e34 W34 V34 => ?_
  have z34 : h34.size = h32.size := W34.size
  have N34 := Fr.snoc X34 N32 gn33
  refine cs (fun t k => XS.dup X34.here hx rfl (hb hby at_132) rfl rfl (xiconst X34 hc at_133 (xiconst X34 hc at_134 k))) ?_
  show Comes p e below _ (T34.setTop (mkF m 135 #[vi flag, vj q1, S2, vj q2, S2, vj q3, S2, vj base, S2, vi j3, vi v5, vr b6, vi v22, vr b23, U0, U0, U0, U0, U0, U0, U0, U0, U0, U0, U0] [(.int (0 : Int32)), (.int (2 : Int32)), (.ref b31), (.ref b31)]))
  refine Comes.wrI X34 hx hZ e34 V34 rfl rfl 2 (hb hby at_135) fun T35 h35 X35 e35 W35 V35 => ?_
  have z35 : h35.size = h34.size := W35.size
  have N35 := Fr.snoc X35 N34 gn33
  refine cs (fun t k => XS.dup X35.here hx rfl (hb hby at_136) rfl rfl (xiconst X35 hc at_137 (xiconst X35 hc at_138 k))) ?_
  show Comes p e below _ (T35.setTop (mkF m 139 #[vi flag, vj q1, S2, vj q2, S2, vj q3, S2, vj base, S2, vi j3, vi v5, vr b6, vi v22, vr b23, U0, U0, U0, U0, U0, U0, U0, U0, U0, U0, U0] [(.int (2 : Int32)), (.int (3 : Int32)), (.ref b31), (.ref b31)]))
  refine Comes.wrI X35 hx hZ e35 V35 rfl rfl 3 (hb hby at_139) fun T36 h36 X36 e36 W36 V36 => ?_
  have z36 : h36.size = h35.size := W36.size
  have N36 := Fr.snoc X36 N35 gn33
  refine cs (fun t k => XS.dup X36.here hx rfl (hb hby at_140) rfl rfl (xiconst X36 hc at_141 (xiconst X36 hc at_142 k))) ?_
  show Comes p e below _ (T36.setTop (mkF m 143 #[vi flag, vj q1, S2, vj q2, S2, vj q3, S2, vj base, S2, vi j3, vi v5, vr b6, vi v22, vr b23, U0, U0, U0, U0, U0, U0, U0, U0, U0, U0, U0] [(.int (0 : Int32)), (.int (4 : Int32)), (.ref b31), (.ref b31)]))
  refine Comes.wrI X36 hx hZ e36 V36 rfl rfl 4 (hb hby at_143) fun T37 h37 X37 e37 W37 V37 => ?_
  have z37 : h37.size = h36.size := W37.size
  have N37 := Fr.snoc X37 N36 gn33
  refine cs (fun t k => XS.dup X37.here hx rfl (hb hby at_144) rfl rfl (xiconst X37 hc at_145 (xiconst X37 hc at_146 k))) ?_
  show Comes p e below _ (T37.setTop (mkF m 147 #[vi flag, vj q1, S2, vj q2, S2, vj q3, S2, vj base, S2, vi j3, vi v5, vr b6, vi v22, vr b23, U0, U0, U0, U0, U0, U0, U0, U0, U0, U0, U0] [(.int (1 : Int32)), (.int (5 : Int32)), (.ref b31), (.ref b31)]))
  refine Comes.wrI X37 hx hZ e37 V37 rfl rfl 5 (hb hby at_147) fun T38 h38 X38 e38 W38 V38 => ?_
  have z38 : h38.size = h37.size := W38.size
  have N38 := Fr.snoc X38 N37 gn33
  refine cs (fun t k => xastore X38 hc at_148 rfl rfl rfl (XS.bipush X38.here hx rfl (hb hby at_150) k)) ?_
  show Comes p e below _ (T38.setTop (mkF m 152 #[vi flag, vj q1, S2, vj q2, S2, vj q3, S2, vj base, S2, vi j3, vi v5, vr b6, vi v22, vr b23, vr b31, U0, U0, U0, U0, U0, U0, U0, U0, U0, U0] [(.int (6 : Int32))]))
  obtain ⟨T39, h39, k39, X39, e39, E39, A39, st39⟩ := newP X38 hx hZ (W hw 1) e38 (g := (mkF m 152 #[vi flag, vj q1, S2, vj q2, S2, vj q3, S2, vj base, S2, vi j3, vi v5, vr b6, vi v22, vr b23, vr b31, U0, U0, U0, U0, U0, U0, U0, U0, U0, U0] [(.int (6 : Int32))])) rfl (hb hby at_152) rfl dd (cap := 6) dd dd dd dd
  obtain ⟨b39, g39⟩ : ∃ z, z = h38.size := ⟨_, rfl⟩
  rw [← g39] at A39 st39
  have z39 : h38.size ≤ h39.size := E39.1
  have lt39 : b39 < h39.size := A39.lt
  have V39 : Arv Z h39 b39 k39 .int (6 : Int32) [(.int (0 : Int32)), (.int (0 : Int32)), (.int (0 : Int32)), (.int (0 : Int32)), (.int (0 : Int32)), (.int (0 : Int32))] (.int (0 : Int32)) := (Arv.new A39 dd).pad (pad_rep [] (.int (0 : Int32)) 6)
  refine Comes.st st39 ?_
  refine cs (fun t k => XS.dup X39.here hx rfl (hb hby at_154) rfl rfl (xiconst X39 hc at_155 (xiconst X39 hc at_156 k))) ?_
  show Comes p e below _ (T39.setTop (mkF m 157 #[vi flag, vj q1, S2, vj q2, S2, vj q3, S2, vj base, S2, vi j3, vi v5, vr b6, vi v22, vr b23, vr b31, U0, U0, U0, U0, U0, U0, U0, U0, U0, U0] [(.int (2 : Int32)), (.int (0 : Int32)), (.ref b39), (.ref b39)]))
  refine Comes.wrI X39 hx hZ e39 V39 rfl rfl 0 (hb hby at_157) fun T40 h40 X40 e40 W40 V40 => ?_
  have z40 : h40.size = h39.size := W40.size
  have gn41 : n0 ≤ b39 := by omega
  have N40 := Fr.snoc X40 N38 gn41
  refine cs (fun t k => XS.dup X40.here hx rfl (hb hby at_158) rfl rfl (xiconst X40 hc at_159 (xiconst X40 hc at_160 k))) ?_
  show Comes p e below _ (T40.setTop (mkF m 161 #[vi flag, vj q1, S2, vj q2, S2, vj q3, S2, vj base, S2, vi j3, vi v5, vr b6, vi v22, vr b23, vr b31, U0, U0, U0, U0, U0, U0, U0, U0, U0, U0] [(.int (1 : Int32)), (.int (1 : Int32)), (.ref b39), (.ref b39)]))
  refine Comes.wrI X40 hx hZ e40 V40 rfl rfl 1 (hb hby at_161) fun T42 h42 X42 e42 W42 V42 => ?_
  have z42 : h42.size = h40.size := W42.size
  have N42 := Fr.snoc X42 N40 gn41
  refine cs (fun t k => XS.dup X42.here hx rfl (hb hby at_162) rfl rfl (xiconst X42 hc at_163 (xiconst X42 hc at_164 k))) ?_
  show Comes p e below _ (T42.setTop (mkF m 165 #[vi flag, vj q1, S2, vj q2, S2, vj q3, S2, vj base, S2, vi j3, vi v5, vr b6, vi v22, vr b23, vr b31, U0, U0, U0, U0, U0, U0, U0, U0, U0, U0] [(.int (2 : Int32)), (.int (2 : Int32)), (.ref b39), (.ref b39)]))
  refine Comes.wrI X42 hx hZ e42 V42 rfl rfl 2 (hb hby at_165) fun T43 h43 X43 e43 W43 V43 => ?_
  have z43 : h43.size = h42.size := W43.size
  have N43 := Fr.snoc X43 N42 gn41
  refine cs (fun t k => XS.dup X43.here hx rfl (hb hby at_166) rfl rfl (xiconst X43 hc at_167 (xiconst X43 hc at_168 k))) ?_
  show Comes p e below _ (T43.setTop (mkF m 169 #[vi flag, vj q1, S2, vj q2, S2, vj q3, S2, vj base, S2, vi j3, vi v5, vr b6, vi v22, vr b23, vr b31, U0, U0, U0, U0, U0, U0, U0, U0, U0, U0] [(.int (0 : Int32)), (.int (3 : Int32)), (.ref b39), (.ref b39)]))
  refine Comes.wrI X43 hx hZ e43 V43 rfl rfl 3 (hb hby at_169) fun T44 h44 X44 e44 W44 V44 => ?_
  have z44 : h44.size = h43.size := W44.size
  have N44 := Fr.snoc X44 N43 gn41
  refine cs (fun t k => XS.dup X44.here hx rfl (hb hby at_170) rfl rfl (xiconst X44 hc at_171 (xiconst X44 hc at_172 k))) ?_
  show Comes p e below _ (T44.setTop (mkF m 173 #[vi flag, vj q1, S2, vj q2, S2, vj q3, S2, vj base, S2, vi j3, vi v5, vr b6, vi v22, vr b23, vr b31, U0, U0, U0, U0, U0, U0, U0, U0, U0, U0] [(.int (1 : Int32)), (.int (4 : Int32)), (.ref b39), (.ref b39)]))
  refine Comes.wrI X44 hx hZ e44 V44 rfl rfl 4 (hb hby at_173) fun T45 h45 X45 e45 W45 V45 => ?_
  have z45 : h45.size = h44.size := W45.size
  have N45 := Fr.snoc X45 N44 gn41
  refine cs (fun t k => XS.dup X45.here hx rfl (hb hby at_174) rfl rfl (xiconst X45 hc at_175 (xiconst X45 hc at_176 k))) ?_
  show Comes p e below _ (T45.setTop (mkF m 177 #[vi flag, vj q1, S2, vj q2, S2, vj q3, S2, vj base, S2, vi j3, vi v5, vr b6, vi v22, vr b23, vr b31, U0, U0, U0, U0, U0, U0, U0, U0, U0, U0] [(.int (0 : Int32)), (.int (5 : Int32)), (.ref b39), (.ref b39)]))
  refine Comes.wrI X45 hx hZ e45 V45 rfl rfl 5 (hb hby at_177) fun T46 h46 X46 e46 W46 V46 => ?_
  have z46 : h46.size = h45.size := W46.size
  have N46 := Fr.snoc X46 N45 gn41
  refine cs (fun t k => xastore X46 hc at_178 rfl rfl rfl (xiconst X46 hc at_180 k)) ?_
  show Comes p e below _ (T46.setTop (mkF m 181 #[vi flag, vj q1, S2, vj q2, S2, vj q3, S2, vj base, S2, vi j3, vi v5, vr b6, vi v22, vr b23, vr b31, vr b39, U0, U0, U0, U0, U0, U0, U0, U0, U0] [(.int (3 : Int32))]))
  obtain ⟨T47, h47, k47, X47, e47, E47, A47, st47⟩ := newP X46 hx hZ (W hw 0) e46 (g := (mkF m 181 #[vi flag, vj q1, S2, vj q2, S2, vj q3, S2, vj base, S2, vi j3, vi v5, vr b6, vi v22, vr b23, vr b31, vr b39, U0, U0, U0, U0, U0, U0, U0, U0, U0] [(.int (3 : Int32))])) rfl (hb hby at_181) rfl dd (cap := 3) dd dd dd dd
  obtain ⟨b47, g47⟩ : ∃ z, z = h46.size := ⟨_, rfl⟩
  rw [← g47] at A47 st47
  have z47 : h46.size ≤ h47.size := E47.1
  have lt47 : b47 < h47.size := A47.lt
  have V47 : Arv Z h47 b47 k47 .long (3 : Int32) [(.long (0 : Int64)), (.long (0 : Int64)), (.long (0 : Int64))] (.long (0 : Int64)) := (Arv.new A47 dd).pad (pad_rep [] (.long (0 : Int64)) 3)
  refine Comes.st st47 ?_
  refine cs (fun t k => xastore X47 hc at_183 rfl rfl rfl k) ?_
  have J48 : Comes p e below (fun S' => ∃ (T' : State), ∃ (L' : List Loc), ∃ (j140 : Int32), ∃ (j141 : Int64), ∃ (j142 : Int64), ∃ (j143 : Int64), (S' = T'.setTop (mkF m 224 #[vi flag, vj q1, S2, vj q2, S2, vj q3, S2, vj base, S2, vi j3, vi v5, vr b6, vi j140, vr b23, vr b31, vr b39, vr b47, U0, U0, U0, U0, U0, U0, U0, U0] [])) ∧ (Stand p l e room_1 s m #[(.int flag), (.long q1), (.long q2), (.long q3), (.long base)] below meth c T' L' 5 24) ∧ (Keep h47 T'.heap [b47]) ∧ (Fr n0 L') ∧ (Arv Z T'.heap b47 k47 .long (3 : Int32) [(.long j141), (.long j142), (.long j143)] (.long (0 : Int64))) ∧ (j141 ≠ j142 ∧ j141 ≠ j143 ∧ j142 ≠ j143)) (T47.setTop (mkF m 185 #[vi flag, vj q1, S2, vj q2, S2, vj q3, S2, vj base, S2, vi j3, vi v5, vr b6, vi v22, vr b23, vr b31, vr b39, vr b47, U0, U0, U0, U0, U0, U0, U0, U0] [])) := by
    have hsp49 : v22 = (0 : Int32) ∨ v22 = (1 : Int32) ∨ v22 = (2 : Int32) ∨ v22 = (3 : Int32) ∨ v22 = (4 : Int32) ∨ v22 = (5 : Int32) := by have a_0 := c_iushr flag (3 : Int32) 3 dd dd; have a_1 := c_iushr flag (5 : Int32) 5 dd dd; have a_2 := c_iushr flag (6 : Int32) 6 dd dd; have a_3 := c_iushr flag (7 : Int32) 7 dd dd; have a_4 := c_irem ((flag.toUInt32 >>> ((7 : Int32) &&& 31).toUInt32).toInt32) (6 : Int32) 6 dd; rw [hv_v22] at a_4; have a_5 := rng32 ((flag.toUInt32 >>> ((3 : Int32) &&& 31).toUInt32).toInt32); have a_6 := rng32 ((flag.toUInt32 >>> ((5 : Int32) &&& 31).toUInt32).toInt32); have a_7 := rng32 ((flag.toUInt32 >>> ((6 : Int32) &&& 31).toUInt32).toInt32); have a_8 := rng32 ((flag.toUInt32 >>> ((7 : Int32) &&& 31).toUInt32).toInt32); have a_9 := rng32 flag; have a_10 := rng32 v22; (try simp only [ne_eq, Int32.lt_iff_toInt_lt, Int64.lt_iff_toInt_lt, ← Int32.toInt_inj, ← Int64.toInt_inj, Int32.reduceToInt, Int64.reduceToInt, eq_self, and_true, true_and, or_true, true_or, and_false, false_and, or_false, false_or, not_true_eq_false, not_false_eq_true] at a_0 a_1 a_2 a_3 a_4 a_5 a_6 a_7 a_8 a_9 a_10 ⊢) <;> omega
    rcases hsp49 with rfl | rfl | rfl | rfl | rfl | rfl
    · refine cs (fun t k => xaload X47 hc at_185 rfl rfl (xiconst X47 hc at_187 (XS.lload X47.here hx rfl (hb hby at_188) rfl (xaload X47 hc at_190 rfl rfl (xiload X47 hc at_192 rfl k))))) ?_
      show Comes p e below _ (T47.setTop (mkF m 194 #[vi flag, vj q1, S2, vj q2, S2, vj q3, S2, vj base, S2, vi j3, vi v5, vr b6, vi (0 : Int32), vr b23, vr b31, vr b39, vr b47, U0, U0, U0, U0, U0, U0, U0, U0] [(.int (0 : Int32)), (.ref b23), (.long base), (.int (0 : Int32)), (.ref b47)]))
      have ne50 : b23 ≠ b31 := by omega
      have ne51 : b23 ≠ b39 := by omega
      have F52 := (((((((((((((((V30.ext E31).other W32 ne50).other W34 ne50).other W35 ne50).other W36 ne50).other W37 ne50).other W38 ne50).ext E39).other W40 ne51).other W42 ne51).other W43 ne51).other W44 ne51).other W45 ne51).other W46 ne51).ext E47)
      refine Comes.ldI X47 hx hZ e47 F52 rfl rfl (x := (0 : Int32)) rfl (hb hby at_194) ?_
      refine cs (fun t k => XS.i2l X47.here hx rfl (hb hby at_195) rfl k) ?_
      show Comes p e below _ (T47.setTop (mkF m 196 #[vi flag, vj q1, S2, vj q2, S2, vj q3, S2, vj base, S2, vi j3, vi v5, vr b6, vi (0 : Int32), vr b23, vr b31, vr b39, vr b47, U0, U0, U0, U0, U0, U0, U0, U0] [(.long ((0 : Int32).toInt64)), (.long base), (.int (0 : Int32)), (.ref b47)]))
      rw [show ((0 : Int32).toInt64) = (0 : Int64) from by decide]
      refine cs (fun t k => XS.ladd X47.here hx rfl (hb hby at_196) rfl k) ?_
      refine Comes.wrJ X47 hx hZ e47 V47 rfl rfl 0 (hb hby at_197) fun T54 h54 X54 e54 W54 V54 => ?_
      have z54 : h54.size = h47.size := W54.size
      have gn55 : n0 ≤ b47 := by omega
      have N54 := Fr.snoc X54 N46 gn55
      refine cs (fun t k => xaload X54 hc at_198 rfl rfl (xiconst X54 hc at_200 (XS.lload X54.here hx rfl (hb hby at_201) rfl (xaload X54 hc at_203 rfl rfl (xiload X54 hc at_205 rfl k))))) ?_
      show Comes p e below _ (T54.setTop (mkF m 207 #[vi flag, vj q1, S2, vj q2, S2, vj q3, S2, vj base, S2, vi j3, vi v5, vr b6, vi (0 : Int32), vr b23, vr b31, vr b39, vr b47, U0, U0, U0, U0, U0, U0, U0, U0] [(.int (0 : Int32)), (.ref b31), (.long base), (.int (1 : Int32)), (.ref b47)]))
      have ne56 : b31 ≠ b39 := by omega
      have ne57 : b31 ≠ b47 := by omega
      have F58 := (((((((((V38.ext E39).other W40 ne56).other W42 ne56).other W43 ne56).other W44 ne56).other W45 ne56).other W46 ne56).ext E47).other W54 ne57)
      refine Comes.ldI X54 hx hZ e54 F58 rfl rfl (x := (1 : Int32)) rfl (hb hby at_207) ?_
      refine cs (fun t k => XS.i2l X54.here hx rfl (hb hby at_208) rfl k) ?_
      show Comes p e below _ (T54.setTop (mkF m 209 #[vi flag, vj q1, S2, vj q2, S2, vj q3, S2, vj base, S2, vi j3, vi v5, vr b6, vi (0 : Int32), vr b23, vr b31, vr b39, vr b47, U0, U0, U0, U0, U0, U0, U0, U0] [(.long ((1 : Int32).toInt64)), (.long base), (.int (1 : Int32)), (.ref b47)]))
      rw [show ((1 : Int32).toInt64) = (1 : Int64) from by decide]
      refine cs (fun t k => XS.ladd X54.here hx rfl (hb hby at_209) rfl k) ?_
      refine Comes.wrJ X54 hx hZ e54 V54 rfl rfl 1 (hb hby at_210) fun T60 h60 X60 e60 W60 V60 => ?_
      have z60 : h60.size = h54.size := W60.size
      have N60 := Fr.snoc X60 N54 gn55
      refine cs (fun t k => xaload X60 hc at_211 rfl rfl (xiconst X60 hc at_213 (XS.lload X60.here hx rfl (hb hby at_214) rfl (xaload X60 hc at_216 rfl rfl (xiload X60 hc at_218 rfl k))))) ?_
      show Comes p e below _ (T60.setTop (mkF m 220 #[vi flag, vj q1, S2, vj q2, S2, vj q3, S2, vj base, S2, vi j3, vi v5, vr b6, vi (0 : Int32), vr b23, vr b31, vr b39, vr b47, U0, U0, U0, U0, U0, U0, U0, U0] [(.int (0 : Int32)), (.ref b39), (.long base), (.int (2 : Int32)), (.ref b47)]))
      have ne61 : b39 ≠ b47 := by omega
      have F62 := (((V46.ext E47).other W54 ne61).other W60 ne61)
      refine Comes.ldI X60 hx hZ e60 F62 rfl rfl (x := (2 : Int32)) rfl (hb hby at_220) ?_
      refine cs (fun t k => XS.i2l X60.here hx rfl (hb hby at_221) rfl k) ?_
      show Comes p e below _ (T60.setTop (mkF m 222 #[vi flag, vj q1, S2, vj q2, S2, vj q3, S2, vj base, S2, vi j3, vi v5, vr b6, vi (0 : Int32), vr b23, vr b31, vr b39, vr b47, U0, U0, U0, U0, U0, U0, U0, U0] [(.long ((2 : Int32).toInt64)), (.long base), (.int (2 : Int32)), (.ref b47)]))
      rw [show ((2 : Int32).toInt64) = (2 : Int64) from by decide]
      refine cs (fun t k => XS.ladd X60.here hx rfl (hb hby at_222) rfl k) ?_
      refine Comes.wrJ X60 hx hZ e60 V60 rfl rfl 2 (hb hby at_223) fun T64 h64 X64 e64 W64 V64 => ?_
      have z64 : h64.size = h60.size := W64.size
      have N64 := Fr.snoc X64 N60 gn55
      show Comes p e below _ (T64.setTop (mkF m 224 #[vi flag, vj q1, S2, vj q2, S2, vj q3, S2, vj base, S2, vi j3, vi v5, vr b6, vi (0 : Int32), vr b23, vr b31, vr b39, vr b47, U0, U0, U0, U0, U0, U0, U0, U0] []))
      exact Comes.here ⟨_, _, (0 : Int32), (base + (0 : Int64)), (base + (1 : Int64)), (base + (2 : Int64)), rfl, X64, (by rw [e64]; exact ((((Keep.refl h47 [b47]).wr W54 (mE 0)).wr W60 (mE 0)).wr W64 (mE 0))), N64, (by rw [e64]; exact V64), (by exact ⟨own_addne dd, own_addne dd, own_addne dd⟩)⟩
    · refine cs (fun t k => xaload X47 hc at_185 rfl rfl (xiconst X47 hc at_187 (XS.lload X47.here hx rfl (hb hby at_188) rfl (xaload X47 hc at_190 rfl rfl (xiload X47 hc at_192 rfl k))))) ?_
      show Comes p e below _ (T47.setTop (mkF m 194 #[vi flag, vj q1, S2, vj q2, S2, vj q3, S2, vj base, S2, vi j3, vi v5, vr b6, vi (1 : Int32), vr b23, vr b31, vr b39, vr b47, U0, U0, U0, U0, U0, U0, U0, U0] [(.int (1 : Int32)), (.ref b23), (.long base), (.int (0 : Int32)), (.ref b47)]))
      have ne65 : b23 ≠ b31 := by omega
      have ne66 : b23 ≠ b39 := by omega
      have F67 := (((((((((((((((V30.ext E31).other W32 ne65).other W34 ne65).other W35 ne65).other W36 ne65).other W37 ne65).other W38 ne65).ext E39).other W40 ne66).other W42 ne66).other W43 ne66).other W44 ne66).other W45 ne66).other W46 ne66).ext E47)
      refine Comes.ldI X47 hx hZ e47 F67 rfl rfl (x := (0 : Int32)) rfl (hb hby at_194) ?_
      refine cs (fun t k => XS.i2l X47.here hx rfl (hb hby at_195) rfl k) ?_
      show Comes p e below _ (T47.setTop (mkF m 196 #[vi flag, vj q1, S2, vj q2, S2, vj q3, S2, vj base, S2, vi j3, vi v5, vr b6, vi (1 : Int32), vr b23, vr b31, vr b39, vr b47, U0, U0, U0, U0, U0, U0, U0, U0] [(.long ((0 : Int32).toInt64)), (.long base), (.int (0 : Int32)), (.ref b47)]))
      rw [show ((0 : Int32).toInt64) = (0 : Int64) from by decide]
      refine cs (fun t k => XS.ladd X47.here hx rfl (hb hby at_196) rfl k) ?_
      refine Comes.wrJ X47 hx hZ e47 V47 rfl rfl 0 (hb hby at_197) fun T69 h69 X69 e69 W69 V69 => ?_
      have z69 : h69.size = h47.size := W69.size
      have gn70 : n0 ≤ b47 := by omega
      have N69 := Fr.snoc X69 N46 gn70
      refine cs (fun t k => xaload X69 hc at_198 rfl rfl (xiconst X69 hc at_200 (XS.lload X69.here hx rfl (hb hby at_201) rfl (xaload X69 hc at_203 rfl rfl (xiload X69 hc at_205 rfl k))))) ?_
      show Comes p e below _ (T69.setTop (mkF m 207 #[vi flag, vj q1, S2, vj q2, S2, vj q3, S2, vj base, S2, vi j3, vi v5, vr b6, vi (1 : Int32), vr b23, vr b31, vr b39, vr b47, U0, U0, U0, U0, U0, U0, U0, U0] [(.int (1 : Int32)), (.ref b31), (.long base), (.int (1 : Int32)), (.ref b47)]))
      have ne71 : b31 ≠ b39 := by omega
      have ne72 : b31 ≠ b47 := by omega
      have F73 := (((((((((V38.ext E39).other W40 ne71).other W42 ne71).other W43 ne71).other W44 ne71).other W45 ne71).other W46 ne71).ext E47).other W69 ne72)
      refine Comes.ldI X69 hx hZ e69 F73 rfl rfl (x := (2 : Int32)) rfl (hb hby at_207) ?_
      refine cs (fun t k => XS.i2l X69.here hx rfl (hb hby at_208) rfl k) ?_
      show Comes p e below _ (T69.setTop (mkF m 209 #[vi flag, vj q1, S2, vj q2, S2, vj q3, S2, vj base, S2, vi j3, vi v5, vr b6, vi (1 : Int32), vr b23, vr b31, vr b39, vr b47, U0, U0, U0, U0, U0, U0, U0, U0] [(.long ((2 : Int32).toInt64)), (.long base), (.int (1 : Int32)), (.ref b47)]))
      rw [show ((2 : Int32).toInt64) = (2 : Int64) from by decide]
      refine cs (fun t k => XS.ladd X69.here hx rfl (hb hby at_209) rfl k) ?_
      refine Comes.wrJ X69 hx hZ e69 V69 rfl rfl 1 (hb hby at_210) fun T75 h75 X75 e75 W75 V75 => ?_
      have z75 : h75.size = h69.size := W75.size
      have N75 := Fr.snoc X75 N69 gn70
      refine cs (fun t k => xaload X75 hc at_211 rfl rfl (xiconst X75 hc at_213 (XS.lload X75.here hx rfl (hb hby at_214) rfl (xaload X75 hc at_216 rfl rfl (xiload X75 hc at_218 rfl k))))) ?_
      show Comes p e below _ (T75.setTop (mkF m 220 #[vi flag, vj q1, S2, vj q2, S2, vj q3, S2, vj base, S2, vi j3, vi v5, vr b6, vi (1 : Int32), vr b23, vr b31, vr b39, vr b47, U0, U0, U0, U0, U0, U0, U0, U0] [(.int (1 : Int32)), (.ref b39), (.long base), (.int (2 : Int32)), (.ref b47)]))
      have ne76 : b39 ≠ b47 := by omega
      have F77 := (((V46.ext E47).other W69 ne76).other W75 ne76)
      refine Comes.ldI X75 hx hZ e75 F77 rfl rfl (x := (1 : Int32)) rfl (hb hby at_220) ?_
      refine cs (fun t k => XS.i2l X75.here hx rfl (hb hby at_221) rfl k) ?_
      show Comes p e below _ (T75.setTop (mkF m 222 #[vi flag, vj q1, S2, vj q2, S2, vj q3, S2, vj base, S2, vi j3, vi v5, vr b6, vi (1 : Int32), vr b23, vr b31, vr b39, vr b47, U0, U0, U0, U0, U0, U0, U0, U0] [(.long ((1 : Int32).toInt64)), (.long base), (.int (2 : Int32)), (.ref b47)]))
      rw [show ((1 : Int32).toInt64) = (1 : Int64) from by decide]
      refine cs (fun t k => XS.ladd X75.here hx rfl (hb hby at_222) rfl k) ?_
      refine Comes.wrJ X75 hx hZ e75 V75 rfl rfl 2 (hb hby at_223) fun T79 h79 X79 e79 W79 V79 => ?_
      have z79 : h79.size = h75.size := W79.size
      have N79 := Fr.snoc X79 N75 gn70
      show Comes p e below _ (T79.setTop (mkF m 224 #[vi flag, vj q1, S2, vj q2, S2, vj q3, S2, vj base, S2, vi j3, vi v5, vr b6, vi (1 : Int32), vr b23, vr b31, vr b39, vr b47, U0, U0, U0, U0, U0, U0, U0, U0] []))
      exact Comes.here ⟨_, _, (1 : Int32), (base + (0 : Int64)), (base + (2 : Int64)), (base + (1 : Int64)), rfl, X79, (by rw [e79]; exact ((((Keep.refl h47 [b47]).wr W69 (mE 0)).wr W75 (mE 0)).wr W79 (mE 0))), N79, (by rw [e79]; exact V79), (by exact ⟨own_addne dd, own_addne dd, own_addne dd⟩)⟩
    · refine cs (fun t k => xaload X47 hc at_185 rfl rfl (xiconst X47 hc at_187 (XS.lload X47.here hx rfl (hb hby at_188) rfl (xaload X47 hc at_190 rfl rfl (xiload X47 hc at_192 rfl k))))) ?_
      show Comes p e below _ (T47.setTop (mkF m 194 #[vi flag, vj q1, S2, vj q2, S2, vj q3, S2, vj base, S2, vi j3, vi v5, vr b6, vi (2 : Int32), vr b23, vr b31, vr b39, vr b47, U0, U0, U0, U0, U0, U0, U0, U0] [(.int (2 : Int32)), (.ref b23), (.long base), (.int (0 : Int32)), (.ref b47)]))
      have ne80 : b23 ≠ b31 := by omega
      have ne81 : b23 ≠ b39 := by omega
      have F82 := (((((((((((((((V30.ext E31).other W32 ne80).other W34 ne80).other W35 ne80).other W36 ne80).other W37 ne80).other W38 ne80).ext E39).other W40 ne81).other W42 ne81).other W43 ne81).other W44 ne81).other W45 ne81).other W46 ne81).ext E47)
      refine Comes.ldI X47 hx hZ e47 F82 rfl rfl (x := (1 : Int32)) rfl (hb hby at_194) ?_
      refine cs (fun t k => XS.i2l X47.here hx rfl (hb hby at_195) rfl k) ?_
      show Comes p e below _ (T47.setTop (mkF m 196 #[vi flag, vj q1, S2, vj q2, S2, vj q3, S2, vj base, S2, vi j3, vi v5, vr b6, vi (2 : Int32), vr b23, vr b31, vr b39, vr b47, U0, U0, U0, U0, U0, U0, U0, U0] [(.long ((1 : Int32).toInt64)), (.long base), (.int (0 : Int32)), (.ref b47)]))
      rw [show ((1 : Int32).toInt64) = (1 : Int64) from by decide]
      refine cs (fun t k => XS.ladd X47.here hx rfl (hb hby at_196) rfl k) ?_
      refine Comes.wrJ X47 hx hZ e47 V47 rfl rfl 0 (hb hby at_197) fun T84 h84 X84 e84 W84 V84 => ?_
      have z84 : h84.size = h47.size := W84.size
      have gn85 : n0 ≤ b47 := by omega
      have N84 := Fr.snoc X84 N46 gn85
      refine cs (fun t k => xaload X84 hc at_198 rfl rfl (xiconst X84 hc at_200 (XS.lload X84.here hx rfl (hb hby at_201) rfl (xaload X84 hc at_203 rfl rfl (xiload X84 hc at_205 rfl k))))) ?_
      show Comes p e below _ (T84.setTop (mkF m 207 #[vi flag, vj q1, S2, vj q2, S2, vj q3, S2, vj base, S2, vi j3, vi v5, vr b6, vi (2 : Int32), vr b23, vr b31, vr b39, vr b47, U0, U0, U0, U0, U0, U0, U0, U0] [(.int (2 : Int32)), (.ref b31), (.long base), (.int (1 : Int32)), (.ref b47)]))
      have ne86 : b31 ≠ b39 := by omega
      have ne87 : b31 ≠ b47 := by omega
      have F88 := (((((((((V38.ext E39).other W40 ne86).other W42 ne86).other W43 ne86).other W44 ne86).other W45 ne86).other W46 ne86).ext E47).other W84 ne87)
      refine Comes.ldI X84 hx hZ e84 F88 rfl rfl (x := (0 : Int32)) rfl (hb hby at_207) ?_
      refine cs (fun t k => XS.i2l X84.here hx rfl (hb hby at_208) rfl k) ?_
      show Comes p e below _ (T84.setTop (mkF m 209 #[vi flag, vj q1, S2, vj q2, S2, vj q3, S2, vj base, S2, vi j3, vi v5, vr b6, vi (2 : Int32), vr b23, vr b31, vr b39, vr b47, U0, U0, U0, U0, U0, U0, U0, U0] [(.long ((0 : Int32).toInt64)), (.long base), (.int (1 : Int32)), (.ref b47)]))
      rw [show ((0 : Int32).toInt64) = (0 : Int64) from by decide]
      refine cs (fun t k => XS.ladd X84.here hx rfl (hb hby at_209) rfl k) ?_
      refine Comes.wrJ X84 hx hZ e84 V84 rfl rfl 1 (hb hby at_210) fun T90 h90 X90 e90 W90 V90 => ?_
      have z90 : h90.size = h84.size := W90.size
      have N90 := Fr.snoc X90 N84 gn85
      refine cs (fun t k => xaload X90 hc at_211 rfl rfl (xiconst X90 hc at_213 (XS.lload X90.here hx rfl (hb hby at_214) rfl (xaload X90 hc at_216 rfl rfl (xiload X90 hc at_218 rfl k))))) ?_
      show Comes p e below _ (T90.setTop (mkF m 220 #[vi flag, vj q1, S2, vj q2, S2, vj q3, S2, vj base, S2, vi j3, vi v5, vr b6, vi (2 : Int32), vr b23, vr b31, vr b39, vr b47, U0, U0, U0, U0, U0, U0, U0, U0] [(.int (2 : Int32)), (.ref b39), (.long base), (.int (2 : Int32)), (.ref b47)]))
      have ne91 : b39 ≠ b47 := by omega
      have F92 := (((V46.ext E47).other W84 ne91).other W90 ne91)
      refine Comes.ldI X90 hx hZ e90 F92 rfl rfl (x := (2 : Int32)) rfl (hb hby at_220) ?_
      refine cs (fun t k => XS.i2l X90.here hx rfl (hb hby at_221) rfl k) ?_
      show Comes p e below _ (T90.setTop (mkF m 222 #[vi flag, vj q1, S2, vj q2, S2, vj q3, S2, vj base, S2, vi j3, vi v5, vr b6, vi (2 : Int32), vr b23, vr b31, vr b39, vr b47, U0, U0, U0, U0, U0, U0, U0, U0] [(.long ((2 : Int32).toInt64)), (.long base), (.int (2 : Int32)), (.ref b47)]))
      rw [show ((2 : Int32).toInt64) = (2 : Int64) from by decide]
      refine cs (fun t k => XS.ladd X90.here hx rfl (hb hby at_222) rfl k) ?_
      refine Comes.wrJ X90 hx hZ e90 V90 rfl rfl 2 (hb hby at_223) fun T94 h94 X94 e94 W94 V94 => ?_
      have z94 : h94.size = h90.size := W94.size
      have N94 := Fr.snoc X94 N90 gn85
      show Comes p e below _ (T94.setTop (mkF m 224 #[vi flag, vj q1, S2, vj q2, S2, vj q3, S2, vj base, S2, vi j3, vi v5, vr b6, vi (2 : Int32), vr b23, vr b31, vr b39, vr b47, U0, U0, U0, U0, U0, U0, U0, U0] []))
      exact Comes.here ⟨_, _, (2 : Int32), (base + (1 : Int64)), (base + (0 : Int64)), (base + (2 : Int64)), rfl, X94, (by rw [e94]; exact ((((Keep.refl h47 [b47]).wr W84 (mE 0)).wr W90 (mE 0)).wr W94 (mE 0))), N94, (by rw [e94]; exact V94), (by exact ⟨own_addne dd, own_addne dd, own_addne dd⟩)⟩
    · refine cs (fun t k => xaload X47 hc at_185 rfl rfl (xiconst X47 hc at_187 (XS.lload X47.here hx rfl (hb hby at_188) rfl (xaload X47 hc at_190 rfl rfl (xiload X47 hc at_192 rfl k))))) ?_
      show Comes p e below _ (T47.setTop (mkF m 194 #[vi flag, vj q1, S2, vj q2, S2, vj q3, S2, vj base, S2, vi j3, vi v5, vr b6, vi (3 : Int32), vr b23, vr b31, vr b39, vr b47, U0, U0, U0, U0, U0, U0, U0, U0] [(.int (3 : Int32)), (.ref b23), (.long base), (.int (0 : Int32)), (.ref b47)]))
      have ne95 : b23 ≠ b31 := by omega
      have ne96 : b23 ≠ b39 := by omega
      have F97 := (((((((((((((((V30.ext E31).other W32 ne95).other W34 ne95).other W35 ne95).other W36 ne95).other W37 ne95).other W38 ne95).ext E39).other W40 ne96).other W42 ne96).other W43 ne96).other W44 ne96).other W45 ne96).other W46 ne96).ext E47)
      refine Comes.ldI X47 hx hZ e47 F97 rfl rfl (x := (1 : Int32)) rfl (hb hby at_194) ?_
      refine cs (fun t k => XS.i2l X47.here hx rfl (hb hby at_195) rfl k) ?_
      show Comes p e below _ (T47.setTop (mkF m 196 #[vi flag, vj q1, S2, vj q2, S2, vj q3, S2, vj base, S2, vi j3, vi v5, vr b6, vi (3 : Int32), vr b23, vr b31, vr b39, vr b47, U0, U0, U0, U0, U0, U0, U0, U0] [(.long ((1 : Int32).toInt64)), (.long base), (.int (0 : Int32)), (.ref b47)]))
      rw [show ((1 : Int32).toInt64) = (1 : Int64) from by decide]
      refine cs (fun t k => XS.ladd X47.here hx rfl (hb hby at_196) rfl k) ?_
      refine Comes.wrJ X47 hx hZ e47 V47 rfl rfl 0 (hb hby at_197) fun T99 h99 X99 e99 W99 V99 => ?_
      have z99 : h99.size = h47.size := W99.size
      have gn100 : n0 ≤ b47 := by omega
      have N99 := Fr.snoc X99 N46 gn100
      refine cs (fun t k => xaload X99 hc at_198 rfl rfl (xiconst X99 hc at_200 (XS.lload X99.here hx rfl (hb hby at_201) rfl (xaload X99 hc at_203 rfl rfl (xiload X99 hc at_205 rfl k))))) ?_
      show Comes p e below _ (T99.setTop (mkF m 207 #[vi flag, vj q1, S2, vj q2, S2, vj q3, S2, vj base, S2, vi j3, vi v5, vr b6, vi (3 : Int32), vr b23, vr b31, vr b39, vr b47, U0, U0, U0, U0, U0, U0, U0, U0] [(.int (3 : Int32)), (.ref b31), (.long base), (.int (1 : Int32)), (.ref b47)]))
      have ne101 : b31 ≠ b39 := by omega
      have ne102 : b31 ≠ b47 := by omega
      have F103 := (((((((((V38.ext E39).other W40 ne101).other W42 ne101).other W43 ne101).other W44 ne101).other W45 ne101).other W46 ne101).ext E47).other W99 ne102)
      refine Comes.ldI X99 hx hZ e99 F103 rfl rfl (x := (2 : Int32)) rfl (hb hby at_207) ?_
      refine cs (fun t k => XS.i2l X99.here hx rfl (hb hby at_208) rfl k) ?_
      show Comes p e below _ (T99.setTop (mkF m 209 #[vi flag, vj q1, S2, vj q2, S2, vj q3, S2, vj base, S2, vi j3, vi v5, vr b6, vi (3 : Int32), vr b23, vr b31, vr b39, vr b47, U0, U0, U0, U0, U0, U0, U0, U0] [(.long ((2 : Int32).toInt64)), (.long base), (.int (1 : Int32)), (.ref b47)]))
      rw [show ((2 : Int32).toInt64) = (2 : Int64) from by decide]
      refine cs (fun t k => XS.ladd X99.here hx rfl (hb hby at_209) rfl k) ?_
      refine Comes.wrJ X99 hx hZ e99 V99 rfl rfl 1 (hb hby at_210) fun T105 h105 X105 e105 W105 V105 => ?_
      have z105 : h105.size = h99.size := W105.size
      have N105 := Fr.snoc X105 N99 gn100
      refine cs (fun t k => xaload X105 hc at_211 rfl rfl (xiconst X105 hc at_213 (XS.lload X105.here hx rfl (hb hby at_214) rfl (xaload X105 hc at_216 rfl rfl (xiload X105 hc at_218 rfl k))))) ?_
      show Comes p e below _ (T105.setTop (mkF m 220 #[vi flag, vj q1, S2, vj q2, S2, vj q3, S2, vj base, S2, vi j3, vi v5, vr b6, vi (3 : Int32), vr b23, vr b31, vr b39, vr b47, U0, U0, U0, U0, U0, U0, U0, U0] [(.int (3 : Int32)), (.ref b39), (.long base), (.int (2 : Int32)), (.ref b47)]))
      have ne106 : b39 ≠ b47 := by omega
      have F107 := (((V46.ext E47).other W99 ne106).other W105 ne106)
      refine Comes.ldI X105 hx hZ e105 F107 rfl rfl (x := (0 : Int32)) rfl (hb hby at_220) ?_
      refine cs (fun t k => XS.i2l X105.here hx rfl (hb hby at_221) rfl k) ?_
      show Comes p e below _ (T105.setTop (mkF m 222 #[vi flag, vj q1, S2, vj q2, S2, vj q3, S2, vj base, S2, vi j3, vi v5, vr b6, vi (3 : Int32), vr b23, vr b31, vr b39, vr b47, U0, U0, U0, U0, U0, U0, U0, U0] [(.long ((0 : Int32).toInt64)), (.long base), (.int (2 : Int32)), (.ref b47)]))
      rw [show ((0 : Int32).toInt64) = (0 : Int64) from by decide]
      refine cs (fun t k => XS.ladd X105.here hx rfl (hb hby at_222) rfl k) ?_
      refine Comes.wrJ X105 hx hZ e105 V105 rfl rfl 2 (hb hby at_223) fun T109 h109 X109 e109 W109 V109 => ?_
      have z109 : h109.size = h105.size := W109.size
      have N109 := Fr.snoc X109 N105 gn100
      show Comes p e below _ (T109.setTop (mkF m 224 #[vi flag, vj q1, S2, vj q2, S2, vj q3, S2, vj base, S2, vi j3, vi v5, vr b6, vi (3 : Int32), vr b23, vr b31, vr b39, vr b47, U0, U0, U0, U0, U0, U0, U0, U0] []))
      exact Comes.here ⟨_, _, (3 : Int32), (base + (1 : Int64)), (base + (2 : Int64)), (base + (0 : Int64)), rfl, X109, (by rw [e109]; exact ((((Keep.refl h47 [b47]).wr W99 (mE 0)).wr W105 (mE 0)).wr W109 (mE 0))), N109, (by rw [e109]; exact V109), (by exact ⟨own_addne dd, own_addne dd, own_addne dd⟩)⟩
    · refine cs (fun t k => xaload X47 hc at_185 rfl rfl (xiconst X47 hc at_187 (XS.lload X47.here hx rfl (hb hby at_188) rfl (xaload X47 hc at_190 rfl rfl (xiload X47 hc at_192 rfl k))))) ?_
      show Comes p e below _ (T47.setTop (mkF m 194 #[vi flag, vj q1, S2, vj q2, S2, vj q3, S2, vj base, S2, vi j3, vi v5, vr b6, vi (4 : Int32), vr b23, vr b31, vr b39, vr b47, U0, U0, U0, U0, U0, U0, U0, U0] [(.int (4 : Int32)), (.ref b23), (.long base), (.int (0 : Int32)), (.ref b47)]))
      have ne110 : b23 ≠ b31 := by omega
      have ne111 : b23 ≠ b39 := by omega
      have F112 := (((((((((((((((V30.ext E31).other W32 ne110).other W34 ne110).other W35 ne110).other W36 ne110).other W37 ne110).other W38 ne110).ext E39).other W40 ne111).other W42 ne111).other W43 ne111).other W44 ne111).other W45 ne111).other W46 ne111).ext E47)
      refine Comes.ldI X47 hx hZ e47 F112 rfl rfl (x := (2 : Int32)) rfl (hb hby at_194) ?_
      refine cs (fun t k => XS.i2l X47.here hx rfl (hb hby at_195) rfl k) ?_
      show Comes p e below _ (T47.setTop (mkF m 196 #[vi flag, vj q1, S2, vj q2, S2, vj q3, S2, vj base, S2, vi j3, vi v5, vr b6, vi (4 : Int32), vr b23, vr b31, vr b39, vr b47, U0, U0, U0, U0, U0, U0, U0, U0] [(.long ((2 : Int32).toInt64)), (.long base), (.int (0 : Int32)), (.ref b47)]))
      rw [show ((2 : Int32).toInt64) = (2 : Int64) from by decide]
      refine cs (fun t k => XS.ladd X47.here hx rfl (hb hby at_196) rfl k) ?_
      refine Comes.wrJ X47 hx hZ e47 V47 rfl rfl 0 (hb hby at_197) fun T114 h114 X114 e114 W114 V114 => ?_
      have z114 : h114.size = h47.size := W114.size
      have gn115 : n0 ≤ b47 := by omega
      have N114 := Fr.snoc X114 N46 gn115
      refine cs (fun t k => xaload X114 hc at_198 rfl rfl (xiconst X114 hc at_200 (XS.lload X114.here hx rfl (hb hby at_201) rfl (xaload X114 hc at_203 rfl rfl (xiload X114 hc at_205 rfl k))))) ?_
      show Comes p e below _ (T114.setTop (mkF m 207 #[vi flag, vj q1, S2, vj q2, S2, vj q3, S2, vj base, S2, vi j3, vi v5, vr b6, vi (4 : Int32), vr b23, vr b31, vr b39, vr b47, U0, U0, U0, U0, U0, U0, U0, U0] [(.int (4 : Int32)), (.ref b31), (.long base), (.int (1 : Int32)), (.ref b47)]))
      have ne116 : b31 ≠ b39 := by omega
      have ne117 : b31 ≠ b47 := by omega
      have F118 := (((((((((V38.ext E39).other W40 ne116).other W42 ne116).other W43 ne116).other W44 ne116).other W45 ne116).other W46 ne116).ext E47).other W114 ne117)
      refine Comes.ldI X114 hx hZ e114 F118 rfl rfl (x := (0 : Int32)) rfl (hb hby at_207) ?_
      refine cs (fun t k => XS.i2l X114.here hx rfl (hb hby at_208) rfl k) ?_
      show Comes p e below _ (T114.setTop (mkF m 209 #[vi flag, vj q1, S2, vj q2, S2, vj q3, S2, vj base, S2, vi j3, vi v5, vr b6, vi (4 : Int32), vr b23, vr b31, vr b39, vr b47, U0, U0, U0, U0, U0, U0, U0, U0] [(.long ((0 : Int32).toInt64)), (.long base), (.int (1 : Int32)), (.ref b47)]))
      rw [show ((0 : Int32).toInt64) = (0 : Int64) from by decide]
      refine cs (fun t k => XS.ladd X114.here hx rfl (hb hby at_209) rfl k) ?_
      refine Comes.wrJ X114 hx hZ e114 V114 rfl rfl 1 (hb hby at_210) fun T120 h120 X120 e120 W120 V120 => ?_
      have z120 : h120.size = h114.size := W120.size
      have N120 := Fr.snoc X120 N114 gn115
      refine cs (fun t k => xaload X120 hc at_211 rfl rfl (xiconst X120 hc at_213 (XS.lload X120.here hx rfl (hb hby at_214) rfl (xaload X120 hc at_216 rfl rfl (xiload X120 hc at_218 rfl k))))) ?_
      show Comes p e below _ (T120.setTop (mkF m 220 #[vi flag, vj q1, S2, vj q2, S2, vj q3, S2, vj base, S2, vi j3, vi v5, vr b6, vi (4 : Int32), vr b23, vr b31, vr b39, vr b47, U0, U0, U0, U0, U0, U0, U0, U0] [(.int (4 : Int32)), (.ref b39), (.long base), (.int (2 : Int32)), (.ref b47)]))
      have ne121 : b39 ≠ b47 := by omega
      have F122 := (((V46.ext E47).other W114 ne121).other W120 ne121)
      refine Comes.ldI X120 hx hZ e120 F122 rfl rfl (x := (1 : Int32)) rfl (hb hby at_220) ?_
      refine cs (fun t k => XS.i2l X120.here hx rfl (hb hby at_221) rfl k) ?_
      show Comes p e below _ (T120.setTop (mkF m 222 #[vi flag, vj q1, S2, vj q2, S2, vj q3, S2, vj base, S2, vi j3, vi v5, vr b6, vi (4 : Int32), vr b23, vr b31, vr b39, vr b47, U0, U0, U0, U0, U0, U0, U0, U0] [(.long ((1 : Int32).toInt64)), (.long base), (.int (2 : Int32)), (.ref b47)]))
      rw [show ((1 : Int32).toInt64) = (1 : Int64) from by decide]
      refine cs (fun t k => XS.ladd X120.here hx rfl (hb hby at_222) rfl k) ?_
      refine Comes.wrJ X120 hx hZ e120 V120 rfl rfl 2 (hb hby at_223) fun T124 h124 X124 e124 W124 V124 => ?_
      have z124 : h124.size = h120.size := W124.size
      have N124 := Fr.snoc X124 N120 gn115
      show Comes p e below _ (T124.setTop (mkF m 224 #[vi flag, vj q1, S2, vj q2, S2, vj q3, S2, vj base, S2, vi j3, vi v5, vr b6, vi (4 : Int32), vr b23, vr b31, vr b39, vr b47, U0, U0, U0, U0, U0, U0, U0, U0] []))
      exact Comes.here ⟨_, _, (4 : Int32), (base + (2 : Int64)), (base + (0 : Int64)), (base + (1 : Int64)), rfl, X124, (by rw [e124]; exact ((((Keep.refl h47 [b47]).wr W114 (mE 0)).wr W120 (mE 0)).wr W124 (mE 0))), N124, (by rw [e124]; exact V124), (by exact ⟨own_addne dd, own_addne dd, own_addne dd⟩)⟩
    · refine cs (fun t k => xaload X47 hc at_185 rfl rfl (xiconst X47 hc at_187 (XS.lload X47.here hx rfl (hb hby at_188) rfl (xaload X47 hc at_190 rfl rfl (xiload X47 hc at_192 rfl k))))) ?_
      show Comes p e below _ (T47.setTop (mkF m 194 #[vi flag, vj q1, S2, vj q2, S2, vj q3, S2, vj base, S2, vi j3, vi v5, vr b6, vi (5 : Int32), vr b23, vr b31, vr b39, vr b47, U0, U0, U0, U0, U0, U0, U0, U0] [(.int (5 : Int32)), (.ref b23), (.long base), (.int (0 : Int32)), (.ref b47)]))
      have ne125 : b23 ≠ b31 := by omega
      have ne126 : b23 ≠ b39 := by omega
      have F127 := (((((((((((((((V30.ext E31).other W32 ne125).other W34 ne125).other W35 ne125).other W36 ne125).other W37 ne125).other W38 ne125).ext E39).other W40 ne126).other W42 ne126).other W43 ne126).other W44 ne126).other W45 ne126).other W46 ne126).ext E47)
      refine Comes.ldI X47 hx hZ e47 F127 rfl rfl (x := (2 : Int32)) rfl (hb hby at_194) ?_
      refine cs (fun t k => XS.i2l X47.here hx rfl (hb hby at_195) rfl k) ?_
      show Comes p e below _ (T47.setTop (mkF m 196 #[vi flag, vj q1, S2, vj q2, S2, vj q3, S2, vj base, S2, vi j3, vi v5, vr b6, vi (5 : Int32), vr b23, vr b31, vr b39, vr b47, U0, U0, U0, U0, U0, U0, U0, U0] [(.long ((2 : Int32).toInt64)), (.long base), (.int (0 : Int32)), (.ref b47)]))
      rw [show ((2 : Int32).toInt64) = (2 : Int64) from by decide]
      refine cs (fun t k => XS.ladd X47.here hx rfl (hb hby at_196) rfl k) ?_
      refine Comes.wrJ X47 hx hZ e47 V47 rfl rfl 0 (hb hby at_197) fun T129 h129 X129 e129 W129 V129 => ?_
      have z129 : h129.size = h47.size := W129.size
      have gn130 : n0 ≤ b47 := by omega
      have N129 := Fr.snoc X129 N46 gn130
      refine cs (fun t k => xaload X129 hc at_198 rfl rfl (xiconst X129 hc at_200 (XS.lload X129.here hx rfl (hb hby at_201) rfl (xaload X129 hc at_203 rfl rfl (xiload X129 hc at_205 rfl k))))) ?_
      show Comes p e below _ (T129.setTop (mkF m 207 #[vi flag, vj q1, S2, vj q2, S2, vj q3, S2, vj base, S2, vi j3, vi v5, vr b6, vi (5 : Int32), vr b23, vr b31, vr b39, vr b47, U0, U0, U0, U0, U0, U0, U0, U0] [(.int (5 : Int32)), (.ref b31), (.long base), (.int (1 : Int32)), (.ref b47)]))
      have ne131 : b31 ≠ b39 := by omega
      have ne132 : b31 ≠ b47 := by omega
      have F133 := (((((((((V38.ext E39).other W40 ne131).other W42 ne131).other W43 ne131).other W44 ne131).other W45 ne131).other W46 ne131).ext E47).other W129 ne132)
      refine Comes.ldI X129 hx hZ e129 F133 rfl rfl (x := (1 : Int32)) rfl (hb hby at_207) ?_
      refine cs (fun t k => XS.i2l X129.here hx rfl (hb hby at_208) rfl k) ?_
      show Comes p e below _ (T129.setTop (mkF m 209 #[vi flag, vj q1, S2, vj q2, S2, vj q3, S2, vj base, S2, vi j3, vi v5, vr b6, vi (5 : Int32), vr b23, vr b31, vr b39, vr b47, U0, U0, U0, U0, U0, U0, U0, U0] [(.long ((1 : Int32).toInt64)), (.long base), (.int (1 : Int32)), (.ref b47)]))
      rw [show ((1 : Int32).toInt64) = (1 : Int64) from by decide]
      refine cs (fun t k => XS.ladd X129.here hx rfl (hb hby at_209) rfl k) ?_
      refine Comes.wrJ X129 hx hZ e129 V129 rfl rfl 1 (hb hby at_210) fun T135 h135 X135 e135 W135 V135 => ?_
      have z135 : h135.size = h129.size := W135.size
      have N135 := Fr.snoc X135 N129 gn130
      refine cs (fun t k => xaload X135 hc at_211 rfl rfl (xiconst X135 hc at_213 (XS.lload X135.here hx rfl (hb hby at_214) rfl (xaload X135 hc at_216 rfl rfl (xiload X135 hc at_218 rfl k))))) ?_
      show Comes p e below _ (T135.setTop (mkF m 220 #[vi flag, vj q1, S2, vj q2, S2, vj q3, S2, vj base, S2, vi j3, vi v5, vr b6, vi (5 : Int32), vr b23, vr b31, vr b39, vr b47, U0, U0, U0, U0, U0, U0, U0, U0] [(.int (5 : Int32)), (.ref b39), (.long base), (.int (2 : Int32)), (.ref b47)]))
      have ne136 : b39 ≠ b47 := by omega
      have F137 := (((V46.ext E47).other W129 ne136).other W135 ne136)
      refine Comes.ldI X135 hx hZ e135 F137 rfl rfl (x := (0 : Int32)) rfl (hb hby at_220) ?_
      refine cs (fun t k => XS.i2l X135.here hx rfl (hb hby at_221) rfl k) ?_
      show Comes p e below _ (T135.setTop (mkF m 222 #[vi flag, vj q1, S2, vj q2, S2, vj q3, S2, vj base, S2, vi j3, vi v5, vr b6, vi (5 : Int32), vr b23, vr b31, vr b39, vr b47, U0, U0, U0, U0, U0, U0, U0, U0] [(.long ((0 : Int32).toInt64)), (.long base), (.int (2 : Int32)), (.ref b47)]))
      rw [show ((0 : Int32).toInt64) = (0 : Int64) from by decide]
      refine cs (fun t k => XS.ladd X135.here hx rfl (hb hby at_222) rfl k) ?_
      refine Comes.wrJ X135 hx hZ e135 V135 rfl rfl 2 (hb hby at_223) fun T139 h139 X139 e139 W139 V139 => ?_
      have z139 : h139.size = h135.size := W139.size
      have N139 := Fr.snoc X139 N135 gn130
      show Comes p e below _ (T139.setTop (mkF m 224 #[vi flag, vj q1, S2, vj q2, S2, vj q3, S2, vj base, S2, vi j3, vi v5, vr b6, vi (5 : Int32), vr b23, vr b31, vr b39, vr b47, U0, U0, U0, U0, U0, U0, U0, U0] []))
      exact Comes.here ⟨_, _, (5 : Int32), (base + (2 : Int64)), (base + (1 : Int64)), (base + (0 : Int64)), rfl, X139, (by rw [e139]; exact ((((Keep.refl h47 [b47]).wr W129 (mE 0)).wr W135 (mE 0)).wr W139 (mE 0))), N139, (by rw [e139]; exact V139), (by exact ⟨own_addne dd, own_addne dd, own_addne dd⟩)⟩
  obtain ⟨_, st144, T144, L144, j140, j141, j142, j143, rfl, X144, Kq144, N144, f144_0, rel144⟩ := J48
  refine Comes.go st144 ?_
  have z144 : h47.size ≤ T144.heap.size := Kq144.1
  obtain ⟨T145, h145, X145, e145, E145, A145, D145, -, st145⟩ := newO X144 hx hZ hown (W hw 2) (W hw 3) (W hw 4) rfl (g := (mkF m 224 #[vi flag, vj q1, S2, vj q2, S2, vj q3, S2, vj base, S2, vi j3, vi v5, vr b6, vi j140, vr b23, vr b31, vr b39, vr b47, U0, U0, U0, U0, U0, U0, U0, U0] [])) rfl (hb hby at_224) dd dd
  obtain ⟨b145, g145⟩ : ∃ z, z = T144.heap.size := ⟨_, rfl⟩
  rw [← g145] at A145 D145 st145
  have z145 : T144.heap.size ≤ h145.size := E145.1
  have lt145 : b145 < h145.size := A145.lt
  have F146 : Fld Z h145 b145 sEo "time" "Ljava/lang/String;" .null := D145 (Or.inr (W hw 25)) (ty := (.object "java/lang/String")) dd
  have F147 : Fld Z h145 b145 sEo "participant" "Ljava/lang/String;" .null := D145 (Or.inr (W hw 27)) (ty := (.object "java/lang/String")) dd
  have F148 : Fld Z h145 b145 sEo "side" "Ljava/lang/String;" .null := D145 (Or.inr (W hw 29)) (ty := (.object "java/lang/String")) dd
  have F149 : Fld Z h145 b145 sEo "isin" "Ljava/lang/String;" .null := D145 (Or.inr (W hw 31)) (ty := (.object "java/lang/String")) dd
  have F150 : Fld Z h145 b145 sEo "size" "Ljava/lang/Long;" .null := D145 (Or.inr (W hw 33)) (ty := (.object "java/lang/Long")) dd
  have F151 : Fld Z h145 b145 sEo "rate" "Ljava/math/BigDecimal;" .null := D145 (Or.inr (W hw 35)) (ty := (.object "java/math/BigDecimal")) dd
  have F152 : Fld Z h145 b145 sEo "ref" "Ljava/lang/String;" .null := D145 (Or.inr (W hw 37)) (ty := (.object "java/lang/String")) dd
  have F153 : Fld Z h145 b145 sEo "expiry" "Ljava/time/LocalDate;" .null := D145 (Or.inr (W hw 39)) (ty := (.object "java/time/LocalDate")) dd
  refine Comes.st st145 ?_
  refine cs (fun t k => XS.dup X145.here hx rfl (hb hby at_227) rfl rfl (XS.aconstNull X145.here hx rfl (hb hby at_228) (XS.aconstNull X145.here hx rfl (hb hby at_229) (XS.aconstNull X145.here hx rfl (hb hby at_230) (XS.aconstNull X145.here hx rfl (hb hby at_231) (XS.lconst X145.here hx rfl (hb hby at_232) k)))))) ?_
  show Comes p e below _ (T145.setTop (mkF m 233 #[vi flag, vj q1, S2, vj q2, S2, vj q3, S2, vj base, S2, vi j3, vi v5, vr b6, vi j140, vr b23, vr b31, vr b39, vr b47, U0, U0, U0, U0, U0, U0, U0, U0] [(.long (1 : Int64)), .null, .null, .null, .null, (.ref b145), (.ref b145)]))
  have Od154 : Old Z n0 h145 := ((((((((((((((((((((((((((((G1.ext E6).wr W7 (by omega)).wr W13 (by omega)).wr W20 (by omega)).ext E23).wr W24 (by omega)).wr W26 (by omega)).wr W27 (by omega)).wr W28 (by omega)).wr W29 (by omega)).wr W30 (by omega)).ext E31).wr W32 (by omega)).wr W34 (by omega)).wr W35 (by omega)).wr W36 (by omega)).wr W37 (by omega)).wr W38 (by omega)).ext E39).wr W40 (by omega)).wr W42 (by omega)).wr W43 (by omega)).wr W44 (by omega)).wr W45 (by omega)).wr W46 (by omega)).ext E47).keep Kq144 (allS (by omega) all0)).ext E145)
  refine Comes.cS X145 hx hZ hown (y := y1) (W := 6) (W hw 5) (W hw 6) dd (W hw 8) (rm1 l Z a0 hw [] ca h145 n0 (by omega)  G0 Od154 (by assumption)) (W hw 7) dd dd e145 rfl (by rw [hml]; rfl) (argsL := [(.long (1 : Int64))]) (rest := [.null, .null, .null, .null, (.ref b145), (.ref b145)]) (lenOf pd_15 rfl) rfl (wle rfl) (hb hby at_233) rfl dd dd fun v155 T155 L155 hQ155 X155 => ?_
  obtain ⟨o156, r157, rfl, Nq155, hs155, P155_0, P155_1⟩ := hQ155
  have N155 := Fr.app N144 Nq155
  rw [hs155] at P155_0 P155_1
  have lt_158 : o156 < h145.size := P155_0.lt
  refine cs (fun t k => XS.aconstNull X155.here hx rfl (hb hby at_236) (XS.aconstNull X155.here hx rfl (hb hby at_237) (XS.aconstNull X155.here hx rfl (hb hby at_238) k))) ?_
  show Comes p e below _ (T155.setTop (mkF m 239 #[vi flag, vj q1, S2, vj q2, S2, vj q3, S2, vj base, S2, vi j3, vi v5, vr b6, vi j140, vr b23, vr b31, vr b39, vr b47, U0, U0, U0, U0, U0, U0, U0, U0] [.null, .null, .null, (.ref o156), .null, .null, .null, .null, (.ref b145), (.ref b145)]))
  have gn159 : n0 ≤ b145 := by omega
  refine Comes.cI X155 hx hZ hown (y := y2) (W := 1) (W hw 13) (W hw 14) rfl dd (W hw 15) (rm2 l Z a0 hw [] b145 o156 h145 n0 (by omega)  A145 F146 F147 F148 F149 F150 F151 F152 F153 gn159) (W hw 4) dd dd hs155 rfl (by rw [hml]; rfl) (argsL := [.null, .null, .null, .null, (.ref o156), .null, .null, .null]) (rest := [(.ref b145)]) (lenOf pd_16 rfl) rfl (wle rfl) (hb hby at_239) rfl dd dd fun v160 T160 L160 hQ160 X160 => ?_
  obtain ⟨rfl, Nq160, Kq160, P160_0, P160_1, P160_2, P160_3, P160_4, P160_5, P160_6, P160_7, P160_8⟩ := hQ160
  have N160 := Fr.app N155 Nq160
  have z160k : h145.size ≤ T160.heap.size := Kq160.1
  have lt_161 : b145 < T160.heap.size := P160_0.lt
  refine cs (fun t k => xastore X160 hc at_242 rfl rfl rfl (xiconst X160 hc at_244 k)) ?_
  show Comes p e below _ (T160.setTop (mkF m 245 #[vi flag, vj q1, S2, vj q2, S2, vj q3, S2, vj base, S2, vi j3, vi v5, vr b6, vi j140, vr b23, vr b31, vr b39, vr b47, vr b145, U0, U0, U0, U0, U0, U0, U0] [(.int (3 : Int32))]))
  obtain ⟨T162, h162, k162, X162, e162, E162, A162, O162, st162⟩ := newR X160 hx hZ hown (W hw 40) (W hw 41) rfl (g := (mkF m 245 #[vi flag, vj q1, S2, vj q2, S2, vj q3, S2, vj base, S2, vi j3, vi v5, vr b6, vi j140, vr b23, vr b31, vr b39, vr b47, vr b145, U0, U0, U0, U0, U0, U0, U0] [(.int (3 : Int32))])) rfl (hb hby at_245) rfl dd (cap := 3) dd dd dd dd
  obtain ⟨b162, g162⟩ : ∃ z, z = T160.heap.size := ⟨_, rfl⟩
  rw [← g162] at A162 st162
  have z162 : T160.heap.size ≤ h162.size := E162.1
  have lt162 : b162 < h162.size := A162.lt
  have V162 : Arv Z h162 b162 k162 (.object sOr) (3 : Int32) [.null, .null, .null] .null := (Arv.new A162 dd).pad (pad_rep [] .null 3)
  refine Comes.st st162 ?_
  refine cs (fun t k => xastore X162 hc at_248 rfl rfl rfl (xaload X162 hc at_250 rfl rfl (xiconst X162 hc at_252 k))) ?_
  show Comes p e below _ (T162.setTop (mkF m 253 #[vi flag, vj q1, S2, vj q2, S2, vj q3, S2, vj base, S2, vi j3, vi v5, vr b6, vi j140, vr b23, vr b31, vr b39, vr b47, vr b145, vr b162, U0, U0, U0, U0, U0, U0] [(.int (0 : Int32)), (.ref b162)]))
  obtain ⟨T163, h163, X163, e163, E163, A163, D163, -, st163⟩ := newO X162 hx hZ hown (W hw 40) (W hw 42) (W hw 43) e162 (g := (mkF m 253 #[vi flag, vj q1, S2, vj q2, S2, vj q3, S2, vj base, S2, vi j3, vi v5, vr b6, vi j140, vr b23, vr b31, vr b39, vr b47, vr b145, vr b162, U0, U0, U0, U0, U0, U0] [(.int (0 : Int32)), (.ref b162)])) rfl (hb hby at_253) dd dd
  obtain ⟨b163, g163⟩ : ∃ z, z = h162.size := ⟨_, rfl⟩
  rw [← g163] at A163 D163 st163
  have z163 : h162.size ≤ h163.size := E163.1
  have lt163 : b163 < h163.size := A163.lt
  have F164 : Fld Z h163 b163 sOr "book" "Lcom/example/tenorbook/tenorbook/engine/OrderBook;" .null := D163 (Or.inr (W hw 49)) (ty := (.object "com/example/tenorbook/tenorbook/engine/OrderBook")) dd
  have F165 : Fld Z h163 b163 sOr "number" "J" (.long (0 : Int64)) := D163 (Or.inr (W hw 51)) (ty := .long) dd
  have F166 : Fld Z h163 b163 sOr "participant" "Ljava/lang/String;" .null := D163 (Or.inr (W hw 58)) (ty := (.object "java/lang/String")) dd
  have F167 : Fld Z h163 b163 sOr "side" "Lcom/example/tenorbook/tenorbook/model/Side;" .null := D163 (Or.inr (W hw 60)) (ty := (.object "com/example/tenorbook/tenorbook/model/Side")) dd
  have F168 : Fld Z h163 b163 sOr "ticks" "J" (.long (0 : Int64)) := D163 (Or.inr (W hw 62)) (ty := .long) dd
  have F169 : Fld Z h163 b163 sOr "remaining" "J" (.long (0 : Int64)) := D163 (Or.inl (W hw 76)) (ty := .long) dd
  have F170 : Fld Z h163 b163 sOr "time" "Ljava/lang/String;" .null := D163 (Or.inr (W hw 83)) (ty := (.object "java/lang/String")) dd
  have F171 : Fld Z h163 b163 sOr "ref" "Ljava/lang/String;" .null := D163 (Or.inr (W hw 90)) (ty := (.object "java/lang/String")) dd
  have F172 : Fld Z h163 b163 sOr "expiry" "Ljava/time/LocalDate;" .null := D163 (Or.inr (W hw 97)) (ty := (.object "java/time/LocalDate")) dd
  have F173 : Fld Z h163 b163 sOr "after" dOr .null := D163 (Or.inl (W hw 200)) (ty := (.object sOr)) dd
  refine Comes.st st163 ?_
  refine cs (fun t k => XS.dup X163.here hx rfl (hb hby at_256) rfl rfl (XS.aconstNull X163.here hx rfl (hb hby at_257) (xaload X163 hc at_258 rfl rfl (xiconst X163 hc at_260 k)))) ?_
  show Comes p e below _ (T163.setTop (mkF m 261 #[vi flag, vj q1, S2, vj q2, S2, vj q3, S2, vj base, S2, vi j3, vi v5, vr b6, vi j140, vr b23, vr b31, vr b39, vr b47, vr b145, vr b162, U0, U0, U0, U0, U0, U0] [(.int (0 : Int32)), (.ref b47), .null, (.ref b163), (.ref b163), (.int (0 : Int32)), (.ref b162)]))
  have ne174 : b47 ≠ b145 := by omega
  have ni175 := ninS ne174 nin0
  have F176 := ((((f144_0.ext E145).keep Kq160 ni175).ext E162).ext E163)
  refine Comes.ldJ X163 hx hZ e163 F176 rfl rfl (x := j141) rfl (hb hby at_261) ?_
  refine cs (fun t k => XS.aconstNull X163.here hx rfl (hb hby at_262) (xaload X163 hc at_263 rfl rfl (xiconst X163 hc at_265 k))) ?_
  show Comes p e below _ (T163.setTop (mkF m 266 #[vi flag, vj q1, S2, vj q2, S2, vj q3, S2, vj base, S2, vi j3, vi v5, vr b6, vi j140, vr b23, vr b31, vr b39, vr b47, vr b145, vr b162, U0, U0, U0, U0, U0, U0] [(.int (0 : Int32)), (.ref b6), .null, (.long j141), .null, (.ref b163), (.ref b163), (.int (0 : Int32)), (.ref b162)]))
  have ne178 : b6 ≠ b23 := by omega
  have ne179 : b6 ≠ b31 := by omega
  have ne180 : b6 ≠ b39 := by omega
  have ne181 : b6 ≠ b47 := by omega
  have ni182 := ninS ne181 nin0
  have ne183 : b6 ≠ b145 := by omega
  have ni184 := ninS ne183 nin0
  have F185 := (((((((((((((((((((((((((((V20.ext E23).other W24 ne178).other W26 ne178).other W27 ne178).other W28 ne178).other W29 ne178).other W30 ne178).ext E31).other W32 ne179).other W34 ne179).other W35 ne179).other W36 ne179).other W37 ne179).other W38 ne179).ext E39).other W40 ne180).other W42 ne180).other W43 ne180).other W44 ne180).other W45 ne180).other W46 ne180).ext E47).keep Kq144 ni182).ext E145).keep Kq160 ni184).ext E162).ext E163)
  refine Comes.ldJ X163 hx hZ e163 F185 rfl rfl (x := q1) rfl (hb hby at_266) ?_
  refine cs (fun t k => xaload X163 hc at_267 rfl rfl k) ?_
  have F187 := ((P160_0.ext E162).ext E163)
  have F188 := ((P160_1.ext E162).ext E163)
  have F189 := ((P160_2.ext E162).ext E163)
  have F190 := ((P160_5.ext E162).ext E163)
  have F191 := ((P160_7.ext E162).ext E163)
  have F192 := ((P160_8.ext E162).ext E163)
  have F193 := (((P155_0.keep Kq160).ext E162).ext E163)
  have ne194 := ne_exa F193 F187 dd
  have ni195 := ninS ne194 nin0
  have F196 := (((P155_1.keep Kq160 ni195).ext E162).ext E163)
  have gn197 : n0 ≤ b163 := by omega
  have ne198 : b163 ≠ b145 := by omega
  have ne199 := ne_exa A163 F193 dd
  refine Comes.cI X163 hx hZ hown (y := y5) (W := 3) (W hw 44) (W hw 45) rfl dd (W hw 46) (rm5 l Z a0 hw [] b163 j141 q1 b145 o156 r157 h163 n0 (by omega)  A163 F164 F165 F166 F167 F168 F169 F170 F171 F172 F173 F187 F188 F189 F190 F191 F192 F193 F196 gn197 ne198 ne199) (W hw 43) dd dd e163 rfl (by rw [hml]; rfl) (argsL := [.null, (.long j141), .null, (.long q1), (.ref b145)]) (rest := [(.ref b163), (.int (0 : Int32)), (.ref b162)]) (lenOf pd_17 rfl) rfl (wle rfl) (hb hby at_269) rfl dd dd fun v200 T200 L200 hQ200 X200 => ?_
  obtain ⟨rfl, Nq200, Kq200, P200_0, P200_1, P200_2, P200_3⟩ := hQ200
  have N200 := Fr.app N160 Nq200
  have z200k : h163.size ≤ T200.heap.size := Kq200.1
  have lt_201 : b163 < T200.heap.size := P200_0.lt
  show Comes p e below _ (T200.setTop (mkF m 272 #[vi flag, vj q1, S2, vj q2, S2, vj q3, S2, vj base, S2, vi j3, vi v5, vr b6, vi j140, vr b23, vr b31, vr b39, vr b47, vr b145, vr b162, U0, U0, U0, U0, U0, U0] [(.ref b163), (.int (0 : Int32)), (.ref b162)]))
  have ne202 : b162 ≠ b163 := by omega
  have ni203 := ninS ne202 nin0
  have F204 := ((V162.ext E163).keep Kq200 ni203)
  refine Comes.wrR X200 hx hZ rfl F204 (Or.inr ⟨_, rfl, O162, (Ins.self P200_0)⟩) rfl rfl 0 (hb hby at_272) fun T205 h205 X205 e205 W205 V205 => ?_
  have z205 : h205.size = T200.heap.size := W205.size
  have gn206 : n0 ≤ b162 := by omega
  have N205 := Fr.snoc X205 N200 gn206
  refine cs (fun t k => xaload X205 hc at_273 rfl rfl (xiconst X205 hc at_275 k)) ?_
  show Comes p e below _ (T205.setTop (mkF m 276 #[vi flag, vj q1, S2, vj q2, S2, vj q3, S2, vj base, S2, vi j3, vi v5, vr b6, vi j140, vr b23, vr b31, vr b39, vr b47, vr b145, vr b162, U0, U0, U0, U0, U0, U0] [(.int (1 : Int32)), (.ref b162)]))
  obtain ⟨T207, h207, X207, e207, E207, A207, D207, -, st207⟩ := newO X205 hx hZ hown (W hw 40) (W hw 42) (W hw 43) e205 (g := (mkF m 276 #[vi flag, vj q1, S2, vj q2, S2, vj q3, S2, vj base, S2, vi j3, vi v5, vr b6, vi j140, vr b23, vr b31, vr b39, vr b47, vr b145, vr b162, U0, U0, U0, U0, U0, U0] [(.int (1 : Int32)), (.ref b162)])) rfl (hb hby at_276) dd dd
  obtain ⟨b207, g207⟩ : ∃ z, z = h205.size := ⟨_, rfl⟩
  rw [← g207] at A207 D207 st207
  have z207 : h205.size ≤ h207.size := E207.1
  have lt207 : b207 < h207.size := A207.lt
  have F208 : Fld Z h207 b207 sOr "book" "Lcom/example/tenorbook/tenorbook/engine/OrderBook;" .null := D207 (Or.inr (W hw 49)) (ty := (.object "com/example/tenorbook/tenorbook/engine/OrderBook")) dd
  have F209 : Fld Z h207 b207 sOr "number" "J" (.long (0 : Int64)) := D207 (Or.inr (W hw 51)) (ty := .long) dd
  have F210 : Fld Z h207 b207 sOr "participant" "Ljava/lang/String;" .null := D207 (Or.inr (W hw 58)) (ty := (.object "java/lang/String")) dd
  have F211 : Fld Z h207 b207 sOr "side" "Lcom/example/tenorbook/tenorbook/model/Side;" .null := D207 (Or.inr (W hw 60)) (ty := (.object "com/example/tenorbook/tenorbook/model/Side")) dd
  have F212 : Fld Z h207 b207 sOr "ticks" "J" (.long (0 : Int64)) := D207 (Or.inr (W hw 62)) (ty := .long) dd
  have F213 : Fld Z h207 b207 sOr "remaining" "J" (.long (0 : Int64)) := D207 (Or.inl (W hw 76)) (ty := .long) dd
  have F214 : Fld Z h207 b207 sOr "time" "Ljava/lang/String;" .null := D207 (Or.inr (W hw 83)) (ty := (.object "java/lang/String")) dd
  have F215 : Fld Z h207 b207 sOr "ref" "Ljava/lang/String;" .null := D207 (Or.inr (W hw 90)) (ty := (.object "java/lang/String")) dd
  have F216 : Fld Z h207 b207 sOr "expiry" "Ljava/time/LocalDate;" .null := D207 (Or.inr (W hw 97)) (ty := (.object "java/time/LocalDate")) dd
  have F217 : Fld Z h207 b207 sOr "after" dOr .null := D207 (Or.inl (W hw 200)) (ty := (.object sOr)) dd
  refine Comes.st st207 ?_
  refine cs (fun t k => XS.dup X207.here hx rfl (hb hby at_279) rfl rfl (XS.aconstNull X207.here hx rfl (hb hby at_280) (xaload X207 hc at_281 rfl rfl (xiconst X207 hc at_283 k)))) ?_
  show Comes p e below _ (T207.setTop (mkF m 284 #[vi flag, vj q1, S2, vj q2, S2, vj q3, S2, vj base, S2, vi j3, vi v5, vr b6, vi j140, vr b23, vr b31, vr b39, vr b47, vr b145, vr b162, U0, U0, U0, U0, U0, U0] [(.int (1 : Int32)), (.ref b47), .null, (.ref b207), (.ref b207), (.int (1 : Int32)), (.ref b162)]))
  have ne218 : b47 ≠ b163 := by omega
  have ni219 := ninS ne218 nin0
  have ne220 : b47 ≠ b162 := by omega
  have F221 := (((F176.keep Kq200 ni219).other W205 ne220).ext E207)
  refine Comes.ldJ X207 hx hZ e207 F221 rfl rfl (x := j142) rfl (hb hby at_284) ?_
  refine cs (fun t k => XS.aconstNull X207.here hx rfl (hb hby at_285) (xaload X207 hc at_286 rfl rfl (xiconst X207 hc at_288 k))) ?_
  show Comes p e below _ (T207.setTop (mkF m 289 #[vi flag, vj q1, S2, vj q2, S2, vj q3, S2, vj base, S2, vi j3, vi v5, vr b6, vi j140, vr b23, vr b31, vr b39, vr b47, vr b145, vr b162, U0, U0, U0, U0, U0, U0] [(.int (1 : Int32)), (.ref b6), .null, (.long j142), .null, (.ref b207), (.ref b207), (.int (1 : Int32)), (.ref b162)]))
  have ne223 : b6 ≠ b163 := by omega
  have ni224 := ninS ne223 nin0
  have ne225 : b6 ≠ b162 := by omega
  have F226 := (((F185.keep Kq200 ni224).other W205 ne225).ext E207)
  refine Comes.ldJ X207 hx hZ e207 F226 rfl rfl (x := j11) rfl (hb hby at_289) ?_
  refine cs (fun t k => xaload X207 hc at_290 rfl rfl k) ?_
  have F228 := (((F187.keep Kq200).wr W205).ext E207)
  have ni229 := ninS (Ne.symm ne198) nin0
  have ne230 : b145 ≠ b162 := by omega
  have F231 := (((F188.keep Kq200 ni229).other W205 (Or.inl ne230)).ext E207)
  have F232 := (((F189.keep Kq200 ni229).other W205 (Or.inl ne230)).ext E207)
  have F233 := (((F190.keep Kq200 ni229).other W205 (Or.inl ne230)).ext E207)
  have F234 := (((F191.keep Kq200 ni229).other W205 (Or.inl ne230)).ext E207)
  have F235 := (((F192.keep Kq200 ni229).other W205 (Or.inl ne230)).ext E207)
  have F236 := (((F193.keep Kq200).wr W205).ext E207)
  have ni237 := ninS (Ne.symm ne199) nin0
  have ne238 : o156 ≠ b162 := by omega
  have F239 := (((F196.keep Kq200 ni237).other W205 (Or.inl ne238)).ext E207)
  have gn240 : n0 ≤ b207 := by omega
  have ne241 : b207 ≠ b145 := by omega
  have ne242 := ne_exa A207 F236 dd
  refine Comes.cI X207 hx hZ hown (y := y5) (W := 3) (W hw 44) (W hw 45) rfl dd (W hw 46) (rm5 l Z a0 hw [] b207 j142 j11 b145 o156 r157 h207 n0 (by omega)  A207 F208 F209 F210 F211 F212 F213 F214 F215 F216 F217 F228 F231 F232 F233 F234 F235 F236 F239 gn240 ne241 ne242) (W hw 43) dd dd e207 rfl (by rw [hml]; rfl) (argsL := [.null, (.long j142), .null, (.long j11), (.ref b145)]) (rest := [(.ref b207), (.int (1 : Int32)), (.ref b162)]) (lenOf pd_17 rfl) rfl (wle rfl) (hb hby at_292) rfl dd dd fun v243 T243 L243 hQ243 X243 => ?_
  obtain ⟨rfl, Nq243, Kq243, P243_0, P243_1, P243_2, P243_3⟩ := hQ243
  have N243 := Fr.app N205 Nq243
  have z243k : h207.size ≤ T243.heap.size := Kq243.1
  have lt_244 : b207 < T243.heap.size := P243_0.lt
  show Comes p e below _ (T243.setTop (mkF m 295 #[vi flag, vj q1, S2, vj q2, S2, vj q3, S2, vj base, S2, vi j3, vi v5, vr b6, vi j140, vr b23, vr b31, vr b39, vr b47, vr b145, vr b162, U0, U0, U0, U0, U0, U0] [(.ref b207), (.int (1 : Int32)), (.ref b162)]))
  have ne245 : b162 ≠ b207 := by omega
  have ni246 := ninS ne245 nin0
  have F247 := ((V205.ext E207).keep Kq243 ni246)
  refine Comes.wrR X243 hx hZ rfl F247 (Or.inr ⟨_, rfl, O162, (Ins.self P243_0)⟩) rfl rfl 1 (hb hby at_295) fun T248 h248 X248 e248 W248 V248 => ?_
  have z248 : h248.size = T243.heap.size := W248.size
  have N248 := Fr.snoc X248 N243 gn206
  refine cs (fun t k => xaload X248 hc at_296 rfl rfl (xiconst X248 hc at_298 k)) ?_
  show Comes p e below _ (T248.setTop (mkF m 299 #[vi flag, vj q1, S2, vj q2, S2, vj q3, S2, vj base, S2, vi j3, vi v5, vr b6, vi j140, vr b23, vr b31, vr b39, vr b47, vr b145, vr b162, U0, U0, U0, U0, U0, U0] [(.int (2 : Int32)), (.ref b162)]))
  obtain ⟨T249, h249, X249, e249, E249, A249, D249, -, st249⟩ := newO X248 hx hZ hown (W hw 40) (W hw 42) (W hw 43) e248 (g := (mkF m 299 #[vi flag, vj q1, S2, vj q2, S2, vj q3, S2, vj base, S2, vi j3, vi v5, vr b6, vi j140, vr b23, vr b31, vr b39, vr b47, vr b145, vr b162, U0, U0, U0, U0, U0, U0] [(.int (2 : Int32)), (.ref b162)])) rfl (hb hby at_299) dd dd
  obtain ⟨b249, g249⟩ : ∃ z, z = h248.size := ⟨_, rfl⟩
  rw [← g249] at A249 D249 st249
  have z249 : h248.size ≤ h249.size := E249.1
  have lt249 : b249 < h249.size := A249.lt
  have F250 : Fld Z h249 b249 sOr "book" "Lcom/example/tenorbook/tenorbook/engine/OrderBook;" .null := D249 (Or.inr (W hw 49)) (ty := (.object "com/example/tenorbook/tenorbook/engine/OrderBook")) dd
  have F251 : Fld Z h249 b249 sOr "number" "J" (.long (0 : Int64)) := D249 (Or.inr (W hw 51)) (ty := .long) dd
  have F252 : Fld Z h249 b249 sOr "participant" "Ljava/lang/String;" .null := D249 (Or.inr (W hw 58)) (ty := (.object "java/lang/String")) dd
  have F253 : Fld Z h249 b249 sOr "side" "Lcom/example/tenorbook/tenorbook/model/Side;" .null := D249 (Or.inr (W hw 60)) (ty := (.object "com/example/tenorbook/tenorbook/model/Side")) dd
  have F254 : Fld Z h249 b249 sOr "ticks" "J" (.long (0 : Int64)) := D249 (Or.inr (W hw 62)) (ty := .long) dd
  have F255 : Fld Z h249 b249 sOr "remaining" "J" (.long (0 : Int64)) := D249 (Or.inl (W hw 76)) (ty := .long) dd
  have F256 : Fld Z h249 b249 sOr "time" "Ljava/lang/String;" .null := D249 (Or.inr (W hw 83)) (ty := (.object "java/lang/String")) dd
  have F257 : Fld Z h249 b249 sOr "ref" "Ljava/lang/String;" .null := D249 (Or.inr (W hw 90)) (ty := (.object "java/lang/String")) dd
  have F258 : Fld Z h249 b249 sOr "expiry" "Ljava/time/LocalDate;" .null := D249 (Or.inr (W hw 97)) (ty := (.object "java/time/LocalDate")) dd
  have F259 : Fld Z h249 b249 sOr "after" dOr .null := D249 (Or.inl (W hw 200)) (ty := (.object sOr)) dd
  refine Comes.st st249 ?_
  refine cs (fun t k => XS.dup X249.here hx rfl (hb hby at_302) rfl rfl (XS.aconstNull X249.here hx rfl (hb hby at_303) (xaload X249 hc at_304 rfl rfl (xiconst X249 hc at_306 k)))) ?_
  show Comes p e below _ (T249.setTop (mkF m 307 #[vi flag, vj q1, S2, vj q2, S2, vj q3, S2, vj base, S2, vi j3, vi v5, vr b6, vi j140, vr b23, vr b31, vr b39, vr b47, vr b145, vr b162, U0, U0, U0, U0, U0, U0] [(.int (2 : Int32)), (.ref b47), .null, (.ref b249), (.ref b249), (.int (2 : Int32)), (.ref b162)]))
  have ne260 : b47 ≠ b207 := by omega
  have ni261 := ninS ne260 nin0
  have F262 := (((F221.keep Kq243 ni261).other W248 ne220).ext E249)
  refine Comes.ldJ X249 hx hZ e249 F262 rfl rfl (x := j143) rfl (hb hby at_307) ?_
  refine cs (fun t k => XS.aconstNull X249.here hx rfl (hb hby at_308) (xaload X249 hc at_309 rfl rfl (xiconst X249 hc at_311 k))) ?_
  show Comes p e below _ (T249.setTop (mkF m 312 #[vi flag, vj q1, S2, vj q2, S2, vj q3, S2, vj base, S2, vi j3, vi v5, vr b6, vi j140, vr b23, vr b31, vr b39, vr b47, vr b145, vr b162, U0, U0, U0, U0, U0, U0] [(.int (2 : Int32)), (.ref b6), .null, (.long j143), .null, (.ref b249), (.ref b249), (.int (2 : Int32)), (.ref b162)]))
  have ne264 : b6 ≠ b207 := by omega
  have ni265 := ninS ne264 nin0
  have F266 := (((F226.keep Kq243 ni265).other W248 ne225).ext E249)
  refine Comes.ldJ X249 hx hZ e249 F266 rfl rfl (x := j18) rfl (hb hby at_312) ?_
  refine cs (fun t k => xaload X249 hc at_313 rfl rfl k) ?_
  have F268 := (((F228.keep Kq243).wr W248).ext E249)
  have ni269 := ninS (Ne.symm ne241) nin0
  have F270 := (((F231.keep Kq243 ni269).other W248 (Or.inl ne230)).ext E249)
  have F271 := (((F232.keep Kq243 ni269).other W248 (Or.inl ne230)).ext E249)
  have F272 := (((F233.keep Kq243 ni269).other W248 (Or.inl ne230)).ext E249)
  have F273 := (((F234.keep Kq243 ni269).other W248 (Or.inl ne230)).ext E249)
  have F274 := (((F235.keep Kq243 ni269).other W248 (Or.inl ne230)).ext E249)
  have F275 := (((F236.keep Kq243).wr W248).ext E249)
  have ni276 := ninS (Ne.symm ne242) nin0
  have F277 := (((F239.keep Kq243 ni276).other W248 (Or.inl ne238)).ext E249)
  have gn278 : n0 ≤ b249 := by omega
  have ne279 : b249 ≠ b145 := by omega
  have ne280 := ne_exa A249 F275 dd
  refine Comes.cI X249 hx hZ hown (y := y5) (W := 3) (W hw 44) (W hw 45) rfl dd (W hw 46) (rm5 l Z a0 hw [] b249 j143 j18 b145 o156 r157 h249 n0 (by omega)  A249 F250 F251 F252 F253 F254 F255 F256 F257 F258 F259 F268 F270 F271 F272 F273 F274 F275 F277 gn278 ne279 ne280) (W hw 43) dd dd e249 rfl (by rw [hml]; rfl) (argsL := [.null, (.long j143), .null, (.long j18), (.ref b145)]) (rest := [(.ref b249), (.int (2 : Int32)), (.ref b162)]) (lenOf pd_17 rfl) rfl (wle rfl) (hb hby at_315) rfl dd dd fun v281 T281 L281 hQ281 X281 => ?_
  obtain ⟨rfl, Nq281, Kq281, P281_0, P281_1, P281_2, P281_3⟩ := hQ281
  have N281 := Fr.app N248 Nq281
  have z281k : h249.size ≤ T281.heap.size := Kq281.1
  have lt_282 : b249 < T281.heap.size := P281_0.lt
  show Comes p e below _ (T281.setTop (mkF m 318 #[vi flag, vj q1, S2, vj q2, S2, vj q3, S2, vj base, S2, vi j3, vi v5, vr b6, vi j140, vr b23, vr b31, vr b39, vr b47, vr b145, vr b162, U0, U0, U0, U0, U0, U0] [(.ref b249), (.int (2 : Int32)), (.ref b162)]))
  have ne283 : b162 ≠ b249 := by omega
  have ni284 := ninS ne283 nin0
  have F285 := ((V248.ext E249).keep Kq281 ni284)
  refine Comes.wrR X281 hx hZ rfl F285 (Or.inr ⟨_, rfl, O162, (Ins.self P281_0)⟩) rfl rfl 2 (hb hby at_318) fun T286 h286 X286 e286 W286 V286 => ?_
  have z286 : h286.size = T281.heap.size := W286.size
  have N286 := Fr.snoc X286 N281 gn206
  obtain ⟨T287, h287, X287, e287, E287, A287, D287, -, st287⟩ := newO X286 hx hZ hown (W hw 99) (W hw 100) (W hw 101) e286 (g := (mkF m 319 #[vi flag, vj q1, S2, vj q2, S2, vj q3, S2, vj base, S2, vi j3, vi v5, vr b6, vi j140, vr b23, vr b31, vr b39, vr b47, vr b145, vr b162, U0, U0, U0, U0, U0, U0] [])) rfl (hb hby at_319) dd dd
  obtain ⟨b287, g287⟩ : ∃ z, z = h286.size := ⟨_, rfl⟩
  rw [← g287] at A287 D287 st287
  have z287 : h286.size ≤ h287.size := E287.1
  have lt287 : b287 < h287.size := A287.lt
  have F288 : Fld Z h287 b287 sRk "blocks" dBs .null := D287 (Or.inl (W hw 109)) (ty := (.array (.object sBk))) dd
  have F289 : Fld Z h287 b287 sRk "lowestBest" "Z" (.int (0 : Int32)) := D287 (Or.inr (W hw 111)) (ty := .boolean) dd
  have F290 : Fld Z h287 b287 sRk "count" "I" (.int (0 : Int32)) := D287 (Or.inl (W hw 122)) (ty := .int) dd
  refine Comes.st st287 ?_
  refine cs (fun t k => XS.dup X287.here hx rfl (hb hby at_322) rfl rfl (xiload X287 hc at_323 rfl k)) ?_
  show Comes p e below _ (T287.setTop (mkF m 325 #[vi flag, vj q1, S2, vj q2, S2, vj q3, S2, vj base, S2, vi j3, vi v5, vr b6, vi j140, vr b23, vr b31, vr b39, vr b47, vr b145, vr b162, U0, U0, U0, U0, U0, U0] [(.int j3), (.ref b287), (.ref b287)]))
  have gn291 : n0 ≤ b287 := by omega
  refine Comes.cI X287 hx hZ hown (y := y12) (W := 1) (W hw 102) (W hw 103) rfl dd (W hw 104) (rm12 l Z a0 hw [] b287 j3 h287 n0 (by omega)  A287 F288 F290 F289 gn291 (by assumption)) (W hw 101) dd dd e287 rfl (by rw [hml]; rfl) (argsL := [(.int j3)]) (rest := [(.ref b287)]) (lenOf pd_18 rfl) rfl (wle rfl) (hb hby at_325) rfl dd dd fun v292 T292 L292 hQ292 X292 => ?_
  obtain ⟨o293, r294, rfl, Nq292, Kq292, P292_0, P292_1, P292_2, P292_3, P292_4, P292_5, P292_6, P292_7⟩ := hQ292
  have N292 := Fr.app N286 Nq292
  have z292k : h287.size ≤ T292.heap.size := Kq292.1
  have lt_295 : b287 < T292.heap.size := P292_0.lt
  have lt_296 : o293 < T292.heap.size := P292_4.lt
  refine cs (fun t k => xastore X292 hc at_328 rfl rfl rfl k) ?_
  have hsp297 : v5 = (0 : Int32) ∨ v5 = (1 : Int32) ∨ v5 = (2 : Int32) ∨ v5 = (3 : Int32) := by have a_0 := c_mask ((flag.toUInt32 >>> ((3 : Int32) &&& 31).toUInt32).toInt32) (3 : Int32) 2 dd dd; rw [hv_v5] at a_0; have a_1 := rng32 ((flag.toUInt32 >>> ((3 : Int32) &&& 31).toUInt32).toInt32); have a_2 := rng32 v5; (try simp only [ne_eq, Int32.lt_iff_toInt_lt, Int64.lt_iff_toInt_lt, ← Int32.toInt_inj, ← Int64.toInt_inj, Int32.reduceToInt, Int64.reduceToInt, eq_self, and_true, true_and, or_true, true_or, and_false, false_and, or_false, false_or, not_true_eq_false, not_false_eq_true] at a_0 a_1 a_2 ⊢) <;> omega
  rcases hsp297 with rfl | rfl | rfl | rfl
  · refine cs (fun t k => xiload X292 hc at_330 rfl (xiconst X292 hc at_332 k)) ?_
    show Comes p e below _ (T292.setTop (mkF m 333 #[vi flag, vj q1, S2, vj q2, S2, vj q3, S2, vj base, S2, vi j3, vi (0 : Int32), vr b6, vi j140, vr b23, vr b31, vr b39, vr b47, vr b145, vr b162, vr b287, U0, U0, U0, U0, U0] [(.int (1 : Int32)), (.int (0 : Int32))]))
    refine cs (fun t k => xicmpYes X292 hc 333 345 at_333 rfl (tlt dd).1 (xiload X292 hc at_345 rfl (xiconst X292 hc at_347 k))) ?_
    show Comes p e below _ (T292.setTop (mkF m 348 #[vi flag, vj q1, S2, vj q2, S2, vj q3, S2, vj base, S2, vi j3, vi (0 : Int32), vr b6, vi j140, vr b23, vr b31, vr b39, vr b47, vr b145, vr b162, vr b287, U0, U0, U0, U0, U0] [(.int (2 : Int32)), (.int (0 : Int32))]))
    refine cs (fun t k => xicmpYes X292 hc 348 360 at_348 rfl (tlt dd).1 (xiload X292 hc at_360 rfl (xiconst X292 hc at_362 k))) ?_
    show Comes p e below _ (T292.setTop (mkF m 363 #[vi flag, vj q1, S2, vj q2, S2, vj q3, S2, vj base, S2, vi j3, vi (0 : Int32), vr b6, vi j140, vr b23, vr b31, vr b39, vr b47, vr b145, vr b162, vr b287, U0, U0, U0, U0, U0] [(.int (3 : Int32)), (.int (0 : Int32))]))
    refine cs (fun t k => xicmpYes X292 hc 363 375 at_363 rfl (tlt dd).1 (xiload X292 hc at_375 rfl (xaload X292 hc at_377 rfl rfl (xaload X292 hc at_379 rfl rfl (xiload X292 hc at_381 rfl (xiconst X292 hc at_383 k)))))) ?_
    show Comes p e below _ (T292.setTop (mkF m 384 #[vi flag, vj q1, S2, vj q2, S2, vj q3, S2, vj base, S2, vi j3, vi (0 : Int32), vr b6, vi j140, vr b23, vr b31, vr b39, vr b47, vr b145, vr b162, vr b287, U0, U0, U0, U0, U0] [(.int (-1 : Int32)), (.int (0 : Int32)), (.ref b47), (.ref b6), (.int j3)]))
    have ne301 : b6 ≠ b249 := by omega
    have ni302 := ninS ne301 nin0
    have ne303 : b6 ≠ b287 := by omega
    have ni304 := ninS ne303 nin0
    have F305 := ((((F266.keep Kq281 ni302).other W286 ne225).ext E287).keep Kq292 ni304)
    have ne306 : b47 ≠ b249 := by omega
    have ni307 := ninS ne306 nin0
    have ne308 : b47 ≠ b287 := by omega
    have ni309 := ninS ne308 nin0
    have F310 := ((((F262.keep Kq281 ni307).other W286 ne220).ext E287).keep Kq292 ni309)
    refine Comes.cS X292 hx hZ hown (y := y13) (W := 0) (W hw 112) (W hw 113) dd (W hw 115) (pick_0_m_ l Z a0 hw [] j3 b6 b47 k6 k47 q1 j11 j18 j141 j142 j143 T292.heap n0 (by omega)  F305 F310) (W hw 114) dd dd rfl rfl (by rw [hml]; rfl) (argsL := [(.int j3), (.ref b6), (.ref b47), (.int (0 : Int32)), (.int (-1 : Int32))]) (rest := []) (lenOf pd_19 rfl) rfl (wle rfl) (hb hby at_384) rfl dd dd fun v311 T311 L311 hQ311 X311 => ?_
    obtain ⟨rfl, Nq311, hs311⟩ := hQ311
    have N311 := Fr.app N292 Nq311
    refine cs (fun t k => xistore X311 hc at_387 rfl rfl (xaload X311 hc at_389 rfl rfl k)) ?_
    show Comes p e below _ (T311.setTop (mkF m 391 #[vi flag, vj q1, S2, vj q2, S2, vj q3, S2, vj base, S2, vi j3, vi (0 : Int32), vr b6, vi j140, vr b23, vr b31, vr b39, vr b47, vr b145, vr b162, vr b287, vi (-1 : Int32), U0, U0, U0, U0] [(.ref b287)]))
    refine Comes.cV X311 hx hZ hown (y := y14) (W := 0) (W hw 116) (W hw 117) (W hw 119) (W hw 118) dd (W hw 120) (first0 l Z a0 hw [] b287 T292.heap n0 (by omega)  P292_2) P292_0 (W hw 101) dd dd hs311 rfl (by rw [hml]; rfl) (argsL := []) (rest := []) (lenOf pd_20 rfl) rfl (wle rfl) (hb hby at_391) rfl dd dd fun v312 T312 L312 hQ312 X312 => ?_
    obtain ⟨rfl, Nq312, hs312⟩ := hQ312
    have N312 := Fr.app N311 Nq312
    refine cs (fun t k => xastore X312 hc at_394 rfl rfl rfl (xiload X312 hc at_396 rfl k)) ?_
    show Comes p e below _ (T312.setTop (mkF m 398 #[vi flag, vj q1, S2, vj q2, S2, vj q3, S2, vj base, S2, vi j3, vi (0 : Int32), vr b6, vi j140, vr b23, vr b31, vr b39, vr b47, vr b145, vr b162, vr b287, vi (-1 : Int32), .val .null, U0, U0, U0] [(.int (-1 : Int32))]))
    refine cs (fun t k => xifNo X312 hc at_398 rfl ((if0 _ _).trans (tlt dd).2.1) (xaload X312 hc at_401 rfl rfl (XS.ifnonnullNo X312.here hx rfl (hb hby at_403) rfl (xiconst X312 hc at_406 (xgoto X312 hc 407 429 at_407 (xistore X312 hc at_429 rfl rfl k)))))) ?_
    refine cs (fun t k => xiload X312 hc at_431 rfl k) ?_
    show Comes p e below _ (T312.setTop (mkF m 433 #[vi flag, vj q1, S2, vj q2, S2, vj q3, S2, vj base, S2, vi j3, vi (0 : Int32), vr b6, vi j140, vr b23, vr b31, vr b39, vr b47, vr b145, vr b162, vr b287, vi (-1 : Int32), .val .null, vi (1 : Int32), U0, U0] [(.int (-1 : Int32))]))
    refine cs (fun t k => xifYes X312 hc 433 503 at_433 rfl ((if0 _ _).trans (tlt dd).1) (xiload X312 hc at_503 rfl k)) ?_
    show Comes p e below _ (T312.setTop (mkF m 505 #[vi flag, vj q1, S2, vj q2, S2, vj q3, S2, vj base, S2, vi j3, vi (0 : Int32), vr b6, vi j140, vr b23, vr b31, vr b39, vr b47, vr b145, vr b162, vr b287, vi (-1 : Int32), .val .null, vi (1 : Int32), U0, U0] [(.int (1 : Int32))]))
    exact Comes.retN X312 hx (t := .boolean) Bd.returns (by simp) hlk (hb hby at_505) hs312 ⟨rfl, N312⟩ dd dd
  · refine cs (fun t k => xiload X292 hc at_330 rfl (xiconst X292 hc at_332 k)) ?_
    show Comes p e below _ (T292.setTop (mkF m 333 #[vi flag, vj q1, S2, vj q2, S2, vj q3, S2, vj base, S2, vi j3, vi (1 : Int32), vr b6, vi j140, vr b23, vr b31, vr b39, vr b47, vr b145, vr b162, vr b287, U0, U0, U0, U0, U0] [(.int (1 : Int32)), (.int (1 : Int32))]))
    refine cs (fun t k => xicmpNo X292 hc at_333 rfl (flt dd).1 (xaload X292 hc at_336 rfl rfl (xaload X292 hc at_338 rfl rfl (xiconst X292 hc at_340 k)))) ?_
    show Comes p e below _ (T292.setTop (mkF m 341 #[vi flag, vj q1, S2, vj q2, S2, vj q3, S2, vj base, S2, vi j3, vi (1 : Int32), vr b6, vi j140, vr b23, vr b31, vr b39, vr b47, vr b145, vr b162, vr b287, U0, U0, U0, U0, U0] [(.int (0 : Int32)), (.ref b162), (.ref b287)]))
    have ne316 : b162 ≠ b287 := by omega
    have ni317 := ninS ne316 nin0
    have F318 := ((V286.ext E287).keep Kq292 ni317)
    refine Comes.ldR X292 hx hZ rfl F318 rfl rfl (v := (.ref b163)) rfl (hb hby at_341) ?_
    have F320 := (((((((((P200_0.wr W205).ext E207).keep Kq243).wr W248).ext E249).keep Kq281).wr W286).ext E287).keep Kq292)
    have ne321 : b163 ≠ b207 := by omega
    have ni322 := ninS ne321 nin0
    have ne323 : b163 ≠ b249 := by omega
    have ni324 := ninS ne323 nin0
    have ne325 : b163 ≠ b287 := by omega
    have ni326 := ninS ne325 nin0
    have F327 := (((((((((P200_1.other W205 (Or.inl (Ne.symm ne202))).ext E207).keep Kq243 ni322).other W248 (Or.inl (Ne.symm ne202))).ext E249).keep Kq281 ni324).other W286 (Or.inl (Ne.symm ne202))).ext E287).keep Kq292 ni326)
    have F328 := (((((((((P200_2.other W205 (Or.inl (Ne.symm ne202))).ext E207).keep Kq243 ni322).other W248 (Or.inl (Ne.symm ne202))).ext E249).keep Kq281 ni324).other W286 (Or.inl (Ne.symm ne202))).ext E287).keep Kq292 ni326)
    have F329 := (((((((((P200_3.other W205 (Or.inl (Ne.symm ne202))).ext E207).keep Kq243 ni322).other W248 (Or.inl (Ne.symm ne202))).ext E249).keep Kq281 ni324).other W286 (Or.inl (Ne.symm ne202))).ext E287).keep Kq292 ni326)
    have ne330 : b287 ≠ o293 := by omega
    have ne331 : o293 ≠ b163 := by omega
    refine Comes.cV X292 hx hZ hown (y := y15) (W := 0) (W hw 123) (W hw 124) (W hw 126) (W hw 125) dd (W hw 127) (add_0_0 l Z a0 hw [] b287 b163 o293 r294 j3 q1 j141 (.null) T292.heap n0 (by omega)  P292_0 P292_1 P292_2 P292_3 P292_4 P292_5 F320 F327 F328 F329 (by assumption) gn291 P292_6 gn197 ne330 (Ne.symm ne325) ne331) P292_0 (W hw 101) dd dd rfl rfl (by rw [hml]; rfl) (argsL := [(.ref b163)]) (rest := []) (lenOf pd_21 rfl) rfl (wle rfl) (hb hby at_342) rfl dd dd fun v332 T332 L332 hQ332 X332 => ?_
    obtain ⟨o333, o334, o335, o336, r337, r338, r339, rfl, Nq332, Kq332, P332_0, P332_1, P332_2, P332_3, P332_4, P332_5, P332_6, P332_7, P332_8, P332_9, P332_10, P332_11, P332_12, P332_13, P332_14, P332_15, P332_16, P332_17, P332_18, P332_19, P332_20, P332_21, P332_22, P332_23, P332_24, P332_25, P332_26, P332_27, P332_28, P332_29⟩ := hQ332
    have N332 := Fr.app N292 Nq332
    have z332k : T292.heap.size ≤ T332.heap.size := Kq332.1
    have lt_340 : o333 < T332.heap.size := P332_6.lt
    have lt_341 : o334 < T332.heap.size := P332_11.lt
    have lt_342 : o335 < T332.heap.size := P332_13.lt
    have lt_343 : o336 < T332.heap.size := P332_14.lt
    refine cs (fun t k => xiload X332 hc at_345 rfl (xiconst X332 hc at_347 k)) ?_
    show Comes p e below _ (T332.setTop (mkF m 348 #[vi flag, vj q1, S2, vj q2, S2, vj q3, S2, vj base, S2, vi j3, vi (1 : Int32), vr b6, vi j140, vr b23, vr b31, vr b39, vr b47, vr b145, vr b162, vr b287, U0, U0, U0, U0, U0] [(.int (2 : Int32)), (.int (1 : Int32))]))
    refine cs (fun t k => xicmpYes X332 hc 348 360 at_348 rfl (tlt dd).1 (xiload X332 hc at_360 rfl (xiconst X332 hc at_362 k))) ?_
    show Comes p e below _ (T332.setTop (mkF m 363 #[vi flag, vj q1, S2, vj q2, S2, vj q3, S2, vj base, S2, vi j3, vi (1 : Int32), vr b6, vi j140, vr b23, vr b31, vr b39, vr b47, vr b145, vr b162, vr b287, U0, U0, U0, U0, U0] [(.int (3 : Int32)), (.int (1 : Int32))]))
    refine cs (fun t k => xicmpYes X332 hc 363 375 at_363 rfl (tlt dd).1 (xiload X332 hc at_375 rfl (xaload X332 hc at_377 rfl rfl (xaload X332 hc at_379 rfl rfl (xiload X332 hc at_381 rfl (xiconst X332 hc at_383 k)))))) ?_
    show Comes p e below _ (T332.setTop (mkF m 384 #[vi flag, vj q1, S2, vj q2, S2, vj q3, S2, vj base, S2, vi j3, vi (1 : Int32), vr b6, vi j140, vr b23, vr b31, vr b39, vr b47, vr b145, vr b162, vr b287, U0, U0, U0, U0, U0] [(.int (-1 : Int32)), (.int (1 : Int32)), (.ref b47), (.ref b6), (.int j3)]))
    have ne346 : b6 ≠ b249 := by omega
    have ni347 := ninS ne346 nin0
    have ne348 : b6 ≠ b287 := by omega
    have ni349 := ninS ne348 nin0
    have ne350 : b6 ≠ o293 := by omega
    have ni351 := ninS ne348 (ninS ne350 (ninS ne223 nin0))
    have F352 := (((((F266.keep Kq281 ni347).other W286 ne225).ext E287).keep Kq292 ni349).keep Kq332 ni351)
    have ne353 : b47 ≠ b249 := by omega
    have ni354 := ninS ne353 nin0
    have ne355 : b47 ≠ b287 := by omega
    have ni356 := ninS ne355 nin0
    have ne357 : b47 ≠ o293 := by omega
    have ni358 := ninS ne355 (ninS ne357 (ninS ne218 nin0))
    have F359 := (((((F262.keep Kq281 ni354).other W286 ne220).ext E287).keep Kq292 ni356).keep Kq332 ni358)
    refine Comes.cS X332 hx hZ hown (y := y13) (W := 0) (W hw 112) (W hw 113) dd (W hw 115) (pick_1_m_ l Z a0 hw [] j3 b6 b47 k6 k47 q1 j11 j18 j141 j142 j143 T332.heap n0 (by omega)  F352 F359) (W hw 114) dd dd rfl rfl (by rw [hml]; rfl) (argsL := [(.int j3), (.ref b6), (.ref b47), (.int (1 : Int32)), (.int (-1 : Int32))]) (rest := []) (lenOf pd_19 rfl) rfl (wle rfl) (hb hby at_384) rfl dd dd fun v360 T360 L360 hQ360 X360 => ?_
    obtain ⟨rfl, Nq360, hs360⟩ := hQ360
    have N360 := Fr.app N332 Nq360
    refine cs (fun t k => xistore X360 hc at_387 rfl rfl (xaload X360 hc at_389 rfl rfl k)) ?_
    show Comes p e below _ (T360.setTop (mkF m 391 #[vi flag, vj q1, S2, vj q2, S2, vj q3, S2, vj base, S2, vi j3, vi (1 : Int32), vr b6, vi j140, vr b23, vr b31, vr b39, vr b47, vr b145, vr b162, vr b287, vi (0 : Int32), U0, U0, U0, U0] [(.ref b287)]))
    refine Comes.cV X360 hx hZ hown (y := y14) (W := 0) (W hw 116) (W hw 117) (W hw 119) (W hw 118) dd (W hw 120) (first1 l Z a0 hw [] b287 o293 r294 o333 o334 r337 b163 (.null) (.null) T332.heap n0 (by omega)  P332_1 P332_2 P332_4 P332_7 P332_11) P332_0 (W hw 101) dd dd hs360 rfl (by rw [hml]; rfl) (argsL := []) (rest := []) (lenOf pd_20 rfl) rfl (wle rfl) (hb hby at_391) rfl dd dd fun v361 T361 L361 hQ361 X361 => ?_
    obtain ⟨rfl, Nq361, hs361⟩ := hQ361
    have N361 := Fr.app N360 Nq361
    refine cs (fun t k => xastore X361 hc at_394 rfl rfl rfl (xiload X361 hc at_396 rfl k)) ?_
    show Comes p e below _ (T361.setTop (mkF m 398 #[vi flag, vj q1, S2, vj q2, S2, vj q3, S2, vj base, S2, vi j3, vi (1 : Int32), vr b6, vi j140, vr b23, vr b31, vr b39, vr b47, vr b145, vr b162, vr b287, vi (0 : Int32), vr b163, U0, U0, U0] [(.int (0 : Int32))]))
    refine cs (fun t k => xifYes X361 hc 398 414 at_398 rfl ((if0 _ _).trans (flt dd).2.1) (xaload X361 hc at_414 rfl rfl (xaload X361 hc at_416 rfl rfl (xiload X361 hc at_418 rfl k)))) ?_
    show Comes p e below _ (T361.setTop (mkF m 420 #[vi flag, vj q1, S2, vj q2, S2, vj q3, S2, vj base, S2, vi j3, vi (1 : Int32), vr b6, vi j140, vr b23, vr b31, vr b39, vr b47, vr b145, vr b162, vr b287, vi (0 : Int32), vr b163, U0, U0, U0] [(.int (0 : Int32)), (.ref b162), (.ref b163)]))
    have ne363 : b162 ≠ o293 := by omega
    have ni364 := ninS ne316 (ninS ne363 (ninS ne202 nin0))
    have F365 := (F318.keep Kq332 ni364)
    refine Comes.ldR X361 hx hZ hs361 F365 rfl rfl (v := (.ref b163)) rfl (hb hby at_420) ?_
    have hc421_367 : b163 = b163 := by rfl
    refine cs (fun t k => Jvm.RoadKit.acmp (g := (mkF m 421 #[vi flag, vj q1, S2, vj q2, S2, vj q3, S2, vj base, S2, vi j3, vi (1 : Int32), vr b6, vi j140, vr b23, vr b31, vr b39, vr b47, vr b145, vr b162, vr b287, vi (0 : Int32), vr b163, U0, U0, U0] [(.ref b163), (.ref b163)])) X361 hx rfl rfl rfl (pc0 := 421) (pc' := 424) (same := true) rfl (hb hby at_421) rfl (decide_eq_true (congrArg Value.ref hc421_367)) dd dd (xiconst X361 hc at_424 (xgoto X361 hc 425 429 at_425 (xistore X361 hc at_429 rfl rfl (xiload X361 hc at_431 rfl k))))) ?_
    show Comes p e below _ (T361.setTop (mkF m 433 #[vi flag, vj q1, S2, vj q2, S2, vj q3, S2, vj base, S2, vi j3, vi (1 : Int32), vr b6, vi j140, vr b23, vr b31, vr b39, vr b47, vr b145, vr b162, vr b287, vi (0 : Int32), vr b163, vi (1 : Int32), U0, U0] [(.int (0 : Int32))]))
    refine cs (fun t k => xifNo X361 hc at_433 rfl ((if0 _ _).trans (flt dd).1) (xaload X361 hc at_436 rfl rfl (xaload X361 hc at_438 rfl rfl (xiload X361 hc at_440 rfl k)))) ?_
    show Comes p e below _ (T361.setTop (mkF m 442 #[vi flag, vj q1, S2, vj q2, S2, vj q3, S2, vj base, S2, vi j3, vi (1 : Int32), vr b6, vi j140, vr b23, vr b31, vr b39, vr b47, vr b145, vr b162, vr b287, vi (0 : Int32), vr b163, vi (1 : Int32), U0, U0] [(.int (0 : Int32)), (.ref b162), (.ref b287)]))
    refine Comes.ldR X361 hx hZ hs361 F365 rfl rfl (v := (.ref b163)) rfl (hb hby at_442) ?_
    have F370 := (F320.keep Kq332)
    have ne371 := ne_exa P332_6 F370 dd
    have ne372 := ne_exa P332_6 P332_0 dd
    have ne373 : o333 ≠ o293 := by omega
    have ne374 : o334 ≠ b163 := by omega
    have ne375 : o334 ≠ b287 := by omega
    have ne376 : o334 ≠ o293 := by omega
    have ne377 : o335 ≠ b163 := by omega
    have ne378 : o335 ≠ b287 := by omega
    have ne379 : o335 ≠ o293 := by omega
    have ne380 : o336 ≠ b163 := by omega
    have ne381 : o336 ≠ b287 := by omega
    have ne382 : o336 ≠ o293 := by omega
    refine Comes.cV X361 hx hZ hown (y := y28) (W := 0) (W hw 201) (W hw 202) (W hw 204) (W hw 203) dd (W hw 205) (rem_1 l Z a0 hw [] b287 b163 o293 r294 j3 o333 o334 o335 o336 r337 r338 r339 (.null) (.null) q1 ((0 : Int64)) ((0 : Int64)) j141 ((0 : Int64)) ((0 : Int64)) (.null) T332.heap n0 (by omega)  P332_0 P332_1 P332_2 P332_3 P332_4 P332_5 P332_6 P332_7 P332_8 P332_9 P332_10 P332_11 P332_12 P332_13 P332_14 F370 P332_15 P332_16 P332_17 P332_18 P332_19 gn197 gn291 P292_6 P332_24 P332_25 P332_26 ne371 ne372 ne373 P332_27 P332_28 ne374 ne375 ne376 P332_29 ne377 ne378 ne379 ne380 ne381 ne382 ne325 (Ne.symm ne331) ne330) P332_0 (W hw 101) dd dd hs361 rfl (by rw [hml]; rfl) (argsL := [(.ref b163)]) (rest := []) (lenOf pd_21 rfl) rfl (wle rfl) (hb hby at_443) rfl dd dd fun v383 T383 L383 hQ383 X383 => ?_
    obtain ⟨rfl, Nq383, Kq383, P383_0, P383_1, P383_2⟩ := hQ383
    have N383 := Fr.app N361 Nq383
    have z383k : T332.heap.size ≤ T383.heap.size := Kq383.1
    refine cs (fun t k => xiload X383 hc at_446 rfl (xaload X383 hc at_448 rfl rfl (xaload X383 hc at_450 rfl rfl (xiload X383 hc at_452 rfl (xiload X383 hc at_454 rfl k))))) ?_
    show Comes p e below _ (T383.setTop (mkF m 456 #[vi flag, vj q1, S2, vj q2, S2, vj q3, S2, vj base, S2, vi j3, vi (1 : Int32), vr b6, vi j140, vr b23, vr b31, vr b39, vr b47, vr b145, vr b162, vr b287, vi (0 : Int32), vr b163, vi (1 : Int32), U0, U0] [(.int (0 : Int32)), (.int (1 : Int32)), (.ref b47), (.ref b6), (.int j3)]))
    have ne384 : b6 ≠ o336 := by omega
    have ne385 : b6 ≠ o335 := by omega
    have ne386 : b6 ≠ o334 := by omega
    have ne387 : b6 ≠ o333 := by omega
    have ni388 := ninS ne387 (ninS ne386 (ninS ne385 (ninS ne384 (ninS ne223 (ninS ne348 (ninS ne350 nin0))))))
    have F389 := (F352.keep Kq383 ni388)
    have ne390 : b47 ≠ o336 := by omega
    have ne391 : b47 ≠ o335 := by omega
    have ne392 : b47 ≠ o334 := by omega
    have ne393 : b47 ≠ o333 := by omega
    have ni394 := ninS ne393 (ninS ne392 (ninS ne391 (ninS ne390 (ninS ne218 (ninS ne355 (ninS ne357 nin0))))))
    have F395 := (F359.keep Kq383 ni394)
    refine Comes.cS X383 hx hZ hown (y := y13) (W := 0) (W hw 112) (W hw 113) dd (W hw 115) (pick_1_0_ l Z a0 hw [] j3 b6 b47 k6 k47 q1 j11 j18 j141 j142 j143 T383.heap n0 (by omega)  F389 F395) (W hw 114) dd dd rfl rfl (by rw [hml]; rfl) (argsL := [(.int j3), (.ref b6), (.ref b47), (.int (1 : Int32)), (.int (0 : Int32))]) (rest := []) (lenOf pd_19 rfl) rfl (wle rfl) (hb hby at_456) rfl dd dd fun v396 T396 L396 hQ396 X396 => ?_
    obtain ⟨rfl, Nq396, hs396⟩ := hQ396
    have N396 := Fr.app N383 Nq396
    refine cs (fun t k => xistore X396 hc at_459 rfl rfl (xaload X396 hc at_461 rfl rfl k)) ?_
    show Comes p e below _ (T396.setTop (mkF m 463 #[vi flag, vj q1, S2, vj q2, S2, vj q3, S2, vj base, S2, vi j3, vi (1 : Int32), vr b6, vi j140, vr b23, vr b31, vr b39, vr b47, vr b145, vr b162, vr b287, vi (0 : Int32), vr b163, vi (1 : Int32), vi (-1 : Int32), U0] [(.ref b287)]))
    refine Comes.cV X396 hx hZ hown (y := y14) (W := 0) (W hw 116) (W hw 117) (W hw 119) (W hw 118) dd (W hw 120) (first0 l Z a0 hw [] b287 T383.heap n0 (by omega)  P383_2) P383_0 (W hw 101) dd dd hs396 rfl (by rw [hml]; rfl) (argsL := []) (rest := []) (lenOf pd_20 rfl) rfl (wle rfl) (hb hby at_463) rfl dd dd fun v397 T397 L397 hQ397 X397 => ?_
    obtain ⟨rfl, Nq397, hs397⟩ := hQ397
    have N397 := Fr.app N396 Nq397
    refine cs (fun t k => xastore X397 hc at_466 rfl rfl rfl (xiload X397 hc at_468 rfl k)) ?_
    show Comes p e below _ (T397.setTop (mkF m 470 #[vi flag, vj q1, S2, vj q2, S2, vj q3, S2, vj base, S2, vi j3, vi (1 : Int32), vr b6, vi j140, vr b23, vr b31, vr b39, vr b47, vr b145, vr b162, vr b287, vi (0 : Int32), vr b163, vi (1 : Int32), vi (-1 : Int32), .val .null] [(.int (1 : Int32))]))
    refine cs (fun t k => xifNo X397 hc at_470 rfl ((if0 _ _).trans (feq dd).1) (xiload X397 hc at_473 rfl k)) ?_
    refine cs (fun t k => xifNo X397 hc at_475 rfl ((if0 _ _).trans (tlt dd).2.1) (xaload X397 hc at_478 rfl rfl (XS.ifnonnullNo X397.here hx rfl (hb hby at_480) rfl (xgoto X397 hc 483 496 at_483 (xiconst X397 hc at_496 (xgoto X397 hc 497 501 at_497 k)))))) ?_
    refine cs (fun t k => xistore X397 hc at_501 rfl rfl (xiload X397 hc at_503 rfl k)) ?_
    show Comes p e below _ (T397.setTop (mkF m 505 #[vi flag, vj q1, S2, vj q2, S2, vj q3, S2, vj base, S2, vi j3, vi (1 : Int32), vr b6, vi j140, vr b23, vr b31, vr b39, vr b47, vr b145, vr b162, vr b287, vi (0 : Int32), vr b163, vi (1 : Int32), vi (-1 : Int32), .val .null] [(.int (1 : Int32))]))
    show Comes p e below _ (T397.setTop (mkF m 505 #[vi flag, vj q1, S2, vj q2, S2, vj q3, S2, vj base, S2, vi j3, vi (1 : Int32), vr b6, vi j140, vr b23, vr b31, vr b39, vr b47, vr b145, vr b162, vr b287, vi (0 : Int32), vr b163, vi (1 : Int32), vi (-1 : Int32), .val .null] [(.int (1 : Int32))]))
    exact Comes.retN X397 hx (t := .boolean) Bd.returns (by simp) hlk (hb hby at_505) hs397 ⟨rfl, N397⟩ dd dd
  · refine cs (fun t k => xiload X292 hc at_330 rfl (xiconst X292 hc at_332 k)) ?_
    show Comes p e below _ (T292.setTop (mkF m 333 #[vi flag, vj q1, S2, vj q2, S2, vj q3, S2, vj base, S2, vi j3, vi (2 : Int32), vr b6, vi j140, vr b23, vr b31, vr b39, vr b47, vr b145, vr b162, vr b287, U0, U0, U0, U0, U0] [(.int (1 : Int32)), (.int (2 : Int32))]))
    refine cs (fun t k => xicmpNo X292 hc at_333 rfl (flt dd).1 (xaload X292 hc at_336 rfl rfl (xaload X292 hc at_338 rfl rfl (xiconst X292 hc at_340 k)))) ?_
    show Comes p e below _ (T292.setTop (mkF m 341 #[vi flag, vj q1, S2, vj q2, S2, vj q3, S2, vj base, S2, vi j3, vi (2 : Int32), vr b6, vi j140, vr b23, vr b31, vr b39, vr b47, vr b145, vr b162, vr b287, U0, U0, U0, U0, U0] [(.int (0 : Int32)), (.ref b162), (.ref b287)]))
    have ne401 : b162 ≠ b287 := by omega
    have ni402 := ninS ne401 nin0
    have F403 := ((V286.ext E287).keep Kq292 ni402)
    refine Comes.ldR X292 hx hZ rfl F403 rfl rfl (v := (.ref b163)) rfl (hb hby at_341) ?_
    have F405 := (((((((((P200_0.wr W205).ext E207).keep Kq243).wr W248).ext E249).keep Kq281).wr W286).ext E287).keep Kq292)
    have ne406 : b163 ≠ b207 := by omega
    have ni407 := ninS ne406 nin0
    have ne408 : b163 ≠ b249 := by omega
    have ni409 := ninS ne408 nin0
    have ne410 : b163 ≠ b287 := by omega
    have ni411 := ninS ne410 nin0
    have F412 := (((((((((P200_1.other W205 (Or.inl (Ne.symm ne202))).ext E207).keep Kq243 ni407).other W248 (Or.inl (Ne.symm ne202))).ext E249).keep Kq281 ni409).other W286 (Or.inl (Ne.symm ne202))).ext E287).keep Kq292 ni411)
    have F413 := (((((((((P200_2.other W205 (Or.inl (Ne.symm ne202))).ext E207).keep Kq243 ni407).other W248 (Or.inl (Ne.symm ne202))).ext E249).keep Kq281 ni409).other W286 (Or.inl (Ne.symm ne202))).ext E287).keep Kq292 ni411)
    have F414 := (((((((((P200_3.other W205 (Or.inl (Ne.symm ne202))).ext E207).keep Kq243 ni407).other W248 (Or.inl (Ne.symm ne202))).ext E249).keep Kq281 ni409).other W286 (Or.inl (Ne.symm ne202))).ext E287).keep Kq292 ni411)
    have ne415 : b287 ≠ o293 := by omega
    have ne416 : o293 ≠ b163 := by omega
    refine Comes.cV X292 hx hZ hown (y := y15) (W := 0) (W hw 123) (W hw 124) (W hw 126) (W hw 125) dd (W hw 127) (add_0_0 l Z a0 hw [] b287 b163 o293 r294 j3 q1 j141 (.null) T292.heap n0 (by omega)  P292_0 P292_1 P292_2 P292_3 P292_4 P292_5 F405 F412 F413 F414 (by assumption) gn291 P292_6 gn197 ne415 (Ne.symm ne410) ne416) P292_0 (W hw 101) dd dd rfl rfl (by rw [hml]; rfl) (argsL := [(.ref b163)]) (rest := []) (lenOf pd_21 rfl) rfl (wle rfl) (hb hby at_342) rfl dd dd fun v417 T417 L417 hQ417 X417 => ?_
    obtain ⟨o418, o419, o420, o421, r422, r423, r424, rfl, Nq417, Kq417, P417_0, P417_1, P417_2, P417_3, P417_4, P417_5, P417_6, P417_7, P417_8, P417_9, P417_10, P417_11, P417_12, P417_13, P417_14, P417_15, P417_16, P417_17, P417_18, P417_19, P417_20, P417_21, P417_22, P417_23, P417_24, P417_25, P417_26, P417_27, P417_28, P417_29⟩ := hQ417
    have N417 := Fr.app N292 Nq417
    have z417k : T292.heap.size ≤ T417.heap.size := Kq417.1
    have lt_425 : o418 < T417.heap.size := P417_6.lt
    have lt_426 : o419 < T417.heap.size := P417_11.lt
    have lt_427 : o420 < T417.heap.size := P417_13.lt
    have lt_428 : o421 < T417.heap.size := P417_14.lt
    refine cs (fun t k => xiload X417 hc at_345 rfl (xiconst X417 hc at_347 k)) ?_
    show Comes p e below _ (T417.setTop (mkF m 348 #[vi flag, vj q1, S2, vj q2, S2, vj q3, S2, vj base, S2, vi j3, vi (2 : Int32), vr b6, vi j140, vr b23, vr b31, vr b39, vr b47, vr b145, vr b162, vr b287, U0, U0, U0, U0, U0] [(.int (2 : Int32)), (.int (2 : Int32))]))
    refine cs (fun t k => xicmpNo X417 hc at_348 rfl (flt dd).1 (xaload X417 hc at_351 rfl rfl (xaload X417 hc at_353 rfl rfl (xiconst X417 hc at_355 k)))) ?_
    show Comes p e below _ (T417.setTop (mkF m 356 #[vi flag, vj q1, S2, vj q2, S2, vj q3, S2, vj base, S2, vi j3, vi (2 : Int32), vr b6, vi j140, vr b23, vr b31, vr b39, vr b47, vr b145, vr b162, vr b287, U0, U0, U0, U0, U0] [(.int (1 : Int32)), (.ref b162), (.ref b287)]))
    have ne430 : b162 ≠ o293 := by omega
    have ni431 := ninS ne401 (ninS ne430 (ninS ne202 nin0))
    have F432 := (F403.keep Kq417 ni431)
    refine Comes.ldR X417 hx hZ rfl F432 rfl rfl (v := (.ref b207)) rfl (hb hby at_356) ?_
    by_cases hb434 : ((¬ q1 = j11 ∧ ¬ j3 = (0 : Int32) ∧ q1 < j11) ∨ (¬ q1 = j11 ∧ j3 = (0 : Int32) ∧ j11 < q1) ∨ (q1 = j11 ∧ j141 < j142))
    · have F435 := (F405.keep Kq417)
      have F436 := (((((((P243_0.wr W248).ext E249).keep Kq281).wr W286).ext E287).keep Kq292).keep Kq417)
      have ne437 : b207 ≠ b249 := by omega
      have ni438 := ninS ne437 nin0
      have ne439 : b207 ≠ b287 := by omega
      have ni440 := ninS ne439 nin0
      have ne441 : b207 ≠ o293 := by omega
      have ni442 := ninS ne439 (ninS ne441 (ninS (Ne.symm ne406) nin0))
      have F443 := (((((((P243_1.other W248 (Or.inl (Ne.symm ne245))).ext E249).keep Kq281 ni438).other W286 (Or.inl (Ne.symm ne245))).ext E287).keep Kq292 ni440).keep Kq417 ni442)
      have F444 := (((((((P243_2.other W248 (Or.inl (Ne.symm ne245))).ext E249).keep Kq281 ni438).other W286 (Or.inl (Ne.symm ne245))).ext E287).keep Kq292 ni440).keep Kq417 ni442)
      have F445 := (((((((P243_3.other W248 (Or.inl (Ne.symm ne245))).ext E249).keep Kq281 ni438).other W286 (Or.inl (Ne.symm ne245))).ext E287).keep Kq292 ni440).keep Kq417 ni442)
      have ne446 := ne_exa P417_6 F436 dd
      have ne447 := ne_exa P417_6 F435 dd
      have ne448 : o419 ≠ b207 := by omega
      have ne449 : o419 ≠ b163 := by omega
      have ne450 : o420 ≠ b207 := by omega
      have ne451 : o420 ≠ b163 := by omega
      have ne452 : o421 ≠ b207 := by omega
      have ne453 : o421 ≠ b163 := by omega
      have ne454 := ne_exa P417_6 P417_0 dd
      have ne455 : o418 ≠ o293 := by omega
      have ne456 : o419 ≠ b287 := by omega
      have ne457 : o419 ≠ o293 := by omega
      have ne458 : o420 ≠ b287 := by omega
      have ne459 : o420 ≠ o293 := by omega
      have ne460 : o421 ≠ b287 := by omega
      have ne461 : o421 ≠ o293 := by omega
      refine Comes.cV X417 hx hZ hown (y := y15) (W := 0) (W hw 123) (W hw 124) (W hw 126) (W hw 125) dd (W hw 127) (add_1_1 l Z a0 hw [] b287 b207 o293 r294 j3 o418 o419 o420 o421 r422 r423 r424 b163 (.null) (.null) q1 ((0 : Int64)) ((0 : Int64)) j141 ((0 : Int64)) ((0 : Int64)) j11 j142 (.null) (.null) T417.heap n0 (by omega)  P417_0 P417_1 P417_2 P417_3 P417_4 P417_6 P417_7 P417_8 P417_9 P417_10 P417_11 P417_12 P417_13 P417_14 F435 P417_15 F436 F443 F444 F445 (by assumption) (by assumption) P417_16 P417_17 P417_18 P417_19 gn240 gn197 P417_24 P417_25 P417_26 ne446 ne447 P417_27 P417_28 ne448 ne449 P417_29 ne450 ne451 ne452 ne453 (Ne.symm ne406) ne454 ne455 ne456 ne457 ne458 ne459 ne460 ne461 ne439 ne441 ne410 (Ne.symm ne416)) P417_0 (W hw 101) dd dd rfl rfl (by rw [hml]; rfl) (argsL := [(.ref b207)]) (rest := []) (lenOf pd_21 rfl) rfl (wle rfl) (hb hby at_357) rfl dd dd fun v462 T462 L462 hQ462 X462 => ?_
      obtain ⟨rfl, Nq462, Kq462, P462_0, P462_1, P462_2, P462_3, P462_4, P462_5, P462_6, P462_7, P462_8, P462_9⟩ := hQ462
      have N462 := Fr.app N417 Nq462
      have z462k : T417.heap.size ≤ T462.heap.size := Kq462.1
      refine cs (fun t k => xiload X462 hc at_360 rfl (xiconst X462 hc at_362 k)) ?_
      show Comes p e below _ (T462.setTop (mkF m 363 #[vi flag, vj q1, S2, vj q2, S2, vj q3, S2, vj base, S2, vi j3, vi (2 : Int32), vr b6, vi j140, vr b23, vr b31, vr b39, vr b47, vr b145, vr b162, vr b287, U0, U0, U0, U0, U0] [(.int (3 : Int32)), (.int (2 : Int32))]))
      refine cs (fun t k => xicmpYes X462 hc 363 375 at_363 rfl (tlt dd).1 (xiload X462 hc at_375 rfl (xaload X462 hc at_377 rfl rfl (xaload X462 hc at_379 rfl rfl (xiload X462 hc at_381 rfl (xiconst X462 hc at_383 k)))))) ?_
      show Comes p e below _ (T462.setTop (mkF m 384 #[vi flag, vj q1, S2, vj q2, S2, vj q3, S2, vj base, S2, vi j3, vi (2 : Int32), vr b6, vi j140, vr b23, vr b31, vr b39, vr b47, vr b145, vr b162, vr b287, U0, U0, U0, U0, U0] [(.int (-1 : Int32)), (.int (2 : Int32)), (.ref b47), (.ref b6), (.int j3)]))
      have ne464 : b6 ≠ b249 := by omega
      have ni465 := ninS ne464 nin0
      have ne466 : b6 ≠ b287 := by omega
      have ni467 := ninS ne466 nin0
      have ne468 : b6 ≠ o293 := by omega
      have ni469 := ninS ne466 (ninS ne468 (ninS ne223 nin0))
      have ne470 : b6 ≠ o421 := by omega
      have ne471 : b6 ≠ o420 := by omega
      have ne472 : b6 ≠ o419 := by omega
      have ne473 : b6 ≠ o418 := by omega
      have ni474 := ninS ne473 (ninS ne472 (ninS ne471 (ninS ne470 (ninS ne264 (ninS ne223 nin0)))))
      have F475 := ((((((F266.keep Kq281 ni465).other W286 ne225).ext E287).keep Kq292 ni467).keep Kq417 ni469).keep Kq462 ni474)
      have ne476 : b47 ≠ b249 := by omega
      have ni477 := ninS ne476 nin0
      have ne478 : b47 ≠ b287 := by omega
      have ni479 := ninS ne478 nin0
      have ne480 : b47 ≠ o293 := by omega
      have ni481 := ninS ne478 (ninS ne480 (ninS ne218 nin0))
      have ne482 : b47 ≠ o421 := by omega
      have ne483 : b47 ≠ o420 := by omega
      have ne484 : b47 ≠ o419 := by omega
      have ne485 : b47 ≠ o418 := by omega
      have ni486 := ninS ne485 (ninS ne484 (ninS ne483 (ninS ne482 (ninS ne260 (ninS ne218 nin0)))))
      have F487 := ((((((F262.keep Kq281 ni477).other W286 ne220).ext E287).keep Kq292 ni479).keep Kq417 ni481).keep Kq462 ni486)
      refine Comes.cS X462 hx hZ hown (y := y13) (W := 0) (W hw 112) (W hw 113) dd (W hw 115) (pick_2_m_F l Z a0 hw [] j3 b6 b47 k6 k47 q1 j11 j18 j141 j142 j143 T462.heap n0 (by omega)  F475 F487 (by first | assumption | (have a_0 := hb434; have c_0 := rel4; have c_1 := rel144; (try simp only [ne_eq, Int32.lt_iff_toInt_lt, Int64.lt_iff_toInt_lt, ← Int32.toInt_inj, ← Int64.toInt_inj, Int32.reduceToInt, Int64.reduceToInt, eq_self, and_true, true_and, or_true, true_or, and_false, false_and, or_false, false_or, not_true_eq_false, not_false_eq_true] at a_0 c_0 c_1 ⊢) <;> omega))) (W hw 114) dd dd rfl rfl (by rw [hml]; rfl) (argsL := [(.int j3), (.ref b6), (.ref b47), (.int (2 : Int32)), (.int (-1 : Int32))]) (rest := []) (lenOf pd_19 rfl) rfl (wle rfl) (hb hby at_384) rfl dd dd fun v488 T488 L488 hQ488 X488 => ?_
      obtain ⟨rfl, Nq488, hs488⟩ := hQ488
      have N488 := Fr.app N462 Nq488
      refine cs (fun t k => xistore X488 hc at_387 rfl rfl (xaload X488 hc at_389 rfl rfl k)) ?_
      show Comes p e below _ (T488.setTop (mkF m 391 #[vi flag, vj q1, S2, vj q2, S2, vj q3, S2, vj base, S2, vi j3, vi (2 : Int32), vr b6, vi j140, vr b23, vr b31, vr b39, vr b47, vr b145, vr b162, vr b287, vi (0 : Int32), U0, U0, U0, U0] [(.ref b287)]))
      have ni489 := ninS (Ne.symm ne454) (ninS (Ne.symm ne456) (ninS (Ne.symm ne458) (ninS (Ne.symm ne460) (ninS (Ne.symm ne439) (ninS (Ne.symm ne410) nin0)))))
      have F490 := (P417_1.keep Kq462 ni489)
      have F491 := (P417_2.keep Kq462 ni489)
      have ni492 := ninS (Ne.symm ne455) (ninS (Ne.symm ne457) (ninS (Ne.symm ne459) (ninS (Ne.symm ne461) (ninS (Ne.symm ne441) (ninS ne416 nin0)))))
      have F493 := (P417_4.keep Kq462 ni492)
      have F494 := (P417_0.keep Kq462)
      refine Comes.cV X488 hx hZ hown (y := y14) (W := 0) (W hw 116) (W hw 117) (W hw 119) (W hw 118) dd (W hw 120) (first1 l Z a0 hw [] b287 o293 r294 o418 o419 r422 b163 ((.ref b207)) (.null) T462.heap n0 (by omega)  F490 F491 F493 P462_1 P462_5) F494 (W hw 101) dd dd hs488 rfl (by rw [hml]; rfl) (argsL := []) (rest := []) (lenOf pd_20 rfl) rfl (wle rfl) (hb hby at_391) rfl dd dd fun v495 T495 L495 hQ495 X495 => ?_
      obtain ⟨rfl, Nq495, hs495⟩ := hQ495
      have N495 := Fr.app N488 Nq495
      refine cs (fun t k => xastore X495 hc at_394 rfl rfl rfl (xiload X495 hc at_396 rfl k)) ?_
      show Comes p e below _ (T495.setTop (mkF m 398 #[vi flag, vj q1, S2, vj q2, S2, vj q3, S2, vj base, S2, vi j3, vi (2 : Int32), vr b6, vi j140, vr b23, vr b31, vr b39, vr b47, vr b145, vr b162, vr b287, vi (0 : Int32), vr b163, U0, U0, U0] [(.int (0 : Int32))]))
      refine cs (fun t k => xifYes X495 hc 398 414 at_398 rfl ((if0 _ _).trans (flt dd).2.1) (xaload X495 hc at_414 rfl rfl (xaload X495 hc at_416 rfl rfl (xiload X495 hc at_418 rfl k)))) ?_
      show Comes p e below _ (T495.setTop (mkF m 420 #[vi flag, vj q1, S2, vj q2, S2, vj q3, S2, vj base, S2, vi j3, vi (2 : Int32), vr b6, vi j140, vr b23, vr b31, vr b39, vr b47, vr b145, vr b162, vr b287, vi (0 : Int32), vr b163, U0, U0, U0] [(.int (0 : Int32)), (.ref b162), (.ref b163)]))
      have ne497 : b162 ≠ o421 := by omega
      have ne498 : b162 ≠ o420 := by omega
      have ne499 : b162 ≠ o419 := by omega
      have ne500 : b162 ≠ o418 := by omega
      have ni501 := ninS ne500 (ninS ne499 (ninS ne498 (ninS ne497 (ninS ne245 (ninS ne202 nin0)))))
      have F502 := (F432.keep Kq462 ni501)
      refine Comes.ldR X495 hx hZ hs495 F502 rfl rfl (v := (.ref b163)) rfl (hb hby at_420) ?_
      have hc421_504 : b163 = b163 := by rfl
      refine cs (fun t k => Jvm.RoadKit.acmp (g := (mkF m 421 #[vi flag, vj q1, S2, vj q2, S2, vj q3, S2, vj base, S2, vi j3, vi (2 : Int32), vr b6, vi j140, vr b23, vr b31, vr b39, vr b47, vr b145, vr b162, vr b287, vi (0 : Int32), vr b163, U0, U0, U0] [(.ref b163), (.ref b163)])) X495 hx rfl rfl rfl (pc0 := 421) (pc' := 424) (same := true) rfl (hb hby at_421) rfl (decide_eq_true (congrArg Value.ref hc421_504)) dd dd (xiconst X495 hc at_424 (xgoto X495 hc 425 429 at_425 (xistore X495 hc at_429 rfl rfl (xiload X495 hc at_431 rfl k))))) ?_
      show Comes p e below _ (T495.setTop (mkF m 433 #[vi flag, vj q1, S2, vj q2, S2, vj q3, S2, vj base, S2, vi j3, vi (2 : Int32), vr b6, vi j140, vr b23, vr b31, vr b39, vr b47, vr b145, vr b162, vr b287, vi (0 : Int32), vr b163, vi (1 : Int32), U0, U0] [(.int (0 : Int32))]))
      refine cs (fun t k => xifNo X495 hc at_433 rfl ((if0 _ _).trans (flt dd).1) (xaload X495 hc at_436 rfl rfl (xaload X495 hc at_438 rfl rfl (xiload X495 hc at_440 rfl k)))) ?_
      show Comes p e below _ (T495.setTop (mkF m 442 #[vi flag, vj q1, S2, vj q2, S2, vj q3, S2, vj base, S2, vi j3, vi (2 : Int32), vr b6, vi j140, vr b23, vr b31, vr b39, vr b47, vr b145, vr b162, vr b287, vi (0 : Int32), vr b163, vi (1 : Int32), U0, U0] [(.int (0 : Int32)), (.ref b162), (.ref b287)]))
      refine Comes.ldR X495 hx hZ hs495 F502 rfl rfl (v := (.ref b163)) rfl (hb hby at_442) ?_
      have F507 := (P417_3.keep Kq462 ni489)
      have F508 := (F435.keep Kq462)
      have F509 := (F436.keep Kq462)
      refine Comes.cV X495 hx hZ hown (y := y28) (W := 0) (W hw 201) (W hw 202) (W hw 204) (W hw 203) dd (W hw 205) (rem_2 l Z a0 hw [] b287 b163 o293 r294 j3 o418 o419 o420 o421 r422 r423 r424 b207 (.null) q1 j11 ((0 : Int64)) j141 j142 ((0 : Int64)) ((.ref b207)) T462.heap n0 (by omega)  F494 F490 F491 F507 F493 P417_5 P462_0 P462_1 P462_2 P462_3 P462_4 P462_5 P417_12 P462_6 P462_7 F508 F509 P462_9 P417_16 P417_17 P417_18 P417_19 gn197 P417_24 P417_25 P417_26 ne447 P417_27 P417_28 ne449 P417_29 ne451 ne453 ne454 ne455 ne456 ne457 ne458 ne459 ne460 ne461 ne410 (Ne.symm ne416)) F494 (W hw 101) dd dd hs495 rfl (by rw [hml]; rfl) (argsL := [(.ref b163)]) (rest := []) (lenOf pd_21 rfl) rfl (wle rfl) (hb hby at_443) rfl dd dd fun v510 T510 L510 hQ510 X510 => ?_
      obtain ⟨rfl, Nq510, Kq510, P510_0, P510_1⟩ := hQ510
      have N510 := Fr.app N495 Nq510
      have z510k : T462.heap.size ≤ T510.heap.size := Kq510.1
      refine cs (fun t k => xiload X510 hc at_446 rfl (xaload X510 hc at_448 rfl rfl (xaload X510 hc at_450 rfl rfl (xiload X510 hc at_452 rfl (xiload X510 hc at_454 rfl k))))) ?_
      show Comes p e below _ (T510.setTop (mkF m 456 #[vi flag, vj q1, S2, vj q2, S2, vj q3, S2, vj base, S2, vi j3, vi (2 : Int32), vr b6, vi j140, vr b23, vr b31, vr b39, vr b47, vr b145, vr b162, vr b287, vi (0 : Int32), vr b163, vi (1 : Int32), U0, U0] [(.int (0 : Int32)), (.int (2 : Int32)), (.ref b47), (.ref b6), (.int j3)]))
      have ni511 := ninS ne473 (ninS ne472 (ninS ne471 (ninS ne470 (ninS ne223 nin0))))
      have F512 := (F475.keep Kq510 ni511)
      have ni513 := ninS ne485 (ninS ne484 (ninS ne483 (ninS ne482 (ninS ne218 nin0))))
      have F514 := (F487.keep Kq510 ni513)
      refine Comes.cS X510 hx hZ hown (y := y13) (W := 0) (W hw 112) (W hw 113) dd (W hw 115) (pick_2_0_ l Z a0 hw [] j3 b6 b47 k6 k47 q1 j11 j18 j141 j142 j143 T510.heap n0 (by omega)  F512 F514) (W hw 114) dd dd rfl rfl (by rw [hml]; rfl) (argsL := [(.int j3), (.ref b6), (.ref b47), (.int (2 : Int32)), (.int (0 : Int32))]) (rest := []) (lenOf pd_19 rfl) rfl (wle rfl) (hb hby at_456) rfl dd dd fun v515 T515 L515 hQ515 X515 => ?_
      obtain ⟨rfl, Nq515, hs515⟩ := hQ515
      have N515 := Fr.app N510 Nq515
      refine cs (fun t k => xistore X515 hc at_459 rfl rfl (xaload X515 hc at_461 rfl rfl k)) ?_
      show Comes p e below _ (T515.setTop (mkF m 463 #[vi flag, vj q1, S2, vj q2, S2, vj q3, S2, vj base, S2, vi j3, vi (2 : Int32), vr b6, vi j140, vr b23, vr b31, vr b39, vr b47, vr b145, vr b162, vr b287, vi (0 : Int32), vr b163, vi (1 : Int32), vi (1 : Int32), U0] [(.ref b287)]))
      have ni516 := ninS (Ne.symm ne454) (ninS (Ne.symm ne456) (ninS (Ne.symm ne458) (ninS (Ne.symm ne460) (ninS (Ne.symm ne410) nin0))))
      have F517 := (F490.keep Kq510 ni516)
      have F518 := (F491.keep Kq510 ni516)
      have ni519 := ninS (Ne.symm ne455) (ninS (Ne.symm ne457) (ninS (Ne.symm ne459) (ninS (Ne.symm ne461) (ninS ne416 nin0))))
      have F520 := (F493.keep Kq510 ni519)
      have F521 := (F494.keep Kq510)
      refine Comes.cV X515 hx hZ hown (y := y14) (W := 0) (W hw 116) (W hw 117) (W hw 119) (W hw 118) dd (W hw 120) (first1 l Z a0 hw [] b287 o293 r294 o418 o419 r422 b207 (.null) (.null) T510.heap n0 (by omega)  F517 F518 F520 P510_0 P510_1) F521 (W hw 101) dd dd hs515 rfl (by rw [hml]; rfl) (argsL := []) (rest := []) (lenOf pd_20 rfl) rfl (wle rfl) (hb hby at_463) rfl dd dd fun v522 T522 L522 hQ522 X522 => ?_
      obtain ⟨rfl, Nq522, hs522⟩ := hQ522
      have N522 := Fr.app N515 Nq522
      refine cs (fun t k => xastore X522 hc at_466 rfl rfl rfl (xiload X522 hc at_468 rfl k)) ?_
      show Comes p e below _ (T522.setTop (mkF m 470 #[vi flag, vj q1, S2, vj q2, S2, vj q3, S2, vj base, S2, vi j3, vi (2 : Int32), vr b6, vi j140, vr b23, vr b31, vr b39, vr b47, vr b145, vr b162, vr b287, vi (0 : Int32), vr b163, vi (1 : Int32), vi (1 : Int32), vr b207] [(.int (1 : Int32))]))
      refine cs (fun t k => xifNo X522 hc at_470 rfl ((if0 _ _).trans (feq dd).1) (xiload X522 hc at_473 rfl k)) ?_
      refine cs (fun t k => xifYes X522 hc 475 486 at_475 rfl ((if0 _ _).trans (flt dd).2.1) (xaload X522 hc at_486 rfl rfl (xaload X522 hc at_488 rfl rfl (xiload X522 hc at_490 rfl k)))) ?_
      show Comes p e below _ (T522.setTop (mkF m 492 #[vi flag, vj q1, S2, vj q2, S2, vj q3, S2, vj base, S2, vi j3, vi (2 : Int32), vr b6, vi j140, vr b23, vr b31, vr b39, vr b47, vr b145, vr b162, vr b287, vi (0 : Int32), vr b163, vi (1 : Int32), vi (1 : Int32), vr b207] [(.int (1 : Int32)), (.ref b162), (.ref b207)]))
      have ni525 := ninS ne500 (ninS ne499 (ninS ne498 (ninS ne497 (ninS ne202 nin0))))
      have F526 := (F502.keep Kq510 ni525)
      refine Comes.ldR X522 hx hZ hs522 F526 rfl rfl (v := (.ref b207)) rfl (hb hby at_492) ?_
      have hc493_528 : b207 = b207 := by rfl
      refine cs (fun t k => Jvm.RoadKit.acmp (g := (mkF m 493 #[vi flag, vj q1, S2, vj q2, S2, vj q3, S2, vj base, S2, vi j3, vi (2 : Int32), vr b6, vi j140, vr b23, vr b31, vr b39, vr b47, vr b145, vr b162, vr b287, vi (0 : Int32), vr b163, vi (1 : Int32), vi (1 : Int32), vr b207] [(.ref b207), (.ref b207)])) X522 hx rfl rfl rfl (pc0 := 493) (pc' := 496) (same := true) rfl (hb hby at_493) rfl (decide_eq_true (congrArg Value.ref hc493_528)) dd dd (xiconst X522 hc at_496 (xgoto X522 hc 497 501 at_497 (xistore X522 hc at_501 rfl rfl (xiload X522 hc at_503 rfl k))))) ?_
      show Comes p e below _ (T522.setTop (mkF m 505 #[vi flag, vj q1, S2, vj q2, S2, vj q3, S2, vj base, S2, vi j3, vi (2 : Int32), vr b6, vi j140, vr b23, vr b31, vr b39, vr b47, vr b145, vr b162, vr b287, vi (0 : Int32), vr b163, vi (1 : Int32), vi (1 : Int32), vr b207] [(.int (1 : Int32))]))
      show Comes p e below _ (T522.setTop (mkF m 505 #[vi flag, vj q1, S2, vj q2, S2, vj q3, S2, vj base, S2, vi j3, vi (2 : Int32), vr b6, vi j140, vr b23, vr b31, vr b39, vr b47, vr b145, vr b162, vr b287, vi (0 : Int32), vr b163, vi (1 : Int32), vi (1 : Int32), vr b207] [(.int (1 : Int32))]))
      exact Comes.retN X522 hx (t := .boolean) Bd.returns (by simp) hlk (hb hby at_505) hs522 ⟨rfl, N522⟩ dd dd
    · have F529 := (F405.keep Kq417)
      have F530 := (((((((P243_0.wr W248).ext E249).keep Kq281).wr W286).ext E287).keep Kq292).keep Kq417)
      have ne531 : b207 ≠ b249 := by omega
      have ni532 := ninS ne531 nin0
      have ne533 : b207 ≠ b287 := by omega
      have ni534 := ninS ne533 nin0
      have ne535 : b207 ≠ o293 := by omega
      have ni536 := ninS ne533 (ninS ne535 (ninS (Ne.symm ne406) nin0))
      have F537 := (((((((P243_1.other W248 (Or.inl (Ne.symm ne245))).ext E249).keep Kq281 ni532).other W286 (Or.inl (Ne.symm ne245))).ext E287).keep Kq292 ni534).keep Kq417 ni536)
      have F538 := (((((((P243_2.other W248 (Or.inl (Ne.symm ne245))).ext E249).keep Kq281 ni532).other W286 (Or.inl (Ne.symm ne245))).ext E287).keep Kq292 ni534).keep Kq417 ni536)
      have F539 := (((((((P243_3.other W248 (Or.inl (Ne.symm ne245))).ext E249).keep Kq281 ni532).other W286 (Or.inl (Ne.symm ne245))).ext E287).keep Kq292 ni534).keep Kq417 ni536)
      have ne540 := ne_exa P417_6 F530 dd
      have ne541 : o419 ≠ b207 := by omega
      have ne542 : o420 ≠ b207 := by omega
      have ne543 : o421 ≠ b207 := by omega
      have ne544 := ne_exa P417_6 P417_0 dd
      have ne545 : o418 ≠ o293 := by omega
      have ne546 : o419 ≠ b287 := by omega
      have ne547 : o419 ≠ o293 := by omega
      have ne548 : o420 ≠ b287 := by omega
      have ne549 : o420 ≠ o293 := by omega
      have ne550 : o421 ≠ b287 := by omega
      have ne551 : o421 ≠ o293 := by omega
      refine Comes.cV X417 hx hZ hown (y := y15) (W := 0) (W hw 123) (W hw 124) (W hw 126) (W hw 125) dd (W hw 127) (add_1_0 l Z a0 hw [] b287 b207 o293 r294 j3 o418 o419 o420 o421 r422 r423 r424 b163 (.null) (.null) q1 ((0 : Int64)) ((0 : Int64)) j141 ((0 : Int64)) ((0 : Int64)) j11 j142 (.null) T417.heap n0 (by omega)  P417_0 P417_1 P417_2 P417_3 P417_4 P417_6 P417_7 P417_8 P417_9 P417_10 P417_11 P417_12 P417_13 P417_14 F529 F530 F537 F538 F539 (by assumption) (by assumption) P417_16 P417_17 P417_18 P417_19 gn240 P417_24 P417_25 P417_26 ne540 P417_27 P417_28 ne541 P417_29 ne542 ne543 ne544 ne545 ne546 ne547 ne548 ne549 ne550 ne551 ne533 ne535) P417_0 (W hw 101) dd dd rfl rfl (by rw [hml]; rfl) (argsL := [(.ref b207)]) (rest := []) (lenOf pd_21 rfl) rfl (wle rfl) (hb hby at_357) rfl dd dd fun v552 T552 L552 hQ552 X552 => ?_
      obtain ⟨rfl, Nq552, Kq552, P552_0, P552_1, P552_2, P552_3, P552_4, P552_5, P552_6, P552_7, P552_8⟩ := hQ552
      have N552 := Fr.app N417 Nq552
      have z552k : T417.heap.size ≤ T552.heap.size := Kq552.1
      refine cs (fun t k => xiload X552 hc at_360 rfl (xiconst X552 hc at_362 k)) ?_
      show Comes p e below _ (T552.setTop (mkF m 363 #[vi flag, vj q1, S2, vj q2, S2, vj q3, S2, vj base, S2, vi j3, vi (2 : Int32), vr b6, vi j140, vr b23, vr b31, vr b39, vr b47, vr b145, vr b162, vr b287, U0, U0, U0, U0, U0] [(.int (3 : Int32)), (.int (2 : Int32))]))
      refine cs (fun t k => xicmpYes X552 hc 363 375 at_363 rfl (tlt dd).1 (xiload X552 hc at_375 rfl (xaload X552 hc at_377 rfl rfl (xaload X552 hc at_379 rfl rfl (xiload X552 hc at_381 rfl (xiconst X552 hc at_383 k)))))) ?_
      show Comes p e below _ (T552.setTop (mkF m 384 #[vi flag, vj q1, S2, vj q2, S2, vj q3, S2, vj base, S2, vi j3, vi (2 : Int32), vr b6, vi j140, vr b23, vr b31, vr b39, vr b47, vr b145, vr b162, vr b287, U0, U0, U0, U0, U0] [(.int (-1 : Int32)), (.int (2 : Int32)), (.ref b47), (.ref b6), (.int j3)]))
      have ne554 : b6 ≠ b249 := by omega
      have ni555 := ninS ne554 nin0
      have ne556 : b6 ≠ b287 := by omega
      have ni557 := ninS ne556 nin0
      have ne558 : b6 ≠ o293 := by omega
      have ni559 := ninS ne556 (ninS ne558 (ninS ne223 nin0))
      have ne560 : b6 ≠ o421 := by omega
      have ne561 : b6 ≠ o420 := by omega
      have ne562 : b6 ≠ o419 := by omega
      have ne563 : b6 ≠ o418 := by omega
      have ni564 := ninS ne563 (ninS ne562 (ninS ne561 (ninS ne560 (ninS ne264 nin0))))
      have F565 := ((((((F266.keep Kq281 ni555).other W286 ne225).ext E287).keep Kq292 ni557).keep Kq417 ni559).keep Kq552 ni564)
      have ne566 : b47 ≠ b249 := by omega
      have ni567 := ninS ne566 nin0
      have ne568 : b47 ≠ b287 := by omega
      have ni569 := ninS ne568 nin0
      have ne570 : b47 ≠ o293 := by omega
      have ni571 := ninS ne568 (ninS ne570 (ninS ne218 nin0))
      have ne572 : b47 ≠ o421 := by omega
      have ne573 : b47 ≠ o420 := by omega
      have ne574 : b47 ≠ o419 := by omega
      have ne575 : b47 ≠ o418 := by omega
      have ni576 := ninS ne575 (ninS ne574 (ninS ne573 (ninS ne572 (ninS ne260 nin0))))
      have F577 := ((((((F262.keep Kq281 ni567).other W286 ne220).ext E287).keep Kq292 ni569).keep Kq417 ni571).keep Kq552 ni576)
      refine Comes.cS X552 hx hZ hown (y := y13) (W := 0) (W hw 112) (W hw 113) dd (W hw 115) (pick_2_m_T l Z a0 hw [] j3 b6 b47 k6 k47 q1 j11 j18 j141 j142 j143 T552.heap n0 (by omega)  F565 F577 (by first | assumption | (have a_0 := hb434; have c_0 := rel4; have c_1 := rel144; (try simp only [ne_eq, Int32.lt_iff_toInt_lt, Int64.lt_iff_toInt_lt, ← Int32.toInt_inj, ← Int64.toInt_inj, Int32.reduceToInt, Int64.reduceToInt, eq_self, and_true, true_and, or_true, true_or, and_false, false_and, or_false, false_or, not_true_eq_false, not_false_eq_true] at a_0 c_0 c_1 ⊢) <;> omega))) (W hw 114) dd dd rfl rfl (by rw [hml]; rfl) (argsL := [(.int j3), (.ref b6), (.ref b47), (.int (2 : Int32)), (.int (-1 : Int32))]) (rest := []) (lenOf pd_19 rfl) rfl (wle rfl) (hb hby at_384) rfl dd dd fun v578 T578 L578 hQ578 X578 => ?_
      obtain ⟨rfl, Nq578, hs578⟩ := hQ578
      have N578 := Fr.app N552 Nq578
      refine cs (fun t k => xistore X578 hc at_387 rfl rfl (xaload X578 hc at_389 rfl rfl k)) ?_
      show Comes p e below _ (T578.setTop (mkF m 391 #[vi flag, vj q1, S2, vj q2, S2, vj q3, S2, vj base, S2, vi j3, vi (2 : Int32), vr b6, vi j140, vr b23, vr b31, vr b39, vr b47, vr b145, vr b162, vr b287, vi (1 : Int32), U0, U0, U0, U0] [(.ref b287)]))
      have ni579 := ninS (Ne.symm ne544) (ninS (Ne.symm ne546) (ninS (Ne.symm ne548) (ninS (Ne.symm ne550) (ninS (Ne.symm ne533) nin0))))
      have F580 := (P417_1.keep Kq552 ni579)
      have F581 := (P417_2.keep Kq552 ni579)
      have ni582 := ninS (Ne.symm ne545) (ninS (Ne.symm ne547) (ninS (Ne.symm ne549) (ninS (Ne.symm ne551) (ninS (Ne.symm ne535) nin0))))
      have F583 := (P417_4.keep Kq552 ni582)
      have F584 := (P417_0.keep Kq552)
      refine Comes.cV X578 hx hZ hown (y := y14) (W := 0) (W hw 116) (W hw 117) (W hw 119) (W hw 118) dd (W hw 120) (first1 l Z a0 hw [] b287 o293 r294 o418 o419 r422 b207 ((.ref b163)) (.null) T552.heap n0 (by omega)  F580 F581 F583 P552_1 P552_5) F584 (W hw 101) dd dd hs578 rfl (by rw [hml]; rfl) (argsL := []) (rest := []) (lenOf pd_20 rfl) rfl (wle rfl) (hb hby at_391) rfl dd dd fun v585 T585 L585 hQ585 X585 => ?_
      obtain ⟨rfl, Nq585, hs585⟩ := hQ585
      have N585 := Fr.app N578 Nq585
      refine cs (fun t k => xastore X585 hc at_394 rfl rfl rfl (xiload X585 hc at_396 rfl k)) ?_
      show Comes p e below _ (T585.setTop (mkF m 398 #[vi flag, vj q1, S2, vj q2, S2, vj q3, S2, vj base, S2, vi j3, vi (2 : Int32), vr b6, vi j140, vr b23, vr b31, vr b39, vr b47, vr b145, vr b162, vr b287, vi (1 : Int32), vr b207, U0, U0, U0] [(.int (1 : Int32))]))
      refine cs (fun t k => xifYes X585 hc 398 414 at_398 rfl ((if0 _ _).trans (flt dd).2.1) (xaload X585 hc at_414 rfl rfl (xaload X585 hc at_416 rfl rfl (xiload X585 hc at_418 rfl k)))) ?_
      show Comes p e below _ (T585.setTop (mkF m 420 #[vi flag, vj q1, S2, vj q2, S2, vj q3, S2, vj base, S2, vi j3, vi (2 : Int32), vr b6, vi j140, vr b23, vr b31, vr b39, vr b47, vr b145, vr b162, vr b287, vi (1 : Int32), vr b207, U0, U0, U0] [(.int (1 : Int32)), (.ref b162), (.ref b207)]))
      have ne587 : b162 ≠ o421 := by omega
      have ne588 : b162 ≠ o420 := by omega
      have ne589 : b162 ≠ o419 := by omega
      have ne590 : b162 ≠ o418 := by omega
      have ni591 := ninS ne590 (ninS ne589 (ninS ne588 (ninS ne587 (ninS ne245 nin0))))
      have F592 := (F432.keep Kq552 ni591)
      refine Comes.ldR X585 hx hZ hs585 F592 rfl rfl (v := (.ref b207)) rfl (hb hby at_420) ?_
      have hc421_594 : b207 = b207 := by rfl
      refine cs (fun t k => Jvm.RoadKit.acmp (g := (mkF m 421 #[vi flag, vj q1, S2, vj q2, S2, vj q3, S2, vj base, S2, vi j3, vi (2 : Int32), vr b6, vi j140, vr b23, vr b31, vr b39, vr b47, vr b145, vr b162, vr b287, vi (1 : Int32), vr b207, U0, U0, U0] [(.ref b207), (.ref b207)])) X585 hx rfl rfl rfl (pc0 := 421) (pc' := 424) (same := true) rfl (hb hby at_421) rfl (decide_eq_true (congrArg Value.ref hc421_594)) dd dd (xiconst X585 hc at_424 (xgoto X585 hc 425 429 at_425 (xistore X585 hc at_429 rfl rfl (xiload X585 hc at_431 rfl k))))) ?_
      show Comes p e below _ (T585.setTop (mkF m 433 #[vi flag, vj q1, S2, vj q2, S2, vj q3, S2, vj base, S2, vi j3, vi (2 : Int32), vr b6, vi j140, vr b23, vr b31, vr b39, vr b47, vr b145, vr b162, vr b287, vi (1 : Int32), vr b207, vi (1 : Int32), U0, U0] [(.int (1 : Int32))]))
      refine cs (fun t k => xifNo X585 hc at_433 rfl ((if0 _ _).trans (flt dd).1) (xaload X585 hc at_436 rfl rfl (xaload X585 hc at_438 rfl rfl (xiload X585 hc at_440 rfl k)))) ?_
      show Comes p e below _ (T585.setTop (mkF m 442 #[vi flag, vj q1, S2, vj q2, S2, vj q3, S2, vj base, S2, vi j3, vi (2 : Int32), vr b6, vi j140, vr b23, vr b31, vr b39, vr b47, vr b145, vr b162, vr b287, vi (1 : Int32), vr b207, vi (1 : Int32), U0, U0] [(.int (1 : Int32)), (.ref b162), (.ref b287)]))
      refine Comes.ldR X585 hx hZ hs585 F592 rfl rfl (v := (.ref b207)) rfl (hb hby at_442) ?_
      have F597 := (P417_3.keep Kq552 ni579)
      have F598 := (F530.keep Kq552)
      have F599 := (F529.keep Kq552)
      refine Comes.cV X585 hx hZ hown (y := y28) (W := 0) (W hw 201) (W hw 202) (W hw 204) (W hw 203) dd (W hw 205) (rem_2 l Z a0 hw [] b287 b207 o293 r294 j3 o418 o419 o420 o421 r422 r423 r424 b163 (.null) j11 q1 ((0 : Int64)) j142 j141 ((0 : Int64)) ((.ref b163)) T552.heap n0 (by omega)  F584 F580 F581 F597 F583 P417_5 P552_0 P552_1 P552_2 P552_3 P552_4 P552_5 P417_12 P552_6 P552_7 F598 F599 P552_8 P417_16 P417_17 P417_18 P417_19 gn240 P417_24 P417_25 P417_26 ne540 P417_27 P417_28 ne541 P417_29 ne542 ne543 ne544 ne545 ne546 ne547 ne548 ne549 ne550 ne551 ne533 ne535) F584 (W hw 101) dd dd hs585 rfl (by rw [hml]; rfl) (argsL := [(.ref b207)]) (rest := []) (lenOf pd_21 rfl) rfl (wle rfl) (hb hby at_443) rfl dd dd fun v600 T600 L600 hQ600 X600 => ?_
      obtain ⟨rfl, Nq600, Kq600, P600_0, P600_1⟩ := hQ600
      have N600 := Fr.app N585 Nq600
      have z600k : T552.heap.size ≤ T600.heap.size := Kq600.1
      refine cs (fun t k => xiload X600 hc at_446 rfl (xaload X600 hc at_448 rfl rfl (xaload X600 hc at_450 rfl rfl (xiload X600 hc at_452 rfl (xiload X600 hc at_454 rfl k))))) ?_
      show Comes p e below _ (T600.setTop (mkF m 456 #[vi flag, vj q1, S2, vj q2, S2, vj q3, S2, vj base, S2, vi j3, vi (2 : Int32), vr b6, vi j140, vr b23, vr b31, vr b39, vr b47, vr b145, vr b162, vr b287, vi (1 : Int32), vr b207, vi (1 : Int32), U0, U0] [(.int (1 : Int32)), (.int (2 : Int32)), (.ref b47), (.ref b6), (.int j3)]))
      have F601 := (F565.keep Kq600 ni564)
      have F602 := (F577.keep Kq600 ni576)
      refine Comes.cS X600 hx hZ hown (y := y13) (W := 0) (W hw 112) (W hw 113) dd (W hw 115) (pick_2_1_ l Z a0 hw [] j3 b6 b47 k6 k47 q1 j11 j18 j141 j142 j143 T600.heap n0 (by omega)  F601 F602) (W hw 114) dd dd rfl rfl (by rw [hml]; rfl) (argsL := [(.int j3), (.ref b6), (.ref b47), (.int (2 : Int32)), (.int (1 : Int32))]) (rest := []) (lenOf pd_19 rfl) rfl (wle rfl) (hb hby at_456) rfl dd dd fun v603 T603 L603 hQ603 X603 => ?_
      obtain ⟨rfl, Nq603, hs603⟩ := hQ603
      have N603 := Fr.app N600 Nq603
      refine cs (fun t k => xistore X603 hc at_459 rfl rfl (xaload X603 hc at_461 rfl rfl k)) ?_
      show Comes p e below _ (T603.setTop (mkF m 463 #[vi flag, vj q1, S2, vj q2, S2, vj q3, S2, vj base, S2, vi j3, vi (2 : Int32), vr b6, vi j140, vr b23, vr b31, vr b39, vr b47, vr b145, vr b162, vr b287, vi (1 : Int32), vr b207, vi (1 : Int32), vi (0 : Int32), U0] [(.ref b287)]))
      have F604 := (F580.keep Kq600 ni579)
      have F605 := (F581.keep Kq600 ni579)
      have F606 := (F583.keep Kq600 ni582)
      have F607 := (F584.keep Kq600)
      refine Comes.cV X603 hx hZ hown (y := y14) (W := 0) (W hw 116) (W hw 117) (W hw 119) (W hw 118) dd (W hw 120) (first1 l Z a0 hw [] b287 o293 r294 o418 o419 r422 b163 (.null) (.null) T600.heap n0 (by omega)  F604 F605 F606 P600_0 P600_1) F607 (W hw 101) dd dd hs603 rfl (by rw [hml]; rfl) (argsL := []) (rest := []) (lenOf pd_20 rfl) rfl (wle rfl) (hb hby at_463) rfl dd dd fun v608 T608 L608 hQ608 X608 => ?_
      obtain ⟨rfl, Nq608, hs608⟩ := hQ608
      have N608 := Fr.app N603 Nq608
      refine cs (fun t k => xastore X608 hc at_466 rfl rfl rfl (xiload X608 hc at_468 rfl k)) ?_
      show Comes p e below _ (T608.setTop (mkF m 470 #[vi flag, vj q1, S2, vj q2, S2, vj q3, S2, vj base, S2, vi j3, vi (2 : Int32), vr b6, vi j140, vr b23, vr b31, vr b39, vr b47, vr b145, vr b162, vr b287, vi (1 : Int32), vr b207, vi (1 : Int32), vi (0 : Int32), vr b163] [(.int (1 : Int32))]))
      refine cs (fun t k => xifNo X608 hc at_470 rfl ((if0 _ _).trans (feq dd).1) (xiload X608 hc at_473 rfl k)) ?_
      refine cs (fun t k => xifYes X608 hc 475 486 at_475 rfl ((if0 _ _).trans (flt dd).2.1) (xaload X608 hc at_486 rfl rfl (xaload X608 hc at_488 rfl rfl (xiload X608 hc at_490 rfl k)))) ?_
      show Comes p e below _ (T608.setTop (mkF m 492 #[vi flag, vj q1, S2, vj q2, S2, vj q3, S2, vj base, S2, vi j3, vi (2 : Int32), vr b6, vi j140, vr b23, vr b31, vr b39, vr b47, vr b145, vr b162, vr b287, vi (1 : Int32), vr b207, vi (1 : Int32), vi (0 : Int32), vr b163] [(.int (0 : Int32)), (.ref b162), (.ref b163)]))
      have F611 := (F592.keep Kq600 ni591)
      refine Comes.ldR X608 hx hZ hs608 F611 rfl rfl (v := (.ref b163)) rfl (hb hby at_492) ?_
      have hc493_613 : b163 = b163 := by rfl
      refine cs (fun t k => Jvm.RoadKit.acmp (g := (mkF m 493 #[vi flag, vj q1, S2, vj q2, S2, vj q3, S2, vj base, S2, vi j3, vi (2 : Int32), vr b6, vi j140, vr b23, vr b31, vr b39, vr b47, vr b145, vr b162, vr b287, vi (1 : Int32), vr b207, vi (1 : Int32), vi (0 : Int32), vr b163] [(.ref b163), (.ref b163)])) X608 hx rfl rfl rfl (pc0 := 493) (pc' := 496) (same := true) rfl (hb hby at_493) rfl (decide_eq_true (congrArg Value.ref hc493_613)) dd dd (xiconst X608 hc at_496 (xgoto X608 hc 497 501 at_497 (xistore X608 hc at_501 rfl rfl (xiload X608 hc at_503 rfl k))))) ?_
      show Comes p e below _ (T608.setTop (mkF m 505 #[vi flag, vj q1, S2, vj q2, S2, vj q3, S2, vj base, S2, vi j3, vi (2 : Int32), vr b6, vi j140, vr b23, vr b31, vr b39, vr b47, vr b145, vr b162, vr b287, vi (1 : Int32), vr b207, vi (1 : Int32), vi (0 : Int32), vr b163] [(.int (1 : Int32))]))
      show Comes p e below _ (T608.setTop (mkF m 505 #[vi flag, vj q1, S2, vj q2, S2, vj q3, S2, vj base, S2, vi j3, vi (2 : Int32), vr b6, vi j140, vr b23, vr b31, vr b39, vr b47, vr b145, vr b162, vr b287, vi (1 : Int32), vr b207, vi (1 : Int32), vi (0 : Int32), vr b163] [(.int (1 : Int32))]))
      exact Comes.retN X608 hx (t := .boolean) Bd.returns (by simp) hlk (hb hby at_505) hs608 ⟨rfl, N608⟩ dd dd
  · refine cs (fun t k => xiload X292 hc at_330 rfl (xiconst X292 hc at_332 k)) ?_
    show Comes p e below _ (T292.setTop (mkF m 333 #[vi flag, vj q1, S2, vj q2, S2, vj q3, S2, vj base, S2, vi j3, vi (3 : Int32), vr b6, vi j140, vr b23, vr b31, vr b39, vr b47, vr b145, vr b162, vr b287, U0, U0, U0, U0, U0] [(.int (1 : Int32)), (.int (3 : Int32))]))
    refine cs (fun t k => xicmpNo X292 hc at_333 rfl (flt dd).1 (xaload X292 hc at_336 rfl rfl (xaload X292 hc at_338 rfl rfl (xiconst X292 hc at_340 k)))) ?_
    show Comes p e below _ (T292.setTop (mkF m 341 #[vi flag, vj q1, S2, vj q2, S2, vj q3, S2, vj base, S2, vi j3, vi (3 : Int32), vr b6, vi j140, vr b23, vr b31, vr b39, vr b47, vr b145, vr b162, vr b287, U0, U0, U0, U0, U0] [(.int (0 : Int32)), (.ref b162), (.ref b287)]))
    have ne615 : b162 ≠ b287 := by omega
    have ni616 := ninS ne615 nin0
    have F617 := ((V286.ext E287).keep Kq292 ni616)
    refine Comes.ldR X292 hx hZ rfl F617 rfl rfl (v := (.ref b163)) rfl (hb hby at_341) ?_
    have F619 := (((((((((P200_0.wr W205).ext E207).keep Kq243).wr W248).ext E249).keep Kq281).wr W286).ext E287).keep Kq292)
    have ne620 : b163 ≠ b207 := by omega
    have ni621 := ninS ne620 nin0
    have ne622 : b163 ≠ b249 := by omega
    have ni623 := ninS ne622 nin0
    have ne624 : b163 ≠ b287 := by omega
    have ni625 := ninS ne624 nin0
    have F626 := (((((((((P200_1.other W205 (Or.inl (Ne.symm ne202))).ext E207).keep Kq243 ni621).other W248 (Or.inl (Ne.symm ne202))).ext E249).keep Kq281 ni623).other W286 (Or.inl (Ne.symm ne202))).ext E287).keep Kq292 ni625)
    have F627 := (((((((((P200_2.other W205 (Or.inl (Ne.symm ne202))).ext E207).keep Kq243 ni621).other W248 (Or.inl (Ne.symm ne202))).ext E249).keep Kq281 ni623).other W286 (Or.inl (Ne.symm ne202))).ext E287).keep Kq292 ni625)
    have F628 := (((((((((P200_3.other W205 (Or.inl (Ne.symm ne202))).ext E207).keep Kq243 ni621).other W248 (Or.inl (Ne.symm ne202))).ext E249).keep Kq281 ni623).other W286 (Or.inl (Ne.symm ne202))).ext E287).keep Kq292 ni625)
    have ne629 : b287 ≠ o293 := by omega
    have ne630 : o293 ≠ b163 := by omega
    refine Comes.cV X292 hx hZ hown (y := y15) (W := 0) (W hw 123) (W hw 124) (W hw 126) (W hw 125) dd (W hw 127) (add_0_0 l Z a0 hw [] b287 b163 o293 r294 j3 q1 j141 (.null) T292.heap n0 (by omega)  P292_0 P292_1 P292_2 P292_3 P292_4 P292_5 F619 F626 F627 F628 (by assumption) gn291 P292_6 gn197 ne629 (Ne.symm ne624) ne630) P292_0 (W hw 101) dd dd rfl rfl (by rw [hml]; rfl) (argsL := [(.ref b163)]) (rest := []) (lenOf pd_21 rfl) rfl (wle rfl) (hb hby at_342) rfl dd dd fun v631 T631 L631 hQ631 X631 => ?_
    obtain ⟨o632, o633, o634, o635, r636, r637, r638, rfl, Nq631, Kq631, P631_0, P631_1, P631_2, P631_3, P631_4, P631_5, P631_6, P631_7, P631_8, P631_9, P631_10, P631_11, P631_12, P631_13, P631_14, P631_15, P631_16, P631_17, P631_18, P631_19, P631_20, P631_21, P631_22, P631_23, P631_24, P631_25, P631_26, P631_27, P631_28, P631_29⟩ := hQ631
    have N631 := Fr.app N292 Nq631
    have z631k : T292.heap.size ≤ T631.heap.size := Kq631.1
    have lt_639 : o632 < T631.heap.size := P631_6.lt
    have lt_640 : o633 < T631.heap.size := P631_11.lt
    have lt_641 : o634 < T631.heap.size := P631_13.lt
    have lt_642 : o635 < T631.heap.size := P631_14.lt
    refine cs (fun t k => xiload X631 hc at_345 rfl (xiconst X631 hc at_347 k)) ?_
    show Comes p e below _ (T631.setTop (mkF m 348 #[vi flag, vj q1, S2, vj q2, S2, vj q3, S2, vj base, S2, vi j3, vi (3 : Int32), vr b6, vi j140, vr b23, vr b31, vr b39, vr b47, vr b145, vr b162, vr b287, U0, U0, U0, U0, U0] [(.int (2 : Int32)), (.int (3 : Int32))]))
    refine cs (fun t k => xicmpNo X631 hc at_348 rfl (flt dd).1 (xaload X631 hc at_351 rfl rfl (xaload X631 hc at_353 rfl rfl (xiconst X631 hc at_355 k)))) ?_
    show Comes p e below _ (T631.setTop (mkF m 356 #[vi flag, vj q1, S2, vj q2, S2, vj q3, S2, vj base, S2, vi j3, vi (3 : Int32), vr b6, vi j140, vr b23, vr b31, vr b39, vr b47, vr b145, vr b162, vr b287, U0, U0, U0, U0, U0] [(.int (1 : Int32)), (.ref b162), (.ref b287)]))
    have ne644 : b162 ≠ o293 := by omega
    have ni645 := ninS ne615 (ninS ne644 (ninS ne202 nin0))
    have F646 := (F617.keep Kq631 ni645)
    refine Comes.ldR X631 hx hZ rfl F646 rfl rfl (v := (.ref b207)) rfl (hb hby at_356) ?_
    by_cases hb648 : ((¬ q1 = j11 ∧ ¬ j3 = (0 : Int32) ∧ q1 < j11) ∨ (¬ q1 = j11 ∧ j3 = (0 : Int32) ∧ j11 < q1) ∨ (q1 = j11 ∧ j141 < j142))
    · have F649 := (F619.keep Kq631)
      have F650 := (((((((P243_0.wr W248).ext E249).keep Kq281).wr W286).ext E287).keep Kq292).keep Kq631)
      have ne651 : b207 ≠ b249 := by omega
      have ni652 := ninS ne651 nin0
      have ne653 : b207 ≠ b287 := by omega
      have ni654 := ninS ne653 nin0
      have ne655 : b207 ≠ o293 := by omega
      have ni656 := ninS ne653 (ninS ne655 (ninS (Ne.symm ne620) nin0))
      have F657 := (((((((P243_1.other W248 (Or.inl (Ne.symm ne245))).ext E249).keep Kq281 ni652).other W286 (Or.inl (Ne.symm ne245))).ext E287).keep Kq292 ni654).keep Kq631 ni656)
      have F658 := (((((((P243_2.other W248 (Or.inl (Ne.symm ne245))).ext E249).keep Kq281 ni652).other W286 (Or.inl (Ne.symm ne245))).ext E287).keep Kq292 ni654).keep Kq631 ni656)
      have F659 := (((((((P243_3.other W248 (Or.inl (Ne.symm ne245))).ext E249).keep Kq281 ni652).other W286 (Or.inl (Ne.symm ne245))).ext E287).keep Kq292 ni654).keep Kq631 ni656)
      have ne660 := ne_exa P631_6 F650 dd
      have ne661 := ne_exa P631_6 F649 dd
      have ne662 : o633 ≠ b207 := by omega
      have ne663 : o633 ≠ b163 := by omega
      have ne664 : o634 ≠ b207 := by omega
      have ne665 : o634 ≠ b163 := by omega
      have ne666 : o635 ≠ b207 := by omega
      have ne667 : o635 ≠ b163 := by omega
      have ne668 := ne_exa P631_6 P631_0 dd
      have ne669 : o632 ≠ o293 := by omega
      have ne670 : o633 ≠ b287 := by omega
      have ne671 : o633 ≠ o293 := by omega
      have ne672 : o634 ≠ b287 := by omega
      have ne673 : o634 ≠ o293 := by omega
      have ne674 : o635 ≠ b287 := by omega
      have ne675 : o635 ≠ o293 := by omega
      refine Comes.cV X631 hx hZ hown (y := y15) (W := 0) (W hw 123) (W hw 124) (W hw 126) (W hw 125) dd (W hw 127) (add_1_1 l Z a0 hw [] b287 b207 o293 r294 j3 o632 o633 o634 o635 r636 r637 r638 b163 (.null) (.null) q1 ((0 : Int64)) ((0 : Int64)) j141 ((0 : Int64)) ((0 : Int64)) j11 j142 (.null) (.null) T631.heap n0 (by omega)  P631_0 P631_1 P631_2 P631_3 P631_4 P631_6 P631_7 P631_8 P631_9 P631_10 P631_11 P631_12 P631_13 P631_14 F649 P631_15 F650 F657 F658 F659 (by assumption) (by assumption) P631_16 P631_17 P631_18 P631_19 gn240 gn197 P631_24 P631_25 P631_26 ne660 ne661 P631_27 P631_28 ne662 ne663 P631_29 ne664 ne665 ne666 ne667 (Ne.symm ne620) ne668 ne669 ne670 ne671 ne672 ne673 ne674 ne675 ne653 ne655 ne624 (Ne.symm ne630)) P631_0 (W hw 101) dd dd rfl rfl (by rw [hml]; rfl) (argsL := [(.ref b207)]) (rest := []) (lenOf pd_21 rfl) rfl (wle rfl) (hb hby at_357) rfl dd dd fun v676 T676 L676 hQ676 X676 => ?_
      obtain ⟨rfl, Nq676, Kq676, P676_0, P676_1, P676_2, P676_3, P676_4, P676_5, P676_6, P676_7, P676_8, P676_9⟩ := hQ676
      have N676 := Fr.app N631 Nq676
      have z676k : T631.heap.size ≤ T676.heap.size := Kq676.1
      refine cs (fun t k => xiload X676 hc at_360 rfl (xiconst X676 hc at_362 k)) ?_
      show Comes p e below _ (T676.setTop (mkF m 363 #[vi flag, vj q1, S2, vj q2, S2, vj q3, S2, vj base, S2, vi j3, vi (3 : Int32), vr b6, vi j140, vr b23, vr b31, vr b39, vr b47, vr b145, vr b162, vr b287, U0, U0, U0, U0, U0] [(.int (3 : Int32)), (.int (3 : Int32))]))
      refine cs (fun t k => xicmpNo X676 hc at_363 rfl (flt dd).1 (xaload X676 hc at_366 rfl rfl (xaload X676 hc at_368 rfl rfl (xiconst X676 hc at_370 k)))) ?_
      show Comes p e below _ (T676.setTop (mkF m 371 #[vi flag, vj q1, S2, vj q2, S2, vj q3, S2, vj base, S2, vi j3, vi (3 : Int32), vr b6, vi j140, vr b23, vr b31, vr b39, vr b47, vr b145, vr b162, vr b287, U0, U0, U0, U0, U0] [(.int (2 : Int32)), (.ref b162), (.ref b287)]))
      have ne678 : b162 ≠ o635 := by omega
      have ne679 : b162 ≠ o634 := by omega
      have ne680 : b162 ≠ o633 := by omega
      have ne681 : b162 ≠ o632 := by omega
      have ni682 := ninS ne681 (ninS ne680 (ninS ne679 (ninS ne678 (ninS ne245 (ninS ne202 nin0)))))
      have F683 := (F646.keep Kq676 ni682)
      refine Comes.ldR X676 hx hZ rfl F683 rfl rfl (v := (.ref b249)) rfl (hb hby at_371) ?_
      by_cases hb685 : ((¬ j11 = j18 ∧ ¬ j3 = (0 : Int32) ∧ j11 < j18) ∨ (¬ j11 = j18 ∧ j3 = (0 : Int32) ∧ j18 < j11) ∨ (j11 = j18 ∧ j142 < j143))
      · have F686 := (P631_0.keep Kq676)
        have ni687 := ninS (Ne.symm ne668) (ninS (Ne.symm ne670) (ninS (Ne.symm ne672) (ninS (Ne.symm ne674) (ninS (Ne.symm ne653) (ninS (Ne.symm ne624) nin0)))))
        have F688 := (P631_1.keep Kq676 ni687)
        have F689 := (P631_2.keep Kq676 ni687)
        have F690 := (P631_3.keep Kq676 ni687)
        have ni691 := ninS (Ne.symm ne669) (ninS (Ne.symm ne671) (ninS (Ne.symm ne673) (ninS (Ne.symm ne675) (ninS (Ne.symm ne655) (ninS ne630 nin0)))))
        have F692 := (P631_4.keep Kq676 ni691)
        have F693 := (F649.keep Kq676)
        have F694 := (F650.keep Kq676)
        have F695 := (((((P281_0.wr W286).ext E287).keep Kq292).keep Kq631).keep Kq676)
        have ne696 : b249 ≠ b287 := by omega
        have ni697 := ninS ne696 nin0
        have ne698 : b249 ≠ o293 := by omega
        have ni699 := ninS ne696 (ninS ne698 (ninS (Ne.symm ne622) nin0))
        have ne700 : b249 ≠ o635 := by omega
        have ne701 : b249 ≠ o634 := by omega
        have ne702 : b249 ≠ o633 := by omega
        have ne703 := ne_exa F695 P676_0 dd
        have ni704 := ninS ne703 (ninS ne702 (ninS ne701 (ninS ne700 (ninS (Ne.symm ne651) (ninS (Ne.symm ne622) nin0)))))
        have F705 := (((((P281_1.other W286 (Or.inl (Ne.symm ne283))).ext E287).keep Kq292 ni697).keep Kq631 ni699).keep Kq676 ni704)
        have F706 := (((((P281_2.other W286 (Or.inl (Ne.symm ne283))).ext E287).keep Kq292 ni697).keep Kq631 ni699).keep Kq676 ni704)
        have F707 := (((((P281_3.other W286 (Or.inl (Ne.symm ne283))).ext E287).keep Kq292 ni697).keep Kq631 ni699).keep Kq676 ni704)
        refine Comes.cV X676 hx hZ hown (y := y15) (W := 0) (W hw 123) (W hw 124) (W hw 126) (W hw 125) dd (W hw 127) (add_2_2 l Z a0 hw [] b287 b249 o293 r294 j3 o632 o633 o634 o635 r636 r637 r638 b163 b207 (.null) q1 j11 ((0 : Int64)) j141 j142 ((0 : Int64)) j18 j143 (.null) (.null) T676.heap n0 (by omega)  F686 F688 F689 F690 F692 P676_0 P676_1 P676_2 P676_3 P676_4 P676_5 P631_12 P676_6 P676_7 F693 F694 P676_8 F695 F705 F706 F707 (by assumption) (by assumption) P631_16 P631_17 P631_18 P631_19 gn278 gn240 P631_24 P631_25 P631_26 (Ne.symm ne703) ne660 P631_27 P631_28 (Ne.symm ne702) ne662 P631_29 (Ne.symm ne701) ne664 (Ne.symm ne700) ne666 (Ne.symm ne651) ne668 ne669 ne670 ne671 ne672 ne673 ne674 ne675 ne696 ne698 ne653 ne655) F686 (W hw 101) dd dd rfl rfl (by rw [hml]; rfl) (argsL := [(.ref b249)]) (rest := []) (lenOf pd_21 rfl) rfl (wle rfl) (hb hby at_372) rfl dd dd fun v708 T708 L708 hQ708 X708 => ?_
        obtain ⟨rfl, Nq708, Kq708, P708_0, P708_1, P708_2, P708_3, P708_4, P708_5, P708_6, P708_7, P708_8, P708_9⟩ := hQ708
        have N708 := Fr.app N676 Nq708
        have z708k : T676.heap.size ≤ T708.heap.size := Kq708.1
        refine cs (fun t k => xiload X708 hc at_375 rfl (xaload X708 hc at_377 rfl rfl (xaload X708 hc at_379 rfl rfl (xiload X708 hc at_381 rfl (xiconst X708 hc at_383 k))))) ?_
        show Comes p e below _ (T708.setTop (mkF m 384 #[vi flag, vj q1, S2, vj q2, S2, vj q3, S2, vj base, S2, vi j3, vi (3 : Int32), vr b6, vi j140, vr b23, vr b31, vr b39, vr b47, vr b145, vr b162, vr b287, U0, U0, U0, U0, U0] [(.int (-1 : Int32)), (.int (3 : Int32)), (.ref b47), (.ref b6), (.int j3)]))
        have ne709 : b6 ≠ b249 := by omega
        have ni710 := ninS ne709 nin0
        have ne711 : b6 ≠ b287 := by omega
        have ni712 := ninS ne711 nin0
        have ne713 : b6 ≠ o293 := by omega
        have ni714 := ninS ne711 (ninS ne713 (ninS ne223 nin0))
        have ne715 : b6 ≠ o635 := by omega
        have ne716 : b6 ≠ o634 := by omega
        have ne717 : b6 ≠ o633 := by omega
        have ne718 : b6 ≠ o632 := by omega
        have ni719 := ninS ne718 (ninS ne717 (ninS ne716 (ninS ne715 (ninS ne264 (ninS ne223 nin0)))))
        have ni720 := ninS ne718 (ninS ne717 (ninS ne716 (ninS ne715 (ninS ne709 (ninS ne264 nin0)))))
        have F721 := (((((((F266.keep Kq281 ni710).other W286 ne225).ext E287).keep Kq292 ni712).keep Kq631 ni714).keep Kq676 ni719).keep Kq708 ni720)
        have ne722 : b47 ≠ b249 := by omega
        have ni723 := ninS ne722 nin0
        have ne724 : b47 ≠ b287 := by omega
        have ni725 := ninS ne724 nin0
        have ne726 : b47 ≠ o293 := by omega
        have ni727 := ninS ne724 (ninS ne726 (ninS ne218 nin0))
        have ne728 : b47 ≠ o635 := by omega
        have ne729 : b47 ≠ o634 := by omega
        have ne730 : b47 ≠ o633 := by omega
        have ne731 : b47 ≠ o632 := by omega
        have ni732 := ninS ne731 (ninS ne730 (ninS ne729 (ninS ne728 (ninS ne260 (ninS ne218 nin0)))))
        have ni733 := ninS ne731 (ninS ne730 (ninS ne729 (ninS ne728 (ninS ne722 (ninS ne260 nin0)))))
        have F734 := (((((((F262.keep Kq281 ni723).other W286 ne220).ext E287).keep Kq292 ni725).keep Kq631 ni727).keep Kq676 ni732).keep Kq708 ni733)
        refine Comes.cS X708 hx hZ hown (y := y13) (W := 0) (W hw 112) (W hw 113) dd (W hw 115) (pick_3_m_FF l Z a0 hw [] j3 b6 b47 k6 k47 q1 j11 j18 j141 j142 j143 T708.heap n0 (by omega)  F721 F734 (by first | assumption | (have a_0 := hb648; have a_1 := hb685; have c_0 := rel4; have c_1 := rel144; (try simp only [ne_eq, Int32.lt_iff_toInt_lt, Int64.lt_iff_toInt_lt, ← Int32.toInt_inj, ← Int64.toInt_inj, Int32.reduceToInt, Int64.reduceToInt, eq_self, and_true, true_and, or_true, true_or, and_false, false_and, or_false, false_or, not_true_eq_false, not_false_eq_true] at a_0 a_1 c_0 c_1 ⊢) <;> omega)) (by first | assumption | (have a_0 := hb648; have a_1 := hb685; have c_0 := rel4; have c_1 := rel144; (try simp only [ne_eq, Int32.lt_iff_toInt_lt, Int64.lt_iff_toInt_lt, ← Int32.toInt_inj, ← Int64.toInt_inj, Int32.reduceToInt, Int64.reduceToInt, eq_self, and_true, true_and, or_true, true_or, and_false, false_and, or_false, false_or, not_true_eq_false, not_false_eq_true] at a_0 a_1 c_0 c_1 ⊢) <;> omega))) (W hw 114) dd dd rfl rfl (by rw [hml]; rfl) (argsL := [(.int j3), (.ref b6), (.ref b47), (.int (3 : Int32)), (.int (-1 : Int32))]) (rest := []) (lenOf pd_19 rfl) rfl (wle rfl) (hb hby at_384) rfl dd dd fun v735 T735 L735 hQ735 X735 => ?_
        obtain ⟨rfl, Nq735, hs735⟩ := hQ735
        have N735 := Fr.app N708 Nq735
        refine cs (fun t k => xistore X735 hc at_387 rfl rfl (xaload X735 hc at_389 rfl rfl k)) ?_
        show Comes p e below _ (T735.setTop (mkF m 391 #[vi flag, vj q1, S2, vj q2, S2, vj q3, S2, vj base, S2, vi j3, vi (3 : Int32), vr b6, vi j140, vr b23, vr b31, vr b39, vr b47, vr b145, vr b162, vr b287, vi (0 : Int32), U0, U0, U0, U0] [(.ref b287)]))
        have ni736 := ninS (Ne.symm ne668) (ninS (Ne.symm ne670) (ninS (Ne.symm ne672) (ninS (Ne.symm ne674) (ninS (Ne.symm ne696) (ninS (Ne.symm ne653) nin0)))))
        have F737 := (F688.keep Kq708 ni736)
        have F738 := (F689.keep Kq708 ni736)
        have ni739 := ninS (Ne.symm ne669) (ninS (Ne.symm ne671) (ninS (Ne.symm ne673) (ninS (Ne.symm ne675) (ninS (Ne.symm ne698) (ninS (Ne.symm ne655) nin0)))))
        have F740 := (F692.keep Kq708 ni739)
        have F741 := (F686.keep Kq708)
        refine Comes.cV X735 hx hZ hown (y := y14) (W := 0) (W hw 116) (W hw 117) (W hw 119) (W hw 118) dd (W hw 120) (first1 l Z a0 hw [] b287 o293 r294 o632 o633 r636 b163 ((.ref b207)) ((.ref b249)) T708.heap n0 (by omega)  F737 F738 F740 P708_1 P708_5) F741 (W hw 101) dd dd hs735 rfl (by rw [hml]; rfl) (argsL := []) (rest := []) (lenOf pd_20 rfl) rfl (wle rfl) (hb hby at_391) rfl dd dd fun v742 T742 L742 hQ742 X742 => ?_
        obtain ⟨rfl, Nq742, hs742⟩ := hQ742
        have N742 := Fr.app N735 Nq742
        refine cs (fun t k => xastore X742 hc at_394 rfl rfl rfl (xiload X742 hc at_396 rfl k)) ?_
        show Comes p e below _ (T742.setTop (mkF m 398 #[vi flag, vj q1, S2, vj q2, S2, vj q3, S2, vj base, S2, vi j3, vi (3 : Int32), vr b6, vi j140, vr b23, vr b31, vr b39, vr b47, vr b145, vr b162, vr b287, vi (0 : Int32), vr b163, U0, U0, U0] [(.int (0 : Int32))]))
        refine cs (fun t k => xifYes X742 hc 398 414 at_398 rfl ((if0 _ _).trans (flt dd).2.1) (xaload X742 hc at_414 rfl rfl (xaload X742 hc at_416 rfl rfl (xiload X742 hc at_418 rfl k)))) ?_
        show Comes p e below _ (T742.setTop (mkF m 420 #[vi flag, vj q1, S2, vj q2, S2, vj q3, S2, vj base, S2, vi j3, vi (3 : Int32), vr b6, vi j140, vr b23, vr b31, vr b39, vr b47, vr b145, vr b162, vr b287, vi (0 : Int32), vr b163, U0, U0, U0] [(.int (0 : Int32)), (.ref b162), (.ref b163)]))
        have ni744 := ninS ne681 (ninS ne680 (ninS ne679 (ninS ne678 (ninS ne283 (ninS ne245 nin0)))))
        have F745 := (F683.keep Kq708 ni744)
        refine Comes.ldR X742 hx hZ hs742 F745 rfl rfl (v := (.ref b163)) rfl (hb hby at_420) ?_
        have hc421_747 : b163 = b163 := by rfl
        refine cs (fun t k => Jvm.RoadKit.acmp (g := (mkF m 421 #[vi flag, vj q1, S2, vj q2, S2, vj q3, S2, vj base, S2, vi j3, vi (3 : Int32), vr b6, vi j140, vr b23, vr b31, vr b39, vr b47, vr b145, vr b162, vr b287, vi (0 : Int32), vr b163, U0, U0, U0] [(.ref b163), (.ref b163)])) X742 hx rfl rfl rfl (pc0 := 421) (pc' := 424) (same := true) rfl (hb hby at_421) rfl (decide_eq_true (congrArg Value.ref hc421_747)) dd dd (xiconst X742 hc at_424 (xgoto X742 hc 425 429 at_425 (xistore X742 hc at_429 rfl rfl (xiload X742 hc at_431 rfl k))))) ?_
        show Comes p e below _ (T742.setTop (mkF m 433 #[vi flag, vj q1, S2, vj q2, S2, vj q3, S2, vj base, S2, vi j3, vi (3 : Int32), vr b6, vi j140, vr b23, vr b31, vr b39, vr b47, vr b145, vr b162, vr b287, vi (0 : Int32), vr b163, vi (1 : Int32), U0, U0] [(.int (0 : Int32))]))
        refine cs (fun t k => xifNo X742 hc at_433 rfl ((if0 _ _).trans (flt dd).1) (xaload X742 hc at_436 rfl rfl (xaload X742 hc at_438 rfl rfl (xiload X742 hc at_440 rfl k)))) ?_
        show Comes p e below _ (T742.setTop (mkF m 442 #[vi flag, vj q1, S2, vj q2, S2, vj q3, S2, vj base, S2, vi j3, vi (3 : Int32), vr b6, vi j140, vr b23, vr b31, vr b39, vr b47, vr b145, vr b162, vr b287, vi (0 : Int32), vr b163, vi (1 : Int32), U0, U0] [(.int (0 : Int32)), (.ref b162), (.ref b287)]))
        refine Comes.ldR X742 hx hZ hs742 F745 rfl rfl (v := (.ref b163)) rfl (hb hby at_442) ?_
        have F750 := (F690.keep Kq708 ni736)
        have F751 := (F693.keep Kq708)
        have F752 := (F694.keep Kq708)
        have F753 := (F695.keep Kq708)
        have ni754 := ninS (Ne.symm ne661) (ninS (Ne.symm ne663) (ninS (Ne.symm ne665) (ninS (Ne.symm ne667) (ninS ne622 (ninS ne620 nin0)))))
        have F755 := (P676_9.keep Kq708 ni754)
        refine Comes.cV X742 hx hZ hown (y := y28) (W := 0) (W hw 201) (W hw 202) (W hw 204) (W hw 203) dd (W hw 205) (rem_3 l Z a0 hw [] b287 b163 o293 r294 j3 o632 o633 o634 o635 r636 r637 r638 b207 b249 q1 j11 j18 j141 j142 j143 ((.ref b207)) T708.heap n0 (by omega)  F741 F737 F738 F750 F740 P631_5 P708_0 P708_1 P708_2 P708_3 P708_4 P708_5 P631_12 P708_6 P708_7 F751 F752 F753 F755 P631_16 P631_17 P631_18 P631_19 gn197 P631_24 P631_25 P631_26 ne661 P631_27 P631_28 ne663 P631_29 ne665 ne667 ne668 ne669 ne670 ne671 ne672 ne673 ne674 ne675 ne624 (Ne.symm ne630)) F741 (W hw 101) dd dd hs742 rfl (by rw [hml]; rfl) (argsL := [(.ref b163)]) (rest := []) (lenOf pd_21 rfl) rfl (wle rfl) (hb hby at_443) rfl dd dd fun v756 T756 L756 hQ756 X756 => ?_
        obtain ⟨rfl, Nq756, Kq756, P756_0, P756_1⟩ := hQ756
        have N756 := Fr.app N742 Nq756
        have z756k : T708.heap.size ≤ T756.heap.size := Kq756.1
        refine cs (fun t k => xiload X756 hc at_446 rfl (xaload X756 hc at_448 rfl rfl (xaload X756 hc at_450 rfl rfl (xiload X756 hc at_452 rfl (xiload X756 hc at_454 rfl k))))) ?_
        show Comes p e below _ (T756.setTop (mkF m 456 #[vi flag, vj q1, S2, vj q2, S2, vj q3, S2, vj base, S2, vi j3, vi (3 : Int32), vr b6, vi j140, vr b23, vr b31, vr b39, vr b47, vr b145, vr b162, vr b287, vi (0 : Int32), vr b163, vi (1 : Int32), U0, U0] [(.int (0 : Int32)), (.int (3 : Int32)), (.ref b47), (.ref b6), (.int j3)]))
        have ni757 := ninS ne718 (ninS ne717 (ninS ne716 (ninS ne715 (ninS ne223 nin0))))
        have F758 := (F721.keep Kq756 ni757)
        have ni759 := ninS ne731 (ninS ne730 (ninS ne729 (ninS ne728 (ninS ne218 nin0))))
        have F760 := (F734.keep Kq756 ni759)
        refine Comes.cS X756 hx hZ hown (y := y13) (W := 0) (W hw 112) (W hw 113) dd (W hw 115) (pick_3_0_F l Z a0 hw [] j3 b6 b47 k6 k47 q1 j11 j18 j141 j142 j143 T756.heap n0 (by omega)  F758 F760 (by first | assumption | (have a_0 := hb648; have a_1 := hb685; have c_0 := rel4; have c_1 := rel144; (try simp only [ne_eq, Int32.lt_iff_toInt_lt, Int64.lt_iff_toInt_lt, ← Int32.toInt_inj, ← Int64.toInt_inj, Int32.reduceToInt, Int64.reduceToInt, eq_self, and_true, true_and, or_true, true_or, and_false, false_and, or_false, false_or, not_true_eq_false, not_false_eq_true] at a_0 a_1 c_0 c_1 ⊢) <;> omega))) (W hw 114) dd dd rfl rfl (by rw [hml]; rfl) (argsL := [(.int j3), (.ref b6), (.ref b47), (.int (3 : Int32)), (.int (0 : Int32))]) (rest := []) (lenOf pd_19 rfl) rfl (wle rfl) (hb hby at_456) rfl dd dd fun v761 T761 L761 hQ761 X761 => ?_
        obtain ⟨rfl, Nq761, hs761⟩ := hQ761
        have N761 := Fr.app N756 Nq761
        refine cs (fun t k => xistore X761 hc at_459 rfl rfl (xaload X761 hc at_461 rfl rfl k)) ?_
        show Comes p e below _ (T761.setTop (mkF m 463 #[vi flag, vj q1, S2, vj q2, S2, vj q3, S2, vj base, S2, vi j3, vi (3 : Int32), vr b6, vi j140, vr b23, vr b31, vr b39, vr b47, vr b145, vr b162, vr b287, vi (0 : Int32), vr b163, vi (1 : Int32), vi (1 : Int32), U0] [(.ref b287)]))
        have ni762 := ninS (Ne.symm ne668) (ninS (Ne.symm ne670) (ninS (Ne.symm ne672) (ninS (Ne.symm ne674) (ninS (Ne.symm ne624) nin0))))
        have F763 := (F737.keep Kq756 ni762)
        have F764 := (F738.keep Kq756 ni762)
        have ni765 := ninS (Ne.symm ne669) (ninS (Ne.symm ne671) (ninS (Ne.symm ne673) (ninS (Ne.symm ne675) (ninS ne630 nin0))))
        have F766 := (F740.keep Kq756 ni765)
        have F767 := (F741.keep Kq756)
        refine Comes.cV X761 hx hZ hown (y := y14) (W := 0) (W hw 116) (W hw 117) (W hw 119) (W hw 118) dd (W hw 120) (first1 l Z a0 hw [] b287 o293 r294 o632 o633 r636 b207 ((.ref b249)) (.null) T756.heap n0 (by omega)  F763 F764 F766 P756_0 P756_1) F767 (W hw 101) dd dd hs761 rfl (by rw [hml]; rfl) (argsL := []) (rest := []) (lenOf pd_20 rfl) rfl (wle rfl) (hb hby at_463) rfl dd dd fun v768 T768 L768 hQ768 X768 => ?_
        obtain ⟨rfl, Nq768, hs768⟩ := hQ768
        have N768 := Fr.app N761 Nq768
        refine cs (fun t k => xastore X768 hc at_466 rfl rfl rfl (xiload X768 hc at_468 rfl k)) ?_
        show Comes p e below _ (T768.setTop (mkF m 470 #[vi flag, vj q1, S2, vj q2, S2, vj q3, S2, vj base, S2, vi j3, vi (3 : Int32), vr b6, vi j140, vr b23, vr b31, vr b39, vr b47, vr b145, vr b162, vr b287, vi (0 : Int32), vr b163, vi (1 : Int32), vi (1 : Int32), vr b207] [(.int (1 : Int32))]))
        refine cs (fun t k => xifNo X768 hc at_470 rfl ((if0 _ _).trans (feq dd).1) (xiload X768 hc at_473 rfl k)) ?_
        refine cs (fun t k => xifYes X768 hc 475 486 at_475 rfl ((if0 _ _).trans (flt dd).2.1) (xaload X768 hc at_486 rfl rfl (xaload X768 hc at_488 rfl rfl (xiload X768 hc at_490 rfl k)))) ?_
        show Comes p e below _ (T768.setTop (mkF m 492 #[vi flag, vj q1, S2, vj q2, S2, vj q3, S2, vj base, S2, vi j3, vi (3 : Int32), vr b6, vi j140, vr b23, vr b31, vr b39, vr b47, vr b145, vr b162, vr b287, vi (0 : Int32), vr b163, vi (1 : Int32), vi (1 : Int32), vr b207] [(.int (1 : Int32)), (.ref b162), (.ref b207)]))
        have ni771 := ninS ne681 (ninS ne680 (ninS ne679 (ninS ne678 (ninS ne202 nin0))))
        have F772 := (F745.keep Kq756 ni771)
        refine Comes.ldR X768 hx hZ hs768 F772 rfl rfl (v := (.ref b207)) rfl (hb hby at_492) ?_
        have hc493_774 : b207 = b207 := by rfl
        refine cs (fun t k => Jvm.RoadKit.acmp (g := (mkF m 493 #[vi flag, vj q1, S2, vj q2, S2, vj q3, S2, vj base, S2, vi j3, vi (3 : Int32), vr b6, vi j140, vr b23, vr b31, vr b39, vr b47, vr b145, vr b162, vr b287, vi (0 : Int32), vr b163, vi (1 : Int32), vi (1 : Int32), vr b207] [(.ref b207), (.ref b207)])) X768 hx rfl rfl rfl (pc0 := 493) (pc' := 496) (same := true) rfl (hb hby at_493) rfl (decide_eq_true (congrArg Value.ref hc493_774)) dd dd (xiconst X768 hc at_496 (xgoto X768 hc 497 501 at_497 (xistore X768 hc at_501 rfl rfl (xiload X768 hc at_503 rfl k))))) ?_
        show Comes p e below _ (T768.setTop (mkF m 505 #[vi flag, vj q1, S2, vj q2, S2, vj q3, S2, vj base, S2, vi j3, vi (3 : Int32), vr b6, vi j140, vr b23, vr b31, vr b39, vr b47, vr b145, vr b162, vr b287, vi (0 : Int32), vr b163, vi (1 : Int32), vi (1 : Int32), vr b207] [(.int (1 : Int32))]))
        show Comes p e below _ (T768.setTop (mkF m 505 #[vi flag, vj q1, S2, vj q2, S2, vj q3, S2, vj base, S2, vi j3, vi (3 : Int32), vr b6, vi j140, vr b23, vr b31, vr b39, vr b47, vr b145, vr b162, vr b287, vi (0 : Int32), vr b163, vi (1 : Int32), vi (1 : Int32), vr b207] [(.int (1 : Int32))]))
        exact Comes.retN X768 hx (t := .boolean) Bd.returns (by simp) hlk (hb hby at_505) hs768 ⟨rfl, N768⟩ dd dd
      · by_cases hb775 : ((¬ q1 = j18 ∧ ¬ j3 = (0 : Int32) ∧ q1 < j18) ∨ (¬ q1 = j18 ∧ j3 = (0 : Int32) ∧ j18 < q1) ∨ (q1 = j18 ∧ j141 < j143))
        · have F776 := (P631_0.keep Kq676)
          have ni777 := ninS (Ne.symm ne668) (ninS (Ne.symm ne670) (ninS (Ne.symm ne672) (ninS (Ne.symm ne674) (ninS (Ne.symm ne653) (ninS (Ne.symm ne624) nin0)))))
          have F778 := (P631_1.keep Kq676 ni777)
          have F779 := (P631_2.keep Kq676 ni777)
          have F780 := (P631_3.keep Kq676 ni777)
          have ni781 := ninS (Ne.symm ne669) (ninS (Ne.symm ne671) (ninS (Ne.symm ne673) (ninS (Ne.symm ne675) (ninS (Ne.symm ne655) (ninS ne630 nin0)))))
          have F782 := (P631_4.keep Kq676 ni781)
          have F783 := (F649.keep Kq676)
          have F784 := (F650.keep Kq676)
          have F785 := (((((P281_0.wr W286).ext E287).keep Kq292).keep Kq631).keep Kq676)
          have ne786 : b249 ≠ b287 := by omega
          have ni787 := ninS ne786 nin0
          have ne788 : b249 ≠ o293 := by omega
          have ni789 := ninS ne786 (ninS ne788 (ninS (Ne.symm ne622) nin0))
          have ne790 : b249 ≠ o635 := by omega
          have ne791 : b249 ≠ o634 := by omega
          have ne792 : b249 ≠ o633 := by omega
          have ne793 := ne_exa F785 P676_0 dd
          have ni794 := ninS ne793 (ninS ne792 (ninS ne791 (ninS ne790 (ninS (Ne.symm ne651) (ninS (Ne.symm ne622) nin0)))))
          have F795 := (((((P281_1.other W286 (Or.inl (Ne.symm ne283))).ext E287).keep Kq292 ni787).keep Kq631 ni789).keep Kq676 ni794)
          have F796 := (((((P281_2.other W286 (Or.inl (Ne.symm ne283))).ext E287).keep Kq292 ni787).keep Kq631 ni789).keep Kq676 ni794)
          have F797 := (((((P281_3.other W286 (Or.inl (Ne.symm ne283))).ext E287).keep Kq292 ni787).keep Kq631 ni789).keep Kq676 ni794)
          refine Comes.cV X676 hx hZ hown (y := y15) (W := 0) (W hw 123) (W hw 124) (W hw 126) (W hw 125) dd (W hw 127) (add_2_1 l Z a0 hw [] b287 b249 o293 r294 j3 o632 o633 o634 o635 r636 r637 r638 b163 b207 (.null) q1 j11 ((0 : Int64)) j141 j142 ((0 : Int64)) j18 j143 (.null) ((.ref b207)) T676.heap n0 (by omega)  F776 F778 F779 F780 F782 P676_0 P676_1 P676_2 P676_3 P676_4 P676_5 P631_12 P676_6 P676_7 F783 F784 P676_9 F785 F795 F796 F797 (by assumption) (by assumption) (by assumption) P631_16 P631_17 P631_18 P631_19 gn278 gn197 P631_24 P631_25 P631_26 (Ne.symm ne793) ne661 P631_27 P631_28 (Ne.symm ne792) ne663 P631_29 (Ne.symm ne791) ne665 (Ne.symm ne790) ne667 (Ne.symm ne622) ne668 ne669 ne670 ne671 ne672 ne673 ne674 ne675 ne786 ne788 ne624 (Ne.symm ne630)) F776 (W hw 101) dd dd rfl rfl (by rw [hml]; rfl) (argsL := [(.ref b249)]) (rest := []) (lenOf pd_21 rfl) rfl (wle rfl) (hb hby at_372) rfl dd dd fun v798 T798 L798 hQ798 X798 => ?_
          obtain ⟨rfl, Nq798, Kq798, P798_0, P798_1, P798_2, P798_3, P798_4, P798_5, P798_6, P798_7, P798_8, P798_9⟩ := hQ798
          have N798 := Fr.app N676 Nq798
          have z798k : T676.heap.size ≤ T798.heap.size := Kq798.1
          refine cs (fun t k => xiload X798 hc at_375 rfl (xaload X798 hc at_377 rfl rfl (xaload X798 hc at_379 rfl rfl (xiload X798 hc at_381 rfl (xiconst X798 hc at_383 k))))) ?_
          show Comes p e below _ (T798.setTop (mkF m 384 #[vi flag, vj q1, S2, vj q2, S2, vj q3, S2, vj base, S2, vi j3, vi (3 : Int32), vr b6, vi j140, vr b23, vr b31, vr b39, vr b47, vr b145, vr b162, vr b287, U0, U0, U0, U0, U0] [(.int (-1 : Int32)), (.int (3 : Int32)), (.ref b47), (.ref b6), (.int j3)]))
          have ne799 : b6 ≠ b249 := by omega
          have ni800 := ninS ne799 nin0
          have ne801 : b6 ≠ b287 := by omega
          have ni802 := ninS ne801 nin0
          have ne803 : b6 ≠ o293 := by omega
          have ni804 := ninS ne801 (ninS ne803 (ninS ne223 nin0))
          have ne805 : b6 ≠ o635 := by omega
          have ne806 : b6 ≠ o634 := by omega
          have ne807 : b6 ≠ o633 := by omega
          have ne808 : b6 ≠ o632 := by omega
          have ni809 := ninS ne808 (ninS ne807 (ninS ne806 (ninS ne805 (ninS ne264 (ninS ne223 nin0)))))
          have ni810 := ninS ne808 (ninS ne807 (ninS ne806 (ninS ne805 (ninS ne799 (ninS ne223 nin0)))))
          have F811 := (((((((F266.keep Kq281 ni800).other W286 ne225).ext E287).keep Kq292 ni802).keep Kq631 ni804).keep Kq676 ni809).keep Kq798 ni810)
          have ne812 : b47 ≠ b249 := by omega
          have ni813 := ninS ne812 nin0
          have ne814 : b47 ≠ b287 := by omega
          have ni815 := ninS ne814 nin0
          have ne816 : b47 ≠ o293 := by omega
          have ni817 := ninS ne814 (ninS ne816 (ninS ne218 nin0))
          have ne818 : b47 ≠ o635 := by omega
          have ne819 : b47 ≠ o634 := by omega
          have ne820 : b47 ≠ o633 := by omega
          have ne821 : b47 ≠ o632 := by omega
          have ni822 := ninS ne821 (ninS ne820 (ninS ne819 (ninS ne818 (ninS ne260 (ninS ne218 nin0)))))
          have ni823 := ninS ne821 (ninS ne820 (ninS ne819 (ninS ne818 (ninS ne812 (ninS ne218 nin0)))))
          have F824 := (((((((F262.keep Kq281 ni813).other W286 ne220).ext E287).keep Kq292 ni815).keep Kq631 ni817).keep Kq676 ni822).keep Kq798 ni823)
          refine Comes.cS X798 hx hZ hown (y := y13) (W := 0) (W hw 112) (W hw 113) dd (W hw 115) (pick_3_m_FF l Z a0 hw [] j3 b6 b47 k6 k47 q1 j11 j18 j141 j142 j143 T798.heap n0 (by omega)  F811 F824 (by first | assumption | (have a_0 := hb648; have a_1 := hb685; have a_2 := hb775; have c_0 := rel4; have c_1 := rel144; (try simp only [ne_eq, Int32.lt_iff_toInt_lt, Int64.lt_iff_toInt_lt, ← Int32.toInt_inj, ← Int64.toInt_inj, Int32.reduceToInt, Int64.reduceToInt, eq_self, and_true, true_and, or_true, true_or, and_false, false_and, or_false, false_or, not_true_eq_false, not_false_eq_true] at a_0 a_1 a_2 c_0 c_1 ⊢) <;> omega)) (by first | assumption | (have a_0 := hb648; have a_1 := hb685; have a_2 := hb775; have c_0 := rel4; have c_1 := rel144; (try simp only [ne_eq, Int32.lt_iff_toInt_lt, Int64.lt_iff_toInt_lt, ← Int32.toInt_inj, ← Int64.toInt_inj, Int32.reduceToInt, Int64.reduceToInt, eq_self, and_true, true_and, or_true, true_or, and_false, false_and, or_false, false_or, not_true_eq_false, not_false_eq_true] at a_0 a_1 a_2 c_0 c_1 ⊢) <;> omega))) (W hw 114) dd dd rfl rfl (by rw [hml]; rfl) (argsL := [(.int j3), (.ref b6), (.ref b47), (.int (3 : Int32)), (.int (-1 : Int32))]) (rest := []) (lenOf pd_19 rfl) rfl (wle rfl) (hb hby at_384) rfl dd dd fun v825 T825 L825 hQ825 X825 => ?_
          obtain ⟨rfl, Nq825, hs825⟩ := hQ825
          have N825 := Fr.app N798 Nq825
          refine cs (fun t k => xistore X825 hc at_387 rfl rfl (xaload X825 hc at_389 rfl rfl k)) ?_
          show Comes p e below _ (T825.setTop (mkF m 391 #[vi flag, vj q1, S2, vj q2, S2, vj q3, S2, vj base, S2, vi j3, vi (3 : Int32), vr b6, vi j140, vr b23, vr b31, vr b39, vr b47, vr b145, vr b162, vr b287, vi (0 : Int32), U0, U0, U0, U0] [(.ref b287)]))
          have ni826 := ninS (Ne.symm ne668) (ninS (Ne.symm ne670) (ninS (Ne.symm ne672) (ninS (Ne.symm ne674) (ninS (Ne.symm ne786) (ninS (Ne.symm ne624) nin0)))))
          have F827 := (F778.keep Kq798 ni826)
          have F828 := (F779.keep Kq798 ni826)
          have ni829 := ninS (Ne.symm ne669) (ninS (Ne.symm ne671) (ninS (Ne.symm ne673) (ninS (Ne.symm ne675) (ninS (Ne.symm ne788) (ninS ne630 nin0)))))
          have F830 := (F782.keep Kq798 ni829)
          have F831 := (F776.keep Kq798)
          refine Comes.cV X825 hx hZ hown (y := y14) (W := 0) (W hw 116) (W hw 117) (W hw 119) (W hw 118) dd (W hw 120) (first1 l Z a0 hw [] b287 o293 r294 o632 o633 r636 b163 ((.ref b249)) ((.ref b207)) T798.heap n0 (by omega)  F827 F828 F830 P798_1 P798_5) F831 (W hw 101) dd dd hs825 rfl (by rw [hml]; rfl) (argsL := []) (rest := []) (lenOf pd_20 rfl) rfl (wle rfl) (hb hby at_391) rfl dd dd fun v832 T832 L832 hQ832 X832 => ?_
          obtain ⟨rfl, Nq832, hs832⟩ := hQ832
          have N832 := Fr.app N825 Nq832
          refine cs (fun t k => xastore X832 hc at_394 rfl rfl rfl (xiload X832 hc at_396 rfl k)) ?_
          show Comes p e below _ (T832.setTop (mkF m 398 #[vi flag, vj q1, S2, vj q2, S2, vj q3, S2, vj base, S2, vi j3, vi (3 : Int32), vr b6, vi j140, vr b23, vr b31, vr b39, vr b47, vr b145, vr b162, vr b287, vi (0 : Int32), vr b163, U0, U0, U0] [(.int (0 : Int32))]))
          refine cs (fun t k => xifYes X832 hc 398 414 at_398 rfl ((if0 _ _).trans (flt dd).2.1) (xaload X832 hc at_414 rfl rfl (xaload X832 hc at_416 rfl rfl (xiload X832 hc at_418 rfl k)))) ?_
          show Comes p e below _ (T832.setTop (mkF m 420 #[vi flag, vj q1, S2, vj q2, S2, vj q3, S2, vj base, S2, vi j3, vi (3 : Int32), vr b6, vi j140, vr b23, vr b31, vr b39, vr b47, vr b145, vr b162, vr b287, vi (0 : Int32), vr b163, U0, U0, U0] [(.int (0 : Int32)), (.ref b162), (.ref b163)]))
          have ni834 := ninS ne681 (ninS ne680 (ninS ne679 (ninS ne678 (ninS ne283 (ninS ne202 nin0)))))
          have F835 := (F683.keep Kq798 ni834)
          refine Comes.ldR X832 hx hZ hs832 F835 rfl rfl (v := (.ref b163)) rfl (hb hby at_420) ?_
          have hc421_837 : b163 = b163 := by rfl
          refine cs (fun t k => Jvm.RoadKit.acmp (g := (mkF m 421 #[vi flag, vj q1, S2, vj q2, S2, vj q3, S2, vj base, S2, vi j3, vi (3 : Int32), vr b6, vi j140, vr b23, vr b31, vr b39, vr b47, vr b145, vr b162, vr b287, vi (0 : Int32), vr b163, U0, U0, U0] [(.ref b163), (.ref b163)])) X832 hx rfl rfl rfl (pc0 := 421) (pc' := 424) (same := true) rfl (hb hby at_421) rfl (decide_eq_true (congrArg Value.ref hc421_837)) dd dd (xiconst X832 hc at_424 (xgoto X832 hc 425 429 at_425 (xistore X832 hc at_429 rfl rfl (xiload X832 hc at_431 rfl k))))) ?_
          show Comes p e below _ (T832.setTop (mkF m 433 #[vi flag, vj q1, S2, vj q2, S2, vj q3, S2, vj base, S2, vi j3, vi (3 : Int32), vr b6, vi j140, vr b23, vr b31, vr b39, vr b47, vr b145, vr b162, vr b287, vi (0 : Int32), vr b163, vi (1 : Int32), U0, U0] [(.int (0 : Int32))]))
          refine cs (fun t k => xifNo X832 hc at_433 rfl ((if0 _ _).trans (flt dd).1) (xaload X832 hc at_436 rfl rfl (xaload X832 hc at_438 rfl rfl (xiload X832 hc at_440 rfl k)))) ?_
          show Comes p e below _ (T832.setTop (mkF m 442 #[vi flag, vj q1, S2, vj q2, S2, vj q3, S2, vj base, S2, vi j3, vi (3 : Int32), vr b6, vi j140, vr b23, vr b31, vr b39, vr b47, vr b145, vr b162, vr b287, vi (0 : Int32), vr b163, vi (1 : Int32), U0, U0] [(.int (0 : Int32)), (.ref b162), (.ref b287)]))
          refine Comes.ldR X832 hx hZ hs832 F835 rfl rfl (v := (.ref b163)) rfl (hb hby at_442) ?_
          have F840 := (F780.keep Kq798 ni826)
          have F841 := (F783.keep Kq798)
          have F842 := (F785.keep Kq798)
          have F843 := (F784.keep Kq798)
          refine Comes.cV X832 hx hZ hown (y := y28) (W := 0) (W hw 201) (W hw 202) (W hw 204) (W hw 203) dd (W hw 205) (rem_3 l Z a0 hw [] b287 b163 o293 r294 j3 o632 o633 o634 o635 r636 r637 r638 b249 b207 q1 j18 j11 j141 j143 j142 ((.ref b249)) T798.heap n0 (by omega)  F831 F827 F828 F840 F830 P631_5 P798_0 P798_1 P798_2 P798_3 P798_4 P798_5 P631_12 P798_6 P798_7 F841 F842 F843 P798_9 P631_16 P631_17 P631_18 P631_19 gn197 P631_24 P631_25 P631_26 ne661 P631_27 P631_28 ne663 P631_29 ne665 ne667 ne668 ne669 ne670 ne671 ne672 ne673 ne674 ne675 ne624 (Ne.symm ne630)) F831 (W hw 101) dd dd hs832 rfl (by rw [hml]; rfl) (argsL := [(.ref b163)]) (rest := []) (lenOf pd_21 rfl) rfl (wle rfl) (hb hby at_443) rfl dd dd fun v844 T844 L844 hQ844 X844 => ?_
          obtain ⟨rfl, Nq844, Kq844, P844_0, P844_1⟩ := hQ844
          have N844 := Fr.app N832 Nq844
          have z844k : T798.heap.size ≤ T844.heap.size := Kq844.1
          refine cs (fun t k => xiload X844 hc at_446 rfl (xaload X844 hc at_448 rfl rfl (xaload X844 hc at_450 rfl rfl (xiload X844 hc at_452 rfl (xiload X844 hc at_454 rfl k))))) ?_
          show Comes p e below _ (T844.setTop (mkF m 456 #[vi flag, vj q1, S2, vj q2, S2, vj q3, S2, vj base, S2, vi j3, vi (3 : Int32), vr b6, vi j140, vr b23, vr b31, vr b39, vr b47, vr b145, vr b162, vr b287, vi (0 : Int32), vr b163, vi (1 : Int32), U0, U0] [(.int (0 : Int32)), (.int (3 : Int32)), (.ref b47), (.ref b6), (.int j3)]))
          have ni845 := ninS ne808 (ninS ne807 (ninS ne806 (ninS ne805 (ninS ne223 nin0))))
          have F846 := (F811.keep Kq844 ni845)
          have ni847 := ninS ne821 (ninS ne820 (ninS ne819 (ninS ne818 (ninS ne218 nin0))))
          have F848 := (F824.keep Kq844 ni847)
          refine Comes.cS X844 hx hZ hown (y := y13) (W := 0) (W hw 112) (W hw 113) dd (W hw 115) (pick_3_0_T l Z a0 hw [] j3 b6 b47 k6 k47 q1 j11 j18 j141 j142 j143 T844.heap n0 (by omega)  F846 F848 (by first | assumption | (have a_0 := hb648; have a_1 := hb685; have a_2 := hb775; have c_0 := rel4; have c_1 := rel144; (try simp only [ne_eq, Int32.lt_iff_toInt_lt, Int64.lt_iff_toInt_lt, ← Int32.toInt_inj, ← Int64.toInt_inj, Int32.reduceToInt, Int64.reduceToInt, eq_self, and_true, true_and, or_true, true_or, and_false, false_and, or_false, false_or, not_true_eq_false, not_false_eq_true] at a_0 a_1 a_2 c_0 c_1 ⊢) <;> omega))) (W hw 114) dd dd rfl rfl (by rw [hml]; rfl) (argsL := [(.int j3), (.ref b6), (.ref b47), (.int (3 : Int32)), (.int (0 : Int32))]) (rest := []) (lenOf pd_19 rfl) rfl (wle rfl) (hb hby at_456) rfl dd dd fun v849 T849 L849 hQ849 X849 => ?_
          obtain ⟨rfl, Nq849, hs849⟩ := hQ849
          have N849 := Fr.app N844 Nq849
          refine cs (fun t k => xistore X849 hc at_459 rfl rfl (xaload X849 hc at_461 rfl rfl k)) ?_
          show Comes p e below _ (T849.setTop (mkF m 463 #[vi flag, vj q1, S2, vj q2, S2, vj q3, S2, vj base, S2, vi j3, vi (3 : Int32), vr b6, vi j140, vr b23, vr b31, vr b39, vr b47, vr b145, vr b162, vr b287, vi (0 : Int32), vr b163, vi (1 : Int32), vi (2 : Int32), U0] [(.ref b287)]))
          have ni850 := ninS (Ne.symm ne668) (ninS (Ne.symm ne670) (ninS (Ne.symm ne672) (ninS (Ne.symm ne674) (ninS (Ne.symm ne624) nin0))))
          have F851 := (F827.keep Kq844 ni850)
          have F852 := (F828.keep Kq844 ni850)
          have ni853 := ninS (Ne.symm ne669) (ninS (Ne.symm ne671) (ninS (Ne.symm ne673) (ninS (Ne.symm ne675) (ninS ne630 nin0))))
          have F854 := (F830.keep Kq844 ni853)
          have F855 := (F831.keep Kq844)
          refine Comes.cV X849 hx hZ hown (y := y14) (W := 0) (W hw 116) (W hw 117) (W hw 119) (W hw 118) dd (W hw 120) (first1 l Z a0 hw [] b287 o293 r294 o632 o633 r636 b249 ((.ref b207)) (.null) T844.heap n0 (by omega)  F851 F852 F854 P844_0 P844_1) F855 (W hw 101) dd dd hs849 rfl (by rw [hml]; rfl) (argsL := []) (rest := []) (lenOf pd_20 rfl) rfl (wle rfl) (hb hby at_463) rfl dd dd fun v856 T856 L856 hQ856 X856 => ?_
          obtain ⟨rfl, Nq856, hs856⟩ := hQ856
          have N856 := Fr.app N849 Nq856
          refine cs (fun t k => xastore X856 hc at_466 rfl rfl rfl (xiload X856 hc at_468 rfl k)) ?_
          show Comes p e below _ (T856.setTop (mkF m 470 #[vi flag, vj q1, S2, vj q2, S2, vj q3, S2, vj base, S2, vi j3, vi (3 : Int32), vr b6, vi j140, vr b23, vr b31, vr b39, vr b47, vr b145, vr b162, vr b287, vi (0 : Int32), vr b163, vi (1 : Int32), vi (2 : Int32), vr b249] [(.int (1 : Int32))]))
          refine cs (fun t k => xifNo X856 hc at_470 rfl ((if0 _ _).trans (feq dd).1) (xiload X856 hc at_473 rfl k)) ?_
          refine cs (fun t k => xifYes X856 hc 475 486 at_475 rfl ((if0 _ _).trans (flt dd).2.1) (xaload X856 hc at_486 rfl rfl (xaload X856 hc at_488 rfl rfl (xiload X856 hc at_490 rfl k)))) ?_
          show Comes p e below _ (T856.setTop (mkF m 492 #[vi flag, vj q1, S2, vj q2, S2, vj q3, S2, vj base, S2, vi j3, vi (3 : Int32), vr b6, vi j140, vr b23, vr b31, vr b39, vr b47, vr b145, vr b162, vr b287, vi (0 : Int32), vr b163, vi (1 : Int32), vi (2 : Int32), vr b249] [(.int (2 : Int32)), (.ref b162), (.ref b249)]))
          have ni859 := ninS ne681 (ninS ne680 (ninS ne679 (ninS ne678 (ninS ne202 nin0))))
          have F860 := (F835.keep Kq844 ni859)
          refine Comes.ldR X856 hx hZ hs856 F860 rfl rfl (v := (.ref b249)) rfl (hb hby at_492) ?_
          have hc493_862 : b249 = b249 := by rfl
          refine cs (fun t k => Jvm.RoadKit.acmp (g := (mkF m 493 #[vi flag, vj q1, S2, vj q2, S2, vj q3, S2, vj base, S2, vi j3, vi (3 : Int32), vr b6, vi j140, vr b23, vr b31, vr b39, vr b47, vr b145, vr b162, vr b287, vi (0 : Int32), vr b163, vi (1 : Int32), vi (2 : Int32), vr b249] [(.ref b249), (.ref b249)])) X856 hx rfl rfl rfl (pc0 := 493) (pc' := 496) (same := true) rfl (hb hby at_493) rfl (decide_eq_true (congrArg Value.ref hc493_862)) dd dd (xiconst X856 hc at_496 (xgoto X856 hc 497 501 at_497 (xistore X856 hc at_501 rfl rfl (xiload X856 hc at_503 rfl k))))) ?_
          show Comes p e below _ (T856.setTop (mkF m 505 #[vi flag, vj q1, S2, vj q2, S2, vj q3, S2, vj base, S2, vi j3, vi (3 : Int32), vr b6, vi j140, vr b23, vr b31, vr b39, vr b47, vr b145, vr b162, vr b287, vi (0 : Int32), vr b163, vi (1 : Int32), vi (2 : Int32), vr b249] [(.int (1 : Int32))]))
          show Comes p e below _ (T856.setTop (mkF m 505 #[vi flag, vj q1, S2, vj q2, S2, vj q3, S2, vj base, S2, vi j3, vi (3 : Int32), vr b6, vi j140, vr b23, vr b31, vr b39, vr b47, vr b145, vr b162, vr b287, vi (0 : Int32), vr b163, vi (1 : Int32), vi (2 : Int32), vr b249] [(.int (1 : Int32))]))
          exact Comes.retN X856 hx (t := .boolean) Bd.returns (by simp) hlk (hb hby at_505) hs856 ⟨rfl, N856⟩ dd dd
        · have F863 := (P631_0.keep Kq676)
          have ni864 := ninS (Ne.symm ne668) (ninS (Ne.symm ne670) (ninS (Ne.symm ne672) (ninS (Ne.symm ne674) (ninS (Ne.symm ne653) (ninS (Ne.symm ne624) nin0)))))
          have F865 := (P631_1.keep Kq676 ni864)
          have F866 := (P631_2.keep Kq676 ni864)
          have F867 := (P631_3.keep Kq676 ni864)
          have ni868 := ninS (Ne.symm ne669) (ninS (Ne.symm ne671) (ninS (Ne.symm ne673) (ninS (Ne.symm ne675) (ninS (Ne.symm ne655) (ninS ne630 nin0)))))
          have F869 := (P631_4.keep Kq676 ni868)
          have F870 := (F649.keep Kq676)
          have F871 := (F650.keep Kq676)
          have F872 := (((((P281_0.wr W286).ext E287).keep Kq292).keep Kq631).keep Kq676)
          have ne873 : b249 ≠ b287 := by omega
          have ni874 := ninS ne873 nin0
          have ne875 : b249 ≠ o293 := by omega
          have ni876 := ninS ne873 (ninS ne875 (ninS (Ne.symm ne622) nin0))
          have ne877 : b249 ≠ o635 := by omega
          have ne878 : b249 ≠ o634 := by omega
          have ne879 : b249 ≠ o633 := by omega
          have ne880 := ne_exa F872 P676_0 dd
          have ni881 := ninS ne880 (ninS ne879 (ninS ne878 (ninS ne877 (ninS (Ne.symm ne651) (ninS (Ne.symm ne622) nin0)))))
          have F882 := (((((P281_1.other W286 (Or.inl (Ne.symm ne283))).ext E287).keep Kq292 ni874).keep Kq631 ni876).keep Kq676 ni881)
          have F883 := (((((P281_2.other W286 (Or.inl (Ne.symm ne283))).ext E287).keep Kq292 ni874).keep Kq631 ni876).keep Kq676 ni881)
          have F884 := (((((P281_3.other W286 (Or.inl (Ne.symm ne283))).ext E287).keep Kq292 ni874).keep Kq631 ni876).keep Kq676 ni881)
          refine Comes.cV X676 hx hZ hown (y := y15) (W := 0) (W hw 123) (W hw 124) (W hw 126) (W hw 125) dd (W hw 127) (add_2_0 l Z a0 hw [] b287 b249 o293 r294 j3 o632 o633 o634 o635 r636 r637 r638 b163 b207 (.null) q1 j11 ((0 : Int64)) j141 j142 ((0 : Int64)) j18 j143 (.null) T676.heap n0 (by omega)  F863 F865 F866 F867 F869 P676_0 P676_1 P676_2 P676_3 P676_4 P676_5 P631_12 P676_6 P676_7 F870 F871 F872 F882 F883 F884 (by assumption) (by assumption) (by assumption) P631_16 P631_17 P631_18 P631_19 gn278 P631_24 P631_25 P631_26 (Ne.symm ne880) P631_27 P631_28 (Ne.symm ne879) P631_29 (Ne.symm ne878) (Ne.symm ne877) ne668 ne669 ne670 ne671 ne672 ne673 ne674 ne675 ne873 ne875) F863 (W hw 101) dd dd rfl rfl (by rw [hml]; rfl) (argsL := [(.ref b249)]) (rest := []) (lenOf pd_21 rfl) rfl (wle rfl) (hb hby at_372) rfl dd dd fun v885 T885 L885 hQ885 X885 => ?_
          obtain ⟨rfl, Nq885, Kq885, P885_0, P885_1, P885_2, P885_3, P885_4, P885_5, P885_6, P885_7, P885_8⟩ := hQ885
          have N885 := Fr.app N676 Nq885
          have z885k : T676.heap.size ≤ T885.heap.size := Kq885.1
          refine cs (fun t k => xiload X885 hc at_375 rfl (xaload X885 hc at_377 rfl rfl (xaload X885 hc at_379 rfl rfl (xiload X885 hc at_381 rfl (xiconst X885 hc at_383 k))))) ?_
          show Comes p e below _ (T885.setTop (mkF m 384 #[vi flag, vj q1, S2, vj q2, S2, vj q3, S2, vj base, S2, vi j3, vi (3 : Int32), vr b6, vi j140, vr b23, vr b31, vr b39, vr b47, vr b145, vr b162, vr b287, U0, U0, U0, U0, U0] [(.int (-1 : Int32)), (.int (3 : Int32)), (.ref b47), (.ref b6), (.int j3)]))
          have ne886 : b6 ≠ b249 := by omega
          have ni887 := ninS ne886 nin0
          have ne888 : b6 ≠ b287 := by omega
          have ni889 := ninS ne888 nin0
          have ne890 : b6 ≠ o293 := by omega
          have ni891 := ninS ne888 (ninS ne890 (ninS ne223 nin0))
          have ne892 : b6 ≠ o635 := by omega
          have ne893 : b6 ≠ o634 := by omega
          have ne894 : b6 ≠ o633 := by omega
          have ne895 : b6 ≠ o632 := by omega
          have ni896 := ninS ne895 (ninS ne894 (ninS ne893 (ninS ne892 (ninS ne264 (ninS ne223 nin0)))))
          have ni897 := ninS ne895 (ninS ne894 (ninS ne893 (ninS ne892 (ninS ne886 nin0))))
          have F898 := (((((((F266.keep Kq281 ni887).other W286 ne225).ext E287).keep Kq292 ni889).keep Kq631 ni891).keep Kq676 ni896).keep Kq885 ni897)
          have ne899 : b47 ≠ b249 := by omega
          have ni900 := ninS ne899 nin0
          have ne901 : b47 ≠ b287 := by omega
          have ni902 := ninS ne901 nin0
          have ne903 : b47 ≠ o293 := by omega
          have ni904 := ninS ne901 (ninS ne903 (ninS ne218 nin0))
          have ne905 : b47 ≠ o635 := by omega
          have ne906 : b47 ≠ o634 := by omega
          have ne907 : b47 ≠ o633 := by omega
          have ne908 : b47 ≠ o632 := by omega
          have ni909 := ninS ne908 (ninS ne907 (ninS ne906 (ninS ne905 (ninS ne260 (ninS ne218 nin0)))))
          have ni910 := ninS ne908 (ninS ne907 (ninS ne906 (ninS ne905 (ninS ne899 nin0))))
          have F911 := (((((((F262.keep Kq281 ni900).other W286 ne220).ext E287).keep Kq292 ni902).keep Kq631 ni904).keep Kq676 ni909).keep Kq885 ni910)
          refine Comes.cS X885 hx hZ hown (y := y13) (W := 0) (W hw 112) (W hw 113) dd (W hw 115) (pick_3_m_FT l Z a0 hw [] j3 b6 b47 k6 k47 q1 j11 j18 j141 j142 j143 T885.heap n0 (by omega)  F898 F911 (by first | assumption | (have a_0 := hb648; have a_1 := hb685; have a_2 := hb775; have c_0 := rel4; have c_1 := rel144; (try simp only [ne_eq, Int32.lt_iff_toInt_lt, Int64.lt_iff_toInt_lt, ← Int32.toInt_inj, ← Int64.toInt_inj, Int32.reduceToInt, Int64.reduceToInt, eq_self, and_true, true_and, or_true, true_or, and_false, false_and, or_false, false_or, not_true_eq_false, not_false_eq_true] at a_0 a_1 a_2 c_0 c_1 ⊢) <;> omega)) (by first | assumption | (have a_0 := hb648; have a_1 := hb685; have a_2 := hb775; have c_0 := rel4; have c_1 := rel144; (try simp only [ne_eq, Int32.lt_iff_toInt_lt, Int64.lt_iff_toInt_lt, ← Int32.toInt_inj, ← Int64.toInt_inj, Int32.reduceToInt, Int64.reduceToInt, eq_self, and_true, true_and, or_true, true_or, and_false, false_and, or_false, false_or, not_true_eq_false, not_false_eq_true] at a_0 a_1 a_2 c_0 c_1 ⊢) <;> omega))) (W hw 114) dd dd rfl rfl (by rw [hml]; rfl) (argsL := [(.int j3), (.ref b6), (.ref b47), (.int (3 : Int32)), (.int (-1 : Int32))]) (rest := []) (lenOf pd_19 rfl) rfl (wle rfl) (hb hby at_384) rfl dd dd fun v912 T912 L912 hQ912 X912 => ?_
          obtain ⟨rfl, Nq912, hs912⟩ := hQ912
          have N912 := Fr.app N885 Nq912
          refine cs (fun t k => xistore X912 hc at_387 rfl rfl (xaload X912 hc at_389 rfl rfl k)) ?_
          show Comes p e below _ (T912.setTop (mkF m 391 #[vi flag, vj q1, S2, vj q2, S2, vj q3, S2, vj base, S2, vi j3, vi (3 : Int32), vr b6, vi j140, vr b23, vr b31, vr b39, vr b47, vr b145, vr b162, vr b287, vi (2 : Int32), U0, U0, U0, U0] [(.ref b287)]))
          have ni913 := ninS (Ne.symm ne668) (ninS (Ne.symm ne670) (ninS (Ne.symm ne672) (ninS (Ne.symm ne674) (ninS (Ne.symm ne873) nin0))))
          have F914 := (F865.keep Kq885 ni913)
          have F915 := (F866.keep Kq885 ni913)
          have ni916 := ninS (Ne.symm ne669) (ninS (Ne.symm ne671) (ninS (Ne.symm ne673) (ninS (Ne.symm ne675) (ninS (Ne.symm ne875) nin0))))
          have F917 := (F869.keep Kq885 ni916)
          have F918 := (F863.keep Kq885)
          refine Comes.cV X912 hx hZ hown (y := y14) (W := 0) (W hw 116) (W hw 117) (W hw 119) (W hw 118) dd (W hw 120) (first1 l Z a0 hw [] b287 o293 r294 o632 o633 r636 b249 ((.ref b163)) ((.ref b207)) T885.heap n0 (by omega)  F914 F915 F917 P885_1 P885_5) F918 (W hw 101) dd dd hs912 rfl (by rw [hml]; rfl) (argsL := []) (rest := []) (lenOf pd_20 rfl) rfl (wle rfl) (hb hby at_391) rfl dd dd fun v919 T919 L919 hQ919 X919 => ?_
          obtain ⟨rfl, Nq919, hs919⟩ := hQ919
          have N919 := Fr.app N912 Nq919
          refine cs (fun t k => xastore X919 hc at_394 rfl rfl rfl (xiload X919 hc at_396 rfl k)) ?_
          show Comes p e below _ (T919.setTop (mkF m 398 #[vi flag, vj q1, S2, vj q2, S2, vj q3, S2, vj base, S2, vi j3, vi (3 : Int32), vr b6, vi j140, vr b23, vr b31, vr b39, vr b47, vr b145, vr b162, vr b287, vi (2 : Int32), vr b249, U0, U0, U0] [(.int (2 : Int32))]))
          refine cs (fun t k => xifYes X919 hc 398 414 at_398 rfl ((if0 _ _).trans (flt dd).2.1) (xaload X919 hc at_414 rfl rfl (xaload X919 hc at_416 rfl rfl (xiload X919 hc at_418 rfl k)))) ?_
          show Comes p e below _ (T919.setTop (mkF m 420 #[vi flag, vj q1, S2, vj q2, S2, vj q3, S2, vj base, S2, vi j3, vi (3 : Int32), vr b6, vi j140, vr b23, vr b31, vr b39, vr b47, vr b145, vr b162, vr b287, vi (2 : Int32), vr b249, U0, U0, U0] [(.int (2 : Int32)), (.ref b162), (.ref b249)]))
          have ni921 := ninS ne681 (ninS ne680 (ninS ne679 (ninS ne678 (ninS ne283 nin0))))
          have F922 := (F683.keep Kq885 ni921)
          refine Comes.ldR X919 hx hZ hs919 F922 rfl rfl (v := (.ref b249)) rfl (hb hby at_420) ?_
          have hc421_924 : b249 = b249 := by rfl
          refine cs (fun t k => Jvm.RoadKit.acmp (g := (mkF m 421 #[vi flag, vj q1, S2, vj q2, S2, vj q3, S2, vj base, S2, vi j3, vi (3 : Int32), vr b6, vi j140, vr b23, vr b31, vr b39, vr b47, vr b145, vr b162, vr b287, vi (2 : Int32), vr b249, U0, U0, U0] [(.ref b249), (.ref b249)])) X919 hx rfl rfl rfl (pc0 := 421) (pc' := 424) (same := true) rfl (hb hby at_421) rfl (decide_eq_true (congrArg Value.ref hc421_924)) dd dd (xiconst X919 hc at_424 (xgoto X919 hc 425 429 at_425 (xistore X919 hc at_429 rfl rfl (xiload X919 hc at_431 rfl k))))) ?_
          show Comes p e below _ (T919.setTop (mkF m 433 #[vi flag, vj q1, S2, vj q2, S2, vj q3, S2, vj base, S2, vi j3, vi (3 : Int32), vr b6, vi j140, vr b23, vr b31, vr b39, vr b47, vr b145, vr b162, vr b287, vi (2 : Int32), vr b249, vi (1 : Int32), U0, U0] [(.int (2 : Int32))]))
          refine cs (fun t k => xifNo X919 hc at_433 rfl ((if0 _ _).trans (flt dd).1) (xaload X919 hc at_436 rfl rfl (xaload X919 hc at_438 rfl rfl (xiload X919 hc at_440 rfl k)))) ?_
          show Comes p e below _ (T919.setTop (mkF m 442 #[vi flag, vj q1, S2, vj q2, S2, vj q3, S2, vj base, S2, vi j3, vi (3 : Int32), vr b6, vi j140, vr b23, vr b31, vr b39, vr b47, vr b145, vr b162, vr b287, vi (2 : Int32), vr b249, vi (1 : Int32), U0, U0] [(.int (2 : Int32)), (.ref b162), (.ref b287)]))
          refine Comes.ldR X919 hx hZ hs919 F922 rfl rfl (v := (.ref b249)) rfl (hb hby at_442) ?_
          have F927 := (F867.keep Kq885 ni913)
          have F928 := (F872.keep Kq885)
          have F929 := (F870.keep Kq885)
          have F930 := (F871.keep Kq885)
          refine Comes.cV X919 hx hZ hown (y := y28) (W := 0) (W hw 201) (W hw 202) (W hw 204) (W hw 203) dd (W hw 205) (rem_3 l Z a0 hw [] b287 b249 o293 r294 j3 o632 o633 o634 o635 r636 r637 r638 b163 b207 j18 q1 j11 j143 j141 j142 ((.ref b163)) T885.heap n0 (by omega)  F918 F914 F915 F927 F917 P631_5 P885_0 P885_1 P885_2 P885_3 P885_4 P885_5 P631_12 P885_6 P885_7 F928 F929 F930 P885_8 P631_16 P631_17 P631_18 P631_19 gn278 P631_24 P631_25 P631_26 (Ne.symm ne880) P631_27 P631_28 (Ne.symm ne879) P631_29 (Ne.symm ne878) (Ne.symm ne877) ne668 ne669 ne670 ne671 ne672 ne673 ne674 ne675 ne873 ne875) F918 (W hw 101) dd dd hs919 rfl (by rw [hml]; rfl) (argsL := [(.ref b249)]) (rest := []) (lenOf pd_21 rfl) rfl (wle rfl) (hb hby at_443) rfl dd dd fun v931 T931 L931 hQ931 X931 => ?_
          obtain ⟨rfl, Nq931, Kq931, P931_0, P931_1⟩ := hQ931
          have N931 := Fr.app N919 Nq931
          have z931k : T885.heap.size ≤ T931.heap.size := Kq931.1
          refine cs (fun t k => xiload X931 hc at_446 rfl (xaload X931 hc at_448 rfl rfl (xaload X931 hc at_450 rfl rfl (xiload X931 hc at_452 rfl (xiload X931 hc at_454 rfl k))))) ?_
          show Comes p e below _ (T931.setTop (mkF m 456 #[vi flag, vj q1, S2, vj q2, S2, vj q3, S2, vj base, S2, vi j3, vi (3 : Int32), vr b6, vi j140, vr b23, vr b31, vr b39, vr b47, vr b145, vr b162, vr b287, vi (2 : Int32), vr b249, vi (1 : Int32), U0, U0] [(.int (2 : Int32)), (.int (3 : Int32)), (.ref b47), (.ref b6), (.int j3)]))
          have F932 := (F898.keep Kq931 ni897)
          have F933 := (F911.keep Kq931 ni910)
          refine Comes.cS X931 hx hZ hown (y := y13) (W := 0) (W hw 112) (W hw 113) dd (W hw 115) (pick_3_2_F l Z a0 hw [] j3 b6 b47 k6 k47 q1 j11 j18 j141 j142 j143 T931.heap n0 (by omega)  F932 F933 (by first | assumption | (have a_0 := hb648; have a_1 := hb685; have a_2 := hb775; have c_0 := rel4; have c_1 := rel144; (try simp only [ne_eq, Int32.lt_iff_toInt_lt, Int64.lt_iff_toInt_lt, ← Int32.toInt_inj, ← Int64.toInt_inj, Int32.reduceToInt, Int64.reduceToInt, eq_self, and_true, true_and, or_true, true_or, and_false, false_and, or_false, false_or, not_true_eq_false, not_false_eq_true] at a_0 a_1 a_2 c_0 c_1 ⊢) <;> omega))) (W hw 114) dd dd rfl rfl (by rw [hml]; rfl) (argsL := [(.int j3), (.ref b6), (.ref b47), (.int (3 : Int32)), (.int (2 : Int32))]) (rest := []) (lenOf pd_19 rfl) rfl (wle rfl) (hb hby at_456) rfl dd dd fun v934 T934 L934 hQ934 X934 => ?_
          obtain ⟨rfl, Nq934, hs934⟩ := hQ934
          have N934 := Fr.app N931 Nq934
          refine cs (fun t k => xistore X934 hc at_459 rfl rfl (xaload X934 hc at_461 rfl rfl k)) ?_
          show Comes p e below _ (T934.setTop (mkF m 463 #[vi flag, vj q1, S2, vj q2, S2, vj q3, S2, vj base, S2, vi j3, vi (3 : Int32), vr b6, vi j140, vr b23, vr b31, vr b39, vr b47, vr b145, vr b162, vr b287, vi (2 : Int32), vr b249, vi (1 : Int32), vi (0 : Int32), U0] [(.ref b287)]))
          have F935 := (F914.keep Kq931 ni913)
          have F936 := (F915.keep Kq931 ni913)
          have F937 := (F917.keep Kq931 ni916)
          have F938 := (F918.keep Kq931)
          refine Comes.cV X934 hx hZ hown (y := y14) (W := 0) (W hw 116) (W hw 117) (W hw 119) (W hw 118) dd (W hw 120) (first1 l Z a0 hw [] b287 o293 r294 o632 o633 r636 b163 ((.ref b207)) (.null) T931.heap n0 (by omega)  F935 F936 F937 P931_0 P931_1) F938 (W hw 101) dd dd hs934 rfl (by rw [hml]; rfl) (argsL := []) (rest := []) (lenOf pd_20 rfl) rfl (wle rfl) (hb hby at_463) rfl dd dd fun v939 T939 L939 hQ939 X939 => ?_
          obtain ⟨rfl, Nq939, hs939⟩ := hQ939
          have N939 := Fr.app N934 Nq939
          refine cs (fun t k => xastore X939 hc at_466 rfl rfl rfl (xiload X939 hc at_468 rfl k)) ?_
          show Comes p e below _ (T939.setTop (mkF m 470 #[vi flag, vj q1, S2, vj q2, S2, vj q3, S2, vj base, S2, vi j3, vi (3 : Int32), vr b6, vi j140, vr b23, vr b31, vr b39, vr b47, vr b145, vr b162, vr b287, vi (2 : Int32), vr b249, vi (1 : Int32), vi (0 : Int32), vr b163] [(.int (1 : Int32))]))
          refine cs (fun t k => xifNo X939 hc at_470 rfl ((if0 _ _).trans (feq dd).1) (xiload X939 hc at_473 rfl k)) ?_
          refine cs (fun t k => xifYes X939 hc 475 486 at_475 rfl ((if0 _ _).trans (flt dd).2.1) (xaload X939 hc at_486 rfl rfl (xaload X939 hc at_488 rfl rfl (xiload X939 hc at_490 rfl k)))) ?_
          show Comes p e below _ (T939.setTop (mkF m 492 #[vi flag, vj q1, S2, vj q2, S2, vj q3, S2, vj base, S2, vi j3, vi (3 : Int32), vr b6, vi j140, vr b23, vr b31, vr b39, vr b47, vr b145, vr b162, vr b287, vi (2 : Int32), vr b249, vi (1 : Int32), vi (0 : Int32), vr b163] [(.int (0 : Int32)), (.ref b162), (.ref b163)]))
          have F942 := (F922.keep Kq931 ni921)
          refine Comes.ldR X939 hx hZ hs939 F942 rfl rfl (v := (.ref b163)) rfl (hb hby at_492) ?_
          have hc493_944 : b163 = b163 := by rfl
          refine cs (fun t k => Jvm.RoadKit.acmp (g := (mkF m 493 #[vi flag, vj q1, S2, vj q2, S2, vj q3, S2, vj base, S2, vi j3, vi (3 : Int32), vr b6, vi j140, vr b23, vr b31, vr b39, vr b47, vr b145, vr b162, vr b287, vi (2 : Int32), vr b249, vi (1 : Int32), vi (0 : Int32), vr b163] [(.ref b163), (.ref b163)])) X939 hx rfl rfl rfl (pc0 := 493) (pc' := 496) (same := true) rfl (hb hby at_493) rfl (decide_eq_true (congrArg Value.ref hc493_944)) dd dd (xiconst X939 hc at_496 (xgoto X939 hc 497 501 at_497 (xistore X939 hc at_501 rfl rfl (xiload X939 hc at_503 rfl k))))) ?_
          show Comes p e below _ (T939.setTop (mkF m 505 #[vi flag, vj q1, S2, vj q2, S2, vj q3, S2, vj base, S2, vi j3, vi (3 : Int32), vr b6, vi j140, vr b23, vr b31, vr b39, vr b47, vr b145, vr b162, vr b287, vi (2 : Int32), vr b249, vi (1 : Int32), vi (0 : Int32), vr b163] [(.int (1 : Int32))]))
          show Comes p e below _ (T939.setTop (mkF m 505 #[vi flag, vj q1, S2, vj q2, S2, vj q3, S2, vj base, S2, vi j3, vi (3 : Int32), vr b6, vi j140, vr b23, vr b31, vr b39, vr b47, vr b145, vr b162, vr b287, vi (2 : Int32), vr b249, vi (1 : Int32), vi (0 : Int32), vr b163] [(.int (1 : Int32))]))
          exact Comes.retN X939 hx (t := .boolean) Bd.returns (by simp) hlk (hb hby at_505) hs939 ⟨rfl, N939⟩ dd dd
    · have F945 := (F619.keep Kq631)
      have F946 := (((((((P243_0.wr W248).ext E249).keep Kq281).wr W286).ext E287).keep Kq292).keep Kq631)
      have ne947 : b207 ≠ b249 := by omega
      have ni948 := ninS ne947 nin0
      have ne949 : b207 ≠ b287 := by omega
      have ni950 := ninS ne949 nin0
      have ne951 : b207 ≠ o293 := by omega
      have ni952 := ninS ne949 (ninS ne951 (ninS (Ne.symm ne620) nin0))
      have F953 := (((((((P243_1.other W248 (Or.inl (Ne.symm ne245))).ext E249).keep Kq281 ni948).other W286 (Or.inl (Ne.symm ne245))).ext E287).keep Kq292 ni950).keep Kq631 ni952)
      have F954 := (((((((P243_2.other W248 (Or.inl (Ne.symm ne245))).ext E249).keep Kq281 ni948).other W286 (Or.inl (Ne.symm ne245))).ext E287).keep Kq292 ni950).keep Kq631 ni952)
      have F955 := (((((((P243_3.other W248 (Or.inl (Ne.symm ne245))).ext E249).keep Kq281 ni948).other W286 (Or.inl (Ne.symm ne245))).ext E287).keep Kq292 ni950).keep Kq631 ni952)
      have ne956 := ne_exa P631_6 F946 dd
      have ne957 : o633 ≠ b207 := by omega
      have ne958 : o634 ≠ b207 := by omega
      have ne959 : o635 ≠ b207 := by omega
      have ne960 := ne_exa P631_6 P631_0 dd
      have ne961 : o632 ≠ o293 := by omega
      have ne962 : o633 ≠ b287 := by omega
      have ne963 : o633 ≠ o293 := by omega
      have ne964 : o634 ≠ b287 := by omega
      have ne965 : o634 ≠ o293 := by omega
      have ne966 : o635 ≠ b287 := by omega
      have ne967 : o635 ≠ o293 := by omega
      refine Comes.cV X631 hx hZ hown (y := y15) (W := 0) (W hw 123) (W hw 124) (W hw 126) (W hw 125) dd (W hw 127) (add_1_0 l Z a0 hw [] b287 b207 o293 r294 j3 o632 o633 o634 o635 r636 r637 r638 b163 (.null) (.null) q1 ((0 : Int64)) ((0 : Int64)) j141 ((0 : Int64)) ((0 : Int64)) j11 j142 (.null) T631.heap n0 (by omega)  P631_0 P631_1 P631_2 P631_3 P631_4 P631_6 P631_7 P631_8 P631_9 P631_10 P631_11 P631_12 P631_13 P631_14 F945 F946 F953 F954 F955 (by assumption) (by assumption) P631_16 P631_17 P631_18 P631_19 gn240 P631_24 P631_25 P631_26 ne956 P631_27 P631_28 ne957 P631_29 ne958 ne959 ne960 ne961 ne962 ne963 ne964 ne965 ne966 ne967 ne949 ne951) P631_0 (W hw 101) dd dd rfl rfl (by rw [hml]; rfl) (argsL := [(.ref b207)]) (rest := []) (lenOf pd_21 rfl) rfl (wle rfl) (hb hby at_357) rfl dd dd fun v968 T968 L968 hQ968 X968 => ?_
      obtain ⟨rfl, Nq968, Kq968, P968_0, P968_1, P968_2, P968_3, P968_4, P968_5, P968_6, P968_7, P968_8⟩ := hQ968
      have N968 := Fr.app N631 Nq968
      have z968k : T631.heap.size ≤ T968.heap.size := Kq968.1
      refine cs (fun t k => xiload X968 hc at_360 rfl (xiconst X968 hc at_362 k)) ?_
      show Comes p e below _ (T968.setTop (mkF m 363 #[vi flag, vj q1, S2, vj q2, S2, vj q3, S2, vj base, S2, vi j3, vi (3 : Int32), vr b6, vi j140, vr b23, vr b31, vr b39, vr b47, vr b145, vr b162, vr b287, U0, U0, U0, U0, U0] [(.int (3 : Int32)), (.int (3 : Int32))]))
      refine cs (fun t k => xicmpNo X968 hc at_363 rfl (flt dd).1 (xaload X968 hc at_366 rfl rfl (xaload X968 hc at_368 rfl rfl (xiconst X968 hc at_370 k)))) ?_
      show Comes p e below _ (T968.setTop (mkF m 371 #[vi flag, vj q1, S2, vj q2, S2, vj q3, S2, vj base, S2, vi j3, vi (3 : Int32), vr b6, vi j140, vr b23, vr b31, vr b39, vr b47, vr b145, vr b162, vr b287, U0, U0, U0, U0, U0] [(.int (2 : Int32)), (.ref b162), (.ref b287)]))
      have ne970 : b162 ≠ o635 := by omega
      have ne971 : b162 ≠ o634 := by omega
      have ne972 : b162 ≠ o633 := by omega
      have ne973 : b162 ≠ o632 := by omega
      have ni974 := ninS ne973 (ninS ne972 (ninS ne971 (ninS ne970 (ninS ne245 nin0))))
      have F975 := (F646.keep Kq968 ni974)
      refine Comes.ldR X968 hx hZ rfl F975 rfl rfl (v := (.ref b249)) rfl (hb hby at_371) ?_
      by_cases hb977 : ((¬ q1 = j18 ∧ ¬ j3 = (0 : Int32) ∧ q1 < j18) ∨ (¬ q1 = j18 ∧ j3 = (0 : Int32) ∧ j18 < q1) ∨ (q1 = j18 ∧ j141 < j143))
      · have F978 := (P631_0.keep Kq968)
        have ni979 := ninS (Ne.symm ne960) (ninS (Ne.symm ne962) (ninS (Ne.symm ne964) (ninS (Ne.symm ne966) (ninS (Ne.symm ne949) nin0))))
        have F980 := (P631_1.keep Kq968 ni979)
        have F981 := (P631_2.keep Kq968 ni979)
        have F982 := (P631_3.keep Kq968 ni979)
        have ni983 := ninS (Ne.symm ne961) (ninS (Ne.symm ne963) (ninS (Ne.symm ne965) (ninS (Ne.symm ne967) (ninS (Ne.symm ne951) nin0))))
        have F984 := (P631_4.keep Kq968 ni983)
        have F985 := (F946.keep Kq968)
        have F986 := (F945.keep Kq968)
        have ne987 : b163 ≠ o635 := by omega
        have ne988 : b163 ≠ o634 := by omega
        have ne989 : b163 ≠ o633 := by omega
        have ne990 := ne_exa F986 P968_0 dd
        have ni991 := ninS ne990 (ninS ne989 (ninS ne988 (ninS ne987 (ninS ne620 nin0))))
        have F992 := (P631_15.keep Kq968 ni991)
        have F993 := (((((P281_0.wr W286).ext E287).keep Kq292).keep Kq631).keep Kq968)
        have ne994 : b249 ≠ b287 := by omega
        have ni995 := ninS ne994 nin0
        have ne996 : b249 ≠ o293 := by omega
        have ni997 := ninS ne994 (ninS ne996 (ninS (Ne.symm ne622) nin0))
        have ne998 : b249 ≠ o635 := by omega
        have ne999 : b249 ≠ o634 := by omega
        have ne1000 : b249 ≠ o633 := by omega
        have ne1001 := ne_exa F993 P968_0 dd
        have ni1002 := ninS ne1001 (ninS ne1000 (ninS ne999 (ninS ne998 (ninS (Ne.symm ne947) nin0))))
        have F1003 := (((((P281_1.other W286 (Or.inl (Ne.symm ne283))).ext E287).keep Kq292 ni995).keep Kq631 ni997).keep Kq968 ni1002)
        have F1004 := (((((P281_2.other W286 (Or.inl (Ne.symm ne283))).ext E287).keep Kq292 ni995).keep Kq631 ni997).keep Kq968 ni1002)
        have F1005 := (((((P281_3.other W286 (Or.inl (Ne.symm ne283))).ext E287).keep Kq292 ni995).keep Kq631 ni997).keep Kq968 ni1002)
        refine Comes.cV X968 hx hZ hown (y := y15) (W := 0) (W hw 123) (W hw 124) (W hw 126) (W hw 125) dd (W hw 127) (add_2_2 l Z a0 hw [] b287 b249 o293 r294 j3 o632 o633 o634 o635 r636 r637 r638 b207 b163 (.null) j11 q1 ((0 : Int64)) j142 j141 ((0 : Int64)) j18 j143 (.null) (.null) T968.heap n0 (by omega)  F978 F980 F981 F982 F984 P968_0 P968_1 P968_2 P968_3 P968_4 P968_5 P631_12 P968_6 P968_7 F985 F986 F992 F993 F1003 F1004 F1005 (by assumption) (by assumption) P631_16 P631_17 P631_18 P631_19 gn278 gn197 P631_24 P631_25 P631_26 (Ne.symm ne1001) (Ne.symm ne990) P631_27 P631_28 (Ne.symm ne1000) (Ne.symm ne989) P631_29 (Ne.symm ne999) (Ne.symm ne988) (Ne.symm ne998) (Ne.symm ne987) (Ne.symm ne622) ne960 ne961 ne962 ne963 ne964 ne965 ne966 ne967 ne994 ne996 ne624 (Ne.symm ne630)) F978 (W hw 101) dd dd rfl rfl (by rw [hml]; rfl) (argsL := [(.ref b249)]) (rest := []) (lenOf pd_21 rfl) rfl (wle rfl) (hb hby at_372) rfl dd dd fun v1006 T1006 L1006 hQ1006 X1006 => ?_
        obtain ⟨rfl, Nq1006, Kq1006, P1006_0, P1006_1, P1006_2, P1006_3, P1006_4, P1006_5, P1006_6, P1006_7, P1006_8, P1006_9⟩ := hQ1006
        have N1006 := Fr.app N968 Nq1006
        have z1006k : T968.heap.size ≤ T1006.heap.size := Kq1006.1
        refine cs (fun t k => xiload X1006 hc at_375 rfl (xaload X1006 hc at_377 rfl rfl (xaload X1006 hc at_379 rfl rfl (xiload X1006 hc at_381 rfl (xiconst X1006 hc at_383 k))))) ?_
        show Comes p e below _ (T1006.setTop (mkF m 384 #[vi flag, vj q1, S2, vj q2, S2, vj q3, S2, vj base, S2, vi j3, vi (3 : Int32), vr b6, vi j140, vr b23, vr b31, vr b39, vr b47, vr b145, vr b162, vr b287, U0, U0, U0, U0, U0] [(.int (-1 : Int32)), (.int (3 : Int32)), (.ref b47), (.ref b6), (.int j3)]))
        have ne1007 : b6 ≠ b249 := by omega
        have ni1008 := ninS ne1007 nin0
        have ne1009 : b6 ≠ b287 := by omega
        have ni1010 := ninS ne1009 nin0
        have ne1011 : b6 ≠ o293 := by omega
        have ni1012 := ninS ne1009 (ninS ne1011 (ninS ne223 nin0))
        have ne1013 : b6 ≠ o635 := by omega
        have ne1014 : b6 ≠ o634 := by omega
        have ne1015 : b6 ≠ o633 := by omega
        have ne1016 : b6 ≠ o632 := by omega
        have ni1017 := ninS ne1016 (ninS ne1015 (ninS ne1014 (ninS ne1013 (ninS ne264 nin0))))
        have ni1018 := ninS ne1016 (ninS ne1015 (ninS ne1014 (ninS ne1013 (ninS ne1007 (ninS ne223 nin0)))))
        have F1019 := (((((((F266.keep Kq281 ni1008).other W286 ne225).ext E287).keep Kq292 ni1010).keep Kq631 ni1012).keep Kq968 ni1017).keep Kq1006 ni1018)
        have ne1020 : b47 ≠ b249 := by omega
        have ni1021 := ninS ne1020 nin0
        have ne1022 : b47 ≠ b287 := by omega
        have ni1023 := ninS ne1022 nin0
        have ne1024 : b47 ≠ o293 := by omega
        have ni1025 := ninS ne1022 (ninS ne1024 (ninS ne218 nin0))
        have ne1026 : b47 ≠ o635 := by omega
        have ne1027 : b47 ≠ o634 := by omega
        have ne1028 : b47 ≠ o633 := by omega
        have ne1029 : b47 ≠ o632 := by omega
        have ni1030 := ninS ne1029 (ninS ne1028 (ninS ne1027 (ninS ne1026 (ninS ne260 nin0))))
        have ni1031 := ninS ne1029 (ninS ne1028 (ninS ne1027 (ninS ne1026 (ninS ne1020 (ninS ne218 nin0)))))
        have F1032 := (((((((F262.keep Kq281 ni1021).other W286 ne220).ext E287).keep Kq292 ni1023).keep Kq631 ni1025).keep Kq968 ni1030).keep Kq1006 ni1031)
        refine Comes.cS X1006 hx hZ hown (y := y13) (W := 0) (W hw 112) (W hw 113) dd (W hw 115) (pick_3_m_TF l Z a0 hw [] j3 b6 b47 k6 k47 q1 j11 j18 j141 j142 j143 T1006.heap n0 (by omega)  F1019 F1032 (by first | assumption | (have a_0 := hb648; have a_1 := hb977; have c_0 := rel4; have c_1 := rel144; (try simp only [ne_eq, Int32.lt_iff_toInt_lt, Int64.lt_iff_toInt_lt, ← Int32.toInt_inj, ← Int64.toInt_inj, Int32.reduceToInt, Int64.reduceToInt, eq_self, and_true, true_and, or_true, true_or, and_false, false_and, or_false, false_or, not_true_eq_false, not_false_eq_true] at a_0 a_1 c_0 c_1 ⊢) <;> omega)) (by first | assumption | (have a_0 := hb648; have a_1 := hb977; have c_0 := rel4; have c_1 := rel144; (try simp only [ne_eq, Int32.lt_iff_toInt_lt, Int64.lt_iff_toInt_lt, ← Int32.toInt_inj, ← Int64.toInt_inj, Int32.reduceToInt, Int64.reduceToInt, eq_self, and_true, true_and, or_true, true_or, and_false, false_and, or_false, false_or, not_true_eq_false, not_false_eq_true] at a_0 a_1 c_0 c_1 ⊢) <;> omega))) (W hw 114) dd dd rfl rfl (by rw [hml]; rfl) (argsL := [(.int j3), (.ref b6), (.ref b47), (.int (3 : Int32)), (.int (-1 : Int32))]) (rest := []) (lenOf pd_19 rfl) rfl (wle rfl) (hb hby at_384) rfl dd dd fun v1033 T1033 L1033 hQ1033 X1033 => ?_
        obtain ⟨rfl, Nq1033, hs1033⟩ := hQ1033
        have N1033 := Fr.app N1006 Nq1033
        refine cs (fun t k => xistore X1033 hc at_387 rfl rfl (xaload X1033 hc at_389 rfl rfl k)) ?_
        show Comes p e below _ (T1033.setTop (mkF m 391 #[vi flag, vj q1, S2, vj q2, S2, vj q3, S2, vj base, S2, vi j3, vi (3 : Int32), vr b6, vi j140, vr b23, vr b31, vr b39, vr b47, vr b145, vr b162, vr b287, vi (1 : Int32), U0, U0, U0, U0] [(.ref b287)]))
        have ni1034 := ninS (Ne.symm ne960) (ninS (Ne.symm ne962) (ninS (Ne.symm ne964) (ninS (Ne.symm ne966) (ninS (Ne.symm ne994) (ninS (Ne.symm ne624) nin0)))))
        have F1035 := (F980.keep Kq1006 ni1034)
        have F1036 := (F981.keep Kq1006 ni1034)
        have ni1037 := ninS (Ne.symm ne961) (ninS (Ne.symm ne963) (ninS (Ne.symm ne965) (ninS (Ne.symm ne967) (ninS (Ne.symm ne996) (ninS ne630 nin0)))))
        have F1038 := (F984.keep Kq1006 ni1037)
        have F1039 := (F978.keep Kq1006)
        refine Comes.cV X1033 hx hZ hown (y := y14) (W := 0) (W hw 116) (W hw 117) (W hw 119) (W hw 118) dd (W hw 120) (first1 l Z a0 hw [] b287 o293 r294 o632 o633 r636 b207 ((.ref b163)) ((.ref b249)) T1006.heap n0 (by omega)  F1035 F1036 F1038 P1006_1 P1006_5) F1039 (W hw 101) dd dd hs1033 rfl (by rw [hml]; rfl) (argsL := []) (rest := []) (lenOf pd_20 rfl) rfl (wle rfl) (hb hby at_391) rfl dd dd fun v1040 T1040 L1040 hQ1040 X1040 => ?_
        obtain ⟨rfl, Nq1040, hs1040⟩ := hQ1040
        have N1040 := Fr.app N1033 Nq1040
        refine cs (fun t k => xastore X1040 hc at_394 rfl rfl rfl (xiload X1040 hc at_396 rfl k)) ?_
        show Comes p e below _ (T1040.setTop (mkF m 398 #[vi flag, vj q1, S2, vj q2, S2, vj q3, S2, vj base, S2, vi j3, vi (3 : Int32), vr b6, vi j140, vr b23, vr b31, vr b39, vr b47, vr b145, vr b162, vr b287, vi (1 : Int32), vr b207, U0, U0, U0] [(.int (1 : Int32))]))
        refine cs (fun t k => xifYes X1040 hc 398 414 at_398 rfl ((if0 _ _).trans (flt dd).2.1) (xaload X1040 hc at_414 rfl rfl (xaload X1040 hc at_416 rfl rfl (xiload X1040 hc at_418 rfl k)))) ?_
        show Comes p e below _ (T1040.setTop (mkF m 420 #[vi flag, vj q1, S2, vj q2, S2, vj q3, S2, vj base, S2, vi j3, vi (3 : Int32), vr b6, vi j140, vr b23, vr b31, vr b39, vr b47, vr b145, vr b162, vr b287, vi (1 : Int32), vr b207, U0, U0, U0] [(.int (1 : Int32)), (.ref b162), (.ref b207)]))
        have ni1042 := ninS ne973 (ninS ne972 (ninS ne971 (ninS ne970 (ninS ne283 (ninS ne202 nin0)))))
        have F1043 := (F975.keep Kq1006 ni1042)
        refine Comes.ldR X1040 hx hZ hs1040 F1043 rfl rfl (v := (.ref b207)) rfl (hb hby at_420) ?_
        have hc421_1045 : b207 = b207 := by rfl
        refine cs (fun t k => Jvm.RoadKit.acmp (g := (mkF m 421 #[vi flag, vj q1, S2, vj q2, S2, vj q3, S2, vj base, S2, vi j3, vi (3 : Int32), vr b6, vi j140, vr b23, vr b31, vr b39, vr b47, vr b145, vr b162, vr b287, vi (1 : Int32), vr b207, U0, U0, U0] [(.ref b207), (.ref b207)])) X1040 hx rfl rfl rfl (pc0 := 421) (pc' := 424) (same := true) rfl (hb hby at_421) rfl (decide_eq_true (congrArg Value.ref hc421_1045)) dd dd (xiconst X1040 hc at_424 (xgoto X1040 hc 425 429 at_425 (xistore X1040 hc at_429 rfl rfl (xiload X1040 hc at_431 rfl k))))) ?_
        show Comes p e below _ (T1040.setTop (mkF m 433 #[vi flag, vj q1, S2, vj q2, S2, vj q3, S2, vj base, S2, vi j3, vi (3 : Int32), vr b6, vi j140, vr b23, vr b31, vr b39, vr b47, vr b145, vr b162, vr b287, vi (1 : Int32), vr b207, vi (1 : Int32), U0, U0] [(.int (1 : Int32))]))
        refine cs (fun t k => xifNo X1040 hc at_433 rfl ((if0 _ _).trans (flt dd).1) (xaload X1040 hc at_436 rfl rfl (xaload X1040 hc at_438 rfl rfl (xiload X1040 hc at_440 rfl k)))) ?_
        show Comes p e below _ (T1040.setTop (mkF m 442 #[vi flag, vj q1, S2, vj q2, S2, vj q3, S2, vj base, S2, vi j3, vi (3 : Int32), vr b6, vi j140, vr b23, vr b31, vr b39, vr b47, vr b145, vr b162, vr b287, vi (1 : Int32), vr b207, vi (1 : Int32), U0, U0] [(.int (1 : Int32)), (.ref b162), (.ref b287)]))
        refine Comes.ldR X1040 hx hZ hs1040 F1043 rfl rfl (v := (.ref b207)) rfl (hb hby at_442) ?_
        have F1048 := (F982.keep Kq1006 ni1034)
        have F1049 := (F985.keep Kq1006)
        have F1050 := (F986.keep Kq1006)
        have F1051 := (F993.keep Kq1006)
        have ni1052 := ninS (Ne.symm ne956) (ninS (Ne.symm ne957) (ninS (Ne.symm ne958) (ninS (Ne.symm ne959) (ninS ne947 (ninS (Ne.symm ne620) nin0)))))
        have F1053 := (P968_8.keep Kq1006 ni1052)
        refine Comes.cV X1040 hx hZ hown (y := y28) (W := 0) (W hw 201) (W hw 202) (W hw 204) (W hw 203) dd (W hw 205) (rem_3 l Z a0 hw [] b287 b207 o293 r294 j3 o632 o633 o634 o635 r636 r637 r638 b163 b249 j11 q1 j18 j142 j141 j143 ((.ref b163)) T1006.heap n0 (by omega)  F1039 F1035 F1036 F1048 F1038 P631_5 P1006_0 P1006_1 P1006_2 P1006_3 P1006_4 P1006_5 P631_12 P1006_6 P1006_7 F1049 F1050 F1051 F1053 P631_16 P631_17 P631_18 P631_19 gn240 P631_24 P631_25 P631_26 ne956 P631_27 P631_28 ne957 P631_29 ne958 ne959 ne960 ne961 ne962 ne963 ne964 ne965 ne966 ne967 ne949 ne951) F1039 (W hw 101) dd dd hs1040 rfl (by rw [hml]; rfl) (argsL := [(.ref b207)]) (rest := []) (lenOf pd_21 rfl) rfl (wle rfl) (hb hby at_443) rfl dd dd fun v1054 T1054 L1054 hQ1054 X1054 => ?_
        obtain ⟨rfl, Nq1054, Kq1054, P1054_0, P1054_1⟩ := hQ1054
        have N1054 := Fr.app N1040 Nq1054
        have z1054k : T1006.heap.size ≤ T1054.heap.size := Kq1054.1
        refine cs (fun t k => xiload X1054 hc at_446 rfl (xaload X1054 hc at_448 rfl rfl (xaload X1054 hc at_450 rfl rfl (xiload X1054 hc at_452 rfl (xiload X1054 hc at_454 rfl k))))) ?_
        show Comes p e below _ (T1054.setTop (mkF m 456 #[vi flag, vj q1, S2, vj q2, S2, vj q3, S2, vj base, S2, vi j3, vi (3 : Int32), vr b6, vi j140, vr b23, vr b31, vr b39, vr b47, vr b145, vr b162, vr b287, vi (1 : Int32), vr b207, vi (1 : Int32), U0, U0] [(.int (1 : Int32)), (.int (3 : Int32)), (.ref b47), (.ref b6), (.int j3)]))
        have F1055 := (F1019.keep Kq1054 ni1017)
        have F1056 := (F1032.keep Kq1054 ni1030)
        refine Comes.cS X1054 hx hZ hown (y := y13) (W := 0) (W hw 112) (W hw 113) dd (W hw 115) (pick_3_1_F l Z a0 hw [] j3 b6 b47 k6 k47 q1 j11 j18 j141 j142 j143 T1054.heap n0 (by omega)  F1055 F1056 (by first | assumption | (have a_0 := hb648; have a_1 := hb977; have c_0 := rel4; have c_1 := rel144; (try simp only [ne_eq, Int32.lt_iff_toInt_lt, Int64.lt_iff_toInt_lt, ← Int32.toInt_inj, ← Int64.toInt_inj, Int32.reduceToInt, Int64.reduceToInt, eq_self, and_true, true_and, or_true, true_or, and_false, false_and, or_false, false_or, not_true_eq_false, not_false_eq_true] at a_0 a_1 c_0 c_1 ⊢) <;> omega))) (W hw 114) dd dd rfl rfl (by rw [hml]; rfl) (argsL := [(.int j3), (.ref b6), (.ref b47), (.int (3 : Int32)), (.int (1 : Int32))]) (rest := []) (lenOf pd_19 rfl) rfl (wle rfl) (hb hby at_456) rfl dd dd fun v1057 T1057 L1057 hQ1057 X1057 => ?_
        obtain ⟨rfl, Nq1057, hs1057⟩ := hQ1057
        have N1057 := Fr.app N1054 Nq1057
        refine cs (fun t k => xistore X1057 hc at_459 rfl rfl (xaload X1057 hc at_461 rfl rfl k)) ?_
        show Comes p e below _ (T1057.setTop (mkF m 463 #[vi flag, vj q1, S2, vj q2, S2, vj q3, S2, vj base, S2, vi j3, vi (3 : Int32), vr b6, vi j140, vr b23, vr b31, vr b39, vr b47, vr b145, vr b162, vr b287, vi (1 : Int32), vr b207, vi (1 : Int32), vi (0 : Int32), U0] [(.ref b287)]))
        have F1058 := (F1035.keep Kq1054 ni979)
        have F1059 := (F1036.keep Kq1054 ni979)
        have F1060 := (F1038.keep Kq1054 ni983)
        have F1061 := (F1039.keep Kq1054)
        refine Comes.cV X1057 hx hZ hown (y := y14) (W := 0) (W hw 116) (W hw 117) (W hw 119) (W hw 118) dd (W hw 120) (first1 l Z a0 hw [] b287 o293 r294 o632 o633 r636 b163 ((.ref b249)) (.null) T1054.heap n0 (by omega)  F1058 F1059 F1060 P1054_0 P1054_1) F1061 (W hw 101) dd dd hs1057 rfl (by rw [hml]; rfl) (argsL := []) (rest := []) (lenOf pd_20 rfl) rfl (wle rfl) (hb hby at_463) rfl dd dd fun v1062 T1062 L1062 hQ1062 X1062 => ?_
        obtain ⟨rfl, Nq1062, hs1062⟩ := hQ1062
        have N1062 := Fr.app N1057 Nq1062
        refine cs (fun t k => xastore X1062 hc at_466 rfl rfl rfl (xiload X1062 hc at_468 rfl k)) ?_
        show Comes p e below _ (T1062.setTop (mkF m 470 #[vi flag, vj q1, S2, vj q2, S2, vj q3, S2, vj base, S2, vi j3, vi (3 : Int32), vr b6, vi j140, vr b23, vr b31, vr b39, vr b47, vr b145, vr b162, vr b287, vi (1 : Int32), vr b207, vi (1 : Int32), vi (0 : Int32), vr b163] [(.int (1 : Int32))]))
        refine cs (fun t k => xifNo X1062 hc at_470 rfl ((if0 _ _).trans (feq dd).1) (xiload X1062 hc at_473 rfl k)) ?_
        refine cs (fun t k => xifYes X1062 hc 475 486 at_475 rfl ((if0 _ _).trans (flt dd).2.1) (xaload X1062 hc at_486 rfl rfl (xaload X1062 hc at_488 rfl rfl (xiload X1062 hc at_490 rfl k)))) ?_
        show Comes p e below _ (T1062.setTop (mkF m 492 #[vi flag, vj q1, S2, vj q2, S2, vj q3, S2, vj base, S2, vi j3, vi (3 : Int32), vr b6, vi j140, vr b23, vr b31, vr b39, vr b47, vr b145, vr b162, vr b287, vi (1 : Int32), vr b207, vi (1 : Int32), vi (0 : Int32), vr b163] [(.int (0 : Int32)), (.ref b162), (.ref b163)]))
        have F1065 := (F1043.keep Kq1054 ni974)
        refine Comes.ldR X1062 hx hZ hs1062 F1065 rfl rfl (v := (.ref b163)) rfl (hb hby at_492) ?_
        have hc493_1067 : b163 = b163 := by rfl
        refine cs (fun t k => Jvm.RoadKit.acmp (g := (mkF m 493 #[vi flag, vj q1, S2, vj q2, S2, vj q3, S2, vj base, S2, vi j3, vi (3 : Int32), vr b6, vi j140, vr b23, vr b31, vr b39, vr b47, vr b145, vr b162, vr b287, vi (1 : Int32), vr b207, vi (1 : Int32), vi (0 : Int32), vr b163] [(.ref b163), (.ref b163)])) X1062 hx rfl rfl rfl (pc0 := 493) (pc' := 496) (same := true) rfl (hb hby at_493) rfl (decide_eq_true (congrArg Value.ref hc493_1067)) dd dd (xiconst X1062 hc at_496 (xgoto X1062 hc 497 501 at_497 (xistore X1062 hc at_501 rfl rfl (xiload X1062 hc at_503 rfl k))))) ?_
        show Comes p e below _ (T1062.setTop (mkF m 505 #[vi flag, vj q1, S2, vj q2, S2, vj q3, S2, vj base, S2, vi j3, vi (3 : Int32), vr b6, vi j140, vr b23, vr b31, vr b39, vr b47, vr b145, vr b162, vr b287, vi (1 : Int32), vr b207, vi (1 : Int32), vi (0 : Int32), vr b163] [(.int (1 : Int32))]))
        show Comes p e below _ (T1062.setTop (mkF m 505 #[vi flag, vj q1, S2, vj q2, S2, vj q3, S2, vj base, S2, vi j3, vi (3 : Int32), vr b6, vi j140, vr b23, vr b31, vr b39, vr b47, vr b145, vr b162, vr b287, vi (1 : Int32), vr b207, vi (1 : Int32), vi (0 : Int32), vr b163] [(.int (1 : Int32))]))
        exact Comes.retN X1062 hx (t := .boolean) Bd.returns (by simp) hlk (hb hby at_505) hs1062 ⟨rfl, N1062⟩ dd dd
      · by_cases hb1068 : ((¬ j11 = j18 ∧ ¬ j3 = (0 : Int32) ∧ j11 < j18) ∨ (¬ j11 = j18 ∧ j3 = (0 : Int32) ∧ j18 < j11) ∨ (j11 = j18 ∧ j142 < j143))
        · have F1069 := (P631_0.keep Kq968)
          have ni1070 := ninS (Ne.symm ne960) (ninS (Ne.symm ne962) (ninS (Ne.symm ne964) (ninS (Ne.symm ne966) (ninS (Ne.symm ne949) nin0))))
          have F1071 := (P631_1.keep Kq968 ni1070)
          have F1072 := (P631_2.keep Kq968 ni1070)
          have F1073 := (P631_3.keep Kq968 ni1070)
          have ni1074 := ninS (Ne.symm ne961) (ninS (Ne.symm ne963) (ninS (Ne.symm ne965) (ninS (Ne.symm ne967) (ninS (Ne.symm ne951) nin0))))
          have F1075 := (P631_4.keep Kq968 ni1074)
          have F1076 := (F946.keep Kq968)
          have F1077 := (F945.keep Kq968)
          have F1078 := (((((P281_0.wr W286).ext E287).keep Kq292).keep Kq631).keep Kq968)
          have ne1079 : b249 ≠ b287 := by omega
          have ni1080 := ninS ne1079 nin0
          have ne1081 : b249 ≠ o293 := by omega
          have ni1082 := ninS ne1079 (ninS ne1081 (ninS (Ne.symm ne622) nin0))
          have ne1083 : b249 ≠ o635 := by omega
          have ne1084 : b249 ≠ o634 := by omega
          have ne1085 : b249 ≠ o633 := by omega
          have ne1086 := ne_exa F1078 P968_0 dd
          have ni1087 := ninS ne1086 (ninS ne1085 (ninS ne1084 (ninS ne1083 (ninS (Ne.symm ne947) nin0))))
          have F1088 := (((((P281_1.other W286 (Or.inl (Ne.symm ne283))).ext E287).keep Kq292 ni1080).keep Kq631 ni1082).keep Kq968 ni1087)
          have F1089 := (((((P281_2.other W286 (Or.inl (Ne.symm ne283))).ext E287).keep Kq292 ni1080).keep Kq631 ni1082).keep Kq968 ni1087)
          have F1090 := (((((P281_3.other W286 (Or.inl (Ne.symm ne283))).ext E287).keep Kq292 ni1080).keep Kq631 ni1082).keep Kq968 ni1087)
          refine Comes.cV X968 hx hZ hown (y := y15) (W := 0) (W hw 123) (W hw 124) (W hw 126) (W hw 125) dd (W hw 127) (add_2_1 l Z a0 hw [] b287 b249 o293 r294 j3 o632 o633 o634 o635 r636 r637 r638 b207 b163 (.null) j11 q1 ((0 : Int64)) j142 j141 ((0 : Int64)) j18 j143 (.null) ((.ref b163)) T968.heap n0 (by omega)  F1069 F1071 F1072 F1073 F1075 P968_0 P968_1 P968_2 P968_3 P968_4 P968_5 P631_12 P968_6 P968_7 F1076 F1077 P968_8 F1078 F1088 F1089 F1090 (by assumption) (by assumption) (by assumption) P631_16 P631_17 P631_18 P631_19 gn278 gn240 P631_24 P631_25 P631_26 (Ne.symm ne1086) ne956 P631_27 P631_28 (Ne.symm ne1085) ne957 P631_29 (Ne.symm ne1084) ne958 (Ne.symm ne1083) ne959 (Ne.symm ne947) ne960 ne961 ne962 ne963 ne964 ne965 ne966 ne967 ne1079 ne1081 ne949 ne951) F1069 (W hw 101) dd dd rfl rfl (by rw [hml]; rfl) (argsL := [(.ref b249)]) (rest := []) (lenOf pd_21 rfl) rfl (wle rfl) (hb hby at_372) rfl dd dd fun v1091 T1091 L1091 hQ1091 X1091 => ?_
          obtain ⟨rfl, Nq1091, Kq1091, P1091_0, P1091_1, P1091_2, P1091_3, P1091_4, P1091_5, P1091_6, P1091_7, P1091_8, P1091_9⟩ := hQ1091
          have N1091 := Fr.app N968 Nq1091
          have z1091k : T968.heap.size ≤ T1091.heap.size := Kq1091.1
          refine cs (fun t k => xiload X1091 hc at_375 rfl (xaload X1091 hc at_377 rfl rfl (xaload X1091 hc at_379 rfl rfl (xiload X1091 hc at_381 rfl (xiconst X1091 hc at_383 k))))) ?_
          show Comes p e below _ (T1091.setTop (mkF m 384 #[vi flag, vj q1, S2, vj q2, S2, vj q3, S2, vj base, S2, vi j3, vi (3 : Int32), vr b6, vi j140, vr b23, vr b31, vr b39, vr b47, vr b145, vr b162, vr b287, U0, U0, U0, U0, U0] [(.int (-1 : Int32)), (.int (3 : Int32)), (.ref b47), (.ref b6), (.int j3)]))
          have ne1092 : b6 ≠ b249 := by omega
          have ni1093 := ninS ne1092 nin0
          have ne1094 : b6 ≠ b287 := by omega
          have ni1095 := ninS ne1094 nin0
          have ne1096 : b6 ≠ o293 := by omega
          have ni1097 := ninS ne1094 (ninS ne1096 (ninS ne223 nin0))
          have ne1098 : b6 ≠ o635 := by omega
          have ne1099 : b6 ≠ o634 := by omega
          have ne1100 : b6 ≠ o633 := by omega
          have ne1101 : b6 ≠ o632 := by omega
          have ni1102 := ninS ne1101 (ninS ne1100 (ninS ne1099 (ninS ne1098 (ninS ne264 nin0))))
          have ni1103 := ninS ne1101 (ninS ne1100 (ninS ne1099 (ninS ne1098 (ninS ne1092 (ninS ne264 nin0)))))
          have F1104 := (((((((F266.keep Kq281 ni1093).other W286 ne225).ext E287).keep Kq292 ni1095).keep Kq631 ni1097).keep Kq968 ni1102).keep Kq1091 ni1103)
          have ne1105 : b47 ≠ b249 := by omega
          have ni1106 := ninS ne1105 nin0
          have ne1107 : b47 ≠ b287 := by omega
          have ni1108 := ninS ne1107 nin0
          have ne1109 : b47 ≠ o293 := by omega
          have ni1110 := ninS ne1107 (ninS ne1109 (ninS ne218 nin0))
          have ne1111 : b47 ≠ o635 := by omega
          have ne1112 : b47 ≠ o634 := by omega
          have ne1113 : b47 ≠ o633 := by omega
          have ne1114 : b47 ≠ o632 := by omega
          have ni1115 := ninS ne1114 (ninS ne1113 (ninS ne1112 (ninS ne1111 (ninS ne260 nin0))))
          have ni1116 := ninS ne1114 (ninS ne1113 (ninS ne1112 (ninS ne1111 (ninS ne1105 (ninS ne260 nin0)))))
          have F1117 := (((((((F262.keep Kq281 ni1106).other W286 ne220).ext E287).keep Kq292 ni1108).keep Kq631 ni1110).keep Kq968 ni1115).keep Kq1091 ni1116)
          refine Comes.cS X1091 hx hZ hown (y := y13) (W := 0) (W hw 112) (W hw 113) dd (W hw 115) (pick_3_m_TF l Z a0 hw [] j3 b6 b47 k6 k47 q1 j11 j18 j141 j142 j143 T1091.heap n0 (by omega)  F1104 F1117 (by first | assumption | (have a_0 := hb648; have a_1 := hb977; have a_2 := hb1068; have c_0 := rel4; have c_1 := rel144; (try simp only [ne_eq, Int32.lt_iff_toInt_lt, Int64.lt_iff_toInt_lt, ← Int32.toInt_inj, ← Int64.toInt_inj, Int32.reduceToInt, Int64.reduceToInt, eq_self, and_true, true_and, or_true, true_or, and_false, false_and, or_false, false_or, not_true_eq_false, not_false_eq_true] at a_0 a_1 a_2 c_0 c_1 ⊢) <;> omega)) (by first | assumption | (have a_0 := hb648; have a_1 := hb977; have a_2 := hb1068; have c_0 := rel4; have c_1 := rel144; (try simp only [ne_eq, Int32.lt_iff_toInt_lt, Int64.lt_iff_toInt_lt, ← Int32.toInt_inj, ← Int64.toInt_inj, Int32.reduceToInt, Int64.reduceToInt, eq_self, and_true, true_and, or_true, true_or, and_false, false_and, or_false, false_or, not_true_eq_false, not_false_eq_true] at a_0 a_1 a_2 c_0 c_1 ⊢) <;> omega))) (W hw 114) dd dd rfl rfl (by rw [hml]; rfl) (argsL := [(.int j3), (.ref b6), (.ref b47), (.int (3 : Int32)), (.int (-1 : Int32))]) (rest := []) (lenOf pd_19 rfl) rfl (wle rfl) (hb hby at_384) rfl dd dd fun v1118 T1118 L1118 hQ1118 X1118 => ?_
          obtain ⟨rfl, Nq1118, hs1118⟩ := hQ1118
          have N1118 := Fr.app N1091 Nq1118
          refine cs (fun t k => xistore X1118 hc at_387 rfl rfl (xaload X1118 hc at_389 rfl rfl k)) ?_
          show Comes p e below _ (T1118.setTop (mkF m 391 #[vi flag, vj q1, S2, vj q2, S2, vj q3, S2, vj base, S2, vi j3, vi (3 : Int32), vr b6, vi j140, vr b23, vr b31, vr b39, vr b47, vr b145, vr b162, vr b287, vi (1 : Int32), U0, U0, U0, U0] [(.ref b287)]))
          have ni1119 := ninS (Ne.symm ne960) (ninS (Ne.symm ne962) (ninS (Ne.symm ne964) (ninS (Ne.symm ne966) (ninS (Ne.symm ne1079) (ninS (Ne.symm ne949) nin0)))))
          have F1120 := (F1071.keep Kq1091 ni1119)
          have F1121 := (F1072.keep Kq1091 ni1119)
          have ni1122 := ninS (Ne.symm ne961) (ninS (Ne.symm ne963) (ninS (Ne.symm ne965) (ninS (Ne.symm ne967) (ninS (Ne.symm ne1081) (ninS (Ne.symm ne951) nin0)))))
          have F1123 := (F1075.keep Kq1091 ni1122)
          have F1124 := (F1069.keep Kq1091)
          refine Comes.cV X1118 hx hZ hown (y := y14) (W := 0) (W hw 116) (W hw 117) (W hw 119) (W hw 118) dd (W hw 120) (first1 l Z a0 hw [] b287 o293 r294 o632 o633 r636 b207 ((.ref b249)) ((.ref b163)) T1091.heap n0 (by omega)  F1120 F1121 F1123 P1091_1 P1091_5) F1124 (W hw 101) dd dd hs1118 rfl (by rw [hml]; rfl) (argsL := []) (rest := []) (lenOf pd_20 rfl) rfl (wle rfl) (hb hby at_391) rfl dd dd fun v1125 T1125 L1125 hQ1125 X1125 => ?_
          obtain ⟨rfl, Nq1125, hs1125⟩ := hQ1125
          have N1125 := Fr.app N1118 Nq1125
          refine cs (fun t k => xastore X1125 hc at_394 rfl rfl rfl (xiload X1125 hc at_396 rfl k)) ?_
          show Comes p e below _ (T1125.setTop (mkF m 398 #[vi flag, vj q1, S2, vj q2, S2, vj q3, S2, vj base, S2, vi j3, vi (3 : Int32), vr b6, vi j140, vr b23, vr b31, vr b39, vr b47, vr b145, vr b162, vr b287, vi (1 : Int32), vr b207, U0, U0, U0] [(.int (1 : Int32))]))
          refine cs (fun t k => xifYes X1125 hc 398 414 at_398 rfl ((if0 _ _).trans (flt dd).2.1) (xaload X1125 hc at_414 rfl rfl (xaload X1125 hc at_416 rfl rfl (xiload X1125 hc at_418 rfl k)))) ?_
          show Comes p e below _ (T1125.setTop (mkF m 420 #[vi flag, vj q1, S2, vj q2, S2, vj q3, S2, vj base, S2, vi j3, vi (3 : Int32), vr b6, vi j140, vr b23, vr b31, vr b39, vr b47, vr b145, vr b162, vr b287, vi (1 : Int32), vr b207, U0, U0, U0] [(.int (1 : Int32)), (.ref b162), (.ref b207)]))
          have ni1127 := ninS ne973 (ninS ne972 (ninS ne971 (ninS ne970 (ninS ne283 (ninS ne245 nin0)))))
          have F1128 := (F975.keep Kq1091 ni1127)
          refine Comes.ldR X1125 hx hZ hs1125 F1128 rfl rfl (v := (.ref b207)) rfl (hb hby at_420) ?_
          have hc421_1130 : b207 = b207 := by rfl
          refine cs (fun t k => Jvm.RoadKit.acmp (g := (mkF m 421 #[vi flag, vj q1, S2, vj q2, S2, vj q3, S2, vj base, S2, vi j3, vi (3 : Int32), vr b6, vi j140, vr b23, vr b31, vr b39, vr b47, vr b145, vr b162, vr b287, vi (1 : Int32), vr b207, U0, U0, U0] [(.ref b207), (.ref b207)])) X1125 hx rfl rfl rfl (pc0 := 421) (pc' := 424) (same := true) rfl (hb hby at_421) rfl (decide_eq_true (congrArg Value.ref hc421_1130)) dd dd (xiconst X1125 hc at_424 (xgoto X1125 hc 425 429 at_425 (xistore X1125 hc at_429 rfl rfl (xiload X1125 hc at_431 rfl k))))) ?_
          show Comes p e below _ (T1125.setTop (mkF m 433 #[vi flag, vj q1, S2, vj q2, S2, vj q3, S2, vj base, S2, vi j3, vi (3 : Int32), vr b6, vi j140, vr b23, vr b31, vr b39, vr b47, vr b145, vr b162, vr b287, vi (1 : Int32), vr b207, vi (1 : Int32), U0, U0] [(.int (1 : Int32))]))
          refine cs (fun t k => xifNo X1125 hc at_433 rfl ((if0 _ _).trans (flt dd).1) (xaload X1125 hc at_436 rfl rfl (xaload X1125 hc at_438 rfl rfl (xiload X1125 hc at_440 rfl k)))) ?_
          show Comes p e below _ (T1125.setTop (mkF m 442 #[vi flag, vj q1, S2, vj q2, S2, vj q3, S2, vj base, S2, vi j3, vi (3 : Int32), vr b6, vi j140, vr b23, vr b31, vr b39, vr b47, vr b145, vr b162, vr b287, vi (1 : Int32), vr b207, vi (1 : Int32), U0, U0] [(.int (1 : Int32)), (.ref b162), (.ref b287)]))
          refine Comes.ldR X1125 hx hZ hs1125 F1128 rfl rfl (v := (.ref b207)) rfl (hb hby at_442) ?_
          have F1133 := (F1073.keep Kq1091 ni1119)
          have F1134 := (F1076.keep Kq1091)
          have F1135 := (F1078.keep Kq1091)
          have F1136 := (F1077.keep Kq1091)
          refine Comes.cV X1125 hx hZ hown (y := y28) (W := 0) (W hw 201) (W hw 202) (W hw 204) (W hw 203) dd (W hw 205) (rem_3 l Z a0 hw [] b287 b207 o293 r294 j3 o632 o633 o634 o635 r636 r637 r638 b249 b163 j11 j18 q1 j142 j143 j141 ((.ref b249)) T1091.heap n0 (by omega)  F1124 F1120 F1121 F1133 F1123 P631_5 P1091_0 P1091_1 P1091_2 P1091_3 P1091_4 P1091_5 P631_12 P1091_6 P1091_7 F1134 F1135 F1136 P1091_9 P631_16 P631_17 P631_18 P631_19 gn240 P631_24 P631_25 P631_26 ne956 P631_27 P631_28 ne957 P631_29 ne958 ne959 ne960 ne961 ne962 ne963 ne964 ne965 ne966 ne967 ne949 ne951) F1124 (W hw 101) dd dd hs1125 rfl (by rw [hml]; rfl) (argsL := [(.ref b207)]) (rest := []) (lenOf pd_21 rfl) rfl (wle rfl) (hb hby at_443) rfl dd dd fun v1137 T1137 L1137 hQ1137 X1137 => ?_
          obtain ⟨rfl, Nq1137, Kq1137, P1137_0, P1137_1⟩ := hQ1137
          have N1137 := Fr.app N1125 Nq1137
          have z1137k : T1091.heap.size ≤ T1137.heap.size := Kq1137.1
          refine cs (fun t k => xiload X1137 hc at_446 rfl (xaload X1137 hc at_448 rfl rfl (xaload X1137 hc at_450 rfl rfl (xiload X1137 hc at_452 rfl (xiload X1137 hc at_454 rfl k))))) ?_
          show Comes p e below _ (T1137.setTop (mkF m 456 #[vi flag, vj q1, S2, vj q2, S2, vj q3, S2, vj base, S2, vi j3, vi (3 : Int32), vr b6, vi j140, vr b23, vr b31, vr b39, vr b47, vr b145, vr b162, vr b287, vi (1 : Int32), vr b207, vi (1 : Int32), U0, U0] [(.int (1 : Int32)), (.int (3 : Int32)), (.ref b47), (.ref b6), (.int j3)]))
          have F1138 := (F1104.keep Kq1137 ni1102)
          have F1139 := (F1117.keep Kq1137 ni1115)
          refine Comes.cS X1137 hx hZ hown (y := y13) (W := 0) (W hw 112) (W hw 113) dd (W hw 115) (pick_3_1_T l Z a0 hw [] j3 b6 b47 k6 k47 q1 j11 j18 j141 j142 j143 T1137.heap n0 (by omega)  F1138 F1139 (by first | assumption | (have a_0 := hb648; have a_1 := hb977; have a_2 := hb1068; have c_0 := rel4; have c_1 := rel144; (try simp only [ne_eq, Int32.lt_iff_toInt_lt, Int64.lt_iff_toInt_lt, ← Int32.toInt_inj, ← Int64.toInt_inj, Int32.reduceToInt, Int64.reduceToInt, eq_self, and_true, true_and, or_true, true_or, and_false, false_and, or_false, false_or, not_true_eq_false, not_false_eq_true] at a_0 a_1 a_2 c_0 c_1 ⊢) <;> omega))) (W hw 114) dd dd rfl rfl (by rw [hml]; rfl) (argsL := [(.int j3), (.ref b6), (.ref b47), (.int (3 : Int32)), (.int (1 : Int32))]) (rest := []) (lenOf pd_19 rfl) rfl (wle rfl) (hb hby at_456) rfl dd dd fun v1140 T1140 L1140 hQ1140 X1140 => ?_
          obtain ⟨rfl, Nq1140, hs1140⟩ := hQ1140
          have N1140 := Fr.app N1137 Nq1140
          refine cs (fun t k => xistore X1140 hc at_459 rfl rfl (xaload X1140 hc at_461 rfl rfl k)) ?_
          show Comes p e below _ (T1140.setTop (mkF m 463 #[vi flag, vj q1, S2, vj q2, S2, vj q3, S2, vj base, S2, vi j3, vi (3 : Int32), vr b6, vi j140, vr b23, vr b31, vr b39, vr b47, vr b145, vr b162, vr b287, vi (1 : Int32), vr b207, vi (1 : Int32), vi (2 : Int32), U0] [(.ref b287)]))
          have F1141 := (F1120.keep Kq1137 ni1070)
          have F1142 := (F1121.keep Kq1137 ni1070)
          have F1143 := (F1123.keep Kq1137 ni1074)
          have F1144 := (F1124.keep Kq1137)
          refine Comes.cV X1140 hx hZ hown (y := y14) (W := 0) (W hw 116) (W hw 117) (W hw 119) (W hw 118) dd (W hw 120) (first1 l Z a0 hw [] b287 o293 r294 o632 o633 r636 b249 ((.ref b163)) (.null) T1137.heap n0 (by omega)  F1141 F1142 F1143 P1137_0 P1137_1) F1144 (W hw 101) dd dd hs1140 rfl (by rw [hml]; rfl) (argsL := []) (rest := []) (lenOf pd_20 rfl) rfl (wle rfl) (hb hby at_463) rfl dd dd fun v1145 T1145 L1145 hQ1145 X1145 => ?_
          obtain ⟨rfl, Nq1145, hs1145⟩ := hQ1145
          have N1145 := Fr.app N1140 Nq1145
          refine cs (fun t k => xastore X1145 hc at_466 rfl rfl rfl (xiload X1145 hc at_468 rfl k)) ?_
          show Comes p e below _ (T1145.setTop (mkF m 470 #[vi flag, vj q1, S2, vj q2, S2, vj q3, S2, vj base, S2, vi j3, vi (3 : Int32), vr b6, vi j140, vr b23, vr b31, vr b39, vr b47, vr b145, vr b162, vr b287, vi (1 : Int32), vr b207, vi (1 : Int32), vi (2 : Int32), vr b249] [(.int (1 : Int32))]))
          refine cs (fun t k => xifNo X1145 hc at_470 rfl ((if0 _ _).trans (feq dd).1) (xiload X1145 hc at_473 rfl k)) ?_
          refine cs (fun t k => xifYes X1145 hc 475 486 at_475 rfl ((if0 _ _).trans (flt dd).2.1) (xaload X1145 hc at_486 rfl rfl (xaload X1145 hc at_488 rfl rfl (xiload X1145 hc at_490 rfl k)))) ?_
          show Comes p e below _ (T1145.setTop (mkF m 492 #[vi flag, vj q1, S2, vj q2, S2, vj q3, S2, vj base, S2, vi j3, vi (3 : Int32), vr b6, vi j140, vr b23, vr b31, vr b39, vr b47, vr b145, vr b162, vr b287, vi (1 : Int32), vr b207, vi (1 : Int32), vi (2 : Int32), vr b249] [(.int (2 : Int32)), (.ref b162), (.ref b249)]))
          have F1148 := (F1128.keep Kq1137 ni974)
          refine Comes.ldR X1145 hx hZ hs1145 F1148 rfl rfl (v := (.ref b249)) rfl (hb hby at_492) ?_
          have hc493_1150 : b249 = b249 := by rfl
          refine cs (fun t k => Jvm.RoadKit.acmp (g := (mkF m 493 #[vi flag, vj q1, S2, vj q2, S2, vj q3, S2, vj base, S2, vi j3, vi (3 : Int32), vr b6, vi j140, vr b23, vr b31, vr b39, vr b47, vr b145, vr b162, vr b287, vi (1 : Int32), vr b207, vi (1 : Int32), vi (2 : Int32), vr b249] [(.ref b249), (.ref b249)])) X1145 hx rfl rfl rfl (pc0 := 493) (pc' := 496) (same := true) rfl (hb hby at_493) rfl (decide_eq_true (congrArg Value.ref hc493_1150)) dd dd (xiconst X1145 hc at_496 (xgoto X1145 hc 497 501 at_497 (xistore X1145 hc at_501 rfl rfl (xiload X1145 hc at_503 rfl k))))) ?_
          show Comes p e below _ (T1145.setTop (mkF m 505 #[vi flag, vj q1, S2, vj q2, S2, vj q3, S2, vj base, S2, vi j3, vi (3 : Int32), vr b6, vi j140, vr b23, vr b31, vr b39, vr b47, vr b145, vr b162, vr b287, vi (1 : Int32), vr b207, vi (1 : Int32), vi (2 : Int32), vr b249] [(.int (1 : Int32))]))
          show Comes p e below _ (T1145.setTop (mkF m 505 #[vi flag, vj q1, S2, vj q2, S2, vj q3, S2, vj base, S2, vi j3, vi (3 : Int32), vr b6, vi j140, vr b23, vr b31, vr b39, vr b47, vr b145, vr b162, vr b287, vi (1 : Int32), vr b207, vi (1 : Int32), vi (2 : Int32), vr b249] [(.int (1 : Int32))]))
          exact Comes.retN X1145 hx (t := .boolean) Bd.returns (by simp) hlk (hb hby at_505) hs1145 ⟨rfl, N1145⟩ dd dd
        · have F1151 := (P631_0.keep Kq968)
          have ni1152 := ninS (Ne.symm ne960) (ninS (Ne.symm ne962) (ninS (Ne.symm ne964) (ninS (Ne.symm ne966) (ninS (Ne.symm ne949) nin0))))
          have F1153 := (P631_1.keep Kq968 ni1152)
          have F1154 := (P631_2.keep Kq968 ni1152)
          have F1155 := (P631_3.keep Kq968 ni1152)
          have ni1156 := ninS (Ne.symm ne961) (ninS (Ne.symm ne963) (ninS (Ne.symm ne965) (ninS (Ne.symm ne967) (ninS (Ne.symm ne951) nin0))))
          have F1157 := (P631_4.keep Kq968 ni1156)
          have F1158 := (F946.keep Kq968)
          have F1159 := (F945.keep Kq968)
          have F1160 := (((((P281_0.wr W286).ext E287).keep Kq292).keep Kq631).keep Kq968)
          have ne1161 : b249 ≠ b287 := by omega
          have ni1162 := ninS ne1161 nin0
          have ne1163 : b249 ≠ o293 := by omega
          have ni1164 := ninS ne1161 (ninS ne1163 (ninS (Ne.symm ne622) nin0))
          have ne1165 : b249 ≠ o635 := by omega
          have ne1166 : b249 ≠ o634 := by omega
          have ne1167 : b249 ≠ o633 := by omega
          have ne1168 := ne_exa F1160 P968_0 dd
          have ni1169 := ninS ne1168 (ninS ne1167 (ninS ne1166 (ninS ne1165 (ninS (Ne.symm ne947) nin0))))
          have F1170 := (((((P281_1.other W286 (Or.inl (Ne.symm ne283))).ext E287).keep Kq292 ni1162).keep Kq631 ni1164).keep Kq968 ni1169)
          have F1171 := (((((P281_2.other W286 (Or.inl (Ne.symm ne283))).ext E287).keep Kq292 ni1162).keep Kq631 ni1164).keep Kq968 ni1169)
          have F1172 := (((((P281_3.other W286 (Or.inl (Ne.symm ne283))).ext E287).keep Kq292 ni1162).keep Kq631 ni1164).keep Kq968 ni1169)
          refine Comes.cV X968 hx hZ hown (y := y15) (W := 0) (W hw 123) (W hw 124) (W hw 126) (W hw 125) dd (W hw 127) (add_2_0 l Z a0 hw [] b287 b249 o293 r294 j3 o632 o633 o634 o635 r636 r637 r638 b207 b163 (.null) j11 q1 ((0 : Int64)) j142 j141 ((0 : Int64)) j18 j143 (.null) T968.heap n0 (by omega)  F1151 F1153 F1154 F1155 F1157 P968_0 P968_1 P968_2 P968_3 P968_4 P968_5 P631_12 P968_6 P968_7 F1158 F1159 F1160 F1170 F1171 F1172 (by assumption) (by assumption) (by assumption) P631_16 P631_17 P631_18 P631_19 gn278 P631_24 P631_25 P631_26 (Ne.symm ne1168) P631_27 P631_28 (Ne.symm ne1167) P631_29 (Ne.symm ne1166) (Ne.symm ne1165) ne960 ne961 ne962 ne963 ne964 ne965 ne966 ne967 ne1161 ne1163) F1151 (W hw 101) dd dd rfl rfl (by rw [hml]; rfl) (argsL := [(.ref b249)]) (rest := []) (lenOf pd_21 rfl) rfl (wle rfl) (hb hby at_372) rfl dd dd fun v1173 T1173 L1173 hQ1173 X1173 => ?_
          obtain ⟨rfl, Nq1173, Kq1173, P1173_0, P1173_1, P1173_2, P1173_3, P1173_4, P1173_5, P1173_6, P1173_7, P1173_8⟩ := hQ1173
          have N1173 := Fr.app N968 Nq1173
          have z1173k : T968.heap.size ≤ T1173.heap.size := Kq1173.1
          refine cs (fun t k => xiload X1173 hc at_375 rfl (xaload X1173 hc at_377 rfl rfl (xaload X1173 hc at_379 rfl rfl (xiload X1173 hc at_381 rfl (xiconst X1173 hc at_383 k))))) ?_
          show Comes p e below _ (T1173.setTop (mkF m 384 #[vi flag, vj q1, S2, vj q2, S2, vj q3, S2, vj base, S2, vi j3, vi (3 : Int32), vr b6, vi j140, vr b23, vr b31, vr b39, vr b47, vr b145, vr b162, vr b287, U0, U0, U0, U0, U0] [(.int (-1 : Int32)), (.int (3 : Int32)), (.ref b47), (.ref b6), (.int j3)]))
          have ne1174 : b6 ≠ b249 := by omega
          have ni1175 := ninS ne1174 nin0
          have ne1176 : b6 ≠ b287 := by omega
          have ni1177 := ninS ne1176 nin0
          have ne1178 : b6 ≠ o293 := by omega
          have ni1179 := ninS ne1176 (ninS ne1178 (ninS ne223 nin0))
          have ne1180 : b6 ≠ o635 := by omega
          have ne1181 : b6 ≠ o634 := by omega
          have ne1182 : b6 ≠ o633 := by omega
          have ne1183 : b6 ≠ o632 := by omega
          have ni1184 := ninS ne1183 (ninS ne1182 (ninS ne1181 (ninS ne1180 (ninS ne264 nin0))))
          have ni1185 := ninS ne1183 (ninS ne1182 (ninS ne1181 (ninS ne1180 (ninS ne1174 nin0))))
          have F1186 := (((((((F266.keep Kq281 ni1175).other W286 ne225).ext E287).keep Kq292 ni1177).keep Kq631 ni1179).keep Kq968 ni1184).keep Kq1173 ni1185)
          have ne1187 : b47 ≠ b249 := by omega
          have ni1188 := ninS ne1187 nin0
          have ne1189 : b47 ≠ b287 := by omega
          have ni1190 := ninS ne1189 nin0
          have ne1191 : b47 ≠ o293 := by omega
          have ni1192 := ninS ne1189 (ninS ne1191 (ninS ne218 nin0))
          have ne1193 : b47 ≠ o635 := by omega
          have ne1194 : b47 ≠ o634 := by omega
          have ne1195 : b47 ≠ o633 := by omega
          have ne1196 : b47 ≠ o632 := by omega
          have ni1197 := ninS ne1196 (ninS ne1195 (ninS ne1194 (ninS ne1193 (ninS ne260 nin0))))
          have ni1198 := ninS ne1196 (ninS ne1195 (ninS ne1194 (ninS ne1193 (ninS ne1187 nin0))))
          have F1199 := (((((((F262.keep Kq281 ni1188).other W286 ne220).ext E287).keep Kq292 ni1190).keep Kq631 ni1192).keep Kq968 ni1197).keep Kq1173 ni1198)
          refine Comes.cS X1173 hx hZ hown (y := y13) (W := 0) (W hw 112) (W hw 113) dd (W hw 115) (pick_3_m_TT l Z a0 hw [] j3 b6 b47 k6 k47 q1 j11 j18 j141 j142 j143 T1173.heap n0 (by omega)  F1186 F1199 (by first | assumption | (have a_0 := hb648; have a_1 := hb977; have a_2 := hb1068; have c_0 := rel4; have c_1 := rel144; (try simp only [ne_eq, Int32.lt_iff_toInt_lt, Int64.lt_iff_toInt_lt, ← Int32.toInt_inj, ← Int64.toInt_inj, Int32.reduceToInt, Int64.reduceToInt, eq_self, and_true, true_and, or_true, true_or, and_false, false_and, or_false, false_or, not_true_eq_false, not_false_eq_true] at a_0 a_1 a_2 c_0 c_1 ⊢) <;> omega)) (by first | assumption | (have a_0 := hb648; have a_1 := hb977; have a_2 := hb1068; have c_0 := rel4; have c_1 := rel144; (try simp only [ne_eq, Int32.lt_iff_toInt_lt, Int64.lt_iff_toInt_lt, ← Int32.toInt_inj, ← Int64.toInt_inj, Int32.reduceToInt, Int64.reduceToInt, eq_self, and_true, true_and, or_true, true_or, and_false, false_and, or_false, false_or, not_true_eq_false, not_false_eq_true] at a_0 a_1 a_2 c_0 c_1 ⊢) <;> omega))) (W hw 114) dd dd rfl rfl (by rw [hml]; rfl) (argsL := [(.int j3), (.ref b6), (.ref b47), (.int (3 : Int32)), (.int (-1 : Int32))]) (rest := []) (lenOf pd_19 rfl) rfl (wle rfl) (hb hby at_384) rfl dd dd fun v1200 T1200 L1200 hQ1200 X1200 => ?_
          obtain ⟨rfl, Nq1200, hs1200⟩ := hQ1200
          have N1200 := Fr.app N1173 Nq1200
          refine cs (fun t k => xistore X1200 hc at_387 rfl rfl (xaload X1200 hc at_389 rfl rfl k)) ?_
          show Comes p e below _ (T1200.setTop (mkF m 391 #[vi flag, vj q1, S2, vj q2, S2, vj q3, S2, vj base, S2, vi j3, vi (3 : Int32), vr b6, vi j140, vr b23, vr b31, vr b39, vr b47, vr b145, vr b162, vr b287, vi (2 : Int32), U0, U0, U0, U0] [(.ref b287)]))
          have ni1201 := ninS (Ne.symm ne960) (ninS (Ne.symm ne962) (ninS (Ne.symm ne964) (ninS (Ne.symm ne966) (ninS (Ne.symm ne1161) nin0))))
          have F1202 := (F1153.keep Kq1173 ni1201)
          have F1203 := (F1154.keep Kq1173 ni1201)
          have ni1204 := ninS (Ne.symm ne961) (ninS (Ne.symm ne963) (ninS (Ne.symm ne965) (ninS (Ne.symm ne967) (ninS (Ne.symm ne1163) nin0))))
          have F1205 := (F1157.keep Kq1173 ni1204)
          have F1206 := (F1151.keep Kq1173)
          refine Comes.cV X1200 hx hZ hown (y := y14) (W := 0) (W hw 116) (W hw 117) (W hw 119) (W hw 118) dd (W hw 120) (first1 l Z a0 hw [] b287 o293 r294 o632 o633 r636 b249 ((.ref b207)) ((.ref b163)) T1173.heap n0 (by omega)  F1202 F1203 F1205 P1173_1 P1173_5) F1206 (W hw 101) dd dd hs1200 rfl (by rw [hml]; rfl) (argsL := []) (rest := []) (lenOf pd_20 rfl) rfl (wle rfl) (hb hby at_391) rfl dd dd fun v1207 T1207 L1207 hQ1207 X1207 => ?_
          obtain ⟨rfl, Nq1207, hs1207⟩ := hQ1207
          have N1207 := Fr.app N1200 Nq1207
          refine cs (fun t k => xastore X1207 hc at_394 rfl rfl rfl (xiload X1207 hc at_396 rfl k)) ?_
          show Comes p e below _ (T1207.setTop (mkF m 398 #[vi flag, vj q1, S2, vj q2, S2, vj q3, S2, vj base, S2, vi j3, vi (3 : Int32), vr b6, vi j140, vr b23, vr b31, vr b39, vr b47, vr b145, vr b162, vr b287, vi (2 : Int32), vr b249, U0, U0, U0] [(.int (2 : Int32))]))
          refine cs (fun t k => xifYes X1207 hc 398 414 at_398 rfl ((if0 _ _).trans (flt dd).2.1) (xaload X1207 hc at_414 rfl rfl (xaload X1207 hc at_416 rfl rfl (xiload X1207 hc at_418 rfl k)))) ?_
          show Comes p e below _ (T1207.setTop (mkF m 420 #[vi flag, vj q1, S2, vj q2, S2, vj q3, S2, vj base, S2, vi j3, vi (3 : Int32), vr b6, vi j140, vr b23, vr b31, vr b39, vr b47, vr b145, vr b162, vr b287, vi (2 : Int32), vr b249, U0, U0, U0] [(.int (2 : Int32)), (.ref b162), (.ref b249)]))
          have ni1209 := ninS ne973 (ninS ne972 (ninS ne971 (ninS ne970 (ninS ne283 nin0))))
          have F1210 := (F975.keep Kq1173 ni1209)
          refine Comes.ldR X1207 hx hZ hs1207 F1210 rfl rfl (v := (.ref b249)) rfl (hb hby at_420) ?_
          have hc421_1212 : b249 = b249 := by rfl
          refine cs (fun t k => Jvm.RoadKit.acmp (g := (mkF m 421 #[vi flag, vj q1, S2, vj q2, S2, vj q3, S2, vj base, S2, vi j3, vi (3 : Int32), vr b6, vi j140, vr b23, vr b31, vr b39, vr b47, vr b145, vr b162, vr b287, vi (2 : Int32), vr b249, U0, U0, U0] [(.ref b249), (.ref b249)])) X1207 hx rfl rfl rfl (pc0 := 421) (pc' := 424) (same := true) rfl (hb hby at_421) rfl (decide_eq_true (congrArg Value.ref hc421_1212)) dd dd (xiconst X1207 hc at_424 (xgoto X1207 hc 425 429 at_425 (xistore X1207 hc at_429 rfl rfl (xiload X1207 hc at_431 rfl k))))) ?_
          show Comes p e below _ (T1207.setTop (mkF m 433 #[vi flag, vj q1, S2, vj q2, S2, vj q3, S2, vj base, S2, vi j3, vi (3 : Int32), vr b6, vi j140, vr b23, vr b31, vr b39, vr b47, vr b145, vr b162, vr b287, vi (2 : Int32), vr b249, vi (1 : Int32), U0, U0] [(.int (2 : Int32))]))
          refine cs (fun t k => xifNo X1207 hc at_433 rfl ((if0 _ _).trans (flt dd).1) (xaload X1207 hc at_436 rfl rfl (xaload X1207 hc at_438 rfl rfl (xiload X1207 hc at_440 rfl k)))) ?_
          show Comes p e below _ (T1207.setTop (mkF m 442 #[vi flag, vj q1, S2, vj q2, S2, vj q3, S2, vj base, S2, vi j3, vi (3 : Int32), vr b6, vi j140, vr b23, vr b31, vr b39, vr b47, vr b145, vr b162, vr b287, vi (2 : Int32), vr b249, vi (1 : Int32), U0, U0] [(.int (2 : Int32)), (.ref b162), (.ref b287)]))
          refine Comes.ldR X1207 hx hZ hs1207 F1210 rfl rfl (v := (.ref b249)) rfl (hb hby at_442) ?_
          have F1215 := (F1155.keep Kq1173 ni1201)
          have F1216 := (F1160.keep Kq1173)
          have F1217 := (F1158.keep Kq1173)
          have F1218 := (F1159.keep Kq1173)
          refine Comes.cV X1207 hx hZ hown (y := y28) (W := 0) (W hw 201) (W hw 202) (W hw 204) (W hw 203) dd (W hw 205) (rem_3 l Z a0 hw [] b287 b249 o293 r294 j3 o632 o633 o634 o635 r636 r637 r638 b207 b163 j18 j11 q1 j143 j142 j141 ((.ref b207)) T1173.heap n0 (by omega)  F1206 F1202 F1203 F1215 F1205 P631_5 P1173_0 P1173_1 P1173_2 P1173_3 P1173_4 P1173_5 P631_12 P1173_6 P1173_7 F1216 F1217 F1218 P1173_8 P631_16 P631_17 P631_18 P631_19 gn278 P631_24 P631_25 P631_26 (Ne.symm ne1168) P631_27 P631_28 (Ne.symm ne1167) P631_29 (Ne.symm ne1166) (Ne.symm ne1165) ne960 ne961 ne962 ne963 ne964 ne965 ne966 ne967 ne1161 ne1163) F1206 (W hw 101) dd dd hs1207 rfl (by rw [hml]; rfl) (argsL := [(.ref b249)]) (rest := []) (lenOf pd_21 rfl) rfl (wle rfl) (hb hby at_443) rfl dd dd fun v1219 T1219 L1219 hQ1219 X1219 => ?_
          obtain ⟨rfl, Nq1219, Kq1219, P1219_0, P1219_1⟩ := hQ1219
          have N1219 := Fr.app N1207 Nq1219
          have z1219k : T1173.heap.size ≤ T1219.heap.size := Kq1219.1
          refine cs (fun t k => xiload X1219 hc at_446 rfl (xaload X1219 hc at_448 rfl rfl (xaload X1219 hc at_450 rfl rfl (xiload X1219 hc at_452 rfl (xiload X1219 hc at_454 rfl k))))) ?_
          show Comes p e below _ (T1219.setTop (mkF m 456 #[vi flag, vj q1, S2, vj q2, S2, vj q3, S2, vj base, S2, vi j3, vi (3 : Int32), vr b6, vi j140, vr b23, vr b31, vr b39, vr b47, vr b145, vr b162, vr b287, vi (2 : Int32), vr b249, vi (1 : Int32), U0, U0] [(.int (2 : Int32)), (.int (3 : Int32)), (.ref b47), (.ref b6), (.int j3)]))
          have F1220 := (F1186.keep Kq1219 ni1185)
          have F1221 := (F1199.keep Kq1219 ni1198)
          refine Comes.cS X1219 hx hZ hown (y := y13) (W := 0) (W hw 112) (W hw 113) dd (W hw 115) (pick_3_2_T l Z a0 hw [] j3 b6 b47 k6 k47 q1 j11 j18 j141 j142 j143 T1219.heap n0 (by omega)  F1220 F1221 (by first | assumption | (have a_0 := hb648; have a_1 := hb977; have a_2 := hb1068; have c_0 := rel4; have c_1 := rel144; (try simp only [ne_eq, Int32.lt_iff_toInt_lt, Int64.lt_iff_toInt_lt, ← Int32.toInt_inj, ← Int64.toInt_inj, Int32.reduceToInt, Int64.reduceToInt, eq_self, and_true, true_and, or_true, true_or, and_false, false_and, or_false, false_or, not_true_eq_false, not_false_eq_true] at a_0 a_1 a_2 c_0 c_1 ⊢) <;> omega))) (W hw 114) dd dd rfl rfl (by rw [hml]; rfl) (argsL := [(.int j3), (.ref b6), (.ref b47), (.int (3 : Int32)), (.int (2 : Int32))]) (rest := []) (lenOf pd_19 rfl) rfl (wle rfl) (hb hby at_456) rfl dd dd fun v1222 T1222 L1222 hQ1222 X1222 => ?_
          obtain ⟨rfl, Nq1222, hs1222⟩ := hQ1222
          have N1222 := Fr.app N1219 Nq1222
          refine cs (fun t k => xistore X1222 hc at_459 rfl rfl (xaload X1222 hc at_461 rfl rfl k)) ?_
          show Comes p e below _ (T1222.setTop (mkF m 463 #[vi flag, vj q1, S2, vj q2, S2, vj q3, S2, vj base, S2, vi j3, vi (3 : Int32), vr b6, vi j140, vr b23, vr b31, vr b39, vr b47, vr b145, vr b162, vr b287, vi (2 : Int32), vr b249, vi (1 : Int32), vi (1 : Int32), U0] [(.ref b287)]))
          have F1223 := (F1202.keep Kq1219 ni1201)
          have F1224 := (F1203.keep Kq1219 ni1201)
          have F1225 := (F1205.keep Kq1219 ni1204)
          have F1226 := (F1206.keep Kq1219)
          refine Comes.cV X1222 hx hZ hown (y := y14) (W := 0) (W hw 116) (W hw 117) (W hw 119) (W hw 118) dd (W hw 120) (first1 l Z a0 hw [] b287 o293 r294 o632 o633 r636 b207 ((.ref b163)) (.null) T1219.heap n0 (by omega)  F1223 F1224 F1225 P1219_0 P1219_1) F1226 (W hw 101) dd dd hs1222 rfl (by rw [hml]; rfl) (argsL := []) (rest := []) (lenOf pd_20 rfl) rfl (wle rfl) (hb hby at_463) rfl dd dd fun v1227 T1227 L1227 hQ1227 X1227 => ?_
          obtain ⟨rfl, Nq1227, hs1227⟩ := hQ1227
          have N1227 := Fr.app N1222 Nq1227
          refine cs (fun t k => xastore X1227 hc at_466 rfl rfl rfl (xiload X1227 hc at_468 rfl k)) ?_
          show Comes p e below _ (T1227.setTop (mkF m 470 #[vi flag, vj q1, S2, vj q2, S2, vj q3, S2, vj base, S2, vi j3, vi (3 : Int32), vr b6, vi j140, vr b23, vr b31, vr b39, vr b47, vr b145, vr b162, vr b287, vi (2 : Int32), vr b249, vi (1 : Int32), vi (1 : Int32), vr b207] [(.int (1 : Int32))]))
          refine cs (fun t k => xifNo X1227 hc at_470 rfl ((if0 _ _).trans (feq dd).1) (xiload X1227 hc at_473 rfl k)) ?_
          refine cs (fun t k => xifYes X1227 hc 475 486 at_475 rfl ((if0 _ _).trans (flt dd).2.1) (xaload X1227 hc at_486 rfl rfl (xaload X1227 hc at_488 rfl rfl (xiload X1227 hc at_490 rfl k)))) ?_
          show Comes p e below _ (T1227.setTop (mkF m 492 #[vi flag, vj q1, S2, vj q2, S2, vj q3, S2, vj base, S2, vi j3, vi (3 : Int32), vr b6, vi j140, vr b23, vr b31, vr b39, vr b47, vr b145, vr b162, vr b287, vi (2 : Int32), vr b249, vi (1 : Int32), vi (1 : Int32), vr b207] [(.int (1 : Int32)), (.ref b162), (.ref b207)]))
          have F1230 := (F1210.keep Kq1219 ni1209)
          refine Comes.ldR X1227 hx hZ hs1227 F1230 rfl rfl (v := (.ref b207)) rfl (hb hby at_492) ?_
          have hc493_1232 : b207 = b207 := by rfl
          refine cs (fun t k => Jvm.RoadKit.acmp (g := (mkF m 493 #[vi flag, vj q1, S2, vj q2, S2, vj q3, S2, vj base, S2, vi j3, vi (3 : Int32), vr b6, vi j140, vr b23, vr b31, vr b39, vr b47, vr b145, vr b162, vr b287, vi (2 : Int32), vr b249, vi (1 : Int32), vi (1 : Int32), vr b207] [(.ref b207), (.ref b207)])) X1227 hx rfl rfl rfl (pc0 := 493) (pc' := 496) (same := true) rfl (hb hby at_493) rfl (decide_eq_true (congrArg Value.ref hc493_1232)) dd dd (xiconst X1227 hc at_496 (xgoto X1227 hc 497 501 at_497 (xistore X1227 hc at_501 rfl rfl (xiload X1227 hc at_503 rfl k))))) ?_
          show Comes p e below _ (T1227.setTop (mkF m 505 #[vi flag, vj q1, S2, vj q2, S2, vj q3, S2, vj base, S2, vi j3, vi (3 : Int32), vr b6, vi j140, vr b23, vr b31, vr b39, vr b47, vr b145, vr b162, vr b287, vi (2 : Int32), vr b249, vi (1 : Int32), vi (1 : Int32), vr b207] [(.int (1 : Int32))]))
          show Comes p e below _ (T1227.setTop (mkF m 505 #[vi flag, vj q1, S2, vj q2, S2, vj q3, S2, vj base, S2, vi j3, vi (3 : Int32), vr b6, vi j140, vr b23, vr b31, vr b39, vr b47, vr b145, vr b162, vr b287, vi (2 : Int32), vr b249, vi (1 : Int32), vi (1 : Int32), vr b207] [(.int (1 : Int32))]))
          exact Comes.retN X1227 hx (t := .boolean) Bd.returns (by simp) hlk (hb hby at_505) hs1227 ⟨rfl, N1227⟩ dd dd
set_option maxRecDepth 65536 in
set_option maxHeartbeats 40000000 in
theorem comes_1 {Post : Tables → Env → Array Value → State → Outcome → State → Prop} (hpost : ∀ tb e args s v u, (limb_1_1.after args s (.returned v) u = true ∧ limb_1_2.after args s (.returned v) u = true ∧ True) → FrameEnd s (.returned v) u (Jvm.fieldLocs frame_1_writes args s ++ Jvm.arrayLocs frame_1_arrays args s ++ Jvm.staticLocs frame_1_statics s) 40 640 → Post tb e args s (.returned v) u) :
    ArmFor flags0 classFile x code maxLocals ret World_1 tables_1 room_1 Calls_1 rest_1 Pre_1 Post := by
  intro l hfl _ _ p e ha hc hk s m args below hf hA hF happ hP
  obtain ⟨hcalls, hrest, hpre⟩ := hP
  obtain ⟨-, -, -, hnamed, -, -, -, hat⟩ := (Spec.applies_iff hf).mp happ
  obtain ⟨hg, hn⟩ := and_e (Cond.before_iff.mp (show (Jvm.Cond.and given_1 narrow_1).before args s = true from hpre))
  obtain ⟨c0, d0⟩ := and_e hg
  obtain ⟨c1, d1⟩ := and_e d0
  obtain ⟨c2, d2⟩ := and_e d1
  obtain ⟨c3, d3⟩ := and_e d2
  obtain ⟨c4, d4⟩ := and_e d3
  obtain ⟨w0, w1, w2, w3, w4, rfl⟩ : ∃ w0 w1 w2 w3 w4 : Value, args = #[w0, w1, w2, w3, w4] := by
    have hs : args.size = 5 := by simpa [Cond.value, given_1] using c0
    obtain ⟨L⟩ := args
    match L, hs with
    | [w0, w1, w2, w3, w4], _ => exact ⟨w0, w1, w2, w3, w4, rfl⟩
  have hw := fun d (hd : d ∈ tables_1) => atoms_spec (ws := Jvm.Cond.code x code maxLocals ret :: tables_1) hat d (List.mem_cons_of_mem _ hd)
  have hfit : Fit s := fun {y c} hc i hi => by
    obtain ⟨ha, rfl⟩ := Array.getElem?_eq_some_iff.mp hc
    have q := List.all_eq_true.mp ((Array.all_eq_true_iff_forall_mem.mp hF) _ (Array.getElem_mem ha)) i (List.mem_range.mpr hi)
    simpa [Array.getElem?_eq_getElem hi] using q
  obtain ⟨i0, ei0⟩ := is_v c1
  obtain rfl : w0 = (.int i0) := Option.some.inj ei0
  obtain ⟨i1, ei1⟩ := isL_v c2
  obtain rfl : w1 = (.long i1) := Option.some.inj ei1
  obtain ⟨i2, ei2⟩ := isL_v c3
  obtain rfl : w2 = (.long i2) := Option.some.inj ei2
  obtain ⟨i3, ei3⟩ := isL_v c4
  obtain rfl : w3 = (.long i3) := Option.some.inj ei3
  obtain ⟨i4, ei4⟩ := isL_v d4
  obtain rfl : w4 = (.long i4) := Option.some.inj ei4
  obtain ⟨hsets, hown0⟩ := atoms_of _ (rest_1_c_eq ▸ (show rest_1_c.before _ s = true from hrest))
  obtain ⟨ca, ec⟩ := exa_v (Cond.before_iff.mp (hsets _ (List.mem_of_getElem? (i := 3) rfl)))
  obtain ⟨n, o, h1, h2, h3, _, L, rfl, ⟨rfl, N⟩, hq⟩ := rm0 l s _ hw tables_1 i0 i1 i2 i3 i4 ca s.heap s.heap.size (Nat.le_refl _) (Sta.start ec (Or.inr ⟨(W hw 12), (hsets _ (List.mem_of_getElem? (i := 0) rfl))⟩)) (Old.start s) (own_cacheL_of ec (Cond.before_iff.mp (hsets _ (List.mem_of_getElem? (i := 2) rfl))) (Cond.before_iff.mp (hsets _ (List.mem_of_getElem? (i := 4) rfl))) (Cond.before_iff.mp (hsets _ (List.mem_of_getElem? (i := 5) rfl)))) p e ha hc hk s m _ below hf ((Spec.applies_iff_loose hf).mp happ).1 ⟨rfl, State.Warmed39.refl s, rfl⟩ trivial
  refine ⟨n, _, h1, h2, h3, hpost _ _ _ _ _ _ ⟨Cond.after_iff.mpr rfl, Cond.after_iff.mpr (eq_i res_at (Term.int_eval (1)) rfl), trivial⟩ ⟨hq.1, hq.2.1, (hq.2.2.sift fun y hy => Or.inr (N y hy)).mono dd dd⟩⟩
theorem main_1_1 : Claimed_1_1 := comes_1 fun _ _ _ _ _ _ h hF => ⟨h.1, hF⟩
theorem main_1_2 : Claimed_1_2 := comes_1 fun _ _ _ _ _ _ h hF => ⟨h.2.1, hF⟩
end Jvm.Pilot.@@N@@
namespace Jvm.Pilot.@@N@@
open Jvm Jvm.ClassFile Sem Op Lib Jvm.Free Jvm.Stand Jvm.Pilot.@@N@@.Jvm.D
/-! MADE BY PROGRAM (witnessworld.py) out of the Statement's table words and the real class files: 26 classes; the members and pool entries that the words name. The judged class is class 1, her method 1. -/
namespace start1
open Jvm.ClassFile
def u (s : String) : CpInfo := .utf8 (stringToUtf16 s)
/-- a pool by its gaps: so many unusable entries, then the entry; so many at the end -/
def gap : Nat → List CpInfo → List CpInfo
  | 0, r => r
  | n + 1, r => .unusable :: gap n r
def poolList (es : List (Nat × CpInfo)) (last : Nat) : List CpInfo := es.foldr (fun e r => gap e.1 (e.2 :: r)) (gap last [])
def pool (es : List (Nat × CpInfo)) (last : Nat) : Array CpInfo := ⟨poolList es last⟩
def fileOf (pool : Array CpInfo) (this : Nat) (attrs : Array Attribute := #[]) (ms : Array MethodInfo := #[]) (fl : Nat := 33) (sup : Nat := 0) (ifs : Array Nat := #[]) (fds : Array FieldInfo := #[]) : ClassFile where
  minorVersion := 0
  majorVersion := 65
  constantPool := pool
  accessFlags := fl
  thisClass := this
  superClass := sup
  interfaces := ifs
  fields := fds
  methods := ms
  attributes := attrs
def plain (name : String) (sup : Option ClassId) : Class where
  name := name
  kind := .ordinary
  loader := none
  accessFlags := 33
  super := sup
  interfaces := #[]
  cf := none
  fields := #[]
  methods := #[]
  instanceTypes := #[]
  staticTypes := #[]
  resolved := #[]
  callSites := []
  init := .initialized
  statics := none
  mirror := none

def pool0 : Array CpInfo := pool [(5, u "<init>"), (0, u "()V"), (1, .class_ 10), (1, u "java/lang/Object")] 113

def k0c0 : Code := { maxStack := 0, maxLocals := 1, code := object_method_1_code, exceptionTable := #[], attributes := #[] }
def k0m0 : Method := { name := "<init>", desc := "()V", sig := { parameters := [], returnType := none }, accessFlags := 1, code := some k0c0 }
/-- java/lang/Object -/
def k0 : Class := { plain "java/lang/Object" none with
  accessFlags := 33
  interfaces := #[]
  cf := some (fileOf pool0 8 #[] #[{ accessFlags := 1, nameIndex := 5, descriptorIndex := 6, attributes := #[] }] 33 0 #[] #[])
  fields := #[]
  methods := #[k0m0]
  instanceTypes := #[]
  staticTypes := #[]
  resolved := Array.replicate 124 none
  statics := none }

def pool1 : Array CpInfo := pool [(2, .class_ 4), (1, u "java/lang/Object"), (0, u "<init>"), (0, u "()V"), (0, .class_ 8), (0, u "com/example/tenorbook/tenorbook/model/Command$EnterOrder"), (0, .methodref 10 11), (0, .class_ 12), (0, .nameAndType 13 14), (0, u "java/lang/Long"), (0, u "valueOf"), (0, u "(J)Ljava/lang/Long;"), (0, .methodref 7 16), (0, .nameAndType 5 17), (0, u "(Ljava/lang/String;Ljava/lang/String;Ljava/lang/String;Ljava/lang/String;Ljava/lang/Long;Ljava/math/BigDecimal;Ljava/lang/String;Ljava/time/LocalDate;)V"), (0, .class_ 19), (0, u "com/example/tenorbook/tenorbook/engine/Order"), (0, .methodref 18 21), (0, .nameAndType 5 22), (0, u "(Lcom/example/tenorbook/tenorbook/engine/OrderBook;JLcom/example/tenorbook/tenorbook/model/Side;JLcom/example/tenorbook/tenorbook/model/Command$EnterOrder;)V"), (0, .class_ 24), (0, u "com/example/tenorbook/tenorbook/engine/Ranking"), (0, .methodref 23 26), (0, .nameAndType 5 27), (0, u "(Z)V"), (0, .methodref 23 29), (0, .nameAndType 30 31), (0, u "add"), (0, u "(Lcom/example/tenorbook/tenorbook/engine/Order;)V"), (0, .methodref 33 34), (0, .class_ 35), (0, .nameAndType 36 37), (0, u "com/example/tenorbook/tenorbook/engine/RankingFirstPinLaw"), (0, u "pick"), (0, u "(Z[J[JII)I"), (0, .methodref 23 39), (0, .nameAndType 40 41), (0, u "first"), (0, u "()Lcom/example/tenorbook/tenorbook/engine/Order;"), (0, .methodref 23 43), (0, .nameAndType 44 31), (0, u "remove"), (0, .methodref 33 46), (0, .nameAndType 47 48), (0, u "better"), (0, u "(Z[J[JII)Z"), (2, u "law"), (0, u "(IJJJJ)Z")] 13

def k1m0 : Method := { name := "<init>", desc := "()V", sig := { parameters := [], returnType := none }, accessFlags := 1, code := none }
def k1c1 : Code := { maxStack := 11, maxLocals := 25, code := code, exceptionTable := #[], attributes := #[] }
def k1m1 : Method := { name := "law", desc := "(IJJJJ)Z", sig := { parameters := [.int, .long, .long, .long, .long], returnType := some .boolean }, accessFlags := 9, code := some k1c1 }
def k1c2 : Code := { maxStack := 4, maxLocals := 5, code := method_3_code, exceptionTable := #[], attributes := #[] }
def k1m2 : Method := { name := "better", desc := "(Z[J[JII)Z", sig := { parameters := [.boolean, (.array .long), (.array .long), .int, .int], returnType := some .boolean }, accessFlags := 10, code := some k1c2 }
def k1c3 : Code := { maxStack := 5, maxLocals := 6, code := method_4_code, exceptionTable := #[], attributes := #[] }
def k1m3 : Method := { name := "pick", desc := "(Z[J[JII)I", sig := { parameters := [.boolean, (.array .long), (.array .long), .int, .int], returnType := some .int }, accessFlags := 10, code := some k1c3 }
/-- com/example/tenorbook/tenorbook/engine/RankingFirstPinLaw -/
def k1 : Class := { plain "com/example/tenorbook/tenorbook/engine/RankingFirstPinLaw" (some 0) with
  accessFlags := 49
  interfaces := #[]
  cf := some (fileOf pool1 33 #[] #[{ accessFlags := 1, nameIndex := 5, descriptorIndex := 6, attributes := #[] }, { accessFlags := 9, nameIndex := 51, descriptorIndex := 52, attributes := #[] }, { accessFlags := 10, nameIndex := 47, descriptorIndex := 48, attributes := #[] }, { accessFlags := 10, nameIndex := 36, descriptorIndex := 37, attributes := #[] }] 49 2 #[] #[])
  fields := #[]
  methods := #[k1m0, k1m1, k1m2, k1m3]
  instanceTypes := #[]
  staticTypes := #[]
  resolved := Array.replicate 66 none
  statics := none }

def pool2 : Array CpInfo := pool [(1, .methodref 2 3), (0, .class_ 4), (0, .nameAndType 5 6), (0, u "java/lang/Object"), (0, u "<init>"), (0, u "()V"), (0, .class_ 8), (0, u "java/lang/Record")] 13

def k2c0 : Code := { maxStack := 1, maxLocals := 1, code := jdk_30_method_1_code, exceptionTable := #[], attributes := #[] }
def k2m0 : Method := { name := "<init>", desc := "()V", sig := { parameters := [], returnType := none }, accessFlags := 4, code := some k2c0 }
/-- java/lang/Record -/
def k2 : Class := { plain "java/lang/Record" (some 0) with
  accessFlags := 1057
  interfaces := #[]
  cf := some (fileOf pool2 7 #[] #[{ accessFlags := 4, nameIndex := 5, descriptorIndex := 6, attributes := #[] }] 1057 2 #[] #[])
  fields := #[]
  methods := #[k2m0]
  instanceTypes := #[]
  staticTypes := #[]
  resolved := Array.replicate 22 none
  statics := none }

def pool3 : Array CpInfo := pool [(1, .class_ 2), (0, u "com/example/tenorbook/tenorbook/model/Command"), (0, .class_ 4), (0, u "java/lang/Object"), (7, .class_ 13), (0, u "com/example/tenorbook/tenorbook/model/Command$ListLimitControls"), (0, .class_ 15), (0, u "com/example/tenorbook/tenorbook/model/Command$ListLimits"), (0, .class_ 17), (0, u "com/example/tenorbook/tenorbook/model/Command$Snapshot"), (0, .class_ 19), (0, u "com/example/tenorbook/tenorbook/model/Command$EndOfDay"), (0, .class_ 21), (0, u "com/example/tenorbook/tenorbook/model/Command$DeleteOrder"), (0, .class_ 23), (0, u "com/example/tenorbook/tenorbook/model/Command$EnterOrder"), (0, .class_ 25), (0, u "com/example/tenorbook/tenorbook/model/Command$IncludeMarket"), (0, .class_ 27), (0, u "com/example/tenorbook/tenorbook/model/Command$ExcludeMarket"), (0, .class_ 29), (0, u "com/example/tenorbook/tenorbook/model/Command$SetTermWindow"), (0, .class_ 31), (0, u "com/example/tenorbook/tenorbook/model/Command$SetMarketWeight"), (0, .class_ 33), (0, u "com/example/tenorbook/tenorbook/model/Command$SetLimitAlert"), (0, .class_ 35), (0, u "com/example/tenorbook/tenorbook/model/Command$CancelLimit"), (0, .class_ 37), (0, u "com/example/tenorbook/tenorbook/model/Command$SetLimit"), (0, .class_ 39), (0, u "com/example/tenorbook/tenorbook/model/Command$SetPhase"), (0, .class_ 41), (0, u "com/example/tenorbook/tenorbook/model/Command$RegisterParticipant"), (0, .class_ 43), (0, u "com/example/tenorbook/tenorbook/model/Command$SetBusinessDate"), (0, .class_ 45), (0, u "com/example/tenorbook/tenorbook/model/Command$DefineContract"), (0, .class_ 47), (0, u "com/example/tenorbook/tenorbook/model/Command$DefineCalendar")] 20

/-- com/example/tenorbook/tenorbook/model/Command -/
def k3 : Class := { plain "com/example/tenorbook/tenorbook/model/Command" (some 0) with
  accessFlags := 1537
  interfaces := #[]
  cf := some (fileOf pool3 1 #[.nestMembers #[12, 14, 16, 18, 20, 22, 24, 26, 28, 30, 32, 34, 36, 38, 40, 42, 44, 46]] #[] 1537 3 #[] #[])
  fields := #[]
  methods := #[]
  instanceTypes := #[]
  staticTypes := #[]
  resolved := Array.replicate 68 none
  statics := none }

def pool4 : Array CpInfo := pool [(1, .methodref 2 3), (0, .class_ 4), (0, .nameAndType 5 6), (0, u "java/lang/Record"), (0, u "<init>"), (0, u "()V"), (0, .fieldref 8 9), (0, .class_ 10), (0, .nameAndType 11 12), (0, u "com/example/tenorbook/tenorbook/model/Command$EnterOrder"), (0, u "time"), (0, u "Ljava/lang/String;"), (0, .fieldref 8 14), (0, .nameAndType 15 12), (0, u "participant"), (0, .fieldref 8 17), (0, .nameAndType 18 12), (0, u "side"), (0, .fieldref 8 20), (0, .nameAndType 21 12), (0, u "isin"), (0, .fieldref 8 23), (0, .nameAndType 24 25), (0, u "size"), (0, u "Ljava/lang/Long;"), (0, .fieldref 8 27), (0, .nameAndType 28 29), (0, u "rate"), (0, u "Ljava/math/BigDecimal;"), (0, .fieldref 8 31), (0, .nameAndType 32 12), (0, u "ref"), (0, .fieldref 8 34), (0, .nameAndType 35 36), (0, u "expiry"), (0, u "Ljava/time/LocalDate;"), (12, .class_ 50), (0, u "com/example/tenorbook/tenorbook/model/Command"), (0, u "(Ljava/lang/String;Ljava/lang/String;Ljava/lang/String;Ljava/lang/String;Ljava/lang/Long;Ljava/math/BigDecimal;Ljava/lang/String;Ljava/time/LocalDate;)V"), (3, u "()Ljava/lang/String;"), (2, u "()Ljava/lang/Long;"), (1, u "()Ljava/time/LocalDate;")] 29

def k4c0 : Code := { maxStack := 2, maxLocals := 9, code := prog_45_method_1_code, exceptionTable := #[], attributes := #[] }
def k4m0 : Method := { name := "<init>", desc := "(Ljava/lang/String;Ljava/lang/String;Ljava/lang/String;Ljava/lang/String;Ljava/lang/Long;Ljava/math/BigDecimal;Ljava/lang/String;Ljava/time/LocalDate;)V", sig := { parameters := [(.object "java/lang/String"), (.object "java/lang/String"), (.object "java/lang/String"), (.object "java/lang/String"), (.object "java/lang/Long"), (.object "java/math/BigDecimal"), (.object "java/lang/String"), (.object "java/time/LocalDate")], returnType := none }, accessFlags := 1, code := some k4c0 }
def k4c1 : Code := { maxStack := 1, maxLocals := 1, code := prog_45_method_5_code, exceptionTable := #[], attributes := #[] }
def k4m1 : Method := { name := "time", desc := "()Ljava/lang/String;", sig := { parameters := [], returnType := some (.object "java/lang/String") }, accessFlags := 1, code := some k4c1 }
def k4c2 : Code := { maxStack := 1, maxLocals := 1, code := prog_45_method_6_code, exceptionTable := #[], attributes := #[] }
def k4m2 : Method := { name := "participant", desc := "()Ljava/lang/String;", sig := { parameters := [], returnType := some (.object "java/lang/String") }, accessFlags := 1, code := some k4c2 }
def k4c3 : Code := { maxStack := 1, maxLocals := 1, code := prog_45_method_9_code, exceptionTable := #[], attributes := #[] }
def k4m3 : Method := { name := "size", desc := "()Ljava/lang/Long;", sig := { parameters := [], returnType := some (.object "java/lang/Long") }, accessFlags := 1, code := some k4c3 }
def k4c4 : Code := { maxStack := 1, maxLocals := 1, code := prog_45_method_11_code, exceptionTable := #[], attributes := #[] }
def k4m4 : Method := { name := "ref", desc := "()Ljava/lang/String;", sig := { parameters := [], returnType := some (.object "java/lang/String") }, accessFlags := 1, code := some k4c4 }
def k4c5 : Code := { maxStack := 1, maxLocals := 1, code := prog_45_method_12_code, exceptionTable := #[], attributes := #[] }
def k4m5 : Method := { name := "expiry", desc := "()Ljava/time/LocalDate;", sig := { parameters := [], returnType := some (.object "java/time/LocalDate") }, accessFlags := 1, code := some k4c5 }
/-- com/example/tenorbook/tenorbook/model/Command$EnterOrder -/
def k4 : Class := { plain "com/example/tenorbook/tenorbook/model/Command$EnterOrder" (some 2) with
  accessFlags := 49
  interfaces := #[3]
  cf := some (fileOf pool4 8 #[.nestHost 49] #[{ accessFlags := 1, nameIndex := 5, descriptorIndex := 51, attributes := #[] }, { accessFlags := 1, nameIndex := 11, descriptorIndex := 55, attributes := #[] }, { accessFlags := 1, nameIndex := 15, descriptorIndex := 55, attributes := #[] }, { accessFlags := 1, nameIndex := 24, descriptorIndex := 58, attributes := #[] }, { accessFlags := 1, nameIndex := 32, descriptorIndex := 55, attributes := #[] }, { accessFlags := 1, nameIndex := 35, descriptorIndex := 60, attributes := #[] }] 49 2 #[49] #[{ accessFlags := 18, nameIndex := 11, descriptorIndex := 12, attributes := #[] }, { accessFlags := 18, nameIndex := 15, descriptorIndex := 12, attributes := #[] }, { accessFlags := 18, nameIndex := 18, descriptorIndex := 12, attributes := #[] }, { accessFlags := 18, nameIndex := 21, descriptorIndex := 12, attributes := #[] }, { accessFlags := 18, nameIndex := 24, descriptorIndex := 25, attributes := #[] }, { accessFlags := 18, nameIndex := 28, descriptorIndex := 29, attributes := #[] }, { accessFlags := 18, nameIndex := 32, descriptorIndex := 12, attributes := #[] }, { accessFlags := 18, nameIndex := 35, descriptorIndex := 36, attributes := #[] }])
  fields := #[{ name := "time", type := (.object "java/lang/String"), accessFlags := 18, slot := 0, constantValue := 0 }, { name := "participant", type := (.object "java/lang/String"), accessFlags := 18, slot := 1, constantValue := 0 }, { name := "side", type := (.object "java/lang/String"), accessFlags := 18, slot := 2, constantValue := 0 }, { name := "isin", type := (.object "java/lang/String"), accessFlags := 18, slot := 3, constantValue := 0 }, { name := "size", type := (.object "java/lang/Long"), accessFlags := 18, slot := 4, constantValue := 0 }, { name := "rate", type := (.object "java/math/BigDecimal"), accessFlags := 18, slot := 5, constantValue := 0 }, { name := "ref", type := (.object "java/lang/String"), accessFlags := 18, slot := 6, constantValue := 0 }, { name := "expiry", type := (.object "java/time/LocalDate"), accessFlags := 18, slot := 7, constantValue := 0 }]
  methods := #[k4m0, k4m1, k4m2, k4m3, k4m4, k4m5]
  instanceTypes := #[(.object "java/lang/String"), (.object "java/lang/String"), (.object "java/lang/String"), (.object "java/lang/String"), (.object "java/lang/Long"), (.object "java/math/BigDecimal"), (.object "java/lang/String"), (.object "java/time/LocalDate")]
  staticTypes := #[]
  resolved := Array.replicate 90 none
  statics := none }

def pool5 : Array CpInfo := pool [(1, .class_ 2), (0, u "java/io/Serializable"), (0, .class_ 4), (0, u "java/lang/Object")] 2

/-- java/io/Serializable -/
def k5 : Class := { plain "java/io/Serializable" (some 0) with
  accessFlags := 1537
  interfaces := #[]
  cf := some (fileOf pool5 1 #[] #[] 1537 3 #[] #[])
  fields := #[]
  methods := #[]
  instanceTypes := #[]
  staticTypes := #[]
  resolved := Array.replicate 7 none
  statics := none }

def pool6 : Array CpInfo := pool [(2, .class_ 4), (1, u "java/lang/Object"), (0, u "<init>"), (0, u "()V"), (1, .class_ 10), (1, u "java/lang/Number"), (2, .class_ 14), (0, u "java/io/Serializable"), (0, u "serialVersionUID"), (0, u "J")] 20

def k6m0 : Method := { name := "<init>", desc := "()V", sig := { parameters := [], returnType := none }, accessFlags := 1, code := none }
/-- java/lang/Number -/
def k6 : Class := { plain "java/lang/Number" (some 0) with
  accessFlags := 1057
  interfaces := #[5]
  cf := some (fileOf pool6 8 #[] #[{ accessFlags := 1, nameIndex := 5, descriptorIndex := 6, attributes := #[] }] 1057 2 #[13] #[{ accessFlags := 26, nameIndex := 15, descriptorIndex := 16, attributes := #[] }])
  fields := #[{ name := "serialVersionUID", type := .long, accessFlags := 26, slot := 0, constantValue := 0 }]
  methods := #[k6m0]
  instanceTypes := #[]
  staticTypes := #[.long]
  resolved := Array.replicate 37 none
  statics := none }

def pool7 : Array CpInfo := pool [(1, .class_ 2), (0, u "java/lang/Comparable"), (0, .class_ 4), (0, u "java/lang/Object")] 7

/-- java/lang/Comparable -/
def k7 : Class := { plain "java/lang/Comparable" (some 0) with
  accessFlags := 1537
  interfaces := #[]
  cf := some (fileOf pool7 1 #[] #[] 1537 3 #[] #[])
  fields := #[]
  methods := #[]
  instanceTypes := #[]
  staticTypes := #[]
  resolved := Array.replicate 12 none
  statics := none }

def pool8 : Array CpInfo := pool [(1, .class_ 2), (0, u "java/lang/constant/Constable"), (0, .class_ 4), (0, u "java/lang/Object")] 6

/-- java/lang/constant/Constable -/
def k8 : Class := { plain "java/lang/constant/Constable" (some 0) with
  accessFlags := 1537
  interfaces := #[]
  cf := some (fileOf pool8 1 #[] #[] 1537 3 #[] #[])
  fields := #[]
  methods := #[]
  instanceTypes := #[]
  staticTypes := #[]
  resolved := Array.replicate 11 none
  statics := none }

def pool9 : Array CpInfo := pool [(1, .class_ 2), (0, u "java/lang/constant/ConstantDesc"), (0, .class_ 4), (0, u "java/lang/Object")] 32

/-- java/lang/constant/ConstantDesc -/
def k9 : Class := { plain "java/lang/constant/ConstantDesc" (some 0) with
  accessFlags := 1537
  interfaces := #[]
  cf := some (fileOf pool9 1 #[] #[] 1537 3 #[] #[])
  fields := #[]
  methods := #[]
  instanceTypes := #[]
  staticTypes := #[]
  resolved := Array.replicate 37 none
  statics := none }

def pool10 : Array CpInfo := pool [(1, .class_ 2), (0, u "java/lang/Long"), (82, u "valueOf"), (143, u "(J)Ljava/lang/Long;"), (0, .long 18446744073709551488), (1, .long 127), (1, .fieldref 235 236), (0, .class_ 237), (0, .nameAndType 238 239), (0, u "java/lang/Long$LongCache"), (0, u "cache"), (0, u "[Ljava/lang/Long;"), (31, .class_ 272), (0, u "java/lang/Number"), (0, .fieldref 1 274), (0, .nameAndType 275 276), (0, u "value"), (0, u "J"), (5, u "longValue"), (0, u "()J"), (77, u "TYPE"), (0, u "Ljava/lang/Class;"), (0, .class_ 364), (0, u "java/lang/Comparable"), (0, .class_ 366), (0, u "java/lang/constant/Constable"), (0, .class_ 368), (0, u "java/lang/constant/ConstantDesc"), (0, u "MIN_VALUE"), (1, u "MAX_VALUE"), (4, u "SIZE"), (0, u "I"), (1, u "BYTES"), (1, u "serialVersionUID")] 142

def k10c0 : Code := { maxStack := 4, maxLocals := 3, code := jdk_35_method_24_code, exceptionTable := #[], attributes := #[] }
def k10m0 : Method := { name := "valueOf", desc := "(J)Ljava/lang/Long;", sig := { parameters := [.long], returnType := some (.object "java/lang/Long") }, accessFlags := 9, code := some k10c0 }
def k10c1 : Code := { maxStack := 2, maxLocals := 1, code := jdk_35_method_31_code, exceptionTable := #[], attributes := #[] }
def k10m1 : Method := { name := "longValue", desc := "()J", sig := { parameters := [], returnType := some .long }, accessFlags := 1, code := some k10c1 }
/-- java/lang/Long -/
def k10 : Class := { plain "java/lang/Long" (some 6) with
  accessFlags := 49
  interfaces := #[7, 8, 9]
  cf := some (fileOf pool10 1 #[.nestMembers #[235]] #[{ accessFlags := 9, nameIndex := 85, descriptorIndex := 229, attributes := #[] }, { accessFlags := 1, nameIndex := 282, descriptorIndex := 283, attributes := #[] }] 49 271 #[363, 365, 367] #[{ accessFlags := 25, nameIndex := 369, descriptorIndex := 276, attributes := #[] }, { accessFlags := 25, nameIndex := 371, descriptorIndex := 276, attributes := #[] }, { accessFlags := 25, nameIndex := 361, descriptorIndex := 362, attributes := #[] }, { accessFlags := 18, nameIndex := 275, descriptorIndex := 276, attributes := #[] }, { accessFlags := 25, nameIndex := 376, descriptorIndex := 377, attributes := #[] }, { accessFlags := 25, nameIndex := 379, descriptorIndex := 377, attributes := #[] }, { accessFlags := 26, nameIndex := 381, descriptorIndex := 276, attributes := #[] }])
  fields := #[{ name := "MIN_VALUE", type := .long, accessFlags := 25, slot := 0, constantValue := 0 }, { name := "MAX_VALUE", type := .long, accessFlags := 25, slot := 1, constantValue := 0 }, { name := "TYPE", type := (.object "java/lang/Class"), accessFlags := 25, slot := 2, constantValue := 0 }, { name := "value", type := .long, accessFlags := 18, slot := 0, constantValue := 0 }, { name := "SIZE", type := .int, accessFlags := 25, slot := 3, constantValue := 0 }, { name := "BYTES", type := .int, accessFlags := 25, slot := 4, constantValue := 0 }, { name := "serialVersionUID", type := .long, accessFlags := 26, slot := 5, constantValue := 0 }]
  methods := #[k10m0, k10m1]
  instanceTypes := #[.long]
  staticTypes := #[.long, .long, (.object "java/lang/Class"), .int, .int, .long]
  resolved := Array.replicate 524 none
  statics := none }

def pool11 : Array CpInfo := pool [(2, .class_ 4), (1, u "java/lang/Object"), (0, u "<init>"), (0, u "()V"), (0, .class_ 8), (0, u "java/lang/Long"), (7, .class_ 18), (1, u "java/lang/Long$LongCache"), (0, u "$assertionsDisabled"), (0, u "Z"), (8, u "archivedCache"), (0, u "[Ljava/lang/Long;"), (7, u "cache")] 24

def k11m0 : Method := { name := "<init>", desc := "()V", sig := { parameters := [], returnType := none }, accessFlags := 2, code := none }
/-- java/lang/Long$LongCache -/
def k11 : Class := { plain "java/lang/Long$LongCache" (some 0) with
  accessFlags := 48
  interfaces := #[]
  cf := some (fileOf pool11 16 #[.nestHost 7] #[{ accessFlags := 2, nameIndex := 5, descriptorIndex := 6, attributes := #[] }] 48 2 #[] #[{ accessFlags := 24, nameIndex := 38, descriptorIndex := 30, attributes := #[] }, { accessFlags := 8, nameIndex := 29, descriptorIndex := 30, attributes := #[] }, { accessFlags := 4120, nameIndex := 19, descriptorIndex := 20, attributes := #[] }])
  fields := #[{ name := "cache", type := (.array (.object "java/lang/Long")), accessFlags := 24, slot := 0, constantValue := 0 }, { name := "archivedCache", type := (.array (.object "java/lang/Long")), accessFlags := 8, slot := 1, constantValue := 0 }, { name := "$assertionsDisabled", type := .boolean, accessFlags := 4120, slot := 2, constantValue := 0 }]
  methods := #[k11m0]
  instanceTypes := #[]
  staticTypes := #[(.array (.object "java/lang/Long")), (.array (.object "java/lang/Long")), .boolean]
  resolved := Array.replicate 63 none
  statics := some 0 }

def pool12 : Array CpInfo := pool [(1, .methodref 2 3), (0, .class_ 4), (0, .nameAndType 5 6), (0, u "java/lang/Object"), (0, u "<init>"), (0, u "()V"), (0, .fieldref 8 9), (0, .class_ 10), (0, .nameAndType 11 12), (0, u "com/example/tenorbook/tenorbook/engine/Order"), (0, u "book"), (0, u "Lcom/example/tenorbook/tenorbook/engine/OrderBook;"), (0, .fieldref 8 14), (0, .nameAndType 15 16), (0, u "number"), (0, u "J"), (0, .methodref 18 19), (0, .class_ 20), (0, .nameAndType 21 22), (0, u "com/example/tenorbook/tenorbook/model/Command$EnterOrder"), (0, u "participant"), (0, u "()Ljava/lang/String;"), (0, .fieldref 8 24), (0, .nameAndType 21 25), (0, u "Ljava/lang/String;"), (0, .fieldref 8 27), (0, .nameAndType 28 29), (0, u "side"), (0, u "Lcom/example/tenorbook/tenorbook/model/Side;"), (0, .fieldref 8 31), (0, .nameAndType 32 16), (0, u "ticks"), (0, .methodref 18 34), (0, .nameAndType 35 36), (0, u "size"), (0, u "()Ljava/lang/Long;"), (0, .methodref 38 39), (0, .class_ 40), (0, .nameAndType 41 42), (0, u "java/lang/Long"), (0, u "longValue"), (0, u "()J"), (0, .fieldref 8 44), (0, .nameAndType 45 16), (0, u "remaining"), (0, .methodref 18 47), (0, .nameAndType 48 22), (0, u "time"), (0, .fieldref 8 50), (0, .nameAndType 48 25), (0, .methodref 18 52), (0, .nameAndType 53 22), (0, u "ref"), (0, .fieldref 8 55), (0, .nameAndType 53 25), (0, .methodref 18 57), (0, .nameAndType 58 59), (0, u "expiry"), (0, u "()Ljava/time/LocalDate;"), (0, .fieldref 8 61), (0, .nameAndType 58 62), (0, u "Ljava/time/LocalDate;"), (8, u "level"), (0, u "Lcom/example/tenorbook/tenorbook/engine/Level;"), (8, u "next"), (0, u "Lcom/example/tenorbook/tenorbook/engine/Order;"), (18, u "OLDEST_FIRST"), (0, u "Ljava/util/Comparator;"), (2, u "previous"), (0, u "after"), (0, u "(Lcom/example/tenorbook/tenorbook/engine/OrderBook;JLcom/example/tenorbook/tenorbook/model/Side;JLcom/example/tenorbook/tenorbook/model/Command$EnterOrder;)V")] 38

def k12c0 : Code := { maxStack := 3, maxLocals := 8, code := prog_22_method_1_code, exceptionTable := #[], attributes := #[] }
def k12m0 : Method := { name := "<init>", desc := "(Lcom/example/tenorbook/tenorbook/engine/OrderBook;JLcom/example/tenorbook/tenorbook/model/Side;JLcom/example/tenorbook/tenorbook/model/Command$EnterOrder;)V", sig := { parameters := [(.object "com/example/tenorbook/tenorbook/engine/OrderBook"), .long, (.object "com/example/tenorbook/tenorbook/model/Side"), .long, (.object "com/example/tenorbook/tenorbook/model/Command$EnterOrder")], returnType := none }, accessFlags := 0, code := some k12c0 }
def k12c1 : Code := { maxStack := 2, maxLocals := 1, code := prog_22_method_3_code, exceptionTable := #[], attributes := #[] }
def k12m1 : Method := { name := "number", desc := "()J", sig := { parameters := [], returnType := some .long }, accessFlags := 0, code := some k12c1 }
def k12c2 : Code := { maxStack := 2, maxLocals := 1, code := prog_22_method_7_code, exceptionTable := #[], attributes := #[] }
def k12m2 : Method := { name := "ticks", desc := "()J", sig := { parameters := [], returnType := some .long }, accessFlags := 0, code := some k12c2 }
/-- com/example/tenorbook/tenorbook/engine/Order -/
def k12 : Class := { plain "com/example/tenorbook/tenorbook/engine/Order" (some 0) with
  accessFlags := 48
  interfaces := #[]
  cf := some (fileOf pool12 8 #[] #[{ accessFlags := 0, nameIndex := 5, descriptorIndex := 107, attributes := #[] }, { accessFlags := 0, nameIndex := 15, descriptorIndex := 42, attributes := #[] }, { accessFlags := 0, nameIndex := 32, descriptorIndex := 42, attributes := #[] }] 48 2 #[] #[{ accessFlags := 24, nameIndex := 101, descriptorIndex := 102, attributes := #[] }, { accessFlags := 18, nameIndex := 11, descriptorIndex := 12, attributes := #[] }, { accessFlags := 18, nameIndex := 15, descriptorIndex := 16, attributes := #[] }, { accessFlags := 18, nameIndex := 21, descriptorIndex := 25, attributes := #[] }, { accessFlags := 18, nameIndex := 28, descriptorIndex := 29, attributes := #[] }, { accessFlags := 18, nameIndex := 32, descriptorIndex := 16, attributes := #[] }, { accessFlags := 18, nameIndex := 48, descriptorIndex := 25, attributes := #[] }, { accessFlags := 18, nameIndex := 53, descriptorIndex := 25, attributes := #[] }, { accessFlags := 18, nameIndex := 58, descriptorIndex := 62, attributes := #[] }, { accessFlags := 2, nameIndex := 45, descriptorIndex := 16, attributes := #[] }, { accessFlags := 0, nameIndex := 71, descriptorIndex := 72, attributes := #[] }, { accessFlags := 0, nameIndex := 105, descriptorIndex := 82, attributes := #[] }, { accessFlags := 0, nameIndex := 81, descriptorIndex := 82, attributes := #[] }, { accessFlags := 0, nameIndex := 106, descriptorIndex := 82, attributes := #[] }])
  fields := #[{ name := "OLDEST_FIRST", type := (.object "java/util/Comparator"), accessFlags := 24, slot := 0, constantValue := 0 }, { name := "book", type := (.object "com/example/tenorbook/tenorbook/engine/OrderBook"), accessFlags := 18, slot := 0, constantValue := 0 }, { name := "number", type := .long, accessFlags := 18, slot := 1, constantValue := 0 }, { name := "participant", type := (.object "java/lang/String"), accessFlags := 18, slot := 2, constantValue := 0 }, { name := "side", type := (.object "com/example/tenorbook/tenorbook/model/Side"), accessFlags := 18, slot := 3, constantValue := 0 }, { name := "ticks", type := .long, accessFlags := 18, slot := 4, constantValue := 0 }, { name := "time", type := (.object "java/lang/String"), accessFlags := 18, slot := 5, constantValue := 0 }, { name := "ref", type := (.object "java/lang/String"), accessFlags := 18, slot := 6, constantValue := 0 }, { name := "expiry", type := (.object "java/time/LocalDate"), accessFlags := 18, slot := 7, constantValue := 0 }, { name := "remaining", type := .long, accessFlags := 2, slot := 8, constantValue := 0 }, { name := "level", type := (.object "com/example/tenorbook/tenorbook/engine/Level"), accessFlags := 0, slot := 9, constantValue := 0 }, { name := "previous", type := (.object "com/example/tenorbook/tenorbook/engine/Order"), accessFlags := 0, slot := 10, constantValue := 0 }, { name := "next", type := (.object "com/example/tenorbook/tenorbook/engine/Order"), accessFlags := 0, slot := 11, constantValue := 0 }, { name := "after", type := (.object "com/example/tenorbook/tenorbook/engine/Order"), accessFlags := 0, slot := 12, constantValue := 0 }]
  methods := #[k12m0, k12m1, k12m2]
  instanceTypes := #[(.object "com/example/tenorbook/tenorbook/engine/OrderBook"), .long, (.object "java/lang/String"), (.object "com/example/tenorbook/tenorbook/model/Side"), .long, (.object "java/lang/String"), (.object "java/lang/String"), (.object "java/time/LocalDate"), .long, (.object "com/example/tenorbook/tenorbook/engine/Level"), (.object "com/example/tenorbook/tenorbook/engine/Order"), (.object "com/example/tenorbook/tenorbook/engine/Order"), (.object "com/example/tenorbook/tenorbook/engine/Order")]
  staticTypes := #[(.object "java/util/Comparator")]
  resolved := Array.replicate 146 none
  statics := none }

def pool13 : Array CpInfo := pool [(1, .class_ 2), (0, u "com/example/tenorbook/tenorbook/engine/Ranking"), (0, .methodref 4 5), (0, .class_ 6), (0, .nameAndType 7 8), (0, u "java/lang/Object"), (0, u "<init>"), (0, u "()V"), (0, .class_ 10), (0, u "com/example/tenorbook/tenorbook/engine/Ranking$Block"), (0, .fieldref 1 12), (0, .nameAndType 13 14), (0, u "blocks"), (0, u "[Lcom/example/tenorbook/tenorbook/engine/Ranking$Block;"), (0, .fieldref 1 16), (0, .nameAndType 17 18), (0, u "lowestBest"), (0, u "Z"), (0, .methodref 20 21), (0, .class_ 22), (0, .nameAndType 23 24), (0, u "com/example/tenorbook/tenorbook/engine/Order"), (0, u "ticks"), (0, u "()J"), (6, .methodref 20 32), (0, .nameAndType 33 24), (0, u "number"), (0, .fieldref 1 35), (0, .nameAndType 36 37), (0, u "count"), (0, u "I"), (0, .fieldref 9 39), (0, .nameAndType 40 41), (0, u "orders"), (0, u "[Lcom/example/tenorbook/tenorbook/engine/Order;"), (0, .fieldref 20 43), (0, .nameAndType 44 45), (0, u "after"), (0, u "Lcom/example/tenorbook/tenorbook/engine/Order;"), (0, .methodref 1 47), (0, .nameAndType 48 49), (0, u "insertBlock"), (0, u "(I)V"), (0, .methodref 1 51), (0, .nameAndType 52 53), (0, u "blockOf"), (0, u "(Lcom/example/tenorbook/tenorbook/engine/Order;)I"), (0, .fieldref 9 55), (0, .nameAndType 56 37), (0, u "size"), (3, .methodref 1 61), (0, .nameAndType 62 63), (0, u "before"), (0, u "(Lcom/example/tenorbook/tenorbook/engine/Ranking$Block;ILcom/example/tenorbook/tenorbook/engine/Order;)Z"), (0, .methodref 1 65), (0, .nameAndType 66 67), (0, u "placeIn"), (0, u "(Lcom/example/tenorbook/tenorbook/engine/Ranking$Block;Lcom/example/tenorbook/tenorbook/engine/Order;)I"), (0, .methodref 9 69), (0, .nameAndType 70 49), (0, u "open"), (0, .methodref 9 72), (0, .nameAndType 73 74), (0, u "put"), (0, u "(ILcom/example/tenorbook/tenorbook/engine/Order;)V"), (0, .methodref 1 76), (0, .nameAndType 77 78), (0, u "link"), (0, u "(II)V"), (0, .methodref 1 80), (0, .nameAndType 81 67), (0, u "placeOf"), (3, .methodref 1 86), (0, .nameAndType 87 78), (0, u "unlink"), (6, u "remove"), (0, u "(Lcom/example/tenorbook/tenorbook/engine/Order;)V"), (2, u "add"), (0, .methodref 9 100), (0, .nameAndType 101 49), (0, u "close"), (3, .methodref 1 106), (0, .nameAndType 107 49), (0, u "removeBlock"), (0, .fieldref 9 109), (0, .nameAndType 23 110), (0, u "[J"), (0, .fieldref 9 112), (0, .nameAndType 113 110), (0, u "numbers"), (0, .methodref 1 115), (0, .nameAndType 116 117), (0, u "orderBefore"), (0, u "(II)Lcom/example/tenorbook/tenorbook/engine/Order;"), (0, .methodref 1 119), (0, .nameAndType 120 121), (0, u "firstOf"), (0, u "(I)Lcom/example/tenorbook/tenorbook/engine/Order;"), (23, .methodref 9 5), (0, .methodref 147 148), (0, .class_ 149), (0, .nameAndType 150 151), (0, u "java/lang/System"), (0, u "arraycopy"), (0, u "(Ljava/lang/Object;ILjava/lang/Object;II)V"), (0, u "BLOCK"), (2, u "HALF"), (1, u "FIRST_BLOCKS"), (1, u "SHORT_MOVE"), (0, u "(Z)V"), (3, u "first"), (0, u "()Lcom/example/tenorbook/tenorbook/engine/Order;")] 22

def k13c0 : Code := { maxStack := 2, maxLocals := 2, code := prog_27_method_1_code, exceptionTable := #[], attributes := #[] }
def k13m0 : Method := { name := "<init>", desc := "(Z)V", sig := { parameters := [.boolean], returnType := none }, accessFlags := 0, code := some k13c0 }
def k13c1 : Code := { maxStack := 2, maxLocals := 1, code := prog_27_method_3_code, exceptionTable := #[], attributes := #[] }
def k13m1 : Method := { name := "first", desc := "()Lcom/example/tenorbook/tenorbook/engine/Order;", sig := { parameters := [], returnType := some (.object "com/example/tenorbook/tenorbook/engine/Order") }, accessFlags := 0, code := some k13c1 }
def k13c2 : Code := { maxStack := 4, maxLocals := 5, code := prog_27_method_5_code, exceptionTable := #[], attributes := #[] }
def k13m2 : Method := { name := "add", desc := "(Lcom/example/tenorbook/tenorbook/engine/Order;)V", sig := { parameters := [(.object "com/example/tenorbook/tenorbook/engine/Order")], returnType := none }, accessFlags := 0, code := some k13c2 }
def k13c3 : Code := { maxStack := 4, maxLocals := 5, code := prog_27_method_7_code, exceptionTable := #[], attributes := #[] }
def k13m3 : Method := { name := "remove", desc := "(Lcom/example/tenorbook/tenorbook/engine/Order;)V", sig := { parameters := [(.object "com/example/tenorbook/tenorbook/engine/Order")], returnType := none }, accessFlags := 0, code := some k13c3 }
def k13c4 : Code := { maxStack := 5, maxLocals := 6, code := prog_27_method_8_code, exceptionTable := #[], attributes := #[] }
def k13m4 : Method := { name := "before", desc := "(Lcom/example/tenorbook/tenorbook/engine/Ranking$Block;ILcom/example/tenorbook/tenorbook/engine/Order;)Z", sig := { parameters := [(.object "com/example/tenorbook/tenorbook/engine/Ranking$Block"), .int, (.object "com/example/tenorbook/tenorbook/engine/Order")], returnType := some .boolean }, accessFlags := 2, code := some k13c4 }
def k13c5 : Code := { maxStack := 4, maxLocals := 5, code := prog_27_method_9_code, exceptionTable := #[], attributes := #[] }
def k13m5 : Method := { name := "link", desc := "(II)V", sig := { parameters := [.int, .int], returnType := none }, accessFlags := 2, code := some k13c5 }
def k13c6 : Code := { maxStack := 3, maxLocals := 5, code := prog_27_method_10_code, exceptionTable := #[], attributes := #[] }
def k13m6 : Method := { name := "unlink", desc := "(II)V", sig := { parameters := [.int, .int], returnType := none }, accessFlags := 2, code := some k13c6 }
def k13c7 : Code := { maxStack := 3, maxLocals := 5, code := prog_27_method_11_code, exceptionTable := #[], attributes := #[] }
def k13m7 : Method := { name := "orderBefore", desc := "(II)Lcom/example/tenorbook/tenorbook/engine/Order;", sig := { parameters := [.int, .int], returnType := some (.object "com/example/tenorbook/tenorbook/engine/Order") }, accessFlags := 2, code := some k13c7 }
def k13c8 : Code := { maxStack := 2, maxLocals := 2, code := prog_27_method_12_code, exceptionTable := #[], attributes := #[] }
def k13m8 : Method := { name := "firstOf", desc := "(I)Lcom/example/tenorbook/tenorbook/engine/Order;", sig := { parameters := [.int], returnType := some (.object "com/example/tenorbook/tenorbook/engine/Order") }, accessFlags := 2, code := some k13c8 }
def k13c9 : Code := { maxStack := 4, maxLocals := 5, code := prog_27_method_13_code, exceptionTable := #[], attributes := #[] }
def k13m9 : Method := { name := "blockOf", desc := "(Lcom/example/tenorbook/tenorbook/engine/Order;)I", sig := { parameters := [(.object "com/example/tenorbook/tenorbook/engine/Order")], returnType := some .int }, accessFlags := 2, code := some k13c9 }
def k13c10 : Code := { maxStack := 4, maxLocals := 6, code := prog_27_method_14_code, exceptionTable := #[], attributes := #[] }
def k13m10 : Method := { name := "placeIn", desc := "(Lcom/example/tenorbook/tenorbook/engine/Ranking$Block;Lcom/example/tenorbook/tenorbook/engine/Order;)I", sig := { parameters := [(.object "com/example/tenorbook/tenorbook/engine/Ranking$Block"), (.object "com/example/tenorbook/tenorbook/engine/Order")], returnType := some .int }, accessFlags := 2, code := some k13c10 }
def k13c11 : Code := { maxStack := 4, maxLocals := 4, code := prog_27_method_15_code, exceptionTable := #[], attributes := #[] }
def k13m11 : Method := { name := "placeOf", desc := "(Lcom/example/tenorbook/tenorbook/engine/Ranking$Block;Lcom/example/tenorbook/tenorbook/engine/Order;)I", sig := { parameters := [(.object "com/example/tenorbook/tenorbook/engine/Ranking$Block"), (.object "com/example/tenorbook/tenorbook/engine/Order")], returnType := some .int }, accessFlags := 2, code := some k13c11 }
def k13c12 : Code := { maxStack := 6, maxLocals := 3, code := prog_27_method_18_code, exceptionTable := #[], attributes := #[] }
def k13m12 : Method := { name := "insertBlock", desc := "(I)V", sig := { parameters := [.int], returnType := none }, accessFlags := 2, code := some k13c12 }
def k13c13 : Code := { maxStack := 6, maxLocals := 3, code := prog_27_method_19_code, exceptionTable := #[], attributes := #[] }
def k13m13 : Method := { name := "removeBlock", desc := "(I)V", sig := { parameters := [.int], returnType := none }, accessFlags := 2, code := some k13c13 }
/-- com/example/tenorbook/tenorbook/engine/Ranking -/
def k13 : Class := { plain "com/example/tenorbook/tenorbook/engine/Ranking" (some 0) with
  accessFlags := 48
  interfaces := #[]
  cf := some (fileOf pool13 1 #[.nestMembers #[9]] #[{ accessFlags := 0, nameIndex := 7, descriptorIndex := 160, attributes := #[] }, { accessFlags := 0, nameIndex := 164, descriptorIndex := 165, attributes := #[] }, { accessFlags := 0, nameIndex := 98, descriptorIndex := 95, attributes := #[] }, { accessFlags := 0, nameIndex := 94, descriptorIndex := 95, attributes := #[] }, { accessFlags := 2, nameIndex := 62, descriptorIndex := 63, attributes := #[] }, { accessFlags := 2, nameIndex := 77, descriptorIndex := 78, attributes := #[] }, { accessFlags := 2, nameIndex := 87, descriptorIndex := 78, attributes := #[] }, { accessFlags := 2, nameIndex := 116, descriptorIndex := 117, attributes := #[] }, { accessFlags := 2, nameIndex := 120, descriptorIndex := 121, attributes := #[] }, { accessFlags := 2, nameIndex := 52, descriptorIndex := 53, attributes := #[] }, { accessFlags := 2, nameIndex := 66, descriptorIndex := 67, attributes := #[] }, { accessFlags := 2, nameIndex := 81, descriptorIndex := 67, attributes := #[] }, { accessFlags := 2, nameIndex := 48, descriptorIndex := 49, attributes := #[] }, { accessFlags := 2, nameIndex := 107, descriptorIndex := 49, attributes := #[] }] 48 4 #[] #[{ accessFlags := 26, nameIndex := 152, descriptorIndex := 37, attributes := #[] }, { accessFlags := 26, nameIndex := 155, descriptorIndex := 37, attributes := #[] }, { accessFlags := 26, nameIndex := 157, descriptorIndex := 37, attributes := #[] }, { accessFlags := 26, nameIndex := 159, descriptorIndex := 37, attributes := #[] }, { accessFlags := 18, nameIndex := 17, descriptorIndex := 18, attributes := #[] }, { accessFlags := 2, nameIndex := 13, descriptorIndex := 14, attributes := #[] }, { accessFlags := 2, nameIndex := 36, descriptorIndex := 37, attributes := #[] }])
  fields := #[{ name := "BLOCK", type := .int, accessFlags := 26, slot := 0, constantValue := 0 }, { name := "HALF", type := .int, accessFlags := 26, slot := 1, constantValue := 0 }, { name := "FIRST_BLOCKS", type := .int, accessFlags := 26, slot := 2, constantValue := 0 }, { name := "SHORT_MOVE", type := .int, accessFlags := 26, slot := 3, constantValue := 0 }, { name := "lowestBest", type := .boolean, accessFlags := 18, slot := 0, constantValue := 0 }, { name := "blocks", type := (.array (.object "com/example/tenorbook/tenorbook/engine/Ranking$Block")), accessFlags := 2, slot := 1, constantValue := 0 }, { name := "count", type := .int, accessFlags := 2, slot := 2, constantValue := 0 }]
  methods := #[k13m0, k13m1, k13m2, k13m3, k13m4, k13m5, k13m6, k13m7, k13m8, k13m9, k13m10, k13m11, k13m12, k13m13]
  instanceTypes := #[.boolean, (.array (.object "com/example/tenorbook/tenorbook/engine/Ranking$Block")), .int]
  staticTypes := #[.int, .int, .int, .int]
  resolved := ((((((Array.replicate 188 none).setIfInBounds 9 (some (.cls 14))).setIfInBounds 38 (some (.field 14 0))).setIfInBounds 54 (some (.field 14 3))).setIfInBounds 108 (some (.field 14 1))).setIfInBounds 111 (some (.field 14 2))).setIfInBounds 145 (some (.method ⟨14, 0⟩))
  statics := none }

def pool14 : Array CpInfo := pool [(1, .class_ 2), (0, u "com/example/tenorbook/tenorbook/engine/Ranking"), (0, .methodref 4 5), (0, .class_ 6), (0, .nameAndType 7 8), (0, u "java/lang/Object"), (0, u "<init>"), (0, u "()V"), (0, .class_ 10), (0, u "com/example/tenorbook/tenorbook/engine/Order"), (0, .fieldref 12 13), (0, .class_ 14), (0, .nameAndType 15 16), (0, u "com/example/tenorbook/tenorbook/engine/Ranking$Block"), (0, u "orders"), (0, u "[Lcom/example/tenorbook/tenorbook/engine/Order;"), (0, .fieldref 12 18), (0, .nameAndType 19 20), (0, u "ticks"), (0, u "[J"), (0, .fieldref 12 22), (0, .nameAndType 23 20), (0, u "numbers"), (0, .fieldref 12 25), (0, .nameAndType 26 27), (0, u "size"), (0, u "I"), (0, .methodref 12 29), (0, .nameAndType 30 31), (0, u "shift"), (0, u "(III)V"), (0, .methodref 9 33), (0, .nameAndType 19 34), (0, u "()J"), (0, .methodref 9 36), (0, .nameAndType 37 34), (0, u "number"), (6, .methodref 12 45), (0, .nameAndType 46 47), (0, u "move"), (0, u "(II)V"), (8, u "open"), (0, u "(I)V"), (0, u "put"), (0, u "(ILcom/example/tenorbook/tenorbook/engine/Order;)V"), (0, u "close")] 9

def k14c0 : Code := { maxStack := 2, maxLocals := 1, code := prog_28_method_1_code, exceptionTable := #[], attributes := #[] }
def k14m0 : Method := { name := "<init>", desc := "()V", sig := { parameters := [], returnType := none }, accessFlags := 2, code := some k14c0 }
def k14c1 : Code := { maxStack := 4, maxLocals := 2, code := prog_28_method_2_code, exceptionTable := #[], attributes := #[] }
def k14m1 : Method := { name := "open", desc := "(I)V", sig := { parameters := [.int], returnType := none }, accessFlags := 0, code := some k14c1 }
def k14c2 : Code := { maxStack := 4, maxLocals := 3, code := prog_28_method_3_code, exceptionTable := #[], attributes := #[] }
def k14m2 : Method := { name := "put", desc := "(ILcom/example/tenorbook/tenorbook/engine/Order;)V", sig := { parameters := [.int, (.object "com/example/tenorbook/tenorbook/engine/Order")], returnType := none }, accessFlags := 0, code := some k14c2 }
def k14c3 : Code := { maxStack := 4, maxLocals := 2, code := prog_28_method_4_code, exceptionTable := #[], attributes := #[] }
def k14m3 : Method := { name := "close", desc := "(I)V", sig := { parameters := [.int], returnType := none }, accessFlags := 0, code := some k14c3 }
def k14c4 : Code := { maxStack := 5, maxLocals := 6, code := prog_28_method_5_code, exceptionTable := #[], attributes := #[] }
def k14m4 : Method := { name := "shift", desc := "(III)V", sig := { parameters := [.int, .int, .int], returnType := none }, accessFlags := 0, code := some k14c4 }
def k14c5 : Code := { maxStack := 4, maxLocals := 3, code := prog_28_method_6_code, exceptionTable := #[], attributes := #[] }
def k14m5 : Method := { name := "move", desc := "(II)V", sig := { parameters := [.int, .int], returnType := none }, accessFlags := 2, code := some k14c5 }
/-- com/example/tenorbook/tenorbook/engine/Ranking$Block -/
def k14 : Class := { plain "com/example/tenorbook/tenorbook/engine/Ranking$Block" (some 0) with
  accessFlags := 48
  interfaces := #[]
  cf := some (fileOf pool14 12 #[.nestHost 1] #[{ accessFlags := 2, nameIndex := 7, descriptorIndex := 8, attributes := #[] }, { accessFlags := 0, nameIndex := 56, descriptorIndex := 57, attributes := #[] }, { accessFlags := 0, nameIndex := 58, descriptorIndex := 59, attributes := #[] }, { accessFlags := 0, nameIndex := 60, descriptorIndex := 57, attributes := #[] }, { accessFlags := 0, nameIndex := 30, descriptorIndex := 31, attributes := #[] }, { accessFlags := 2, nameIndex := 46, descriptorIndex := 47, attributes := #[] }] 48 4 #[] #[{ accessFlags := 18, nameIndex := 15, descriptorIndex := 16, attributes := #[] }, { accessFlags := 18, nameIndex := 19, descriptorIndex := 20, attributes := #[] }, { accessFlags := 18, nameIndex := 23, descriptorIndex := 20, attributes := #[] }, { accessFlags := 2, nameIndex := 26, descriptorIndex := 27, attributes := #[] }])
  fields := #[{ name := "orders", type := (.array (.object "com/example/tenorbook/tenorbook/engine/Order")), accessFlags := 18, slot := 0, constantValue := 0 }, { name := "ticks", type := (.array .long), accessFlags := 18, slot := 1, constantValue := 0 }, { name := "numbers", type := (.array .long), accessFlags := 18, slot := 2, constantValue := 0 }, { name := "size", type := .int, accessFlags := 2, slot := 3, constantValue := 0 }]
  methods := #[k14m0, k14m1, k14m2, k14m3, k14m4, k14m5]
  instanceTypes := #[(.array (.object "com/example/tenorbook/tenorbook/engine/Order")), (.array .long), (.array .long), .int]
  staticTypes := #[]
  resolved := Array.replicate 70 none
  statics := none }

def pool15 : Array CpInfo := pool [(2, .class_ 4), (1, u "java/lang/Object"), (0, u "<init>"), (0, u "()V"), (1, .class_ 10), (1, u "java/lang/System"), (0, u "allowSecurityManager"), (0, u "I"), (16, u "cons"), (0, u "Ljava/io/Console;"), (77, .class_ 110), (1, u "java/lang/System$CallersHolder"), (43, u "initialErrStream"), (0, u "Ljava/io/PrintStream;"), (19, u "security"), (0, u "Ljava/lang/SecurityManager;"), (31, .class_ 209), (0, u "java/lang/System$1"), (7, u "props"), (0, u "Ljava/util/Properties;"), (2, u "lineSeparator"), (0, u "Ljava/lang/String;"), (96, .class_ 321), (1, u "java/lang/System$LoggerFinder"), (5, .class_ 328), (0, u "java/lang/System$Logger"), (67, u "err"), (2, u "out"), (91, u "notSupportedJnuEncoding"), (15, u "in"), (17, u "initialIn"), (0, u "Ljava/io/InputStream;"), (35, u "bootLayer"), (0, u "Ljava/lang/ModuleLayer;"), (99, .class_ 664), (0, u "java/lang/System$2"), (9, u "NEVER"), (2, u "MAYBE"), (49, u "arraycopy"), (0, u "(Ljava/lang/Object;ILjava/lang/Object;II)V"), (72, .class_ 802), (0, u "java/lang/System$Logger$Level")] 31

def k15m0 : Method := { name := "<init>", desc := "()V", sig := { parameters := [], returnType := none }, accessFlags := 2, code := none }
def k15m1 : Method := { name := "arraycopy", desc := "(Ljava/lang/Object;ILjava/lang/Object;II)V", sig := { parameters := [(.object "java/lang/Object"), .int, (.object "java/lang/Object"), .int, .int], returnType := none }, accessFlags := 265, code := none }
/-- java/lang/System -/
def k15 : Class := { plain "java/lang/System" (some 0) with
  accessFlags := 49
  interfaces := #[]
  cf := some (fileOf pool15 8 #[.nestMembers #[319, 327, 801, 108, 663, 208]] #[{ accessFlags := 2, nameIndex := 5, descriptorIndex := 6, attributes := #[] }, { accessFlags := 265, nameIndex := 727, descriptorIndex := 728, attributes := #[] }] 49 2 #[] #[{ accessFlags := 25, nameIndex := 507, descriptorIndex := 526, attributes := #[] }, { accessFlags := 25, nameIndex := 399, descriptorIndex := 155, attributes := #[] }, { accessFlags := 25, nameIndex := 396, descriptorIndex := 155, attributes := #[] }, { accessFlags := 10, nameIndex := 525, descriptorIndex := 526, attributes := #[] }, { accessFlags := 26, nameIndex := 674, descriptorIndex := 12, attributes := #[] }, { accessFlags := 26, nameIndex := 677, descriptorIndex := 12, attributes := #[] }, { accessFlags := 10, nameIndex := 11, descriptorIndex := 12, attributes := #[] }, { accessFlags := 74, nameIndex := 175, descriptorIndex := 176, attributes := #[] }, { accessFlags := 10, nameIndex := 491, descriptorIndex := 222, attributes := #[] }, { accessFlags := 74, nameIndex := 29, descriptorIndex := 30, attributes := #[] }, { accessFlags := 74, nameIndex := 154, descriptorIndex := 155, attributes := #[] }, { accessFlags := 10, nameIndex := 217, descriptorIndex := 218, attributes := #[] }, { accessFlags := 10, nameIndex := 221, descriptorIndex := 222, attributes := #[] }, { accessFlags := 8, nameIndex := 562, descriptorIndex := 563, attributes := #[] }])
  fields := #[{ name := "in", type := (.object "java/io/InputStream"), accessFlags := 25, slot := 0, constantValue := 0 }, { name := "out", type := (.object "java/io/PrintStream"), accessFlags := 25, slot := 1, constantValue := 0 }, { name := "err", type := (.object "java/io/PrintStream"), accessFlags := 25, slot := 2, constantValue := 0 }, { name := "initialIn", type := (.object "java/io/InputStream"), accessFlags := 10, slot := 3, constantValue := 0 }, { name := "NEVER", type := .int, accessFlags := 26, slot := 4, constantValue := 0 }, { name := "MAYBE", type := .int, accessFlags := 26, slot := 5, constantValue := 0 }, { name := "allowSecurityManager", type := .int, accessFlags := 10, slot := 6, constantValue := 0 }, { name := "security", type := (.object "java/lang/SecurityManager"), accessFlags := 74, slot := 7, constantValue := 0 }, { name := "notSupportedJnuEncoding", type := (.object "java/lang/String"), accessFlags := 10, slot := 8, constantValue := 0 }, { name := "cons", type := (.object "java/io/Console"), accessFlags := 74, slot := 9, constantValue := 0 }, { name := "initialErrStream", type := (.object "java/io/PrintStream"), accessFlags := 74, slot := 10, constantValue := 0 }, { name := "props", type := (.object "java/util/Properties"), accessFlags := 10, slot := 11, constantValue := 0 }, { name := "lineSeparator", type := (.object "java/lang/String"), accessFlags := 10, slot := 12, constantValue := 0 }, { name := "bootLayer", type := (.object "java/lang/ModuleLayer"), accessFlags := 8, slot := 13, constantValue := 0 }]
  methods := #[k15m0, k15m1]
  instanceTypes := #[]
  staticTypes := #[(.object "java/io/InputStream"), (.object "java/io/PrintStream"), (.object "java/io/PrintStream"), (.object "java/io/InputStream"), .int, .int, .int, (.object "java/lang/SecurityManager"), (.object "java/lang/String"), (.object "java/io/Console"), (.object "java/io/PrintStream"), (.object "java/util/Properties"), (.object "java/lang/String"), (.object "java/lang/ModuleLayer")]
  resolved := Array.replicate 834 none
  statics := none }

def pool16 : Array CpInfo := pool [(1, u "java/lang/Cloneable"), (0, .class_ 1), (0, u "java/lang/Object"), (0, .class_ 3)] 3

/-- java/lang/Cloneable -/
def k16 : Class := { plain "java/lang/Cloneable" (some 0) with
  accessFlags := 1537
  interfaces := #[]
  cf := some (fileOf pool16 2 #[] #[] 1537 4 #[] #[])
  fields := #[]
  methods := #[]
  instanceTypes := #[]
  staticTypes := #[]
  resolved := Array.replicate 8 none
  statics := none }

/-- the primitive byte -/
def k17 : Class := { plain "byte" none with kind := .primitive 'B', accessFlags := 0x411 }
/-- [B -/
def k18 : Class := { plain "[B" (some 0) with kind := .array 17 .byte, interfaces := #[16, 5], accessFlags := 1041 }

/-- the primitive int -/
def k19 : Class := { plain "int" none with kind := .primitive 'I', accessFlags := 0x411 }
/-- [I -/
def k20 : Class := { plain "[I" (some 0) with kind := .array 19 .int, interfaces := #[16, 5], accessFlags := 1041 }

/-- the primitive long -/
def k21 : Class := { plain "long" none with kind := .primitive 'J', accessFlags := 0x411 }
/-- [J -/
def k22 : Class := { plain "[J" (some 0) with kind := .array 21 .long, interfaces := #[16, 5], accessFlags := 1041 }

/-- [Lcom/example/tenorbook/tenorbook/engine/Order; -/
def k23 : Class := { plain "[Lcom/example/tenorbook/tenorbook/engine/Order;" (some 0) with kind := .array 12 (.object "com/example/tenorbook/tenorbook/engine/Order"), interfaces := #[16, 5], accessFlags := 1041 }

/-- [Lcom/example/tenorbook/tenorbook/engine/Ranking$Block; -/
def k24 : Class := { plain "[Lcom/example/tenorbook/tenorbook/engine/Ranking$Block;" (some 0) with kind := .array 14 (.object "com/example/tenorbook/tenorbook/engine/Ranking$Block"), interfaces := #[16, 5], accessFlags := 1041 }

/-- [Ljava/lang/Long; -/
def k25 : Class := { plain "[Ljava/lang/Long;" (some 0) with kind := .array 10 (.object "java/lang/Long"), interfaces := #[16, 5], accessFlags := 1041 }

def heap : Heap := #[{ cls := 11, slots := #[.ref 1, .null, .int 0], vm := .statics 11 },
  { cls := 25, slots := #[.ref 2, .ref 3, .ref 4, .ref 5, .ref 6, .ref 7, .ref 8, .ref 9, .ref 10, .ref 11, .ref 12, .ref 13, .ref 14, .ref 15, .ref 16, .ref 17, .ref 18, .ref 19, .ref 20, .ref 21, .ref 22, .ref 23, .ref 24, .ref 25, .ref 26, .ref 27, .ref 28, .ref 29, .ref 30, .ref 31, .ref 32, .ref 33, .ref 34, .ref 35, .ref 36, .ref 37, .ref 38, .ref 39, .ref 40, .ref 41, .ref 42, .ref 43, .ref 44, .ref 45, .ref 46, .ref 47, .ref 48, .ref 49, .ref 50, .ref 51, .ref 52, .ref 53, .ref 54, .ref 55, .ref 56, .ref 57, .ref 58, .ref 59, .ref 60, .ref 61, .ref 62, .ref 63, .ref 64, .ref 65, .ref 66, .ref 67, .ref 68, .ref 69, .ref 70, .ref 71, .ref 72, .ref 73, .ref 74, .ref 75, .ref 76, .ref 77, .ref 78, .ref 79, .ref 80, .ref 81, .ref 82, .ref 83, .ref 84, .ref 85, .ref 86, .ref 87, .ref 88, .ref 89, .ref 90, .ref 91, .ref 92, .ref 93, .ref 94, .ref 95, .ref 96, .ref 97, .ref 98, .ref 99, .ref 100, .ref 101, .ref 102, .ref 103, .ref 104, .ref 105, .ref 106, .ref 107, .ref 108, .ref 109, .ref 110, .ref 111, .ref 112, .ref 113, .ref 114, .ref 115, .ref 116, .ref 117, .ref 118, .ref 119, .ref 120, .ref 121, .ref 122, .ref 123, .ref 124, .ref 125, .ref 126, .ref 127, .ref 128, .ref 129, .ref 130, .ref 131, .ref 132, .ref 133, .ref 134, .ref 135, .ref 136, .ref 137, .ref 138, .ref 139, .ref 140, .ref 141, .ref 142, .ref 143, .ref 144, .ref 145, .ref 146, .ref 147, .ref 148, .ref 149, .ref 150, .ref 151, .ref 152, .ref 153, .ref 154, .ref 155, .ref 156, .ref 157, .ref 158, .ref 159, .ref 160, .ref 161, .ref 162, .ref 163, .ref 164, .ref 165, .ref 166, .ref 167, .ref 168, .ref 169, .ref 170, .ref 171, .ref 172, .ref 173, .ref 174, .ref 175, .ref 176, .ref 177, .ref 178, .ref 179, .ref 180, .ref 181, .ref 182, .ref 183, .ref 184, .ref 185, .ref 186, .ref 187, .ref 188, .ref 189, .ref 190, .ref 191, .ref 192, .ref 193, .ref 194, .ref 195, .ref 196, .ref 197, .ref 198, .ref 199, .ref 200, .ref 201, .ref 202, .ref 203, .ref 204, .ref 205, .ref 206, .ref 207, .ref 208, .ref 209, .ref 210, .ref 211, .ref 212, .ref 213, .ref 214, .ref 215, .ref 216, .ref 217, .ref 218, .ref 219, .ref 220, .ref 221, .ref 222, .ref 223, .ref 224, .ref 225, .ref 226, .ref 227, .ref 228, .ref 229, .ref 230, .ref 231, .ref 232, .ref 233, .ref 234, .ref 235, .ref 236, .ref 237, .ref 238, .ref 239, .ref 240, .ref 241, .ref 242, .ref 243, .ref 244, .ref 245, .ref 246, .ref 247, .ref 248, .ref 249, .ref 250, .ref 251, .ref 252, .ref 253, .ref 254, .ref 255, .ref 256, .ref 257], vm := .none },
  { cls := 10, slots := #[.long (-128)], vm := .none },
  { cls := 10, slots := #[.long (-127)], vm := .none },
  { cls := 10, slots := #[.long (-126)], vm := .none },
  { cls := 10, slots := #[.long (-125)], vm := .none },
  { cls := 10, slots := #[.long (-124)], vm := .none },
  { cls := 10, slots := #[.long (-123)], vm := .none },
  { cls := 10, slots := #[.long (-122)], vm := .none },
  { cls := 10, slots := #[.long (-121)], vm := .none },
  { cls := 10, slots := #[.long (-120)], vm := .none },
  { cls := 10, slots := #[.long (-119)], vm := .none },
  { cls := 10, slots := #[.long (-118)], vm := .none },
  { cls := 10, slots := #[.long (-117)], vm := .none },
  { cls := 10, slots := #[.long (-116)], vm := .none },
  { cls := 10, slots := #[.long (-115)], vm := .none },
  { cls := 10, slots := #[.long (-114)], vm := .none },
  { cls := 10, slots := #[.long (-113)], vm := .none },
  { cls := 10, slots := #[.long (-112)], vm := .none },
  { cls := 10, slots := #[.long (-111)], vm := .none },
  { cls := 10, slots := #[.long (-110)], vm := .none },
  { cls := 10, slots := #[.long (-109)], vm := .none },
  { cls := 10, slots := #[.long (-108)], vm := .none },
  { cls := 10, slots := #[.long (-107)], vm := .none },
  { cls := 10, slots := #[.long (-106)], vm := .none },
  { cls := 10, slots := #[.long (-105)], vm := .none },
  { cls := 10, slots := #[.long (-104)], vm := .none },
  { cls := 10, slots := #[.long (-103)], vm := .none },
  { cls := 10, slots := #[.long (-102)], vm := .none },
  { cls := 10, slots := #[.long (-101)], vm := .none },
  { cls := 10, slots := #[.long (-100)], vm := .none },
  { cls := 10, slots := #[.long (-99)], vm := .none },
  { cls := 10, slots := #[.long (-98)], vm := .none },
  { cls := 10, slots := #[.long (-97)], vm := .none },
  { cls := 10, slots := #[.long (-96)], vm := .none },
  { cls := 10, slots := #[.long (-95)], vm := .none },
  { cls := 10, slots := #[.long (-94)], vm := .none },
  { cls := 10, slots := #[.long (-93)], vm := .none },
  { cls := 10, slots := #[.long (-92)], vm := .none },
  { cls := 10, slots := #[.long (-91)], vm := .none },
  { cls := 10, slots := #[.long (-90)], vm := .none },
  { cls := 10, slots := #[.long (-89)], vm := .none },
  { cls := 10, slots := #[.long (-88)], vm := .none },
  { cls := 10, slots := #[.long (-87)], vm := .none },
  { cls := 10, slots := #[.long (-86)], vm := .none },
  { cls := 10, slots := #[.long (-85)], vm := .none },
  { cls := 10, slots := #[.long (-84)], vm := .none },
  { cls := 10, slots := #[.long (-83)], vm := .none },
  { cls := 10, slots := #[.long (-82)], vm := .none },
  { cls := 10, slots := #[.long (-81)], vm := .none },
  { cls := 10, slots := #[.long (-80)], vm := .none },
  { cls := 10, slots := #[.long (-79)], vm := .none },
  { cls := 10, slots := #[.long (-78)], vm := .none },
  { cls := 10, slots := #[.long (-77)], vm := .none },
  { cls := 10, slots := #[.long (-76)], vm := .none },
  { cls := 10, slots := #[.long (-75)], vm := .none },
  { cls := 10, slots := #[.long (-74)], vm := .none },
  { cls := 10, slots := #[.long (-73)], vm := .none },
  { cls := 10, slots := #[.long (-72)], vm := .none },
  { cls := 10, slots := #[.long (-71)], vm := .none },
  { cls := 10, slots := #[.long (-70)], vm := .none },
  { cls := 10, slots := #[.long (-69)], vm := .none },
  { cls := 10, slots := #[.long (-68)], vm := .none },
  { cls := 10, slots := #[.long (-67)], vm := .none },
  { cls := 10, slots := #[.long (-66)], vm := .none },
  { cls := 10, slots := #[.long (-65)], vm := .none },
  { cls := 10, slots := #[.long (-64)], vm := .none },
  { cls := 10, slots := #[.long (-63)], vm := .none },
  { cls := 10, slots := #[.long (-62)], vm := .none },
  { cls := 10, slots := #[.long (-61)], vm := .none },
  { cls := 10, slots := #[.long (-60)], vm := .none },
  { cls := 10, slots := #[.long (-59)], vm := .none },
  { cls := 10, slots := #[.long (-58)], vm := .none },
  { cls := 10, slots := #[.long (-57)], vm := .none },
  { cls := 10, slots := #[.long (-56)], vm := .none },
  { cls := 10, slots := #[.long (-55)], vm := .none },
  { cls := 10, slots := #[.long (-54)], vm := .none },
  { cls := 10, slots := #[.long (-53)], vm := .none },
  { cls := 10, slots := #[.long (-52)], vm := .none },
  { cls := 10, slots := #[.long (-51)], vm := .none },
  { cls := 10, slots := #[.long (-50)], vm := .none },
  { cls := 10, slots := #[.long (-49)], vm := .none },
  { cls := 10, slots := #[.long (-48)], vm := .none },
  { cls := 10, slots := #[.long (-47)], vm := .none },
  { cls := 10, slots := #[.long (-46)], vm := .none },
  { cls := 10, slots := #[.long (-45)], vm := .none },
  { cls := 10, slots := #[.long (-44)], vm := .none },
  { cls := 10, slots := #[.long (-43)], vm := .none },
  { cls := 10, slots := #[.long (-42)], vm := .none },
  { cls := 10, slots := #[.long (-41)], vm := .none },
  { cls := 10, slots := #[.long (-40)], vm := .none },
  { cls := 10, slots := #[.long (-39)], vm := .none },
  { cls := 10, slots := #[.long (-38)], vm := .none },
  { cls := 10, slots := #[.long (-37)], vm := .none },
  { cls := 10, slots := #[.long (-36)], vm := .none },
  { cls := 10, slots := #[.long (-35)], vm := .none },
  { cls := 10, slots := #[.long (-34)], vm := .none },
  { cls := 10, slots := #[.long (-33)], vm := .none },
  { cls := 10, slots := #[.long (-32)], vm := .none },
  { cls := 10, slots := #[.long (-31)], vm := .none },
  { cls := 10, slots := #[.long (-30)], vm := .none },
  { cls := 10, slots := #[.long (-29)], vm := .none },
  { cls := 10, slots := #[.long (-28)], vm := .none },
  { cls := 10, slots := #[.long (-27)], vm := .none },
  { cls := 10, slots := #[.long (-26)], vm := .none },
  { cls := 10, slots := #[.long (-25)], vm := .none },
  { cls := 10, slots := #[.long (-24)], vm := .none },
  { cls := 10, slots := #[.long (-23)], vm := .none },
  { cls := 10, slots := #[.long (-22)], vm := .none },
  { cls := 10, slots := #[.long (-21)], vm := .none },
  { cls := 10, slots := #[.long (-20)], vm := .none },
  { cls := 10, slots := #[.long (-19)], vm := .none },
  { cls := 10, slots := #[.long (-18)], vm := .none },
  { cls := 10, slots := #[.long (-17)], vm := .none },
  { cls := 10, slots := #[.long (-16)], vm := .none },
  { cls := 10, slots := #[.long (-15)], vm := .none },
  { cls := 10, slots := #[.long (-14)], vm := .none },
  { cls := 10, slots := #[.long (-13)], vm := .none },
  { cls := 10, slots := #[.long (-12)], vm := .none },
  { cls := 10, slots := #[.long (-11)], vm := .none },
  { cls := 10, slots := #[.long (-10)], vm := .none },
  { cls := 10, slots := #[.long (-9)], vm := .none },
  { cls := 10, slots := #[.long (-8)], vm := .none },
  { cls := 10, slots := #[.long (-7)], vm := .none },
  { cls := 10, slots := #[.long (-6)], vm := .none },
  { cls := 10, slots := #[.long (-5)], vm := .none },
  { cls := 10, slots := #[.long (-4)], vm := .none },
  { cls := 10, slots := #[.long (-3)], vm := .none },
  { cls := 10, slots := #[.long (-2)], vm := .none },
  { cls := 10, slots := #[.long (-1)], vm := .none },
  { cls := 10, slots := #[.long (0)], vm := .none },
  { cls := 10, slots := #[.long (1)], vm := .none },
  { cls := 10, slots := #[.long (2)], vm := .none },
  { cls := 10, slots := #[.long (3)], vm := .none },
  { cls := 10, slots := #[.long (4)], vm := .none },
  { cls := 10, slots := #[.long (5)], vm := .none },
  { cls := 10, slots := #[.long (6)], vm := .none },
  { cls := 10, slots := #[.long (7)], vm := .none },
  { cls := 10, slots := #[.long (8)], vm := .none },
  { cls := 10, slots := #[.long (9)], vm := .none },
  { cls := 10, slots := #[.long (10)], vm := .none },
  { cls := 10, slots := #[.long (11)], vm := .none },
  { cls := 10, slots := #[.long (12)], vm := .none },
  { cls := 10, slots := #[.long (13)], vm := .none },
  { cls := 10, slots := #[.long (14)], vm := .none },
  { cls := 10, slots := #[.long (15)], vm := .none },
  { cls := 10, slots := #[.long (16)], vm := .none },
  { cls := 10, slots := #[.long (17)], vm := .none },
  { cls := 10, slots := #[.long (18)], vm := .none },
  { cls := 10, slots := #[.long (19)], vm := .none },
  { cls := 10, slots := #[.long (20)], vm := .none },
  { cls := 10, slots := #[.long (21)], vm := .none },
  { cls := 10, slots := #[.long (22)], vm := .none },
  { cls := 10, slots := #[.long (23)], vm := .none },
  { cls := 10, slots := #[.long (24)], vm := .none },
  { cls := 10, slots := #[.long (25)], vm := .none },
  { cls := 10, slots := #[.long (26)], vm := .none },
  { cls := 10, slots := #[.long (27)], vm := .none },
  { cls := 10, slots := #[.long (28)], vm := .none },
  { cls := 10, slots := #[.long (29)], vm := .none },
  { cls := 10, slots := #[.long (30)], vm := .none },
  { cls := 10, slots := #[.long (31)], vm := .none },
  { cls := 10, slots := #[.long (32)], vm := .none },
  { cls := 10, slots := #[.long (33)], vm := .none },
  { cls := 10, slots := #[.long (34)], vm := .none },
  { cls := 10, slots := #[.long (35)], vm := .none },
  { cls := 10, slots := #[.long (36)], vm := .none },
  { cls := 10, slots := #[.long (37)], vm := .none },
  { cls := 10, slots := #[.long (38)], vm := .none },
  { cls := 10, slots := #[.long (39)], vm := .none },
  { cls := 10, slots := #[.long (40)], vm := .none },
  { cls := 10, slots := #[.long (41)], vm := .none },
  { cls := 10, slots := #[.long (42)], vm := .none },
  { cls := 10, slots := #[.long (43)], vm := .none },
  { cls := 10, slots := #[.long (44)], vm := .none },
  { cls := 10, slots := #[.long (45)], vm := .none },
  { cls := 10, slots := #[.long (46)], vm := .none },
  { cls := 10, slots := #[.long (47)], vm := .none },
  { cls := 10, slots := #[.long (48)], vm := .none },
  { cls := 10, slots := #[.long (49)], vm := .none },
  { cls := 10, slots := #[.long (50)], vm := .none },
  { cls := 10, slots := #[.long (51)], vm := .none },
  { cls := 10, slots := #[.long (52)], vm := .none },
  { cls := 10, slots := #[.long (53)], vm := .none },
  { cls := 10, slots := #[.long (54)], vm := .none },
  { cls := 10, slots := #[.long (55)], vm := .none },
  { cls := 10, slots := #[.long (56)], vm := .none },
  { cls := 10, slots := #[.long (57)], vm := .none },
  { cls := 10, slots := #[.long (58)], vm := .none },
  { cls := 10, slots := #[.long (59)], vm := .none },
  { cls := 10, slots := #[.long (60)], vm := .none },
  { cls := 10, slots := #[.long (61)], vm := .none },
  { cls := 10, slots := #[.long (62)], vm := .none },
  { cls := 10, slots := #[.long (63)], vm := .none },
  { cls := 10, slots := #[.long (64)], vm := .none },
  { cls := 10, slots := #[.long (65)], vm := .none },
  { cls := 10, slots := #[.long (66)], vm := .none },
  { cls := 10, slots := #[.long (67)], vm := .none },
  { cls := 10, slots := #[.long (68)], vm := .none },
  { cls := 10, slots := #[.long (69)], vm := .none },
  { cls := 10, slots := #[.long (70)], vm := .none },
  { cls := 10, slots := #[.long (71)], vm := .none },
  { cls := 10, slots := #[.long (72)], vm := .none },
  { cls := 10, slots := #[.long (73)], vm := .none },
  { cls := 10, slots := #[.long (74)], vm := .none },
  { cls := 10, slots := #[.long (75)], vm := .none },
  { cls := 10, slots := #[.long (76)], vm := .none },
  { cls := 10, slots := #[.long (77)], vm := .none },
  { cls := 10, slots := #[.long (78)], vm := .none },
  { cls := 10, slots := #[.long (79)], vm := .none },
  { cls := 10, slots := #[.long (80)], vm := .none },
  { cls := 10, slots := #[.long (81)], vm := .none },
  { cls := 10, slots := #[.long (82)], vm := .none },
  { cls := 10, slots := #[.long (83)], vm := .none },
  { cls := 10, slots := #[.long (84)], vm := .none },
  { cls := 10, slots := #[.long (85)], vm := .none },
  { cls := 10, slots := #[.long (86)], vm := .none },
  { cls := 10, slots := #[.long (87)], vm := .none },
  { cls := 10, slots := #[.long (88)], vm := .none },
  { cls := 10, slots := #[.long (89)], vm := .none },
  { cls := 10, slots := #[.long (90)], vm := .none },
  { cls := 10, slots := #[.long (91)], vm := .none },
  { cls := 10, slots := #[.long (92)], vm := .none },
  { cls := 10, slots := #[.long (93)], vm := .none },
  { cls := 10, slots := #[.long (94)], vm := .none },
  { cls := 10, slots := #[.long (95)], vm := .none },
  { cls := 10, slots := #[.long (96)], vm := .none },
  { cls := 10, slots := #[.long (97)], vm := .none },
  { cls := 10, slots := #[.long (98)], vm := .none },
  { cls := 10, slots := #[.long (99)], vm := .none },
  { cls := 10, slots := #[.long (100)], vm := .none },
  { cls := 10, slots := #[.long (101)], vm := .none },
  { cls := 10, slots := #[.long (102)], vm := .none },
  { cls := 10, slots := #[.long (103)], vm := .none },
  { cls := 10, slots := #[.long (104)], vm := .none },
  { cls := 10, slots := #[.long (105)], vm := .none },
  { cls := 10, slots := #[.long (106)], vm := .none },
  { cls := 10, slots := #[.long (107)], vm := .none },
  { cls := 10, slots := #[.long (108)], vm := .none },
  { cls := 10, slots := #[.long (109)], vm := .none },
  { cls := 10, slots := #[.long (110)], vm := .none },
  { cls := 10, slots := #[.long (111)], vm := .none },
  { cls := 10, slots := #[.long (112)], vm := .none },
  { cls := 10, slots := #[.long (113)], vm := .none },
  { cls := 10, slots := #[.long (114)], vm := .none },
  { cls := 10, slots := #[.long (115)], vm := .none },
  { cls := 10, slots := #[.long (116)], vm := .none },
  { cls := 10, slots := #[.long (117)], vm := .none },
  { cls := 10, slots := #[.long (118)], vm := .none },
  { cls := 10, slots := #[.long (119)], vm := .none },
  { cls := 10, slots := #[.long (120)], vm := .none },
  { cls := 10, slots := #[.long (121)], vm := .none },
  { cls := 10, slots := #[.long (122)], vm := .none },
  { cls := 10, slots := #[.long (123)], vm := .none },
  { cls := 10, slots := #[.long (124)], vm := .none },
  { cls := 10, slots := #[.long (125)], vm := .none },
  { cls := 10, slots := #[.long (126)], vm := .none },
  { cls := 10, slots := #[.long (127)], vm := .none }]
def classes : Array Class := #[k0, k1, k2, k3, k4, k5, k6, k7, k8, k9, k10, k11, k12, k13, k14, k15, k16, k17, k18, k19, k20, k21, k22, k23, k24, k25]
def interned : List (Array UInt16 × Addr) := []
def slotsUsed : Nat := 515
def theMethod : MethodId := ⟨1, 1⟩
def args0 : Array Value := #[.int 5, .long 7, .long 300, .long 9, .long 1]
def aboutOver (below : List Frame) : State where
  vm := { classes := classes, interned := interned.toArray }
  heap := heap
  slotsUsed := slotsUsed
  threads := #[{ frames := .invoking theMethod args0 :: below }]
def below0 : List Frame := [.native { method := ⟨0, 0⟩, args := #[] }]
def about1 : State := aboutOver below0
def p0 : Program := .bare "" "" ""
def e0 : Env := launch0.env 0 0 0
theorem w_frames : about1.frames = Frame.invoking theMethod args0 :: below0 := rfl
set_option maxRecDepth 65536 in
theorem w_args : argsFit about1.vm theMethod args0 = true := by decide +kernel
set_option maxRecDepth 65536 in
theorem w_heap : heapFits about1 = true := by decide +kernel
set_option maxRecDepth 65536 in
theorem w_runnable : about1.curStatus? = some .runnable := by decide +kernel
set_option maxRecDepth 65536 in
theorem w_alone : about1.alone = true := by decide +kernel
set_option maxRecDepth 65536 in
theorem w_named : about1.methodNamed? x = some theMethod := by decide +kernel
set_option maxRecDepth 65536 in
theorem w_hears : about1.hears theMethod below0 = true := by decide +kernel
set_option maxRecDepth 65536 in
theorem w_ripe : about1.ripe theMethod args0 below0 = true := by decide +kernel
theorem w_running : about1.status = .running := rfl
set_option maxRecDepth 65536 in
theorem w_room : about1.hasRoom e0.platform room_1 = true :=
  launch0.hasRoom_least _ room_1 (by decide +kernel) (by decide +kernel) (by decide +kernel) (by decide +kernel) (by decide +kernel) (by decide +kernel)
theorem allAtoms_all (ts : List Jvm.Cond) (a : Array Jvm.Value) (st : Jvm.State) : (allAtoms ts).before a st = ts.all (fun c => c.before a st) := by
  induction ts with
  | nil => rfl
  | cons c t ih =>
    show (Jvm.Cond.and c (allAtoms t)).before a st = _
    rw [Jvm.Cond.before_and, ih, List.all_cons]
def words1 : List Jvm.Cond := Jvm.Cond.code x code maxLocals ret :: tables_1
/-- a 'code' word, met by the world's own term for the bytes: nothing is compared byte by byte -/
theorem code_word {y : MethodName} {bytes : ByteArray} {mx : Nat} {rt : Option FieldType} {a : Array Value} {s : State} {m : MethodId} {meth : Method} {c : Code} (h1 : s.methodNamed? y = some m) (h2 : s.vm.method? m = some meth) (h3 : meth.code = some c) (h4 : c.code = bytes)
    (h5 : (c.maxLocals == mx && c.exceptionTable.isEmpty && decide (c.maxStack ≤ mostOperands) && decide (meth.sig.returnType = rt) && !meth.locks && decide (parseMethodDescriptor y.desc = some meth.sig)) = true) : (Jvm.Cond.code y bytes mx rt).before a s = true := by
  simp only [Bool.and_eq_true, beq_iff_eq, Bool.not_eq_true', decide_eq_true_eq] at h5
  obtain ⟨⟨⟨⟨⟨g1, g2⟩, g3⟩, g4⟩, g5⟩, g6⟩ := h5
  simp [Cond.before, Cond.holds, Cond.value, h1, h2, h3, h4, g1, g2, g3, g4, g5, g6]
def isCode : Jvm.Cond → Bool
  | .code _ _ _ _ => true
  | _ => false
theorem all_split {L : List Jvm.Cond} {P : Jvm.Cond → Bool} (h1 : L.all (fun c => isCode c || P c) = true) (h2 : ∀ c ∈ L.filter isCode, P c = true) : L.all P = true := by
  refine List.all_eq_true.mpr fun c hc => ?_
  have h := List.all_eq_true.mp h1 c hc
  rcases Bool.eq_false_or_eq_true (isCode c) with hi | hi
  · exact h2 c (List.mem_filter.mpr ⟨hc, hi⟩)
  · simpa [hi] using h
set_option maxRecDepth 65536 in
theorem w_c0 : (Jvm.Cond.code x code maxLocals ret).before args0 about1 = true := code_word (m := ⟨1, 1⟩) (meth := k1m1) (c := k1c1) (by decide +kernel) rfl rfl rfl (by decide +kernel)
set_option maxRecDepth 65536 in
theorem w_c1 : (Jvm.Cond.code ({ cls := "java/lang/Long", name := "valueOf", desc := "(J)Ljava/lang/Long;" } : Jvm.MethodName) jdk_35_method_24_code (3 : Nat) (Option.some (Jvm.ClassFile.FieldType.object "java/lang/Long"))).before args0 about1 = true := code_word (m := ⟨10, 0⟩) (meth := k10m0) (c := k10c0) (by decide +kernel) rfl rfl rfl (by decide +kernel)
set_option maxRecDepth 65536 in
theorem w_c2 : (Jvm.Cond.code ({ cls := "com/example/tenorbook/tenorbook/model/Command$EnterOrder", name := "<init>", desc := "(Ljava/lang/String;Ljava/lang/String;Ljava/lang/String;Ljava/lang/String;Ljava/lang/Long;Ljava/math/BigDecimal;Ljava/lang/String;Ljava/time/LocalDate;)V" } : Jvm.MethodName) prog_45_method_1_code (9 : Nat) (Option.none : Option Jvm.ClassFile.FieldType)).before args0 about1 = true := code_word (m := ⟨4, 0⟩) (meth := k4m0) (c := k4c0) (by decide +kernel) rfl rfl rfl (by decide +kernel)
set_option maxRecDepth 65536 in
theorem w_c3 : (Jvm.Cond.code ({ cls := "java/lang/Record", name := "<init>", desc := "()V" } : Jvm.MethodName) jdk_30_method_1_code (1 : Nat) (Option.none : Option Jvm.ClassFile.FieldType)).before args0 about1 = true := code_word (m := ⟨2, 0⟩) (meth := k2m0) (c := k2c0) (by decide +kernel) rfl rfl rfl (by decide +kernel)
set_option maxRecDepth 65536 in
theorem w_c4 : (Jvm.Cond.code ({ cls := "java/lang/Object", name := "<init>", desc := "()V" } : Jvm.MethodName) object_method_1_code (1 : Nat) (Option.none : Option Jvm.ClassFile.FieldType)).before args0 about1 = true := code_word (m := ⟨0, 0⟩) (meth := k0m0) (c := k0c0) (by decide +kernel) rfl rfl rfl (by decide +kernel)
set_option maxRecDepth 65536 in
theorem w_c5 : (Jvm.Cond.code ({ cls := "com/example/tenorbook/tenorbook/engine/Order", name := "<init>", desc := "(Lcom/example/tenorbook/tenorbook/engine/OrderBook;JLcom/example/tenorbook/tenorbook/model/Side;JLcom/example/tenorbook/tenorbook/model/Command$EnterOrder;)V" } : Jvm.MethodName) prog_22_method_1_code (8 : Nat) (Option.none : Option Jvm.ClassFile.FieldType)).before args0 about1 = true := code_word (m := ⟨12, 0⟩) (meth := k12m0) (c := k12c0) (by decide +kernel) rfl rfl rfl (by decide +kernel)
set_option maxRecDepth 65536 in
theorem w_c6 : (Jvm.Cond.code ({ cls := "com/example/tenorbook/tenorbook/model/Command$EnterOrder", name := "participant", desc := "()Ljava/lang/String;" } : Jvm.MethodName) prog_45_method_6_code (1 : Nat) (Option.some (Jvm.ClassFile.FieldType.object "java/lang/String"))).before args0 about1 = true := code_word (m := ⟨4, 2⟩) (meth := k4m2) (c := k4c2) (by decide +kernel) rfl rfl rfl (by decide +kernel)
set_option maxRecDepth 65536 in
theorem w_c7 : (Jvm.Cond.code ({ cls := "com/example/tenorbook/tenorbook/model/Command$EnterOrder", name := "size", desc := "()Ljava/lang/Long;" } : Jvm.MethodName) prog_45_method_9_code (1 : Nat) (Option.some (Jvm.ClassFile.FieldType.object "java/lang/Long"))).before args0 about1 = true := code_word (m := ⟨4, 3⟩) (meth := k4m3) (c := k4c3) (by decide +kernel) rfl rfl rfl (by decide +kernel)
set_option maxRecDepth 65536 in
theorem w_c8 : (Jvm.Cond.code ({ cls := "java/lang/Long", name := "longValue", desc := "()J" } : Jvm.MethodName) jdk_35_method_31_code (1 : Nat) (Option.some Jvm.ClassFile.FieldType.long)).before args0 about1 = true := code_word (m := ⟨10, 1⟩) (meth := k10m1) (c := k10c1) (by decide +kernel) rfl rfl rfl (by decide +kernel)
set_option maxRecDepth 65536 in
theorem w_c9 : (Jvm.Cond.code ({ cls := "com/example/tenorbook/tenorbook/model/Command$EnterOrder", name := "time", desc := "()Ljava/lang/String;" } : Jvm.MethodName) prog_45_method_5_code (1 : Nat) (Option.some (Jvm.ClassFile.FieldType.object "java/lang/String"))).before args0 about1 = true := code_word (m := ⟨4, 1⟩) (meth := k4m1) (c := k4c1) (by decide +kernel) rfl rfl rfl (by decide +kernel)
set_option maxRecDepth 65536 in
theorem w_c10 : (Jvm.Cond.code ({ cls := "com/example/tenorbook/tenorbook/model/Command$EnterOrder", name := "ref", desc := "()Ljava/lang/String;" } : Jvm.MethodName) prog_45_method_11_code (1 : Nat) (Option.some (Jvm.ClassFile.FieldType.object "java/lang/String"))).before args0 about1 = true := code_word (m := ⟨4, 4⟩) (meth := k4m4) (c := k4c4) (by decide +kernel) rfl rfl rfl (by decide +kernel)
set_option maxRecDepth 65536 in
theorem w_c11 : (Jvm.Cond.code ({ cls := "com/example/tenorbook/tenorbook/model/Command$EnterOrder", name := "expiry", desc := "()Ljava/time/LocalDate;" } : Jvm.MethodName) prog_45_method_12_code (1 : Nat) (Option.some (Jvm.ClassFile.FieldType.object "java/time/LocalDate"))).before args0 about1 = true := code_word (m := ⟨4, 5⟩) (meth := k4m5) (c := k4c5) (by decide +kernel) rfl rfl rfl (by decide +kernel)
set_option maxRecDepth 65536 in
theorem w_c12 : (Jvm.Cond.code ({ cls := "com/example/tenorbook/tenorbook/engine/Ranking", name := "<init>", desc := "(Z)V" } : Jvm.MethodName) prog_27_method_1_code (2 : Nat) (Option.none : Option Jvm.ClassFile.FieldType)).before args0 about1 = true := code_word (m := ⟨13, 0⟩) (meth := k13m0) (c := k13c0) (by decide +kernel) rfl rfl rfl (by decide +kernel)
set_option maxRecDepth 65536 in
theorem w_c13 : (Jvm.Cond.code ({ cls := "com/example/tenorbook/tenorbook/engine/RankingFirstPinLaw", name := "pick", desc := "(Z[J[JII)I" } : Jvm.MethodName) method_4_code (6 : Nat) (Option.some Jvm.ClassFile.FieldType.int)).before args0 about1 = true := code_word (m := ⟨1, 3⟩) (meth := k1m3) (c := k1c3) (by decide +kernel) rfl rfl rfl (by decide +kernel)
set_option maxRecDepth 65536 in
theorem w_c14 : (Jvm.Cond.code ({ cls := "com/example/tenorbook/tenorbook/engine/Ranking", name := "first", desc := "()Lcom/example/tenorbook/tenorbook/engine/Order;" } : Jvm.MethodName) prog_27_method_3_code (1 : Nat) (Option.some (Jvm.ClassFile.FieldType.object "com/example/tenorbook/tenorbook/engine/Order"))).before args0 about1 = true := code_word (m := ⟨13, 1⟩) (meth := k13m1) (c := k13c1) (by decide +kernel) rfl rfl rfl (by decide +kernel)
set_option maxRecDepth 65536 in
theorem w_c15 : (Jvm.Cond.code ({ cls := "com/example/tenorbook/tenorbook/engine/Ranking", name := "add", desc := "(Lcom/example/tenorbook/tenorbook/engine/Order;)V" } : Jvm.MethodName) prog_27_method_5_code (5 : Nat) (Option.none : Option Jvm.ClassFile.FieldType)).before args0 about1 = true := code_word (m := ⟨13, 2⟩) (meth := k13m2) (c := k13c2) (by decide +kernel) rfl rfl rfl (by decide +kernel)
set_option maxRecDepth 65536 in
theorem w_c16 : (Jvm.Cond.code ({ cls := "com/example/tenorbook/tenorbook/engine/Ranking", name := "insertBlock", desc := "(I)V" } : Jvm.MethodName) prog_27_method_18_code (3 : Nat) (Option.none : Option Jvm.ClassFile.FieldType)).before args0 about1 = true := code_word (m := ⟨13, 12⟩) (meth := k13m12) (c := k13c12) (by decide +kernel) rfl rfl rfl (by decide +kernel)
set_option maxRecDepth 65536 in
theorem w_c17 : (Jvm.Cond.code ({ cls := "com/example/tenorbook/tenorbook/engine/Ranking$Block", name := "<init>", desc := "()V" } : Jvm.MethodName) prog_28_method_1_code (1 : Nat) (Option.none : Option Jvm.ClassFile.FieldType)).before args0 about1 = true := code_word (m := ⟨14, 0⟩) (meth := k14m0) (c := k14c0) (by decide +kernel) rfl rfl rfl (by decide +kernel)
set_option maxRecDepth 65536 in
theorem w_c18 : (Jvm.Cond.code ({ cls := "com/example/tenorbook/tenorbook/engine/Ranking", name := "blockOf", desc := "(Lcom/example/tenorbook/tenorbook/engine/Order;)I" } : Jvm.MethodName) prog_27_method_13_code (5 : Nat) (Option.some Jvm.ClassFile.FieldType.int)).before args0 about1 = true := code_word (m := ⟨13, 9⟩) (meth := k13m9) (c := k13c9) (by decide +kernel) rfl rfl rfl (by decide +kernel)
set_option maxRecDepth 65536 in
theorem w_c19 : (Jvm.Cond.code ({ cls := "com/example/tenorbook/tenorbook/engine/Ranking", name := "placeIn", desc := "(Lcom/example/tenorbook/tenorbook/engine/Ranking$Block;Lcom/example/tenorbook/tenorbook/engine/Order;)I" } : Jvm.MethodName) prog_27_method_14_code (6 : Nat) (Option.some Jvm.ClassFile.FieldType.int)).before args0 about1 = true := code_word (m := ⟨13, 10⟩) (meth := k13m10) (c := k13c10) (by decide +kernel) rfl rfl rfl (by decide +kernel)
set_option maxRecDepth 65536 in
theorem w_c20 : (Jvm.Cond.code ({ cls := "com/example/tenorbook/tenorbook/engine/Ranking$Block", name := "open", desc := "(I)V" } : Jvm.MethodName) prog_28_method_2_code (2 : Nat) (Option.none : Option Jvm.ClassFile.FieldType)).before args0 about1 = true := code_word (m := ⟨14, 1⟩) (meth := k14m1) (c := k14c1) (by decide +kernel) rfl rfl rfl (by decide +kernel)
set_option maxRecDepth 65536 in
theorem w_c21 : (Jvm.Cond.code ({ cls := "com/example/tenorbook/tenorbook/engine/Ranking$Block", name := "shift", desc := "(III)V" } : Jvm.MethodName) prog_28_method_5_code (6 : Nat) (Option.none : Option Jvm.ClassFile.FieldType)).before args0 about1 = true := code_word (m := ⟨14, 4⟩) (meth := k14m4) (c := k14c4) (by decide +kernel) rfl rfl rfl (by decide +kernel)
set_option maxRecDepth 65536 in
theorem w_c22 : (Jvm.Cond.code ({ cls := "com/example/tenorbook/tenorbook/engine/Ranking$Block", name := "put", desc := "(ILcom/example/tenorbook/tenorbook/engine/Order;)V" } : Jvm.MethodName) prog_28_method_3_code (3 : Nat) (Option.none : Option Jvm.ClassFile.FieldType)).before args0 about1 = true := code_word (m := ⟨14, 2⟩) (meth := k14m2) (c := k14c2) (by decide +kernel) rfl rfl rfl (by decide +kernel)
set_option maxRecDepth 65536 in
theorem w_c23 : (Jvm.Cond.code ({ cls := "com/example/tenorbook/tenorbook/engine/Order", name := "ticks", desc := "()J" } : Jvm.MethodName) prog_22_method_7_code (1 : Nat) (Option.some Jvm.ClassFile.FieldType.long)).before args0 about1 = true := code_word (m := ⟨12, 2⟩) (meth := k12m2) (c := k12c2) (by decide +kernel) rfl rfl rfl (by decide +kernel)
set_option maxRecDepth 65536 in
theorem w_c24 : (Jvm.Cond.code ({ cls := "com/example/tenorbook/tenorbook/engine/Order", name := "number", desc := "()J" } : Jvm.MethodName) prog_22_method_3_code (1 : Nat) (Option.some Jvm.ClassFile.FieldType.long)).before args0 about1 = true := code_word (m := ⟨12, 1⟩) (meth := k12m1) (c := k12c1) (by decide +kernel) rfl rfl rfl (by decide +kernel)
set_option maxRecDepth 65536 in
theorem w_c25 : (Jvm.Cond.code ({ cls := "com/example/tenorbook/tenorbook/engine/Ranking", name := "link", desc := "(II)V" } : Jvm.MethodName) prog_27_method_9_code (5 : Nat) (Option.none : Option Jvm.ClassFile.FieldType)).before args0 about1 = true := code_word (m := ⟨13, 5⟩) (meth := k13m5) (c := k13c5) (by decide +kernel) rfl rfl rfl (by decide +kernel)
set_option maxRecDepth 65536 in
theorem w_c26 : (Jvm.Cond.code ({ cls := "com/example/tenorbook/tenorbook/engine/Ranking", name := "orderBefore", desc := "(II)Lcom/example/tenorbook/tenorbook/engine/Order;" } : Jvm.MethodName) prog_27_method_11_code (5 : Nat) (Option.some (Jvm.ClassFile.FieldType.object "com/example/tenorbook/tenorbook/engine/Order"))).before args0 about1 = true := code_word (m := ⟨13, 7⟩) (meth := k13m7) (c := k13c7) (by decide +kernel) rfl rfl rfl (by decide +kernel)
set_option maxRecDepth 65536 in
theorem w_c27 : (Jvm.Cond.code ({ cls := "com/example/tenorbook/tenorbook/engine/Ranking", name := "firstOf", desc := "(I)Lcom/example/tenorbook/tenorbook/engine/Order;" } : Jvm.MethodName) prog_27_method_12_code (2 : Nat) (Option.some (Jvm.ClassFile.FieldType.object "com/example/tenorbook/tenorbook/engine/Order"))).before args0 about1 = true := code_word (m := ⟨13, 8⟩) (meth := k13m8) (c := k13c8) (by decide +kernel) rfl rfl rfl (by decide +kernel)
set_option maxRecDepth 65536 in
theorem w_c28 : (Jvm.Cond.code ({ cls := "com/example/tenorbook/tenorbook/engine/Ranking", name := "remove", desc := "(Lcom/example/tenorbook/tenorbook/engine/Order;)V" } : Jvm.MethodName) prog_27_method_7_code (5 : Nat) (Option.none : Option Jvm.ClassFile.FieldType)).before args0 about1 = true := code_word (m := ⟨13, 3⟩) (meth := k13m3) (c := k13c3) (by decide +kernel) rfl rfl rfl (by decide +kernel)
set_option maxRecDepth 65536 in
theorem w_c29 : (Jvm.Cond.code ({ cls := "com/example/tenorbook/tenorbook/engine/Ranking", name := "placeOf", desc := "(Lcom/example/tenorbook/tenorbook/engine/Ranking$Block;Lcom/example/tenorbook/tenorbook/engine/Order;)I" } : Jvm.MethodName) prog_27_method_15_code (4 : Nat) (Option.some Jvm.ClassFile.FieldType.int)).before args0 about1 = true := code_word (m := ⟨13, 11⟩) (meth := k13m11) (c := k13c11) (by decide +kernel) rfl rfl rfl (by decide +kernel)
set_option maxRecDepth 65536 in
theorem w_c30 : (Jvm.Cond.code ({ cls := "com/example/tenorbook/tenorbook/engine/Ranking", name := "unlink", desc := "(II)V" } : Jvm.MethodName) prog_27_method_10_code (5 : Nat) (Option.none : Option Jvm.ClassFile.FieldType)).before args0 about1 = true := code_word (m := ⟨13, 6⟩) (meth := k13m6) (c := k13c6) (by decide +kernel) rfl rfl rfl (by decide +kernel)
set_option maxRecDepth 65536 in
theorem w_c31 : (Jvm.Cond.code ({ cls := "com/example/tenorbook/tenorbook/engine/Ranking$Block", name := "close", desc := "(I)V" } : Jvm.MethodName) prog_28_method_4_code (2 : Nat) (Option.none : Option Jvm.ClassFile.FieldType)).before args0 about1 = true := code_word (m := ⟨14, 3⟩) (meth := k14m3) (c := k14c3) (by decide +kernel) rfl rfl rfl (by decide +kernel)
set_option maxRecDepth 65536 in
theorem w_c32 : (Jvm.Cond.code ({ cls := "com/example/tenorbook/tenorbook/engine/Ranking", name := "removeBlock", desc := "(I)V" } : Jvm.MethodName) prog_27_method_19_code (3 : Nat) (Option.none : Option Jvm.ClassFile.FieldType)).before args0 about1 = true := code_word (m := ⟨13, 13⟩) (meth := k13m13) (c := k13c13) (by decide +kernel) rfl rfl rfl (by decide +kernel)
set_option maxRecDepth 65536 in
theorem w_c33 : (Jvm.Cond.code ({ cls := "com/example/tenorbook/tenorbook/engine/Ranking", name := "before", desc := "(Lcom/example/tenorbook/tenorbook/engine/Ranking$Block;ILcom/example/tenorbook/tenorbook/engine/Order;)Z" } : Jvm.MethodName) prog_27_method_8_code (6 : Nat) (Option.some Jvm.ClassFile.FieldType.boolean)).before args0 about1 = true := code_word (m := ⟨13, 4⟩) (meth := k13m4) (c := k13c4) (by decide +kernel) rfl rfl rfl (by decide +kernel)
set_option maxRecDepth 65536 in
theorem w_c34 : (Jvm.Cond.code ({ cls := "com/example/tenorbook/tenorbook/engine/RankingFirstPinLaw", name := "better", desc := "(Z[J[JII)Z" } : Jvm.MethodName) method_3_code (5 : Nat) (Option.some Jvm.ClassFile.FieldType.boolean)).before args0 about1 = true := code_word (m := ⟨1, 2⟩) (meth := k1m2) (c := k1c2) (by decide +kernel) rfl rfl rfl (by decide +kernel)
set_option maxRecDepth 65536 in
theorem w_c35 : (Jvm.Cond.code ({ cls := "com/example/tenorbook/tenorbook/engine/Ranking$Block", name := "move", desc := "(II)V" } : Jvm.MethodName) prog_28_method_6_code (3 : Nat) (Option.none : Option Jvm.ClassFile.FieldType)).before args0 about1 = true := code_word (m := ⟨14, 5⟩) (meth := k14m5) (c := k14c5) (by decide +kernel) rfl rfl rfl (by decide +kernel)
def codes1 : List Jvm.Cond := [Jvm.Cond.code x code maxLocals ret, Jvm.Cond.code ({ cls := "java/lang/Long", name := "valueOf", desc := "(J)Ljava/lang/Long;" } : Jvm.MethodName) jdk_35_method_24_code (3 : Nat) (Option.some (Jvm.ClassFile.FieldType.object "java/lang/Long")), Jvm.Cond.code ({ cls := "com/example/tenorbook/tenorbook/model/Command$EnterOrder", name := "<init>", desc := "(Ljava/lang/String;Ljava/lang/String;Ljava/lang/String;Ljava/lang/String;Ljava/lang/Long;Ljava/math/BigDecimal;Ljava/lang/String;Ljava/time/LocalDate;)V" } : Jvm.MethodName) prog_45_method_1_code (9 : Nat) (Option.none : Option Jvm.ClassFile.FieldType), Jvm.Cond.code ({ cls := "java/lang/Record", name := "<init>", desc := "()V" } : Jvm.MethodName) jdk_30_method_1_code (1 : Nat) (Option.none : Option Jvm.ClassFile.FieldType), Jvm.Cond.code ({ cls := "java/lang/Object", name := "<init>", desc := "()V" } : Jvm.MethodName) object_method_1_code (1 : Nat) (Option.none : Option Jvm.ClassFile.FieldType), Jvm.Cond.code ({ cls := "com/example/tenorbook/tenorbook/engine/Order", name := "<init>", desc := "(Lcom/example/tenorbook/tenorbook/engine/OrderBook;JLcom/example/tenorbook/tenorbook/model/Side;JLcom/example/tenorbook/tenorbook/model/Command$EnterOrder;)V" } : Jvm.MethodName) prog_22_method_1_code (8 : Nat) (Option.none : Option Jvm.ClassFile.FieldType), Jvm.Cond.code ({ cls := "com/example/tenorbook/tenorbook/model/Command$EnterOrder", name := "participant", desc := "()Ljava/lang/String;" } : Jvm.MethodName) prog_45_method_6_code (1 : Nat) (Option.some (Jvm.ClassFile.FieldType.object "java/lang/String")), Jvm.Cond.code ({ cls := "com/example/tenorbook/tenorbook/model/Command$EnterOrder", name := "size", desc := "()Ljava/lang/Long;" } : Jvm.MethodName) prog_45_method_9_code (1 : Nat) (Option.some (Jvm.ClassFile.FieldType.object "java/lang/Long")), Jvm.Cond.code ({ cls := "java/lang/Long", name := "longValue", desc := "()J" } : Jvm.MethodName) jdk_35_method_31_code (1 : Nat) (Option.some Jvm.ClassFile.FieldType.long), Jvm.Cond.code ({ cls := "com/example/tenorbook/tenorbook/model/Command$EnterOrder", name := "time", desc := "()Ljava/lang/String;" } : Jvm.MethodName) prog_45_method_5_code (1 : Nat) (Option.some (Jvm.ClassFile.FieldType.object "java/lang/String")), Jvm.Cond.code ({ cls := "com/example/tenorbook/tenorbook/model/Command$EnterOrder", name := "ref", desc := "()Ljava/lang/String;" } : Jvm.MethodName) prog_45_method_11_code (1 : Nat) (Option.some (Jvm.ClassFile.FieldType.object "java/lang/String")), Jvm.Cond.code ({ cls := "com/example/tenorbook/tenorbook/model/Command$EnterOrder", name := "expiry", desc := "()Ljava/time/LocalDate;" } : Jvm.MethodName) prog_45_method_12_code (1 : Nat) (Option.some (Jvm.ClassFile.FieldType.object "java/time/LocalDate")), Jvm.Cond.code ({ cls := "com/example/tenorbook/tenorbook/engine/Ranking", name := "<init>", desc := "(Z)V" } : Jvm.MethodName) prog_27_method_1_code (2 : Nat) (Option.none : Option Jvm.ClassFile.FieldType), Jvm.Cond.code ({ cls := "com/example/tenorbook/tenorbook/engine/RankingFirstPinLaw", name := "pick", desc := "(Z[J[JII)I" } : Jvm.MethodName) method_4_code (6 : Nat) (Option.some Jvm.ClassFile.FieldType.int), Jvm.Cond.code ({ cls := "com/example/tenorbook/tenorbook/engine/Ranking", name := "first", desc := "()Lcom/example/tenorbook/tenorbook/engine/Order;" } : Jvm.MethodName) prog_27_method_3_code (1 : Nat) (Option.some (Jvm.ClassFile.FieldType.object "com/example/tenorbook/tenorbook/engine/Order")), Jvm.Cond.code ({ cls := "com/example/tenorbook/tenorbook/engine/Ranking", name := "add", desc := "(Lcom/example/tenorbook/tenorbook/engine/Order;)V" } : Jvm.MethodName) prog_27_method_5_code (5 : Nat) (Option.none : Option Jvm.ClassFile.FieldType), Jvm.Cond.code ({ cls := "com/example/tenorbook/tenorbook/engine/Ranking", name := "insertBlock", desc := "(I)V" } : Jvm.MethodName) prog_27_method_18_code (3 : Nat) (Option.none : Option Jvm.ClassFile.FieldType), Jvm.Cond.code ({ cls := "com/example/tenorbook/tenorbook/engine/Ranking$Block", name := "<init>", desc := "()V" } : Jvm.MethodName) prog_28_method_1_code (1 : Nat) (Option.none : Option Jvm.ClassFile.FieldType), Jvm.Cond.code ({ cls := "com/example/tenorbook/tenorbook/engine/Ranking", name := "blockOf", desc := "(Lcom/example/tenorbook/tenorbook/engine/Order;)I" } : Jvm.MethodName) prog_27_method_13_code (5 : Nat) (Option.some Jvm.ClassFile.FieldType.int), Jvm.Cond.code ({ cls := "com/example/tenorbook/tenorbook/engine/Ranking", name := "placeIn", desc := "(Lcom/example/tenorbook/tenorbook/engine/Ranking$Block;Lcom/example/tenorbook/tenorbook/engine/Order;)I" } : Jvm.MethodName) prog_27_method_14_code (6 : Nat) (Option.some Jvm.ClassFile.FieldType.int), Jvm.Cond.code ({ cls := "com/example/tenorbook/tenorbook/engine/Ranking$Block", name := "open", desc := "(I)V" } : Jvm.MethodName) prog_28_method_2_code (2 : Nat) (Option.none : Option Jvm.ClassFile.FieldType), Jvm.Cond.code ({ cls := "com/example/tenorbook/tenorbook/engine/Ranking$Block", name := "shift", desc := "(III)V" } : Jvm.MethodName) prog_28_method_5_code (6 : Nat) (Option.none : Option Jvm.ClassFile.FieldType), Jvm.Cond.code ({ cls := "com/example/tenorbook/tenorbook/engine/Ranking$Block", name := "put", desc := "(ILcom/example/tenorbook/tenorbook/engine/Order;)V" } : Jvm.MethodName) prog_28_method_3_code (3 : Nat) (Option.none : Option Jvm.ClassFile.FieldType), Jvm.Cond.code ({ cls := "com/example/tenorbook/tenorbook/engine/Order", name := "ticks", desc := "()J" } : Jvm.MethodName) prog_22_method_7_code (1 : Nat) (Option.some Jvm.ClassFile.FieldType.long), Jvm.Cond.code ({ cls := "com/example/tenorbook/tenorbook/engine/Order", name := "number", desc := "()J" } : Jvm.MethodName) prog_22_method_3_code (1 : Nat) (Option.some Jvm.ClassFile.FieldType.long), Jvm.Cond.code ({ cls := "com/example/tenorbook/tenorbook/engine/Ranking", name := "link", desc := "(II)V" } : Jvm.MethodName) prog_27_method_9_code (5 : Nat) (Option.none : Option Jvm.ClassFile.FieldType), Jvm.Cond.code ({ cls := "com/example/tenorbook/tenorbook/engine/Ranking", name := "orderBefore", desc := "(II)Lcom/example/tenorbook/tenorbook/engine/Order;" } : Jvm.MethodName) prog_27_method_11_code (5 : Nat) (Option.some (Jvm.ClassFile.FieldType.object "com/example/tenorbook/tenorbook/engine/Order")), Jvm.Cond.code ({ cls := "com/example/tenorbook/tenorbook/engine/Ranking", name := "firstOf", desc := "(I)Lcom/example/tenorbook/tenorbook/engine/Order;" } : Jvm.MethodName) prog_27_method_12_code (2 : Nat) (Option.some (Jvm.ClassFile.FieldType.object "com/example/tenorbook/tenorbook/engine/Order")), Jvm.Cond.code ({ cls := "com/example/tenorbook/tenorbook/engine/Ranking", name := "remove", desc := "(Lcom/example/tenorbook/tenorbook/engine/Order;)V" } : Jvm.MethodName) prog_27_method_7_code (5 : Nat) (Option.none : Option Jvm.ClassFile.FieldType), Jvm.Cond.code ({ cls := "com/example/tenorbook/tenorbook/engine/Ranking", name := "placeOf", desc := "(Lcom/example/tenorbook/tenorbook/engine/Ranking$Block;Lcom/example/tenorbook/tenorbook/engine/Order;)I" } : Jvm.MethodName) prog_27_method_15_code (4 : Nat) (Option.some Jvm.ClassFile.FieldType.int), Jvm.Cond.code ({ cls := "com/example/tenorbook/tenorbook/engine/Ranking", name := "unlink", desc := "(II)V" } : Jvm.MethodName) prog_27_method_10_code (5 : Nat) (Option.none : Option Jvm.ClassFile.FieldType), Jvm.Cond.code ({ cls := "com/example/tenorbook/tenorbook/engine/Ranking$Block", name := "close", desc := "(I)V" } : Jvm.MethodName) prog_28_method_4_code (2 : Nat) (Option.none : Option Jvm.ClassFile.FieldType), Jvm.Cond.code ({ cls := "com/example/tenorbook/tenorbook/engine/Ranking", name := "removeBlock", desc := "(I)V" } : Jvm.MethodName) prog_27_method_19_code (3 : Nat) (Option.none : Option Jvm.ClassFile.FieldType), Jvm.Cond.code ({ cls := "com/example/tenorbook/tenorbook/engine/Ranking", name := "before", desc := "(Lcom/example/tenorbook/tenorbook/engine/Ranking$Block;ILcom/example/tenorbook/tenorbook/engine/Order;)Z" } : Jvm.MethodName) prog_27_method_8_code (6 : Nat) (Option.some Jvm.ClassFile.FieldType.boolean), Jvm.Cond.code ({ cls := "com/example/tenorbook/tenorbook/engine/RankingFirstPinLaw", name := "better", desc := "(Z[J[JII)Z" } : Jvm.MethodName) method_3_code (5 : Nat) (Option.some Jvm.ClassFile.FieldType.boolean), Jvm.Cond.code ({ cls := "com/example/tenorbook/tenorbook/engine/Ranking$Block", name := "move", desc := "(II)V" } : Jvm.MethodName) prog_28_method_6_code (3 : Nat) (Option.none : Option Jvm.ClassFile.FieldType)]
set_option maxRecDepth 65536 in
theorem codes_eq : words1.filter isCode = codes1 := rfl
theorem w_codes : ∀ c ∈ words1.filter isCode, c.before args0 about1 = true := by
  rw [codes_eq]
  intro c hc
  simp only [codes1, List.mem_cons, List.not_mem_nil, or_false] at hc
  rcases hc with rfl | rfl | rfl | rfl | rfl | rfl | rfl | rfl | rfl | rfl | rfl | rfl | rfl | rfl | rfl | rfl | rfl | rfl | rfl | rfl | rfl | rfl | rfl | rfl | rfl | rfl | rfl | rfl | rfl | rfl | rfl | rfl | rfl | rfl | rfl | rfl
  · exact w_c0
  · exact w_c1
  · exact w_c2
  · exact w_c3
  · exact w_c4
  · exact w_c5
  · exact w_c6
  · exact w_c7
  · exact w_c8
  · exact w_c9
  · exact w_c10
  · exact w_c11
  · exact w_c12
  · exact w_c13
  · exact w_c14
  · exact w_c15
  · exact w_c16
  · exact w_c17
  · exact w_c18
  · exact w_c19
  · exact w_c20
  · exact w_c21
  · exact w_c22
  · exact w_c23
  · exact w_c24
  · exact w_c25
  · exact w_c26
  · exact w_c27
  · exact w_c28
  · exact w_c29
  · exact w_c30
  · exact w_c31
  · exact w_c32
  · exact w_c33
  · exact w_c34
  · exact w_c35
set_option maxRecDepth 65536 in
theorem w_t1 : (words1.take 24).all (fun c => isCode c || c.before args0 about1) = true := by decide +kernel
set_option maxRecDepth 65536 in
theorem w_t2 : ((words1.drop 24).take 24).all (fun c => isCode c || c.before args0 about1) = true := by decide +kernel
set_option maxRecDepth 65536 in
theorem w_t3 : (((words1.drop 24).drop 24).take 24).all (fun c => isCode c || c.before args0 about1) = true := by decide +kernel
set_option maxRecDepth 65536 in
theorem w_t4 : ((((words1.drop 24).drop 24).drop 24).take 24).all (fun c => isCode c || c.before args0 about1) = true := by decide +kernel
set_option maxRecDepth 65536 in
theorem w_t5 : (((((words1.drop 24).drop 24).drop 24).drop 24).take 24).all (fun c => isCode c || c.before args0 about1) = true := by decide +kernel
set_option maxRecDepth 65536 in
theorem w_t6 : ((((((words1.drop 24).drop 24).drop 24).drop 24).drop 24).take 24).all (fun c => isCode c || c.before args0 about1) = true := by decide +kernel
set_option maxRecDepth 65536 in
theorem w_t7 : (((((((words1.drop 24).drop 24).drop 24).drop 24).drop 24).drop 24).take 24).all (fun c => isCode c || c.before args0 about1) = true := by decide +kernel
set_option maxRecDepth 65536 in
theorem w_t8 : ((((((((words1.drop 24).drop 24).drop 24).drop 24).drop 24).drop 24).drop 24).take 24).all (fun c => isCode c || c.before args0 about1) = true := by decide +kernel
set_option maxRecDepth 65536 in
theorem w_t9 : (((((((((words1.drop 24).drop 24).drop 24).drop 24).drop 24).drop 24).drop 24).drop 24).take 24).all (fun c => isCode c || c.before args0 about1) = true := by decide +kernel
set_option maxRecDepth 65536 in
theorem w_t10 : (((((((((words1.drop 24).drop 24).drop 24).drop 24).drop 24).drop 24).drop 24).drop 24).drop 24).all (fun c => isCode c || c.before args0 about1) = true := by decide +kernel
theorem w_tables : (allAtoms (Jvm.Cond.code x code maxLocals ret :: tables_1)).before args0 about1 = true := by
  rw [allAtoms_all]
  show words1.all (fun c => c.before args0 about1) = true
  refine all_split ?_ w_codes
  rw [← List.take_append_drop 24 words1, List.all_append, w_t1, ← List.take_append_drop 24 (words1.drop 24), List.all_append, w_t2, ← List.take_append_drop 24 ((words1.drop 24).drop 24), List.all_append, w_t3, ← List.take_append_drop 24 (((words1.drop 24).drop 24).drop 24), List.all_append, w_t4, ← List.take_append_drop 24 ((((words1.drop 24).drop 24).drop 24).drop 24), List.all_append, w_t5, ← List.take_append_drop 24 (((((words1.drop 24).drop 24).drop 24).drop 24).drop 24), List.all_append, w_t6, ← List.take_append_drop 24 ((((((words1.drop 24).drop 24).drop 24).drop 24).drop 24).drop 24), List.all_append, w_t7, ← List.take_append_drop 24 (((((((words1.drop 24).drop 24).drop 24).drop 24).drop 24).drop 24).drop 24), List.all_append, w_t8, ← List.take_append_drop 24 ((((((((words1.drop 24).drop 24).drop 24).drop 24).drop 24).drop 24).drop 24).drop 24), List.all_append, w_t9, w_t10]
  rfl
set_option maxRecDepth 65536 in
theorem w_rest : rest_1_c.before args0 about1 = true := by decide +kernel
set_option maxRecDepth 65536 in
theorem w_case : (Jvm.Cond.and given_1 narrow_1).before args0 about1 = true := by decide +kernel
theorem w_applies : (headSpec (Jvm.Cond.code x code maxLocals ret :: tables_1) room_1).applies x e0.platform about1 = true :=
  (Spec.applies_iff w_frames).mpr ⟨w_running, w_runnable, w_alone, w_named, w_hears, w_ripe, w_room, w_tables⟩
theorem atStart : AtStart classFile x code maxLocals ret World_1 tables_1 room_1 Calls_1 rest_1 Pre_1 launch0 p0 e0 about1 theMethod args0 below0 :=
  ⟨lists_1, trivial, launch0.admits_env _ _ _, launch0.least_env, fairChoices_fair.cas, fairChoices_fair.clock, w_frames, w_args, w_heap, w_applies, trivial, w_rest, w_case⟩
end start1
theorem witness_1 : WitnessClaimed_1 := ⟨start1.p0, start1.e0, start1.about1, start1.theMethod, start1.args0, start1.below0, start1.atStart⟩
end Jvm.Pilot.@@N@@
