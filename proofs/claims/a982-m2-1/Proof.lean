import JvmDerived
import JvmDerived.Pilot.@@N@@Statement
import JvmDerived.Pilot.@@N@@Code
set_option linter.unusedVariables false
set_option linter.unusedSimpArgs false
namespace Jvm.Pilot.@@N@@
open Jvm Jvm.ClassFile Sem Op Lib Jvm.Free Jvm.Stand Jvm.LawKit Jvm.RoadKit Bundle Jvm.Pilot.@@N@@.Jvm.D
/-- from S the run comes to a state that P allows -/
def Comes (p : Program) (e : Env) (below : List Frame) (P : State → Prop) (S : State) : Prop := ∃ S', Steps p.tables e below S S' ∧ P S'
/-- how a body ends that Q allows -/
def EndsAt (below : List Frame) (s : State) (Q : Option Value → Heap → List Loc → Prop) (kc ks : Nat) (s₂ : State) : Prop := ∃ o, s₂.status = .running ∧ Ended s₂ below o ∧ ∃ v L, o = .returned v ∧ Q v s₂.heap L ∧ FrameEnd s o s₂ L kc ks
/-- an array of ints, its content a function -/
def Ari (Z : State) (h : Heap) (a : Nat) (n : Nat) (f : Nat → Int32) : Prop := ∃ c : Cell, Arr Z h a c .int ∧ c.slots.size = n ∧ ∀ i, i < n → c.slots[i]? = some (.int (f i))
section OwnAri
variable {Z : State} {h h' : Heap} {a b n sl : Nat} {f : Nat → Int32} {v : Value} {ws : List Addr}
theorem Ari.lt (F : Ari Z h a n f) : a < h.size := by obtain ⟨c, A, -⟩ := F; exact A.lt
theorem Ari.ext (F : Ari Z h a n f) (E : Ext h h') : Ari Z h' a n f := by obtain ⟨c, A, r⟩ := F; exact ⟨c, A.ext E, r⟩
theorem Ari.other (F : Ari Z h b n f) (W : Wr h h' a sl v) (q : b ≠ a) : Ari Z h' b n f := by obtain ⟨c, A, r⟩ := F; exact ⟨c, A.other W q, r⟩
theorem Ari.keep (F : Ari Z h a n f) (K : Keep h h' ws) (q : a ∉ ws) : Ari Z h' a n f := by obtain ⟨c, A, r⟩ := F; exact ⟨c, ⟨K.2.1 a c A.1 q, A.2⟩, r⟩
theorem Ari.new {k : ClassId} {z : Int32} (A : Arr Z h a (newA k .int z) .int) (q : z.toNatClampNeg = n) : Ari Z h a n (fun _ => 0) := by
  refine ⟨_, A, by rw [sz_new, q], fun i hi => ?_⟩
  simp [newA, q, hi, defaultValue]
theorem Ari.set {c : Cell} (A : Arr Z h a c .int) (S : c.slots.size = n) (H : ∀ i, i < n → c.slots[i]? = some (.int (f i))) {j x : Int32} {k : Nat} (W : Wr h h' a j.toNatClampNeg (.int x)) (hk : j.toNatClampNeg = k) : Ari Z h' a n (fun i => if i = k then x else f i) := by
  subst hk
  refine ⟨_, A.same W, by rw [sz_set]; exact S, fun i hi => ?_⟩
  by_cases q : i = j.toNatClampNeg
  · subst q; simp [Cell.setSlot, S, hi]
  · show _ = some (Value.int (if i = j.toNatClampNeg then x else f i))
    rw [if_neg q, ← H i hi]; exact Array.getElem?_setIfInBounds_ne (fun z => q z.symm)
end OwnAri
section Own
variable {p : Program} {l : Launch} {e : Env} {R : Room} {s : State} {m : MethodId} {args : Array Value} {below : List Frame} {meth : Method} {c : Code} {T : State} {locs : List Loc} {cells slots : Nat} {Q : Option Value → Heap → List Loc → Prop} {kc ks : Nat} {P : State → Prop} {S S' : State} {h : Heap}
theorem Comes.here (q : P S) : Comes p e below P S := ⟨S, Steps.refl _, q⟩
theorem Comes.st (f : ∀ t, Steps p.tables e below S' t → Steps p.tables e below S t) (g : Comes p e below P S') : Comes p e below P S := by
  obtain ⟨s₂, h1, r⟩ := g; exact ⟨s₂, f _ h1, r⟩
theorem Comes.go (f : Steps p.tables e below S S') (g : Comes p e below P S') : Comes p e below P S := by
  obtain ⟨s₂, h1, r⟩ := g; exact ⟨s₂, f.trans h1, r⟩
theorem Comes.cast {g g' : JFrame} (q : g = g') (k : Comes p e below P (T.setTop g')) : Comes p e below P (T.setTop g) := q ▸ k
theorem Comes.out (h : Comes p e below (EndsAt below s Q kc ks) S) : ∃ s₂ o, Steps p.tables e below S s₂ ∧ s₂.status = .running ∧ Ended s₂ below o ∧ ∃ v L, o = .returned v ∧ Q v s₂.heap L ∧ FrameEnd s o s₂ L kc ks := by
  obtain ⟨s₂, h1, o, r⟩ := h; exact ⟨s₂, o, h1, r⟩
theorem Comes.fin (X : Stand p l e R s m args below meth c T locs cells slots) {v : Option Value} (hv : meth.sig.returnType = none → v = none) (hlk : meth.locks = false)
    (hs : ∀ fs, (∀ (f : JFrame) (acts : List Action), f.method = m → f.locked = none → f.entered = [] → (doReturn e (T.setTop f) acts v).1 = T.setFrames fs) → Steps p.tables e below S (T.setFrames fs))
    (eT : T.heap = h) (hq : Q v h locs) (hc : cells ≤ kc) (hl : slots ≤ ks) : Comes p e below (EndsAt below s Q kc ks) S := by
  obtain ⟨fs, hr, hrun, hended, hW, hsame⟩ := X.leave (v := v) hv hlk
  exact ⟨_, hs fs hr, _, hrun, hended, _, _, rfl, (show Q v T.heap locs from by rw [eT]; exact hq), ⟨_, rfl⟩, hW, hsame.mono hc hl⟩
theorem Comes.ret0 (X : Stand p l e R s m args below meth c T locs cells slots) (hx : p.tables.exec = Jvm.exec) {pc : Nat} {Ls : Array Slot} (hret : meth.sig.returnType = none) (hlk : meth.locks = false) (hd : decode c.code pc = .ok (.return_, 1))
    (eT : T.heap = h) (hq : Q none h locs) (hc : cells ≤ kc) (hl : slots ≤ ks) : Comes p e below (EndsAt below s Q kc ks) (T.setTop (mkF m pc Ls [])) :=
  Comes.fin X (fun _ => rfl) hlk (fun _ hr => X.returnOut hx hret hd hr) eT hq hc hl
theorem Comes.retN (X : Stand p l e R s m args below meth c T locs cells slots) (hx : p.tables.exec = Jvm.exec) {pc : Nat} {Ls : Array Slot} {z : Int32} {t : FieldType} {rest : List Value} (hret : meth.sig.returnType = some t) (ht : t = .boolean ∨ t = .byte ∨ t = .char ∨ t = .short) (hlk : meth.locks = false) (hd : decode c.code pc = .ok (.ireturn, 1))
    (eT : T.heap = h) (hq : Q (some (.int (nar t z))) h locs) (hc : cells ≤ kc) (hl : slots ≤ ks) : Comes p e below (EndsAt below s Q kc ks) (T.setTop (mkF m pc Ls (.int z :: rest))) :=
  Comes.fin X (fun q => by rw [hret] at q; cases q) hlk (fun _ hr => Jvm.RoadKit.retN X hx hret ht hd hr) eT hq hc hl
theorem Comes.retV (X : Stand p l e R s m args below meth c T locs cells slots) (hx : p.tables.exec = Jvm.exec) {pc : Nat} {Ls : Array Slot} {w : Value} {t : FieldType} {i : Instr} {rest : List Value} (hret : meth.sig.returnType = some t) (hn : narrow t w = w)
    (hi : (i = .ireturn ∧ (t = .int ∨ t = .boolean ∨ t = .byte ∨ t = .char ∨ t = .short) ∧ ∃ z, w = .int z) ∨ (i = .lreturn ∧ t = .long ∧ ∃ z, w = .long z) ∨ (i = .dreturn ∧ t = .double ∧ ∃ z, w = .double z) ∨ (i = .freturn ∧ t = .float ∧ ∃ z, w = .float z) ∨ (i = .areturn ∧ t.isReference = true ∧ w.isRef = true))
    (hlk : meth.locks = false) (hd : decode c.code pc = .ok (i, 1))
    (eT : T.heap = h) (hq : Q (some w) h locs) (hc : cells ≤ kc) (hl : slots ≤ ks) : Comes p e below (EndsAt below s Q kc ks) (T.setTop (mkF m pc Ls (w :: rest))) :=
  Comes.fin X (fun q => by rw [hret] at q; cases q) hlk (fun _ hr => retOut X hx hret hn hi hd hr) eT hq hc hl
theorem narrow_ref {t : FieldType} {w : Value} (h : w.isRef = true) : narrow t w = w := by rcases ref_cases h with rfl | ⟨y, rfl⟩ <;> cases t <;> rfl
theorem lremM {g : JFrame} {target : State} (X : Stand p l e R s m args below meth c T locs cells slots) (hx : p.tables.exec = Jvm.exec) (hg : g.method = m) {x y : Int64} {rest : List Value} (hd : decode c.code g.pc = .ok (.lrem, 1)) (hs : g.stack = .long y :: .long x :: rest) (hy : ¬ y = 0)
    (hr : Steps p.tables e below (T.setTop { g with pc := g.pc + 1, stack := .long (x % y) :: rest }) target) : Steps p.tables e below (T.setTop g) target := by
  have q : x - x / y * y = x % y := lrem_mod x y
  exact XT.lrem X.here hx hg hd hs hy (by rw [q]; exact hr)
theorem own_dup2 {g : JFrame} {target : State} (X : Stand p l e R s m args below meth c T locs cells slots) (hx : p.tables.exec = Jvm.exec) (hg : g.method = m) {x y : Value} {rest : List Value} (hd : decode c.code g.pc = .ok (.dup2, 1)) (hs : g.stack = x :: y :: rest) (hcx : x.category = 1) (hcy : y.category = 1)
    (hr : Steps p.tables e below (T.setTop { g with pc := g.pc + 1, stack := x :: y :: x :: y :: rest }) target) : Steps p.tables e below (T.setTop g) target := by
  subst hg
  jvm_step X.here [X.here.top, hx, hd, hs, hcx, hcy]
  exact hr
theorem own_inb {j : Int32} {n : Nat} (h : 0 ≤ j.toInt ∧ j.toInt < (n : Int)) : ¬ (j < 0 ∨ n ≤ j.toNatClampNeg) := by
  rw [Int32.lt_iff_toInt_lt]; simp only [Int32.toNatClampNeg, Int32.reduceToInt]; omega
theorem own_lrem (x y : Int64) (d : Int) (hy : y.toInt = d) : (0 ≤ x.toInt → (x % y).toInt = x.toInt % d) ∧ (x.toInt < 0 → (x % y).toInt = -((-x.toInt) % d)) := by rw [Int64.toInt_mod, hy]; exact tr _ _
theorem own_lremV (x y : Int64) : 0 ≤ x.toInt → 0 < y.toInt → 0 ≤ (x % y).toInt ∧ (x % y).toInt < y.toInt := by
  intro h1 h2
  rw [Int64.toInt_mod, Int.tmod_eq_emod_of_nonneg h1]
  exact ⟨Int.emod_nonneg _ (by omega), Int.emod_lt_of_pos _ h2⟩
theorem own_eqi {a0 : Array Value} {Z : State} {t : Term} {k : Int32} {idx : List Nat} (h : (Jvm.Cond.eq t (Term.int k)).value a0 Z none Z idx = some true) : t.eval a0 Z none idx Z = some (.int k) := by
  obtain ⟨x, y, e1, e2, k1, k2⟩ := cmp_v (Or.inl h)
  simp only [Term.eval, Option.some.injEq] at e2
  subst e2
  obtain ⟨z, rfl⟩ := k2
  simp [Cond.value, e1, Term.eval] at h
  rw [e1, h]
theorem own_selp {a0 : Array Value} {Z : State} {y : MethodName} {n : Nat} (wi : (Jvm.Cond.instantiable y.cls n).before a0 Z = true) (wp : (Jvm.Cond.privateMethod y).before a0 Z = true) (wm : (Jvm.Cond.instanceMethod y).before a0 Z = true) (hy : y.cls ≠ "java/lang/invoke/MethodHandle" ∧ y.cls ≠ "java/lang/invoke/VarHandle") : (Jvm.Cond.selects y.cls y y).before a0 Z = true := by
  obtain ⟨c, k, h1, h2, h3, h4, -⟩ := Cond.instantiable_spec wi
  exact Jvm.Stand.selects_self_of_private h1 h2 (by simp only [Bool.or_eq_false_iff] at h4; exact h4.1) (Cond.privateMethod_at wp) wm hy
theorem own_eqr {a0 : Array Value} {Z : State} {t u : Term} {y : Value} {idx : List Nat} (h : (Jvm.Cond.eq t u).value a0 Z none Z idx = some true) (hu : u.eval a0 Z none idx Z = some y) (hy : y.isRef = true) : t.eval a0 Z none idx Z = some y := by
  obtain ⟨x, y', e1, e2, k1, k2⟩ := cmp_v (Or.inl h)
  cases hu.symm.trans e2
  have hx : x.isRef = true := by
    rcases ref_cases hy with rfl | ⟨z, rfl⟩ <;> cases x <;> simp_all [Kin, Value.isRef]
  rw [e1, gotT (eq_R e1 hu hx hy) h]
theorem own_len {a0 : Array Value} {Z : State} {t : Term} {a : Addr} {cl : Cell} {ty : FieldType} {k : Int32} (ht : t.eval a0 Z none [] Z = some (.ref a)) (A : Arr Z Z.heap a cl ty) (h : (Jvm.Cond.eq (Term.length t) (Term.int k)).value a0 Z none Z [] = some true) : cl.slots.size < 2 ^ 31 ∧ cl.slots.size.toInt32 = k := by
  have e := own_eqi h
  have e2 := A.fin (Vm.Alike.refl _)
  simp [Term.eval, ht, e2] at e
  exact ⟨by omega, e.2⟩
theorem own_elem {a0 : Array Value} {Z : State} {t u : Term} {a : Addr} {cl : Cell} {j : Int32} {y : Value} (ht : t.eval a0 Z none [] Z = some (.ref a)) (hc : Z.heap[a]? = some cl) (h : (Jvm.Cond.eq (Term.elem t (Term.int j)) u).value a0 Z none Z [] = some true) (hu : u.eval a0 Z none [] Z = some y) (hy : y.isRef = true) : cl.slots[j.toNatClampNeg]? = some y := (elem_in (own_eqr h hu hy) ht (by rfl) hc).2
theorem own_fldi {a0 : Array Value} {Z : State} {t : Term} {k : Int32} {a : Addr} {C n d : String} (ht : t.eval a0 Z none [] Z = some (.ref a)) (h : (Jvm.Cond.eq (Term.field t C n d) (Term.int k)).value a0 Z none Z [] = some true) : Fld Z Z.heap a C n d (.int k) := Fld.start ((fld_at ht).symm.trans (own_eqi h))
end Own
theorem d2_0 : decode jdk_30_method_1_code 0 = .ok (.aload_n 0, 1) := by decide +kernel
theorem d2_1 : decode jdk_30_method_1_code 1 = .ok (.invokespecial 1, 3) := by decide +kernel
theorem d2_4 : decode jdk_30_method_1_code 4 = .ok (.return_, 1) := by decide +kernel
theorem d6_0 : decode jdk_22_method_1_code 0 = .ok (.aload_n 0, 1) := by decide +kernel
theorem d6_1 : decode jdk_22_method_1_code 1 = .ok (.invokespecial 1, 3) := by decide +kernel
theorem d6_4 : decode jdk_22_method_1_code 4 = .ok (.return_, 1) := by decide +kernel
theorem d19_0 : decode jdk_18_method_1_code 0 = .ok (.aload_n 0, 1) := by decide +kernel
theorem d19_1 : decode jdk_18_method_1_code 1 = .ok (.invokespecial 1, 3) := by decide +kernel
theorem d19_4 : decode jdk_18_method_1_code 4 = .ok (.return_, 1) := by decide +kernel
theorem d1_0 : decode prog_30_method_1_code 0 = .ok (.aload_n 0, 1) := by decide +kernel
theorem d1_1 : decode prog_30_method_1_code 1 = .ok (.invokespecial 1, 3) := by decide +kernel
theorem d1_4 : decode prog_30_method_1_code 4 = .ok (.aload_n 0, 1) := by decide +kernel
theorem d1_5 : decode prog_30_method_1_code 5 = .ok (.iload_n 1, 1) := by decide +kernel
theorem d1_6 : decode prog_30_method_1_code 6 = .ok (.putfield 7, 3) := by decide +kernel
theorem d1_9 : decode prog_30_method_1_code 9 = .ok (.return_, 1) := by decide +kernel
theorem d5_0 : decode jdk_39_method_1_code 0 = .ok (.aload_n 0, 1) := by decide +kernel
theorem d5_1 : decode jdk_39_method_1_code 1 = .ok (.invokespecial 1, 3) := by decide +kernel
theorem d5_4 : decode jdk_39_method_1_code 4 = .ok (.aload_n 0, 1) := by decide +kernel
theorem d5_5 : decode jdk_39_method_1_code 5 = .ok (.iconst 0, 1) := by decide +kernel
theorem d5_6 : decode jdk_39_method_1_code 6 = .ok (.putfield 7, 3) := by decide +kernel
theorem d5_9 : decode jdk_39_method_1_code 9 = .ok (.return_, 1) := by decide +kernel
theorem d4_0 : decode jdk_38_method_2_code 0 = .ok (.aload_n 0, 1) := by decide +kernel
theorem d4_1 : decode jdk_38_method_2_code 1 = .ok (.invokespecial 1, 3) := by decide +kernel
theorem d4_4 : decode jdk_38_method_2_code 4 = .ok (.aload_n 0, 1) := by decide +kernel
theorem d4_5 : decode jdk_38_method_2_code 5 = .ok (.getstatic 39, 3) := by decide +kernel
theorem d4_8 : decode jdk_38_method_2_code 8 = .ok (.putfield 9, 3) := by decide +kernel
theorem d4_11 : decode jdk_38_method_2_code 11 = .ok (.return_, 1) := by decide +kernel
theorem d18_0 : decode jdk_33_method_23_code 0 = .ok (.aload_n 0, 1) := by decide +kernel
theorem d18_1 : decode jdk_33_method_23_code 1 = .ok (.invokespecial 202, 3) := by decide +kernel
theorem d18_4 : decode jdk_33_method_23_code 4 = .ok (.aload_n 0, 1) := by decide +kernel
theorem d18_5 : decode jdk_33_method_23_code 5 = .ok (.iload_n 1, 1) := by decide +kernel
theorem d18_6 : decode jdk_33_method_23_code 6 = .ok (.putfield 205, 3) := by decide +kernel
theorem d18_9 : decode jdk_33_method_23_code 9 = .ok (.return_, 1) := by decide +kernel
theorem d7_0 : decode jdk_33_method_22_code 0 = .ok (.iload_n 0, 1) := by decide +kernel
theorem d7_1 : decode jdk_33_method_22_code 1 = .ok (.bipush (-128), 2) := by decide +kernel
theorem d7_3 : decode jdk_33_method_22_code 3 = .ok (.if_icmp .lt 20, 3) := by decide +kernel
theorem d7_23 : decode jdk_33_method_22_code 23 = .ok (.new 1, 3) := by decide +kernel
theorem d7_26 : decode jdk_33_method_22_code 26 = .ok (.dup, 1) := by decide +kernel
theorem d7_27 : decode jdk_33_method_22_code 27 = .ok (.iload_n 0, 1) := by decide +kernel
theorem d7_28 : decode jdk_33_method_22_code 28 = .ok (.invokespecial 199, 3) := by decide +kernel
theorem d7_31 : decode jdk_33_method_22_code 31 = .ok (.areturn, 1) := by decide +kernel
theorem d7_6 : decode jdk_33_method_22_code 6 = .ok (.iload_n 0, 1) := by decide +kernel
theorem d7_7 : decode jdk_33_method_22_code 7 = .ok (.getstatic 191, 3) := by decide +kernel
theorem d7_10 : decode jdk_33_method_22_code 10 = .ok (.if_icmp .gt 13, 3) := by decide +kernel
theorem d7_13 : decode jdk_33_method_22_code 13 = .ok (.getstatic 195, 3) := by decide +kernel
theorem d7_16 : decode jdk_33_method_22_code 16 = .ok (.iload_n 0, 1) := by decide +kernel
theorem d7_17 : decode jdk_33_method_22_code 17 = .ok (.sipush 128, 3) := by decide +kernel
theorem d7_20 : decode jdk_33_method_22_code 20 = .ok (.iadd, 1) := by decide +kernel
theorem d7_21 : decode jdk_33_method_22_code 21 = .ok (.aaload, 1) := by decide +kernel
theorem d7_22 : decode jdk_33_method_22_code 22 = .ok (.areturn, 1) := by decide +kernel
theorem d12_0 : decode jdk_29_method_65_code 0 = .ok (.iload_n 0, 1) := by decide +kernel
theorem d12_1 : decode jdk_29_method_65_code 1 = .ok (.iload_n 1, 1) := by decide +kernel
theorem d12_2 : decode jdk_29_method_65_code 2 = .ok (.if_icmp .lt 7, 3) := by decide +kernel
theorem d12_5 : decode jdk_29_method_65_code 5 = .ok (.iload_n 0, 1) := by decide +kernel
theorem d12_6 : decode jdk_29_method_65_code 6 = .ok (.goto 4, 3) := by decide +kernel
theorem d12_10 : decode jdk_29_method_65_code 10 = .ok (.ireturn, 1) := by decide +kernel
theorem d11_0 : decode jdk_38_method_6_code 0 = .ok (.aload_n 0, 1) := by decide +kernel
theorem d11_1 : decode jdk_38_method_6_code 1 = .ok (.getfield 9, 3) := by decide +kernel
theorem d11_4 : decode jdk_38_method_6_code 4 = .ok (.arraylength, 1) := by decide +kernel
theorem d11_5 : decode jdk_38_method_6_code 5 = .ok (.istore_n 2, 1) := by decide +kernel
theorem d11_6 : decode jdk_38_method_6_code 6 = .ok (.iload_n 2, 1) := by decide +kernel
theorem d11_7 : decode jdk_38_method_6_code 7 = .ok (.ifCond .gt 13, 3) := by decide +kernel
theorem d11_10 : decode jdk_38_method_6_code 10 = .ok (.aload_n 0, 1) := by decide +kernel
theorem d11_11 : decode jdk_38_method_6_code 11 = .ok (.getfield 9, 3) := by decide +kernel
theorem d11_14 : decode jdk_38_method_6_code 14 = .ok (.getstatic 39, 3) := by decide +kernel
theorem d11_17 : decode jdk_38_method_6_code 17 = .ok (.if_acmp .eq 28, 3) := by decide +kernel
theorem d11_45 : decode jdk_38_method_6_code 45 = .ok (.aload_n 0, 1) := by decide +kernel
theorem d11_46 : decode jdk_38_method_6_code 46 = .ok (.bipush 10, 2) := by decide +kernel
theorem d11_48 : decode jdk_38_method_6_code 48 = .ok (.iload_n 1, 1) := by decide +kernel
theorem d11_49 : decode jdk_38_method_6_code 49 = .ok (.invokestatic 79, 3) := by decide +kernel
theorem d11_52 : decode jdk_38_method_6_code 52 = .ok (.anewarray 7, 3) := by decide +kernel
theorem d11_55 : decode jdk_38_method_6_code 55 = .ok (.dup_x1, 1) := by decide +kernel
theorem d11_56 : decode jdk_38_method_6_code 56 = .ok (.putfield 9, 3) := by decide +kernel
theorem d11_59 : decode jdk_38_method_6_code 59 = .ok (.areturn, 1) := by decide +kernel
theorem d10_0 : decode jdk_38_method_7_code 0 = .ok (.aload_n 0, 1) := by decide +kernel
theorem d10_1 : decode jdk_38_method_7_code 1 = .ok (.aload_n 0, 1) := by decide +kernel
theorem d10_2 : decode jdk_38_method_7_code 2 = .ok (.getfield 48, 3) := by decide +kernel
theorem d10_5 : decode jdk_38_method_7_code 5 = .ok (.iconst 1, 1) := by decide +kernel
theorem d10_6 : decode jdk_38_method_7_code 6 = .ok (.iadd, 1) := by decide +kernel
theorem d10_7 : decode jdk_38_method_7_code 7 = .ok (.invokevirtual 69, 3) := by decide +kernel
theorem d10_10 : decode jdk_38_method_7_code 10 = .ok (.areturn, 1) := by decide +kernel
theorem d9_0 : decode jdk_38_method_24_code 0 = .ok (.iload_n 3, 1) := by decide +kernel
theorem d9_1 : decode jdk_38_method_24_code 1 = .ok (.aload_n 2, 1) := by decide +kernel
theorem d9_2 : decode jdk_38_method_24_code 2 = .ok (.arraylength, 1) := by decide +kernel
theorem d9_3 : decode jdk_38_method_24_code 3 = .ok (.if_icmp .ne 8, 3) := by decide +kernel
theorem d9_6 : decode jdk_38_method_24_code 6 = .ok (.aload_n 0, 1) := by decide +kernel
theorem d9_7 : decode jdk_38_method_24_code 7 = .ok (.invokevirtual 129, 3) := by decide +kernel
theorem d9_10 : decode jdk_38_method_24_code 10 = .ok (.astore_n 2, 1) := by decide +kernel
theorem d9_11 : decode jdk_38_method_24_code 11 = .ok (.aload_n 2, 1) := by decide +kernel
theorem d9_12 : decode jdk_38_method_24_code 12 = .ok (.iload_n 3, 1) := by decide +kernel
theorem d9_13 : decode jdk_38_method_24_code 13 = .ok (.aload_n 1, 1) := by decide +kernel
theorem d9_14 : decode jdk_38_method_24_code 14 = .ok (.aastore, 1) := by decide +kernel
theorem d9_15 : decode jdk_38_method_24_code 15 = .ok (.aload_n 0, 1) := by decide +kernel
theorem d9_16 : decode jdk_38_method_24_code 16 = .ok (.iload_n 3, 1) := by decide +kernel
theorem d9_17 : decode jdk_38_method_24_code 17 = .ok (.iconst 1, 1) := by decide +kernel
theorem d9_18 : decode jdk_38_method_24_code 18 = .ok (.iadd, 1) := by decide +kernel
theorem d9_19 : decode jdk_38_method_24_code 19 = .ok (.putfield 48, 3) := by decide +kernel
theorem d9_22 : decode jdk_38_method_24_code 22 = .ok (.return_, 1) := by decide +kernel
theorem d8_0 : decode jdk_38_method_25_code 0 = .ok (.aload_n 0, 1) := by decide +kernel
theorem d8_1 : decode jdk_38_method_25_code 1 = .ok (.dup, 1) := by decide +kernel
theorem d8_2 : decode jdk_38_method_25_code 2 = .ok (.getfield 63, 3) := by decide +kernel
theorem d8_5 : decode jdk_38_method_25_code 5 = .ok (.iconst 1, 1) := by decide +kernel
theorem d8_6 : decode jdk_38_method_25_code 6 = .ok (.iadd, 1) := by decide +kernel
theorem d8_7 : decode jdk_38_method_25_code 7 = .ok (.putfield 63, 3) := by decide +kernel
theorem d8_10 : decode jdk_38_method_25_code 10 = .ok (.aload_n 0, 1) := by decide +kernel
theorem d8_11 : decode jdk_38_method_25_code 11 = .ok (.aload_n 1, 1) := by decide +kernel
theorem d8_12 : decode jdk_38_method_25_code 12 = .ok (.aload_n 0, 1) := by decide +kernel
theorem d8_13 : decode jdk_38_method_25_code 13 = .ok (.getfield 9, 3) := by decide +kernel
theorem d8_16 : decode jdk_38_method_25_code 16 = .ok (.aload_n 0, 1) := by decide +kernel
theorem d8_17 : decode jdk_38_method_25_code 17 = .ok (.getfield 48, 3) := by decide +kernel
theorem d8_20 : decode jdk_38_method_25_code 20 = .ok (.invokevirtual 131, 3) := by decide +kernel
theorem d8_23 : decode jdk_38_method_25_code 23 = .ok (.iconst 1, 1) := by decide +kernel
theorem d8_24 : decode jdk_38_method_25_code 24 = .ok (.ireturn, 1) := by decide +kernel
theorem d13_0 : decode prog_32_method_1_code 0 = .ok (.aload_n 0, 1) := by decide +kernel
theorem d13_1 : decode prog_32_method_1_code 1 = .ok (.invokespecial 1, 3) := by decide +kernel
theorem d13_4 : decode prog_32_method_1_code 4 = .ok (.aload_n 0, 1) := by decide +kernel
theorem d13_5 : decode prog_32_method_1_code 5 = .ok (.dload_n 1, 1) := by decide +kernel
theorem d13_6 : decode prog_32_method_1_code 6 = .ok (.putfield 7, 3) := by decide +kernel
theorem d13_9 : decode prog_32_method_1_code 9 = .ok (.aload_n 0, 1) := by decide +kernel
theorem d13_10 : decode prog_32_method_1_code 10 = .ok (.dload_n 3, 1) := by decide +kernel
theorem d13_11 : decode prog_32_method_1_code 11 = .ok (.putfield 13, 3) := by decide +kernel
theorem d13_14 : decode prog_32_method_1_code 14 = .ok (.return_, 1) := by decide +kernel
theorem d14_0 : decode prog_31_method_1_code 0 = .ok (.aload_n 0, 1) := by decide +kernel
theorem d14_1 : decode prog_31_method_1_code 1 = .ok (.invokespecial 1, 3) := by decide +kernel
theorem d14_4 : decode prog_31_method_1_code 4 = .ok (.aload_n 0, 1) := by decide +kernel
theorem d14_5 : decode prog_31_method_1_code 5 = .ok (.iload_n 1, 1) := by decide +kernel
theorem d14_6 : decode prog_31_method_1_code 6 = .ok (.putfield 7, 3) := by decide +kernel
theorem d14_9 : decode prog_31_method_1_code 9 = .ok (.aload_n 0, 1) := by decide +kernel
theorem d14_10 : decode prog_31_method_1_code 10 = .ok (.aload_n 2, 1) := by decide +kernel
theorem d14_11 : decode prog_31_method_1_code 11 = .ok (.putfield 13, 3) := by decide +kernel
theorem d14_14 : decode prog_31_method_1_code 14 = .ok (.aload_n 0, 1) := by decide +kernel
theorem d14_15 : decode prog_31_method_1_code 15 = .ok (.aload_n 3, 1) := by decide +kernel
theorem d14_16 : decode prog_31_method_1_code 16 = .ok (.putfield 17, 3) := by decide +kernel
theorem d14_19 : decode prog_31_method_1_code 19 = .ok (.return_, 1) := by decide +kernel
theorem d16_0 : decode prog_31_method_7_code 0 = .ok (.aload_n 0, 1) := by decide +kernel
theorem d16_1 : decode prog_31_method_7_code 1 = .ok (.getfield 7, 3) := by decide +kernel
theorem d16_4 : decode prog_31_method_7_code 4 = .ok (.ireturn, 1) := by decide +kernel
theorem d15_0 : decode prog_30_method_2_code 0 = .ok (.aload_n 1, 1) := by decide +kernel
theorem d15_1 : decode prog_30_method_2_code 1 = .ok (.invokevirtual 13, 3) := by decide +kernel
theorem d15_4 : decode prog_30_method_2_code 4 = .ok (.aload_n 0, 1) := by decide +kernel
theorem d15_5 : decode prog_30_method_2_code 5 = .ok (.getfield 7, 3) := by decide +kernel
theorem d15_8 : decode prog_30_method_2_code 8 = .ok (.if_icmp .le 7, 3) := by decide +kernel
theorem d15_11 : decode prog_30_method_2_code 11 = .ok (.iconst 1, 1) := by decide +kernel
theorem d15_12 : decode prog_30_method_2_code 12 = .ok (.goto 4, 3) := by decide +kernel
theorem d15_16 : decode prog_30_method_2_code 16 = .ok (.ireturn, 1) := by decide +kernel
theorem d15_15 : decode prog_30_method_2_code 15 = .ok (.iconst 0, 1) := by decide +kernel
theorem d17_0 : decode prog_31_method_2_code 0 = .ok (.new 8, 3) := by decide +kernel
theorem d17_3 : decode prog_31_method_2_code 3 = .ok (.dup, 1) := by decide +kernel
theorem d17_4 : decode prog_31_method_2_code 4 = .ok (.iload_n 1, 1) := by decide +kernel
theorem d17_5 : decode prog_31_method_2_code 5 = .ok (.aload_n 0, 1) := by decide +kernel
theorem d17_6 : decode prog_31_method_2_code 6 = .ok (.getfield 13, 3) := by decide +kernel
theorem d17_9 : decode prog_31_method_2_code 9 = .ok (.aload_n 0, 1) := by decide +kernel
theorem d17_10 : decode prog_31_method_2_code 10 = .ok (.getfield 17, 3) := by decide +kernel
theorem d17_13 : decode prog_31_method_2_code 13 = .ok (.invokespecial 21, 3) := by decide +kernel
theorem d17_16 : decode prog_31_method_2_code 16 = .ok (.areturn, 1) := by decide +kernel
theorem pd_0 : parseMethodDescriptor "()V" = some ⟨[], none⟩ := by decide +kernel
theorem pd_1 : parseMethodDescriptor "(I)V" = some ⟨[.int], none⟩ := by decide +kernel
theorem pd_2 : parseMethodDescriptor "(II)I" = some ⟨[.int, .int], some .int⟩ := by decide +kernel
theorem pd_3 : parseMethodDescriptor "(I)[Ljava/lang/Object;" = some ⟨[.int], some (.array (.object "java/lang/Object"))⟩ := by decide +kernel
theorem pd_4 : parseMethodDescriptor "()[Ljava/lang/Object;" = some ⟨[], some (.array (.object "java/lang/Object"))⟩ := by decide +kernel
theorem pd_5 : parseMethodDescriptor "(Ljava/lang/Object;[Ljava/lang/Object;I)V" = some ⟨[(.object "java/lang/Object"), (.array (.object "java/lang/Object")), .int], none⟩ := by decide +kernel
theorem pd_6 : parseMethodDescriptor "()I" = some ⟨[], some .int⟩ := by decide +kernel
theorem pd_7 : parseMethodDescriptor "(ILjava/util/List;Lcom/example/evenring/evenring/LoadView$Mean;)V" = some ⟨[.int, (.object "java/util/List"), (.object "com/example/evenring/evenring/LoadView$Mean")], none⟩ := by decide +kernel
theorem pd_8 : parseMethodDescriptor "(I)Ljava/lang/Integer;" = some ⟨[.int], some (.object "java/lang/Integer")⟩ := by decide +kernel
theorem pd_9 : parseMethodDescriptor "(Ljava/lang/Object;)Z" = some ⟨[(.object "java/lang/Object")], some .boolean⟩ := by decide +kernel
theorem pd_10 : parseMethodDescriptor "(DD)V" = some ⟨[.double, .double], none⟩ := by decide +kernel
theorem pd_11 : parseMethodDescriptor "(Lcom/example/evenring/evenring/LoadView;)Z" = some ⟨[(.object "com/example/evenring/evenring/LoadView")], some .boolean⟩ := by decide +kernel
theorem pd_12 : parseMethodDescriptor "(I)Lcom/example/evenring/evenring/LoadView;" = some ⟨[.int], some (.object "com/example/evenring/evenring/LoadView")⟩ := by decide +kernel
theorem pn_2 : plainName "java/lang/Record" = true := by first | (simp [plainName, overriddenIn]; done) | decide +kernel
theorem pn_6 : plainName "java/util/AbstractCollection" = true := by first | (simp [plainName, overriddenIn]; done) | decide +kernel
theorem pn_19 : plainName "java/lang/Number" = true := by first | (simp [plainName, overriddenIn]; done) | decide +kernel
theorem pn_1 : plainName "com/example/evenring/evenring/LoadState$Threshold" = true := by first | (simp [plainName, overriddenIn]; done) | decide +kernel
theorem pn_5 : plainName "java/util/AbstractList" = true := by first | (simp [plainName, overriddenIn]; done) | decide +kernel
theorem pn_4 : plainName "java/util/ArrayList" = true := by first | (simp [plainName, overriddenIn]; done) | decide +kernel
theorem pn_18 : plainName "java/lang/Integer" = true := by first | (simp [plainName, overriddenIn]; done) | decide +kernel
theorem pn_7 : plainName "java/lang/Integer" = true := by first | (simp [plainName, overriddenIn]; done) | decide +kernel
theorem pn_12 : plainFor (⟨"java/lang/Math", "max", "(II)I"⟩ : MethodName) = true := by decide +kernel
theorem pn_11 : plainName "java/util/ArrayList" = true := by first | (simp [plainName, overriddenIn]; done) | decide +kernel
theorem pn_10 : plainName "java/util/ArrayList" = true := by first | (simp [plainName, overriddenIn]; done) | decide +kernel
theorem pn_9 : plainName "java/util/ArrayList" = true := by first | (simp [plainName, overriddenIn]; done) | decide +kernel
theorem pn_8 : plainName "java/util/ArrayList" = true := by first | (simp [plainName, overriddenIn]; done) | decide +kernel
theorem pn_13 : plainName "com/example/evenring/evenring/LoadView$Mean" = true := by first | (simp [plainName, overriddenIn]; done) | decide +kernel
theorem pn_14 : plainName "com/example/evenring/evenring/LoadView" = true := by first | (simp [plainName, overriddenIn]; done) | decide +kernel
theorem pn_16 : plainName "com/example/evenring/evenring/LoadView" = true := by first | (simp [plainName, overriddenIn]; done) | decide +kernel
theorem pn_15 : plainName "com/example/evenring/evenring/LoadState$Threshold" = true := by first | (simp [plainName, overriddenIn]; done) | decide +kernel
theorem pn_17 : plainName "com/example/evenring/evenring/LoadView" = true := by first | (simp [plainName, overriddenIn]; done) | decide +kernel
theorem pn_0 : plainName "com/example/evenring/evenring/ThresholdIsOverloadedPinLaw" = true := by first | (simp [plainName, overriddenIn]; done) | decide +kernel
theorem ef_rm2 (m : MethodId) (x0 : Nat) : entryFrame m #[(.ref x0)] 1 = mkF m 0 #[.val (.ref x0)] [] := by first | (simp [entryFrame, mkF, argsToLocals, Value.category]; done) | rfl
theorem ef_rm6 (m : MethodId) (x0 : Nat) : entryFrame m #[(.ref x0)] 1 = mkF m 0 #[.val (.ref x0)] [] := by first | (simp [entryFrame, mkF, argsToLocals, Value.category]; done) | rfl
theorem ef_rm19 (m : MethodId) (x0 : Nat) : entryFrame m #[(.ref x0)] 1 = mkF m 0 #[.val (.ref x0)] [] := by first | (simp [entryFrame, mkF, argsToLocals, Value.category]; done) | rfl
theorem ef_rm1 (m : MethodId) (x0 : Nat) (x1 : Int32) : entryFrame m #[(.ref x0), (.int x1)] 2 = mkF m 0 #[.val (.ref x0), .val (.int x1)] [] := by first | (simp [entryFrame, mkF, argsToLocals, Value.category]; done) | rfl
theorem ef_rm5 (m : MethodId) (x0 : Nat) : entryFrame m #[(.ref x0)] 1 = mkF m 0 #[.val (.ref x0)] [] := by first | (simp [entryFrame, mkF, argsToLocals, Value.category]; done) | rfl
theorem ef_rm4 (m : MethodId) (x0 : Nat) : entryFrame m #[(.ref x0)] 1 = mkF m 0 #[.val (.ref x0)] [] := by first | (simp [entryFrame, mkF, argsToLocals, Value.category]; done) | rfl
theorem ef_rm18 (m : MethodId) (x0 : Nat) (x1 : Int32) : entryFrame m #[(.ref x0), (.int x1)] 2 = mkF m 0 #[.val (.ref x0), .val (.int x1)] [] := by first | (simp [entryFrame, mkF, argsToLocals, Value.category]; done) | rfl
theorem ef_rm7 (m : MethodId) (x0 : Int32) : entryFrame m #[(.int x0)] 1 = mkF m 0 #[.val (.int x0)] [] := by first | (simp [entryFrame, mkF, argsToLocals, Value.category]; done) | rfl
theorem ef_rm12 (m : MethodId)  : entryFrame m #[(.int (10 : Int32)), (.int (1 : Int32))] 2 = mkF m 0 #[.val (.int (10 : Int32)), .val (.int (1 : Int32))] [] := by first | (simp [entryFrame, mkF, argsToLocals, Value.category]; done) | rfl
theorem ef_rm11 (m : MethodId) (x0 : Nat) : entryFrame m #[(.ref x0), (.int (1 : Int32))] 4 = mkF m 0 #[.val (.ref x0), .val (.int (1 : Int32)), .unset, .unset] [] := by first | (simp [entryFrame, mkF, argsToLocals, Value.category]; done) | rfl
theorem ef_rm10 (m : MethodId) (x0 : Nat) : entryFrame m #[(.ref x0)] 1 = mkF m 0 #[.val (.ref x0)] [] := by first | (simp [entryFrame, mkF, argsToLocals, Value.category]; done) | rfl
theorem ef_rm9 (m : MethodId) (x0 : Nat) (x1 : Nat) (x2 : Nat) : entryFrame m #[(.ref x0), (.ref x1), (.ref x2), (.int (0 : Int32))] 4 = mkF m 0 #[.val (.ref x0), .val (.ref x1), .val (.ref x2), .val (.int (0 : Int32))] [] := by first | (simp [entryFrame, mkF, argsToLocals, Value.category]; done) | rfl
theorem ef_rm8 (m : MethodId) (x0 : Nat) (x1 : Nat) : entryFrame m #[(.ref x0), (.ref x1)] 2 = mkF m 0 #[.val (.ref x0), .val (.ref x1)] [] := by first | (simp [entryFrame, mkF, argsToLocals, Value.category]; done) | rfl
theorem ef_rm13 (m : MethodId) (x0 : Nat) (x1 : UInt64) (x2 : UInt64) : entryFrame m #[(.ref x0), (.double x1), (.double x2)] 5 = mkF m 0 #[.val (.ref x0), .val (.double x1), .second, .val (.double x2), .second] [] := by first | (simp [entryFrame, mkF, argsToLocals, Value.category]; done) | rfl
theorem ef_rm14 (m : MethodId) (x0 : Nat) (x1 : Int32) (x2 : Nat) (x3 : Nat) : entryFrame m #[(.ref x0), (.int x1), (.ref x2), (.ref x3)] 4 = mkF m 0 #[.val (.ref x0), .val (.int x1), .val (.ref x2), .val (.ref x3)] [] := by first | (simp [entryFrame, mkF, argsToLocals, Value.category]; done) | rfl
theorem ef_rm16 (m : MethodId) (x0 : Nat) : entryFrame m #[(.ref x0)] 1 = mkF m 0 #[.val (.ref x0)] [] := by first | (simp [entryFrame, mkF, argsToLocals, Value.category]; done) | rfl
theorem ef_rm15 (m : MethodId) (x0 : Nat) (x1 : Nat) : entryFrame m #[(.ref x0), (.ref x1)] 2 = mkF m 0 #[.val (.ref x0), .val (.ref x1)] [] := by first | (simp [entryFrame, mkF, argsToLocals, Value.category]; done) | rfl
theorem ef_rm17 (m : MethodId) (x0 : Nat) (x1 : Int32) : entryFrame m #[(.ref x0), (.int x1)] 2 = mkF m 0 #[.val (.ref x0), .val (.int x1)] [] := by first | (simp [entryFrame, mkF, argsToLocals, Value.category]; done) | rfl
theorem ef_rm0 (m : MethodId) (x0 : Int32) (x1 : Int32) (x2 : Int32) (x3 : Int32) : entryFrame m #[(.int x0), (.int x1), (.int x2), (.int x3)] maxLocals = mkF m 0 #[.val (.int x0), .val (.int x1), .val (.int x2), .val (.int x3), .unset, .unset, .unset, .unset, .unset, .unset, .unset, .unset, .unset, .unset, .unset] [] := by first | (simp [entryFrame, mkF, argsToLocals, Value.category, maxLocals]; done) | rfl
/-- the cache of the boxes: each place holds a box -/
def own_cache (Z : State) (ca : Nat) (B : String) : Prop := ∃ cl : Cell, Arr Z Z.heap ca cl (.object B) ∧ cl.slots.size = 256 ∧ ∀ j : Int32, ¬ j < 0 → j.toNatClampNeg < 256 → ∃ a : Nat, cl.slots[j.toNatClampNeg]? = some (.ref a) ∧ Exa Z Z.heap a B
theorem own_cache_of {Z : State} {a0 : Array Value} {C n d B : String} {Y : Jvm.Cond} {ca : Nat} (ht : (Term.static C n d).eval a0 Z none [] Z = some (.ref ca)) (w1 : (Jvm.Cond.arrayOf (Term.static C n d) (.object B)).value a0 Z none Z [] = some true) (w2 : (Jvm.Cond.eq (Term.length (Term.static C n d)) (Term.int 256)).value a0 Z none Z [] = some true)
    (w3 : (Jvm.Cond.all (Term.static C n d) (.and (.exactly (Term.elem (Term.static C n d) (Term.index 0)) B) Y)).value a0 Z none Z [] = some true) : own_cache Z ca B := by
  obtain ⟨cl, A⟩ := Arr.start ht w1
  obtain ⟨l1, l2⟩ := own_len ht A w2
  have S : cl.slots.size = 256 := by
    have q := len_toInt l1
    rw [l2] at q
    have r : (256 : Int32).toInt = 256 := by decide
    omega
  refine ⟨cl, A, S, fun j hj hl => ?_⟩
  have q := Cond.all_elim ht (A.fin (Vm.Alike.refl _)) w3 _ (by rw [S]; exact hl)
  have q1 := (and_e q).1
  obtain ⟨x, ex⟩ := exa_v q1
  exact ⟨x, (elem_in ex (show (Term.static C n d).eval a0 Z none [j.toNatClampNeg] Z = some (.ref ca) from ht) (idx_at hj) A.1).2, exa_at ex q1⟩
def Q_rm2 (Z : State) (self : Nat) (h0 : Heap) (n0 : Nat) (v : Option Value) (h : Heap) (L : List Loc) : Prop := (v = none) ∧ (Fr n0 L) ∧ (h = h0)
set_option maxRecDepth 65536 in
set_option maxHeartbeats 40000000 in
theorem rm2 (l : Launch) (Z : State) (a0 : Array Value) (hw : ∀ d ∈ tables_1, d.before a0 Z = true) (ws : List Jvm.Cond) (self : Nat) (h0 : Heap) (n0 : Nat) (Z0 : n0 ≤ h0.size) :
    MetFree l (⟨"java/lang/Record", "<init>", "()V"⟩ : MethodName) (head1 (Jvm.Cond.code (⟨"java/lang/Record", "<init>", "()V"⟩ : MethodName) jdk_30_method_1_code 1 none :: ws) ({ frames := 1, cells := 0, slots := 0, locals := 12 } : Room)) (fun a U => a = #[(.ref self)] ∧ Z.Warmed39 U.vm ∧ U.heap = h0) (fun _ _ _ _ _ => True) (fun _ U o U' => ∃ v L, o = .returned v ∧ Q_rm2 Z self h0 n0 v U'.heap L ∧ FrameEnd U o U' L ({ frames := 1, cells := 0, slots := 0, locals := 12 } : Room).cells ({ frames := 1, cells := 0, slots := 0, locals := 12 } : Room).slots) := by
  refine MetFree.of_bodySF (plainFor_of_name pn_2) hisR ?_
  intro p e s m args below meth c s₁ Bd hml0 hP hK
  obtain ⟨rfl, hZ, hh⟩ := hP
  have hx := Bd.exec
  have hby := Bd.bytes
  have hml : c.maxLocals = 1 := hml0
  have hown : s.vm.findClass "java/lang/Record" = some m.cls := findClass_of_methodNamed Bd.named
  have hnm := (name_of_methodNamed Bd.named Bd.method).1
  have hlk : meth.locks = false := Bd.notSynchronized
  have X0 : Stand p l e ({ frames := 1, cells := 0, slots := 0, locals := 12 } : Room) s m #[(.ref self)] below meth c s₁ [] 0 0 := Stand.of_body Bd
  have e0 : s₁.heap = h0 := by rw [← hh, Bd.state]; rfl
  have N0 := Fr.nil n0
  refine Comes.out (Q := Q_rm2 Z self h0 n0) (kc := ({ frames := 1, cells := 0, slots := 0, locals := 12 } : Room).cells) (ks := ({ frames := 1, cells := 0, slots := 0, locals := 12 } : Room).slots) ?_
  refine Comes.cast (ef_rm2 m self) ?_
  show Comes p e below _ (s₁.setTop (mkF m 0 #[.val (.ref self)] []))
  refine Comes.st (fun t k => XS.aloadN X0.here hx rfl (hb hby d2_0) rfl rfl k) ?_
  show Comes p e below _ (s₁.setTop (mkF m 1 #[.val (.ref self)] [(.ref self)]))
  obtain ⟨T1, X1, e1, st1⟩ := initO X0 hx hZ hown (hw _ (List.mem_of_getElem? (i := 11) rfl)) (hw _ (List.mem_of_getElem? (i := 12) rfl)) (hw _ (List.mem_of_getElem? (i := 13) rfl)) e0 (g := (mkF m 1 #[.val (.ref self)] [(.ref self)])) rfl (by rw [hml]; rfl) rfl (hb hby d2_1) (by decide) (W := 0) (by show 2 * 0 + _ ≤ _; exact Nat.le_of_eq rfl) (by decide)
  refine Comes.st st1 ?_
  show Comes p e below _ (T1.setTop (mkF m 4 #[.val (.ref self)] []))
  exact Comes.ret0 X1 hx Bd.returns hlk (hb hby d2_4) e1 ⟨rfl, N0, rfl⟩ (by decide) (by decide)
def Q_rm6 (Z : State) (self : Nat) (h0 : Heap) (n0 : Nat) (v : Option Value) (h : Heap) (L : List Loc) : Prop := (v = none) ∧ (Fr n0 L) ∧ (h = h0)
set_option maxRecDepth 65536 in
set_option maxHeartbeats 40000000 in
theorem rm6 (l : Launch) (Z : State) (a0 : Array Value) (hw : ∀ d ∈ tables_1, d.before a0 Z = true) (ws : List Jvm.Cond) (self : Nat) (h0 : Heap) (n0 : Nat) (Z0 : n0 ≤ h0.size) :
    MetFree l (⟨"java/util/AbstractCollection", "<init>", "()V"⟩ : MethodName) (head1 (Jvm.Cond.code (⟨"java/util/AbstractCollection", "<init>", "()V"⟩ : MethodName) jdk_22_method_1_code 1 none :: ws) ({ frames := 1, cells := 0, slots := 0, locals := 12 } : Room)) (fun a U => a = #[(.ref self)] ∧ Z.Warmed39 U.vm ∧ U.heap = h0) (fun _ _ _ _ _ => True) (fun _ U o U' => ∃ v L, o = .returned v ∧ Q_rm6 Z self h0 n0 v U'.heap L ∧ FrameEnd U o U' L ({ frames := 1, cells := 0, slots := 0, locals := 12 } : Room).cells ({ frames := 1, cells := 0, slots := 0, locals := 12 } : Room).slots) := by
  refine MetFree.of_bodySF (plainFor_of_name pn_6) hisR ?_
  intro p e s m args below meth c s₁ Bd hml0 hP hK
  obtain ⟨rfl, hZ, hh⟩ := hP
  have hx := Bd.exec
  have hby := Bd.bytes
  have hml : c.maxLocals = 1 := hml0
  have hown : s.vm.findClass "java/util/AbstractCollection" = some m.cls := findClass_of_methodNamed Bd.named
  have hnm := (name_of_methodNamed Bd.named Bd.method).1
  have hlk : meth.locks = false := Bd.notSynchronized
  have X0 : Stand p l e ({ frames := 1, cells := 0, slots := 0, locals := 12 } : Room) s m #[(.ref self)] below meth c s₁ [] 0 0 := Stand.of_body Bd
  have e0 : s₁.heap = h0 := by rw [← hh, Bd.state]; rfl
  have N0 := Fr.nil n0
  refine Comes.out (Q := Q_rm6 Z self h0 n0) (kc := ({ frames := 1, cells := 0, slots := 0, locals := 12 } : Room).cells) (ks := ({ frames := 1, cells := 0, slots := 0, locals := 12 } : Room).slots) ?_
  refine Comes.cast (ef_rm6 m self) ?_
  show Comes p e below _ (s₁.setTop (mkF m 0 #[.val (.ref self)] []))
  refine Comes.st (fun t k => XS.aloadN X0.here hx rfl (hb hby d6_0) rfl rfl k) ?_
  show Comes p e below _ (s₁.setTop (mkF m 1 #[.val (.ref self)] [(.ref self)]))
  obtain ⟨T1, X1, e1, st1⟩ := initO X0 hx hZ hown (hw _ (List.mem_of_getElem? (i := 34) rfl)) (hw _ (List.mem_of_getElem? (i := 12) rfl)) (hw _ (List.mem_of_getElem? (i := 13) rfl)) e0 (g := (mkF m 1 #[.val (.ref self)] [(.ref self)])) rfl (by rw [hml]; rfl) rfl (hb hby d6_1) (by decide) (W := 0) (by show 2 * 0 + _ ≤ _; exact Nat.le_of_eq rfl) (by decide)
  refine Comes.st st1 ?_
  show Comes p e below _ (T1.setTop (mkF m 4 #[.val (.ref self)] []))
  exact Comes.ret0 X1 hx Bd.returns hlk (hb hby d6_4) e1 ⟨rfl, N0, rfl⟩ (by decide) (by decide)
def Q_rm19 (Z : State) (self : Nat) (h0 : Heap) (n0 : Nat) (v : Option Value) (h : Heap) (L : List Loc) : Prop := (v = none) ∧ (Fr n0 L) ∧ (h = h0)
set_option maxRecDepth 65536 in
set_option maxHeartbeats 40000000 in
theorem rm19 (l : Launch) (Z : State) (a0 : Array Value) (hw : ∀ d ∈ tables_1, d.before a0 Z = true) (ws : List Jvm.Cond) (self : Nat) (h0 : Heap) (n0 : Nat) (Z0 : n0 ≤ h0.size) :
    MetFree l (⟨"java/lang/Number", "<init>", "()V"⟩ : MethodName) (head1 (Jvm.Cond.code (⟨"java/lang/Number", "<init>", "()V"⟩ : MethodName) jdk_18_method_1_code 1 none :: ws) ({ frames := 1, cells := 0, slots := 0, locals := 12 } : Room)) (fun a U => a = #[(.ref self)] ∧ Z.Warmed39 U.vm ∧ U.heap = h0) (fun _ _ _ _ _ => True) (fun _ U o U' => ∃ v L, o = .returned v ∧ Q_rm19 Z self h0 n0 v U'.heap L ∧ FrameEnd U o U' L ({ frames := 1, cells := 0, slots := 0, locals := 12 } : Room).cells ({ frames := 1, cells := 0, slots := 0, locals := 12 } : Room).slots) := by
  refine MetFree.of_bodySF (plainFor_of_name pn_19) hisR ?_
  intro p e s m args below meth c s₁ Bd hml0 hP hK
  obtain ⟨rfl, hZ, hh⟩ := hP
  have hx := Bd.exec
  have hby := Bd.bytes
  have hml : c.maxLocals = 1 := hml0
  have hown : s.vm.findClass "java/lang/Number" = some m.cls := findClass_of_methodNamed Bd.named
  have hnm := (name_of_methodNamed Bd.named Bd.method).1
  have hlk : meth.locks = false := Bd.notSynchronized
  have X0 : Stand p l e ({ frames := 1, cells := 0, slots := 0, locals := 12 } : Room) s m #[(.ref self)] below meth c s₁ [] 0 0 := Stand.of_body Bd
  have e0 : s₁.heap = h0 := by rw [← hh, Bd.state]; rfl
  have N0 := Fr.nil n0
  refine Comes.out (Q := Q_rm19 Z self h0 n0) (kc := ({ frames := 1, cells := 0, slots := 0, locals := 12 } : Room).cells) (ks := ({ frames := 1, cells := 0, slots := 0, locals := 12 } : Room).slots) ?_
  refine Comes.cast (ef_rm19 m self) ?_
  show Comes p e below _ (s₁.setTop (mkF m 0 #[.val (.ref self)] []))
  refine Comes.st (fun t k => XS.aloadN X0.here hx rfl (hb hby d19_0) rfl rfl k) ?_
  show Comes p e below _ (s₁.setTop (mkF m 1 #[.val (.ref self)] [(.ref self)]))
  obtain ⟨T1, X1, e1, st1⟩ := initO X0 hx hZ hown (hw _ (List.mem_of_getElem? (i := 131) rfl)) (hw _ (List.mem_of_getElem? (i := 12) rfl)) (hw _ (List.mem_of_getElem? (i := 13) rfl)) e0 (g := (mkF m 1 #[.val (.ref self)] [(.ref self)])) rfl (by rw [hml]; rfl) rfl (hb hby d19_1) (by decide) (W := 0) (by show 2 * 0 + _ ≤ _; exact Nat.le_of_eq rfl) (by decide)
  refine Comes.st st1 ?_
  show Comes p e below _ (T1.setTop (mkF m 4 #[.val (.ref self)] []))
  exact Comes.ret0 X1 hx Bd.returns hlk (hb hby d19_4) e1 ⟨rfl, N0, rfl⟩ (by decide) (by decide)
def Q_rm1 (Z : State) (self : Nat) (lim : Int32) (h0 : Heap) (n0 : Nat) (v : Option Value) (h : Heap) (L : List Loc) : Prop := (v = none) ∧ (Fr n0 L) ∧ (Keep h0 h [self]) ∧ (Exa Z h self "com/example/evenring/evenring/LoadState$Threshold") ∧ (Fld Z h self "com/example/evenring/evenring/LoadState$Threshold" "limit" "I" (.int lim))
set_option maxRecDepth 65536 in
set_option maxHeartbeats 40000000 in
theorem rm1 (l : Launch) (Z : State) (a0 : Array Value) (hw : ∀ d ∈ tables_1, d.before a0 Z = true) (ws : List Jvm.Cond) (self : Nat) (lim : Int32) (h0 : Heap) (n0 : Nat) (Z0 : n0 ≤ h0.size) (G0 : Exa Z h0 self "com/example/evenring/evenring/LoadState$Threshold") (G1 : Fld Z h0 self "com/example/evenring/evenring/LoadState$Threshold" "limit" "I" (.int (0 : Int32))) (G2 : n0 ≤ self) :
    MetFree l (⟨"com/example/evenring/evenring/LoadState$Threshold", "<init>", "(I)V"⟩ : MethodName) (head1 (Jvm.Cond.code (⟨"com/example/evenring/evenring/LoadState$Threshold", "<init>", "(I)V"⟩ : MethodName) prog_30_method_1_code 2 none :: ws) ({ frames := 2, cells := 0, slots := 0, locals := 24 } : Room)) (fun a U => a = #[(.ref self), (.int lim)] ∧ Z.Warmed39 U.vm ∧ U.heap = h0) (fun _ _ _ _ _ => True) (fun _ U o U' => ∃ v L, o = .returned v ∧ Q_rm1 Z self lim h0 n0 v U'.heap L ∧ FrameEnd U o U' L ({ frames := 2, cells := 0, slots := 0, locals := 24 } : Room).cells ({ frames := 2, cells := 0, slots := 0, locals := 24 } : Room).slots) := by
  refine MetFree.of_bodySF (plainFor_of_name pn_1) hisR ?_
  intro p e s m args below meth c s₁ Bd hml0 hP hK
  obtain ⟨rfl, hZ, hh⟩ := hP
  have hx := Bd.exec
  have hby := Bd.bytes
  have hml : c.maxLocals = 2 := hml0
  have hown : s.vm.findClass "com/example/evenring/evenring/LoadState$Threshold" = some m.cls := findClass_of_methodNamed Bd.named
  have hnm := (name_of_methodNamed Bd.named Bd.method).1
  have hlk : meth.locks = false := Bd.notSynchronized
  have X0 : Stand p l e ({ frames := 2, cells := 0, slots := 0, locals := 24 } : Room) s m #[(.ref self), (.int lim)] below meth c s₁ [] 0 0 := Stand.of_body Bd
  have e0 : s₁.heap = h0 := by rw [← hh, Bd.state]; rfl
  have N0 := Fr.nil n0
  have K0 := Keep.refl h0 [self]
  refine Comes.out (Q := Q_rm1 Z self lim h0 n0) (kc := ({ frames := 2, cells := 0, slots := 0, locals := 24 } : Room).cells) (ks := ({ frames := 2, cells := 0, slots := 0, locals := 24 } : Room).slots) ?_
  refine Comes.cast (ef_rm1 m self lim) ?_
  have lt_self : self < h0.size := G0.lt
  show Comes p e below _ (s₁.setTop (mkF m 0 #[.val (.ref self), .val (.int lim)] []))
  refine Comes.st (fun t k => XS.aloadN X0.here hx rfl (hb hby d1_0) rfl rfl k) ?_
  show Comes p e below _ (s₁.setTop (mkF m 1 #[.val (.ref self), .val (.int lim)] [(.ref self)]))
  obtain ⟨_, _, ⟨T1, L1, k1, n1⟩, -, X1, ⟨Lc1, hQ1, l1, y1, z1⟩, st1⟩ := X0.specialBack hx (y := (⟨"java/lang/Record", "<init>", "()V"⟩ : MethodName)) rfl hown (mvT hZ (hw _ (List.mem_of_getElem? (i := 6) rfl))) (mvT hZ (hw _ (List.mem_of_getElem? (i := 7) rfl))) (mvT hZ (hw _ (List.mem_of_getElem? (i := 10) rfl))) (by decide) (backOf (W := 0) (rm2 l Z a0 hw [] self h0 n0 (by omega)  ) hZ (hw _ (List.mem_of_getElem? (i := 10) rfl)) (hw _ (List.mem_of_getElem? (i := 9) rfl)) (by decide) (by decide)) (g := (mkF m 1 #[.val (.ref self), .val (.int lim)] [(.ref self)])) rfl (by rw [hml]; rfl) (Steps.refl _) (a := self) (argsL := []) (rest := []) (lenOf pd_0 rfl) rfl (by show 2 * 0 + _ ≤ _; exact Nat.le_of_eq rfl) (hb hby d1_1) (fun _ _ => ⟨rfl, e0, (by decide : 0 + 0 ≤ _), (by decide : 0 + 0 ≤ _)⟩)
  dsimp only [Pt.U, Pt.locs, Pt.cells, Pt.slots] at X1 l1 y1 z1 st1 hQ1
  subst l1 y1 z1
  obtain ⟨rfl, Nq1, hs1⟩ := hQ1
  have N1 := Fr.app N0 Nq1
  refine Comes.go st1 ?_
  show Comes p e below _ (T1.setTop (mkF m 4 #[.val (.ref self), .val (.int lim)] []))
  refine Comes.st (fun t k => XS.aloadN X1.here hx rfl (hb hby d1_4) rfl rfl (XS.iloadN X1.here hx rfl (hb hby d1_5) rfl k)) ?_
  show Comes p e below _ (T1.setTop (mkF m 6 #[.val (.ref self), .val (.int lim)] [(.int lim), (.ref self)]))
  obtain ⟨T2, h2, X2, e2, W2, st2⟩ := putF X1 hx hZ hown (host := "") (Or.inl (hw _ (List.mem_of_getElem? (i := 14) rfl))) Via.refl hs1 G1 G0 (Or.inr ⟨(hw _ (List.mem_of_getElem? (i := 15) rfl)), rfl, hnm⟩) (hw _ (List.mem_of_getElem? (i := 1) rfl)) (ty := .int) (by decide) rfl rfl (g := (mkF m 6 #[.val (.ref self), .val (.int lim)] [(.int lim), (.ref self)])) rfl rfl (hb hby d1_6)
  have Fw2 := G1.same W2
  have z2 : h2.size = h0.size := W2.size
  have gn3 : n0 ≤ self := by omega
  have N2 := Fr.snoc X2 N1 gn3
  have K2 : Keep h0 h2 [self] := K0.wr W2 (Or.inl (List.mem_of_getElem? (i := 0) rfl))
  refine Comes.st st2 ?_
  show Comes p e below _ (T2.setTop (mkF m 9 #[.val (.ref self), .val (.int lim)] []))
  have F4 : Exa Z h2 self "com/example/evenring/evenring/LoadState$Threshold" := (G0.wr W2)
  exact Comes.ret0 X2 hx Bd.returns hlk (hb hby d1_9) e2 ⟨rfl, N2, K2, F4, Fw2⟩ (by decide) (by decide)
def Q_rm5 (Z : State) (self : Nat) (h0 : Heap) (n0 : Nat) (v : Option Value) (h : Heap) (L : List Loc) : Prop := (v = none) ∧ (Fr n0 L) ∧ (Keep h0 h [self]) ∧ (Exa Z h self "java/util/ArrayList") ∧ (Fld Z h self "java/util/ArrayList" "elementData" "[Ljava/lang/Object;" .null) ∧ (Fld Z h self "java/util/ArrayList" "size" "I" (.int (0 : Int32))) ∧ (Fld Z h self "java/util/AbstractList" "modCount" "I" (.int (0 : Int32)))
set_option maxRecDepth 65536 in
set_option maxHeartbeats 40000000 in
theorem rm5 (l : Launch) (Z : State) (a0 : Array Value) (hw : ∀ d ∈ tables_1, d.before a0 Z = true) (ws : List Jvm.Cond) (self : Nat) (h0 : Heap) (n0 : Nat) (Z0 : n0 ≤ h0.size) (G0 : Exa Z h0 self "java/util/ArrayList") (G1 : Fld Z h0 self "java/util/ArrayList" "elementData" "[Ljava/lang/Object;" .null) (G2 : Fld Z h0 self "java/util/ArrayList" "size" "I" (.int (0 : Int32))) (G3 : Fld Z h0 self "java/util/AbstractList" "modCount" "I" (.int (0 : Int32))) (G4 : n0 ≤ self) :
    MetFree l (⟨"java/util/AbstractList", "<init>", "()V"⟩ : MethodName) (head1 (Jvm.Cond.code (⟨"java/util/AbstractList", "<init>", "()V"⟩ : MethodName) jdk_39_method_1_code 1 none :: ws) ({ frames := 2, cells := 0, slots := 0, locals := 24 } : Room)) (fun a U => a = #[(.ref self)] ∧ Z.Warmed39 U.vm ∧ U.heap = h0) (fun _ _ _ _ _ => True) (fun _ U o U' => ∃ v L, o = .returned v ∧ Q_rm5 Z self h0 n0 v U'.heap L ∧ FrameEnd U o U' L ({ frames := 2, cells := 0, slots := 0, locals := 24 } : Room).cells ({ frames := 2, cells := 0, slots := 0, locals := 24 } : Room).slots) := by
  refine MetFree.of_bodySF (plainFor_of_name pn_5) hisR ?_
  intro p e s m args below meth c s₁ Bd hml0 hP hK
  obtain ⟨rfl, hZ, hh⟩ := hP
  have hx := Bd.exec
  have hby := Bd.bytes
  have hml : c.maxLocals = 1 := hml0
  have hown : s.vm.findClass "java/util/AbstractList" = some m.cls := findClass_of_methodNamed Bd.named
  have hnm := (name_of_methodNamed Bd.named Bd.method).1
  have hlk : meth.locks = false := Bd.notSynchronized
  have X0 : Stand p l e ({ frames := 2, cells := 0, slots := 0, locals := 24 } : Room) s m #[(.ref self)] below meth c s₁ [] 0 0 := Stand.of_body Bd
  have e0 : s₁.heap = h0 := by rw [← hh, Bd.state]; rfl
  have N0 := Fr.nil n0
  have K0 := Keep.refl h0 [self]
  refine Comes.out (Q := Q_rm5 Z self h0 n0) (kc := ({ frames := 2, cells := 0, slots := 0, locals := 24 } : Room).cells) (ks := ({ frames := 2, cells := 0, slots := 0, locals := 24 } : Room).slots) ?_
  refine Comes.cast (ef_rm5 m self) ?_
  have lt_self : self < h0.size := G0.lt
  show Comes p e below _ (s₁.setTop (mkF m 0 #[.val (.ref self)] []))
  refine Comes.st (fun t k => XS.aloadN X0.here hx rfl (hb hby d5_0) rfl rfl k) ?_
  show Comes p e below _ (s₁.setTop (mkF m 1 #[.val (.ref self)] [(.ref self)]))
  obtain ⟨_, _, ⟨T1, L1, k1, n1⟩, -, X1, ⟨Lc1, hQ1, l1, y1, z1⟩, st1⟩ := X0.specialBack hx (y := (⟨"java/util/AbstractCollection", "<init>", "()V"⟩ : MethodName)) rfl hown (mvT hZ (hw _ (List.mem_of_getElem? (i := 28) rfl))) (mvT hZ (hw _ (List.mem_of_getElem? (i := 29) rfl))) (mvT hZ (hw _ (List.mem_of_getElem? (i := 33) rfl))) (by decide) (backOf (W := 0) (rm6 l Z a0 hw [] self h0 n0 (by omega)  ) hZ (hw _ (List.mem_of_getElem? (i := 33) rfl)) (hw _ (List.mem_of_getElem? (i := 32) rfl)) (by decide) (by decide)) (g := (mkF m 1 #[.val (.ref self)] [(.ref self)])) rfl (by rw [hml]; rfl) (Steps.refl _) (a := self) (argsL := []) (rest := []) (lenOf pd_0 rfl) rfl (by show 2 * 0 + _ ≤ _; exact Nat.le_of_eq rfl) (hb hby d5_1) (fun _ _ => ⟨rfl, e0, (by decide : 0 + 0 ≤ _), (by decide : 0 + 0 ≤ _)⟩)
  dsimp only [Pt.U, Pt.locs, Pt.cells, Pt.slots] at X1 l1 y1 z1 st1 hQ1
  subst l1 y1 z1
  obtain ⟨rfl, Nq1, hs1⟩ := hQ1
  have N1 := Fr.app N0 Nq1
  refine Comes.go st1 ?_
  show Comes p e below _ (T1.setTop (mkF m 4 #[.val (.ref self)] []))
  refine Comes.st (fun t k => XS.aloadN X1.here hx rfl (hb hby d5_4) rfl rfl (XS.iconst X1.here hx rfl (hb hby d5_5) k)) ?_
  show Comes p e below _ (T1.setTop (mkF m 6 #[.val (.ref self)] [(.int (0 : Int32)), (.ref self)]))
  obtain ⟨T2, h2, X2, e2, W2, st2⟩ := putF X1 hx hZ hown (host := "") (Or.inl (hw _ (List.mem_of_getElem? (i := 35) rfl))) Via.refl hs1 G3 G0 (Or.inl (hw _ (List.mem_of_getElem? (i := 36) rfl))) (hw _ (List.mem_of_getElem? (i := 17) rfl)) (ty := .int) (by decide) rfl rfl (g := (mkF m 6 #[.val (.ref self)] [(.int (0 : Int32)), (.ref self)])) rfl rfl (hb hby d5_6)
  have Fw2 := G3.same W2
  have z2 : h2.size = h0.size := W2.size
  have gn3 : n0 ≤ self := by omega
  have N2 := Fr.snoc X2 N1 gn3
  have K2 : Keep h0 h2 [self] := K0.wr W2 (Or.inl (List.mem_of_getElem? (i := 0) rfl))
  refine Comes.st st2 ?_
  show Comes p e below _ (T2.setTop (mkF m 9 #[.val (.ref self)] []))
  have F4 : Exa Z h2 self "java/util/ArrayList" := (G0.wr W2)
  have F5 : Fld Z h2 self "java/util/ArrayList" "elementData" "[Ljava/lang/Object;" .null := (G1.other W2 (Or.inr (slot_ne (Or.inl (hw _ (List.mem_of_getElem? (i := 39) rfl))) (Or.inl (hw _ (List.mem_of_getElem? (i := 36) rfl))) (by decide) (t := (.array (.object "java/lang/Object"))) (t' := .int) (by decide) (by decide))))
  have F6 : Fld Z h2 self "java/util/ArrayList" "size" "I" (.int (0 : Int32)) := (G2.other W2 (Or.inr (slot_ne (Or.inl (hw _ (List.mem_of_getElem? (i := 55) rfl))) (Or.inl (hw _ (List.mem_of_getElem? (i := 36) rfl))) (by decide) (t := .int) (t' := .int) (by decide) (by decide))))
  exact Comes.ret0 X2 hx Bd.returns hlk (hb hby d5_9) e2 ⟨rfl, N2, K2, F4, F5, F6, Fw2⟩ (by decide) (by decide)
def Q_rm4 (Z : State) (self : Nat) (dc : Nat) (h0 : Heap) (n0 : Nat) (v : Option Value) (h : Heap) (L : List Loc) : Prop := (v = none) ∧ (Fr n0 L) ∧ (Keep h0 h [self]) ∧ (Exa Z h self "java/util/ArrayList") ∧ (Fld Z h self "java/util/ArrayList" "elementData" "[Ljava/lang/Object;" (.ref dc)) ∧ (Fld Z h self "java/util/ArrayList" "size" "I" (.int (0 : Int32))) ∧ (Fld Z h self "java/util/AbstractList" "modCount" "I" (.int (0 : Int32)))
set_option maxRecDepth 65536 in
set_option maxHeartbeats 40000000 in
theorem rm4 (l : Launch) (Z : State) (a0 : Array Value) (hw : ∀ d ∈ tables_1, d.before a0 Z = true) (ws : List Jvm.Cond) (self : Nat) (dc : Nat) (h0 : Heap) (n0 : Nat) (Z0 : n0 ≤ h0.size) (G0 : Exa Z h0 self "java/util/ArrayList") (G1 : Fld Z h0 self "java/util/ArrayList" "elementData" "[Ljava/lang/Object;" .null) (G2 : Fld Z h0 self "java/util/ArrayList" "size" "I" (.int (0 : Int32))) (G3 : Fld Z h0 self "java/util/AbstractList" "modCount" "I" (.int (0 : Int32))) (G4 : n0 ≤ self) (G5 : Sta Z Z.heap "java/util/ArrayList" "DEFAULTCAPACITY_EMPTY_ELEMENTDATA" "[Ljava/lang/Object;" (.ref dc)) (G6 : Old Z n0 h0) :
    MetFree l (⟨"java/util/ArrayList", "<init>", "()V"⟩ : MethodName) (head1 (Jvm.Cond.code (⟨"java/util/ArrayList", "<init>", "()V"⟩ : MethodName) jdk_38_method_2_code 1 none :: ws) ({ frames := 3, cells := 0, slots := 0, locals := 36 } : Room)) (fun a U => a = #[(.ref self)] ∧ Z.Warmed39 U.vm ∧ U.heap = h0) (fun _ _ _ _ _ => True) (fun _ U o U' => ∃ v L, o = .returned v ∧ Q_rm4 Z self dc h0 n0 v U'.heap L ∧ FrameEnd U o U' L ({ frames := 3, cells := 0, slots := 0, locals := 36 } : Room).cells ({ frames := 3, cells := 0, slots := 0, locals := 36 } : Room).slots) := by
  refine MetFree.of_bodySF (plainFor_of_name pn_4) hisR ?_
  intro p e s m args below meth c s₁ Bd hml0 hP hK
  obtain ⟨rfl, hZ, hh⟩ := hP
  have hx := Bd.exec
  have hby := Bd.bytes
  have hml : c.maxLocals = 1 := hml0
  have hown : s.vm.findClass "java/util/ArrayList" = some m.cls := findClass_of_methodNamed Bd.named
  have hnm := (name_of_methodNamed Bd.named Bd.method).1
  have hlk : meth.locks = false := Bd.notSynchronized
  have X0 : Stand p l e ({ frames := 3, cells := 0, slots := 0, locals := 36 } : Room) s m #[(.ref self)] below meth c s₁ [] 0 0 := Stand.of_body Bd
  have e0 : s₁.heap = h0 := by rw [← hh, Bd.state]; rfl
  have N0 := Fr.nil n0
  have K0 := Keep.refl h0 [self]
  refine Comes.out (Q := Q_rm4 Z self dc h0 n0) (kc := ({ frames := 3, cells := 0, slots := 0, locals := 36 } : Room).cells) (ks := ({ frames := 3, cells := 0, slots := 0, locals := 36 } : Room).slots) ?_
  refine Comes.cast (ef_rm4 m self) ?_
  have lt_self : self < h0.size := G0.lt
  show Comes p e below _ (s₁.setTop (mkF m 0 #[.val (.ref self)] []))
  refine Comes.st (fun t k => XS.aloadN X0.here hx rfl (hb hby d4_0) rfl rfl k) ?_
  show Comes p e below _ (s₁.setTop (mkF m 1 #[.val (.ref self)] [(.ref self)]))
  obtain ⟨_, _, ⟨T1, L1, k1, n1⟩, -, X1, ⟨Lc1, hQ1, l1, y1, z1⟩, st1⟩ := X0.specialBack hx (y := (⟨"java/util/AbstractList", "<init>", "()V"⟩ : MethodName)) rfl hown (mvT hZ (hw _ (List.mem_of_getElem? (i := 22) rfl))) (mvT hZ (hw _ (List.mem_of_getElem? (i := 23) rfl))) (mvT hZ (hw _ (List.mem_of_getElem? (i := 27) rfl))) (by decide) (backOf (W := 0) (rm5 l Z a0 hw [] self h0 n0 (by omega)  G0 G1 G2 G3 (by omega)) hZ (hw _ (List.mem_of_getElem? (i := 27) rfl)) (hw _ (List.mem_of_getElem? (i := 26) rfl)) (by decide) (by decide)) (g := (mkF m 1 #[.val (.ref self)] [(.ref self)])) rfl (by rw [hml]; rfl) (Steps.refl _) (a := self) (argsL := []) (rest := []) (lenOf pd_0 rfl) rfl (by show 2 * 0 + _ ≤ _; exact Nat.le_of_eq rfl) (hb hby d4_1) (fun _ _ => ⟨rfl, e0, (by decide : 0 + 0 ≤ _), (by decide : 0 + 0 ≤ _)⟩)
  dsimp only [Pt.U, Pt.locs, Pt.cells, Pt.slots] at X1 l1 y1 z1 st1 hQ1
  subst l1 y1 z1
  obtain ⟨rfl, Nq1, Kq1, P1_0, P1_1, P1_2, P1_3⟩ := hQ1
  have N1 := Fr.app N0 Nq1
  have z1k : h0.size ≤ T1.heap.size := Kq1.1
  have K1 : Keep h0 T1.heap [self] := K0.trans Kq1 (allS (Or.inl (List.mem_of_getElem? (i := 0) rfl)) all0)
  refine Comes.go st1 ?_
  show Comes p e below _ (T1.setTop (mkF m 4 #[.val (.ref self)] []))
  refine Comes.st (fun t k => XS.aloadN X1.here hx rfl (hb hby d4_4) rfl rfl k) ?_
  show Comes p e below _ (T1.setTop (mkF m 5 #[.val (.ref self)] [(.ref self)]))
  have Od2 : Old Z n0 T1.heap := (G6.keep Kq1 (allS (by omega) all0))
  obtain ⟨T3, X3, e3, st3⟩ := getS2 X1 hx hZ hown (host := "") (Or.inl (hw _ (List.mem_of_getElem? (i := 37) rfl))) Via.refl rfl (G5.ext Od2.2) (g := (mkF m 5 #[.val (.ref self)] [(.ref self)])) rfl (hb hby d4_5)
  refine Comes.st st3 ?_
  show Comes p e below _ (T3.setTop (mkF m 8 #[.val (.ref self)] [(.ref dc), (.ref self)]))
  obtain ⟨T4, h4, X4, e4, W4, st4⟩ := putF X3 hx hZ hown (host := "") (Or.inl (hw _ (List.mem_of_getElem? (i := 38) rfl))) Via.refl e3 P1_1 P1_0 (Or.inl (hw _ (List.mem_of_getElem? (i := 39) rfl))) (hw _ (List.mem_of_getElem? (i := 17) rfl)) (ty := (.array (.object "java/lang/Object"))) (by decide) rfl rfl (g := (mkF m 8 #[.val (.ref self)] [(.ref dc), (.ref self)])) rfl rfl (hb hby d4_8)
  have Fw4 := P1_1.same W4
  have z4 : h4.size = T1.heap.size := W4.size
  have gn5 : n0 ≤ self := by omega
  have N4 := Fr.snoc X4 N1 gn5
  have K4 : Keep h0 h4 [self] := K1.wr W4 (Or.inl (List.mem_of_getElem? (i := 0) rfl))
  refine Comes.st st4 ?_
  show Comes p e below _ (T4.setTop (mkF m 11 #[.val (.ref self)] []))
  have F6 : Exa Z h4 self "java/util/ArrayList" := (P1_0.wr W4)
  have F7 : Fld Z h4 self "java/util/ArrayList" "size" "I" (.int (0 : Int32)) := (P1_2.other W4 (Or.inr (slot_ne (Or.inl (hw _ (List.mem_of_getElem? (i := 55) rfl))) (Or.inl (hw _ (List.mem_of_getElem? (i := 39) rfl))) (by decide) (t := .int) (t' := (.array (.object "java/lang/Object"))) (by decide) (by decide))))
  have F8 : Fld Z h4 self "java/util/AbstractList" "modCount" "I" (.int (0 : Int32)) := (P1_3.other W4 (Or.inr (slot_ne (Or.inl (hw _ (List.mem_of_getElem? (i := 36) rfl))) (Or.inl (hw _ (List.mem_of_getElem? (i := 39) rfl))) (by decide) (t := .int) (t' := (.array (.object "java/lang/Object"))) (by decide) (by decide))))
  exact Comes.ret0 X4 hx Bd.returns hlk (hb hby d4_11) e4 ⟨rfl, N4, K4, F6, Fw4, F7, F8⟩ (by decide) (by decide)
def Q_rm18 (Z : State) (self : Nat) (vv : Int32) (h0 : Heap) (n0 : Nat) (v : Option Value) (h : Heap) (L : List Loc) : Prop := (v = none) ∧ (Fr n0 L) ∧ (Keep h0 h [self]) ∧ (Exa Z h self "java/lang/Integer")
set_option maxRecDepth 65536 in
set_option maxHeartbeats 40000000 in
theorem rm18 (l : Launch) (Z : State) (a0 : Array Value) (hw : ∀ d ∈ tables_1, d.before a0 Z = true) (ws : List Jvm.Cond) (self : Nat) (vv : Int32) (h0 : Heap) (n0 : Nat) (Z0 : n0 ≤ h0.size) (G0 : Exa Z h0 self "java/lang/Integer") (G1 : Fld Z h0 self "java/lang/Integer" "value" "I" (.int (0 : Int32))) (G2 : n0 ≤ self) :
    MetFree l (⟨"java/lang/Integer", "<init>", "(I)V"⟩ : MethodName) (head1 (Jvm.Cond.code (⟨"java/lang/Integer", "<init>", "(I)V"⟩ : MethodName) jdk_33_method_23_code 2 none :: ws) ({ frames := 2, cells := 0, slots := 0, locals := 24 } : Room)) (fun a U => a = #[(.ref self), (.int vv)] ∧ Z.Warmed39 U.vm ∧ U.heap = h0) (fun _ _ _ _ _ => True) (fun _ U o U' => ∃ v L, o = .returned v ∧ Q_rm18 Z self vv h0 n0 v U'.heap L ∧ FrameEnd U o U' L ({ frames := 2, cells := 0, slots := 0, locals := 24 } : Room).cells ({ frames := 2, cells := 0, slots := 0, locals := 24 } : Room).slots) := by
  refine MetFree.of_bodySF (plainFor_of_name pn_18) hisR ?_
  intro p e s m args below meth c s₁ Bd hml0 hP hK
  obtain ⟨rfl, hZ, hh⟩ := hP
  have hx := Bd.exec
  have hby := Bd.bytes
  have hml : c.maxLocals = 2 := hml0
  have hown : s.vm.findClass "java/lang/Integer" = some m.cls := findClass_of_methodNamed Bd.named
  have hnm := (name_of_methodNamed Bd.named Bd.method).1
  have hlk : meth.locks = false := Bd.notSynchronized
  have X0 : Stand p l e ({ frames := 2, cells := 0, slots := 0, locals := 24 } : Room) s m #[(.ref self), (.int vv)] below meth c s₁ [] 0 0 := Stand.of_body Bd
  have e0 : s₁.heap = h0 := by rw [← hh, Bd.state]; rfl
  have N0 := Fr.nil n0
  have K0 := Keep.refl h0 [self]
  refine Comes.out (Q := Q_rm18 Z self vv h0 n0) (kc := ({ frames := 2, cells := 0, slots := 0, locals := 24 } : Room).cells) (ks := ({ frames := 2, cells := 0, slots := 0, locals := 24 } : Room).slots) ?_
  refine Comes.cast (ef_rm18 m self vv) ?_
  have lt_self : self < h0.size := G0.lt
  show Comes p e below _ (s₁.setTop (mkF m 0 #[.val (.ref self), .val (.int vv)] []))
  refine Comes.st (fun t k => XS.aloadN X0.here hx rfl (hb hby d18_0) rfl rfl k) ?_
  show Comes p e below _ (s₁.setTop (mkF m 1 #[.val (.ref self), .val (.int vv)] [(.ref self)]))
  obtain ⟨_, _, ⟨T1, L1, k1, n1⟩, -, X1, ⟨Lc1, hQ1, l1, y1, z1⟩, st1⟩ := X0.specialBack hx (y := (⟨"java/lang/Number", "<init>", "()V"⟩ : MethodName)) rfl hown (mvT hZ (hw _ (List.mem_of_getElem? (i := 125) rfl))) (mvT hZ (hw _ (List.mem_of_getElem? (i := 126) rfl))) (mvT hZ (hw _ (List.mem_of_getElem? (i := 130) rfl))) (by decide) (backOf (W := 0) (rm19 l Z a0 hw [] self h0 n0 (by omega)  ) hZ (hw _ (List.mem_of_getElem? (i := 130) rfl)) (hw _ (List.mem_of_getElem? (i := 129) rfl)) (by decide) (by decide)) (g := (mkF m 1 #[.val (.ref self), .val (.int vv)] [(.ref self)])) rfl (by rw [hml]; rfl) (Steps.refl _) (a := self) (argsL := []) (rest := []) (lenOf pd_0 rfl) rfl (by show 2 * 0 + _ ≤ _; exact Nat.le_of_eq rfl) (hb hby d18_1) (fun _ _ => ⟨rfl, e0, (by decide : 0 + 0 ≤ _), (by decide : 0 + 0 ≤ _)⟩)
  dsimp only [Pt.U, Pt.locs, Pt.cells, Pt.slots] at X1 l1 y1 z1 st1 hQ1
  subst l1 y1 z1
  obtain ⟨rfl, Nq1, hs1⟩ := hQ1
  have N1 := Fr.app N0 Nq1
  refine Comes.go st1 ?_
  show Comes p e below _ (T1.setTop (mkF m 4 #[.val (.ref self), .val (.int vv)] []))
  refine Comes.st (fun t k => XS.aloadN X1.here hx rfl (hb hby d18_4) rfl rfl (XS.iloadN X1.here hx rfl (hb hby d18_5) rfl k)) ?_
  show Comes p e below _ (T1.setTop (mkF m 6 #[.val (.ref self), .val (.int vv)] [(.int vv), (.ref self)]))
  obtain ⟨T2, h2, X2, e2, W2, st2⟩ := putF X1 hx hZ hown (host := "") (Or.inl (hw _ (List.mem_of_getElem? (i := 132) rfl))) Via.refl hs1 G1 G0 (Or.inr ⟨(hw _ (List.mem_of_getElem? (i := 133) rfl)), rfl, hnm⟩) (hw _ (List.mem_of_getElem? (i := 120) rfl)) (ty := .int) (by decide) rfl rfl (g := (mkF m 6 #[.val (.ref self), .val (.int vv)] [(.int vv), (.ref self)])) rfl rfl (hb hby d18_6)
  have Fw2 := G1.same W2
  have z2 : h2.size = h0.size := W2.size
  have gn3 : n0 ≤ self := by omega
  have N2 := Fr.snoc X2 N1 gn3
  have K2 : Keep h0 h2 [self] := K0.wr W2 (Or.inl (List.mem_of_getElem? (i := 0) rfl))
  refine Comes.st st2 ?_
  show Comes p e below _ (T2.setTop (mkF m 9 #[.val (.ref self), .val (.int vv)] []))
  have F4 : Exa Z h2 self "java/lang/Integer" := (G0.wr W2)
  exact Comes.ret0 X2 hx Bd.returns hlk (hb hby d18_9) e2 ⟨rfl, N2, K2, F4⟩ (by decide) (by decide)
def Q_rm7 (Z : State) (vv : Int32) (ca : Nat) (h0 : Heap) (n0 : Nat) (v : Option Value) (h : Heap) (L : List Loc) : Prop := ∃ (r : Nat), (v = some (.ref r)) ∧ (Fr n0 L) ∧ (Keep h0 h []) ∧ (Exa Z h r "java/lang/Integer")
set_option maxRecDepth 65536 in
set_option maxHeartbeats 40000000 in
theorem rm7 (l : Launch) (Z : State) (a0 : Array Value) (hw : ∀ d ∈ tables_1, d.before a0 Z = true) (ws : List Jvm.Cond) (vv : Int32) (ca : Nat) (h0 : Heap) (n0 : Nat) (Z0 : n0 ≤ h0.size) (G0 : Sta Z Z.heap "java/lang/Integer$IntegerCache" "high" "I" (.int (127 : Int32))) (G1 : Sta Z Z.heap "java/lang/Integer$IntegerCache" "cache" "[Ljava/lang/Integer;" (.ref ca)) (G2 : Old Z n0 h0) (G3 : own_cache Z ca "java/lang/Integer") :
    MetFree l (⟨"java/lang/Integer", "valueOf", "(I)Ljava/lang/Integer;"⟩ : MethodName) (head1 (Jvm.Cond.code (⟨"java/lang/Integer", "valueOf", "(I)Ljava/lang/Integer;"⟩ : MethodName) jdk_33_method_22_code 1 (some (.object "java/lang/Integer")) :: ws) ({ frames := 3, cells := 1, slots := 1, locals := 38 } : Room)) (fun a U => a = #[(.int vv)] ∧ Z.Warmed39 U.vm ∧ U.heap = h0) (fun _ _ _ _ _ => True) (fun _ U o U' => ∃ v L, o = .returned v ∧ Q_rm7 Z vv ca h0 n0 v U'.heap L ∧ FrameEnd U o U' L ({ frames := 3, cells := 1, slots := 1, locals := 38 } : Room).cells ({ frames := 3, cells := 1, slots := 1, locals := 38 } : Room).slots) := by
  refine MetFree.of_bodySF (plainFor_of_name pn_7) hisR ?_
  intro p e s m args below meth c s₁ Bd hml0 hP hK
  obtain ⟨rfl, hZ, hh⟩ := hP
  have hx := Bd.exec
  have hby := Bd.bytes
  have hml : c.maxLocals = 1 := hml0
  have hown : s.vm.findClass "java/lang/Integer" = some m.cls := findClass_of_methodNamed Bd.named
  have hnm := (name_of_methodNamed Bd.named Bd.method).1
  have hlk : meth.locks = false := Bd.notSynchronized
  have X0 : Stand p l e ({ frames := 3, cells := 1, slots := 1, locals := 38 } : Room) s m #[(.int vv)] below meth c s₁ [] 0 0 := Stand.of_body Bd
  have e0 : s₁.heap = h0 := by rw [← hh, Bd.state]; rfl
  have N0 := Fr.nil n0
  have K0 := Keep.refl h0 []
  refine Comes.out (Q := Q_rm7 Z vv ca h0 n0) (kc := ({ frames := 3, cells := 1, slots := 1, locals := 38 } : Room).cells) (ks := ({ frames := 3, cells := 1, slots := 1, locals := 38 } : Room).slots) ?_
  refine Comes.cast (ef_rm7 m vv) ?_
  show Comes p e below _ (s₁.setTop (mkF m 0 #[.val (.int vv)] []))
  refine Comes.st (fun t k => XS.iloadN X0.here hx rfl (hb hby d7_0) rfl (XS.bipush X0.here hx rfl (hb hby d7_1) k)) ?_
  show Comes p e below _ (s₁.setTop (mkF m 3 #[.val (.int vv)] [(.int (-128 : Int32)), (.int vv)]))
  by_cases hc3_1 : vv < (-128 : Int32)
  · refine Comes.st (fun t k => XS.icmpYes X0.here hx rfl (pc0 := 3) (pc' := 23) rfl (hb hby d7_3) rfl (tlt hc3_1).1 (by decide) (by decide) k) ?_
    show Comes p e below _ (s₁.setTop (mkF m 23 #[.val (.int vv)] []))
    obtain ⟨T2, h2, X2, e2, E2, A2, D2, -, st2⟩ := newO X0 hx hZ hown (hw _ (List.mem_of_getElem? (i := 119) rfl)) (hw _ (List.mem_of_getElem? (i := 120) rfl)) (hw _ (List.mem_of_getElem? (i := 42) rfl)) e0 (g := (mkF m 23 #[.val (.int vv)] [])) rfl (hb hby d7_23) (by decide) (by decide)
    obtain ⟨b2, g2⟩ : ∃ z, z = h0.size := ⟨_, rfl⟩
    rw [← g2] at A2 D2 st2
    have z2 : h0.size ≤ h2.size := E2.1
    have lt2 : b2 < h2.size := A2.lt
    have F3 : Fld Z h2 b2 "java/lang/Integer" "value" "I" (.int (0 : Int32)) := D2 (Or.inr (hw _ (List.mem_of_getElem? (i := 133) rfl))) (ty := .int) (by decide)
    have K2 : Keep h0 h2 [] := K0.ext E2
    refine Comes.st st2 ?_
    show Comes p e below _ (T2.setTop (mkF m 26 #[.val (.int vv)] [(.ref b2)]))
    refine Comes.st (fun t k => XS.dup X2.here hx rfl (hb hby d7_26) rfl rfl (XS.iloadN X2.here hx rfl (hb hby d7_27) rfl k)) ?_
    show Comes p e below _ (T2.setTop (mkF m 28 #[.val (.int vv)] [(.int vv), (.ref b2), (.ref b2)]))
    obtain ⟨_, _, ⟨T4, L4, k4, n4⟩, -, X4, ⟨Lc4, hQ4, l4, y4, z4⟩, st4⟩ := X2.specialBack hx (y := (⟨"java/lang/Integer", "<init>", "(I)V"⟩ : MethodName)) rfl hown (mvT hZ (hw _ (List.mem_of_getElem? (i := 121) rfl))) (mvT hZ (hw _ (List.mem_of_getElem? (i := 122) rfl))) (mvT hZ (hw _ (List.mem_of_getElem? (i := 124) rfl))) (by decide) (backOf (W := 1) (rm18 l Z a0 hw [] b2 vv h2 n0 (by omega)  A2 F3 (by omega)) hZ (hw _ (List.mem_of_getElem? (i := 124) rfl)) (hw _ (List.mem_of_getElem? (i := 42) rfl)) (by decide) (by decide)) (g := (mkF m 28 #[.val (.int vv)] [(.int vv), (.ref b2), (.ref b2)])) rfl (by rw [hml]; rfl) (Steps.refl _) (a := b2) (argsL := [(.int vv)]) (rest := [(.ref b2)]) (lenOf pd_1 rfl) rfl (by show 2 * 0 + _ ≤ _; exact Nat.le_of_eq rfl) (hb hby d7_28) (fun _ _ => ⟨rfl, e2, (by decide : 1 + 0 ≤ _), (by decide : 1 + 0 ≤ _)⟩)
    dsimp only [Pt.U, Pt.locs, Pt.cells, Pt.slots] at X4 l4 y4 z4 st4 hQ4
    subst l4 y4 z4
    obtain ⟨rfl, Nq4, Kq4, P4_0⟩ := hQ4
    have N4 := Fr.app N0 Nq4
    have z4k : h2.size ≤ T4.heap.size := Kq4.1
    have gz5 : h0.size ≤ b2 := by omega
    have K4 : Keep h0 T4.heap [] := K2.trans Kq4 (allS (Or.inr gz5) all0)
    refine Comes.go st4 ?_
    have lt_6 : b2 < T4.heap.size := P4_0.lt
    show Comes p e below _ (T4.setTop (mkF m 31 #[.val (.int vv)] [(.ref b2)]))
    exact Comes.retV X4 hx Bd.returns (narrow_ref rfl) (Or.inr (Or.inr (Or.inr (Or.inr ⟨rfl, rfl, rfl⟩)))) hlk (hb hby d7_31) rfl ⟨b2, rfl, N4, K4, P4_0⟩ (by decide) (by decide)
  · refine Comes.st (fun t k => XS.icmpNo X0.here hx rfl (hb hby d7_3) rfl (flt hc3_1).1 (XS.iloadN X0.here hx rfl (hb hby d7_6) rfl k)) ?_
    show Comes p e below _ (s₁.setTop (mkF m 7 #[.val (.int vv)] [(.int vv)]))
    obtain ⟨T7, X7, e7, st7⟩ := getS2 X0 hx hZ hown (host := "") (Or.inl (hw _ (List.mem_of_getElem? (i := 44) rfl))) Via.refl e0 (G0.ext G2.2) (g := (mkF m 7 #[.val (.int vv)] [(.int vv)])) rfl (hb hby d7_7)
    refine Comes.st st7 ?_
    show Comes p e below _ (T7.setTop (mkF m 10 #[.val (.int vv)] [(.int (127 : Int32)), (.int vv)]))
    by_cases hc10_8 : (127 : Int32) < vv
    · refine Comes.st (fun t k => XS.icmpYes X7.here hx rfl (pc0 := 10) (pc' := 23) rfl (hb hby d7_10) rfl (tlt hc10_8).2.2.1 (by decide) (by decide) k) ?_
      show Comes p e below _ (T7.setTop (mkF m 23 #[.val (.int vv)] []))
      obtain ⟨T9, h9, X9, e9, E9, A9, D9, -, st9⟩ := newO X7 hx hZ hown (hw _ (List.mem_of_getElem? (i := 119) rfl)) (hw _ (List.mem_of_getElem? (i := 120) rfl)) (hw _ (List.mem_of_getElem? (i := 42) rfl)) e7 (g := (mkF m 23 #[.val (.int vv)] [])) rfl (hb hby d7_23) (by decide) (by decide)
      obtain ⟨b9, g9⟩ : ∃ z, z = h0.size := ⟨_, rfl⟩
      rw [← g9] at A9 D9 st9
      have z9 : h0.size ≤ h9.size := E9.1
      have lt9 : b9 < h9.size := A9.lt
      have F10 : Fld Z h9 b9 "java/lang/Integer" "value" "I" (.int (0 : Int32)) := D9 (Or.inr (hw _ (List.mem_of_getElem? (i := 133) rfl))) (ty := .int) (by decide)
      have K9 : Keep h0 h9 [] := K0.ext E9
      refine Comes.st st9 ?_
      show Comes p e below _ (T9.setTop (mkF m 26 #[.val (.int vv)] [(.ref b9)]))
      refine Comes.st (fun t k => XS.dup X9.here hx rfl (hb hby d7_26) rfl rfl (XS.iloadN X9.here hx rfl (hb hby d7_27) rfl k)) ?_
      show Comes p e below _ (T9.setTop (mkF m 28 #[.val (.int vv)] [(.int vv), (.ref b9), (.ref b9)]))
      obtain ⟨_, _, ⟨T11, L11, k11, n11⟩, -, X11, ⟨Lc11, hQ11, l11, y11, z11⟩, st11⟩ := X9.specialBack hx (y := (⟨"java/lang/Integer", "<init>", "(I)V"⟩ : MethodName)) rfl hown (mvT hZ (hw _ (List.mem_of_getElem? (i := 121) rfl))) (mvT hZ (hw _ (List.mem_of_getElem? (i := 122) rfl))) (mvT hZ (hw _ (List.mem_of_getElem? (i := 124) rfl))) (by decide) (backOf (W := 1) (rm18 l Z a0 hw [] b9 vv h9 n0 (by omega)  A9 F10 (by omega)) hZ (hw _ (List.mem_of_getElem? (i := 124) rfl)) (hw _ (List.mem_of_getElem? (i := 42) rfl)) (by decide) (by decide)) (g := (mkF m 28 #[.val (.int vv)] [(.int vv), (.ref b9), (.ref b9)])) rfl (by rw [hml]; rfl) (Steps.refl _) (a := b9) (argsL := [(.int vv)]) (rest := [(.ref b9)]) (lenOf pd_1 rfl) rfl (by show 2 * 0 + _ ≤ _; exact Nat.le_of_eq rfl) (hb hby d7_28) (fun _ _ => ⟨rfl, e9, (by decide : 1 + 0 ≤ _), (by decide : 1 + 0 ≤ _)⟩)
      dsimp only [Pt.U, Pt.locs, Pt.cells, Pt.slots] at X11 l11 y11 z11 st11 hQ11
      subst l11 y11 z11
      obtain ⟨rfl, Nq11, Kq11, P11_0⟩ := hQ11
      have N11 := Fr.app N0 Nq11
      have z11k : h9.size ≤ T11.heap.size := Kq11.1
      have gz12 : h0.size ≤ b9 := by omega
      have K11 : Keep h0 T11.heap [] := K9.trans Kq11 (allS (Or.inr gz12) all0)
      refine Comes.go st11 ?_
      have lt_13 : b9 < T11.heap.size := P11_0.lt
      show Comes p e below _ (T11.setTop (mkF m 31 #[.val (.int vv)] [(.ref b9)]))
      exact Comes.retV X11 hx Bd.returns (narrow_ref rfl) (Or.inr (Or.inr (Or.inr (Or.inr ⟨rfl, rfl, rfl⟩)))) hlk (hb hby d7_31) rfl ⟨b9, rfl, N11, K11, P11_0⟩ (by decide) (by decide)
    · refine Comes.st (fun t k => XS.icmpNo X7.here hx rfl (hb hby d7_10) rfl (flt hc10_8).2.2.1 k) ?_
      show Comes p e below _ (T7.setTop (mkF m 13 #[.val (.int vv)] []))
      obtain ⟨T14, X14, e14, st14⟩ := getS2 X7 hx hZ hown (host := "") (Or.inl (hw _ (List.mem_of_getElem? (i := 46) rfl))) Via.refl e7 (G1.ext G2.2) (g := (mkF m 13 #[.val (.int vv)] [])) rfl (hb hby d7_13)
      refine Comes.st st14 ?_
      show Comes p e below _ (T14.setTop (mkF m 16 #[.val (.int vv)] [(.ref ca)]))
      refine Comes.st (fun t k => XS.iloadN X14.here hx rfl (hb hby d7_16) rfl (XS.sipush X14.here hx rfl (hb hby d7_17) (XS.iadd X14.here hx rfl (hb hby d7_20) rfl k))) ?_
      show Comes p e below _ (T14.setTop (mkF m 21 #[.val (.int vv)] [(.int (vv + (128 : Int32))), (.ref ca)]))
      obtain ⟨cl15, Ar15, S15, H15⟩ := id G3
      have b15 : 0 ≤ ((vv + (128 : Int32))).toInt ∧ ((vv + (128 : Int32))).toInt < ((256 : Nat) : Int) := by have a_0 := c_iadd vv (128 : Int32); have a_1 := rng32 (vv + (128 : Int32)); have a_2 := rng32 vv; have a_3 := rng32 vv; have a_4 := c_iadd vv (128 : Int32); have a_5 := rng32 (vv + (128 : Int32)); have c_0 := hc3_1; have c_1 := hc10_8; (try simp only [Int32.lt_iff_toInt_lt, Int64.lt_iff_toInt_lt, ← Int32.toInt_inj, ← Int64.toInt_inj, Int32.reduceToInt, Int64.reduceToInt, eq_self, and_true, true_and, or_true, true_or, and_false, false_and, or_false, false_or, not_true_eq_false, not_false_eq_true] at a_0 a_1 a_2 a_3 a_4 a_5 c_0 c_1 ⊢) <;> omega
      have hin15 := own_inb b15
      obtain ⟨o15, hat15, Eo15⟩ := H15 (vv + (128 : Int32)) (fun q => hin15 (Or.inl q)) (Nat.lt_of_not_le fun q => hin15 (Or.inr q))
      have Er15 := Ar15.ext G2.2
      have Ee15 := Eo15.ext G2.2
      rw [← S15] at hin15
      refine Comes.st (fun t k => X14.aaload hx (j := (vv + (128 : Int32))) (v := (.ref o15)) (by rw [e14]; exact Er15.1) (State.isArrayOf_alike hZ.alike Er15.2.1) rfl Er15.2.2 hin15 hat15 (g := (mkF m 21 #[.val (.int vv)] [(.int (vv + (128 : Int32))), (.ref ca)])) rfl rfl (hb hby d7_21) _ k) ?_
      have lt_o15 : o15 < h0.size := Ee15.lt
      show Comes p e below _ (T14.setTop (mkF m 22 #[.val (.int vv)] [(.ref o15)]))
      exact Comes.retV X14 hx Bd.returns (narrow_ref rfl) (Or.inr (Or.inr (Or.inr (Or.inr ⟨rfl, rfl, rfl⟩)))) hlk (hb hby d7_22) e14 ⟨o15, rfl, N0, K0, Ee15⟩ (by decide) (by decide)
def Q_rm12 (Z : State)  (h0 : Heap) (n0 : Nat) (v : Option Value) (h : Heap) (L : List Loc) : Prop := (v = some (.int (10 : Int32))) ∧ (Fr n0 L) ∧ (h = h0)
set_option maxRecDepth 65536 in
set_option maxHeartbeats 40000000 in
theorem rm12 (l : Launch) (Z : State) (a0 : Array Value) (hw : ∀ d ∈ tables_1, d.before a0 Z = true) (ws : List Jvm.Cond)  (h0 : Heap) (n0 : Nat) (Z0 : n0 ≤ h0.size) :
    MetFree l (⟨"java/lang/Math", "max", "(II)I"⟩ : MethodName) (head1 (Jvm.Cond.code (⟨"java/lang/Math", "max", "(II)I"⟩ : MethodName) jdk_29_method_65_code 2 (some .int) :: ws) ({ frames := 0, cells := 0, slots := 0, locals := 0 } : Room)) (fun a U => a = #[(.int (10 : Int32)), (.int (1 : Int32))] ∧ Z.Warmed39 U.vm ∧ U.heap = h0) (fun _ _ _ _ _ => True) (fun _ U o U' => ∃ v L, o = .returned v ∧ Q_rm12 Z  h0 n0 v U'.heap L ∧ FrameEnd U o U' L ({ frames := 0, cells := 0, slots := 0, locals := 0 } : Room).cells ({ frames := 0, cells := 0, slots := 0, locals := 0 } : Room).slots) := by
  refine MetFree.of_bodySF pn_12 hisR ?_
  intro p e s m args below meth c s₁ Bd hml0 hP hK
  obtain ⟨rfl, hZ, hh⟩ := hP
  have hx := Bd.exec
  have hby := Bd.bytes
  have hml : c.maxLocals = 2 := hml0
  have hown : s.vm.findClass "java/lang/Math" = some m.cls := findClass_of_methodNamed Bd.named
  have hnm := (name_of_methodNamed Bd.named Bd.method).1
  have hlk : meth.locks = false := Bd.notSynchronized
  have X0 : Stand p l e ({ frames := 0, cells := 0, slots := 0, locals := 0 } : Room) s m #[(.int (10 : Int32)), (.int (1 : Int32))] below meth c s₁ [] 0 0 := Stand.of_body Bd
  have e0 : s₁.heap = h0 := by rw [← hh, Bd.state]; rfl
  have N0 := Fr.nil n0
  refine Comes.out (Q := Q_rm12 Z  h0 n0) (kc := ({ frames := 0, cells := 0, slots := 0, locals := 0 } : Room).cells) (ks := ({ frames := 0, cells := 0, slots := 0, locals := 0 } : Room).slots) ?_
  refine Comes.cast (ef_rm12 m ) ?_
  show Comes p e below _ (s₁.setTop (mkF m 0 #[.val (.int (10 : Int32)), .val (.int (1 : Int32))] []))
  refine Comes.st (fun t k => XS.iloadN X0.here hx rfl (hb hby d12_0) rfl (XS.iloadN X0.here hx rfl (hb hby d12_1) rfl k)) ?_
  show Comes p e below _ (s₁.setTop (mkF m 2 #[.val (.int (10 : Int32)), .val (.int (1 : Int32))] [(.int (1 : Int32)), (.int (10 : Int32))]))
  have hc2_1 : ¬ ((10 : Int32) < (1 : Int32)) := by decide
  refine Comes.st (fun t k => XS.icmpNo X0.here hx rfl (hb hby d12_2) rfl (flt hc2_1).1 (XS.iloadN X0.here hx rfl (hb hby d12_5) rfl (XS.goto X0.here hx rfl (pc0 := 6) (pc' := 10) rfl (hb hby d12_6) (by decide) (by decide) k))) ?_
  show Comes p e below _ (s₁.setTop (mkF m 10 #[.val (.int (10 : Int32)), .val (.int (1 : Int32))] [(.int (10 : Int32))]))
  exact Comes.retV X0 hx Bd.returns rfl (Or.inl ⟨rfl, Or.inl rfl, _, rfl⟩) hlk (hb hby d12_10) e0 ⟨rfl, N0, rfl⟩ (by decide) (by decide)
def Q_rm11 (Z : State) (self : Nat) (dc : Nat) (kd : ClassId) (h0 : Heap) (n0 : Nat) (v : Option Value) (h : Heap) (L : List Loc) : Prop := ∃ (r : Nat), ∃ (kr : ClassId), (v = some (.ref r)) ∧ (Fr n0 L) ∧ (Keep h0 h [self]) ∧ (Exa Z h self "java/util/ArrayList") ∧ (Fld Z h self "java/util/ArrayList" "elementData" "[Ljava/lang/Object;" (.ref r)) ∧ (Fld Z h self "java/util/ArrayList" "size" "I" (.int (0 : Int32))) ∧ (Arv Z h r kr (.object "java/lang/Object") (10 : Int32) [.null, .null, .null, .null, .null, .null, .null, .null, .null, .null] .null) ∧ (Ovr Z kr "java/lang/Object") ∧ (n0 ≤ r) ∧ (h0.size ≤ r)
set_option maxRecDepth 65536 in
set_option maxHeartbeats 40000000 in
theorem rm11 (l : Launch) (Z : State) (a0 : Array Value) (hw : ∀ d ∈ tables_1, d.before a0 Z = true) (ws : List Jvm.Cond) (self : Nat) (dc : Nat) (kd : ClassId) (h0 : Heap) (n0 : Nat) (Z0 : n0 ≤ h0.size) (G0 : Exa Z h0 self "java/util/ArrayList") (G1 : Fld Z h0 self "java/util/ArrayList" "elementData" "[Ljava/lang/Object;" (.ref dc)) (G2 : Fld Z h0 self "java/util/ArrayList" "size" "I" (.int (0 : Int32))) (G3 : Arv Z h0 dc kd (.object "java/lang/Object") (0 : Int32) [] .null) (G4 : Sta Z Z.heap "java/util/ArrayList" "DEFAULTCAPACITY_EMPTY_ELEMENTDATA" "[Ljava/lang/Object;" (.ref dc)) (G5 : Old Z n0 h0) (G6 : n0 ≤ self) (G7 : dc ≠ self) :
    MetFree l (⟨"java/util/ArrayList", "grow", "(I)[Ljava/lang/Object;"⟩ : MethodName) (head1 (Jvm.Cond.code (⟨"java/util/ArrayList", "grow", "(I)[Ljava/lang/Object;"⟩ : MethodName) jdk_38_method_6_code 4 (some (.array (.object "java/lang/Object"))) :: ws) ({ frames := 1, cells := 1, slots := 10, locals := 14 } : Room)) (fun a U => a = #[(.ref self), (.int (1 : Int32))] ∧ Z.Warmed39 U.vm ∧ U.heap = h0) (fun _ _ _ _ _ => True) (fun _ U o U' => ∃ v L, o = .returned v ∧ Q_rm11 Z self dc kd h0 n0 v U'.heap L ∧ FrameEnd U o U' L ({ frames := 1, cells := 1, slots := 10, locals := 14 } : Room).cells ({ frames := 1, cells := 1, slots := 10, locals := 14 } : Room).slots) := by
  refine MetFree.of_bodySF (plainFor_of_name pn_11) hisR ?_
  intro p e s m args below meth c s₁ Bd hml0 hP hK
  obtain ⟨rfl, hZ, hh⟩ := hP
  have hx := Bd.exec
  have hby := Bd.bytes
  have hml : c.maxLocals = 4 := hml0
  have hown : s.vm.findClass "java/util/ArrayList" = some m.cls := findClass_of_methodNamed Bd.named
  have hnm := (name_of_methodNamed Bd.named Bd.method).1
  have hlk : meth.locks = false := Bd.notSynchronized
  have X0 : Stand p l e ({ frames := 1, cells := 1, slots := 10, locals := 14 } : Room) s m #[(.ref self), (.int (1 : Int32))] below meth c s₁ [] 0 0 := Stand.of_body Bd
  have e0 : s₁.heap = h0 := by rw [← hh, Bd.state]; rfl
  have N0 := Fr.nil n0
  have K0 := Keep.refl h0 [self]
  refine Comes.out (Q := Q_rm11 Z self dc kd h0 n0) (kc := ({ frames := 1, cells := 1, slots := 10, locals := 14 } : Room).cells) (ks := ({ frames := 1, cells := 1, slots := 10, locals := 14 } : Room).slots) ?_
  refine Comes.cast (ef_rm11 m self) ?_
  have lt_self : self < h0.size := G0.lt
  have lt_dc : dc < h0.size := G3.lt
  show Comes p e below _ (s₁.setTop (mkF m 0 #[.val (.ref self), .val (.int (1 : Int32)), .unset, .unset] []))
  refine Comes.st (fun t k => XS.aloadN X0.here hx rfl (hb hby d11_0) rfl rfl k) ?_
  show Comes p e below _ (s₁.setTop (mkF m 1 #[.val (.ref self), .val (.int (1 : Int32)), .unset, .unset] [(.ref self)]))
  obtain ⟨T1, X1, e1, st1⟩ := getF X0 hx hZ hown (host := "") (Or.inl (hw _ (List.mem_of_getElem? (i := 38) rfl))) Via.refl e0 G1 (g := (mkF m 1 #[.val (.ref self), .val (.int (1 : Int32)), .unset, .unset] [(.ref self)])) rfl rfl (hb hby d11_1)
  refine Comes.st st1 ?_
  show Comes p e below _ (T1.setTop (mkF m 4 #[.val (.ref self), .val (.int (1 : Int32)), .unset, .unset] [(.ref dc)]))
  obtain ⟨cl2, Ar2, -, S2, Ng2, -, -⟩ := id G3
  refine Comes.st (fun t k => X1.arraylength hx (by rw [e1]; exact Ar2.1) (State.isArrayOf_alike hZ.alike Ar2.2.1) (g := (mkF m 4 #[.val (.ref self), .val (.int (1 : Int32)), .unset, .unset] [(.ref dc)])) rfl rfl (hb hby d11_4) _ k) ?_
  rw [len_of S2 Ng2]
  show Comes p e below _ (T1.setTop (mkF m 5 #[.val (.ref self), .val (.int (1 : Int32)), .unset, .unset] [(.int (0 : Int32))]))
  refine Comes.st (fun t k => XS.istoreN X1.here hx rfl (hb hby d11_5) rfl (l' := #[.val (.ref self), .val (.int (1 : Int32)), .val (.int (0 : Int32)), .unset]) rfl (XS.iloadN X1.here hx rfl (hb hby d11_6) rfl k)) ?_
  show Comes p e below _ (T1.setTop (mkF m 7 #[.val (.ref self), .val (.int (1 : Int32)), .val (.int (0 : Int32)), .unset] [(.int (0 : Int32))]))
  have hc7_3 : ¬ ((0 : Int32) < (0 : Int32)) := by decide
  refine Comes.st (fun t k => XS.ifNo X1.here hx rfl (hb hby d11_7) rfl ((if0 _ _).trans (flt hc7_3).2.2.1) (XS.aloadN X1.here hx rfl (hb hby d11_10) rfl rfl k)) ?_
  show Comes p e below _ (T1.setTop (mkF m 11 #[.val (.ref self), .val (.int (1 : Int32)), .val (.int (0 : Int32)), .unset] [(.ref self)]))
  obtain ⟨T4, X4, e4, st4⟩ := getF X1 hx hZ hown (host := "") (Or.inl (hw _ (List.mem_of_getElem? (i := 38) rfl))) Via.refl e1 G1 (g := (mkF m 11 #[.val (.ref self), .val (.int (1 : Int32)), .val (.int (0 : Int32)), .unset] [(.ref self)])) rfl rfl (hb hby d11_11)
  refine Comes.st st4 ?_
  show Comes p e below _ (T4.setTop (mkF m 14 #[.val (.ref self), .val (.int (1 : Int32)), .val (.int (0 : Int32)), .unset] [(.ref dc)]))
  obtain ⟨T5, X5, e5, st5⟩ := getS2 X4 hx hZ hown (host := "") (Or.inl (hw _ (List.mem_of_getElem? (i := 37) rfl))) Via.refl e4 (G4.ext G5.2) (g := (mkF m 14 #[.val (.ref self), .val (.int (1 : Int32)), .val (.int (0 : Int32)), .unset] [(.ref dc)])) rfl (hb hby d11_14)
  refine Comes.st st5 ?_
  show Comes p e below _ (T5.setTop (mkF m 17 #[.val (.ref self), .val (.int (1 : Int32)), .val (.int (0 : Int32)), .unset] [(.ref dc), (.ref dc)]))
  have hc17_6 : dc = dc := by rfl
  refine Comes.st (fun t k => Jvm.RoadKit.acmp (g := (mkF m 17 #[.val (.ref self), .val (.int (1 : Int32)), .val (.int (0 : Int32)), .unset] [(.ref dc), (.ref dc)])) X5 hx rfl rfl rfl (pc0 := 17) (pc' := 45) (same := true) rfl (hb hby d11_17) rfl (decide_eq_true (congrArg Value.ref hc17_6)) (by decide) (by decide) (XS.aloadN X5.here hx rfl (hb hby d11_45) rfl rfl (XS.bipush X5.here hx rfl (hb hby d11_46) (XS.iloadN X5.here hx rfl (hb hby d11_48) rfl k)))) ?_
  show Comes p e below _ (T5.setTop (mkF m 49 #[.val (.ref self), .val (.int (1 : Int32)), .val (.int (0 : Int32)), .unset] [(.int (1 : Int32)), (.int (10 : Int32)), (.ref self)]))
  obtain ⟨_, _, ⟨T7, L7, k7, n7⟩, -, X7, ⟨Lc7, hQ7, l7, y7, z7⟩, st7⟩ := Jvm.LawKit.callS X5 hx (y := (⟨"java/lang/Math", "max", "(II)I"⟩ : MethodName)) hown (mvT hZ (hw _ (List.mem_of_getElem? (i := 71) rfl))) (mvT hZ (hw _ (List.mem_of_getElem? (i := 72) rfl))) (mvT hZ (hw _ (List.mem_of_getElem? (i := 73) rfl))) (mvT hZ (hw _ (List.mem_of_getElem? (i := 74) rfl))) (by decide) (backOf (W := 1) (rm12 l Z a0 hw []  h0 n0 (by omega)  ) hZ (hw _ (List.mem_of_getElem? (i := 74) rfl)) (hw _ (List.mem_of_getElem? (i := 73) rfl)) (by decide) (by decide)) (g := (mkF m 49 #[.val (.ref self), .val (.int (1 : Int32)), .val (.int (0 : Int32)), .unset] [(.int (1 : Int32)), (.int (10 : Int32)), (.ref self)])) rfl (by rw [hml]; rfl) (argsL := [(.int (10 : Int32)), (.int (1 : Int32))]) (rest := [(.ref self)]) (lenOf pd_2 rfl) rfl (by show 2 * 0 + _ ≤ _; exact Nat.le_of_eq rfl) (hb hby d11_49) (fun _ _ => ⟨rfl, e5, (by decide : 0 + 0 ≤ _), (by decide : 0 + 0 ≤ _)⟩)
  dsimp only [Pt.U, Pt.locs, Pt.cells, Pt.slots] at X7 l7 y7 z7 st7 hQ7
  subst l7 y7 z7
  obtain ⟨rfl, Nq7, hs7⟩ := hQ7
  have N7 := Fr.app N0 Nq7
  refine Comes.st st7 ?_
  show Comes p e below _ (T7.setTop (mkF m 52 #[.val (.ref self), .val (.int (1 : Int32)), .val (.int (0 : Int32)), .unset] [(.int (10 : Int32)), (.ref self)]))
  obtain ⟨T8, h8, k8, X8, e8, E8, A8, O8, st8⟩ := newR X7 hx hZ hown (hw _ (List.mem_of_getElem? (i := 75) rfl)) (hw _ (List.mem_of_getElem? (i := 76) rfl)) hs7 (g := (mkF m 52 #[.val (.ref self), .val (.int (1 : Int32)), .val (.int (0 : Int32)), .unset] [(.int (10 : Int32)), (.ref self)])) rfl (hb hby d11_52) rfl (by decide) (cap := 10) (by decide) (by decide) (by decide) (by decide)
  obtain ⟨b8, g8⟩ : ∃ z, z = h0.size := ⟨_, rfl⟩
  rw [← g8] at A8 st8
  have z8 : h0.size ≤ h8.size := E8.1
  have lt8 : b8 < h8.size := A8.lt
  have V8 : Arv Z h8 b8 k8 (.object "java/lang/Object") (10 : Int32) [.null, .null, .null, .null, .null, .null, .null, .null, .null, .null] .null := (Arv.new A8 (by decide)).pad (pad_rep [] .null 10)
  have K8 : Keep h0 h8 [self] := K0.ext E8
  refine Comes.st st8 ?_
  show Comes p e below _ (T8.setTop (mkF m 55 #[.val (.ref self), .val (.int (1 : Int32)), .val (.int (0 : Int32)), .unset] [(.ref b8), (.ref self)]))
  refine Comes.st (fun t k => XS.dupX1 X8.here hx rfl (hb hby d11_55) rfl rfl rfl k) ?_
  show Comes p e below _ (T8.setTop (mkF m 56 #[.val (.ref self), .val (.int (1 : Int32)), .val (.int (0 : Int32)), .unset] [(.ref b8), (.ref self), (.ref b8)]))
  have F9 : Exa Z h8 self "java/util/ArrayList" := (G0.ext E8)
  have F10 : Fld Z h8 self "java/util/ArrayList" "elementData" "[Ljava/lang/Object;" (.ref dc) := (G1.ext E8)
  obtain ⟨T11, h11, X11, e11, W11, st11⟩ := putF X8 hx hZ hown (host := "") (Or.inl (hw _ (List.mem_of_getElem? (i := 38) rfl))) Via.refl e8 F10 F9 (Or.inl (hw _ (List.mem_of_getElem? (i := 39) rfl))) (hw _ (List.mem_of_getElem? (i := 17) rfl)) (ty := (.array (.object "java/lang/Object"))) (by decide) rfl rfl (g := (mkF m 56 #[.val (.ref self), .val (.int (1 : Int32)), .val (.int (0 : Int32)), .unset] [(.ref b8), (.ref self), (.ref b8)])) rfl rfl (hb hby d11_56)
  have Fw11 := F10.same W11
  have z11 : h11.size = h8.size := W11.size
  have gn12 : n0 ≤ self := by omega
  have N11 := Fr.snoc X11 N7 gn12
  have K11 : Keep h0 h11 [self] := K8.wr W11 (Or.inl (List.mem_of_getElem? (i := 0) rfl))
  refine Comes.st st11 ?_
  show Comes p e below _ (T11.setTop (mkF m 59 #[.val (.ref self), .val (.int (1 : Int32)), .val (.int (0 : Int32)), .unset] [(.ref b8)]))
  have F13 : Exa Z h11 self "java/util/ArrayList" := (F9.wr W11)
  have F14 : Fld Z h11 self "java/util/ArrayList" "size" "I" (.int (0 : Int32)) := ((G2.ext E8).other W11 (Or.inr (slot_ne (Or.inl (hw _ (List.mem_of_getElem? (i := 55) rfl))) (Or.inl (hw _ (List.mem_of_getElem? (i := 39) rfl))) (by decide) (t := .int) (t' := (.array (.object "java/lang/Object"))) (by decide) (by decide))))
  have ne15 : b8 ≠ self := by omega
  have F16 : Arv Z h11 b8 k8 (.object "java/lang/Object") (10 : Int32) [.null, .null, .null, .null, .null, .null, .null, .null, .null, .null] .null := (V8.other W11 ne15)
  exact Comes.retV X11 hx Bd.returns (narrow_ref rfl) (Or.inr (Or.inr (Or.inr (Or.inr ⟨rfl, rfl, rfl⟩)))) hlk (hb hby d11_59) e11 ⟨b8, k8, rfl, N11, K11, F13, Fw11, F14, F16, O8, (by omega), (by omega)⟩ (by decide) (by decide)
def Q_rm10 (Z : State) (self : Nat) (dc : Nat) (kd : ClassId) (h0 : Heap) (n0 : Nat) (v : Option Value) (h : Heap) (L : List Loc) : Prop := ∃ (r : Nat), ∃ (kr : ClassId), (v = some (.ref r)) ∧ (Fr n0 L) ∧ (Keep h0 h [self]) ∧ (Exa Z h self "java/util/ArrayList") ∧ (Fld Z h self "java/util/ArrayList" "elementData" "[Ljava/lang/Object;" (.ref r)) ∧ (Fld Z h self "java/util/ArrayList" "size" "I" (.int (0 : Int32))) ∧ (Arv Z h r kr (.object "java/lang/Object") (10 : Int32) [.null, .null, .null, .null, .null, .null, .null, .null, .null, .null] .null) ∧ (Ovr Z kr "java/lang/Object") ∧ (n0 ≤ r) ∧ (h0.size ≤ r)
set_option maxRecDepth 65536 in
set_option maxHeartbeats 40000000 in
theorem rm10 (l : Launch) (Z : State) (a0 : Array Value) (hw : ∀ d ∈ tables_1, d.before a0 Z = true) (ws : List Jvm.Cond) (self : Nat) (dc : Nat) (kd : ClassId) (h0 : Heap) (n0 : Nat) (Z0 : n0 ≤ h0.size) (G0 : Exa Z h0 self "java/util/ArrayList") (G1 : Fld Z h0 self "java/util/ArrayList" "elementData" "[Ljava/lang/Object;" (.ref dc)) (G2 : Fld Z h0 self "java/util/ArrayList" "size" "I" (.int (0 : Int32))) (G3 : Arv Z h0 dc kd (.object "java/lang/Object") (0 : Int32) [] .null) (G4 : Sta Z Z.heap "java/util/ArrayList" "DEFAULTCAPACITY_EMPTY_ELEMENTDATA" "[Ljava/lang/Object;" (.ref dc)) (G5 : Old Z n0 h0) (G6 : n0 ≤ self) (G7 : dc ≠ self) :
    MetFree l (⟨"java/util/ArrayList", "grow", "()[Ljava/lang/Object;"⟩ : MethodName) (head1 (Jvm.Cond.code (⟨"java/util/ArrayList", "grow", "()[Ljava/lang/Object;"⟩ : MethodName) jdk_38_method_7_code 1 (some (.array (.object "java/lang/Object"))) :: ws) ({ frames := 2, cells := 1, slots := 10, locals := 29 } : Room)) (fun a U => a = #[(.ref self)] ∧ Z.Warmed39 U.vm ∧ U.heap = h0) (fun _ _ _ _ _ => True) (fun _ U o U' => ∃ v L, o = .returned v ∧ Q_rm10 Z self dc kd h0 n0 v U'.heap L ∧ FrameEnd U o U' L ({ frames := 2, cells := 1, slots := 10, locals := 29 } : Room).cells ({ frames := 2, cells := 1, slots := 10, locals := 29 } : Room).slots) := by
  refine MetFree.of_bodySF (plainFor_of_name pn_10) hisR ?_
  intro p e s m args below meth c s₁ Bd hml0 hP hK
  obtain ⟨rfl, hZ, hh⟩ := hP
  have hx := Bd.exec
  have hby := Bd.bytes
  have hml : c.maxLocals = 1 := hml0
  have hown : s.vm.findClass "java/util/ArrayList" = some m.cls := findClass_of_methodNamed Bd.named
  have hnm := (name_of_methodNamed Bd.named Bd.method).1
  have hlk : meth.locks = false := Bd.notSynchronized
  have X0 : Stand p l e ({ frames := 2, cells := 1, slots := 10, locals := 29 } : Room) s m #[(.ref self)] below meth c s₁ [] 0 0 := Stand.of_body Bd
  have e0 : s₁.heap = h0 := by rw [← hh, Bd.state]; rfl
  have N0 := Fr.nil n0
  have K0 := Keep.refl h0 [self]
  refine Comes.out (Q := Q_rm10 Z self dc kd h0 n0) (kc := ({ frames := 2, cells := 1, slots := 10, locals := 29 } : Room).cells) (ks := ({ frames := 2, cells := 1, slots := 10, locals := 29 } : Room).slots) ?_
  refine Comes.cast (ef_rm10 m self) ?_
  have lt_self : self < h0.size := G0.lt
  have lt_dc : dc < h0.size := G3.lt
  show Comes p e below _ (s₁.setTop (mkF m 0 #[.val (.ref self)] []))
  refine Comes.st (fun t k => XS.aloadN X0.here hx rfl (hb hby d10_0) rfl rfl (XS.aloadN X0.here hx rfl (hb hby d10_1) rfl rfl k)) ?_
  show Comes p e below _ (s₁.setTop (mkF m 2 #[.val (.ref self)] [(.ref self), (.ref self)]))
  obtain ⟨T1, X1, e1, st1⟩ := getF X0 hx hZ hown (host := "") (Or.inl (hw _ (List.mem_of_getElem? (i := 54) rfl))) Via.refl e0 G2 (g := (mkF m 2 #[.val (.ref self)] [(.ref self), (.ref self)])) rfl rfl (hb hby d10_2)
  refine Comes.st st1 ?_
  show Comes p e below _ (T1.setTop (mkF m 5 #[.val (.ref self)] [(.int (0 : Int32)), (.ref self)]))
  refine Comes.st (fun t k => XS.iconst X1.here hx rfl (hb hby d10_5) (XS.iadd X1.here hx rfl (hb hby d10_6) rfl k)) ?_
  show Comes p e below _ (T1.setTop (mkF m 7 #[.val (.ref self)] [(.int ((0 : Int32) + (1 : Int32))), (.ref self)]))
  rw [show ((0 : Int32) + (1 : Int32)) = (1 : Int32) from by decide]
  show Comes p e below _ (T1.setTop (mkF m 7 #[.val (.ref self)] [(.int (1 : Int32)), (.ref self)]))
  obtain ⟨cq2, q2, q2'⟩ := G0.cell
  obtain ⟨_, _, ⟨T2, L2, k2, n2⟩, -, X2, ⟨Lc2, hQ2, l2, y2, z2⟩, st2⟩ := X1.privateBack hx (y := (⟨"java/util/ArrayList", "grow", "(I)[Ljava/lang/Object;"⟩ : MethodName)) hown (mvT hZ (hw _ (List.mem_of_getElem? (i := 66) rfl))) (mvT hZ (hw _ (List.mem_of_getElem? (i := 67) rfl))) (mvT hZ (hw _ (List.mem_of_getElem? (i := 69) rfl))) (Cond.privateMethod_at (mvP hZ (hw _ (List.mem_of_getElem? (i := 68) rfl)) (args := #[]))) (mvT hZ (hw _ (List.mem_of_getElem? (i := 70) rfl))) (by decide) (backOf (W := 0) (rm11 l Z a0 hw [] self dc kd h0 n0 (by omega)  G0 G1 G2 G3 G4 G5 (by omega) G7) hZ (hw _ (List.mem_of_getElem? (i := 70) rfl)) (hw _ (List.mem_of_getElem? (i := 18) rfl)) (by decide) (by decide)) (g := (mkF m 7 #[.val (.ref self)] [(.int (1 : Int32)), (.ref self)])) rfl (by rw [hml]; rfl) (Steps.refl _) (a := self) (by rw [e1]; exact q2) q2' (argsL := [(.int (1 : Int32))]) (rest := []) (lenOf pd_3 rfl) rfl (by show 2 * 0 + _ ≤ _; exact Nat.le_of_eq rfl) (hb hby d10_7) (fun _ _ => ⟨rfl, e1, (by decide : 0 + 1 ≤ _), (by decide : 0 + 10 ≤ _)⟩)
  dsimp only [Pt.U, Pt.locs, Pt.cells, Pt.slots] at X2 l2 y2 z2 st2 hQ2
  subst l2 y2 z2
  obtain ⟨o3, r4, rfl, Nq2, Kq2, P2_0, P2_1, P2_2, P2_3, P2_4, P2_5, P2_6⟩ := hQ2
  have N2 := Fr.app N0 Nq2
  have z2k : h0.size ≤ T2.heap.size := Kq2.1
  have K2 : Keep h0 T2.heap [self] := K0.trans Kq2 (allS (Or.inl (List.mem_of_getElem? (i := 0) rfl)) all0)
  refine Comes.go st2 ?_
  have lt_5 : o3 < T2.heap.size := P2_3.lt
  show Comes p e below _ (T2.setTop (mkF m 10 #[.val (.ref self)] [(.ref o3)]))
  exact Comes.retV X2 hx Bd.returns (narrow_ref rfl) (Or.inr (Or.inr (Or.inr (Or.inr ⟨rfl, rfl, rfl⟩)))) hlk (hb hby d10_10) rfl ⟨o3, r4, rfl, N2, K2, P2_0, P2_1, P2_2, P2_3, P2_4, (by omega), (by omega)⟩ (by decide) (by decide)
def Q_rm9 (Z : State) (self : Nat) (ob : Nat) (dc : Nat) (kd : ClassId) (h0 : Heap) (n0 : Nat) (v : Option Value) (h : Heap) (L : List Loc) : Prop := (v = none) ∧ (Fr n0 L) ∧ (Keep h0 h [self]) ∧ (Exa Z h self "java/util/ArrayList")
set_option maxRecDepth 65536 in
set_option maxHeartbeats 40000000 in
theorem rm9 (l : Launch) (Z : State) (a0 : Array Value) (hw : ∀ d ∈ tables_1, d.before a0 Z = true) (ws : List Jvm.Cond) (self : Nat) (ob : Nat) (dc : Nat) (kd : ClassId) (h0 : Heap) (n0 : Nat) (Z0 : n0 ≤ h0.size) (G0 : Exa Z h0 self "java/util/ArrayList") (G1 : Fld Z h0 self "java/util/ArrayList" "elementData" "[Ljava/lang/Object;" (.ref dc)) (G2 : Fld Z h0 self "java/util/ArrayList" "size" "I" (.int (0 : Int32))) (G3 : Arv Z h0 dc kd (.object "java/lang/Object") (0 : Int32) [] .null) (G4 : Sta Z Z.heap "java/util/ArrayList" "DEFAULTCAPACITY_EMPTY_ELEMENTDATA" "[Ljava/lang/Object;" (.ref dc)) (G5 : Old Z n0 h0) (G6 : n0 ≤ self) (G7 : dc ≠ self) (G8 : Exa Z h0 ob "java/lang/Integer") :
    MetFree l (⟨"java/util/ArrayList", "add", "(Ljava/lang/Object;[Ljava/lang/Object;I)V"⟩ : MethodName) (head1 (Jvm.Cond.code (⟨"java/util/ArrayList", "add", "(Ljava/lang/Object;[Ljava/lang/Object;I)V"⟩ : MethodName) jdk_38_method_24_code 4 none :: ws) ({ frames := 3, cells := 1, slots := 10, locals := 41 } : Room)) (fun a U => a = #[(.ref self), (.ref ob), (.ref dc), (.int (0 : Int32))] ∧ Z.Warmed39 U.vm ∧ U.heap = h0) (fun _ _ _ _ _ => True) (fun _ U o U' => ∃ v L, o = .returned v ∧ Q_rm9 Z self ob dc kd h0 n0 v U'.heap L ∧ FrameEnd U o U' L ({ frames := 3, cells := 1, slots := 10, locals := 41 } : Room).cells ({ frames := 3, cells := 1, slots := 10, locals := 41 } : Room).slots) := by
  refine MetFree.of_bodySF (plainFor_of_name pn_9) hisR ?_
  intro p e s m args below meth c s₁ Bd hml0 hP hK
  obtain ⟨rfl, hZ, hh⟩ := hP
  have hx := Bd.exec
  have hby := Bd.bytes
  have hml : c.maxLocals = 4 := hml0
  have hown : s.vm.findClass "java/util/ArrayList" = some m.cls := findClass_of_methodNamed Bd.named
  have hnm := (name_of_methodNamed Bd.named Bd.method).1
  have hlk : meth.locks = false := Bd.notSynchronized
  have X0 : Stand p l e ({ frames := 3, cells := 1, slots := 10, locals := 41 } : Room) s m #[(.ref self), (.ref ob), (.ref dc), (.int (0 : Int32))] below meth c s₁ [] 0 0 := Stand.of_body Bd
  have e0 : s₁.heap = h0 := by rw [← hh, Bd.state]; rfl
  have N0 := Fr.nil n0
  have K0 := Keep.refl h0 [self]
  refine Comes.out (Q := Q_rm9 Z self ob dc kd h0 n0) (kc := ({ frames := 3, cells := 1, slots := 10, locals := 41 } : Room).cells) (ks := ({ frames := 3, cells := 1, slots := 10, locals := 41 } : Room).slots) ?_
  refine Comes.cast (ef_rm9 m self ob dc) ?_
  have lt_self : self < h0.size := G0.lt
  have lt_dc : dc < h0.size := G3.lt
  have lt_ob : ob < h0.size := G8.lt
  show Comes p e below _ (s₁.setTop (mkF m 0 #[.val (.ref self), .val (.ref ob), .val (.ref dc), .val (.int (0 : Int32))] []))
  refine Comes.st (fun t k => XS.iloadN X0.here hx rfl (hb hby d9_0) rfl (XS.aloadN X0.here hx rfl (hb hby d9_1) rfl rfl k)) ?_
  show Comes p e below _ (s₁.setTop (mkF m 2 #[.val (.ref self), .val (.ref ob), .val (.ref dc), .val (.int (0 : Int32))] [(.ref dc), (.int (0 : Int32))]))
  obtain ⟨cl1, Ar1, -, S1, Ng1, -, -⟩ := id G3
  refine Comes.st (fun t k => X0.arraylength hx (by rw [e0]; exact Ar1.1) (State.isArrayOf_alike hZ.alike Ar1.2.1) (g := (mkF m 2 #[.val (.ref self), .val (.ref ob), .val (.ref dc), .val (.int (0 : Int32))] [(.ref dc), (.int (0 : Int32))])) rfl rfl (hb hby d9_2) _ k) ?_
  rw [len_of S1 Ng1]
  show Comes p e below _ (s₁.setTop (mkF m 3 #[.val (.ref self), .val (.ref ob), .val (.ref dc), .val (.int (0 : Int32))] [(.int (0 : Int32)), (.int (0 : Int32))]))
  have hc3_2 : (0 : Int32) = (0 : Int32) := by decide
  refine Comes.st (fun t k => XS.icmpNo X0.here hx rfl (hb hby d9_3) rfl (teq hc3_2).2 (XS.aloadN X0.here hx rfl (hb hby d9_6) rfl rfl k)) ?_
  show Comes p e below _ (s₁.setTop (mkF m 7 #[.val (.ref self), .val (.ref ob), .val (.ref dc), .val (.int (0 : Int32))] [(.ref self)]))
  obtain ⟨cq3, q3, q3'⟩ := G0.cell
  obtain ⟨_, _, ⟨T3, L3, k3, n3⟩, -, X3, ⟨Lc3, hQ3, l3, y3, z3⟩, st3⟩ := X0.privateBack hx (y := (⟨"java/util/ArrayList", "grow", "()[Ljava/lang/Object;"⟩ : MethodName)) hown (mvT hZ (hw _ (List.mem_of_getElem? (i := 61) rfl))) (mvT hZ (hw _ (List.mem_of_getElem? (i := 62) rfl))) (mvT hZ (hw _ (List.mem_of_getElem? (i := 64) rfl))) (Cond.privateMethod_at (mvP hZ (hw _ (List.mem_of_getElem? (i := 63) rfl)) (args := #[]))) (mvT hZ (hw _ (List.mem_of_getElem? (i := 65) rfl))) (by decide) (backOf (W := 0) (rm10 l Z a0 hw [] self dc kd h0 n0 (by omega)  G0 G1 G2 G3 G4 G5 (by omega) G7) hZ (hw _ (List.mem_of_getElem? (i := 65) rfl)) (hw _ (List.mem_of_getElem? (i := 18) rfl)) (by decide) (by decide)) (g := (mkF m 7 #[.val (.ref self), .val (.ref ob), .val (.ref dc), .val (.int (0 : Int32))] [(.ref self)])) rfl (by rw [hml]; rfl) (Steps.refl _) (a := self) (by rw [e0]; exact q3) q3' (argsL := []) (rest := []) (lenOf pd_4 rfl) rfl (by show 2 * 0 + _ ≤ _; exact Nat.le_of_eq rfl) (hb hby d9_7) (fun _ _ => ⟨rfl, e0, (by decide : 0 + 1 ≤ _), (by decide : 0 + 10 ≤ _)⟩)
  dsimp only [Pt.U, Pt.locs, Pt.cells, Pt.slots] at X3 l3 y3 z3 st3 hQ3
  subst l3 y3 z3
  obtain ⟨o4, r5, rfl, Nq3, Kq3, P3_0, P3_1, P3_2, P3_3, P3_4, P3_5, P3_6⟩ := hQ3
  have N3 := Fr.app N0 Nq3
  have z3k : h0.size ≤ T3.heap.size := Kq3.1
  have K3 : Keep h0 T3.heap [self] := K0.trans Kq3 (allS (Or.inl (List.mem_of_getElem? (i := 0) rfl)) all0)
  refine Comes.go st3 ?_
  have lt_6 : o4 < T3.heap.size := P3_3.lt
  show Comes p e below _ (T3.setTop (mkF m 10 #[.val (.ref self), .val (.ref ob), .val (.ref dc), .val (.int (0 : Int32))] [(.ref o4)]))
  refine Comes.st (fun t k => XS.astoreN X3.here hx rfl (hb hby d9_10) rfl rfl (l' := #[.val (.ref self), .val (.ref ob), .val (.ref o4), .val (.int (0 : Int32))]) rfl (XS.aloadN X3.here hx rfl (hb hby d9_11) rfl rfl (XS.iloadN X3.here hx rfl (hb hby d9_12) rfl (XS.aloadN X3.here hx rfl (hb hby d9_13) rfl rfl k)))) ?_
  show Comes p e below _ (T3.setTop (mkF m 14 #[.val (.ref self), .val (.ref ob), .val (.ref o4), .val (.int (0 : Int32))] [(.ref ob), (.int (0 : Int32)), (.ref o4)]))
  obtain ⟨cl7, Ar7, q7, S7, Ng7, H7, Gf7⟩ := id P3_3
  have hin7 : ¬ ((0 : Int32) < 0 ∨ cl7.slots.size ≤ ((0 : Int32)).toNatClampNeg) := inb_of S7 ⟨by decide, by decide⟩
  have F8 : Exa Z T3.heap ob "java/lang/Integer" := (G8.keep Kq3)
  obtain ⟨T7, h7, X7, e7, W7, st7⟩ := stR X3 hx hZ rfl Ar7 (j := (0 : Int32)) hin7 rfl (Sto.ofV Ar7 q7 P3_4 (Ins.of_exa F8 (hw _ (List.mem_of_getElem? (i := 77) rfl)))) (g := (mkF m 14 #[.val (.ref self), .val (.ref ob), .val (.ref o4), .val (.int (0 : Int32))] [(.ref ob), (.int (0 : Int32)), (.ref o4)])) rfl rfl (hb hby d9_14)
  have V7 : Arv Z h7 o4 r5 (.object "java/lang/Object") (10 : Int32) [(.ref ob), .null, .null, .null, .null, .null, .null, .null, .null, .null] .null := Arv.set Ar7 q7 S7 Ng7 H7 Gf7 rfl W7 0 rfl (Nat.le_of_ble_eq_true rfl)
  have z7 : h7.size = T3.heap.size := W7.size
  have gn9 : n0 ≤ o4 := by omega
  have N7 := Fr.snoc X7 N3 gn9
  have gz10 : h0.size ≤ o4 := by omega
  have K7 : Keep h0 h7 [self] := K3.wr W7 (Or.inr gz10)
  refine Comes.st st7 ?_
  show Comes p e below _ (T7.setTop (mkF m 15 #[.val (.ref self), .val (.ref ob), .val (.ref o4), .val (.int (0 : Int32))] []))
  refine Comes.st (fun t k => XS.aloadN X7.here hx rfl (hb hby d9_15) rfl rfl (XS.iloadN X7.here hx rfl (hb hby d9_16) rfl (XS.iconst X7.here hx rfl (hb hby d9_17) (XS.iadd X7.here hx rfl (hb hby d9_18) rfl k)))) ?_
  show Comes p e below _ (T7.setTop (mkF m 19 #[.val (.ref self), .val (.ref ob), .val (.ref o4), .val (.int (0 : Int32))] [(.int ((0 : Int32) + (1 : Int32))), (.ref self)]))
  rw [show ((0 : Int32) + (1 : Int32)) = (1 : Int32) from by decide]
  show Comes p e below _ (T7.setTop (mkF m 19 #[.val (.ref self), .val (.ref ob), .val (.ref o4), .val (.int (0 : Int32))] [(.int (1 : Int32)), (.ref self)]))
  have F11 : Exa Z h7 self "java/util/ArrayList" := (P3_0.wr W7)
  have ne12 : self ≠ o4 := by omega
  have F13 : Fld Z h7 self "java/util/ArrayList" "size" "I" (.int (0 : Int32)) := (P3_2.other W7 (Or.inl ne12))
  obtain ⟨T14, h14, X14, e14, W14, st14⟩ := putF X7 hx hZ hown (host := "") (Or.inl (hw _ (List.mem_of_getElem? (i := 54) rfl))) Via.refl e7 F13 F11 (Or.inl (hw _ (List.mem_of_getElem? (i := 55) rfl))) (hw _ (List.mem_of_getElem? (i := 17) rfl)) (ty := .int) (by decide) rfl rfl (g := (mkF m 19 #[.val (.ref self), .val (.ref ob), .val (.ref o4), .val (.int (0 : Int32))] [(.int (1 : Int32)), (.ref self)])) rfl rfl (hb hby d9_19)
  have Fw14 := F13.same W14
  have z14 : h14.size = h7.size := W14.size
  have gn15 : n0 ≤ self := by omega
  have N14 := Fr.snoc X14 N7 gn15
  have K14 : Keep h0 h14 [self] := K7.wr W14 (Or.inl (List.mem_of_getElem? (i := 0) rfl))
  refine Comes.st st14 ?_
  show Comes p e below _ (T14.setTop (mkF m 22 #[.val (.ref self), .val (.ref ob), .val (.ref o4), .val (.int (0 : Int32))] []))
  have F16 : Exa Z h14 self "java/util/ArrayList" := (F11.wr W14)
  exact Comes.ret0 X14 hx Bd.returns hlk (hb hby d9_22) e14 ⟨rfl, N14, K14, F16⟩ (by decide) (by decide)
def Q_rm8 (Z : State) (self : Nat) (ob : Nat) (dc : Nat) (kd : ClassId) (h0 : Heap) (n0 : Nat) (v : Option Value) (h : Heap) (L : List Loc) : Prop := (v = some (.int (1 : Int32))) ∧ (Fr n0 L) ∧ (Keep h0 h [self]) ∧ (Exa Z h self "java/util/ArrayList")
set_option maxRecDepth 65536 in
set_option maxHeartbeats 40000000 in
theorem rm8 (l : Launch) (Z : State) (a0 : Array Value) (hw : ∀ d ∈ tables_1, d.before a0 Z = true) (ws : List Jvm.Cond) (self : Nat) (ob : Nat) (dc : Nat) (kd : ClassId) (h0 : Heap) (n0 : Nat) (Z0 : n0 ≤ h0.size) (G0 : Exa Z h0 self "java/util/ArrayList") (G1 : Fld Z h0 self "java/util/ArrayList" "elementData" "[Ljava/lang/Object;" (.ref dc)) (G2 : Fld Z h0 self "java/util/ArrayList" "size" "I" (.int (0 : Int32))) (G3 : Arv Z h0 dc kd (.object "java/lang/Object") (0 : Int32) [] .null) (G4 : Sta Z Z.heap "java/util/ArrayList" "DEFAULTCAPACITY_EMPTY_ELEMENTDATA" "[Ljava/lang/Object;" (.ref dc)) (G5 : Old Z n0 h0) (G6 : n0 ≤ self) (G7 : dc ≠ self) (G8 : Exa Z h0 ob "java/lang/Integer") (G9 : Fld Z h0 self "java/util/AbstractList" "modCount" "I" (.int (0 : Int32))) :
    MetFree l (⟨"java/util/ArrayList", "add", "(Ljava/lang/Object;)Z"⟩ : MethodName) (head1 (Jvm.Cond.code (⟨"java/util/ArrayList", "add", "(Ljava/lang/Object;)Z"⟩ : MethodName) jdk_38_method_25_code 2 (some .boolean) :: ws) ({ frames := 4, cells := 1, slots := 10, locals := 56 } : Room)) (fun a U => a = #[(.ref self), (.ref ob)] ∧ Z.Warmed39 U.vm ∧ U.heap = h0) (fun _ _ _ _ _ => True) (fun _ U o U' => ∃ v L, o = .returned v ∧ Q_rm8 Z self ob dc kd h0 n0 v U'.heap L ∧ FrameEnd U o U' L ({ frames := 4, cells := 1, slots := 10, locals := 56 } : Room).cells ({ frames := 4, cells := 1, slots := 10, locals := 56 } : Room).slots) := by
  refine MetFree.of_bodySF (plainFor_of_name pn_8) hisR ?_
  intro p e s m args below meth c s₁ Bd hml0 hP hK
  obtain ⟨rfl, hZ, hh⟩ := hP
  have hx := Bd.exec
  have hby := Bd.bytes
  have hml : c.maxLocals = 2 := hml0
  have hown : s.vm.findClass "java/util/ArrayList" = some m.cls := findClass_of_methodNamed Bd.named
  have hnm := (name_of_methodNamed Bd.named Bd.method).1
  have hlk : meth.locks = false := Bd.notSynchronized
  have X0 : Stand p l e ({ frames := 4, cells := 1, slots := 10, locals := 56 } : Room) s m #[(.ref self), (.ref ob)] below meth c s₁ [] 0 0 := Stand.of_body Bd
  have e0 : s₁.heap = h0 := by rw [← hh, Bd.state]; rfl
  have N0 := Fr.nil n0
  have K0 := Keep.refl h0 [self]
  refine Comes.out (Q := Q_rm8 Z self ob dc kd h0 n0) (kc := ({ frames := 4, cells := 1, slots := 10, locals := 56 } : Room).cells) (ks := ({ frames := 4, cells := 1, slots := 10, locals := 56 } : Room).slots) ?_
  refine Comes.cast (ef_rm8 m self ob) ?_
  have lt_self : self < h0.size := G0.lt
  have lt_dc : dc < h0.size := G3.lt
  have lt_ob : ob < h0.size := G8.lt
  show Comes p e below _ (s₁.setTop (mkF m 0 #[.val (.ref self), .val (.ref ob)] []))
  refine Comes.st (fun t k => XS.aloadN X0.here hx rfl (hb hby d8_0) rfl rfl (XS.dup X0.here hx rfl (hb hby d8_1) rfl rfl k)) ?_
  show Comes p e below _ (s₁.setTop (mkF m 2 #[.val (.ref self), .val (.ref ob)] [(.ref self), (.ref self)]))
  obtain ⟨T1, X1, e1, st1⟩ := getF X0 hx hZ hown (host := "") (Or.inl (hw _ (List.mem_of_getElem? (i := 52) rfl))) (Via.of (hw _ (List.mem_of_getElem? (i := 53) rfl))) e0 G9 (g := (mkF m 2 #[.val (.ref self), .val (.ref ob)] [(.ref self), (.ref self)])) rfl rfl (hb hby d8_2)
  refine Comes.st st1 ?_
  show Comes p e below _ (T1.setTop (mkF m 5 #[.val (.ref self), .val (.ref ob)] [(.int (0 : Int32)), (.ref self)]))
  refine Comes.st (fun t k => XS.iconst X1.here hx rfl (hb hby d8_5) (XS.iadd X1.here hx rfl (hb hby d8_6) rfl k)) ?_
  show Comes p e below _ (T1.setTop (mkF m 7 #[.val (.ref self), .val (.ref ob)] [(.int ((0 : Int32) + (1 : Int32))), (.ref self)]))
  rw [show ((0 : Int32) + (1 : Int32)) = (1 : Int32) from by decide]
  show Comes p e below _ (T1.setTop (mkF m 7 #[.val (.ref self), .val (.ref ob)] [(.int (1 : Int32)), (.ref self)]))
  obtain ⟨T2, h2, X2, e2, W2, st2⟩ := putF X1 hx hZ hown (host := "") (Or.inl (hw _ (List.mem_of_getElem? (i := 52) rfl))) (Via.of (hw _ (List.mem_of_getElem? (i := 53) rfl))) e1 G9 G0 (Or.inl (hw _ (List.mem_of_getElem? (i := 36) rfl))) (hw _ (List.mem_of_getElem? (i := 17) rfl)) (ty := .int) (by decide) rfl rfl (g := (mkF m 7 #[.val (.ref self), .val (.ref ob)] [(.int (1 : Int32)), (.ref self)])) rfl rfl (hb hby d8_7)
  have Fw2 := G9.same W2
  have z2 : h2.size = h0.size := W2.size
  have gn3 : n0 ≤ self := by omega
  have N2 := Fr.snoc X2 N0 gn3
  have K2 : Keep h0 h2 [self] := K0.wr W2 (Or.inl (List.mem_of_getElem? (i := 0) rfl))
  refine Comes.st st2 ?_
  show Comes p e below _ (T2.setTop (mkF m 10 #[.val (.ref self), .val (.ref ob)] []))
  refine Comes.st (fun t k => XS.aloadN X2.here hx rfl (hb hby d8_10) rfl rfl (XS.aloadN X2.here hx rfl (hb hby d8_11) rfl rfl (XS.aloadN X2.here hx rfl (hb hby d8_12) rfl rfl k))) ?_
  show Comes p e below _ (T2.setTop (mkF m 13 #[.val (.ref self), .val (.ref ob)] [(.ref self), (.ref ob), (.ref self)]))
  have F4 : Fld Z h2 self "java/util/ArrayList" "elementData" "[Ljava/lang/Object;" (.ref dc) := (G1.other W2 (Or.inr (slot_ne (Or.inl (hw _ (List.mem_of_getElem? (i := 39) rfl))) (Or.inl (hw _ (List.mem_of_getElem? (i := 36) rfl))) (by decide) (t := (.array (.object "java/lang/Object"))) (t' := .int) (by decide) (by decide))))
  obtain ⟨T5, X5, e5, st5⟩ := getF X2 hx hZ hown (host := "") (Or.inl (hw _ (List.mem_of_getElem? (i := 38) rfl))) Via.refl e2 F4 (g := (mkF m 13 #[.val (.ref self), .val (.ref ob)] [(.ref self), (.ref ob), (.ref self)])) rfl rfl (hb hby d8_13)
  refine Comes.st st5 ?_
  show Comes p e below _ (T5.setTop (mkF m 16 #[.val (.ref self), .val (.ref ob)] [(.ref dc), (.ref ob), (.ref self)]))
  refine Comes.st (fun t k => XS.aloadN X5.here hx rfl (hb hby d8_16) rfl rfl k) ?_
  show Comes p e below _ (T5.setTop (mkF m 17 #[.val (.ref self), .val (.ref ob)] [(.ref self), (.ref dc), (.ref ob), (.ref self)]))
  have F6 : Fld Z h2 self "java/util/ArrayList" "size" "I" (.int (0 : Int32)) := (G2.other W2 (Or.inr (slot_ne (Or.inl (hw _ (List.mem_of_getElem? (i := 55) rfl))) (Or.inl (hw _ (List.mem_of_getElem? (i := 36) rfl))) (by decide) (t := .int) (t' := .int) (by decide) (by decide))))
  obtain ⟨T7, X7, e7, st7⟩ := getF X5 hx hZ hown (host := "") (Or.inl (hw _ (List.mem_of_getElem? (i := 54) rfl))) Via.refl e5 F6 (g := (mkF m 17 #[.val (.ref self), .val (.ref ob)] [(.ref self), (.ref dc), (.ref ob), (.ref self)])) rfl rfl (hb hby d8_17)
  refine Comes.st st7 ?_
  show Comes p e below _ (T7.setTop (mkF m 20 #[.val (.ref self), .val (.ref ob)] [(.int (0 : Int32)), (.ref dc), (.ref ob), (.ref self)]))
  have F8 : Exa Z h2 self "java/util/ArrayList" := (G0.wr W2)
  have F9 : Arv Z h2 dc kd (.object "java/lang/Object") (0 : Int32) [] .null := (G3.other W2 G7)
  have Od10 : Old Z n0 h2 := (G5.wr W2 (by omega))
  have F11 : Exa Z h2 ob "java/lang/Integer" := (G8.wr W2)
  obtain ⟨cq12, q12, q12'⟩ := F8.cell
  obtain ⟨_, _, ⟨T12, L12, k12, n12⟩, -, X12, ⟨Lc12, hQ12, l12, y12, z12⟩, st12⟩ := X7.privateBack hx (y := (⟨"java/util/ArrayList", "add", "(Ljava/lang/Object;[Ljava/lang/Object;I)V"⟩ : MethodName)) hown (mvT hZ (hw _ (List.mem_of_getElem? (i := 56) rfl))) (mvT hZ (hw _ (List.mem_of_getElem? (i := 57) rfl))) (mvT hZ (hw _ (List.mem_of_getElem? (i := 59) rfl))) (Cond.privateMethod_at (mvP hZ (hw _ (List.mem_of_getElem? (i := 58) rfl)) (args := #[]))) (mvT hZ (hw _ (List.mem_of_getElem? (i := 60) rfl))) (by decide) (backOf (W := 0) (rm9 l Z a0 hw [] self ob dc kd h2 n0 (by omega)  F8 F4 F6 F9 G4 Od10 (by omega) G7 F11) hZ (hw _ (List.mem_of_getElem? (i := 60) rfl)) (hw _ (List.mem_of_getElem? (i := 18) rfl)) (by decide) (by decide)) (g := (mkF m 20 #[.val (.ref self), .val (.ref ob)] [(.int (0 : Int32)), (.ref dc), (.ref ob), (.ref self)])) rfl (by rw [hml]; rfl) (Steps.refl _) (a := self) (by rw [e7]; exact q12) q12' (argsL := [(.ref ob), (.ref dc), (.int (0 : Int32))]) (rest := []) (lenOf pd_5 rfl) rfl (by show 2 * 0 + _ ≤ _; exact Nat.le_of_eq rfl) (hb hby d8_20) (fun _ _ => ⟨rfl, e7, (by decide : 0 + 1 ≤ _), (by decide : 0 + 10 ≤ _)⟩)
  dsimp only [Pt.U, Pt.locs, Pt.cells, Pt.slots] at X12 l12 y12 z12 st12 hQ12
  subst l12 y12 z12
  obtain ⟨rfl, Nq12, Kq12, P12_0⟩ := hQ12
  have N12 := Fr.app N2 Nq12
  have z12k : h2.size ≤ T12.heap.size := Kq12.1
  have K12 : Keep h0 T12.heap [self] := K2.trans Kq12 (allS (Or.inl (List.mem_of_getElem? (i := 0) rfl)) all0)
  refine Comes.go st12 ?_
  show Comes p e below _ (T12.setTop (mkF m 23 #[.val (.ref self), .val (.ref ob)] []))
  refine Comes.st (fun t k => XS.iconst X12.here hx rfl (hb hby d8_23) k) ?_
  show Comes p e below _ (T12.setTop (mkF m 24 #[.val (.ref self), .val (.ref ob)] [(.int (1 : Int32))]))
  exact Comes.retN X12 hx (t := .boolean) Bd.returns (by simp) hlk (hb hby d8_24) rfl ⟨rfl, N12, K12, P12_0⟩ (by decide) (by decide)
def Q_rm13 (Z : State) (self : Nat) (fa : UInt64) (fb : UInt64) (h0 : Heap) (n0 : Nat) (v : Option Value) (h : Heap) (L : List Loc) : Prop := (v = none) ∧ (Fr n0 L) ∧ (Keep h0 h [self]) ∧ (Exa Z h self "com/example/evenring/evenring/LoadView$Mean")
set_option maxRecDepth 65536 in
set_option maxHeartbeats 40000000 in
theorem rm13 (l : Launch) (Z : State) (a0 : Array Value) (hw : ∀ d ∈ tables_1, d.before a0 Z = true) (ws : List Jvm.Cond) (self : Nat) (fa : UInt64) (fb : UInt64) (h0 : Heap) (n0 : Nat) (Z0 : n0 ≤ h0.size) (G0 : Exa Z h0 self "com/example/evenring/evenring/LoadView$Mean") (G1 : Fld Z h0 self "com/example/evenring/evenring/LoadView$Mean" "load" "D" (.double 0)) (G2 : Fld Z h0 self "com/example/evenring/evenring/LoadView$Mean" "peers" "D" (.double 0)) (G3 : n0 ≤ self) :
    MetFree l (⟨"com/example/evenring/evenring/LoadView$Mean", "<init>", "(DD)V"⟩ : MethodName) (head1 (Jvm.Cond.code (⟨"com/example/evenring/evenring/LoadView$Mean", "<init>", "(DD)V"⟩ : MethodName) prog_32_method_1_code 5 none :: ws) ({ frames := 2, cells := 0, slots := 0, locals := 24 } : Room)) (fun a U => a = #[(.ref self), (.double fa), (.double fb)] ∧ Z.Warmed39 U.vm ∧ U.heap = h0) (fun _ _ _ _ _ => True) (fun _ U o U' => ∃ v L, o = .returned v ∧ Q_rm13 Z self fa fb h0 n0 v U'.heap L ∧ FrameEnd U o U' L ({ frames := 2, cells := 0, slots := 0, locals := 24 } : Room).cells ({ frames := 2, cells := 0, slots := 0, locals := 24 } : Room).slots) := by
  refine MetFree.of_bodySF (plainFor_of_name pn_13) hisR ?_
  intro p e s m args below meth c s₁ Bd hml0 hP hK
  obtain ⟨rfl, hZ, hh⟩ := hP
  have hx := Bd.exec
  have hby := Bd.bytes
  have hml : c.maxLocals = 5 := hml0
  have hown : s.vm.findClass "com/example/evenring/evenring/LoadView$Mean" = some m.cls := findClass_of_methodNamed Bd.named
  have hnm := (name_of_methodNamed Bd.named Bd.method).1
  have hlk : meth.locks = false := Bd.notSynchronized
  have X0 : Stand p l e ({ frames := 2, cells := 0, slots := 0, locals := 24 } : Room) s m #[(.ref self), (.double fa), (.double fb)] below meth c s₁ [] 0 0 := Stand.of_body Bd
  have e0 : s₁.heap = h0 := by rw [← hh, Bd.state]; rfl
  have N0 := Fr.nil n0
  have K0 := Keep.refl h0 [self]
  refine Comes.out (Q := Q_rm13 Z self fa fb h0 n0) (kc := ({ frames := 2, cells := 0, slots := 0, locals := 24 } : Room).cells) (ks := ({ frames := 2, cells := 0, slots := 0, locals := 24 } : Room).slots) ?_
  refine Comes.cast (ef_rm13 m self fa fb) ?_
  have lt_self : self < h0.size := G0.lt
  show Comes p e below _ (s₁.setTop (mkF m 0 #[.val (.ref self), .val (.double fa), .second, .val (.double fb), .second] []))
  refine Comes.st (fun t k => XS.aloadN X0.here hx rfl (hb hby d13_0) rfl rfl k) ?_
  show Comes p e below _ (s₁.setTop (mkF m 1 #[.val (.ref self), .val (.double fa), .second, .val (.double fb), .second] [(.ref self)]))
  obtain ⟨_, _, ⟨T1, L1, k1, n1⟩, -, X1, ⟨Lc1, hQ1, l1, y1, z1⟩, st1⟩ := X0.specialBack hx (y := (⟨"java/lang/Record", "<init>", "()V"⟩ : MethodName)) rfl hown (mvT hZ (hw _ (List.mem_of_getElem? (i := 84) rfl))) (mvT hZ (hw _ (List.mem_of_getElem? (i := 7) rfl))) (mvT hZ (hw _ (List.mem_of_getElem? (i := 10) rfl))) (by decide) (backOf (W := 0) (rm2 l Z a0 hw [] self h0 n0 (by omega)  ) hZ (hw _ (List.mem_of_getElem? (i := 10) rfl)) (hw _ (List.mem_of_getElem? (i := 9) rfl)) (by decide) (by decide)) (g := (mkF m 1 #[.val (.ref self), .val (.double fa), .second, .val (.double fb), .second] [(.ref self)])) rfl (by rw [hml]; rfl) (Steps.refl _) (a := self) (argsL := []) (rest := []) (lenOf pd_0 rfl) rfl (by show 2 * 0 + _ ≤ _; exact Nat.le_of_eq rfl) (hb hby d13_1) (fun _ _ => ⟨rfl, e0, (by decide : 0 + 0 ≤ _), (by decide : 0 + 0 ≤ _)⟩)
  dsimp only [Pt.U, Pt.locs, Pt.cells, Pt.slots] at X1 l1 y1 z1 st1 hQ1
  subst l1 y1 z1
  obtain ⟨rfl, Nq1, hs1⟩ := hQ1
  have N1 := Fr.app N0 Nq1
  refine Comes.go st1 ?_
  show Comes p e below _ (T1.setTop (mkF m 4 #[.val (.ref self), .val (.double fa), .second, .val (.double fb), .second] []))
  refine Comes.st (fun t k => XS.aloadN X1.here hx rfl (hb hby d13_4) rfl rfl (XS.dloadN X1.here hx rfl (hb hby d13_5) rfl k)) ?_
  show Comes p e below _ (T1.setTop (mkF m 6 #[.val (.ref self), .val (.double fa), .second, .val (.double fb), .second] [(.double fa), (.ref self)]))
  obtain ⟨T2, h2, X2, e2, W2, st2⟩ := putF X1 hx hZ hown (host := "") (Or.inl (hw _ (List.mem_of_getElem? (i := 85) rfl))) Via.refl hs1 G1 G0 (Or.inr ⟨(hw _ (List.mem_of_getElem? (i := 86) rfl)), rfl, hnm⟩) (hw _ (List.mem_of_getElem? (i := 79) rfl)) (ty := .double) (by decide) rfl rfl (g := (mkF m 6 #[.val (.ref self), .val (.double fa), .second, .val (.double fb), .second] [(.double fa), (.ref self)])) rfl rfl (hb hby d13_6)
  have Fw2 := G1.same W2
  have z2 : h2.size = h0.size := W2.size
  have gn3 : n0 ≤ self := by omega
  have N2 := Fr.snoc X2 N1 gn3
  have K2 : Keep h0 h2 [self] := K0.wr W2 (Or.inl (List.mem_of_getElem? (i := 0) rfl))
  refine Comes.st st2 ?_
  show Comes p e below _ (T2.setTop (mkF m 9 #[.val (.ref self), .val (.double fa), .second, .val (.double fb), .second] []))
  refine Comes.st (fun t k => XS.aloadN X2.here hx rfl (hb hby d13_9) rfl rfl (XS.dloadN X2.here hx rfl (hb hby d13_10) rfl k)) ?_
  show Comes p e below _ (T2.setTop (mkF m 11 #[.val (.ref self), .val (.double fa), .second, .val (.double fb), .second] [(.double fb), (.ref self)]))
  have F4 : Exa Z h2 self "com/example/evenring/evenring/LoadView$Mean" := (G0.wr W2)
  have F5 : Fld Z h2 self "com/example/evenring/evenring/LoadView$Mean" "peers" "D" (.double 0) := (G2.other W2 (Or.inr (slot_ne (Or.inr (hw _ (List.mem_of_getElem? (i := 88) rfl))) (Or.inr (hw _ (List.mem_of_getElem? (i := 86) rfl))) (by decide) (t := .double) (t' := .double) (by decide) (by decide))))
  obtain ⟨T6, h6, X6, e6, W6, st6⟩ := putF X2 hx hZ hown (host := "") (Or.inl (hw _ (List.mem_of_getElem? (i := 87) rfl))) Via.refl e2 F5 F4 (Or.inr ⟨(hw _ (List.mem_of_getElem? (i := 88) rfl)), rfl, hnm⟩) (hw _ (List.mem_of_getElem? (i := 79) rfl)) (ty := .double) (by decide) rfl rfl (g := (mkF m 11 #[.val (.ref self), .val (.double fa), .second, .val (.double fb), .second] [(.double fb), (.ref self)])) rfl rfl (hb hby d13_11)
  have Fw6 := F5.same W6
  have z6 : h6.size = h2.size := W6.size
  have N6 := Fr.snoc X6 N2 gn3
  have K6 : Keep h0 h6 [self] := K2.wr W6 (Or.inl (List.mem_of_getElem? (i := 0) rfl))
  refine Comes.st st6 ?_
  show Comes p e below _ (T6.setTop (mkF m 14 #[.val (.ref self), .val (.double fa), .second, .val (.double fb), .second] []))
  have F7 : Exa Z h6 self "com/example/evenring/evenring/LoadView$Mean" := (F4.wr W6)
  exact Comes.ret0 X6 hx Bd.returns hlk (hb hby d13_14) e6 ⟨rfl, N6, K6, F7⟩ (by decide) (by decide)
def Q_rm14 (Z : State) (self : Nat) (ld : Int32) (su : Nat) (me : Nat) (h0 : Heap) (n0 : Nat) (v : Option Value) (h : Heap) (L : List Loc) : Prop := (v = none) ∧ (Fr n0 L) ∧ (Keep h0 h [self]) ∧ (Exa Z h self "com/example/evenring/evenring/LoadView") ∧ (Fld Z h self "com/example/evenring/evenring/LoadView" "load" "I" (.int ld)) ∧ (Fld Z h self "com/example/evenring/evenring/LoadView" "successors" "Ljava/util/List;" (.ref su)) ∧ (Fld Z h self "com/example/evenring/evenring/LoadView" "mean" "Lcom/example/evenring/evenring/LoadView$Mean;" (.ref me))
set_option maxRecDepth 65536 in
set_option maxHeartbeats 40000000 in
theorem rm14 (l : Launch) (Z : State) (a0 : Array Value) (hw : ∀ d ∈ tables_1, d.before a0 Z = true) (ws : List Jvm.Cond) (self : Nat) (ld : Int32) (su : Nat) (me : Nat) (h0 : Heap) (n0 : Nat) (Z0 : n0 ≤ h0.size) (G0 : Exa Z h0 self "com/example/evenring/evenring/LoadView") (G1 : Fld Z h0 self "com/example/evenring/evenring/LoadView" "load" "I" (.int (0 : Int32))) (G2 : Fld Z h0 self "com/example/evenring/evenring/LoadView" "successors" "Ljava/util/List;" .null) (G3 : Fld Z h0 self "com/example/evenring/evenring/LoadView" "mean" "Lcom/example/evenring/evenring/LoadView$Mean;" .null) (G4 : n0 ≤ self) :
    MetFree l (⟨"com/example/evenring/evenring/LoadView", "<init>", "(ILjava/util/List;Lcom/example/evenring/evenring/LoadView$Mean;)V"⟩ : MethodName) (head1 (Jvm.Cond.code (⟨"com/example/evenring/evenring/LoadView", "<init>", "(ILjava/util/List;Lcom/example/evenring/evenring/LoadView$Mean;)V"⟩ : MethodName) prog_31_method_1_code 4 none :: ws) ({ frames := 2, cells := 0, slots := 0, locals := 24 } : Room)) (fun a U => a = #[(.ref self), (.int ld), (.ref su), (.ref me)] ∧ Z.Warmed39 U.vm ∧ U.heap = h0) (fun _ _ _ _ _ => True) (fun _ U o U' => ∃ v L, o = .returned v ∧ Q_rm14 Z self ld su me h0 n0 v U'.heap L ∧ FrameEnd U o U' L ({ frames := 2, cells := 0, slots := 0, locals := 24 } : Room).cells ({ frames := 2, cells := 0, slots := 0, locals := 24 } : Room).slots) := by
  refine MetFree.of_bodySF (plainFor_of_name pn_14) hisR ?_
  intro p e s m args below meth c s₁ Bd hml0 hP hK
  obtain ⟨rfl, hZ, hh⟩ := hP
  have hx := Bd.exec
  have hby := Bd.bytes
  have hml : c.maxLocals = 4 := hml0
  have hown : s.vm.findClass "com/example/evenring/evenring/LoadView" = some m.cls := findClass_of_methodNamed Bd.named
  have hnm := (name_of_methodNamed Bd.named Bd.method).1
  have hlk : meth.locks = false := Bd.notSynchronized
  have X0 : Stand p l e ({ frames := 2, cells := 0, slots := 0, locals := 24 } : Room) s m #[(.ref self), (.int ld), (.ref su), (.ref me)] below meth c s₁ [] 0 0 := Stand.of_body Bd
  have e0 : s₁.heap = h0 := by rw [← hh, Bd.state]; rfl
  have N0 := Fr.nil n0
  have K0 := Keep.refl h0 [self]
  refine Comes.out (Q := Q_rm14 Z self ld su me h0 n0) (kc := ({ frames := 2, cells := 0, slots := 0, locals := 24 } : Room).cells) (ks := ({ frames := 2, cells := 0, slots := 0, locals := 24 } : Room).slots) ?_
  refine Comes.cast (ef_rm14 m self ld su me) ?_
  have lt_self : self < h0.size := G0.lt
  show Comes p e below _ (s₁.setTop (mkF m 0 #[.val (.ref self), .val (.int ld), .val (.ref su), .val (.ref me)] []))
  refine Comes.st (fun t k => XS.aloadN X0.here hx rfl (hb hby d14_0) rfl rfl k) ?_
  show Comes p e below _ (s₁.setTop (mkF m 1 #[.val (.ref self), .val (.int ld), .val (.ref su), .val (.ref me)] [(.ref self)]))
  obtain ⟨_, _, ⟨T1, L1, k1, n1⟩, -, X1, ⟨Lc1, hQ1, l1, y1, z1⟩, st1⟩ := X0.specialBack hx (y := (⟨"java/lang/Record", "<init>", "()V"⟩ : MethodName)) rfl hown (mvT hZ (hw _ (List.mem_of_getElem? (i := 95) rfl))) (mvT hZ (hw _ (List.mem_of_getElem? (i := 7) rfl))) (mvT hZ (hw _ (List.mem_of_getElem? (i := 10) rfl))) (by decide) (backOf (W := 0) (rm2 l Z a0 hw [] self h0 n0 (by omega)  ) hZ (hw _ (List.mem_of_getElem? (i := 10) rfl)) (hw _ (List.mem_of_getElem? (i := 9) rfl)) (by decide) (by decide)) (g := (mkF m 1 #[.val (.ref self), .val (.int ld), .val (.ref su), .val (.ref me)] [(.ref self)])) rfl (by rw [hml]; rfl) (Steps.refl _) (a := self) (argsL := []) (rest := []) (lenOf pd_0 rfl) rfl (by show 2 * 0 + _ ≤ _; exact Nat.le_of_eq rfl) (hb hby d14_1) (fun _ _ => ⟨rfl, e0, (by decide : 0 + 0 ≤ _), (by decide : 0 + 0 ≤ _)⟩)
  dsimp only [Pt.U, Pt.locs, Pt.cells, Pt.slots] at X1 l1 y1 z1 st1 hQ1
  subst l1 y1 z1
  obtain ⟨rfl, Nq1, hs1⟩ := hQ1
  have N1 := Fr.app N0 Nq1
  refine Comes.go st1 ?_
  show Comes p e below _ (T1.setTop (mkF m 4 #[.val (.ref self), .val (.int ld), .val (.ref su), .val (.ref me)] []))
  refine Comes.st (fun t k => XS.aloadN X1.here hx rfl (hb hby d14_4) rfl rfl (XS.iloadN X1.here hx rfl (hb hby d14_5) rfl k)) ?_
  show Comes p e below _ (T1.setTop (mkF m 6 #[.val (.ref self), .val (.int ld), .val (.ref su), .val (.ref me)] [(.int ld), (.ref self)]))
  obtain ⟨T2, h2, X2, e2, W2, st2⟩ := putF X1 hx hZ hown (host := "") (Or.inl (hw _ (List.mem_of_getElem? (i := 96) rfl))) Via.refl hs1 G1 G0 (Or.inr ⟨(hw _ (List.mem_of_getElem? (i := 97) rfl)), rfl, hnm⟩) (hw _ (List.mem_of_getElem? (i := 90) rfl)) (ty := .int) (by decide) rfl rfl (g := (mkF m 6 #[.val (.ref self), .val (.int ld), .val (.ref su), .val (.ref me)] [(.int ld), (.ref self)])) rfl rfl (hb hby d14_6)
  have Fw2 := G1.same W2
  have z2 : h2.size = h0.size := W2.size
  have gn3 : n0 ≤ self := by omega
  have N2 := Fr.snoc X2 N1 gn3
  have K2 : Keep h0 h2 [self] := K0.wr W2 (Or.inl (List.mem_of_getElem? (i := 0) rfl))
  refine Comes.st st2 ?_
  show Comes p e below _ (T2.setTop (mkF m 9 #[.val (.ref self), .val (.int ld), .val (.ref su), .val (.ref me)] []))
  refine Comes.st (fun t k => XS.aloadN X2.here hx rfl (hb hby d14_9) rfl rfl (XS.aloadN X2.here hx rfl (hb hby d14_10) rfl rfl k)) ?_
  show Comes p e below _ (T2.setTop (mkF m 11 #[.val (.ref self), .val (.int ld), .val (.ref su), .val (.ref me)] [(.ref su), (.ref self)]))
  have F4 : Exa Z h2 self "com/example/evenring/evenring/LoadView" := (G0.wr W2)
  have F5 : Fld Z h2 self "com/example/evenring/evenring/LoadView" "successors" "Ljava/util/List;" .null := (G2.other W2 (Or.inr (slot_ne (Or.inr (hw _ (List.mem_of_getElem? (i := 99) rfl))) (Or.inr (hw _ (List.mem_of_getElem? (i := 97) rfl))) (by decide) (t := (.object "java/util/List")) (t' := .int) (by decide) (by decide))))
  obtain ⟨T6, h6, X6, e6, W6, st6⟩ := putF X2 hx hZ hown (host := "") (Or.inl (hw _ (List.mem_of_getElem? (i := 98) rfl))) Via.refl e2 F5 F4 (Or.inr ⟨(hw _ (List.mem_of_getElem? (i := 99) rfl)), rfl, hnm⟩) (hw _ (List.mem_of_getElem? (i := 90) rfl)) (ty := (.object "java/util/List")) (by decide) rfl rfl (g := (mkF m 11 #[.val (.ref self), .val (.int ld), .val (.ref su), .val (.ref me)] [(.ref su), (.ref self)])) rfl rfl (hb hby d14_11)
  have Fw6 := F5.same W6
  have z6 : h6.size = h2.size := W6.size
  have N6 := Fr.snoc X6 N2 gn3
  have K6 : Keep h0 h6 [self] := K2.wr W6 (Or.inl (List.mem_of_getElem? (i := 0) rfl))
  refine Comes.st st6 ?_
  show Comes p e below _ (T6.setTop (mkF m 14 #[.val (.ref self), .val (.int ld), .val (.ref su), .val (.ref me)] []))
  refine Comes.st (fun t k => XS.aloadN X6.here hx rfl (hb hby d14_14) rfl rfl (XS.aloadN X6.here hx rfl (hb hby d14_15) rfl rfl k)) ?_
  show Comes p e below _ (T6.setTop (mkF m 16 #[.val (.ref self), .val (.int ld), .val (.ref su), .val (.ref me)] [(.ref me), (.ref self)]))
  have F7 : Exa Z h6 self "com/example/evenring/evenring/LoadView" := (F4.wr W6)
  have F8 : Fld Z h6 self "com/example/evenring/evenring/LoadView" "mean" "Lcom/example/evenring/evenring/LoadView$Mean;" .null := ((G3.other W2 (Or.inr (slot_ne (Or.inr (hw _ (List.mem_of_getElem? (i := 101) rfl))) (Or.inr (hw _ (List.mem_of_getElem? (i := 97) rfl))) (by decide) (t := (.object "com/example/evenring/evenring/LoadView$Mean")) (t' := .int) (by decide) (by decide)))).other W6 (Or.inr (slot_ne (Or.inr (hw _ (List.mem_of_getElem? (i := 101) rfl))) (Or.inr (hw _ (List.mem_of_getElem? (i := 99) rfl))) (by decide) (t := (.object "com/example/evenring/evenring/LoadView$Mean")) (t' := (.object "java/util/List")) (by decide) (by decide))))
  obtain ⟨T9, h9, X9, e9, W9, st9⟩ := putF X6 hx hZ hown (host := "") (Or.inl (hw _ (List.mem_of_getElem? (i := 100) rfl))) Via.refl e6 F8 F7 (Or.inr ⟨(hw _ (List.mem_of_getElem? (i := 101) rfl)), rfl, hnm⟩) (hw _ (List.mem_of_getElem? (i := 90) rfl)) (ty := (.object "com/example/evenring/evenring/LoadView$Mean")) (by decide) rfl rfl (g := (mkF m 16 #[.val (.ref self), .val (.int ld), .val (.ref su), .val (.ref me)] [(.ref me), (.ref self)])) rfl rfl (hb hby d14_16)
  have Fw9 := F8.same W9
  have z9 : h9.size = h6.size := W9.size
  have N9 := Fr.snoc X9 N6 gn3
  have K9 : Keep h0 h9 [self] := K6.wr W9 (Or.inl (List.mem_of_getElem? (i := 0) rfl))
  refine Comes.st st9 ?_
  show Comes p e below _ (T9.setTop (mkF m 19 #[.val (.ref self), .val (.int ld), .val (.ref su), .val (.ref me)] []))
  have F10 : Exa Z h9 self "com/example/evenring/evenring/LoadView" := (F7.wr W9)
  have F11 : Fld Z h9 self "com/example/evenring/evenring/LoadView" "load" "I" (.int ld) := ((Fw2.other W6 (Or.inr (slot_ne (Or.inr (hw _ (List.mem_of_getElem? (i := 97) rfl))) (Or.inr (hw _ (List.mem_of_getElem? (i := 99) rfl))) (by decide) (t := .int) (t' := (.object "java/util/List")) (by decide) (by decide)))).other W9 (Or.inr (slot_ne (Or.inr (hw _ (List.mem_of_getElem? (i := 97) rfl))) (Or.inr (hw _ (List.mem_of_getElem? (i := 101) rfl))) (by decide) (t := .int) (t' := (.object "com/example/evenring/evenring/LoadView$Mean")) (by decide) (by decide))))
  have F12 : Fld Z h9 self "com/example/evenring/evenring/LoadView" "successors" "Ljava/util/List;" (.ref su) := (Fw6.other W9 (Or.inr (slot_ne (Or.inr (hw _ (List.mem_of_getElem? (i := 99) rfl))) (Or.inr (hw _ (List.mem_of_getElem? (i := 101) rfl))) (by decide) (t := (.object "java/util/List")) (t' := (.object "com/example/evenring/evenring/LoadView$Mean")) (by decide) (by decide))))
  exact Comes.ret0 X9 hx Bd.returns hlk (hb hby d14_19) e9 ⟨rfl, N9, K9, F10, F11, F12, Fw9⟩ (by decide) (by decide)
def Q_rm16 (Z : State) (self : Nat) (ld : Int32) (h0 : Heap) (n0 : Nat) (v : Option Value) (h : Heap) (L : List Loc) : Prop := (v = some (.int ld)) ∧ (Fr n0 L) ∧ (h = h0)
set_option maxRecDepth 65536 in
set_option maxHeartbeats 40000000 in
theorem rm16 (l : Launch) (Z : State) (a0 : Array Value) (hw : ∀ d ∈ tables_1, d.before a0 Z = true) (ws : List Jvm.Cond) (self : Nat) (ld : Int32) (h0 : Heap) (n0 : Nat) (Z0 : n0 ≤ h0.size) (G0 : Fld Z h0 self "com/example/evenring/evenring/LoadView" "load" "I" (.int ld)) :
    MetFree l (⟨"com/example/evenring/evenring/LoadView", "load", "()I"⟩ : MethodName) (head1 (Jvm.Cond.code (⟨"com/example/evenring/evenring/LoadView", "load", "()I"⟩ : MethodName) prog_31_method_7_code 1 (some .int) :: ws) ({ frames := 0, cells := 0, slots := 0, locals := 0 } : Room)) (fun a U => a = #[(.ref self)] ∧ Z.Warmed39 U.vm ∧ U.heap = h0) (fun _ _ _ _ _ => True) (fun _ U o U' => ∃ v L, o = .returned v ∧ Q_rm16 Z self ld h0 n0 v U'.heap L ∧ FrameEnd U o U' L ({ frames := 0, cells := 0, slots := 0, locals := 0 } : Room).cells ({ frames := 0, cells := 0, slots := 0, locals := 0 } : Room).slots) := by
  refine MetFree.of_bodySF (plainFor_of_name pn_16) hisR ?_
  intro p e s m args below meth c s₁ Bd hml0 hP hK
  obtain ⟨rfl, hZ, hh⟩ := hP
  have hx := Bd.exec
  have hby := Bd.bytes
  have hml : c.maxLocals = 1 := hml0
  have hown : s.vm.findClass "com/example/evenring/evenring/LoadView" = some m.cls := findClass_of_methodNamed Bd.named
  have hnm := (name_of_methodNamed Bd.named Bd.method).1
  have hlk : meth.locks = false := Bd.notSynchronized
  have X0 : Stand p l e ({ frames := 0, cells := 0, slots := 0, locals := 0 } : Room) s m #[(.ref self)] below meth c s₁ [] 0 0 := Stand.of_body Bd
  have e0 : s₁.heap = h0 := by rw [← hh, Bd.state]; rfl
  have N0 := Fr.nil n0
  refine Comes.out (Q := Q_rm16 Z self ld h0 n0) (kc := ({ frames := 0, cells := 0, slots := 0, locals := 0 } : Room).cells) (ks := ({ frames := 0, cells := 0, slots := 0, locals := 0 } : Room).slots) ?_
  refine Comes.cast (ef_rm16 m self) ?_
  have lt_self : self < h0.size := G0.lt
  show Comes p e below _ (s₁.setTop (mkF m 0 #[.val (.ref self)] []))
  refine Comes.st (fun t k => XS.aloadN X0.here hx rfl (hb hby d16_0) rfl rfl k) ?_
  show Comes p e below _ (s₁.setTop (mkF m 1 #[.val (.ref self)] [(.ref self)]))
  obtain ⟨T1, X1, e1, st1⟩ := getF X0 hx hZ hown (host := "") (Or.inl (hw _ (List.mem_of_getElem? (i := 96) rfl))) Via.refl e0 G0 (g := (mkF m 1 #[.val (.ref self)] [(.ref self)])) rfl rfl (hb hby d16_1)
  refine Comes.st st1 ?_
  show Comes p e below _ (T1.setTop (mkF m 4 #[.val (.ref self)] [(.int ld)]))
  exact Comes.retV X1 hx Bd.returns rfl (Or.inl ⟨rfl, Or.inl rfl, _, rfl⟩) hlk (hb hby d16_4) e1 ⟨rfl, N0, rfl⟩ (by decide) (by decide)
def Q_rm15 (Z : State) (self : Nat) (vw : Nat) (lim : Int32) (ld : Int32) (h0 : Heap) (n0 : Nat) (v : Option Value) (h : Heap) (L : List Loc) : Prop := ∃ (r : Int32), (v = some (.int r)) ∧ (Fr n0 L) ∧ (h = h0) ∧ ((lim < ld ∧ r = (1 : Int32)) ∨ (¬ (lim < ld) ∧ r = (0 : Int32)))
set_option maxRecDepth 65536 in
set_option maxHeartbeats 40000000 in
theorem rm15 (l : Launch) (Z : State) (a0 : Array Value) (hw : ∀ d ∈ tables_1, d.before a0 Z = true) (ws : List Jvm.Cond) (self : Nat) (vw : Nat) (lim : Int32) (ld : Int32) (h0 : Heap) (n0 : Nat) (Z0 : n0 ≤ h0.size) (G0 : Fld Z h0 self "com/example/evenring/evenring/LoadState$Threshold" "limit" "I" (.int lim)) (G1 : Exa Z h0 vw "com/example/evenring/evenring/LoadView") (G2 : Fld Z h0 vw "com/example/evenring/evenring/LoadView" "load" "I" (.int ld)) :
    MetFree l (⟨"com/example/evenring/evenring/LoadState$Threshold", "isOverloaded", "(Lcom/example/evenring/evenring/LoadView;)Z"⟩ : MethodName) (head1 (Jvm.Cond.code (⟨"com/example/evenring/evenring/LoadState$Threshold", "isOverloaded", "(Lcom/example/evenring/evenring/LoadView;)Z"⟩ : MethodName) prog_30_method_2_code 2 (some .boolean) :: ws) ({ frames := 1, cells := 0, slots := 0, locals := 12 } : Room)) (fun a U => a = #[(.ref self), (.ref vw)] ∧ Z.Warmed39 U.vm ∧ U.heap = h0) (fun _ _ _ _ _ => True) (fun _ U o U' => ∃ v L, o = .returned v ∧ Q_rm15 Z self vw lim ld h0 n0 v U'.heap L ∧ FrameEnd U o U' L ({ frames := 1, cells := 0, slots := 0, locals := 12 } : Room).cells ({ frames := 1, cells := 0, slots := 0, locals := 12 } : Room).slots) := by
  refine MetFree.of_bodySF (plainFor_of_name pn_15) hisR ?_
  intro p e s m args below meth c s₁ Bd hml0 hP hK
  obtain ⟨rfl, hZ, hh⟩ := hP
  have hx := Bd.exec
  have hby := Bd.bytes
  have hml : c.maxLocals = 2 := hml0
  have hown : s.vm.findClass "com/example/evenring/evenring/LoadState$Threshold" = some m.cls := findClass_of_methodNamed Bd.named
  have hnm := (name_of_methodNamed Bd.named Bd.method).1
  have hlk : meth.locks = false := Bd.notSynchronized
  have X0 : Stand p l e ({ frames := 1, cells := 0, slots := 0, locals := 12 } : Room) s m #[(.ref self), (.ref vw)] below meth c s₁ [] 0 0 := Stand.of_body Bd
  have e0 : s₁.heap = h0 := by rw [← hh, Bd.state]; rfl
  have N0 := Fr.nil n0
  refine Comes.out (Q := Q_rm15 Z self vw lim ld h0 n0) (kc := ({ frames := 1, cells := 0, slots := 0, locals := 12 } : Room).cells) (ks := ({ frames := 1, cells := 0, slots := 0, locals := 12 } : Room).slots) ?_
  refine Comes.cast (ef_rm15 m self vw) ?_
  have lt_self : self < h0.size := G0.lt
  have lt_vw : vw < h0.size := G1.lt
  show Comes p e below _ (s₁.setTop (mkF m 0 #[.val (.ref self), .val (.ref vw)] []))
  refine Comes.st (fun t k => XS.aloadN X0.here hx rfl (hb hby d15_0) rfl rfl k) ?_
  show Comes p e below _ (s₁.setTop (mkF m 1 #[.val (.ref self), .val (.ref vw)] [(.ref vw)]))
  obtain ⟨cq1, kq1, q1a, q1b, q1c⟩ := isOf hZ e0 G1
  obtain ⟨_, _, ⟨T1, L1, k1, n1⟩, -, X1, ⟨Lc1, hQ1, l1, y1, z1⟩, st1⟩ := X0.virtualBack hx (y := (⟨"com/example/evenring/evenring/LoadView", "load", "()I"⟩ : MethodName)) (z := (⟨"com/example/evenring/evenring/LoadView", "load", "()I"⟩ : MethodName)) hown (mvT hZ (hw _ (List.mem_of_getElem? (i := 107) rfl))) (mvT hZ (hw _ (List.mem_of_getElem? (i := 108) rfl))) (notFace_of_selects (args := #[]) (mvT hZ (hw _ (List.mem_of_getElem? (i := 110) rfl)))) (mvT hZ (hw _ (List.mem_of_getElem? (i := 110) rfl))) (mvT hZ (hw _ (List.mem_of_getElem? (i := 109) rfl))) (by decide) (backOf (W := 0) (rm16 l Z a0 hw [] vw ld h0 n0 (by omega)  G2) hZ (hw _ (List.mem_of_getElem? (i := 111) rfl)) (hw _ (List.mem_of_getElem? (i := 91) rfl)) (by decide) (by decide)) q1a q1c (g := (mkF m 1 #[.val (.ref self), .val (.ref vw)] [(.ref vw)])) rfl (by rw [hml]; rfl) (Steps.refl _) (argsL := []) (rest := []) (lenOf pd_6 rfl) rfl (by show 2 * 0 + _ ≤ _; exact Nat.le_of_eq rfl) (hb hby d15_1) (fun _ _ => ⟨rfl, e0, (by decide : 0 + 0 ≤ _), (by decide : 0 + 0 ≤ _)⟩)
  dsimp only [Pt.U, Pt.locs, Pt.cells, Pt.slots] at X1 l1 y1 z1 st1 hQ1
  subst l1 y1 z1
  obtain ⟨rfl, Nq1, hs1⟩ := hQ1
  have N1 := Fr.app N0 Nq1
  refine Comes.go st1 ?_
  show Comes p e below _ (T1.setTop (mkF m 4 #[.val (.ref self), .val (.ref vw)] [(.int ld)]))
  refine Comes.st (fun t k => XS.aloadN X1.here hx rfl (hb hby d15_4) rfl rfl k) ?_
  show Comes p e below _ (T1.setTop (mkF m 5 #[.val (.ref self), .val (.ref vw)] [(.ref self), (.int ld)]))
  obtain ⟨T2, X2, e2, st2⟩ := getF X1 hx hZ hown (host := "") (Or.inl (hw _ (List.mem_of_getElem? (i := 14) rfl))) Via.refl hs1 G0 (g := (mkF m 5 #[.val (.ref self), .val (.ref vw)] [(.ref self), (.int ld)])) rfl rfl (hb hby d15_5)
  refine Comes.st st2 ?_
  show Comes p e below _ (T2.setTop (mkF m 8 #[.val (.ref self), .val (.ref vw)] [(.int lim), (.int ld)]))
  by_cases hc8_3 : lim < ld
  · refine Comes.st (fun t k => XS.icmpNo X2.here hx rfl (hb hby d15_8) rfl (tlt hc8_3).2.2.2 (XS.iconst X2.here hx rfl (hb hby d15_11) (XS.goto X2.here hx rfl (pc0 := 12) (pc' := 16) rfl (hb hby d15_12) (by decide) (by decide) k))) ?_
    show Comes p e below _ (T2.setTop (mkF m 16 #[.val (.ref self), .val (.ref vw)] [(.int (1 : Int32))]))
    exact Comes.retN X2 hx (t := .boolean) Bd.returns (by simp) hlk (hb hby d15_16) e2 ⟨(1 : Int32), rfl, N1, rfl, (by first | exact Or.inl ⟨by assumption, rfl⟩ | exact Or.inr ⟨by assumption, rfl⟩)⟩ (by decide) (by decide)
  · refine Comes.st (fun t k => XS.icmpYes X2.here hx rfl (pc0 := 8) (pc' := 15) rfl (hb hby d15_8) rfl (flt hc8_3).2.2.2 (by decide) (by decide) (XS.iconst X2.here hx rfl (hb hby d15_15) k)) ?_
    show Comes p e below _ (T2.setTop (mkF m 16 #[.val (.ref self), .val (.ref vw)] [(.int (0 : Int32))]))
    exact Comes.retN X2 hx (t := .boolean) Bd.returns (by simp) hlk (hb hby d15_16) e2 ⟨(0 : Int32), rfl, N1, rfl, (by first | exact Or.inl ⟨by assumption, rfl⟩ | exact Or.inr ⟨by assumption, rfl⟩)⟩ (by decide) (by decide)
def Q_rm17 (Z : State) (self : Nat) (nl : Int32) (ld : Int32) (su : Nat) (me : Nat) (h0 : Heap) (n0 : Nat) (v : Option Value) (h : Heap) (L : List Loc) : Prop := ∃ (r : Nat), (v = some (.ref r)) ∧ (Fr n0 L) ∧ (Keep h0 h []) ∧ (Exa Z h r "com/example/evenring/evenring/LoadView") ∧ (Fld Z h r "com/example/evenring/evenring/LoadView" "load" "I" (.int nl))
set_option maxRecDepth 65536 in
set_option maxHeartbeats 40000000 in
theorem rm17 (l : Launch) (Z : State) (a0 : Array Value) (hw : ∀ d ∈ tables_1, d.before a0 Z = true) (ws : List Jvm.Cond) (self : Nat) (nl : Int32) (ld : Int32) (su : Nat) (me : Nat) (h0 : Heap) (n0 : Nat) (Z0 : n0 ≤ h0.size) (G0 : Fld Z h0 self "com/example/evenring/evenring/LoadView" "load" "I" (.int ld)) (G1 : Fld Z h0 self "com/example/evenring/evenring/LoadView" "successors" "Ljava/util/List;" (.ref su)) (G2 : Fld Z h0 self "com/example/evenring/evenring/LoadView" "mean" "Lcom/example/evenring/evenring/LoadView$Mean;" (.ref me)) :
    MetFree l (⟨"com/example/evenring/evenring/LoadView", "withLoad", "(I)Lcom/example/evenring/evenring/LoadView;"⟩ : MethodName) (head1 (Jvm.Cond.code (⟨"com/example/evenring/evenring/LoadView", "withLoad", "(I)Lcom/example/evenring/evenring/LoadView;"⟩ : MethodName) prog_31_method_2_code 2 (some (.object "com/example/evenring/evenring/LoadView")) :: ws) ({ frames := 3, cells := 1, slots := 3, locals := 40 } : Room)) (fun a U => a = #[(.ref self), (.int nl)] ∧ Z.Warmed39 U.vm ∧ U.heap = h0) (fun _ _ _ _ _ => True) (fun _ U o U' => ∃ v L, o = .returned v ∧ Q_rm17 Z self nl ld su me h0 n0 v U'.heap L ∧ FrameEnd U o U' L ({ frames := 3, cells := 1, slots := 3, locals := 40 } : Room).cells ({ frames := 3, cells := 1, slots := 3, locals := 40 } : Room).slots) := by
  refine MetFree.of_bodySF (plainFor_of_name pn_17) hisR ?_
  intro p e s m args below meth c s₁ Bd hml0 hP hK
  obtain ⟨rfl, hZ, hh⟩ := hP
  have hx := Bd.exec
  have hby := Bd.bytes
  have hml : c.maxLocals = 2 := hml0
  have hown : s.vm.findClass "com/example/evenring/evenring/LoadView" = some m.cls := findClass_of_methodNamed Bd.named
  have hnm := (name_of_methodNamed Bd.named Bd.method).1
  have hlk : meth.locks = false := Bd.notSynchronized
  have X0 : Stand p l e ({ frames := 3, cells := 1, slots := 3, locals := 40 } : Room) s m #[(.ref self), (.int nl)] below meth c s₁ [] 0 0 := Stand.of_body Bd
  have e0 : s₁.heap = h0 := by rw [← hh, Bd.state]; rfl
  have N0 := Fr.nil n0
  have K0 := Keep.refl h0 []
  refine Comes.out (Q := Q_rm17 Z self nl ld su me h0 n0) (kc := ({ frames := 3, cells := 1, slots := 3, locals := 40 } : Room).cells) (ks := ({ frames := 3, cells := 1, slots := 3, locals := 40 } : Room).slots) ?_
  refine Comes.cast (ef_rm17 m self nl) ?_
  have lt_self : self < h0.size := G0.lt
  show Comes p e below _ (s₁.setTop (mkF m 0 #[.val (.ref self), .val (.int nl)] []))
  obtain ⟨T1, h1, X1, e1, E1, A1, D1, -, st1⟩ := newO X0 hx hZ hown (hw _ (List.mem_of_getElem? (i := 117) rfl)) (hw _ (List.mem_of_getElem? (i := 90) rfl)) (hw _ (List.mem_of_getElem? (i := 91) rfl)) e0 (g := (mkF m 0 #[.val (.ref self), .val (.int nl)] [])) rfl (hb hby d17_0) (by decide) (by decide)
  obtain ⟨b1, g1⟩ : ∃ z, z = h0.size := ⟨_, rfl⟩
  rw [← g1] at A1 D1 st1
  have z1 : h0.size ≤ h1.size := E1.1
  have lt1 : b1 < h1.size := A1.lt
  have F2 : Fld Z h1 b1 "com/example/evenring/evenring/LoadView" "load" "I" (.int (0 : Int32)) := D1 (Or.inr (hw _ (List.mem_of_getElem? (i := 97) rfl))) (ty := .int) (by decide)
  have F3 : Fld Z h1 b1 "com/example/evenring/evenring/LoadView" "successors" "Ljava/util/List;" .null := D1 (Or.inr (hw _ (List.mem_of_getElem? (i := 99) rfl))) (ty := (.object "java/util/List")) (by decide)
  have F4 : Fld Z h1 b1 "com/example/evenring/evenring/LoadView" "mean" "Lcom/example/evenring/evenring/LoadView$Mean;" .null := D1 (Or.inr (hw _ (List.mem_of_getElem? (i := 101) rfl))) (ty := (.object "com/example/evenring/evenring/LoadView$Mean")) (by decide)
  have K1 : Keep h0 h1 [] := K0.ext E1
  refine Comes.st st1 ?_
  show Comes p e below _ (T1.setTop (mkF m 3 #[.val (.ref self), .val (.int nl)] [(.ref b1)]))
  refine Comes.st (fun t k => XS.dup X1.here hx rfl (hb hby d17_3) rfl rfl (XS.iloadN X1.here hx rfl (hb hby d17_4) rfl (XS.aloadN X1.here hx rfl (hb hby d17_5) rfl rfl k))) ?_
  show Comes p e below _ (T1.setTop (mkF m 6 #[.val (.ref self), .val (.int nl)] [(.ref self), (.int nl), (.ref b1), (.ref b1)]))
  have F5 : Fld Z h1 self "com/example/evenring/evenring/LoadView" "successors" "Ljava/util/List;" (.ref su) := (G1.ext E1)
  obtain ⟨T6, X6, e6, st6⟩ := getF X1 hx hZ hown (host := "") (Or.inl (hw _ (List.mem_of_getElem? (i := 98) rfl))) Via.refl e1 F5 (g := (mkF m 6 #[.val (.ref self), .val (.int nl)] [(.ref self), (.int nl), (.ref b1), (.ref b1)])) rfl rfl (hb hby d17_6)
  refine Comes.st st6 ?_
  show Comes p e below _ (T6.setTop (mkF m 9 #[.val (.ref self), .val (.int nl)] [(.ref su), (.int nl), (.ref b1), (.ref b1)]))
  refine Comes.st (fun t k => XS.aloadN X6.here hx rfl (hb hby d17_9) rfl rfl k) ?_
  show Comes p e below _ (T6.setTop (mkF m 10 #[.val (.ref self), .val (.int nl)] [(.ref self), (.ref su), (.int nl), (.ref b1), (.ref b1)]))
  have F7 : Fld Z h1 self "com/example/evenring/evenring/LoadView" "mean" "Lcom/example/evenring/evenring/LoadView$Mean;" (.ref me) := (G2.ext E1)
  obtain ⟨T8, X8, e8, st8⟩ := getF X6 hx hZ hown (host := "") (Or.inl (hw _ (List.mem_of_getElem? (i := 100) rfl))) Via.refl e6 F7 (g := (mkF m 10 #[.val (.ref self), .val (.int nl)] [(.ref self), (.ref su), (.int nl), (.ref b1), (.ref b1)])) rfl rfl (hb hby d17_10)
  refine Comes.st st8 ?_
  show Comes p e below _ (T8.setTop (mkF m 13 #[.val (.ref self), .val (.int nl)] [(.ref me), (.ref su), (.int nl), (.ref b1), (.ref b1)]))
  obtain ⟨_, _, ⟨T9, L9, k9, n9⟩, -, X9, ⟨Lc9, hQ9, l9, y9, z9⟩, st9⟩ := X8.specialBack hx (y := (⟨"com/example/evenring/evenring/LoadView", "<init>", "(ILjava/util/List;Lcom/example/evenring/evenring/LoadView$Mean;)V"⟩ : MethodName)) rfl hown (mvT hZ (hw _ (List.mem_of_getElem? (i := 118) rfl))) (mvT hZ (hw _ (List.mem_of_getElem? (i := 93) rfl))) (mvT hZ (hw _ (List.mem_of_getElem? (i := 94) rfl))) (by decide) (backOf (W := 1) (rm14 l Z a0 hw [] b1 nl su me h1 n0 (by omega)  A1 F2 F3 F4 (by omega)) hZ (hw _ (List.mem_of_getElem? (i := 94) rfl)) (hw _ (List.mem_of_getElem? (i := 91) rfl)) (by decide) (by decide)) (g := (mkF m 13 #[.val (.ref self), .val (.int nl)] [(.ref me), (.ref su), (.int nl), (.ref b1), (.ref b1)])) rfl (by rw [hml]; rfl) (Steps.refl _) (a := b1) (argsL := [(.int nl), (.ref su), (.ref me)]) (rest := [(.ref b1)]) (lenOf pd_7 rfl) rfl (by show 2 * 0 + _ ≤ _; exact Nat.le_of_eq rfl) (hb hby d17_13) (fun _ _ => ⟨rfl, e8, (by decide : 1 + 0 ≤ _), (by decide : 3 + 0 ≤ _)⟩)
  dsimp only [Pt.U, Pt.locs, Pt.cells, Pt.slots] at X9 l9 y9 z9 st9 hQ9
  subst l9 y9 z9
  obtain ⟨rfl, Nq9, Kq9, P9_0, P9_1, P9_2, P9_3⟩ := hQ9
  have N9 := Fr.app N0 Nq9
  have z9k : h1.size ≤ T9.heap.size := Kq9.1
  have gz10 : h0.size ≤ b1 := by omega
  have K9 : Keep h0 T9.heap [] := K1.trans Kq9 (allS (Or.inr gz10) all0)
  refine Comes.go st9 ?_
  have lt_11 : b1 < T9.heap.size := P9_0.lt
  show Comes p e below _ (T9.setTop (mkF m 16 #[.val (.ref self), .val (.int nl)] [(.ref b1)]))
  exact Comes.retV X9 hx Bd.returns (narrow_ref rfl) (Or.inr (Or.inr (Or.inr (Or.inr ⟨rfl, rfl, rfl⟩)))) hlk (hb hby d17_16) rfl ⟨b1, rfl, N9, K9, P9_0, P9_1⟩ (by decide) (by decide)
def Q_rm0 (Z : State) (lim : Int32) (ld : Int32) (succ : Int32) (mm : Int32) (dc : Nat) (kd : ClassId) (ca : Nat) (h0 : Heap) (n0 : Nat) (v : Option Value) (h : Heap) (L : List Loc) : Prop := (v = some (.int (1 : Int32))) ∧ (Fr n0 L)
set_option maxRecDepth 65536 in
set_option maxHeartbeats 40000000 in
theorem rm0 (l : Launch) (Z : State) (a0 : Array Value) (hw : ∀ d ∈ tables_1, d.before a0 Z = true) (ws : List Jvm.Cond) (lim : Int32) (ld : Int32) (succ : Int32) (mm : Int32) (dc : Nat) (kd : ClassId) (ca : Nat) (h0 : Heap) (n0 : Nat) (Z0 : n0 ≤ h0.size) (G0 : Sta Z Z.heap "java/util/ArrayList" "DEFAULTCAPACITY_EMPTY_ELEMENTDATA" "[Ljava/lang/Object;" (.ref dc)) (G1 : Arv Z h0 dc kd (.object "java/lang/Object") (0 : Int32) [] .null) (G2 : Sta Z Z.heap "java/lang/Integer$IntegerCache" "high" "I" (.int (127 : Int32))) (G3 : Sta Z Z.heap "java/lang/Integer$IntegerCache" "cache" "[Ljava/lang/Integer;" (.ref ca)) (G4 : Old Z n0 h0) (G5 : own_cache Z ca "java/lang/Integer") :
    MetFree l x (head1 (Jvm.Cond.code x code maxLocals ret :: ws) room_1) (fun a U => a = #[(.int lim), (.int ld), (.int succ), (.int mm)] ∧ Z.Warmed39 U.vm ∧ U.heap = h0) (fun _ _ _ _ _ => True) (fun _ U o U' => ∃ v L, o = .returned v ∧ Q_rm0 Z lim ld succ mm dc kd ca h0 n0 v U'.heap L ∧ FrameEnd U o U' L room_1.cells room_1.slots) := by
  refine MetFree.of_bodySF (plainFor_of_name pn_0) hisR ?_
  intro p e s m args below meth c s₁ Bd hml0 hP hK
  obtain ⟨rfl, hZ, hh⟩ := hP
  have hx := Bd.exec
  have hby := Bd.bytes
  have hml : c.maxLocals = 15 := hml0
  have hown : s.vm.findClass "com/example/evenring/evenring/ThresholdIsOverloadedPinLaw" = some m.cls := findClass_of_methodNamed Bd.named
  have hnm := (name_of_methodNamed Bd.named Bd.method).1
  have hlk : meth.locks = false := Bd.notSynchronized
  have X0 : Stand p l e room_1 s m #[(.int lim), (.int ld), (.int succ), (.int mm)] below meth c s₁ [] 0 0 := Stand.of_body Bd
  have e0 : s₁.heap = h0 := by rw [← hh, Bd.state]; rfl
  have N0 := Fr.nil n0
  refine Comes.out (Q := Q_rm0 Z lim ld succ mm dc kd ca h0 n0) (kc := room_1.cells) (ks := room_1.slots) ?_
  refine Comes.cast (ef_rm0 m lim ld succ mm) ?_
  have lt_dc : dc < h0.size := G1.lt
  show Comes p e below _ (s₁.setTop (mkF m 0 #[.val (.int lim), .val (.int ld), .val (.int succ), .val (.int mm), .unset, .unset, .unset, .unset, .unset, .unset, .unset, .unset, .unset, .unset, .unset] []))
  obtain ⟨T1, h1, X1, e1, E1, A1, D1, -, st1⟩ := newO X0 hx hZ hown (hw _ (List.mem_of_getElem? (i := 0) rfl)) (hw _ (List.mem_of_getElem? (i := 1) rfl)) (hw _ (List.mem_of_getElem? (i := 2) rfl)) e0 (g := (mkF m 0 #[.val (.int lim), .val (.int ld), .val (.int succ), .val (.int mm), .unset, .unset, .unset, .unset, .unset, .unset, .unset, .unset, .unset, .unset, .unset] [])) rfl (hb hby at_0) (by decide) (by decide)
  obtain ⟨b1, g1⟩ : ∃ z, z = h0.size := ⟨_, rfl⟩
  rw [← g1] at A1 D1 st1
  have z1 : h0.size ≤ h1.size := E1.1
  have lt1 : b1 < h1.size := A1.lt
  have F2 : Fld Z h1 b1 "com/example/evenring/evenring/LoadState$Threshold" "limit" "I" (.int (0 : Int32)) := D1 (Or.inr (hw _ (List.mem_of_getElem? (i := 15) rfl))) (ty := .int) (by decide)
  refine Comes.st st1 ?_
  show Comes p e below _ (T1.setTop (mkF m 3 #[.val (.int lim), .val (.int ld), .val (.int succ), .val (.int mm), .unset, .unset, .unset, .unset, .unset, .unset, .unset, .unset, .unset, .unset, .unset] [(.ref b1)]))
  refine Comes.st (fun t k => XS.dup X1.here hx rfl (hb hby at_3) rfl rfl (XS.iloadN X1.here hx rfl (hb hby at_4) rfl k)) ?_
  show Comes p e below _ (T1.setTop (mkF m 5 #[.val (.int lim), .val (.int ld), .val (.int succ), .val (.int mm), .unset, .unset, .unset, .unset, .unset, .unset, .unset, .unset, .unset, .unset, .unset] [(.int lim), (.ref b1), (.ref b1)]))
  obtain ⟨_, _, ⟨T3, L3, k3, n3⟩, -, X3, ⟨Lc3, hQ3, l3, y3, z3⟩, st3⟩ := X1.specialBack hx (y := (⟨"com/example/evenring/evenring/LoadState$Threshold", "<init>", "(I)V"⟩ : MethodName)) rfl hown (mvT hZ (hw _ (List.mem_of_getElem? (i := 3) rfl))) (mvT hZ (hw _ (List.mem_of_getElem? (i := 4) rfl))) (mvT hZ (hw _ (List.mem_of_getElem? (i := 5) rfl))) (by decide) (backOf (W := 1) (rm1 l Z a0 hw [] b1 lim h1 n0 (by omega)  A1 F2 (by omega)) hZ (hw _ (List.mem_of_getElem? (i := 5) rfl)) (hw _ (List.mem_of_getElem? (i := 2) rfl)) (by decide) (by decide)) (g := (mkF m 5 #[.val (.int lim), .val (.int ld), .val (.int succ), .val (.int mm), .unset, .unset, .unset, .unset, .unset, .unset, .unset, .unset, .unset, .unset, .unset] [(.int lim), (.ref b1), (.ref b1)])) rfl (by rw [hml]; rfl) (Steps.refl _) (a := b1) (argsL := [(.int lim)]) (rest := [(.ref b1)]) (lenOf pd_1 rfl) rfl (by show 2 * 0 + _ ≤ _; exact Nat.le_of_eq rfl) (hb hby at_5) (fun _ _ => ⟨rfl, e1, (by decide : 1 + 0 ≤ _), (by decide : 1 + 0 ≤ _)⟩)
  dsimp only [Pt.U, Pt.locs, Pt.cells, Pt.slots] at X3 l3 y3 z3 st3 hQ3
  subst l3 y3 z3
  obtain ⟨rfl, Nq3, Kq3, P3_0, P3_1⟩ := hQ3
  have N3 := Fr.app N0 Nq3
  have z3k : h1.size ≤ T3.heap.size := Kq3.1
  refine Comes.go st3 ?_
  have lt_4 : b1 < T3.heap.size := P3_0.lt
  show Comes p e below _ (T3.setTop (mkF m 8 #[.val (.int lim), .val (.int ld), .val (.int succ), .val (.int mm), .unset, .unset, .unset, .unset, .unset, .unset, .unset, .unset, .unset, .unset, .unset] [(.ref b1)]))
  refine Comes.st (fun t k => XS.astore X3.here hx rfl (hb hby at_8) rfl rfl (l' := #[.val (.int lim), .val (.int ld), .val (.int succ), .val (.int mm), .val (.ref b1), .unset, .unset, .unset, .unset, .unset, .unset, .unset, .unset, .unset, .unset]) rfl k) ?_
  show Comes p e below _ (T3.setTop (mkF m 10 #[.val (.int lim), .val (.int ld), .val (.int succ), .val (.int mm), .val (.ref b1), .unset, .unset, .unset, .unset, .unset, .unset, .unset, .unset, .unset, .unset] []))
  obtain ⟨T5, h5, X5, e5, E5, A5, D5, -, st5⟩ := newO X3 hx hZ hown (hw _ (List.mem_of_getElem? (i := 16) rfl)) (hw _ (List.mem_of_getElem? (i := 17) rfl)) (hw _ (List.mem_of_getElem? (i := 18) rfl)) rfl (g := (mkF m 10 #[.val (.int lim), .val (.int ld), .val (.int succ), .val (.int mm), .val (.ref b1), .unset, .unset, .unset, .unset, .unset, .unset, .unset, .unset, .unset, .unset] [])) rfl (hb hby at_10) (by decide) (by decide)
  obtain ⟨b5, g5⟩ : ∃ z, z = T3.heap.size := ⟨_, rfl⟩
  rw [← g5] at A5 D5 st5
  have z5 : T3.heap.size ≤ h5.size := E5.1
  have lt5 : b5 < h5.size := A5.lt
  have F6 : Fld Z h5 b5 "java/util/AbstractList" "modCount" "I" (.int (0 : Int32)) := D5 (Or.inl (hw _ (List.mem_of_getElem? (i := 36) rfl))) (ty := .int) (by decide)
  have F7 : Fld Z h5 b5 "java/util/ArrayList" "elementData" "[Ljava/lang/Object;" .null := D5 (Or.inl (hw _ (List.mem_of_getElem? (i := 39) rfl))) (ty := (.array (.object "java/lang/Object"))) (by decide)
  have F8 : Fld Z h5 b5 "java/util/ArrayList" "size" "I" (.int (0 : Int32)) := D5 (Or.inl (hw _ (List.mem_of_getElem? (i := 55) rfl))) (ty := .int) (by decide)
  refine Comes.st st5 ?_
  show Comes p e below _ (T5.setTop (mkF m 13 #[.val (.int lim), .val (.int ld), .val (.int succ), .val (.int mm), .val (.ref b1), .unset, .unset, .unset, .unset, .unset, .unset, .unset, .unset, .unset, .unset] [(.ref b5)]))
  refine Comes.st (fun t k => XS.dup X5.here hx rfl (hb hby at_13) rfl rfl k) ?_
  show Comes p e below _ (T5.setTop (mkF m 14 #[.val (.int lim), .val (.int ld), .val (.int succ), .val (.int mm), .val (.ref b1), .unset, .unset, .unset, .unset, .unset, .unset, .unset, .unset, .unset, .unset] [(.ref b5), (.ref b5)]))
  have Od9 : Old Z n0 h5 := (((G4.ext E1).keep Kq3 (allS (by omega) all0)).ext E5)
  obtain ⟨_, _, ⟨T10, L10, k10, n10⟩, -, X10, ⟨Lc10, hQ10, l10, y10, z10⟩, st10⟩ := X5.specialBack hx (y := (⟨"java/util/ArrayList", "<init>", "()V"⟩ : MethodName)) rfl hown (mvT hZ (hw _ (List.mem_of_getElem? (i := 19) rfl))) (mvT hZ (hw _ (List.mem_of_getElem? (i := 20) rfl))) (mvT hZ (hw _ (List.mem_of_getElem? (i := 21) rfl))) (by decide) (backOf (W := 1) (rm4 l Z a0 hw [] b5 dc h5 n0 (by omega)  A5 F7 F8 F6 (by omega) G0 Od9) hZ (hw _ (List.mem_of_getElem? (i := 21) rfl)) (hw _ (List.mem_of_getElem? (i := 18) rfl)) (by decide) (by decide)) (g := (mkF m 14 #[.val (.int lim), .val (.int ld), .val (.int succ), .val (.int mm), .val (.ref b1), .unset, .unset, .unset, .unset, .unset, .unset, .unset, .unset, .unset, .unset] [(.ref b5), (.ref b5)])) rfl (by rw [hml]; rfl) (Steps.refl _) (a := b5) (argsL := []) (rest := [(.ref b5)]) (lenOf pd_0 rfl) rfl (by show 2 * 0 + _ ≤ _; exact Nat.le_of_eq rfl) (hb hby at_14) (fun _ _ => ⟨rfl, e5, (by decide : 2 + 0 ≤ _), (by decide : 4 + 0 ≤ _)⟩)
  dsimp only [Pt.U, Pt.locs, Pt.cells, Pt.slots] at X10 l10 y10 z10 st10 hQ10
  subst l10 y10 z10
  obtain ⟨rfl, Nq10, Kq10, P10_0, P10_1, P10_2, P10_3⟩ := hQ10
  have N10 := Fr.app N3 Nq10
  have z10k : h5.size ≤ T10.heap.size := Kq10.1
  refine Comes.go st10 ?_
  have lt_11 : b5 < T10.heap.size := P10_0.lt
  show Comes p e below _ (T10.setTop (mkF m 17 #[.val (.int lim), .val (.int ld), .val (.int succ), .val (.int mm), .val (.ref b1), .unset, .unset, .unset, .unset, .unset, .unset, .unset, .unset, .unset, .unset] [(.ref b5)]))
  refine Comes.st (fun t k => XS.astore X10.here hx rfl (hb hby at_17) rfl rfl (l' := #[.val (.int lim), .val (.int ld), .val (.int succ), .val (.int mm), .val (.ref b1), .val (.ref b5), .unset, .unset, .unset, .unset, .unset, .unset, .unset, .unset, .unset]) rfl (XS.aload X10.here hx rfl (hb hby at_19) rfl rfl (XS.iloadN X10.here hx rfl (hb hby at_21) rfl k))) ?_
  show Comes p e below _ (T10.setTop (mkF m 22 #[.val (.int lim), .val (.int ld), .val (.int succ), .val (.int mm), .val (.ref b1), .val (.ref b5), .unset, .unset, .unset, .unset, .unset, .unset, .unset, .unset, .unset] [(.int succ), (.ref b5)]))
  have Od12 : Old Z n0 T10.heap := (Od9.keep Kq10 (allS (by omega) all0))
  obtain ⟨_, _, ⟨T13, L13, k13, n13⟩, -, X13, ⟨Lc13, hQ13, l13, y13, z13⟩, st13⟩ := Jvm.LawKit.callS X10 hx (y := (⟨"java/lang/Integer", "valueOf", "(I)Ljava/lang/Integer;"⟩ : MethodName)) hown (mvT hZ (hw _ (List.mem_of_getElem? (i := 40) rfl))) (mvT hZ (hw _ (List.mem_of_getElem? (i := 41) rfl))) (mvT hZ (hw _ (List.mem_of_getElem? (i := 42) rfl))) (mvT hZ (hw _ (List.mem_of_getElem? (i := 43) rfl))) (by decide) (backOf (W := 1) (rm7 l Z a0 hw [] succ ca T10.heap n0 (by omega)  G2 G3 Od12 (by assumption)) hZ (hw _ (List.mem_of_getElem? (i := 43) rfl)) (hw _ (List.mem_of_getElem? (i := 42) rfl)) (by decide) (by decide)) (g := (mkF m 22 #[.val (.int lim), .val (.int ld), .val (.int succ), .val (.int mm), .val (.ref b1), .val (.ref b5), .unset, .unset, .unset, .unset, .unset, .unset, .unset, .unset, .unset] [(.int succ), (.ref b5)])) rfl (by rw [hml]; rfl) (argsL := [(.int succ)]) (rest := [(.ref b5)]) (lenOf pd_8 rfl) rfl (by show 2 * 0 + _ ≤ _; exact Nat.le_of_eq rfl) (hb hby at_22) (fun _ _ => ⟨rfl, rfl, (by decide : 2 + 1 ≤ _), (by decide : 4 + 1 ≤ _)⟩)
  dsimp only [Pt.U, Pt.locs, Pt.cells, Pt.slots] at X13 l13 y13 z13 st13 hQ13
  subst l13 y13 z13
  obtain ⟨o14, rfl, Nq13, Kq13, P13_0⟩ := hQ13
  have N13 := Fr.app N10 Nq13
  have z13k : T10.heap.size ≤ T13.heap.size := Kq13.1
  refine Comes.st st13 ?_
  have lt_15 : o14 < T13.heap.size := P13_0.lt
  show Comes p e below _ (T13.setTop (mkF m 25 #[.val (.int lim), .val (.int ld), .val (.int succ), .val (.int mm), .val (.ref b1), .val (.ref b5), .unset, .unset, .unset, .unset, .unset, .unset, .unset, .unset, .unset] [(.ref o14), (.ref b5)]))
  have F16 : Exa Z T13.heap b5 "java/util/ArrayList" := (P10_0.keep Kq13)
  have F17 : Fld Z T13.heap b5 "java/util/ArrayList" "elementData" "[Ljava/lang/Object;" (.ref dc) := (P10_1.keep Kq13 nin0)
  have F18 : Fld Z T13.heap b5 "java/util/ArrayList" "size" "I" (.int (0 : Int32)) := (P10_2.keep Kq13 nin0)
  have ne19 : dc ≠ b1 := by omega
  have ne20 : dc ≠ b5 := by omega
  have F21 : Arv Z T13.heap dc kd (.object "java/lang/Object") (0 : Int32) [] .null := (((((G1.ext E1).keep Kq3 (ninS ne19 nin0)).ext E5).keep Kq10 (ninS ne20 nin0)).keep Kq13 nin0)
  have Od22 : Old Z n0 T13.heap := (Od12.keep Kq13 all0)
  have F23 : Fld Z T13.heap b5 "java/util/AbstractList" "modCount" "I" (.int (0 : Int32)) := (P10_3.keep Kq13 nin0)
  obtain ⟨cq24, kq24, q24a, q24b, q24c⟩ := isOf hZ rfl F16
  obtain ⟨_, _, ⟨T24, L24, k24, n24⟩, -, X24, ⟨Lc24, hQ24, l24, y24, z24⟩, st24⟩ := X13.virtualBack hx (y := (⟨"java/util/ArrayList", "add", "(Ljava/lang/Object;)Z"⟩ : MethodName)) (z := (⟨"java/util/ArrayList", "add", "(Ljava/lang/Object;)Z"⟩ : MethodName)) hown (mvT hZ (hw _ (List.mem_of_getElem? (i := 47) rfl))) (mvT hZ (hw _ (List.mem_of_getElem? (i := 48) rfl))) (notFace_of_selects (args := #[]) (mvT hZ (hw _ (List.mem_of_getElem? (i := 50) rfl)))) (mvT hZ (hw _ (List.mem_of_getElem? (i := 50) rfl))) (mvT hZ (hw _ (List.mem_of_getElem? (i := 49) rfl))) (by decide) (backOf (W := 0) (rm8 l Z a0 hw [] b5 o14 dc kd T13.heap n0 (by omega)  F16 F17 F18 F21 G0 Od22 (by omega) ne20 P13_0 F23) hZ (hw _ (List.mem_of_getElem? (i := 51) rfl)) (hw _ (List.mem_of_getElem? (i := 18) rfl)) (by decide) (by decide)) q24a q24c (g := (mkF m 25 #[.val (.int lim), .val (.int ld), .val (.int succ), .val (.int mm), .val (.ref b1), .val (.ref b5), .unset, .unset, .unset, .unset, .unset, .unset, .unset, .unset, .unset] [(.ref o14), (.ref b5)])) rfl (by rw [hml]; rfl) (Steps.refl _) (argsL := [(.ref o14)]) (rest := []) (lenOf pd_9 rfl) rfl (by show 2 * 0 + _ ≤ _; exact Nat.le_of_eq rfl) (hb hby at_25) (fun _ _ => ⟨rfl, rfl, (by decide : 3 + 1 ≤ _), (by decide : 5 + 10 ≤ _)⟩)
  dsimp only [Pt.U, Pt.locs, Pt.cells, Pt.slots] at X24 l24 y24 z24 st24 hQ24
  subst l24 y24 z24
  obtain ⟨rfl, Nq24, Kq24, P24_0⟩ := hQ24
  have N24 := Fr.app N13 Nq24
  have z24k : T13.heap.size ≤ T24.heap.size := Kq24.1
  refine Comes.go st24 ?_
  show Comes p e below _ (T24.setTop (mkF m 28 #[.val (.int lim), .val (.int ld), .val (.int succ), .val (.int mm), .val (.ref b1), .val (.ref b5), .unset, .unset, .unset, .unset, .unset, .unset, .unset, .unset, .unset] [(.int (1 : Int32))]))
  refine Comes.st (fun t k => XS.pop X24.here hx rfl (hb hby at_28) rfl rfl (XS.iloadN X24.here hx rfl (hb hby at_29) rfl (XS.sipush X24.here hx rfl (hb hby at_30) (XS.iand X24.here hx rfl (hb hby at_33) rfl (XS.i2dS X24.here hx rfl (hb hby at_34) rfl rfl (XS.dstore X24.here hx rfl (hb hby at_35) rfl (l' := #[.val (.int lim), .val (.int ld), .val (.int succ), .val (.int mm), .val (.ref b1), .val (.ref b5), .val (.double (FP.i2d (mm &&& (1023 : Int32)))), .second, .unset, .unset, .unset, .unset, .unset, .unset, .unset]) rfl k)))))) ?_
  show Comes p e below _ (T24.setTop (mkF m 37 #[.val (.int lim), .val (.int ld), .val (.int succ), .val (.int mm), .val (.ref b1), .val (.ref b5), .val (.double (FP.i2d (mm &&& (1023 : Int32)))), .second, .unset, .unset, .unset, .unset, .unset, .unset, .unset] []))
  refine Comes.st (fun t k => XS.iloadN X24.here hx rfl (hb hby at_37) rfl (XS.bipush X24.here hx rfl (hb hby at_38) (XS.iushr X24.here hx rfl (hb hby at_40) rfl (XS.sipush X24.here hx rfl (hb hby at_41) (XS.iand X24.here hx rfl (hb hby at_44) rfl (XS.iconst X24.here hx rfl (hb hby at_45) k)))))) ?_
  show Comes p e below _ (T24.setTop (mkF m 46 #[.val (.int lim), .val (.int ld), .val (.int succ), .val (.int mm), .val (.ref b1), .val (.ref b5), .val (.double (FP.i2d (mm &&& (1023 : Int32)))), .second, .unset, .unset, .unset, .unset, .unset, .unset, .unset] [(.int (1 : Int32)), (.int (((mm.toUInt32 >>> ((10 : Int32) &&& 31).toUInt32).toInt32) &&& (1023 : Int32)))]))
  refine Comes.st (fun t k => XS.iadd X24.here hx rfl (hb hby at_46) rfl k) ?_
  show Comes p e below _ (T24.setTop (mkF m 47 #[.val (.int lim), .val (.int ld), .val (.int succ), .val (.int mm), .val (.ref b1), .val (.ref b5), .val (.double (FP.i2d (mm &&& (1023 : Int32)))), .second, .unset, .unset, .unset, .unset, .unset, .unset, .unset] [(.int ((((mm.toUInt32 >>> ((10 : Int32) &&& 31).toUInt32).toInt32) &&& (1023 : Int32)) + (1 : Int32)))]))
  generalize hv_v25 : ((((mm.toUInt32 >>> ((10 : Int32) &&& 31).toUInt32).toInt32) &&& (1023 : Int32)) + (1 : Int32)) = v25
  show Comes p e below _ (T24.setTop (mkF m 47 #[.val (.int lim), .val (.int ld), .val (.int succ), .val (.int mm), .val (.ref b1), .val (.ref b5), .val (.double (FP.i2d (mm &&& (1023 : Int32)))), .second, .unset, .unset, .unset, .unset, .unset, .unset, .unset] [(.int v25)]))
  refine Comes.st (fun t k => XS.i2dS X24.here hx rfl (hb hby at_47) rfl rfl (XS.dstore X24.here hx rfl (hb hby at_48) rfl (l' := #[.val (.int lim), .val (.int ld), .val (.int succ), .val (.int mm), .val (.ref b1), .val (.ref b5), .val (.double (FP.i2d (mm &&& (1023 : Int32)))), .second, .val (.double (FP.i2d v25)), .second, .unset, .unset, .unset, .unset, .unset]) rfl k)) ?_
  show Comes p e below _ (T24.setTop (mkF m 50 #[.val (.int lim), .val (.int ld), .val (.int succ), .val (.int mm), .val (.ref b1), .val (.ref b5), .val (.double (FP.i2d (mm &&& (1023 : Int32)))), .second, .val (.double (FP.i2d v25)), .second, .unset, .unset, .unset, .unset, .unset] []))
  obtain ⟨T26, h26, X26, e26, E26, A26, D26, -, st26⟩ := newO X24 hx hZ hown (hw _ (List.mem_of_getElem? (i := 78) rfl)) (hw _ (List.mem_of_getElem? (i := 79) rfl)) (hw _ (List.mem_of_getElem? (i := 80) rfl)) rfl (g := (mkF m 50 #[.val (.int lim), .val (.int ld), .val (.int succ), .val (.int mm), .val (.ref b1), .val (.ref b5), .val (.double (FP.i2d (mm &&& (1023 : Int32)))), .second, .val (.double (FP.i2d v25)), .second, .unset, .unset, .unset, .unset, .unset] [])) rfl (hb hby at_50) (by decide) (by decide)
  obtain ⟨b26, g26⟩ : ∃ z, z = T24.heap.size := ⟨_, rfl⟩
  rw [← g26] at A26 D26 st26
  have z26 : T24.heap.size ≤ h26.size := E26.1
  have lt26 : b26 < h26.size := A26.lt
  have F27 : Fld Z h26 b26 "com/example/evenring/evenring/LoadView$Mean" "load" "D" (.double 0) := D26 (Or.inr (hw _ (List.mem_of_getElem? (i := 86) rfl))) (ty := .double) (by decide)
  have F28 : Fld Z h26 b26 "com/example/evenring/evenring/LoadView$Mean" "peers" "D" (.double 0) := D26 (Or.inr (hw _ (List.mem_of_getElem? (i := 88) rfl))) (ty := .double) (by decide)
  refine Comes.st st26 ?_
  show Comes p e below _ (T26.setTop (mkF m 53 #[.val (.int lim), .val (.int ld), .val (.int succ), .val (.int mm), .val (.ref b1), .val (.ref b5), .val (.double (FP.i2d (mm &&& (1023 : Int32)))), .second, .val (.double (FP.i2d v25)), .second, .unset, .unset, .unset, .unset, .unset] [(.ref b26)]))
  refine Comes.st (fun t k => XS.dup X26.here hx rfl (hb hby at_53) rfl rfl (XS.dload X26.here hx rfl (hb hby at_54) rfl (XS.dload X26.here hx rfl (hb hby at_56) rfl k))) ?_
  show Comes p e below _ (T26.setTop (mkF m 58 #[.val (.int lim), .val (.int ld), .val (.int succ), .val (.int mm), .val (.ref b1), .val (.ref b5), .val (.double (FP.i2d (mm &&& (1023 : Int32)))), .second, .val (.double (FP.i2d v25)), .second, .unset, .unset, .unset, .unset, .unset] [(.double (FP.i2d v25)), (.double (FP.i2d (mm &&& (1023 : Int32)))), (.ref b26), (.ref b26)]))
  obtain ⟨_, _, ⟨T29, L29, k29, n29⟩, -, X29, ⟨Lc29, hQ29, l29, y29, z29⟩, st29⟩ := X26.specialBack hx (y := (⟨"com/example/evenring/evenring/LoadView$Mean", "<init>", "(DD)V"⟩ : MethodName)) rfl hown (mvT hZ (hw _ (List.mem_of_getElem? (i := 81) rfl))) (mvT hZ (hw _ (List.mem_of_getElem? (i := 82) rfl))) (mvT hZ (hw _ (List.mem_of_getElem? (i := 83) rfl))) (by decide) (backOf (W := 1) (rm13 l Z a0 hw [] b26 ((FP.i2d (mm &&& (1023 : Int32)))) ((FP.i2d v25)) h26 n0 (by omega)  A26 F27 F28 (by omega)) hZ (hw _ (List.mem_of_getElem? (i := 83) rfl)) (hw _ (List.mem_of_getElem? (i := 80) rfl)) (by decide) (by decide)) (g := (mkF m 58 #[.val (.int lim), .val (.int ld), .val (.int succ), .val (.int mm), .val (.ref b1), .val (.ref b5), .val (.double (FP.i2d (mm &&& (1023 : Int32)))), .second, .val (.double (FP.i2d v25)), .second, .unset, .unset, .unset, .unset, .unset] [(.double (FP.i2d v25)), (.double (FP.i2d (mm &&& (1023 : Int32)))), (.ref b26), (.ref b26)])) rfl (by rw [hml]; rfl) (Steps.refl _) (a := b26) (argsL := [(.double (FP.i2d (mm &&& (1023 : Int32)))), (.double (FP.i2d v25))]) (rest := [(.ref b26)]) (lenOf pd_10 rfl) rfl (by show 2 * 0 + _ ≤ _; exact Nat.le_of_eq rfl) (hb hby at_58) (fun _ _ => ⟨rfl, e26, (by decide : 5 + 0 ≤ _), (by decide : 17 + 0 ≤ _)⟩)
  dsimp only [Pt.U, Pt.locs, Pt.cells, Pt.slots] at X29 l29 y29 z29 st29 hQ29
  subst l29 y29 z29
  obtain ⟨rfl, Nq29, Kq29, P29_0⟩ := hQ29
  have N29 := Fr.app N24 Nq29
  have z29k : h26.size ≤ T29.heap.size := Kq29.1
  refine Comes.go st29 ?_
  have lt_30 : b26 < T29.heap.size := P29_0.lt
  show Comes p e below _ (T29.setTop (mkF m 61 #[.val (.int lim), .val (.int ld), .val (.int succ), .val (.int mm), .val (.ref b1), .val (.ref b5), .val (.double (FP.i2d (mm &&& (1023 : Int32)))), .second, .val (.double (FP.i2d v25)), .second, .unset, .unset, .unset, .unset, .unset] [(.ref b26)]))
  refine Comes.st (fun t k => XS.astore X29.here hx rfl (hb hby at_61) rfl rfl (l' := #[.val (.int lim), .val (.int ld), .val (.int succ), .val (.int mm), .val (.ref b1), .val (.ref b5), .val (.double (FP.i2d (mm &&& (1023 : Int32)))), .second, .val (.double (FP.i2d v25)), .second, .val (.ref b26), .unset, .unset, .unset, .unset]) rfl k) ?_
  show Comes p e below _ (T29.setTop (mkF m 63 #[.val (.int lim), .val (.int ld), .val (.int succ), .val (.int mm), .val (.ref b1), .val (.ref b5), .val (.double (FP.i2d (mm &&& (1023 : Int32)))), .second, .val (.double (FP.i2d v25)), .second, .val (.ref b26), .unset, .unset, .unset, .unset] []))
  obtain ⟨T31, h31, X31, e31, E31, A31, D31, -, st31⟩ := newO X29 hx hZ hown (hw _ (List.mem_of_getElem? (i := 89) rfl)) (hw _ (List.mem_of_getElem? (i := 90) rfl)) (hw _ (List.mem_of_getElem? (i := 91) rfl)) rfl (g := (mkF m 63 #[.val (.int lim), .val (.int ld), .val (.int succ), .val (.int mm), .val (.ref b1), .val (.ref b5), .val (.double (FP.i2d (mm &&& (1023 : Int32)))), .second, .val (.double (FP.i2d v25)), .second, .val (.ref b26), .unset, .unset, .unset, .unset] [])) rfl (hb hby at_63) (by decide) (by decide)
  obtain ⟨b31, g31⟩ : ∃ z, z = T29.heap.size := ⟨_, rfl⟩
  rw [← g31] at A31 D31 st31
  have z31 : T29.heap.size ≤ h31.size := E31.1
  have lt31 : b31 < h31.size := A31.lt
  have F32 : Fld Z h31 b31 "com/example/evenring/evenring/LoadView" "load" "I" (.int (0 : Int32)) := D31 (Or.inr (hw _ (List.mem_of_getElem? (i := 97) rfl))) (ty := .int) (by decide)
  have F33 : Fld Z h31 b31 "com/example/evenring/evenring/LoadView" "successors" "Ljava/util/List;" .null := D31 (Or.inr (hw _ (List.mem_of_getElem? (i := 99) rfl))) (ty := (.object "java/util/List")) (by decide)
  have F34 : Fld Z h31 b31 "com/example/evenring/evenring/LoadView" "mean" "Lcom/example/evenring/evenring/LoadView$Mean;" .null := D31 (Or.inr (hw _ (List.mem_of_getElem? (i := 101) rfl))) (ty := (.object "com/example/evenring/evenring/LoadView$Mean")) (by decide)
  refine Comes.st st31 ?_
  show Comes p e below _ (T31.setTop (mkF m 66 #[.val (.int lim), .val (.int ld), .val (.int succ), .val (.int mm), .val (.ref b1), .val (.ref b5), .val (.double (FP.i2d (mm &&& (1023 : Int32)))), .second, .val (.double (FP.i2d v25)), .second, .val (.ref b26), .unset, .unset, .unset, .unset] [(.ref b31)]))
  refine Comes.st (fun t k => XS.dup X31.here hx rfl (hb hby at_66) rfl rfl (XS.iloadN X31.here hx rfl (hb hby at_67) rfl (XS.aload X31.here hx rfl (hb hby at_68) rfl rfl (XS.aload X31.here hx rfl (hb hby at_70) rfl rfl k)))) ?_
  show Comes p e below _ (T31.setTop (mkF m 72 #[.val (.int lim), .val (.int ld), .val (.int succ), .val (.int mm), .val (.ref b1), .val (.ref b5), .val (.double (FP.i2d (mm &&& (1023 : Int32)))), .second, .val (.double (FP.i2d v25)), .second, .val (.ref b26), .unset, .unset, .unset, .unset] [(.ref b26), (.ref b5), (.int ld), (.ref b31), (.ref b31)]))
  obtain ⟨_, _, ⟨T35, L35, k35, n35⟩, -, X35, ⟨Lc35, hQ35, l35, y35, z35⟩, st35⟩ := X31.specialBack hx (y := (⟨"com/example/evenring/evenring/LoadView", "<init>", "(ILjava/util/List;Lcom/example/evenring/evenring/LoadView$Mean;)V"⟩ : MethodName)) rfl hown (mvT hZ (hw _ (List.mem_of_getElem? (i := 92) rfl))) (mvT hZ (hw _ (List.mem_of_getElem? (i := 93) rfl))) (mvT hZ (hw _ (List.mem_of_getElem? (i := 94) rfl))) (by decide) (backOf (W := 1) (rm14 l Z a0 hw [] b31 ld b5 b26 h31 n0 (by omega)  A31 F32 F33 F34 (by omega)) hZ (hw _ (List.mem_of_getElem? (i := 94) rfl)) (hw _ (List.mem_of_getElem? (i := 91) rfl)) (by decide) (by decide)) (g := (mkF m 72 #[.val (.int lim), .val (.int ld), .val (.int succ), .val (.int mm), .val (.ref b1), .val (.ref b5), .val (.double (FP.i2d (mm &&& (1023 : Int32)))), .second, .val (.double (FP.i2d v25)), .second, .val (.ref b26), .unset, .unset, .unset, .unset] [(.ref b26), (.ref b5), (.int ld), (.ref b31), (.ref b31)])) rfl (by rw [hml]; rfl) (Steps.refl _) (a := b31) (argsL := [(.int ld), (.ref b5), (.ref b26)]) (rest := [(.ref b31)]) (lenOf pd_7 rfl) rfl (by show 2 * 0 + _ ≤ _; exact Nat.le_of_eq rfl) (hb hby at_72) (fun _ _ => ⟨rfl, e31, (by decide : 6 + 0 ≤ _), (by decide : 20 + 0 ≤ _)⟩)
  dsimp only [Pt.U, Pt.locs, Pt.cells, Pt.slots] at X35 l35 y35 z35 st35 hQ35
  subst l35 y35 z35
  obtain ⟨rfl, Nq35, Kq35, P35_0, P35_1, P35_2, P35_3⟩ := hQ35
  have N35 := Fr.app N29 Nq35
  have z35k : h31.size ≤ T35.heap.size := Kq35.1
  refine Comes.go st35 ?_
  have lt_36 : b31 < T35.heap.size := P35_0.lt
  show Comes p e below _ (T35.setTop (mkF m 75 #[.val (.int lim), .val (.int ld), .val (.int succ), .val (.int mm), .val (.ref b1), .val (.ref b5), .val (.double (FP.i2d (mm &&& (1023 : Int32)))), .second, .val (.double (FP.i2d v25)), .second, .val (.ref b26), .unset, .unset, .unset, .unset] [(.ref b31)]))
  refine Comes.st (fun t k => XS.astore X35.here hx rfl (hb hby at_75) rfl rfl (l' := #[.val (.int lim), .val (.int ld), .val (.int succ), .val (.int mm), .val (.ref b1), .val (.ref b5), .val (.double (FP.i2d (mm &&& (1023 : Int32)))), .second, .val (.double (FP.i2d v25)), .second, .val (.ref b26), .val (.ref b31), .unset, .unset, .unset]) rfl (XS.aload X35.here hx rfl (hb hby at_77) rfl rfl (XS.aload X35.here hx rfl (hb hby at_79) rfl rfl k))) ?_
  show Comes p e below _ (T35.setTop (mkF m 81 #[.val (.int lim), .val (.int ld), .val (.int succ), .val (.int mm), .val (.ref b1), .val (.ref b5), .val (.double (FP.i2d (mm &&& (1023 : Int32)))), .second, .val (.double (FP.i2d v25)), .second, .val (.ref b26), .val (.ref b31), .unset, .unset, .unset] [(.ref b31), (.ref b1)]))
  have ne37 : b1 ≠ b5 := by omega
  have ne38 : b1 ≠ b26 := by omega
  have ne39 : b1 ≠ b31 := by omega
  have F40 : Fld Z T35.heap b1 "com/example/evenring/evenring/LoadState$Threshold" "limit" "I" (.int lim) := ((((((((P3_1.ext E5).keep Kq10 (ninS ne37 nin0)).keep Kq13 nin0).keep Kq24 (ninS ne37 nin0)).ext E26).keep Kq29 (ninS ne38 nin0)).ext E31).keep Kq35 (ninS ne39 nin0))
  have F42 : Exa Z T35.heap b1 "com/example/evenring/evenring/LoadState$Threshold" := ((((((((P3_0.ext E5).keep Kq10).keep Kq13).keep Kq24).ext E26).keep Kq29).ext E31).keep Kq35)
  obtain ⟨cq41, kq41, q41a, q41b, q41c⟩ := isOf hZ rfl F42
  obtain ⟨_, _, ⟨T41, L41, k41, n41⟩, -, X41, ⟨Lc41, hQ41, l41, y41, z41⟩, st41⟩ := X35.virtualBack hx (y := (⟨"com/example/evenring/evenring/LoadState$Threshold", "isOverloaded", "(Lcom/example/evenring/evenring/LoadView;)Z"⟩ : MethodName)) (z := (⟨"com/example/evenring/evenring/LoadState$Threshold", "isOverloaded", "(Lcom/example/evenring/evenring/LoadView;)Z"⟩ : MethodName)) hown (mvT hZ (hw _ (List.mem_of_getElem? (i := 102) rfl))) (mvT hZ (hw _ (List.mem_of_getElem? (i := 103) rfl))) (notFace_of_selects (args := #[]) (mvT hZ (hw _ (List.mem_of_getElem? (i := 105) rfl)))) (mvT hZ (hw _ (List.mem_of_getElem? (i := 105) rfl))) (mvT hZ (hw _ (List.mem_of_getElem? (i := 104) rfl))) (by decide) (backOf (W := 0) (rm15 l Z a0 hw [] b1 b31 lim ld T35.heap n0 (by omega)  F40 P35_0 P35_1) hZ (hw _ (List.mem_of_getElem? (i := 106) rfl)) (hw _ (List.mem_of_getElem? (i := 2) rfl)) (by decide) (by decide)) q41a q41c (g := (mkF m 81 #[.val (.int lim), .val (.int ld), .val (.int succ), .val (.int mm), .val (.ref b1), .val (.ref b5), .val (.double (FP.i2d (mm &&& (1023 : Int32)))), .second, .val (.double (FP.i2d v25)), .second, .val (.ref b26), .val (.ref b31), .unset, .unset, .unset] [(.ref b31), (.ref b1)])) rfl (by rw [hml]; rfl) (Steps.refl _) (argsL := [(.ref b31)]) (rest := []) (lenOf pd_11 rfl) rfl (by show 2 * 0 + _ ≤ _; exact Nat.le_of_eq rfl) (hb hby at_81) (fun _ _ => ⟨rfl, rfl, (by decide : 6 + 0 ≤ _), (by decide : 20 + 0 ≤ _)⟩)
  dsimp only [Pt.U, Pt.locs, Pt.cells, Pt.slots] at X41 l41 y41 z41 st41 hQ41
  subst l41 y41 z41
  obtain ⟨r43, rfl, Nq41, hs41, P41_0⟩ := hQ41
  have N41 := Fr.app N35 Nq41
  refine Comes.go st41 ?_
  show Comes p e below _ (T41.setTop (mkF m 84 #[.val (.int lim), .val (.int ld), .val (.int succ), .val (.int mm), .val (.ref b1), .val (.ref b5), .val (.double (FP.i2d (mm &&& (1023 : Int32)))), .second, .val (.double (FP.i2d v25)), .second, .val (.ref b26), .val (.ref b31), .unset, .unset, .unset] [(.int r43)]))
  refine Comes.st (fun t k => XS.istore X41.here hx rfl (hb hby at_84) rfl (l' := #[.val (.int lim), .val (.int ld), .val (.int succ), .val (.int mm), .val (.ref b1), .val (.ref b5), .val (.double (FP.i2d (mm &&& (1023 : Int32)))), .second, .val (.double (FP.i2d v25)), .second, .val (.ref b26), .val (.ref b31), .val (.int r43), .unset, .unset]) rfl (XS.iloadN X41.here hx rfl (hb hby at_86) rfl (XS.i2l X41.here hx rfl (hb hby at_87) rfl (XS.iloadN X41.here hx rfl (hb hby at_88) rfl (XS.i2l X41.here hx rfl (hb hby at_89) rfl (XS.lsub X41.here hx rfl (hb hby at_90) rfl k)))))) ?_
  show Comes p e below _ (T41.setTop (mkF m 91 #[.val (.int lim), .val (.int ld), .val (.int succ), .val (.int mm), .val (.ref b1), .val (.ref b5), .val (.double (FP.i2d (mm &&& (1023 : Int32)))), .second, .val (.double (FP.i2d v25)), .second, .val (.ref b26), .val (.ref b31), .val (.int r43), .unset, .unset] [(.long ((ld.toInt64) - (lim.toInt64)))]))
  refine Comes.st (fun t k => XS.lconst X41.here hx rfl (hb hby at_91) (XS.lcmp X41.here hx rfl (hb hby at_92) rfl k)) ?_
  show Comes p e below _ (T41.setTop (mkF m 93 #[.val (.int lim), .val (.int ld), .val (.int succ), .val (.int mm), .val (.ref b1), .val (.ref b5), .val (.double (FP.i2d (mm &&& (1023 : Int32)))), .second, .val (.double (FP.i2d v25)), .second, .val (.ref b26), .val (.ref b31), .val (.int r43), .unset, .unset] [(.int (lcmpW ((ld.toInt64) - (lim.toInt64)) (0 : Int64)))]))
  by_cases hc93_44 : (0 : Int64) < ((ld.toInt64) - (lim.toInt64))
  · refine Comes.st (fun t k => XS.ifNo X41.here hx rfl (hb hby at_93) rfl ((if0 _ _).trans (tlt ((lw_gt _ _).mpr hc93_44)).2.2.2) (XS.iconst X41.here hx rfl (hb hby at_96) (XS.goto X41.here hx rfl (pc0 := 97) (pc' := 101) rfl (hb hby at_97) (by decide) (by decide) (XS.istore X41.here hx rfl (hb hby at_101) rfl (l' := #[.val (.int lim), .val (.int ld), .val (.int succ), .val (.int mm), .val (.ref b1), .val (.ref b5), .val (.double (FP.i2d (mm &&& (1023 : Int32)))), .second, .val (.double (FP.i2d v25)), .second, .val (.ref b26), .val (.ref b31), .val (.int r43), .val (.int (1 : Int32)), .unset]) rfl (XS.aload X41.here hx rfl (hb hby at_103) rfl rfl (XS.aload X41.here hx rfl (hb hby at_105) rfl rfl k)))))) ?_
    show Comes p e below _ (T41.setTop (mkF m 107 #[.val (.int lim), .val (.int ld), .val (.int succ), .val (.int mm), .val (.ref b1), .val (.ref b5), .val (.double (FP.i2d (mm &&& (1023 : Int32)))), .second, .val (.double (FP.i2d v25)), .second, .val (.ref b26), .val (.ref b31), .val (.int r43), .val (.int (1 : Int32)), .unset] [(.ref b31), (.ref b1)]))
    refine Comes.st (fun t k => XS.iloadN X41.here hx rfl (hb hby at_107) rfl k) ?_
    show Comes p e below _ (T41.setTop (mkF m 108 #[.val (.int lim), .val (.int ld), .val (.int succ), .val (.int mm), .val (.ref b1), .val (.ref b5), .val (.double (FP.i2d (mm &&& (1023 : Int32)))), .second, .val (.double (FP.i2d v25)), .second, .val (.ref b26), .val (.ref b31), .val (.int r43), .val (.int (1 : Int32)), .unset] [(.int lim), (.ref b31), (.ref b1)]))
    obtain ⟨cq45, kq45, q45a, q45b, q45c⟩ := isOf hZ hs41 P35_0
    obtain ⟨_, _, ⟨T45, L45, k45, n45⟩, -, X45, ⟨Lc45, hQ45, l45, y45, z45⟩, st45⟩ := X41.virtualBack hx (y := (⟨"com/example/evenring/evenring/LoadView", "withLoad", "(I)Lcom/example/evenring/evenring/LoadView;"⟩ : MethodName)) (z := (⟨"com/example/evenring/evenring/LoadView", "withLoad", "(I)Lcom/example/evenring/evenring/LoadView;"⟩ : MethodName)) hown (mvT hZ (hw _ (List.mem_of_getElem? (i := 112) rfl))) (mvT hZ (hw _ (List.mem_of_getElem? (i := 113) rfl))) (notFace_of_selects (args := #[]) (mvT hZ (hw _ (List.mem_of_getElem? (i := 115) rfl)))) (mvT hZ (hw _ (List.mem_of_getElem? (i := 115) rfl))) (mvT hZ (hw _ (List.mem_of_getElem? (i := 114) rfl))) (by decide) (backOf (W := 1) (rm17 l Z a0 hw [] b31 lim ld b5 b26 T35.heap n0 (by omega)  P35_1 P35_2 P35_3) hZ (hw _ (List.mem_of_getElem? (i := 116) rfl)) (hw _ (List.mem_of_getElem? (i := 91) rfl)) (by decide) (by decide)) q45a q45c (g := (mkF m 108 #[.val (.int lim), .val (.int ld), .val (.int succ), .val (.int mm), .val (.ref b1), .val (.ref b5), .val (.double (FP.i2d (mm &&& (1023 : Int32)))), .second, .val (.double (FP.i2d v25)), .second, .val (.ref b26), .val (.ref b31), .val (.int r43), .val (.int (1 : Int32)), .unset] [(.int lim), (.ref b31), (.ref b1)])) rfl (by rw [hml]; rfl) (Steps.refl _) (argsL := [(.int lim)]) (rest := [(.ref b1)]) (lenOf pd_12 rfl) rfl (by show 2 * 0 + _ ≤ _; exact Nat.le_of_eq rfl) (hb hby at_108) (fun _ _ => ⟨rfl, hs41, (by decide : 6 + 1 ≤ _), (by decide : 20 + 3 ≤ _)⟩)
    dsimp only [Pt.U, Pt.locs, Pt.cells, Pt.slots] at X45 l45 y45 z45 st45 hQ45
    subst l45 y45 z45
    obtain ⟨o46, rfl, Nq45, Kq45, P45_0, P45_1⟩ := hQ45
    have N45 := Fr.app N41 Nq45
    have z45k : T35.heap.size ≤ T45.heap.size := Kq45.1
    refine Comes.go st45 ?_
    have lt_47 : o46 < T45.heap.size := P45_0.lt
    show Comes p e below _ (T45.setTop (mkF m 111 #[.val (.int lim), .val (.int ld), .val (.int succ), .val (.int mm), .val (.ref b1), .val (.ref b5), .val (.double (FP.i2d (mm &&& (1023 : Int32)))), .second, .val (.double (FP.i2d v25)), .second, .val (.ref b26), .val (.ref b31), .val (.int r43), .val (.int (1 : Int32)), .unset] [(.ref o46), (.ref b1)]))
    have F48 : Fld Z T45.heap b1 "com/example/evenring/evenring/LoadState$Threshold" "limit" "I" (.int lim) := (F40.keep Kq45 nin0)
    have F50 : Exa Z T45.heap b1 "com/example/evenring/evenring/LoadState$Threshold" := (F42.keep Kq45)
    obtain ⟨cq49, kq49, q49a, q49b, q49c⟩ := isOf hZ rfl F50
    obtain ⟨_, _, ⟨T49, L49, k49, n49⟩, -, X49, ⟨Lc49, hQ49, l49, y49, z49⟩, st49⟩ := X45.virtualBack hx (y := (⟨"com/example/evenring/evenring/LoadState$Threshold", "isOverloaded", "(Lcom/example/evenring/evenring/LoadView;)Z"⟩ : MethodName)) (z := (⟨"com/example/evenring/evenring/LoadState$Threshold", "isOverloaded", "(Lcom/example/evenring/evenring/LoadView;)Z"⟩ : MethodName)) hown (mvT hZ (hw _ (List.mem_of_getElem? (i := 102) rfl))) (mvT hZ (hw _ (List.mem_of_getElem? (i := 103) rfl))) (notFace_of_selects (args := #[]) (mvT hZ (hw _ (List.mem_of_getElem? (i := 105) rfl)))) (mvT hZ (hw _ (List.mem_of_getElem? (i := 105) rfl))) (mvT hZ (hw _ (List.mem_of_getElem? (i := 104) rfl))) (by decide) (backOf (W := 0) (rm15 l Z a0 hw [] b1 o46 lim lim T45.heap n0 (by omega)  F48 P45_0 P45_1) hZ (hw _ (List.mem_of_getElem? (i := 106) rfl)) (hw _ (List.mem_of_getElem? (i := 2) rfl)) (by decide) (by decide)) q49a q49c (g := (mkF m 111 #[.val (.int lim), .val (.int ld), .val (.int succ), .val (.int mm), .val (.ref b1), .val (.ref b5), .val (.double (FP.i2d (mm &&& (1023 : Int32)))), .second, .val (.double (FP.i2d v25)), .second, .val (.ref b26), .val (.ref b31), .val (.int r43), .val (.int (1 : Int32)), .unset] [(.ref o46), (.ref b1)])) rfl (by rw [hml]; rfl) (Steps.refl _) (argsL := [(.ref o46)]) (rest := []) (lenOf pd_11 rfl) rfl (by show 2 * 0 + _ ≤ _; exact Nat.le_of_eq rfl) (hb hby at_111) (fun _ _ => ⟨rfl, rfl, (by decide : 7 + 0 ≤ _), (by decide : 23 + 0 ≤ _)⟩)
    dsimp only [Pt.U, Pt.locs, Pt.cells, Pt.slots] at X49 l49 y49 z49 st49 hQ49
    subst l49 y49 z49
    obtain ⟨r51, rfl, Nq49, hs49, P49_0⟩ := hQ49
    have N49 := Fr.app N45 Nq49
    refine Comes.go st49 ?_
    show Comes p e below _ (T49.setTop (mkF m 114 #[.val (.int lim), .val (.int ld), .val (.int succ), .val (.int mm), .val (.ref b1), .val (.ref b5), .val (.double (FP.i2d (mm &&& (1023 : Int32)))), .second, .val (.double (FP.i2d v25)), .second, .val (.ref b26), .val (.ref b31), .val (.int r43), .val (.int (1 : Int32)), .unset] [(.int r51)]))
    refine Comes.st (fun t k => XS.istore X49.here hx rfl (hb hby at_114) rfl (l' := #[.val (.int lim), .val (.int ld), .val (.int succ), .val (.int mm), .val (.ref b1), .val (.ref b5), .val (.double (FP.i2d (mm &&& (1023 : Int32)))), .second, .val (.double (FP.i2d v25)), .second, .val (.ref b26), .val (.ref b31), .val (.int r43), .val (.int (1 : Int32)), .val (.int r51)]) rfl (XS.iload X49.here hx rfl (hb hby at_116) rfl (XS.iload X49.here hx rfl (hb hby at_118) rfl k))) ?_
    show Comes p e below _ (T49.setTop (mkF m 120 #[.val (.int lim), .val (.int ld), .val (.int succ), .val (.int mm), .val (.ref b1), .val (.ref b5), .val (.double (FP.i2d (mm &&& (1023 : Int32)))), .second, .val (.double (FP.i2d v25)), .second, .val (.ref b26), .val (.ref b31), .val (.int r43), .val (.int (1 : Int32)), .val (.int r51)] [(.int (1 : Int32)), (.int r43)]))
    have hc120_52 : r43 = (1 : Int32) := by have a_0 := c_mask mm (1023 : Int32) 10 (by decide) (by decide); have a_1 := c_iushr mm (10 : Int32) 10 (by decide) (by decide); have a_2 := c_mask ((mm.toUInt32 >>> ((10 : Int32) &&& 31).toUInt32).toInt32) (1023 : Int32) 10 (by decide) (by decide); have a_3 := c_iadd (((mm.toUInt32 >>> ((10 : Int32) &&& 31).toUInt32).toInt32) &&& (1023 : Int32)) (1 : Int32); rw [hv_v25] at a_3; have a_4 := c_i2l ld; have a_5 := c_i2l lim; have a_6 := c_lsub (ld.toInt64) (lim.toInt64); have a_7 := rng32 (((mm.toUInt32 >>> ((10 : Int32) &&& 31).toUInt32).toInt32) &&& (1023 : Int32)); have a_8 := rng64 ((ld.toInt64) - (lim.toInt64)); have a_9 := rng32 ((mm.toUInt32 >>> ((10 : Int32) &&& 31).toUInt32).toInt32); have a_10 := rng64 (ld.toInt64); have a_11 := rng64 (lim.toInt64); have a_12 := rng32 (mm &&& (1023 : Int32)); have a_13 := rng32 ld; have a_14 := rng32 lim; have a_15 := rng32 mm; have a_16 := rng32 v25; have c_0 := hc93_44; have c_1 := P41_0; have c_2 := P49_0; (try simp only [Int32.lt_iff_toInt_lt, Int64.lt_iff_toInt_lt, ← Int32.toInt_inj, ← Int64.toInt_inj, Int32.reduceToInt, Int64.reduceToInt, eq_self, and_true, true_and, or_true, true_or, and_false, false_and, or_false, false_or, not_true_eq_false, not_false_eq_true] at a_0 a_1 a_2 a_3 a_4 a_5 a_6 a_7 a_8 a_9 a_10 a_11 a_12 a_13 a_14 a_15 a_16 c_0 c_1 c_2 ⊢) <;> omega
    refine Comes.st (fun t k => XS.icmpNo X49.here hx rfl (hb hby at_120) rfl (teq hc120_52).2 (XS.iload X49.here hx rfl (hb hby at_123) rfl k)) ?_
    show Comes p e below _ (T49.setTop (mkF m 125 #[.val (.int lim), .val (.int ld), .val (.int succ), .val (.int mm), .val (.ref b1), .val (.ref b5), .val (.double (FP.i2d (mm &&& (1023 : Int32)))), .second, .val (.double (FP.i2d v25)), .second, .val (.ref b26), .val (.ref b31), .val (.int r43), .val (.int (1 : Int32)), .val (.int r51)] [(.int r51)]))
    have hc125_53 : r51 = (0 : Int32) := by have a_0 := c_mask mm (1023 : Int32) 10 (by decide) (by decide); have a_1 := c_iushr mm (10 : Int32) 10 (by decide) (by decide); have a_2 := c_mask ((mm.toUInt32 >>> ((10 : Int32) &&& 31).toUInt32).toInt32) (1023 : Int32) 10 (by decide) (by decide); have a_3 := c_iadd (((mm.toUInt32 >>> ((10 : Int32) &&& 31).toUInt32).toInt32) &&& (1023 : Int32)) (1 : Int32); rw [hv_v25] at a_3; have a_4 := c_i2l ld; have a_5 := c_i2l lim; have a_6 := c_lsub (ld.toInt64) (lim.toInt64); have a_7 := rng32 (((mm.toUInt32 >>> ((10 : Int32) &&& 31).toUInt32).toInt32) &&& (1023 : Int32)); have a_8 := rng64 ((ld.toInt64) - (lim.toInt64)); have a_9 := rng32 ((mm.toUInt32 >>> ((10 : Int32) &&& 31).toUInt32).toInt32); have a_10 := rng64 (ld.toInt64); have a_11 := rng64 (lim.toInt64); have a_12 := rng32 (mm &&& (1023 : Int32)); have a_13 := rng32 ld; have a_14 := rng32 lim; have a_15 := rng32 mm; have a_16 := rng32 v25; have c_0 := hc93_44; have c_1 := hc120_52; have c_2 := P41_0; have c_3 := P49_0; (try simp only [Int32.lt_iff_toInt_lt, Int64.lt_iff_toInt_lt, ← Int32.toInt_inj, ← Int64.toInt_inj, Int32.reduceToInt, Int64.reduceToInt, eq_self, and_true, true_and, or_true, true_or, and_false, false_and, or_false, false_or, not_true_eq_false, not_false_eq_true] at a_0 a_1 a_2 a_3 a_4 a_5 a_6 a_7 a_8 a_9 a_10 a_11 a_12 a_13 a_14 a_15 a_16 c_0 c_1 c_2 c_3 ⊢) <;> omega
    refine Comes.st (fun t k => XS.ifNo X49.here hx rfl (hb hby at_125) rfl ((if0 _ _).trans (teq hc125_53).2) (XS.iconst X49.here hx rfl (hb hby at_128) (XS.goto X49.here hx rfl (pc0 := 129) (pc' := 133) rfl (hb hby at_129) (by decide) (by decide) k))) ?_
    show Comes p e below _ (T49.setTop (mkF m 133 #[.val (.int lim), .val (.int ld), .val (.int succ), .val (.int mm), .val (.ref b1), .val (.ref b5), .val (.double (FP.i2d (mm &&& (1023 : Int32)))), .second, .val (.double (FP.i2d v25)), .second, .val (.ref b26), .val (.ref b31), .val (.int r43), .val (.int (1 : Int32)), .val (.int r51)] [(.int (1 : Int32))]))
    exact Comes.retN X49 hx (t := .boolean) Bd.returns (by simp) hlk (hb hby at_133) hs49 ⟨rfl, N49⟩ (by decide) (by decide)
  · refine Comes.st (fun t k => XS.ifYes X41.here hx rfl (pc0 := 93) (pc' := 100) rfl (hb hby at_93) rfl ((if0 _ _).trans (flt (fun q => hc93_44 ((lw_gt _ _).mp q))).2.2.2) (by decide) (by decide) (XS.iconst X41.here hx rfl (hb hby at_100) (XS.istore X41.here hx rfl (hb hby at_101) rfl (l' := #[.val (.int lim), .val (.int ld), .val (.int succ), .val (.int mm), .val (.ref b1), .val (.ref b5), .val (.double (FP.i2d (mm &&& (1023 : Int32)))), .second, .val (.double (FP.i2d v25)), .second, .val (.ref b26), .val (.ref b31), .val (.int r43), .val (.int (0 : Int32)), .unset]) rfl (XS.aload X41.here hx rfl (hb hby at_103) rfl rfl (XS.aload X41.here hx rfl (hb hby at_105) rfl rfl (XS.iloadN X41.here hx rfl (hb hby at_107) rfl k)))))) ?_
    show Comes p e below _ (T41.setTop (mkF m 108 #[.val (.int lim), .val (.int ld), .val (.int succ), .val (.int mm), .val (.ref b1), .val (.ref b5), .val (.double (FP.i2d (mm &&& (1023 : Int32)))), .second, .val (.double (FP.i2d v25)), .second, .val (.ref b26), .val (.ref b31), .val (.int r43), .val (.int (0 : Int32)), .unset] [(.int lim), (.ref b31), (.ref b1)]))
    obtain ⟨cq54, kq54, q54a, q54b, q54c⟩ := isOf hZ hs41 P35_0
    obtain ⟨_, _, ⟨T54, L54, k54, n54⟩, -, X54, ⟨Lc54, hQ54, l54, y54, z54⟩, st54⟩ := X41.virtualBack hx (y := (⟨"com/example/evenring/evenring/LoadView", "withLoad", "(I)Lcom/example/evenring/evenring/LoadView;"⟩ : MethodName)) (z := (⟨"com/example/evenring/evenring/LoadView", "withLoad", "(I)Lcom/example/evenring/evenring/LoadView;"⟩ : MethodName)) hown (mvT hZ (hw _ (List.mem_of_getElem? (i := 112) rfl))) (mvT hZ (hw _ (List.mem_of_getElem? (i := 113) rfl))) (notFace_of_selects (args := #[]) (mvT hZ (hw _ (List.mem_of_getElem? (i := 115) rfl)))) (mvT hZ (hw _ (List.mem_of_getElem? (i := 115) rfl))) (mvT hZ (hw _ (List.mem_of_getElem? (i := 114) rfl))) (by decide) (backOf (W := 1) (rm17 l Z a0 hw [] b31 lim ld b5 b26 T35.heap n0 (by omega)  P35_1 P35_2 P35_3) hZ (hw _ (List.mem_of_getElem? (i := 116) rfl)) (hw _ (List.mem_of_getElem? (i := 91) rfl)) (by decide) (by decide)) q54a q54c (g := (mkF m 108 #[.val (.int lim), .val (.int ld), .val (.int succ), .val (.int mm), .val (.ref b1), .val (.ref b5), .val (.double (FP.i2d (mm &&& (1023 : Int32)))), .second, .val (.double (FP.i2d v25)), .second, .val (.ref b26), .val (.ref b31), .val (.int r43), .val (.int (0 : Int32)), .unset] [(.int lim), (.ref b31), (.ref b1)])) rfl (by rw [hml]; rfl) (Steps.refl _) (argsL := [(.int lim)]) (rest := [(.ref b1)]) (lenOf pd_12 rfl) rfl (by show 2 * 0 + _ ≤ _; exact Nat.le_of_eq rfl) (hb hby at_108) (fun _ _ => ⟨rfl, hs41, (by decide : 6 + 1 ≤ _), (by decide : 20 + 3 ≤ _)⟩)
    dsimp only [Pt.U, Pt.locs, Pt.cells, Pt.slots] at X54 l54 y54 z54 st54 hQ54
    subst l54 y54 z54
    obtain ⟨o55, rfl, Nq54, Kq54, P54_0, P54_1⟩ := hQ54
    have N54 := Fr.app N41 Nq54
    have z54k : T35.heap.size ≤ T54.heap.size := Kq54.1
    refine Comes.go st54 ?_
    have lt_56 : o55 < T54.heap.size := P54_0.lt
    show Comes p e below _ (T54.setTop (mkF m 111 #[.val (.int lim), .val (.int ld), .val (.int succ), .val (.int mm), .val (.ref b1), .val (.ref b5), .val (.double (FP.i2d (mm &&& (1023 : Int32)))), .second, .val (.double (FP.i2d v25)), .second, .val (.ref b26), .val (.ref b31), .val (.int r43), .val (.int (0 : Int32)), .unset] [(.ref o55), (.ref b1)]))
    have F57 : Fld Z T54.heap b1 "com/example/evenring/evenring/LoadState$Threshold" "limit" "I" (.int lim) := (F40.keep Kq54 nin0)
    have F59 : Exa Z T54.heap b1 "com/example/evenring/evenring/LoadState$Threshold" := (F42.keep Kq54)
    obtain ⟨cq58, kq58, q58a, q58b, q58c⟩ := isOf hZ rfl F59
    obtain ⟨_, _, ⟨T58, L58, k58, n58⟩, -, X58, ⟨Lc58, hQ58, l58, y58, z58⟩, st58⟩ := X54.virtualBack hx (y := (⟨"com/example/evenring/evenring/LoadState$Threshold", "isOverloaded", "(Lcom/example/evenring/evenring/LoadView;)Z"⟩ : MethodName)) (z := (⟨"com/example/evenring/evenring/LoadState$Threshold", "isOverloaded", "(Lcom/example/evenring/evenring/LoadView;)Z"⟩ : MethodName)) hown (mvT hZ (hw _ (List.mem_of_getElem? (i := 102) rfl))) (mvT hZ (hw _ (List.mem_of_getElem? (i := 103) rfl))) (notFace_of_selects (args := #[]) (mvT hZ (hw _ (List.mem_of_getElem? (i := 105) rfl)))) (mvT hZ (hw _ (List.mem_of_getElem? (i := 105) rfl))) (mvT hZ (hw _ (List.mem_of_getElem? (i := 104) rfl))) (by decide) (backOf (W := 0) (rm15 l Z a0 hw [] b1 o55 lim lim T54.heap n0 (by omega)  F57 P54_0 P54_1) hZ (hw _ (List.mem_of_getElem? (i := 106) rfl)) (hw _ (List.mem_of_getElem? (i := 2) rfl)) (by decide) (by decide)) q58a q58c (g := (mkF m 111 #[.val (.int lim), .val (.int ld), .val (.int succ), .val (.int mm), .val (.ref b1), .val (.ref b5), .val (.double (FP.i2d (mm &&& (1023 : Int32)))), .second, .val (.double (FP.i2d v25)), .second, .val (.ref b26), .val (.ref b31), .val (.int r43), .val (.int (0 : Int32)), .unset] [(.ref o55), (.ref b1)])) rfl (by rw [hml]; rfl) (Steps.refl _) (argsL := [(.ref o55)]) (rest := []) (lenOf pd_11 rfl) rfl (by show 2 * 0 + _ ≤ _; exact Nat.le_of_eq rfl) (hb hby at_111) (fun _ _ => ⟨rfl, rfl, (by decide : 7 + 0 ≤ _), (by decide : 23 + 0 ≤ _)⟩)
    dsimp only [Pt.U, Pt.locs, Pt.cells, Pt.slots] at X58 l58 y58 z58 st58 hQ58
    subst l58 y58 z58
    obtain ⟨r60, rfl, Nq58, hs58, P58_0⟩ := hQ58
    have N58 := Fr.app N54 Nq58
    refine Comes.go st58 ?_
    show Comes p e below _ (T58.setTop (mkF m 114 #[.val (.int lim), .val (.int ld), .val (.int succ), .val (.int mm), .val (.ref b1), .val (.ref b5), .val (.double (FP.i2d (mm &&& (1023 : Int32)))), .second, .val (.double (FP.i2d v25)), .second, .val (.ref b26), .val (.ref b31), .val (.int r43), .val (.int (0 : Int32)), .unset] [(.int r60)]))
    refine Comes.st (fun t k => XS.istore X58.here hx rfl (hb hby at_114) rfl (l' := #[.val (.int lim), .val (.int ld), .val (.int succ), .val (.int mm), .val (.ref b1), .val (.ref b5), .val (.double (FP.i2d (mm &&& (1023 : Int32)))), .second, .val (.double (FP.i2d v25)), .second, .val (.ref b26), .val (.ref b31), .val (.int r43), .val (.int (0 : Int32)), .val (.int r60)]) rfl (XS.iload X58.here hx rfl (hb hby at_116) rfl (XS.iload X58.here hx rfl (hb hby at_118) rfl k))) ?_
    show Comes p e below _ (T58.setTop (mkF m 120 #[.val (.int lim), .val (.int ld), .val (.int succ), .val (.int mm), .val (.ref b1), .val (.ref b5), .val (.double (FP.i2d (mm &&& (1023 : Int32)))), .second, .val (.double (FP.i2d v25)), .second, .val (.ref b26), .val (.ref b31), .val (.int r43), .val (.int (0 : Int32)), .val (.int r60)] [(.int (0 : Int32)), (.int r43)]))
    have hc120_61 : r43 = (0 : Int32) := by have a_0 := c_mask mm (1023 : Int32) 10 (by decide) (by decide); have a_1 := c_iushr mm (10 : Int32) 10 (by decide) (by decide); have a_2 := c_mask ((mm.toUInt32 >>> ((10 : Int32) &&& 31).toUInt32).toInt32) (1023 : Int32) 10 (by decide) (by decide); have a_3 := c_iadd (((mm.toUInt32 >>> ((10 : Int32) &&& 31).toUInt32).toInt32) &&& (1023 : Int32)) (1 : Int32); rw [hv_v25] at a_3; have a_4 := c_i2l ld; have a_5 := c_i2l lim; have a_6 := c_lsub (ld.toInt64) (lim.toInt64); have a_7 := rng32 (((mm.toUInt32 >>> ((10 : Int32) &&& 31).toUInt32).toInt32) &&& (1023 : Int32)); have a_8 := rng64 ((ld.toInt64) - (lim.toInt64)); have a_9 := rng32 ((mm.toUInt32 >>> ((10 : Int32) &&& 31).toUInt32).toInt32); have a_10 := rng64 (ld.toInt64); have a_11 := rng64 (lim.toInt64); have a_12 := rng32 (mm &&& (1023 : Int32)); have a_13 := rng32 ld; have a_14 := rng32 lim; have a_15 := rng32 mm; have a_16 := rng32 v25; have c_0 := hc93_44; have c_1 := P41_0; have c_2 := P58_0; (try simp only [Int32.lt_iff_toInt_lt, Int64.lt_iff_toInt_lt, ← Int32.toInt_inj, ← Int64.toInt_inj, Int32.reduceToInt, Int64.reduceToInt, eq_self, and_true, true_and, or_true, true_or, and_false, false_and, or_false, false_or, not_true_eq_false, not_false_eq_true] at a_0 a_1 a_2 a_3 a_4 a_5 a_6 a_7 a_8 a_9 a_10 a_11 a_12 a_13 a_14 a_15 a_16 c_0 c_1 c_2 ⊢) <;> omega
    refine Comes.st (fun t k => XS.icmpNo X58.here hx rfl (hb hby at_120) rfl (teq hc120_61).2 (XS.iload X58.here hx rfl (hb hby at_123) rfl k)) ?_
    show Comes p e below _ (T58.setTop (mkF m 125 #[.val (.int lim), .val (.int ld), .val (.int succ), .val (.int mm), .val (.ref b1), .val (.ref b5), .val (.double (FP.i2d (mm &&& (1023 : Int32)))), .second, .val (.double (FP.i2d v25)), .second, .val (.ref b26), .val (.ref b31), .val (.int r43), .val (.int (0 : Int32)), .val (.int r60)] [(.int r60)]))
    have hc125_62 : r60 = (0 : Int32) := by have a_0 := c_mask mm (1023 : Int32) 10 (by decide) (by decide); have a_1 := c_iushr mm (10 : Int32) 10 (by decide) (by decide); have a_2 := c_mask ((mm.toUInt32 >>> ((10 : Int32) &&& 31).toUInt32).toInt32) (1023 : Int32) 10 (by decide) (by decide); have a_3 := c_iadd (((mm.toUInt32 >>> ((10 : Int32) &&& 31).toUInt32).toInt32) &&& (1023 : Int32)) (1 : Int32); rw [hv_v25] at a_3; have a_4 := c_i2l ld; have a_5 := c_i2l lim; have a_6 := c_lsub (ld.toInt64) (lim.toInt64); have a_7 := rng32 (((mm.toUInt32 >>> ((10 : Int32) &&& 31).toUInt32).toInt32) &&& (1023 : Int32)); have a_8 := rng64 ((ld.toInt64) - (lim.toInt64)); have a_9 := rng32 ((mm.toUInt32 >>> ((10 : Int32) &&& 31).toUInt32).toInt32); have a_10 := rng64 (ld.toInt64); have a_11 := rng64 (lim.toInt64); have a_12 := rng32 (mm &&& (1023 : Int32)); have a_13 := rng32 ld; have a_14 := rng32 lim; have a_15 := rng32 mm; have a_16 := rng32 v25; have c_0 := hc93_44; have c_1 := hc120_61; have c_2 := P41_0; have c_3 := P58_0; (try simp only [Int32.lt_iff_toInt_lt, Int64.lt_iff_toInt_lt, ← Int32.toInt_inj, ← Int64.toInt_inj, Int32.reduceToInt, Int64.reduceToInt, eq_self, and_true, true_and, or_true, true_or, and_false, false_and, or_false, false_or, not_true_eq_false, not_false_eq_true] at a_0 a_1 a_2 a_3 a_4 a_5 a_6 a_7 a_8 a_9 a_10 a_11 a_12 a_13 a_14 a_15 a_16 c_0 c_1 c_2 c_3 ⊢) <;> omega
    refine Comes.st (fun t k => XS.ifNo X58.here hx rfl (hb hby at_125) rfl ((if0 _ _).trans (teq hc125_62).2) (XS.iconst X58.here hx rfl (hb hby at_128) (XS.goto X58.here hx rfl (pc0 := 129) (pc' := 133) rfl (hb hby at_129) (by decide) (by decide) k))) ?_
    show Comes p e below _ (T58.setTop (mkF m 133 #[.val (.int lim), .val (.int ld), .val (.int succ), .val (.int mm), .val (.ref b1), .val (.ref b5), .val (.double (FP.i2d (mm &&& (1023 : Int32)))), .second, .val (.double (FP.i2d v25)), .second, .val (.ref b26), .val (.ref b31), .val (.int r43), .val (.int (0 : Int32)), .val (.int r60)] [(.int (1 : Int32))]))
    exact Comes.retN X58 hx (t := .boolean) Bd.returns (by simp) hlk (hb hby at_133) hs58 ⟨rfl, N58⟩ (by decide) (by decide)
set_option maxRecDepth 65536 in
set_option maxHeartbeats 40000000 in
theorem comes_1 {Post : Tables → Env → Array Value → State → Outcome → State → Prop} (hpost : ∀ tb e args s v u, (limb_1_1.after args s (.returned v) u = true ∧ limb_1_2.after args s (.returned v) u = true ∧ True) → FrameEnd s (.returned v) u (Jvm.fieldLocs frame_1_writes args s ++ Jvm.arrayLocs frame_1_arrays args s ++ Jvm.staticLocs frame_1_statics s) 24 128 → Post tb e args s (.returned v) u) :
    ArmFor flags0 classFile x code maxLocals ret World_1 tables_1 room_1 Calls_1 rest_1 Pre_1 Post := by
  intro l hfl _ _ p e ha hc hk s m args below hf hA hF happ hP
  obtain ⟨hcalls, hrest, hpre⟩ := hP
  obtain ⟨-, -, -, hnamed, -, -, -, hat⟩ := (Spec.applies_iff hf).mp happ
  obtain ⟨hg, hn⟩ := and_e (Cond.before_iff.mp (show (Jvm.Cond.and given_1 narrow_1).before args s = true from hpre))
  obtain ⟨c0, d0⟩ := and_e hg
  obtain ⟨c1, d1⟩ := and_e d0
  obtain ⟨c2, d2⟩ := and_e d1
  obtain ⟨c3, d3⟩ := and_e d2
  obtain ⟨w0, w1, w2, w3, rfl⟩ : ∃ w0 w1 w2 w3 : Value, args = #[w0, w1, w2, w3] := by
    have hs : args.size = 4 := by simpa [Cond.value, given_1] using c0
    obtain ⟨L⟩ := args
    match L, hs with
    | [w0, w1, w2, w3], _ => exact ⟨w0, w1, w2, w3, rfl⟩
  have hw := fun d (hd : d ∈ tables_1) => atoms_spec (ws := Jvm.Cond.code x code maxLocals ret :: tables_1) hat d (List.mem_cons_of_mem _ hd)
  have hfit : Fit s := fun {y c} hc i hi => by
    obtain ⟨ha, rfl⟩ := Array.getElem?_eq_some_iff.mp hc
    have q := List.all_eq_true.mp ((Array.all_eq_true_iff_forall_mem.mp hF) _ (Array.getElem_mem ha)) i (List.mem_range.mpr hi)
    simpa [Array.getElem?_eq_getElem hi] using q
  obtain ⟨i0, ei0⟩ := is_v c1
  obtain rfl : w0 = (.int i0) := Option.some.inj ei0
  obtain ⟨i1, ei1⟩ := is_v c2
  obtain rfl : w1 = (.int i1) := Option.some.inj ei1
  obtain ⟨i2, ei2⟩ := is_v c3
  obtain rfl : w2 = (.int i2) := Option.some.inj ei2
  obtain ⟨i3, ei3⟩ := is_v d3
  obtain rfl : w3 = (.int i3) := Option.some.inj ei3
  obtain ⟨hsets, hown0⟩ := atoms_of _ (rest_1_c_eq ▸ (show rest_1_c.before _ s = true from hrest))
  obtain ⟨dc, ed⟩ := exa_v (Cond.before_iff.mp (hsets _ (List.mem_of_getElem? (i := 7) rfl)))
  obtain ⟨cd, Ad⟩ := Arr.start ed (Cond.before_iff.mp (hsets _ (List.mem_of_getElem? (i := 6) rfl)))
  have ld := own_len ed Ad (Cond.before_iff.mp (hsets _ (List.mem_of_getElem? (i := 8) rfl)))
  have hv : Arv s s.heap dc cd.cls (.object "java/lang/Object") (0 : Int32) [] .null := Arv.start hfit Ad ld.1 ld.2 (by decide) rfl trivial
  obtain ⟨kd, hkd⟩ : ∃ z, z = cd.cls := ⟨_, rfl⟩
  rw [← hkd] at hv
  have eh := own_eqi (Cond.before_iff.mp (hsets _ (List.mem_of_getElem? (i := 12) rfl)))
  obtain ⟨ca, ec⟩ := exa_v (Cond.before_iff.mp (hsets _ (List.mem_of_getElem? (i := 14) rfl)))
  obtain ⟨n, o, h1, h2, h3, _, L, rfl, ⟨rfl, N⟩, hq⟩ := rm0 l s _ hw tables_1 i0 i1 i2 i3 dc kd ca s.heap s.heap.size (Nat.le_refl _) (Sta.start ed (Or.inr ⟨(hw _ (List.mem_of_getElem? (i := 18) rfl)), (hsets _ (List.mem_of_getElem? (i := 2) rfl))⟩)) hv (Sta.start eh (Or.inl (hsets _ (List.mem_of_getElem? (i := 10) rfl)))) (Sta.start ec (Or.inr ⟨(hw _ (List.mem_of_getElem? (i := 45) rfl)), (hsets _ (List.mem_of_getElem? (i := 11) rfl))⟩)) (Old.start s) (own_cache_of ec (Cond.before_iff.mp (hsets _ (List.mem_of_getElem? (i := 13) rfl))) (Cond.before_iff.mp (hsets _ (List.mem_of_getElem? (i := 15) rfl))) (Cond.before_iff.mp (hsets _ (List.mem_of_getElem? (i := 16) rfl)))) p e ha hc hk s m _ below hf ((Spec.applies_iff_loose hf).mp happ).1 ⟨rfl, State.Warmed39.refl s, rfl⟩ trivial
  refine ⟨n, _, h1, h2, h3, hpost _ _ _ _ _ _ ⟨Cond.after_iff.mpr rfl, Cond.after_iff.mpr (eq_i res_at (Term.int_eval (1)) rfl), trivial⟩ ⟨hq.1, hq.2.1, (hq.2.2.sift fun y hy => Or.inr (N y hy)).mono (by decide) (by decide)⟩⟩
theorem main_1_1 : Claimed_1_1 := comes_1 fun _ _ _ _ _ _ h hF => ⟨h.1, hF⟩
theorem main_1_2 : Claimed_1_2 := comes_1 fun _ _ _ _ _ _ h hF => ⟨h.2.1, hF⟩
end Jvm.Pilot.@@N@@
namespace Jvm.Pilot.@@N@@
open Jvm Jvm.ClassFile Sem Op Lib Jvm.Free Jvm.Stand Jvm.Pilot.@@N@@.Jvm.D
/-! MADE BY PROGRAM (witnessworld.py) out of the Statement's table words and the real class files: 31 classes; the members and pool entries that the words name. The judged class is class 1, her method 1. -/
namespace start1
open Jvm.ClassFile
def u (s : String) : CpInfo := .utf8 (stringToUtf16 s)
/-- a pool by its gaps: so many unusable entries, then the entry; so many at the end -/
def gap : Nat → List CpInfo → List CpInfo
  | 0, r => r
  | n + 1, r => .unusable :: gap n r
def poolList (es : List (Nat × CpInfo)) (last : Nat) : List CpInfo := es.foldr (fun e r => gap e.1 (e.2 :: r)) (gap last [])
def pool (es : List (Nat × CpInfo)) (last : Nat) : Array CpInfo := ⟨poolList es last⟩
def fileOf (pool : Array CpInfo) (this : Nat) (attrs : Array Attribute := #[]) (ms : Array MethodInfo := #[]) (fl : Nat := 33) (sup : Nat := 0) (ifs : Array Nat := #[]) (fds : Array FieldInfo := #[]) : ClassFile where
  minorVersion := 0
  majorVersion := 65
  constantPool := pool
  accessFlags := fl
  thisClass := this
  superClass := sup
  interfaces := ifs
  fields := fds
  methods := ms
  attributes := attrs
def plain (name : String) (sup : Option ClassId) : Class where
  name := name
  kind := .ordinary
  loader := none
  accessFlags := 33
  super := sup
  interfaces := #[]
  cf := none
  fields := #[]
  methods := #[]
  instanceTypes := #[]
  staticTypes := #[]
  resolved := #[]
  callSites := []
  init := .initialized
  statics := none
  mirror := none

def pool0 : Array CpInfo := pool [(5, u "<init>"), (0, u "()V"), (1, .class_ 10), (1, u "java/lang/Object")] 113

def k0c0 : Code := { maxStack := 0, maxLocals := 1, code := object_method_1_code, exceptionTable := #[], attributes := #[] }
def k0m0 : Method := { name := "<init>", desc := "()V", sig := { parameters := [], returnType := none }, accessFlags := 1, code := some k0c0 }
/-- java/lang/Object -/
def k0 : Class := { plain "java/lang/Object" none with
  accessFlags := 33
  interfaces := #[]
  cf := some (fileOf pool0 8 #[] #[{ accessFlags := 1, nameIndex := 5, descriptorIndex := 6, attributes := #[] }] 33 0 #[] #[])
  fields := #[]
  methods := #[k0m0]
  instanceTypes := #[]
  staticTypes := #[]
  resolved := Array.replicate 124 none
  statics := none }

def pool1 : Array CpInfo := pool [(2, .class_ 4), (0, .nameAndType 5 6), (0, u "java/lang/Object"), (0, u "<init>"), (0, u "()V"), (0, .class_ 8), (0, u "com/example/evenring/evenring/LoadState$Threshold"), (0, .methodref 7 10), (0, .nameAndType 5 11), (0, u "(I)V"), (0, .class_ 13), (0, u "java/util/ArrayList"), (0, .methodref 12 3), (0, .methodref 16 17), (0, .class_ 18), (0, .nameAndType 19 20), (0, u "java/lang/Integer"), (0, u "valueOf"), (0, u "(I)Ljava/lang/Integer;"), (0, .methodref 12 22), (0, .nameAndType 23 24), (0, u "add"), (0, u "(Ljava/lang/Object;)Z"), (0, .class_ 26), (0, u "com/example/evenring/evenring/LoadView$Mean"), (0, .methodref 25 28), (0, .nameAndType 5 29), (0, u "(DD)V"), (0, .class_ 31), (0, u "com/example/evenring/evenring/LoadView"), (0, .methodref 30 33), (0, .nameAndType 5 34), (0, u "(ILjava/util/List;Lcom/example/evenring/evenring/LoadView$Mean;)V"), (0, .methodref 7 36), (0, .nameAndType 37 38), (0, u "isOverloaded"), (0, u "(Lcom/example/evenring/evenring/LoadView;)Z"), (0, .methodref 30 40), (0, .nameAndType 41 42), (0, u "withLoad"), (0, u "(I)Lcom/example/evenring/evenring/LoadView;"), (0, .class_ 44), (0, u "com/example/evenring/evenring/ThresholdIsOverloadedPinLaw"), (2, u "law"), (0, u "(IIII)Z")] 8

def k1m0 : Method := { name := "<init>", desc := "()V", sig := { parameters := [], returnType := none }, accessFlags := 2, code := none }
def k1c1 : Code := { maxStack := 6, maxLocals := 15, code := code, exceptionTable := #[], attributes := #[] }
def k1m1 : Method := { name := "law", desc := "(IIII)Z", sig := { parameters := [.int, .int, .int, .int], returnType := some .boolean }, accessFlags := 9, code := some k1c1 }
/-- com/example/evenring/evenring/ThresholdIsOverloadedPinLaw -/
def k1 : Class := { plain "com/example/evenring/evenring/ThresholdIsOverloadedPinLaw" (some 0) with
  accessFlags := 49
  interfaces := #[]
  cf := some (fileOf pool1 43 #[] #[{ accessFlags := 2, nameIndex := 5, descriptorIndex := 6, attributes := #[] }, { accessFlags := 9, nameIndex := 47, descriptorIndex := 48, attributes := #[] }] 49 2 #[] #[])
  fields := #[]
  methods := #[k1m0, k1m1]
  instanceTypes := #[]
  staticTypes := #[]
  resolved := Array.replicate 57 none
  statics := none }

def pool2 : Array CpInfo := pool [(1, .methodref 2 3), (0, .class_ 4), (0, .nameAndType 5 6), (0, u "java/lang/Object"), (0, u "<init>"), (0, u "()V"), (0, .class_ 8), (0, u "java/lang/Record")] 13

def k2c0 : Code := { maxStack := 1, maxLocals := 1, code := jdk_30_method_1_code, exceptionTable := #[], attributes := #[] }
def k2m0 : Method := { name := "<init>", desc := "()V", sig := { parameters := [], returnType := none }, accessFlags := 4, code := some k2c0 }
/-- java/lang/Record -/
def k2 : Class := { plain "java/lang/Record" (some 0) with
  accessFlags := 1057
  interfaces := #[]
  cf := some (fileOf pool2 7 #[] #[{ accessFlags := 4, nameIndex := 5, descriptorIndex := 6, attributes := #[] }] 1057 2 #[] #[])
  fields := #[]
  methods := #[k2m0]
  instanceTypes := #[]
  staticTypes := #[]
  resolved := Array.replicate 22 none
  statics := none }

def pool3 : Array CpInfo := pool [(1, .class_ 2), (0, u "com/example/evenring/evenring/LoadView$Reader"), (0, .class_ 4), (0, u "java/lang/Object"), (9, .class_ 15), (0, u "com/example/evenring/evenring/LoadView")] 2

/-- com/example/evenring/evenring/LoadView$Reader -/
def k3 : Class := { plain "com/example/evenring/evenring/LoadView$Reader" (some 0) with
  accessFlags := 1536
  interfaces := #[]
  cf := some (fileOf pool3 1 #[.nestHost 14] #[] 1536 3 #[] #[])
  fields := #[]
  methods := #[]
  instanceTypes := #[]
  staticTypes := #[]
  resolved := Array.replicate 18 none
  statics := none }

def pool4 : Array CpInfo := pool [(1, .class_ 2), (0, u "com/example/evenring/evenring/LoadState"), (0, .class_ 4), (0, u "java/lang/Object"), (0, .class_ 6), (0, u "com/example/evenring/evenring/LoadView$Reader"), (5, .class_ 13), (0, u "com/example/evenring/evenring/LoadState$Overall"), (0, .class_ 15), (0, u "com/example/evenring/evenring/LoadState$Local"), (0, .class_ 17), (0, u "com/example/evenring/evenring/LoadState$Threshold"), (0, .class_ 19), (0, u "com/example/evenring/evenring/LoadState$None")] 9

/-- com/example/evenring/evenring/LoadState -/
def k4 : Class := { plain "com/example/evenring/evenring/LoadState" (some 0) with
  accessFlags := 1536
  interfaces := #[3]
  cf := some (fileOf pool4 1 #[.nestMembers #[12, 14, 16, 18]] #[] 1536 3 #[5] #[])
  fields := #[]
  methods := #[]
  instanceTypes := #[]
  staticTypes := #[]
  resolved := Array.replicate 29 none
  statics := none }

def pool5 : Array CpInfo := pool [(1, .methodref 2 3), (0, .class_ 4), (0, .nameAndType 5 6), (0, u "java/lang/Record"), (0, u "<init>"), (0, u "()V"), (0, .fieldref 8 9), (0, .class_ 10), (0, .nameAndType 11 12), (0, u "com/example/evenring/evenring/LoadState$Threshold"), (0, u "limit"), (0, u "I"), (0, .methodref 14 15), (0, .class_ 16), (0, .nameAndType 17 18), (0, u "com/example/evenring/evenring/LoadView"), (0, u "load"), (0, u "()I"), (12, .class_ 32), (0, u "com/example/evenring/evenring/LoadState"), (0, u "(I)V"), (3, u "isOverloaded"), (0, u "(Lcom/example/evenring/evenring/LoadView;)Z")] 24

def k5c0 : Code := { maxStack := 2, maxLocals := 2, code := prog_30_method_1_code, exceptionTable := #[], attributes := #[] }
def k5m0 : Method := { name := "<init>", desc := "(I)V", sig := { parameters := [.int], returnType := none }, accessFlags := 1, code := some k5c0 }
def k5c1 : Code := { maxStack := 2, maxLocals := 2, code := prog_30_method_2_code, exceptionTable := #[], attributes := #[] }
def k5m1 : Method := { name := "isOverloaded", desc := "(Lcom/example/evenring/evenring/LoadView;)Z", sig := { parameters := [(.object "com/example/evenring/evenring/LoadView")], returnType := some .boolean }, accessFlags := 1, code := some k5c1 }
/-- com/example/evenring/evenring/LoadState$Threshold -/
def k5 : Class := { plain "com/example/evenring/evenring/LoadState$Threshold" (some 2) with
  accessFlags := 49
  interfaces := #[4]
  cf := some (fileOf pool5 8 #[.nestHost 31] #[{ accessFlags := 1, nameIndex := 5, descriptorIndex := 33, attributes := #[] }, { accessFlags := 1, nameIndex := 37, descriptorIndex := 38, attributes := #[] }] 49 2 #[31] #[{ accessFlags := 18, nameIndex := 11, descriptorIndex := 12, attributes := #[] }])
  fields := #[{ name := "limit", type := .int, accessFlags := 18, slot := 0, constantValue := 0 }]
  methods := #[k5m0, k5m1]
  instanceTypes := #[.int]
  staticTypes := #[]
  resolved := Array.replicate 63 none
  statics := none }

def pool6 : Array CpInfo := pool [(8, .class_ 10), (1, u "java/lang/Iterable"), (24, .class_ 36), (0, u "java/lang/Object")] 25

/-- java/lang/Iterable -/
def k6 : Class := { plain "java/lang/Iterable" (some 0) with
  accessFlags := 1537
  interfaces := #[]
  cf := some (fileOf pool6 8 #[] #[] 1537 35 #[] #[])
  fields := #[]
  methods := #[]
  instanceTypes := #[]
  staticTypes := #[]
  resolved := Array.replicate 62 none
  statics := none }

def pool7 : Array CpInfo := pool [(10, .class_ 12), (1, u "java/util/Collection"), (47, .class_ 61), (0, u "java/lang/Object"), (0, .class_ 63), (0, u "java/lang/Iterable")] 51

/-- java/util/Collection -/
def k7 : Class := { plain "java/util/Collection" (some 0) with
  accessFlags := 1537
  interfaces := #[6]
  cf := some (fileOf pool7 10 #[] #[] 1537 60 #[62] #[])
  fields := #[]
  methods := #[]
  instanceTypes := #[]
  staticTypes := #[]
  resolved := Array.replicate 115 none
  statics := none }

def pool8 : Array CpInfo := pool [(1, .methodref 2 3), (0, .class_ 4), (0, .nameAndType 5 6), (0, u "java/lang/Object"), (0, u "<init>"), (0, u "()V"), (1, .class_ 10), (1, u "java/util/AbstractCollection"), (66, .class_ 78), (0, u "java/util/Collection")] 81

def k8c0 : Code := { maxStack := 1, maxLocals := 1, code := jdk_22_method_1_code, exceptionTable := #[], attributes := #[] }
def k8m0 : Method := { name := "<init>", desc := "()V", sig := { parameters := [], returnType := none }, accessFlags := 4, code := some k8c0 }
/-- java/util/AbstractCollection -/
def k8 : Class := { plain "java/util/AbstractCollection" (some 0) with
  accessFlags := 1057
  interfaces := #[7]
  cf := some (fileOf pool8 8 #[] #[{ accessFlags := 4, nameIndex := 5, descriptorIndex := 6, attributes := #[] }] 1057 2 #[77] #[])
  fields := #[]
  methods := #[k8m0]
  instanceTypes := #[]
  staticTypes := #[]
  resolved := Array.replicate 160 none
  statics := none }

def pool9 : Array CpInfo := pool [(8, .class_ 10), (1, u "java/util/SequencedCollection"), (15, .class_ 27), (0, u "java/lang/Object"), (0, .class_ 29), (0, u "java/util/Collection")] 27

/-- java/util/SequencedCollection -/
def k9 : Class := { plain "java/util/SequencedCollection" (some 0) with
  accessFlags := 1537
  interfaces := #[7]
  cf := some (fileOf pool9 8 #[] #[] 1537 26 #[28] #[])
  fields := #[]
  methods := #[]
  instanceTypes := #[]
  staticTypes := #[]
  resolved := Array.replicate 57 none
  statics := none }

def pool10 : Array CpInfo := pool [(8, .class_ 10), (1, u "java/util/List"), (92, .class_ 104), (0, u "java/lang/Object"), (15, .class_ 121), (0, u "java/util/SequencedCollection")] 129

/-- java/util/List -/
def k10 : Class := { plain "java/util/List" (some 0) with
  accessFlags := 1537
  interfaces := #[9]
  cf := some (fileOf pool10 8 #[] #[] 1537 103 #[120] #[])
  fields := #[]
  methods := #[]
  instanceTypes := #[]
  staticTypes := #[]
  resolved := Array.replicate 251 none
  statics := none }

def pool11 : Array CpInfo := pool [(1, .methodref 2 3), (0, .class_ 4), (0, .nameAndType 5 6), (0, u "java/util/AbstractCollection"), (0, u "<init>"), (0, u "()V"), (0, .fieldref 8 9), (0, .class_ 10), (0, .nameAndType 11 12), (0, u "java/util/AbstractList"), (0, u "modCount"), (0, u "I"), (64, .class_ 78), (0, u "java/util/AbstractList$Itr"), (3, .class_ 83), (0, u "java/util/AbstractList$ListItr"), (9, .class_ 94), (0, u "java/util/AbstractList$RandomAccessSubList"), (3, .class_ 99), (0, u "java/util/AbstractList$SubList"), (33, .class_ 134), (0, u "java/util/List"), (73, .class_ 209), (0, u "java/util/AbstractList$SubList$1"), (0, .class_ 211), (0, u "java/util/AbstractList$RandomAccessSpliterator")] 6

def k11c0 : Code := { maxStack := 2, maxLocals := 1, code := jdk_39_method_1_code, exceptionTable := #[], attributes := #[] }
def k11m0 : Method := { name := "<init>", desc := "()V", sig := { parameters := [], returnType := none }, accessFlags := 4, code := some k11c0 }
/-- java/util/AbstractList -/
def k11 : Class := { plain "java/util/AbstractList" (some 8) with
  accessFlags := 1057
  interfaces := #[10]
  cf := some (fileOf pool11 8 #[.nestMembers #[93, 98, 208, 210, 82, 77]] #[{ accessFlags := 4, nameIndex := 5, descriptorIndex := 6, attributes := #[] }] 1057 2 #[133] #[{ accessFlags := 132, nameIndex := 11, descriptorIndex := 12, attributes := #[] }])
  fields := #[{ name := "modCount", type := .int, accessFlags := 132, slot := 0, constantValue := 0 }]
  methods := #[k11m0]
  instanceTypes := #[.int]
  staticTypes := #[]
  resolved := Array.replicate 218 none
  statics := none }

def pool12 : Array CpInfo := pool [(1, .class_ 2), (0, u "java/util/RandomAccess"), (0, .class_ 4), (0, u "java/lang/Object")] 2

/-- java/util/RandomAccess -/
def k12 : Class := { plain "java/util/RandomAccess" (some 0) with
  accessFlags := 1537
  interfaces := #[]
  cf := some (fileOf pool12 1 #[] #[] 1537 3 #[] #[])
  fields := #[]
  methods := #[]
  instanceTypes := #[]
  staticTypes := #[]
  resolved := Array.replicate 7 none
  statics := none }

def pool13 : Array CpInfo := pool [(1, .class_ 2), (0, u "java/lang/Cloneable"), (0, .class_ 4), (0, u "java/lang/Object")] 2

/-- java/lang/Cloneable -/
def k13 : Class := { plain "java/lang/Cloneable" (some 0) with
  accessFlags := 1537
  interfaces := #[]
  cf := some (fileOf pool13 1 #[] #[] 1537 3 #[] #[])
  fields := #[]
  methods := #[]
  instanceTypes := #[]
  staticTypes := #[]
  resolved := Array.replicate 7 none
  statics := none }

def pool14 : Array CpInfo := pool [(1, .class_ 2), (0, u "java/io/Serializable"), (0, .class_ 4), (0, u "java/lang/Object")] 2

/-- java/io/Serializable -/
def k14 : Class := { plain "java/io/Serializable" (some 0) with
  accessFlags := 1537
  interfaces := #[]
  cf := some (fileOf pool14 1 #[] #[] 1537 3 #[] #[])
  fields := #[]
  methods := #[]
  instanceTypes := #[]
  staticTypes := #[]
  resolved := Array.replicate 7 none
  statics := none }

def pool15 : Array CpInfo := pool [(1, .methodref 2 3), (0, .class_ 4), (0, .nameAndType 5 6), (0, u "java/util/AbstractList"), (0, u "<init>"), (0, u "()V"), (0, .class_ 8), (0, u "java/lang/Object"), (0, .fieldref 10 11), (0, .class_ 12), (0, .nameAndType 13 14), (0, u "java/util/ArrayList"), (0, u "elementData"), (0, u "[Ljava/lang/Object;"), (2, u "EMPTY_ELEMENTDATA"), (21, .fieldref 10 40), (0, .nameAndType 41 14), (0, u "DEFAULTCAPACITY_EMPTY_ELEMENTDATA"), (5, u "()[Ljava/lang/Object;"), (0, .fieldref 10 49), (0, .nameAndType 50 51), (0, u "size"), (0, u "I"), (11, .fieldref 10 64), (0, .nameAndType 65 51), (0, u "modCount"), (3, .methodref 10 70), (0, .nameAndType 71 72), (0, u "grow"), (0, u "(I)[Ljava/lang/Object;"), (6, .methodref 80 81), (0, .class_ 82), (0, .nameAndType 83 84), (0, u "java/lang/Math"), (0, u "max"), (0, u "(II)I"), (11, u "(Ljava/lang/Object;)Z"), (32, .methodref 10 130), (0, .nameAndType 71 47), (0, .methodref 10 132), (0, .nameAndType 133 134), (0, u "add"), (0, u "(Ljava/lang/Object;[Ljava/lang/Object;I)V"), (13, .class_ 149), (0, u "java/util/List"), (112, .class_ 263), (0, u "java/util/ArrayList$ListItr"), (3, .class_ 268), (0, u "java/util/ArrayList$Itr"), (7, .class_ 277), (0, u "java/util/ArrayList$SubList"), (12, .class_ 291), (0, u "java/util/ArrayList$ArrayListSpliterator"), (37, .class_ 330), (0, u "java/util/RandomAccess"), (0, .class_ 332), (0, u "java/lang/Cloneable"), (0, .class_ 334), (0, u "java/io/Serializable"), (0, u "serialVersionUID"), (0, u "J"), (3, u "DEFAULT_CAPACITY"), (159, .class_ 501), (0, u "java/util/ArrayList$SubList$2"), (0, .class_ 503), (0, u "java/util/ArrayList$SubList$1")] 5

def k15c0 : Code := { maxStack := 2, maxLocals := 1, code := jdk_38_method_2_code, exceptionTable := #[], attributes := #[] }
def k15m0 : Method := { name := "<init>", desc := "()V", sig := { parameters := [], returnType := none }, accessFlags := 1, code := some k15c0 }
def k15c1 : Code := { maxStack := 4, maxLocals := 4, code := jdk_38_method_6_code, exceptionTable := #[], attributes := #[] }
def k15m1 : Method := { name := "grow", desc := "(I)[Ljava/lang/Object;", sig := { parameters := [.int], returnType := some (.array (.object "java/lang/Object")) }, accessFlags := 2, code := some k15c1 }
def k15c2 : Code := { maxStack := 3, maxLocals := 1, code := jdk_38_method_7_code, exceptionTable := #[], attributes := #[] }
def k15m2 : Method := { name := "grow", desc := "()[Ljava/lang/Object;", sig := { parameters := [], returnType := some (.array (.object "java/lang/Object")) }, accessFlags := 2, code := some k15c2 }
def k15c3 : Code := { maxStack := 3, maxLocals := 4, code := jdk_38_method_24_code, exceptionTable := #[], attributes := #[] }
def k15m3 : Method := { name := "add", desc := "(Ljava/lang/Object;[Ljava/lang/Object;I)V", sig := { parameters := [(.object "java/lang/Object"), (.array (.object "java/lang/Object")), .int], returnType := none }, accessFlags := 2, code := some k15c3 }
def k15c4 : Code := { maxStack := 4, maxLocals := 2, code := jdk_38_method_25_code, exceptionTable := #[], attributes := #[] }
def k15m4 : Method := { name := "add", desc := "(Ljava/lang/Object;)Z", sig := { parameters := [(.object "java/lang/Object")], returnType := some .boolean }, accessFlags := 1, code := some k15c4 }
/-- java/util/ArrayList -/
def k15 : Class := { plain "java/util/ArrayList" (some 11) with
  accessFlags := 33
  interfaces := #[10, 12, 13, 14]
  cf := some (fileOf pool15 10 #[.nestMembers #[290, 276, 500, 502, 262, 267]] #[{ accessFlags := 1, nameIndex := 5, descriptorIndex := 6, attributes := #[] }, { accessFlags := 2, nameIndex := 71, descriptorIndex := 72, attributes := #[] }, { accessFlags := 2, nameIndex := 71, descriptorIndex := 47, attributes := #[] }, { accessFlags := 2, nameIndex := 133, descriptorIndex := 134, attributes := #[] }, { accessFlags := 1, nameIndex := 133, descriptorIndex := 96, attributes := #[] }] 33 2 #[148, 329, 331, 333] #[{ accessFlags := 26, nameIndex := 335, descriptorIndex := 336, attributes := #[] }, { accessFlags := 26, nameIndex := 340, descriptorIndex := 51, attributes := #[] }, { accessFlags := 26, nameIndex := 17, descriptorIndex := 14, attributes := #[] }, { accessFlags := 26, nameIndex := 41, descriptorIndex := 14, attributes := #[] }, { accessFlags := 128, nameIndex := 13, descriptorIndex := 14, attributes := #[] }, { accessFlags := 2, nameIndex := 50, descriptorIndex := 51, attributes := #[] }])
  fields := #[{ name := "serialVersionUID", type := .long, accessFlags := 26, slot := 0, constantValue := 0 }, { name := "DEFAULT_CAPACITY", type := .int, accessFlags := 26, slot := 1, constantValue := 0 }, { name := "EMPTY_ELEMENTDATA", type := (.array (.object "java/lang/Object")), accessFlags := 26, slot := 2, constantValue := 0 }, { name := "DEFAULTCAPACITY_EMPTY_ELEMENTDATA", type := (.array (.object "java/lang/Object")), accessFlags := 26, slot := 3, constantValue := 0 }, { name := "elementData", type := (.array (.object "java/lang/Object")), accessFlags := 128, slot := 1, constantValue := 0 }, { name := "size", type := .int, accessFlags := 2, slot := 2, constantValue := 0 }]
  methods := #[k15m0, k15m1, k15m2, k15m3, k15m4]
  instanceTypes := #[.int, (.array (.object "java/lang/Object")), .int]
  staticTypes := #[.long, .int, (.array (.object "java/lang/Object")), (.array (.object "java/lang/Object"))]
  resolved := Array.replicate 509 none
  statics := some 0 }

def pool16 : Array CpInfo := pool [(1, .methodref 2 3), (0, .class_ 4), (0, .nameAndType 5 6), (0, u "java/lang/Object"), (0, u "<init>"), (0, u "()V"), (1, .class_ 10), (1, u "java/lang/Number"), (2, .class_ 14), (0, u "java/io/Serializable"), (0, u "serialVersionUID"), (0, u "J")] 20

def k16c0 : Code := { maxStack := 1, maxLocals := 1, code := jdk_18_method_1_code, exceptionTable := #[], attributes := #[] }
def k16m0 : Method := { name := "<init>", desc := "()V", sig := { parameters := [], returnType := none }, accessFlags := 1, code := some k16c0 }
/-- java/lang/Number -/
def k16 : Class := { plain "java/lang/Number" (some 0) with
  accessFlags := 1057
  interfaces := #[14]
  cf := some (fileOf pool16 8 #[] #[{ accessFlags := 1, nameIndex := 5, descriptorIndex := 6, attributes := #[] }] 1057 2 #[13] #[{ accessFlags := 26, nameIndex := 15, descriptorIndex := 16, attributes := #[] }])
  fields := #[{ name := "serialVersionUID", type := .long, accessFlags := 26, slot := 0, constantValue := 0 }]
  methods := #[k16m0]
  instanceTypes := #[]
  staticTypes := #[.long]
  resolved := Array.replicate 37 none
  statics := none }

def pool17 : Array CpInfo := pool [(1, .class_ 2), (0, u "java/lang/Comparable"), (0, .class_ 4), (0, u "java/lang/Object")] 7

/-- java/lang/Comparable -/
def k17 : Class := { plain "java/lang/Comparable" (some 0) with
  accessFlags := 1537
  interfaces := #[]
  cf := some (fileOf pool17 1 #[] #[] 1537 3 #[] #[])
  fields := #[]
  methods := #[]
  instanceTypes := #[]
  staticTypes := #[]
  resolved := Array.replicate 12 none
  statics := none }

def pool18 : Array CpInfo := pool [(1, .class_ 2), (0, u "java/lang/constant/Constable"), (0, .class_ 4), (0, u "java/lang/Object")] 6

/-- java/lang/constant/Constable -/
def k18 : Class := { plain "java/lang/constant/Constable" (some 0) with
  accessFlags := 1537
  interfaces := #[]
  cf := some (fileOf pool18 1 #[] #[] 1537 3 #[] #[])
  fields := #[]
  methods := #[]
  instanceTypes := #[]
  staticTypes := #[]
  resolved := Array.replicate 11 none
  statics := none }

def pool19 : Array CpInfo := pool [(1, .class_ 2), (0, u "java/lang/constant/ConstantDesc"), (0, .class_ 4), (0, u "java/lang/Object")] 32

/-- java/lang/constant/ConstantDesc -/
def k19 : Class := { plain "java/lang/constant/ConstantDesc" (some 0) with
  accessFlags := 1537
  interfaces := #[]
  cf := some (fileOf pool19 1 #[] #[] 1537 3 #[] #[])
  fields := #[]
  methods := #[]
  instanceTypes := #[]
  staticTypes := #[]
  resolved := Array.replicate 37 none
  statics := none }

def pool20 : Array CpInfo := pool [(1, .class_ 2), (0, u "java/lang/Integer"), (16, u "digits"), (0, u "[C"), (46, u "<init>"), (17, u "DigitOnes"), (0, u "[B"), (2, u "DigitTens"), (10, .nameAndType 67 101), (0, u "()V"), (85, u "valueOf"), (0, u "(I)Ljava/lang/Integer;"), (0, .class_ 190), (0, u "java/lang/Integer$IntegerCache"), (0, .fieldref 189 192), (0, .nameAndType 193 194), (0, u "high"), (0, u "I"), (0, .fieldref 189 196), (0, .nameAndType 197 198), (0, u "cache"), (0, u "[Ljava/lang/Integer;"), (0, .methodref 1 200), (0, .nameAndType 67 201), (0, u "(I)V"), (0, .methodref 203 100), (0, .class_ 204), (0, u "java/lang/Number"), (0, .fieldref 1 206), (0, .nameAndType 207 194), (0, u "value"), (94, u "TYPE"), (0, u "Ljava/lang/Class;"), (0, .class_ 305), (0, u "java/lang/Comparable"), (0, .class_ 307), (0, u "java/lang/constant/Constable"), (0, .class_ 309), (0, u "java/lang/constant/ConstantDesc"), (0, u "MIN_VALUE"), (1, u "MAX_VALUE"), (3, u "SIZE"), (1, u "BYTES"), (1, u "serialVersionUID"), (0, u "J")] 131

def k20c0 : Code := { maxStack := 3, maxLocals := 1, code := jdk_33_method_22_code, exceptionTable := #[], attributes := #[] }
def k20m0 : Method := { name := "valueOf", desc := "(I)Ljava/lang/Integer;", sig := { parameters := [.int], returnType := some (.object "java/lang/Integer") }, accessFlags := 9, code := some k20c0 }
def k20c1 : Code := { maxStack := 2, maxLocals := 2, code := jdk_33_method_23_code, exceptionTable := #[], attributes := #[] }
def k20m1 : Method := { name := "<init>", desc := "(I)V", sig := { parameters := [.int], returnType := none }, accessFlags := 1, code := some k20c1 }
/-- java/lang/Integer -/
def k20 : Class := { plain "java/lang/Integer" (some 16) with
  accessFlags := 49
  interfaces := #[17, 18, 19]
  cf := some (fileOf pool20 1 #[.nestMembers #[189]] #[{ accessFlags := 9, nameIndex := 187, descriptorIndex := 188, attributes := #[] }, { accessFlags := 1, nameIndex := 67, descriptorIndex := 201, attributes := #[] }] 49 203 #[304, 306, 308] #[{ accessFlags := 25, nameIndex := 310, descriptorIndex := 194, attributes := #[] }, { accessFlags := 25, nameIndex := 312, descriptorIndex := 194, attributes := #[] }, { accessFlags := 25, nameIndex := 302, descriptorIndex := 303, attributes := #[] }, { accessFlags := 24, nameIndex := 19, descriptorIndex := 20, attributes := #[] }, { accessFlags := 24, nameIndex := 89, descriptorIndex := 86, attributes := #[] }, { accessFlags := 24, nameIndex := 85, descriptorIndex := 86, attributes := #[] }, { accessFlags := 18, nameIndex := 207, descriptorIndex := 194, attributes := #[] }, { accessFlags := 25, nameIndex := 316, descriptorIndex := 194, attributes := #[] }, { accessFlags := 25, nameIndex := 318, descriptorIndex := 194, attributes := #[] }, { accessFlags := 26, nameIndex := 320, descriptorIndex := 321, attributes := #[] }])
  fields := #[{ name := "MIN_VALUE", type := .int, accessFlags := 25, slot := 0, constantValue := 0 }, { name := "MAX_VALUE", type := .int, accessFlags := 25, slot := 1, constantValue := 0 }, { name := "TYPE", type := (.object "java/lang/Class"), accessFlags := 25, slot := 2, constantValue := 0 }, { name := "digits", type := (.array .char), accessFlags := 24, slot := 3, constantValue := 0 }, { name := "DigitTens", type := (.array .byte), accessFlags := 24, slot := 4, constantValue := 0 }, { name := "DigitOnes", type := (.array .byte), accessFlags := 24, slot := 5, constantValue := 0 }, { name := "value", type := .int, accessFlags := 18, slot := 0, constantValue := 0 }, { name := "SIZE", type := .int, accessFlags := 25, slot := 6, constantValue := 0 }, { name := "BYTES", type := .int, accessFlags := 25, slot := 7, constantValue := 0 }, { name := "serialVersionUID", type := .long, accessFlags := 26, slot := 8, constantValue := 0 }]
  methods := #[k20m0, k20m1]
  instanceTypes := #[.int]
  staticTypes := #[.int, .int, (.object "java/lang/Class"), (.array .char), (.array .byte), (.array .byte), .int, .int, .long]
  resolved := Array.replicate 453 none
  statics := none }

def pool21 : Array CpInfo := pool [(2, .class_ 4), (1, u "java/lang/Object"), (0, u "<init>"), (0, u "()V"), (0, .class_ 8), (0, u "java/lang/Integer"), (7, .class_ 18), (1, u "java/lang/Integer$IntegerCache"), (0, u "$assertionsDisabled"), (0, u "Z"), (26, u "high"), (0, u "I"), (8, u "archivedCache"), (0, u "[Ljava/lang/Integer;"), (12, u "cache"), (0, u "low")] 27

def k21m0 : Method := { name := "<init>", desc := "()V", sig := { parameters := [], returnType := none }, accessFlags := 2, code := none }
/-- java/lang/Integer$IntegerCache -/
def k21 : Class := { plain "java/lang/Integer$IntegerCache" (some 0) with
  accessFlags := 48
  interfaces := #[]
  cf := some (fileOf pool21 16 #[.nestHost 7] #[{ accessFlags := 2, nameIndex := 5, descriptorIndex := 6, attributes := #[] }] 48 2 #[] #[{ accessFlags := 24, nameIndex := 72, descriptorIndex := 48, attributes := #[] }, { accessFlags := 24, nameIndex := 47, descriptorIndex := 48, attributes := #[] }, { accessFlags := 24, nameIndex := 71, descriptorIndex := 58, attributes := #[] }, { accessFlags := 8, nameIndex := 57, descriptorIndex := 58, attributes := #[] }, { accessFlags := 4120, nameIndex := 19, descriptorIndex := 20, attributes := #[] }])
  fields := #[{ name := "low", type := .int, accessFlags := 24, slot := 0, constantValue := 0 }, { name := "high", type := .int, accessFlags := 24, slot := 1, constantValue := 0 }, { name := "cache", type := (.array (.object "java/lang/Integer")), accessFlags := 24, slot := 2, constantValue := 0 }, { name := "archivedCache", type := (.array (.object "java/lang/Integer")), accessFlags := 8, slot := 3, constantValue := 0 }, { name := "$assertionsDisabled", type := .boolean, accessFlags := 4120, slot := 4, constantValue := 0 }]
  methods := #[k21m0]
  instanceTypes := #[]
  staticTypes := #[.int, .int, (.array (.object "java/lang/Integer")), (.array (.object "java/lang/Integer")), .boolean]
  resolved := Array.replicate 100 none
  statics := some 1 }

def pool22 : Array CpInfo := pool [(1, .class_ 2), (0, u "java/lang/Math"), (1, .class_ 6), (1, u "java/lang/Object"), (0, u "<init>"), (0, u "()V"), (89, .class_ 100), (1, u "java/lang/Math$RandomNumberGeneratorHolder"), (71, u "negativeZeroFloatBits"), (0, u "J"), (2, u "negativeZeroDoubleBits"), (21, u "max"), (46, u "$assertionsDisabled"), (0, u "Z"), (88, u "(II)I"), (2, u "twoToTheDoubleScaleDown"), (0, u "D"), (4, u "twoToTheDoubleScaleUp"), (9, u "E"), (3, u "PI"), (2, u "TAU"), (2, u "DEGREES_TO_RADIANS"), (0, u "RADIANS_TO_DEGREES")] 94

def k22m0 : Method := { name := "<init>", desc := "()V", sig := { parameters := [], returnType := none }, accessFlags := 2, code := none }
def k22c1 : Code := { maxStack := 2, maxLocals := 2, code := jdk_29_method_65_code, exceptionTable := #[], attributes := #[] }
def k22m1 : Method := { name := "max", desc := "(II)I", sig := { parameters := [.int, .int], returnType := some .int }, accessFlags := 9, code := some k22c1 }
/-- java/lang/Math -/
def k22 : Class := { plain "java/lang/Math" (some 0) with
  accessFlags := 49
  interfaces := #[]
  cf := some (fileOf pool22 1 #[.nestMembers #[98]] #[{ accessFlags := 2, nameIndex := 7, descriptorIndex := 8, attributes := #[] }, { accessFlags := 9, nameIndex := 198, descriptorIndex := 335, attributes := #[] }] 49 4 #[] #[{ accessFlags := 25, nameIndex := 354, descriptorIndex := 339, attributes := #[] }, { accessFlags := 25, nameIndex := 358, descriptorIndex := 339, attributes := #[] }, { accessFlags := 25, nameIndex := 361, descriptorIndex := 339, attributes := #[] }, { accessFlags := 26, nameIndex := 364, descriptorIndex := 339, attributes := #[] }, { accessFlags := 26, nameIndex := 365, descriptorIndex := 339, attributes := #[] }, { accessFlags := 26, nameIndex := 172, descriptorIndex := 173, attributes := #[] }, { accessFlags := 26, nameIndex := 176, descriptorIndex := 173, attributes := #[] }, { accessFlags := 8, nameIndex := 344, descriptorIndex := 339, attributes := #[] }, { accessFlags := 8, nameIndex := 338, descriptorIndex := 339, attributes := #[] }, { accessFlags := 4120, nameIndex := 245, descriptorIndex := 246, attributes := #[] }])
  fields := #[{ name := "E", type := .double, accessFlags := 25, slot := 0, constantValue := 0 }, { name := "PI", type := .double, accessFlags := 25, slot := 1, constantValue := 0 }, { name := "TAU", type := .double, accessFlags := 25, slot := 2, constantValue := 0 }, { name := "DEGREES_TO_RADIANS", type := .double, accessFlags := 26, slot := 3, constantValue := 0 }, { name := "RADIANS_TO_DEGREES", type := .double, accessFlags := 26, slot := 4, constantValue := 0 }, { name := "negativeZeroFloatBits", type := .long, accessFlags := 26, slot := 5, constantValue := 0 }, { name := "negativeZeroDoubleBits", type := .long, accessFlags := 26, slot := 6, constantValue := 0 }, { name := "twoToTheDoubleScaleUp", type := .double, accessFlags := 8, slot := 7, constantValue := 0 }, { name := "twoToTheDoubleScaleDown", type := .double, accessFlags := 8, slot := 8, constantValue := 0 }, { name := "$assertionsDisabled", type := .boolean, accessFlags := 4120, slot := 9, constantValue := 0 }]
  methods := #[k22m0, k22m1]
  instanceTypes := #[]
  staticTypes := #[.double, .double, .double, .double, .double, .long, .long, .double, .double, .boolean]
  resolved := Array.replicate 460 none
  statics := none }

def pool23 : Array CpInfo := pool [(1, .methodref 2 3), (0, .class_ 4), (0, .nameAndType 5 6), (0, u "java/lang/Record"), (0, u "<init>"), (0, u "()V"), (0, .fieldref 8 9), (0, .class_ 10), (0, .nameAndType 11 12), (0, u "com/example/evenring/evenring/LoadView$Mean"), (0, u "load"), (0, u "D"), (0, .fieldref 8 14), (0, .nameAndType 15 12), (0, u "peers"), (12, u "(DD)V"), (10, .class_ 40), (0, u "com/example/evenring/evenring/LoadView")] 20

def k23c0 : Code := { maxStack := 3, maxLocals := 5, code := prog_32_method_1_code, exceptionTable := #[], attributes := #[] }
def k23m0 : Method := { name := "<init>", desc := "(DD)V", sig := { parameters := [.double, .double], returnType := none }, accessFlags := 0, code := some k23c0 }
/-- com/example/evenring/evenring/LoadView$Mean -/
def k23 : Class := { plain "com/example/evenring/evenring/LoadView$Mean" (some 2) with
  accessFlags := 48
  interfaces := #[]
  cf := some (fileOf pool23 8 #[.nestHost 39] #[{ accessFlags := 0, nameIndex := 5, descriptorIndex := 28, attributes := #[] }] 48 2 #[] #[{ accessFlags := 18, nameIndex := 11, descriptorIndex := 12, attributes := #[] }, { accessFlags := 18, nameIndex := 15, descriptorIndex := 12, attributes := #[] }])
  fields := #[{ name := "load", type := .double, accessFlags := 18, slot := 0, constantValue := 0 }, { name := "peers", type := .double, accessFlags := 18, slot := 1, constantValue := 0 }]
  methods := #[k23m0]
  instanceTypes := #[.double, .double]
  staticTypes := #[]
  resolved := Array.replicate 61 none
  statics := none }

def pool24 : Array CpInfo := pool [(1, .methodref 2 3), (0, .class_ 4), (0, .nameAndType 5 6), (0, u "java/lang/Record"), (0, u "<init>"), (0, u "()V"), (0, .fieldref 8 9), (0, .class_ 10), (0, .nameAndType 11 12), (0, u "com/example/evenring/evenring/LoadView"), (0, u "load"), (0, u "I"), (0, .fieldref 8 14), (0, .nameAndType 15 16), (0, u "successors"), (0, u "Ljava/util/List;"), (0, .fieldref 8 18), (0, .nameAndType 19 20), (0, u "mean"), (0, u "Lcom/example/evenring/evenring/LoadView$Mean;"), (0, .methodref 8 22), (0, .nameAndType 5 23), (0, u "(ILjava/util/List;Lcom/example/evenring/evenring/LoadView$Mean;)V"), (25, u "()I"), (18, u "withLoad"), (0, u "(I)Lcom/example/evenring/evenring/LoadView;"), (11, .class_ 82), (0, u "com/example/evenring/evenring/LoadView$Reader"), (0, .class_ 84), (0, u "com/example/evenring/evenring/LoadView$Mean")] 22

def k24c0 : Code := { maxStack := 2, maxLocals := 4, code := prog_31_method_1_code, exceptionTable := #[], attributes := #[] }
def k24m0 : Method := { name := "<init>", desc := "(ILjava/util/List;Lcom/example/evenring/evenring/LoadView$Mean;)V", sig := { parameters := [.int, (.object "java/util/List"), (.object "com/example/evenring/evenring/LoadView$Mean")], returnType := none }, accessFlags := 0, code := some k24c0 }
def k24c1 : Code := { maxStack := 5, maxLocals := 2, code := prog_31_method_2_code, exceptionTable := #[], attributes := #[] }
def k24m1 : Method := { name := "withLoad", desc := "(I)Lcom/example/evenring/evenring/LoadView;", sig := { parameters := [.int], returnType := some (.object "com/example/evenring/evenring/LoadView") }, accessFlags := 0, code := some k24c1 }
def k24c2 : Code := { maxStack := 1, maxLocals := 1, code := prog_31_method_7_code, exceptionTable := #[], attributes := #[] }
def k24m2 : Method := { name := "load", desc := "()I", sig := { parameters := [], returnType := some .int }, accessFlags := 1, code := some k24c2 }
/-- com/example/evenring/evenring/LoadView -/
def k24 : Class := { plain "com/example/evenring/evenring/LoadView" (some 2) with
  accessFlags := 48
  interfaces := #[]
  cf := some (fileOf pool24 8 #[.nestMembers #[81, 83]] #[{ accessFlags := 0, nameIndex := 5, descriptorIndex := 23, attributes := #[] }, { accessFlags := 0, nameIndex := 68, descriptorIndex := 69, attributes := #[] }, { accessFlags := 1, nameIndex := 11, descriptorIndex := 49, attributes := #[] }] 48 2 #[] #[{ accessFlags := 18, nameIndex := 11, descriptorIndex := 12, attributes := #[] }, { accessFlags := 18, nameIndex := 15, descriptorIndex := 16, attributes := #[] }, { accessFlags := 18, nameIndex := 19, descriptorIndex := 20, attributes := #[] }])
  fields := #[{ name := "load", type := .int, accessFlags := 18, slot := 0, constantValue := 0 }, { name := "successors", type := (.object "java/util/List"), accessFlags := 18, slot := 1, constantValue := 0 }, { name := "mean", type := (.object "com/example/evenring/evenring/LoadView$Mean"), accessFlags := 18, slot := 2, constantValue := 0 }]
  methods := #[k24m0, k24m1, k24m2]
  instanceTypes := #[.int, (.object "java/util/List"), (.object "com/example/evenring/evenring/LoadView$Mean")]
  staticTypes := #[]
  resolved := Array.replicate 107 none
  statics := none }

/-- the primitive byte -/
def k25 : Class := { plain "byte" none with kind := .primitive 'B', accessFlags := 0x411 }
/-- [B -/
def k26 : Class := { plain "[B" (some 0) with kind := .array 25 .byte, interfaces := #[13, 14], accessFlags := 1041 }

/-- the primitive int -/
def k27 : Class := { plain "int" none with kind := .primitive 'I', accessFlags := 0x411 }
/-- [I -/
def k28 : Class := { plain "[I" (some 0) with kind := .array 27 .int, interfaces := #[13, 14], accessFlags := 1041 }

/-- [Ljava/lang/Integer; -/
def k29 : Class := { plain "[Ljava/lang/Integer;" (some 0) with kind := .array 20 (.object "java/lang/Integer"), interfaces := #[13, 14], accessFlags := 1041 }

/-- [Ljava/lang/Object; -/
def k30 : Class := { plain "[Ljava/lang/Object;" (some 0) with kind := .array 0 (.object "java/lang/Object"), interfaces := #[13, 14], accessFlags := 1041 }

def heap : Heap := #[{ cls := 15, slots := #[.long 0, .int 0, .ref 259, .ref 260], vm := .statics 15 },
  { cls := 21, slots := #[.int 0, .int 127, .ref 2, .null, .int 0], vm := .statics 21 },
  { cls := 29, slots := #[.ref 3, .ref 4, .ref 5, .ref 6, .ref 7, .ref 8, .ref 9, .ref 10, .ref 11, .ref 12, .ref 13, .ref 14, .ref 15, .ref 16, .ref 17, .ref 18, .ref 19, .ref 20, .ref 21, .ref 22, .ref 23, .ref 24, .ref 25, .ref 26, .ref 27, .ref 28, .ref 29, .ref 30, .ref 31, .ref 32, .ref 33, .ref 34, .ref 35, .ref 36, .ref 37, .ref 38, .ref 39, .ref 40, .ref 41, .ref 42, .ref 43, .ref 44, .ref 45, .ref 46, .ref 47, .ref 48, .ref 49, .ref 50, .ref 51, .ref 52, .ref 53, .ref 54, .ref 55, .ref 56, .ref 57, .ref 58, .ref 59, .ref 60, .ref 61, .ref 62, .ref 63, .ref 64, .ref 65, .ref 66, .ref 67, .ref 68, .ref 69, .ref 70, .ref 71, .ref 72, .ref 73, .ref 74, .ref 75, .ref 76, .ref 77, .ref 78, .ref 79, .ref 80, .ref 81, .ref 82, .ref 83, .ref 84, .ref 85, .ref 86, .ref 87, .ref 88, .ref 89, .ref 90, .ref 91, .ref 92, .ref 93, .ref 94, .ref 95, .ref 96, .ref 97, .ref 98, .ref 99, .ref 100, .ref 101, .ref 102, .ref 103, .ref 104, .ref 105, .ref 106, .ref 107, .ref 108, .ref 109, .ref 110, .ref 111, .ref 112, .ref 113, .ref 114, .ref 115, .ref 116, .ref 117, .ref 118, .ref 119, .ref 120, .ref 121, .ref 122, .ref 123, .ref 124, .ref 125, .ref 126, .ref 127, .ref 128, .ref 129, .ref 130, .ref 131, .ref 132, .ref 133, .ref 134, .ref 135, .ref 136, .ref 137, .ref 138, .ref 139, .ref 140, .ref 141, .ref 142, .ref 143, .ref 144, .ref 145, .ref 146, .ref 147, .ref 148, .ref 149, .ref 150, .ref 151, .ref 152, .ref 153, .ref 154, .ref 155, .ref 156, .ref 157, .ref 158, .ref 159, .ref 160, .ref 161, .ref 162, .ref 163, .ref 164, .ref 165, .ref 166, .ref 167, .ref 168, .ref 169, .ref 170, .ref 171, .ref 172, .ref 173, .ref 174, .ref 175, .ref 176, .ref 177, .ref 178, .ref 179, .ref 180, .ref 181, .ref 182, .ref 183, .ref 184, .ref 185, .ref 186, .ref 187, .ref 188, .ref 189, .ref 190, .ref 191, .ref 192, .ref 193, .ref 194, .ref 195, .ref 196, .ref 197, .ref 198, .ref 199, .ref 200, .ref 201, .ref 202, .ref 203, .ref 204, .ref 205, .ref 206, .ref 207, .ref 208, .ref 209, .ref 210, .ref 211, .ref 212, .ref 213, .ref 214, .ref 215, .ref 216, .ref 217, .ref 218, .ref 219, .ref 220, .ref 221, .ref 222, .ref 223, .ref 224, .ref 225, .ref 226, .ref 227, .ref 228, .ref 229, .ref 230, .ref 231, .ref 232, .ref 233, .ref 234, .ref 235, .ref 236, .ref 237, .ref 238, .ref 239, .ref 240, .ref 241, .ref 242, .ref 243, .ref 244, .ref 245, .ref 246, .ref 247, .ref 248, .ref 249, .ref 250, .ref 251, .ref 252, .ref 253, .ref 254, .ref 255, .ref 256, .ref 257, .ref 258], vm := .none },
  { cls := 20, slots := #[.int (-128)], vm := .none },
  { cls := 20, slots := #[.int (-127)], vm := .none },
  { cls := 20, slots := #[.int (-126)], vm := .none },
  { cls := 20, slots := #[.int (-125)], vm := .none },
  { cls := 20, slots := #[.int (-124)], vm := .none },
  { cls := 20, slots := #[.int (-123)], vm := .none },
  { cls := 20, slots := #[.int (-122)], vm := .none },
  { cls := 20, slots := #[.int (-121)], vm := .none },
  { cls := 20, slots := #[.int (-120)], vm := .none },
  { cls := 20, slots := #[.int (-119)], vm := .none },
  { cls := 20, slots := #[.int (-118)], vm := .none },
  { cls := 20, slots := #[.int (-117)], vm := .none },
  { cls := 20, slots := #[.int (-116)], vm := .none },
  { cls := 20, slots := #[.int (-115)], vm := .none },
  { cls := 20, slots := #[.int (-114)], vm := .none },
  { cls := 20, slots := #[.int (-113)], vm := .none },
  { cls := 20, slots := #[.int (-112)], vm := .none },
  { cls := 20, slots := #[.int (-111)], vm := .none },
  { cls := 20, slots := #[.int (-110)], vm := .none },
  { cls := 20, slots := #[.int (-109)], vm := .none },
  { cls := 20, slots := #[.int (-108)], vm := .none },
  { cls := 20, slots := #[.int (-107)], vm := .none },
  { cls := 20, slots := #[.int (-106)], vm := .none },
  { cls := 20, slots := #[.int (-105)], vm := .none },
  { cls := 20, slots := #[.int (-104)], vm := .none },
  { cls := 20, slots := #[.int (-103)], vm := .none },
  { cls := 20, slots := #[.int (-102)], vm := .none },
  { cls := 20, slots := #[.int (-101)], vm := .none },
  { cls := 20, slots := #[.int (-100)], vm := .none },
  { cls := 20, slots := #[.int (-99)], vm := .none },
  { cls := 20, slots := #[.int (-98)], vm := .none },
  { cls := 20, slots := #[.int (-97)], vm := .none },
  { cls := 20, slots := #[.int (-96)], vm := .none },
  { cls := 20, slots := #[.int (-95)], vm := .none },
  { cls := 20, slots := #[.int (-94)], vm := .none },
  { cls := 20, slots := #[.int (-93)], vm := .none },
  { cls := 20, slots := #[.int (-92)], vm := .none },
  { cls := 20, slots := #[.int (-91)], vm := .none },
  { cls := 20, slots := #[.int (-90)], vm := .none },
  { cls := 20, slots := #[.int (-89)], vm := .none },
  { cls := 20, slots := #[.int (-88)], vm := .none },
  { cls := 20, slots := #[.int (-87)], vm := .none },
  { cls := 20, slots := #[.int (-86)], vm := .none },
  { cls := 20, slots := #[.int (-85)], vm := .none },
  { cls := 20, slots := #[.int (-84)], vm := .none },
  { cls := 20, slots := #[.int (-83)], vm := .none },
  { cls := 20, slots := #[.int (-82)], vm := .none },
  { cls := 20, slots := #[.int (-81)], vm := .none },
  { cls := 20, slots := #[.int (-80)], vm := .none },
  { cls := 20, slots := #[.int (-79)], vm := .none },
  { cls := 20, slots := #[.int (-78)], vm := .none },
  { cls := 20, slots := #[.int (-77)], vm := .none },
  { cls := 20, slots := #[.int (-76)], vm := .none },
  { cls := 20, slots := #[.int (-75)], vm := .none },
  { cls := 20, slots := #[.int (-74)], vm := .none },
  { cls := 20, slots := #[.int (-73)], vm := .none },
  { cls := 20, slots := #[.int (-72)], vm := .none },
  { cls := 20, slots := #[.int (-71)], vm := .none },
  { cls := 20, slots := #[.int (-70)], vm := .none },
  { cls := 20, slots := #[.int (-69)], vm := .none },
  { cls := 20, slots := #[.int (-68)], vm := .none },
  { cls := 20, slots := #[.int (-67)], vm := .none },
  { cls := 20, slots := #[.int (-66)], vm := .none },
  { cls := 20, slots := #[.int (-65)], vm := .none },
  { cls := 20, slots := #[.int (-64)], vm := .none },
  { cls := 20, slots := #[.int (-63)], vm := .none },
  { cls := 20, slots := #[.int (-62)], vm := .none },
  { cls := 20, slots := #[.int (-61)], vm := .none },
  { cls := 20, slots := #[.int (-60)], vm := .none },
  { cls := 20, slots := #[.int (-59)], vm := .none },
  { cls := 20, slots := #[.int (-58)], vm := .none },
  { cls := 20, slots := #[.int (-57)], vm := .none },
  { cls := 20, slots := #[.int (-56)], vm := .none },
  { cls := 20, slots := #[.int (-55)], vm := .none },
  { cls := 20, slots := #[.int (-54)], vm := .none },
  { cls := 20, slots := #[.int (-53)], vm := .none },
  { cls := 20, slots := #[.int (-52)], vm := .none },
  { cls := 20, slots := #[.int (-51)], vm := .none },
  { cls := 20, slots := #[.int (-50)], vm := .none },
  { cls := 20, slots := #[.int (-49)], vm := .none },
  { cls := 20, slots := #[.int (-48)], vm := .none },
  { cls := 20, slots := #[.int (-47)], vm := .none },
  { cls := 20, slots := #[.int (-46)], vm := .none },
  { cls := 20, slots := #[.int (-45)], vm := .none },
  { cls := 20, slots := #[.int (-44)], vm := .none },
  { cls := 20, slots := #[.int (-43)], vm := .none },
  { cls := 20, slots := #[.int (-42)], vm := .none },
  { cls := 20, slots := #[.int (-41)], vm := .none },
  { cls := 20, slots := #[.int (-40)], vm := .none },
  { cls := 20, slots := #[.int (-39)], vm := .none },
  { cls := 20, slots := #[.int (-38)], vm := .none },
  { cls := 20, slots := #[.int (-37)], vm := .none },
  { cls := 20, slots := #[.int (-36)], vm := .none },
  { cls := 20, slots := #[.int (-35)], vm := .none },
  { cls := 20, slots := #[.int (-34)], vm := .none },
  { cls := 20, slots := #[.int (-33)], vm := .none },
  { cls := 20, slots := #[.int (-32)], vm := .none },
  { cls := 20, slots := #[.int (-31)], vm := .none },
  { cls := 20, slots := #[.int (-30)], vm := .none },
  { cls := 20, slots := #[.int (-29)], vm := .none },
  { cls := 20, slots := #[.int (-28)], vm := .none },
  { cls := 20, slots := #[.int (-27)], vm := .none },
  { cls := 20, slots := #[.int (-26)], vm := .none },
  { cls := 20, slots := #[.int (-25)], vm := .none },
  { cls := 20, slots := #[.int (-24)], vm := .none },
  { cls := 20, slots := #[.int (-23)], vm := .none },
  { cls := 20, slots := #[.int (-22)], vm := .none },
  { cls := 20, slots := #[.int (-21)], vm := .none },
  { cls := 20, slots := #[.int (-20)], vm := .none },
  { cls := 20, slots := #[.int (-19)], vm := .none },
  { cls := 20, slots := #[.int (-18)], vm := .none },
  { cls := 20, slots := #[.int (-17)], vm := .none },
  { cls := 20, slots := #[.int (-16)], vm := .none },
  { cls := 20, slots := #[.int (-15)], vm := .none },
  { cls := 20, slots := #[.int (-14)], vm := .none },
  { cls := 20, slots := #[.int (-13)], vm := .none },
  { cls := 20, slots := #[.int (-12)], vm := .none },
  { cls := 20, slots := #[.int (-11)], vm := .none },
  { cls := 20, slots := #[.int (-10)], vm := .none },
  { cls := 20, slots := #[.int (-9)], vm := .none },
  { cls := 20, slots := #[.int (-8)], vm := .none },
  { cls := 20, slots := #[.int (-7)], vm := .none },
  { cls := 20, slots := #[.int (-6)], vm := .none },
  { cls := 20, slots := #[.int (-5)], vm := .none },
  { cls := 20, slots := #[.int (-4)], vm := .none },
  { cls := 20, slots := #[.int (-3)], vm := .none },
  { cls := 20, slots := #[.int (-2)], vm := .none },
  { cls := 20, slots := #[.int (-1)], vm := .none },
  { cls := 20, slots := #[.int (0)], vm := .none },
  { cls := 20, slots := #[.int (1)], vm := .none },
  { cls := 20, slots := #[.int (2)], vm := .none },
  { cls := 20, slots := #[.int (3)], vm := .none },
  { cls := 20, slots := #[.int (4)], vm := .none },
  { cls := 20, slots := #[.int (5)], vm := .none },
  { cls := 20, slots := #[.int (6)], vm := .none },
  { cls := 20, slots := #[.int (7)], vm := .none },
  { cls := 20, slots := #[.int (8)], vm := .none },
  { cls := 20, slots := #[.int (9)], vm := .none },
  { cls := 20, slots := #[.int (10)], vm := .none },
  { cls := 20, slots := #[.int (11)], vm := .none },
  { cls := 20, slots := #[.int (12)], vm := .none },
  { cls := 20, slots := #[.int (13)], vm := .none },
  { cls := 20, slots := #[.int (14)], vm := .none },
  { cls := 20, slots := #[.int (15)], vm := .none },
  { cls := 20, slots := #[.int (16)], vm := .none },
  { cls := 20, slots := #[.int (17)], vm := .none },
  { cls := 20, slots := #[.int (18)], vm := .none },
  { cls := 20, slots := #[.int (19)], vm := .none },
  { cls := 20, slots := #[.int (20)], vm := .none },
  { cls := 20, slots := #[.int (21)], vm := .none },
  { cls := 20, slots := #[.int (22)], vm := .none },
  { cls := 20, slots := #[.int (23)], vm := .none },
  { cls := 20, slots := #[.int (24)], vm := .none },
  { cls := 20, slots := #[.int (25)], vm := .none },
  { cls := 20, slots := #[.int (26)], vm := .none },
  { cls := 20, slots := #[.int (27)], vm := .none },
  { cls := 20, slots := #[.int (28)], vm := .none },
  { cls := 20, slots := #[.int (29)], vm := .none },
  { cls := 20, slots := #[.int (30)], vm := .none },
  { cls := 20, slots := #[.int (31)], vm := .none },
  { cls := 20, slots := #[.int (32)], vm := .none },
  { cls := 20, slots := #[.int (33)], vm := .none },
  { cls := 20, slots := #[.int (34)], vm := .none },
  { cls := 20, slots := #[.int (35)], vm := .none },
  { cls := 20, slots := #[.int (36)], vm := .none },
  { cls := 20, slots := #[.int (37)], vm := .none },
  { cls := 20, slots := #[.int (38)], vm := .none },
  { cls := 20, slots := #[.int (39)], vm := .none },
  { cls := 20, slots := #[.int (40)], vm := .none },
  { cls := 20, slots := #[.int (41)], vm := .none },
  { cls := 20, slots := #[.int (42)], vm := .none },
  { cls := 20, slots := #[.int (43)], vm := .none },
  { cls := 20, slots := #[.int (44)], vm := .none },
  { cls := 20, slots := #[.int (45)], vm := .none },
  { cls := 20, slots := #[.int (46)], vm := .none },
  { cls := 20, slots := #[.int (47)], vm := .none },
  { cls := 20, slots := #[.int (48)], vm := .none },
  { cls := 20, slots := #[.int (49)], vm := .none },
  { cls := 20, slots := #[.int (50)], vm := .none },
  { cls := 20, slots := #[.int (51)], vm := .none },
  { cls := 20, slots := #[.int (52)], vm := .none },
  { cls := 20, slots := #[.int (53)], vm := .none },
  { cls := 20, slots := #[.int (54)], vm := .none },
  { cls := 20, slots := #[.int (55)], vm := .none },
  { cls := 20, slots := #[.int (56)], vm := .none },
  { cls := 20, slots := #[.int (57)], vm := .none },
  { cls := 20, slots := #[.int (58)], vm := .none },
  { cls := 20, slots := #[.int (59)], vm := .none },
  { cls := 20, slots := #[.int (60)], vm := .none },
  { cls := 20, slots := #[.int (61)], vm := .none },
  { cls := 20, slots := #[.int (62)], vm := .none },
  { cls := 20, slots := #[.int (63)], vm := .none },
  { cls := 20, slots := #[.int (64)], vm := .none },
  { cls := 20, slots := #[.int (65)], vm := .none },
  { cls := 20, slots := #[.int (66)], vm := .none },
  { cls := 20, slots := #[.int (67)], vm := .none },
  { cls := 20, slots := #[.int (68)], vm := .none },
  { cls := 20, slots := #[.int (69)], vm := .none },
  { cls := 20, slots := #[.int (70)], vm := .none },
  { cls := 20, slots := #[.int (71)], vm := .none },
  { cls := 20, slots := #[.int (72)], vm := .none },
  { cls := 20, slots := #[.int (73)], vm := .none },
  { cls := 20, slots := #[.int (74)], vm := .none },
  { cls := 20, slots := #[.int (75)], vm := .none },
  { cls := 20, slots := #[.int (76)], vm := .none },
  { cls := 20, slots := #[.int (77)], vm := .none },
  { cls := 20, slots := #[.int (78)], vm := .none },
  { cls := 20, slots := #[.int (79)], vm := .none },
  { cls := 20, slots := #[.int (80)], vm := .none },
  { cls := 20, slots := #[.int (81)], vm := .none },
  { cls := 20, slots := #[.int (82)], vm := .none },
  { cls := 20, slots := #[.int (83)], vm := .none },
  { cls := 20, slots := #[.int (84)], vm := .none },
  { cls := 20, slots := #[.int (85)], vm := .none },
  { cls := 20, slots := #[.int (86)], vm := .none },
  { cls := 20, slots := #[.int (87)], vm := .none },
  { cls := 20, slots := #[.int (88)], vm := .none },
  { cls := 20, slots := #[.int (89)], vm := .none },
  { cls := 20, slots := #[.int (90)], vm := .none },
  { cls := 20, slots := #[.int (91)], vm := .none },
  { cls := 20, slots := #[.int (92)], vm := .none },
  { cls := 20, slots := #[.int (93)], vm := .none },
  { cls := 20, slots := #[.int (94)], vm := .none },
  { cls := 20, slots := #[.int (95)], vm := .none },
  { cls := 20, slots := #[.int (96)], vm := .none },
  { cls := 20, slots := #[.int (97)], vm := .none },
  { cls := 20, slots := #[.int (98)], vm := .none },
  { cls := 20, slots := #[.int (99)], vm := .none },
  { cls := 20, slots := #[.int (100)], vm := .none },
  { cls := 20, slots := #[.int (101)], vm := .none },
  { cls := 20, slots := #[.int (102)], vm := .none },
  { cls := 20, slots := #[.int (103)], vm := .none },
  { cls := 20, slots := #[.int (104)], vm := .none },
  { cls := 20, slots := #[.int (105)], vm := .none },
  { cls := 20, slots := #[.int (106)], vm := .none },
  { cls := 20, slots := #[.int (107)], vm := .none },
  { cls := 20, slots := #[.int (108)], vm := .none },
  { cls := 20, slots := #[.int (109)], vm := .none },
  { cls := 20, slots := #[.int (110)], vm := .none },
  { cls := 20, slots := #[.int (111)], vm := .none },
  { cls := 20, slots := #[.int (112)], vm := .none },
  { cls := 20, slots := #[.int (113)], vm := .none },
  { cls := 20, slots := #[.int (114)], vm := .none },
  { cls := 20, slots := #[.int (115)], vm := .none },
  { cls := 20, slots := #[.int (116)], vm := .none },
  { cls := 20, slots := #[.int (117)], vm := .none },
  { cls := 20, slots := #[.int (118)], vm := .none },
  { cls := 20, slots := #[.int (119)], vm := .none },
  { cls := 20, slots := #[.int (120)], vm := .none },
  { cls := 20, slots := #[.int (121)], vm := .none },
  { cls := 20, slots := #[.int (122)], vm := .none },
  { cls := 20, slots := #[.int (123)], vm := .none },
  { cls := 20, slots := #[.int (124)], vm := .none },
  { cls := 20, slots := #[.int (125)], vm := .none },
  { cls := 20, slots := #[.int (126)], vm := .none },
  { cls := 20, slots := #[.int (127)], vm := .none },
  { cls := 30, slots := #[], vm := .none },
  { cls := 30, slots := #[], vm := .none }]
def classes : Array Class := #[k0, k1, k2, k3, k4, k5, k6, k7, k8, k9, k10, k11, k12, k13, k14, k15, k16, k17, k18, k19, k20, k21, k22, k23, k24, k25, k26, k27, k28, k29, k30]
def interned : List (Array UInt16 × Addr) := []
def slotsUsed : Nat := 521
def theMethod : MethodId := ⟨1, 1⟩
def args0 : Array Value := #[.int 5, .int 7, .int 300, .int 9]
def aboutOver (below : List Frame) : State where
  vm := { classes := classes, interned := interned.toArray }
  heap := heap
  slotsUsed := slotsUsed
  threads := #[{ frames := .invoking theMethod args0 :: below }]
def below0 : List Frame := [.native { method := ⟨0, 0⟩, args := #[] }]
def about1 : State := aboutOver below0
def p0 : Program := .bare "" "" ""
def e0 : Env := launch0.env 0 0 0
theorem w_frames : about1.frames = Frame.invoking theMethod args0 :: below0 := rfl
set_option maxRecDepth 65536 in
theorem w_args : argsFit about1.vm theMethod args0 = true := by decide +kernel
set_option maxRecDepth 65536 in
theorem w_heap : heapFits about1 = true := by decide +kernel
set_option maxRecDepth 65536 in
theorem w_runnable : about1.curStatus? = some .runnable := by decide +kernel
set_option maxRecDepth 65536 in
theorem w_alone : about1.alone = true := by decide +kernel
set_option maxRecDepth 65536 in
theorem w_named : about1.methodNamed? x = some theMethod := by decide +kernel
set_option maxRecDepth 65536 in
theorem w_hears : about1.hears theMethod below0 = true := by decide +kernel
set_option maxRecDepth 65536 in
theorem w_ripe : about1.ripe theMethod args0 below0 = true := by decide +kernel
theorem w_running : about1.status = .running := rfl
set_option maxRecDepth 65536 in
theorem w_room : about1.hasRoom e0.platform room_1 = true :=
  launch0.hasRoom_least _ room_1 (by decide +kernel) (by decide +kernel) (by decide +kernel) (by decide +kernel) (by decide +kernel) (by decide +kernel)
theorem allAtoms_all (ts : List Jvm.Cond) (a : Array Jvm.Value) (st : Jvm.State) : (allAtoms ts).before a st = ts.all (fun c => c.before a st) := by
  induction ts with
  | nil => rfl
  | cons c t ih =>
    show (Jvm.Cond.and c (allAtoms t)).before a st = _
    rw [Jvm.Cond.before_and, ih, List.all_cons]
def words1 : List Jvm.Cond := Jvm.Cond.code x code maxLocals ret :: tables_1
/-- a 'code' word, met by the world's own term for the bytes: nothing is compared byte by byte -/
theorem code_word {y : MethodName} {bytes : ByteArray} {mx : Nat} {rt : Option FieldType} {a : Array Value} {s : State} {m : MethodId} {meth : Method} {c : Code} (h1 : s.methodNamed? y = some m) (h2 : s.vm.method? m = some meth) (h3 : meth.code = some c) (h4 : c.code = bytes)
    (h5 : (c.maxLocals == mx && c.exceptionTable.isEmpty && decide (c.maxStack ≤ mostOperands) && decide (meth.sig.returnType = rt) && !meth.locks && decide (parseMethodDescriptor y.desc = some meth.sig)) = true) : (Jvm.Cond.code y bytes mx rt).before a s = true := by
  simp only [Bool.and_eq_true, beq_iff_eq, Bool.not_eq_true', decide_eq_true_eq] at h5
  obtain ⟨⟨⟨⟨⟨g1, g2⟩, g3⟩, g4⟩, g5⟩, g6⟩ := h5
  simp [Cond.before, Cond.holds, Cond.value, h1, h2, h3, h4, g1, g2, g3, g4, g5, g6]
def isCode : Jvm.Cond → Bool
  | .code _ _ _ _ => true
  | _ => false
theorem all_split {L : List Jvm.Cond} {P : Jvm.Cond → Bool} (h1 : L.all (fun c => isCode c || P c) = true) (h2 : ∀ c ∈ L.filter isCode, P c = true) : L.all P = true := by
  refine List.all_eq_true.mpr fun c hc => ?_
  have h := List.all_eq_true.mp h1 c hc
  rcases Bool.eq_false_or_eq_true (isCode c) with hi | hi
  · exact h2 c (List.mem_filter.mpr ⟨hc, hi⟩)
  · simpa [hi] using h
set_option maxRecDepth 65536 in
theorem w_c0 : (Jvm.Cond.code x code maxLocals ret).before args0 about1 = true := code_word (m := ⟨1, 1⟩) (meth := k1m1) (c := k1c1) (by decide +kernel) rfl rfl rfl (by decide +kernel)
set_option maxRecDepth 65536 in
theorem w_c1 : (Jvm.Cond.code ({ cls := "com/example/evenring/evenring/LoadState$Threshold", name := "<init>", desc := "(I)V" } : Jvm.MethodName) prog_30_method_1_code (2 : Nat) (Option.none : Option Jvm.ClassFile.FieldType)).before args0 about1 = true := code_word (m := ⟨5, 0⟩) (meth := k5m0) (c := k5c0) (by decide +kernel) rfl rfl rfl (by decide +kernel)
set_option maxRecDepth 65536 in
theorem w_c2 : (Jvm.Cond.code ({ cls := "java/lang/Record", name := "<init>", desc := "()V" } : Jvm.MethodName) jdk_30_method_1_code (1 : Nat) (Option.none : Option Jvm.ClassFile.FieldType)).before args0 about1 = true := code_word (m := ⟨2, 0⟩) (meth := k2m0) (c := k2c0) (by decide +kernel) rfl rfl rfl (by decide +kernel)
set_option maxRecDepth 65536 in
theorem w_c3 : (Jvm.Cond.code ({ cls := "java/lang/Object", name := "<init>", desc := "()V" } : Jvm.MethodName) object_method_1_code (1 : Nat) (Option.none : Option Jvm.ClassFile.FieldType)).before args0 about1 = true := code_word (m := ⟨0, 0⟩) (meth := k0m0) (c := k0c0) (by decide +kernel) rfl rfl rfl (by decide +kernel)
set_option maxRecDepth 65536 in
theorem w_c4 : (Jvm.Cond.code ({ cls := "java/util/ArrayList", name := "<init>", desc := "()V" } : Jvm.MethodName) jdk_38_method_2_code (1 : Nat) (Option.none : Option Jvm.ClassFile.FieldType)).before args0 about1 = true := code_word (m := ⟨15, 0⟩) (meth := k15m0) (c := k15c0) (by decide +kernel) rfl rfl rfl (by decide +kernel)
set_option maxRecDepth 65536 in
theorem w_c5 : (Jvm.Cond.code ({ cls := "java/util/AbstractList", name := "<init>", desc := "()V" } : Jvm.MethodName) jdk_39_method_1_code (1 : Nat) (Option.none : Option Jvm.ClassFile.FieldType)).before args0 about1 = true := code_word (m := ⟨11, 0⟩) (meth := k11m0) (c := k11c0) (by decide +kernel) rfl rfl rfl (by decide +kernel)
set_option maxRecDepth 65536 in
theorem w_c6 : (Jvm.Cond.code ({ cls := "java/util/AbstractCollection", name := "<init>", desc := "()V" } : Jvm.MethodName) jdk_22_method_1_code (1 : Nat) (Option.none : Option Jvm.ClassFile.FieldType)).before args0 about1 = true := code_word (m := ⟨8, 0⟩) (meth := k8m0) (c := k8c0) (by decide +kernel) rfl rfl rfl (by decide +kernel)
set_option maxRecDepth 65536 in
theorem w_c7 : (Jvm.Cond.code ({ cls := "java/lang/Integer", name := "valueOf", desc := "(I)Ljava/lang/Integer;" } : Jvm.MethodName) jdk_33_method_22_code (1 : Nat) (Option.some (Jvm.ClassFile.FieldType.object "java/lang/Integer"))).before args0 about1 = true := code_word (m := ⟨20, 0⟩) (meth := k20m0) (c := k20c0) (by decide +kernel) rfl rfl rfl (by decide +kernel)
set_option maxRecDepth 65536 in
theorem w_c8 : (Jvm.Cond.code ({ cls := "java/util/ArrayList", name := "add", desc := "(Ljava/lang/Object;)Z" } : Jvm.MethodName) jdk_38_method_25_code (2 : Nat) (Option.some Jvm.ClassFile.FieldType.boolean)).before args0 about1 = true := code_word (m := ⟨15, 4⟩) (meth := k15m4) (c := k15c4) (by decide +kernel) rfl rfl rfl (by decide +kernel)
set_option maxRecDepth 65536 in
theorem w_c9 : (Jvm.Cond.code ({ cls := "java/util/ArrayList", name := "add", desc := "(Ljava/lang/Object;[Ljava/lang/Object;I)V" } : Jvm.MethodName) jdk_38_method_24_code (4 : Nat) (Option.none : Option Jvm.ClassFile.FieldType)).before args0 about1 = true := code_word (m := ⟨15, 3⟩) (meth := k15m3) (c := k15c3) (by decide +kernel) rfl rfl rfl (by decide +kernel)
set_option maxRecDepth 65536 in
theorem w_c10 : (Jvm.Cond.code ({ cls := "java/util/ArrayList", name := "grow", desc := "()[Ljava/lang/Object;" } : Jvm.MethodName) jdk_38_method_7_code (1 : Nat) (Option.some (Jvm.ClassFile.FieldType.array (Jvm.ClassFile.FieldType.object "java/lang/Object")))).before args0 about1 = true := code_word (m := ⟨15, 2⟩) (meth := k15m2) (c := k15c2) (by decide +kernel) rfl rfl rfl (by decide +kernel)
set_option maxRecDepth 65536 in
theorem w_c11 : (Jvm.Cond.code ({ cls := "java/util/ArrayList", name := "grow", desc := "(I)[Ljava/lang/Object;" } : Jvm.MethodName) jdk_38_method_6_code (4 : Nat) (Option.some (Jvm.ClassFile.FieldType.array (Jvm.ClassFile.FieldType.object "java/lang/Object")))).before args0 about1 = true := code_word (m := ⟨15, 1⟩) (meth := k15m1) (c := k15c1) (by decide +kernel) rfl rfl rfl (by decide +kernel)
set_option maxRecDepth 65536 in
theorem w_c12 : (Jvm.Cond.code ({ cls := "java/lang/Math", name := "max", desc := "(II)I" } : Jvm.MethodName) jdk_29_method_65_code (2 : Nat) (Option.some Jvm.ClassFile.FieldType.int)).before args0 about1 = true := code_word (m := ⟨22, 1⟩) (meth := k22m1) (c := k22c1) (by decide +kernel) rfl rfl rfl (by decide +kernel)
set_option maxRecDepth 65536 in
theorem w_c13 : (Jvm.Cond.code ({ cls := "com/example/evenring/evenring/LoadView$Mean", name := "<init>", desc := "(DD)V" } : Jvm.MethodName) prog_32_method_1_code (5 : Nat) (Option.none : Option Jvm.ClassFile.FieldType)).before args0 about1 = true := code_word (m := ⟨23, 0⟩) (meth := k23m0) (c := k23c0) (by decide +kernel) rfl rfl rfl (by decide +kernel)
set_option maxRecDepth 65536 in
theorem w_c14 : (Jvm.Cond.code ({ cls := "com/example/evenring/evenring/LoadView", name := "<init>", desc := "(ILjava/util/List;Lcom/example/evenring/evenring/LoadView$Mean;)V" } : Jvm.MethodName) prog_31_method_1_code (4 : Nat) (Option.none : Option Jvm.ClassFile.FieldType)).before args0 about1 = true := code_word (m := ⟨24, 0⟩) (meth := k24m0) (c := k24c0) (by decide +kernel) rfl rfl rfl (by decide +kernel)
set_option maxRecDepth 65536 in
theorem w_c15 : (Jvm.Cond.code ({ cls := "com/example/evenring/evenring/LoadState$Threshold", name := "isOverloaded", desc := "(Lcom/example/evenring/evenring/LoadView;)Z" } : Jvm.MethodName) prog_30_method_2_code (2 : Nat) (Option.some Jvm.ClassFile.FieldType.boolean)).before args0 about1 = true := code_word (m := ⟨5, 1⟩) (meth := k5m1) (c := k5c1) (by decide +kernel) rfl rfl rfl (by decide +kernel)
set_option maxRecDepth 65536 in
theorem w_c16 : (Jvm.Cond.code ({ cls := "com/example/evenring/evenring/LoadView", name := "load", desc := "()I" } : Jvm.MethodName) prog_31_method_7_code (1 : Nat) (Option.some Jvm.ClassFile.FieldType.int)).before args0 about1 = true := code_word (m := ⟨24, 2⟩) (meth := k24m2) (c := k24c2) (by decide +kernel) rfl rfl rfl (by decide +kernel)
set_option maxRecDepth 65536 in
theorem w_c17 : (Jvm.Cond.code ({ cls := "com/example/evenring/evenring/LoadView", name := "withLoad", desc := "(I)Lcom/example/evenring/evenring/LoadView;" } : Jvm.MethodName) prog_31_method_2_code (2 : Nat) (Option.some (Jvm.ClassFile.FieldType.object "com/example/evenring/evenring/LoadView"))).before args0 about1 = true := code_word (m := ⟨24, 1⟩) (meth := k24m1) (c := k24c1) (by decide +kernel) rfl rfl rfl (by decide +kernel)
set_option maxRecDepth 65536 in
theorem w_c18 : (Jvm.Cond.code ({ cls := "java/lang/Integer", name := "<init>", desc := "(I)V" } : Jvm.MethodName) jdk_33_method_23_code (2 : Nat) (Option.none : Option Jvm.ClassFile.FieldType)).before args0 about1 = true := code_word (m := ⟨20, 1⟩) (meth := k20m1) (c := k20c1) (by decide +kernel) rfl rfl rfl (by decide +kernel)
set_option maxRecDepth 65536 in
theorem w_c19 : (Jvm.Cond.code ({ cls := "java/lang/Number", name := "<init>", desc := "()V" } : Jvm.MethodName) jdk_18_method_1_code (1 : Nat) (Option.none : Option Jvm.ClassFile.FieldType)).before args0 about1 = true := code_word (m := ⟨16, 0⟩) (meth := k16m0) (c := k16c0) (by decide +kernel) rfl rfl rfl (by decide +kernel)
def codes1 : List Jvm.Cond := [Jvm.Cond.code x code maxLocals ret, Jvm.Cond.code ({ cls := "com/example/evenring/evenring/LoadState$Threshold", name := "<init>", desc := "(I)V" } : Jvm.MethodName) prog_30_method_1_code (2 : Nat) (Option.none : Option Jvm.ClassFile.FieldType), Jvm.Cond.code ({ cls := "java/lang/Record", name := "<init>", desc := "()V" } : Jvm.MethodName) jdk_30_method_1_code (1 : Nat) (Option.none : Option Jvm.ClassFile.FieldType), Jvm.Cond.code ({ cls := "java/lang/Object", name := "<init>", desc := "()V" } : Jvm.MethodName) object_method_1_code (1 : Nat) (Option.none : Option Jvm.ClassFile.FieldType), Jvm.Cond.code ({ cls := "java/util/ArrayList", name := "<init>", desc := "()V" } : Jvm.MethodName) jdk_38_method_2_code (1 : Nat) (Option.none : Option Jvm.ClassFile.FieldType), Jvm.Cond.code ({ cls := "java/util/AbstractList", name := "<init>", desc := "()V" } : Jvm.MethodName) jdk_39_method_1_code (1 : Nat) (Option.none : Option Jvm.ClassFile.FieldType), Jvm.Cond.code ({ cls := "java/util/AbstractCollection", name := "<init>", desc := "()V" } : Jvm.MethodName) jdk_22_method_1_code (1 : Nat) (Option.none : Option Jvm.ClassFile.FieldType), Jvm.Cond.code ({ cls := "java/lang/Integer", name := "valueOf", desc := "(I)Ljava/lang/Integer;" } : Jvm.MethodName) jdk_33_method_22_code (1 : Nat) (Option.some (Jvm.ClassFile.FieldType.object "java/lang/Integer")), Jvm.Cond.code ({ cls := "java/util/ArrayList", name := "add", desc := "(Ljava/lang/Object;)Z" } : Jvm.MethodName) jdk_38_method_25_code (2 : Nat) (Option.some Jvm.ClassFile.FieldType.boolean), Jvm.Cond.code ({ cls := "java/util/ArrayList", name := "add", desc := "(Ljava/lang/Object;[Ljava/lang/Object;I)V" } : Jvm.MethodName) jdk_38_method_24_code (4 : Nat) (Option.none : Option Jvm.ClassFile.FieldType), Jvm.Cond.code ({ cls := "java/util/ArrayList", name := "grow", desc := "()[Ljava/lang/Object;" } : Jvm.MethodName) jdk_38_method_7_code (1 : Nat) (Option.some (Jvm.ClassFile.FieldType.array (Jvm.ClassFile.FieldType.object "java/lang/Object"))), Jvm.Cond.code ({ cls := "java/util/ArrayList", name := "grow", desc := "(I)[Ljava/lang/Object;" } : Jvm.MethodName) jdk_38_method_6_code (4 : Nat) (Option.some (Jvm.ClassFile.FieldType.array (Jvm.ClassFile.FieldType.object "java/lang/Object"))), Jvm.Cond.code ({ cls := "java/lang/Math", name := "max", desc := "(II)I" } : Jvm.MethodName) jdk_29_method_65_code (2 : Nat) (Option.some Jvm.ClassFile.FieldType.int), Jvm.Cond.code ({ cls := "com/example/evenring/evenring/LoadView$Mean", name := "<init>", desc := "(DD)V" } : Jvm.MethodName) prog_32_method_1_code (5 : Nat) (Option.none : Option Jvm.ClassFile.FieldType), Jvm.Cond.code ({ cls := "com/example/evenring/evenring/LoadView", name := "<init>", desc := "(ILjava/util/List;Lcom/example/evenring/evenring/LoadView$Mean;)V" } : Jvm.MethodName) prog_31_method_1_code (4 : Nat) (Option.none : Option Jvm.ClassFile.FieldType), Jvm.Cond.code ({ cls := "com/example/evenring/evenring/LoadState$Threshold", name := "isOverloaded", desc := "(Lcom/example/evenring/evenring/LoadView;)Z" } : Jvm.MethodName) prog_30_method_2_code (2 : Nat) (Option.some Jvm.ClassFile.FieldType.boolean), Jvm.Cond.code ({ cls := "com/example/evenring/evenring/LoadView", name := "load", desc := "()I" } : Jvm.MethodName) prog_31_method_7_code (1 : Nat) (Option.some Jvm.ClassFile.FieldType.int), Jvm.Cond.code ({ cls := "com/example/evenring/evenring/LoadView", name := "withLoad", desc := "(I)Lcom/example/evenring/evenring/LoadView;" } : Jvm.MethodName) prog_31_method_2_code (2 : Nat) (Option.some (Jvm.ClassFile.FieldType.object "com/example/evenring/evenring/LoadView")), Jvm.Cond.code ({ cls := "java/lang/Integer", name := "<init>", desc := "(I)V" } : Jvm.MethodName) jdk_33_method_23_code (2 : Nat) (Option.none : Option Jvm.ClassFile.FieldType), Jvm.Cond.code ({ cls := "java/lang/Number", name := "<init>", desc := "()V" } : Jvm.MethodName) jdk_18_method_1_code (1 : Nat) (Option.none : Option Jvm.ClassFile.FieldType)]
set_option maxRecDepth 65536 in
theorem codes_eq : words1.filter isCode = codes1 := rfl
theorem w_codes : ∀ c ∈ words1.filter isCode, c.before args0 about1 = true := by
  rw [codes_eq]
  intro c hc
  simp only [codes1, List.mem_cons, List.not_mem_nil, or_false] at hc
  rcases hc with rfl | rfl | rfl | rfl | rfl | rfl | rfl | rfl | rfl | rfl | rfl | rfl | rfl | rfl | rfl | rfl | rfl | rfl | rfl | rfl
  · exact w_c0
  · exact w_c1
  · exact w_c2
  · exact w_c3
  · exact w_c4
  · exact w_c5
  · exact w_c6
  · exact w_c7
  · exact w_c8
  · exact w_c9
  · exact w_c10
  · exact w_c11
  · exact w_c12
  · exact w_c13
  · exact w_c14
  · exact w_c15
  · exact w_c16
  · exact w_c17
  · exact w_c18
  · exact w_c19
set_option maxRecDepth 65536 in
theorem w_t1 : (words1.take 24).all (fun c => isCode c || c.before args0 about1) = true := by decide +kernel
set_option maxRecDepth 65536 in
theorem w_t2 : ((words1.drop 24).take 24).all (fun c => isCode c || c.before args0 about1) = true := by decide +kernel
set_option maxRecDepth 65536 in
theorem w_t3 : (((words1.drop 24).drop 24).take 24).all (fun c => isCode c || c.before args0 about1) = true := by decide +kernel
set_option maxRecDepth 65536 in
theorem w_t4 : ((((words1.drop 24).drop 24).drop 24).take 24).all (fun c => isCode c || c.before args0 about1) = true := by decide +kernel
set_option maxRecDepth 65536 in
theorem w_t5 : (((((words1.drop 24).drop 24).drop 24).drop 24).take 24).all (fun c => isCode c || c.before args0 about1) = true := by decide +kernel
set_option maxRecDepth 65536 in
theorem w_t6 : (((((words1.drop 24).drop 24).drop 24).drop 24).drop 24).all (fun c => isCode c || c.before args0 about1) = true := by decide +kernel
theorem w_tables : (allAtoms (Jvm.Cond.code x code maxLocals ret :: tables_1)).before args0 about1 = true := by
  rw [allAtoms_all]
  show words1.all (fun c => c.before args0 about1) = true
  refine all_split ?_ w_codes
  rw [← List.take_append_drop 24 words1, List.all_append, w_t1, ← List.take_append_drop 24 (words1.drop 24), List.all_append, w_t2, ← List.take_append_drop 24 ((words1.drop 24).drop 24), List.all_append, w_t3, ← List.take_append_drop 24 (((words1.drop 24).drop 24).drop 24), List.all_append, w_t4, ← List.take_append_drop 24 ((((words1.drop 24).drop 24).drop 24).drop 24), List.all_append, w_t5, w_t6]
  rfl
set_option maxRecDepth 65536 in
theorem w_rest : rest_1_c.before args0 about1 = true := by decide +kernel
set_option maxRecDepth 65536 in
theorem w_case : (Jvm.Cond.and given_1 narrow_1).before args0 about1 = true := by decide +kernel
theorem w_applies : (headSpec (Jvm.Cond.code x code maxLocals ret :: tables_1) room_1).applies x e0.platform about1 = true :=
  (Spec.applies_iff w_frames).mpr ⟨w_running, w_runnable, w_alone, w_named, w_hears, w_ripe, w_room, w_tables⟩
theorem atStart : AtStart classFile x code maxLocals ret World_1 tables_1 room_1 Calls_1 rest_1 Pre_1 launch0 p0 e0 about1 theMethod args0 below0 :=
  ⟨lists_1, trivial, launch0.admits_env _ _ _, launch0.least_env, fairChoices_fair.cas, fairChoices_fair.clock, w_frames, w_args, w_heap, w_applies, trivial, w_rest, w_case⟩
end start1
theorem witness_1 : WitnessClaimed_1 := ⟨start1.p0, start1.e0, start1.about1, start1.theMethod, start1.args0, start1.below0, start1.atStart⟩
end Jvm.Pilot.@@N@@
