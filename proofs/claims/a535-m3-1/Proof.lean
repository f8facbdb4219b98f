import JvmDerived
import JvmDerived.Pilot.@@N@@Statement
import JvmDerived.Pilot.@@N@@Code
set_option linter.unusedVariables false
set_option linter.unusedSimpArgs false
namespace Jvm.Pilot.@@N@@
open Jvm Jvm.ClassFile Sem Op Lib Jvm.Free Jvm.Stand Jvm.LawKit Jvm.RoadKit Bundle Jvm.Pilot.@@N@@.Jvm.D
/-- from S the run comes to a state that P allows -/
def Comes (p : Program) (e : Env) (below : List Frame) (P : State → Prop) (S : State) : Prop := ∃ S', Steps p.tables e below S S' ∧ P S'
/-- how a body ends that Q allows -/
def EndsAt (below : List Frame) (s : State) (Q : Option Value → Heap → List Loc → Prop) (kc ks : Nat) (s₂ : State) : Prop := ∃ o, s₂.status = .running ∧ Ended s₂ below o ∧ ∃ v L, o = .returned v ∧ Q v s₂.heap L ∧ FrameEnd s o s₂ L kc ks
section Own
variable {p : Program} {l : Launch} {e : Env} {R : Room} {s : State} {m : MethodId} {args : Array Value} {below : List Frame} {meth : Method} {c : Code} {T : State} {locs : List Loc} {cells slots : Nat} {Q : Option Value → Heap → List Loc → Prop} {kc ks : Nat} {P : State → Prop} {S S' : State} {h : Heap}
theorem Comes.here (q : P S) : Comes p e below P S := ⟨S, Steps.refl _, q⟩
theorem Comes.st (f : ∀ t, Steps p.tables e below S' t → Steps p.tables e below S t) (g : Comes p e below P S') : Comes p e below P S := by
  obtain ⟨s₂, h1, r⟩ := g; exact ⟨s₂, f _ h1, r⟩
theorem Comes.go (f : Steps p.tables e below S S') (g : Comes p e below P S') : Comes p e below P S := by
  obtain ⟨s₂, h1, r⟩ := g; exact ⟨s₂, f.trans h1, r⟩
theorem Comes.cast {g g' : JFrame} (q : g = g') (k : Comes p e below P (T.setTop g')) : Comes p e below P (T.setTop g) := q ▸ k
theorem Comes.out (h : Comes p e below (EndsAt below s Q kc ks) S) : ∃ s₂ o, Steps p.tables e below S s₂ ∧ s₂.status = .running ∧ Ended s₂ below o ∧ ∃ v L, o = .returned v ∧ Q v s₂.heap L ∧ FrameEnd s o s₂ L kc ks := by
  obtain ⟨s₂, h1, o, r⟩ := h; exact ⟨s₂, o, h1, r⟩
theorem Comes.fin (X : Stand p l e R s m args below meth c T locs cells slots) {v : Option Value} (hv : meth.sig.returnType = none → v = none) (hlk : meth.locks = false)
    (hs : ∀ fs, (∀ (f : JFrame) (acts : List Action), f.method = m → f.locked = none → f.entered = [] → (doReturn e (T.setTop f) acts v).1 = T.setFrames fs) → Steps p.tables e below S (T.setFrames fs))
    (eT : T.heap = h) (hq : Q v h locs) (hc : cells ≤ kc) (hl : slots ≤ ks) : Comes p e below (EndsAt below s Q kc ks) S := by
  obtain ⟨fs, hr, hrun, hended, hW, hsame⟩ := X.leave (v := v) hv hlk
  exact ⟨_, hs fs hr, _, hrun, hended, _, _, rfl, (show Q v T.heap locs from by rw [eT]; exact hq), ⟨_, rfl⟩, hW, hsame.mono hc hl⟩
theorem Comes.ret0 (X : Stand p l e R s m args below meth c T locs cells slots) (hx : p.tables.exec = Jvm.exec) {pc : Nat} {Ls : Array Slot} (hret : meth.sig.returnType = none) (hlk : meth.locks = false) (hd : decode c.code pc = .ok (.return_, 1))
    (eT : T.heap = h) (hq : Q none h locs) (hc : cells ≤ kc) (hl : slots ≤ ks) : Comes p e below (EndsAt below s Q kc ks) (T.setTop (mkF m pc Ls [])) :=
  Comes.fin X (fun _ => rfl) hlk (fun _ hr => X.returnOut hx hret hd hr) eT hq hc hl
theorem Comes.retN (X : Stand p l e R s m args below meth c T locs cells slots) (hx : p.tables.exec = Jvm.exec) {pc : Nat} {Ls : Array Slot} {z : Int32} {t : FieldType} {rest : List Value} (hret : meth.sig.returnType = some t) (ht : t = .boolean ∨ t = .byte ∨ t = .char ∨ t = .short) (hlk : meth.locks = false) (hd : decode c.code pc = .ok (.ireturn, 1))
    (eT : T.heap = h) (hq : Q (some (.int (nar t z))) h locs) (hc : cells ≤ kc) (hl : slots ≤ ks) : Comes p e below (EndsAt below s Q kc ks) (T.setTop (mkF m pc Ls (.int z :: rest))) :=
  Comes.fin X (fun q => by rw [hret] at q; cases q) hlk (fun _ hr => Jvm.RoadKit.retN X hx hret ht hd hr) eT hq hc hl
theorem Comes.retV (X : Stand p l e R s m args below meth c T locs cells slots) (hx : p.tables.exec = Jvm.exec) {pc : Nat} {Ls : Array Slot} {w : Value} {t : FieldType} {i : Instr} {rest : List Value} (hret : meth.sig.returnType = some t) (hn : narrow t w = w)
    (hi : (i = .ireturn ∧ (t = .int ∨ t = .boolean ∨ t = .byte ∨ t = .char ∨ t = .short) ∧ ∃ z, w = .int z) ∨ (i = .lreturn ∧ t = .long ∧ ∃ z, w = .long z) ∨ (i = .dreturn ∧ t = .double ∧ ∃ z, w = .double z) ∨ (i = .freturn ∧ t = .float ∧ ∃ z, w = .float z) ∨ (i = .areturn ∧ t.isReference = true ∧ w.isRef = true))
    (hlk : meth.locks = false) (hd : decode c.code pc = .ok (i, 1))
    (eT : T.heap = h) (hq : Q (some w) h locs) (hc : cells ≤ kc) (hl : slots ≤ ks) : Comes p e below (EndsAt below s Q kc ks) (T.setTop (mkF m pc Ls (w :: rest))) :=
  Comes.fin X (fun q => by rw [hret] at q; cases q) hlk (fun _ hr => retOut X hx hret hn hi hd hr) eT hq hc hl
theorem narrow_ref {t : FieldType} {w : Value} (h : w.isRef = true) : narrow t w = w := by rcases ref_cases h with rfl | ⟨y, rfl⟩ <;> cases t <;> rfl
theorem lremM {g : JFrame} {target : State} (X : Stand p l e R s m args below meth c T locs cells slots) (hx : p.tables.exec = Jvm.exec) (hg : g.method = m) {x y : Int64} {rest : List Value} (hd : decode c.code g.pc = .ok (.lrem, 1)) (hs : g.stack = .long y :: .long x :: rest) (hy : ¬ y = 0)
    (hr : Steps p.tables e below (T.setTop { g with pc := g.pc + 1, stack := .long (x % y) :: rest }) target) : Steps p.tables e below (T.setTop g) target := by
  have q : x - x / y * y = x % y := lrem_mod x y
  exact XT.lrem X.here hx hg hd hs hy (by rw [q]; exact hr)
theorem own_lrem (x y : Int64) (d : Int) (hy : y.toInt = d) : (0 ≤ x.toInt → (x % y).toInt = x.toInt % d) ∧ (x.toInt < 0 → (x % y).toInt = -((-x.toInt) % d)) := by rw [Int64.toInt_mod, hy]; exact tr _ _
theorem own_lremV (x y : Int64) : 0 ≤ x.toInt → 0 < y.toInt → 0 ≤ (x % y).toInt ∧ (x % y).toInt < y.toInt := by
  intro h1 h2
  rw [Int64.toInt_mod, Int.tmod_eq_emod_of_nonneg h1]
  exact ⟨Int.emod_nonneg _ (by omega), Int.emod_lt_of_pos _ h2⟩
theorem own_eqi {a0 : Array Value} {Z : State} {t : Term} {k : Int32} {idx : List Nat} (h : (Jvm.Cond.eq t (Term.int k)).value a0 Z none Z idx = some true) : t.eval a0 Z none idx Z = some (.int k) := by
  obtain ⟨x, y, e1, e2, k1, k2⟩ := cmp_v (Or.inl h)
  simp only [Term.eval, Option.some.injEq] at e2
  subst e2
  obtain ⟨z, rfl⟩ := k2
  simp [Cond.value, e1, Term.eval] at h
  rw [e1, h]
theorem own_selp {a0 : Array Value} {Z : State} {y : MethodName} {n : Nat} (wi : (Jvm.Cond.instantiable y.cls n).before a0 Z = true) (wp : (Jvm.Cond.privateMethod y).before a0 Z = true) (wm : (Jvm.Cond.instanceMethod y).before a0 Z = true) (hy : y.cls ≠ "java/lang/invoke/MethodHandle" ∧ y.cls ≠ "java/lang/invoke/VarHandle") : (Jvm.Cond.selects y.cls y y).before a0 Z = true := by
  obtain ⟨c, k, h1, h2, h3, h4, -⟩ := Cond.instantiable_spec wi
  exact Jvm.Stand.selects_self_of_private h1 h2 (by simp only [Bool.or_eq_false_iff] at h4; exact h4.1) (Cond.privateMethod_at wp) wm hy
theorem own_eqr {a0 : Array Value} {Z : State} {t u : Term} {y : Value} {idx : List Nat} (h : (Jvm.Cond.eq t u).value a0 Z none Z idx = some true) (hu : u.eval a0 Z none idx Z = some y) (hy : y.isRef = true) : t.eval a0 Z none idx Z = some y := by
  obtain ⟨x, y', e1, e2, k1, k2⟩ := cmp_v (Or.inl h)
  cases hu.symm.trans e2
  have hx : x.isRef = true := by
    rcases ref_cases hy with rfl | ⟨z, rfl⟩ <;> cases x <;> simp_all [Kin, Value.isRef]
  rw [e1, gotT (eq_R e1 hu hx hy) h]
theorem own_len {a0 : Array Value} {Z : State} {t : Term} {a : Addr} {cl : Cell} {ty : FieldType} {k : Int32} (ht : t.eval a0 Z none [] Z = some (.ref a)) (A : Arr Z Z.heap a cl ty) (h : (Jvm.Cond.eq (Term.length t) (Term.int k)).value a0 Z none Z [] = some true) : cl.slots.size < 2 ^ 31 ∧ cl.slots.size.toInt32 = k := by
  have e := own_eqi h
  have e2 := A.fin (Vm.Alike.refl _)
  simp [Term.eval, ht, e2] at e
  exact ⟨by omega, e.2⟩
theorem own_elem {a0 : Array Value} {Z : State} {t u : Term} {a : Addr} {cl : Cell} {j : Int32} {y : Value} (ht : t.eval a0 Z none [] Z = some (.ref a)) (hc : Z.heap[a]? = some cl) (h : (Jvm.Cond.eq (Term.elem t (Term.int j)) u).value a0 Z none Z [] = some true) (hu : u.eval a0 Z none [] Z = some y) (hy : y.isRef = true) : cl.slots[j.toNatClampNeg]? = some y := (elem_in (own_eqr h hu hy) ht (by rfl) hc).2
theorem own_fldi {a0 : Array Value} {Z : State} {t : Term} {k : Int32} {a : Addr} {C n d : String} (ht : t.eval a0 Z none [] Z = some (.ref a)) (h : (Jvm.Cond.eq (Term.field t C n d) (Term.int k)).value a0 Z none Z [] = some true) : Fld Z Z.heap a C n d (.int k) := Fld.start ((fld_at ht).symm.trans (own_eqi h))
end Own
theorem d1_0 : decode prog_59_method_4_code 0 = .ok (.iload_n 0, 1) := by decide +kernel
theorem d1_1 : decode prog_59_method_4_code 1 = .ok (.getstatic 88, 3) := by decide +kernel
theorem d1_4 : decode prog_59_method_4_code 4 = .ok (.arraylength, 1) := by decide +kernel
theorem d1_5 : decode prog_59_method_4_code 5 = .ok (.if_icmp .ge 11, 3) := by decide +kernel
theorem d1_8 : decode prog_59_method_4_code 8 = .ok (.getstatic 88, 3) := by decide +kernel
theorem d1_11 : decode prog_59_method_4_code 11 = .ok (.iload_n 0, 1) := by decide +kernel
theorem d1_12 : decode prog_59_method_4_code 12 = .ok (.aaload, 1) := by decide +kernel
theorem d1_13 : decode prog_59_method_4_code 13 = .ok (.goto 4, 3) := by decide +kernel
theorem d1_17 : decode prog_59_method_4_code 17 = .ok (.areturn, 1) := by decide +kernel
theorem d2_0 : decode prog_59_method_6_code 0 = .ok (.aload_n 0, 1) := by decide +kernel
theorem d2_1 : decode prog_59_method_6_code 1 = .ok (.getstatic 13, 3) := by decide +kernel
theorem d2_4 : decode prog_59_method_6_code 4 = .ok (.if_acmp .eq 10, 3) := by decide +kernel
theorem d2_14 : decode prog_59_method_6_code 14 = .ok (.iconst 1, 1) := by decide +kernel
theorem d2_15 : decode prog_59_method_6_code 15 = .ok (.goto 4, 3) := by decide +kernel
theorem d2_19 : decode prog_59_method_6_code 19 = .ok (.ireturn, 1) := by decide +kernel
theorem d2_7 : decode prog_59_method_6_code 7 = .ok (.aload_n 0, 1) := by decide +kernel
theorem d2_8 : decode prog_59_method_6_code 8 = .ok (.getstatic 16, 3) := by decide +kernel
theorem d2_11 : decode prog_59_method_6_code 11 = .ok (.if_acmp .ne 7, 3) := by decide +kernel
theorem d2_18 : decode prog_59_method_6_code 18 = .ok (.iconst 0, 1) := by decide +kernel
theorem pd_0 : parseMethodDescriptor "(I)Lcom/example/typeflow/typeflow/classfile/ConstantKind;" = some ⟨[.int], some (.object "com/example/typeflow/typeflow/classfile/ConstantKind")⟩ := by decide +kernel
theorem pd_1 : parseMethodDescriptor "()Z" = some ⟨[], some .boolean⟩ := by decide +kernel
theorem pn_1 : plainName "com/example/typeflow/typeflow/classfile/ConstantKind" = true := by first | (simp [plainName, overriddenIn]; done) | decide +kernel
theorem pn_2 : plainName "com/example/typeflow/typeflow/classfile/ConstantKind" = true := by first | (simp [plainName, overriddenIn]; done) | decide +kernel
theorem pn_0 : plainName "com/example/typeflow/typeflow/classfile/ConstantKindIsTwoSlotsPinLaw" = true := by first | (simp [plainName, overriddenIn]; done) | decide +kernel
theorem ef_rm1_0 (m : MethodId)  : entryFrame m #[(.int (0 : Int32))] 1 = mkF m 0 #[.val (.int (0 : Int32))] [] := by first | (simp [entryFrame, mkF, argsToLocals, Value.category]; done) | rfl
theorem ef_rm1_1 (m : MethodId)  : entryFrame m #[(.int (1 : Int32))] 1 = mkF m 0 #[.val (.int (1 : Int32))] [] := by first | (simp [entryFrame, mkF, argsToLocals, Value.category]; done) | rfl
theorem ef_rm1_2 (m : MethodId)  : entryFrame m #[(.int (2 : Int32))] 1 = mkF m 0 #[.val (.int (2 : Int32))] [] := by first | (simp [entryFrame, mkF, argsToLocals, Value.category]; done) | rfl
theorem ef_rm1_3 (m : MethodId)  : entryFrame m #[(.int (3 : Int32))] 1 = mkF m 0 #[.val (.int (3 : Int32))] [] := by first | (simp [entryFrame, mkF, argsToLocals, Value.category]; done) | rfl
theorem ef_rm1_4 (m : MethodId)  : entryFrame m #[(.int (4 : Int32))] 1 = mkF m 0 #[.val (.int (4 : Int32))] [] := by first | (simp [entryFrame, mkF, argsToLocals, Value.category]; done) | rfl
theorem ef_rm1_5 (m : MethodId)  : entryFrame m #[(.int (5 : Int32))] 1 = mkF m 0 #[.val (.int (5 : Int32))] [] := by first | (simp [entryFrame, mkF, argsToLocals, Value.category]; done) | rfl
theorem ef_rm1_6 (m : MethodId)  : entryFrame m #[(.int (6 : Int32))] 1 = mkF m 0 #[.val (.int (6 : Int32))] [] := by first | (simp [entryFrame, mkF, argsToLocals, Value.category]; done) | rfl
theorem ef_rm1_7 (m : MethodId)  : entryFrame m #[(.int (7 : Int32))] 1 = mkF m 0 #[.val (.int (7 : Int32))] [] := by first | (simp [entryFrame, mkF, argsToLocals, Value.category]; done) | rfl
theorem ef_rm1_8 (m : MethodId)  : entryFrame m #[(.int (8 : Int32))] 1 = mkF m 0 #[.val (.int (8 : Int32))] [] := by first | (simp [entryFrame, mkF, argsToLocals, Value.category]; done) | rfl
theorem ef_rm1_9 (m : MethodId)  : entryFrame m #[(.int (9 : Int32))] 1 = mkF m 0 #[.val (.int (9 : Int32))] [] := by first | (simp [entryFrame, mkF, argsToLocals, Value.category]; done) | rfl
theorem ef_rm1_10 (m : MethodId)  : entryFrame m #[(.int (10 : Int32))] 1 = mkF m 0 #[.val (.int (10 : Int32))] [] := by first | (simp [entryFrame, mkF, argsToLocals, Value.category]; done) | rfl
theorem ef_rm1_11 (m : MethodId)  : entryFrame m #[(.int (11 : Int32))] 1 = mkF m 0 #[.val (.int (11 : Int32))] [] := by first | (simp [entryFrame, mkF, argsToLocals, Value.category]; done) | rfl
theorem ef_rm1_12 (m : MethodId)  : entryFrame m #[(.int (12 : Int32))] 1 = mkF m 0 #[.val (.int (12 : Int32))] [] := by first | (simp [entryFrame, mkF, argsToLocals, Value.category]; done) | rfl
theorem ef_rm1_13 (m : MethodId)  : entryFrame m #[(.int (13 : Int32))] 1 = mkF m 0 #[.val (.int (13 : Int32))] [] := by first | (simp [entryFrame, mkF, argsToLocals, Value.category]; done) | rfl
theorem ef_rm1_14 (m : MethodId)  : entryFrame m #[(.int (14 : Int32))] 1 = mkF m 0 #[.val (.int (14 : Int32))] [] := by first | (simp [entryFrame, mkF, argsToLocals, Value.category]; done) | rfl
theorem ef_rm1_15 (m : MethodId)  : entryFrame m #[(.int (15 : Int32))] 1 = mkF m 0 #[.val (.int (15 : Int32))] [] := by first | (simp [entryFrame, mkF, argsToLocals, Value.category]; done) | rfl
theorem ef_rm1_16 (m : MethodId)  : entryFrame m #[(.int (16 : Int32))] 1 = mkF m 0 #[.val (.int (16 : Int32))] [] := by first | (simp [entryFrame, mkF, argsToLocals, Value.category]; done) | rfl
theorem ef_rm1_17 (m : MethodId)  : entryFrame m #[(.int (17 : Int32))] 1 = mkF m 0 #[.val (.int (17 : Int32))] [] := by first | (simp [entryFrame, mkF, argsToLocals, Value.category]; done) | rfl
theorem ef_rm1_18 (m : MethodId)  : entryFrame m #[(.int (18 : Int32))] 1 = mkF m 0 #[.val (.int (18 : Int32))] [] := by first | (simp [entryFrame, mkF, argsToLocals, Value.category]; done) | rfl
theorem ef_rm1_19 (m : MethodId)  : entryFrame m #[(.int (19 : Int32))] 1 = mkF m 0 #[.val (.int (19 : Int32))] [] := by first | (simp [entryFrame, mkF, argsToLocals, Value.category]; done) | rfl
theorem ef_rm1_20 (m : MethodId)  : entryFrame m #[(.int (20 : Int32))] 1 = mkF m 0 #[.val (.int (20 : Int32))] [] := by first | (simp [entryFrame, mkF, argsToLocals, Value.category]; done) | rfl
theorem ef_rmL (m : MethodId) (x0 : Addr) : entryFrame m #[(.ref x0)] 1 = mkF m 0 #[.val (.ref x0)] [] := by first | (simp [entryFrame, mkF, argsToLocals, Value.category]; done) | rfl
theorem ef_rmD (m : MethodId) (x0 : Addr) : entryFrame m #[(.ref x0)] 1 = mkF m 0 #[.val (.ref x0)] [] := by first | (simp [entryFrame, mkF, argsToLocals, Value.category]; done) | rfl
theorem ef_rmO (m : MethodId) (x0 : Addr) : entryFrame m #[(.ref x0)] 1 = mkF m 0 #[.val (.ref x0)] [] := by first | (simp [entryFrame, mkF, argsToLocals, Value.category]; done) | rfl
theorem ef_rm0 (m : MethodId) (x0 : Int32) : entryFrame m #[(.int x0)] maxLocals = mkF m 0 #[.val (.int x0), .unset, .unset] [] := by first | (simp [entryFrame, mkF, argsToLocals, Value.category, maxLocals]; done) | rfl
def Q_rm1_0 (Z : State) (arr : Addr) (kk : ClassId) (t1 : Addr) (t3 : Addr) (t4 : Addr) (t5 : Addr) (t6 : Addr) (t7 : Addr) (t8 : Addr) (t9 : Addr) (t10 : Addr) (t11 : Addr) (t12 : Addr) (t15 : Addr) (t16 : Addr) (t17 : Addr) (t18 : Addr) (t19 : Addr) (t20 : Addr) (h0 : Heap) (n0 : Nat) (v : Option Value) (h : Heap) (L : List Loc) : Prop := (v = some .null) ∧ (Fr n0 L) ∧ (h = h0)
set_option maxRecDepth 65536 in
set_option maxHeartbeats 40000000 in
theorem rm1_0 (l : Launch) (Z : State) (a0 : Array Value) (hw : ∀ d ∈ tables_1, d.before a0 Z = true) (ws : List Jvm.Cond) (arr : Addr) (kk : ClassId) (t1 : Addr) (t3 : Addr) (t4 : Addr) (t5 : Addr) (t6 : Addr) (t7 : Addr) (t8 : Addr) (t9 : Addr) (t10 : Addr) (t11 : Addr) (t12 : Addr) (t15 : Addr) (t16 : Addr) (t17 : Addr) (t18 : Addr) (t19 : Addr) (t20 : Addr) (h0 : Heap) (n0 : Nat) (Z0 : n0 ≤ h0.size) (G0 : Sta Z Z.heap "com/example/typeflow/typeflow/classfile/ConstantKind" "BY_TAG" "[Lcom/example/typeflow/typeflow/classfile/ConstantKind;" (.ref arr)) (G1 : Old Z n0 h0) (G2 : Arv Z h0 arr kk (.object "com/example/typeflow/typeflow/classfile/ConstantKind") (21 : Int32) [.null, (.ref t1), .null, (.ref t3), (.ref t4), (.ref t5), (.ref t6), (.ref t7), (.ref t8), (.ref t9), (.ref t10), (.ref t11), (.ref t12), .null, .null, (.ref t15), (.ref t16), (.ref t17), (.ref t18), (.ref t19), (.ref t20)] .null) :
    MetFree l (⟨"com/example/typeflow/typeflow/classfile/ConstantKind", "ofTag", "(I)Lcom/example/typeflow/typeflow/classfile/ConstantKind;"⟩ : MethodName) (head1 (Jvm.Cond.code (⟨"com/example/typeflow/typeflow/classfile/ConstantKind", "ofTag", "(I)Lcom/example/typeflow/typeflow/classfile/ConstantKind;"⟩ : MethodName) prog_59_method_4_code 1 (some (.object "com/example/typeflow/typeflow/classfile/ConstantKind")) :: ws) ({ frames := 0, cells := 0, slots := 0, locals := 0 } : Room)) (fun a U => a = #[(.int (0 : Int32))] ∧ Z.Warmed39 U.vm ∧ U.heap = h0) (fun _ _ _ _ _ => True) (fun _ U o U' => ∃ v L, o = .returned v ∧ Q_rm1_0 Z arr kk t1 t3 t4 t5 t6 t7 t8 t9 t10 t11 t12 t15 t16 t17 t18 t19 t20 h0 n0 v U'.heap L ∧ FrameEnd U o U' L ({ frames := 0, cells := 0, slots := 0, locals := 0 } : Room).cells ({ frames := 0, cells := 0, slots := 0, locals := 0 } : Room).slots) := by
  refine MetFree.of_bodySF (plainFor_of_name pn_1) hisR ?_
  intro p e s m args below meth c s₁ Bd hml0 hP hK
  obtain ⟨rfl, hZ, hh⟩ := hP
  have hx := Bd.exec
  have hby := Bd.bytes
  have hml : c.maxLocals = 1 := hml0
  have hown : s.vm.findClass "com/example/typeflow/typeflow/classfile/ConstantKind" = some m.cls := findClass_of_methodNamed Bd.named
  have hnm := (name_of_methodNamed Bd.named Bd.method).1
  have hlk : meth.locks = false := Bd.notSynchronized
  have X0 : Stand p l e ({ frames := 0, cells := 0, slots := 0, locals := 0 } : Room) s m #[(.int (0 : Int32))] below meth c s₁ [] 0 0 := Stand.of_body Bd
  have e0 : s₁.heap = h0 := by rw [← hh, Bd.state]; rfl
  have N0 := Fr.nil n0
  refine Comes.out (Q := Q_rm1_0 Z arr kk t1 t3 t4 t5 t6 t7 t8 t9 t10 t11 t12 t15 t16 t17 t18 t19 t20 h0 n0) (kc := ({ frames := 0, cells := 0, slots := 0, locals := 0 } : Room).cells) (ks := ({ frames := 0, cells := 0, slots := 0, locals := 0 } : Room).slots) ?_
  refine Comes.cast (ef_rm1_0 m ) ?_
  have lt_arr : arr < h0.size := G2.lt
  show Comes p e below _ (s₁.setTop (mkF m 0 #[.val (.int (0 : Int32))] []))
  refine Comes.st (fun t k => XS.iloadN X0.here hx rfl (hb hby d1_0) rfl k) ?_
  show Comes p e below _ (s₁.setTop (mkF m 1 #[.val (.int (0 : Int32))] [(.int (0 : Int32))]))
  obtain ⟨T1, X1, e1, st1⟩ := getS2 X0 hx hZ hown (host := "") (Or.inl (hw _ (List.mem_of_getElem? (i := 5) rfl))) Via.refl e0 (G0.ext G1.2) (g := (mkF m 1 #[.val (.int (0 : Int32))] [(.int (0 : Int32))])) rfl (hb hby d1_1)
  refine Comes.st st1 ?_
  show Comes p e below _ (T1.setTop (mkF m 4 #[.val (.int (0 : Int32))] [(.ref arr), (.int (0 : Int32))]))
  obtain ⟨cl2, Ar2, -, S2, Ng2, -, -⟩ := id G2
  refine Comes.st (fun t k => X1.arraylength hx (by rw [e1]; exact Ar2.1) (State.isArrayOf_alike hZ.alike Ar2.2.1) (g := (mkF m 4 #[.val (.int (0 : Int32))] [(.ref arr), (.int (0 : Int32))])) rfl rfl (hb hby d1_4) _ k) ?_
  rw [len_of S2 Ng2]
  show Comes p e below _ (T1.setTop (mkF m 5 #[.val (.int (0 : Int32))] [(.int (21 : Int32)), (.int (0 : Int32))]))
  have hc5_3 : (0 : Int32) < (21 : Int32) := by decide
  refine Comes.st (fun t k => XS.icmpNo X1.here hx rfl (hb hby d1_5) rfl (tlt hc5_3).2.1 k) ?_
  show Comes p e below _ (T1.setTop (mkF m 8 #[.val (.int (0 : Int32))] []))
  obtain ⟨T4, X4, e4, st4⟩ := getS2 X1 hx hZ hown (host := "") (Or.inl (hw _ (List.mem_of_getElem? (i := 5) rfl))) Via.refl e1 (G0.ext G1.2) (g := (mkF m 8 #[.val (.int (0 : Int32))] [])) rfl (hb hby d1_8)
  refine Comes.st st4 ?_
  show Comes p e below _ (T4.setTop (mkF m 11 #[.val (.int (0 : Int32))] [(.ref arr)]))
  refine Comes.st (fun t k => XS.iloadN X4.here hx rfl (hb hby d1_11) rfl k) ?_
  show Comes p e below _ (T4.setTop (mkF m 12 #[.val (.int (0 : Int32))] [(.int (0 : Int32)), (.ref arr)]))
  obtain ⟨cl5, Ar5, q5, S5, Ng5, H5, Gf5⟩ := id G2
  have hin5 : ¬ ((0 : Int32) < 0 ∨ cl5.slots.size ≤ ((0 : Int32)).toNatClampNeg) := inb_of S5 ⟨by decide, by decide⟩
  refine Comes.st (fun t k => X4.aaload hx (j := (0 : Int32)) (v := .null) (by rw [e4]; exact Ar5.1) (State.isArrayOf_alike hZ.alike Ar5.2.1) rfl Ar5.2.2 hin5 (Has.at H5 hin5 rfl) (g := (mkF m 12 #[.val (.int (0 : Int32))] [(.int (0 : Int32)), (.ref arr)])) rfl rfl (hb hby d1_12) _ (XS.goto X4.here hx rfl (pc0 := 13) (pc' := 17) rfl (hb hby d1_13) (by decide) (by decide) k)) ?_
  show Comes p e below _ (T4.setTop (mkF m 17 #[.val (.int (0 : Int32))] [.null]))
  exact Comes.retV X4 hx Bd.returns (narrow_ref rfl) (Or.inr (Or.inr (Or.inr (Or.inr ⟨rfl, rfl, rfl⟩)))) hlk (hb hby d1_17) e4 ⟨rfl, N0, rfl⟩ (by decide) (by decide)
def Q_rm1_1 (Z : State) (arr : Addr) (kk : ClassId) (t1 : Addr) (t3 : Addr) (t4 : Addr) (t5 : Addr) (t6 : Addr) (t7 : Addr) (t8 : Addr) (t9 : Addr) (t10 : Addr) (t11 : Addr) (t12 : Addr) (t15 : Addr) (t16 : Addr) (t17 : Addr) (t18 : Addr) (t19 : Addr) (t20 : Addr) (h0 : Heap) (n0 : Nat) (v : Option Value) (h : Heap) (L : List Loc) : Prop := (v = some (.ref t1)) ∧ (Fr n0 L) ∧ (h = h0)
set_option maxRecDepth 65536 in
set_option maxHeartbeats 40000000 in
theorem rm1_1 (l : Launch) (Z : State) (a0 : Array Value) (hw : ∀ d ∈ tables_1, d.before a0 Z = true) (ws : List Jvm.Cond) (arr : Addr) (kk : ClassId) (t1 : Addr) (t3 : Addr) (t4 : Addr) (t5 : Addr) (t6 : Addr) (t7 : Addr) (t8 : Addr) (t9 : Addr) (t10 : Addr) (t11 : Addr) (t12 : Addr) (t15 : Addr) (t16 : Addr) (t17 : Addr) (t18 : Addr) (t19 : Addr) (t20 : Addr) (h0 : Heap) (n0 : Nat) (Z0 : n0 ≤ h0.size) (G0 : Sta Z Z.heap "com/example/typeflow/typeflow/classfile/ConstantKind" "BY_TAG" "[Lcom/example/typeflow/typeflow/classfile/ConstantKind;" (.ref arr)) (G1 : Old Z n0 h0) (G2 : Arv Z h0 arr kk (.object "com/example/typeflow/typeflow/classfile/ConstantKind") (21 : Int32) [.null, (.ref t1), .null, (.ref t3), (.ref t4), (.ref t5), (.ref t6), (.ref t7), (.ref t8), (.ref t9), (.ref t10), (.ref t11), (.ref t12), .null, .null, (.ref t15), (.ref t16), (.ref t17), (.ref t18), (.ref t19), (.ref t20)] .null) :
    MetFree l (⟨"com/example/typeflow/typeflow/classfile/ConstantKind", "ofTag", "(I)Lcom/example/typeflow/typeflow/classfile/ConstantKind;"⟩ : MethodName) (head1 (Jvm.Cond.code (⟨"com/example/typeflow/typeflow/classfile/ConstantKind", "ofTag", "(I)Lcom/example/typeflow/typeflow/classfile/ConstantKind;"⟩ : MethodName) prog_59_method_4_code 1 (some (.object "com/example/typeflow/typeflow/classfile/ConstantKind")) :: ws) ({ frames := 0, cells := 0, slots := 0, locals := 0 } : Room)) (fun a U => a = #[(.int (1 : Int32))] ∧ Z.Warmed39 U.vm ∧ U.heap = h0) (fun _ _ _ _ _ => True) (fun _ U o U' => ∃ v L, o = .returned v ∧ Q_rm1_1 Z arr kk t1 t3 t4 t5 t6 t7 t8 t9 t10 t11 t12 t15 t16 t17 t18 t19 t20 h0 n0 v U'.heap L ∧ FrameEnd U o U' L ({ frames := 0, cells := 0, slots := 0, locals := 0 } : Room).cells ({ frames := 0, cells := 0, slots := 0, locals := 0 } : Room).slots) := by
  refine MetFree.of_bodySF (plainFor_of_name pn_1) hisR ?_
  intro p e s m args below meth c s₁ Bd hml0 hP hK
  obtain ⟨rfl, hZ, hh⟩ := hP
  have hx := Bd.exec
  have hby := Bd.bytes
  have hml : c.maxLocals = 1 := hml0
  have hown : s.vm.findClass "com/example/typeflow/typeflow/classfile/ConstantKind" = some m.cls := findClass_of_methodNamed Bd.named
  have hnm := (name_of_methodNamed Bd.named Bd.method).1
  have hlk : meth.locks = false := Bd.notSynchronized
  have X0 : Stand p l e ({ frames := 0, cells := 0, slots := 0, locals := 0 } : Room) s m #[(.int (1 : Int32))] below meth c s₁ [] 0 0 := Stand.of_body Bd
  have e0 : s₁.heap = h0 := by rw [← hh, Bd.state]; rfl
  have N0 := Fr.nil n0
  refine Comes.out (Q := Q_rm1_1 Z arr kk t1 t3 t4 t5 t6 t7 t8 t9 t10 t11 t12 t15 t16 t17 t18 t19 t20 h0 n0) (kc := ({ frames := 0, cells := 0, slots := 0, locals := 0 } : Room).cells) (ks := ({ frames := 0, cells := 0, slots := 0, locals := 0 } : Room).slots) ?_
  refine Comes.cast (ef_rm1_1 m ) ?_
  have lt_arr : arr < h0.size := G2.lt
  show Comes p e below _ (s₁.setTop (mkF m 0 #[.val (.int (1 : Int32))] []))
  refine Comes.st (fun t k => XS.iloadN X0.here hx rfl (hb hby d1_0) rfl k) ?_
  show Comes p e below _ (s₁.setTop (mkF m 1 #[.val (.int (1 : Int32))] [(.int (1 : Int32))]))
  obtain ⟨T1, X1, e1, st1⟩ := getS2 X0 hx hZ hown (host := "") (Or.inl (hw _ (List.mem_of_getElem? (i := 5) rfl))) Via.refl e0 (G0.ext G1.2) (g := (mkF m 1 #[.val (.int (1 : Int32))] [(.int (1 : Int32))])) rfl (hb hby d1_1)
  refine Comes.st st1 ?_
  show Comes p e below _ (T1.setTop (mkF m 4 #[.val (.int (1 : Int32))] [(.ref arr), (.int (1 : Int32))]))
  obtain ⟨cl2, Ar2, -, S2, Ng2, -, -⟩ := id G2
  refine Comes.st (fun t k => X1.arraylength hx (by rw [e1]; exact Ar2.1) (State.isArrayOf_alike hZ.alike Ar2.2.1) (g := (mkF m 4 #[.val (.int (1 : Int32))] [(.ref arr), (.int (1 : Int32))])) rfl rfl (hb hby d1_4) _ k) ?_
  rw [len_of S2 Ng2]
  show Comes p e below _ (T1.setTop (mkF m 5 #[.val (.int (1 : Int32))] [(.int (21 : Int32)), (.int (1 : Int32))]))
  have hc5_3 : (1 : Int32) < (21 : Int32) := by decide
  refine Comes.st (fun t k => XS.icmpNo X1.here hx rfl (hb hby d1_5) rfl (tlt hc5_3).2.1 k) ?_
  show Comes p e below _ (T1.setTop (mkF m 8 #[.val (.int (1 : Int32))] []))
  obtain ⟨T4, X4, e4, st4⟩ := getS2 X1 hx hZ hown (host := "") (Or.inl (hw _ (List.mem_of_getElem? (i := 5) rfl))) Via.refl e1 (G0.ext G1.2) (g := (mkF m 8 #[.val (.int (1 : Int32))] [])) rfl (hb hby d1_8)
  refine Comes.st st4 ?_
  show Comes p e below _ (T4.setTop (mkF m 11 #[.val (.int (1 : Int32))] [(.ref arr)]))
  refine Comes.st (fun t k => XS.iloadN X4.here hx rfl (hb hby d1_11) rfl k) ?_
  show Comes p e below _ (T4.setTop (mkF m 12 #[.val (.int (1 : Int32))] [(.int (1 : Int32)), (.ref arr)]))
  obtain ⟨cl5, Ar5, q5, S5, Ng5, H5, Gf5⟩ := id G2
  have hin5 : ¬ ((1 : Int32) < 0 ∨ cl5.slots.size ≤ ((1 : Int32)).toNatClampNeg) := inb_of S5 ⟨by decide, by decide⟩
  refine Comes.st (fun t k => X4.aaload hx (j := (1 : Int32)) (v := (.ref t1)) (by rw [e4]; exact Ar5.1) (State.isArrayOf_alike hZ.alike Ar5.2.1) rfl Ar5.2.2 hin5 (Has.at H5 hin5 rfl) (g := (mkF m 12 #[.val (.int (1 : Int32))] [(.int (1 : Int32)), (.ref arr)])) rfl rfl (hb hby d1_12) _ (XS.goto X4.here hx rfl (pc0 := 13) (pc' := 17) rfl (hb hby d1_13) (by decide) (by decide) k)) ?_
  show Comes p e below _ (T4.setTop (mkF m 17 #[.val (.int (1 : Int32))] [(.ref t1)]))
  exact Comes.retV X4 hx Bd.returns (narrow_ref rfl) (Or.inr (Or.inr (Or.inr (Or.inr ⟨rfl, rfl, rfl⟩)))) hlk (hb hby d1_17) e4 ⟨rfl, N0, rfl⟩ (by decide) (by decide)
def Q_rm1_2 (Z : State) (arr : Addr) (kk : ClassId) (t1 : Addr) (t3 : Addr) (t4 : Addr) (t5 : Addr) (t6 : Addr) (t7 : Addr) (t8 : Addr) (t9 : Addr) (t10 : Addr) (t11 : Addr) (t12 : Addr) (t15 : Addr) (t16 : Addr) (t17 : Addr) (t18 : Addr) (t19 : Addr) (t20 : Addr) (h0 : Heap) (n0 : Nat) (v : Option Value) (h : Heap) (L : List Loc) : Prop := (v = some .null) ∧ (Fr n0 L) ∧ (h = h0)
set_option maxRecDepth 65536 in
set_option maxHeartbeats 40000000 in
theorem rm1_2 (l : Launch) (Z : State) (a0 : Array Value) (hw : ∀ d ∈ tables_1, d.before a0 Z = true) (ws : List Jvm.Cond) (arr : Addr) (kk : ClassId) (t1 : Addr) (t3 : Addr) (t4 : Addr) (t5 : Addr) (t6 : Addr) (t7 : Addr) (t8 : Addr) (t9 : Addr) (t10 : Addr) (t11 : Addr) (t12 : Addr) (t15 : Addr) (t16 : Addr) (t17 : Addr) (t18 : Addr) (t19 : Addr) (t20 : Addr) (h0 : Heap) (n0 : Nat) (Z0 : n0 ≤ h0.size) (G0 : Sta Z Z.heap "com/example/typeflow/typeflow/classfile/ConstantKind" "BY_TAG" "[Lcom/example/typeflow/typeflow/classfile/ConstantKind;" (.ref arr)) (G1 : Old Z n0 h0) (G2 : Arv Z h0 arr kk (.object "com/example/typeflow/typeflow/classfile/ConstantKind") (21 : Int32) [.null, (.ref t1), .null, (.ref t3), (.ref t4), (.ref t5), (.ref t6), (.ref t7), (.ref t8), (.ref t9), (.ref t10), (.ref t11), (.ref t12), .null, .null, (.ref t15), (.ref t16), (.ref t17), (.ref t18), (.ref t19), (.ref t20)] .null) :
    MetFree l (⟨"com/example/typeflow/typeflow/classfile/ConstantKind", "ofTag", "(I)Lcom/example/typeflow/typeflow/classfile/ConstantKind;"⟩ : MethodName) (head1 (Jvm.Cond.code (⟨"com/example/typeflow/typeflow/classfile/ConstantKind", "ofTag", "(I)Lcom/example/typeflow/typeflow/classfile/ConstantKind;"⟩ : MethodName) prog_59_method_4_code 1 (some (.object "com/example/typeflow/typeflow/classfile/ConstantKind")) :: ws) ({ frames := 0, cells := 0, slots := 0, locals := 0 } : Room)) (fun a U => a = #[(.int (2 : Int32))] ∧ Z.Warmed39 U.vm ∧ U.heap = h0) (fun _ _ _ _ _ => True) (fun _ U o U' => ∃ v L, o = .returned v ∧ Q_rm1_2 Z arr kk t1 t3 t4 t5 t6 t7 t8 t9 t10 t11 t12 t15 t16 t17 t18 t19 t20 h0 n0 v U'.heap L ∧ FrameEnd U o U' L ({ frames := 0, cells := 0, slots := 0, locals := 0 } : Room).cells ({ frames := 0, cells := 0, slots := 0, locals := 0 } : Room).slots) := by
  refine MetFree.of_bodySF (plainFor_of_name pn_1) hisR ?_
  intro p e s m args below meth c s₁ Bd hml0 hP hK
  obtain ⟨rfl, hZ, hh⟩ := hP
  have hx := Bd.exec
  have hby := Bd.bytes
  have hml : c.maxLocals = 1 := hml0
  have hown : s.vm.findClass "com/example/typeflow/typeflow/classfile/ConstantKind" = some m.cls := findClass_of_methodNamed Bd.named
  have hnm := (name_of_methodNamed Bd.named Bd.method).1
  have hlk : meth.locks = false := Bd.notSynchronized
  have X0 : Stand p l e ({ frames := 0, cells := 0, slots := 0, locals := 0 } : Room) s m #[(.int (2 : Int32))] below meth c s₁ [] 0 0 := Stand.of_body Bd
  have e0 : s₁.heap = h0 := by rw [← hh, Bd.state]; rfl
  have N0 := Fr.nil n0
  refine Comes.out (Q := Q_rm1_2 Z arr kk t1 t3 t4 t5 t6 t7 t8 t9 t10 t11 t12 t15 t16 t17 t18 t19 t20 h0 n0) (kc := ({ frames := 0, cells := 0, slots := 0, locals := 0 } : Room).cells) (ks := ({ frames := 0, cells := 0, slots := 0, locals := 0 } : Room).slots) ?_
  refine Comes.cast (ef_rm1_2 m ) ?_
  have lt_arr : arr < h0.size := G2.lt
  show Comes p e below _ (s₁.setTop (mkF m 0 #[.val (.int (2 : Int32))] []))
  refine Comes.st (fun t k => XS.iloadN X0.here hx rfl (hb hby d1_0) rfl k) ?_
  show Comes p e below _ (s₁.setTop (mkF m 1 #[.val (.int (2 : Int32))] [(.int (2 : Int32))]))
  obtain ⟨T1, X1, e1, st1⟩ := getS2 X0 hx hZ hown (host := "") (Or.inl (hw _ (List.mem_of_getElem? (i := 5) rfl))) Via.refl e0 (G0.ext G1.2) (g := (mkF m 1 #[.val (.int (2 : Int32))] [(.int (2 : Int32))])) rfl (hb hby d1_1)
  refine Comes.st st1 ?_
  show Comes p e below _ (T1.setTop (mkF m 4 #[.val (.int (2 : Int32))] [(.ref arr), (.int (2 : Int32))]))
  obtain ⟨cl2, Ar2, -, S2, Ng2, -, -⟩ := id G2
  refine Comes.st (fun t k => X1.arraylength hx (by rw [e1]; exact Ar2.1) (State.isArrayOf_alike hZ.alike Ar2.2.1) (g := (mkF m 4 #[.val (.int (2 : Int32))] [(.ref arr), (.int (2 : Int32))])) rfl rfl (hb hby d1_4) _ k) ?_
  rw [len_of S2 Ng2]
  show Comes p e below _ (T1.setTop (mkF m 5 #[.val (.int (2 : Int32))] [(.int (21 : Int32)), (.int (2 : Int32))]))
  have hc5_3 : (2 : Int32) < (21 : Int32) := by decide
  refine Comes.st (fun t k => XS.icmpNo X1.here hx rfl (hb hby d1_5) rfl (tlt hc5_3).2.1 k) ?_
  show Comes p e below _ (T1.setTop (mkF m 8 #[.val (.int (2 : Int32))] []))
  obtain ⟨T4, X4, e4, st4⟩ := getS2 X1 hx hZ hown (host := "") (Or.inl (hw _ (List.mem_of_getElem? (i := 5) rfl))) Via.refl e1 (G0.ext G1.2) (g := (mkF m 8 #[.val (.int (2 : Int32))] [])) rfl (hb hby d1_8)
  refine Comes.st st4 ?_
  show Comes p e below _ (T4.setTop (mkF m 11 #[.val (.int (2 : Int32))] [(.ref arr)]))
  refine Comes.st (fun t k => XS.iloadN X4.here hx rfl (hb hby d1_11) rfl k) ?_
  show Comes p e below _ (T4.setTop (mkF m 12 #[.val (.int (2 : Int32))] [(.int (2 : Int32)), (.ref arr)]))
  obtain ⟨cl5, Ar5, q5, S5, Ng5, H5, Gf5⟩ := id G2
  have hin5 : ¬ ((2 : Int32) < 0 ∨ cl5.slots.size ≤ ((2 : Int32)).toNatClampNeg) := inb_of S5 ⟨by decide, by decide⟩
  refine Comes.st (fun t k => X4.aaload hx (j := (2 : Int32)) (v := .null) (by rw [e4]; exact Ar5.1) (State.isArrayOf_alike hZ.alike Ar5.2.1) rfl Ar5.2.2 hin5 (Has.at H5 hin5 rfl) (g := (mkF m 12 #[.val (.int (2 : Int32))] [(.int (2 : Int32)), (.ref arr)])) rfl rfl (hb hby d1_12) _ (XS.goto X4.here hx rfl (pc0 := 13) (pc' := 17) rfl (hb hby d1_13) (by decide) (by decide) k)) ?_
  show Comes p e below _ (T4.setTop (mkF m 17 #[.val (.int (2 : Int32))] [.null]))
  exact Comes.retV X4 hx Bd.returns (narrow_ref rfl) (Or.inr (Or.inr (Or.inr (Or.inr ⟨rfl, rfl, rfl⟩)))) hlk (hb hby d1_17) e4 ⟨rfl, N0, rfl⟩ (by decide) (by decide)
def Q_rm1_3 (Z : State) (arr : Addr) (kk : ClassId) (t1 : Addr) (t3 : Addr) (t4 : Addr) (t5 : Addr) (t6 : Addr) (t7 : Addr) (t8 : Addr) (t9 : Addr) (t10 : Addr) (t11 : Addr) (t12 : Addr) (t15 : Addr) (t16 : Addr) (t17 : Addr) (t18 : Addr) (t19 : Addr) (t20 : Addr) (h0 : Heap) (n0 : Nat) (v : Option Value) (h : Heap) (L : List Loc) : Prop := (v = some (.ref t3)) ∧ (Fr n0 L) ∧ (h = h0)
set_option maxRecDepth 65536 in
set_option maxHeartbeats 40000000 in
theorem rm1_3 (l : Launch) (Z : State) (a0 : Array Value) (hw : ∀ d ∈ tables_1, d.before a0 Z = true) (ws : List Jvm.Cond) (arr : Addr) (kk : ClassId) (t1 : Addr) (t3 : Addr) (t4 : Addr) (t5 : Addr) (t6 : Addr) (t7 : Addr) (t8 : Addr) (t9 : Addr) (t10 : Addr) (t11 : Addr) (t12 : Addr) (t15 : Addr) (t16 : Addr) (t17 : Addr) (t18 : Addr) (t19 : Addr) (t20 : Addr) (h0 : Heap) (n0 : Nat) (Z0 : n0 ≤ h0.size) (G0 : Sta Z Z.heap "com/example/typeflow/typeflow/classfile/ConstantKind" "BY_TAG" "[Lcom/example/typeflow/typeflow/classfile/ConstantKind;" (.ref arr)) (G1 : Old Z n0 h0) (G2 : Arv Z h0 arr kk (.object "com/example/typeflow/typeflow/classfile/ConstantKind") (21 : Int32) [.null, (.ref t1), .null, (.ref t3), (.ref t4), (.ref t5), (.ref t6), (.ref t7), (.ref t8), (.ref t9), (.ref t10), (.ref t11), (.ref t12), .null, .null, (.ref t15), (.ref t16), (.ref t17), (.ref t18), (.ref t19), (.ref t20)] .null) :
    MetFree l (⟨"com/example/typeflow/typeflow/classfile/ConstantKind", "ofTag", "(I)Lcom/example/typeflow/typeflow/classfile/ConstantKind;"⟩ : MethodName) (head1 (Jvm.Cond.code (⟨"com/example/typeflow/typeflow/classfile/ConstantKind", "ofTag", "(I)Lcom/example/typeflow/typeflow/classfile/ConstantKind;"⟩ : MethodName) prog_59_method_4_code 1 (some (.object "com/example/typeflow/typeflow/classfile/ConstantKind")) :: ws) ({ frames := 0, cells := 0, slots := 0, locals := 0 } : Room)) (fun a U => a = #[(.int (3 : Int32))] ∧ Z.Warmed39 U.vm ∧ U.heap = h0) (fun _ _ _ _ _ => True) (fun _ U o U' => ∃ v L, o = .returned v ∧ Q_rm1_3 Z arr kk t1 t3 t4 t5 t6 t7 t8 t9 t10 t11 t12 t15 t16 t17 t18 t19 t20 h0 n0 v U'.heap L ∧ FrameEnd U o U' L ({ frames := 0, cells := 0, slots := 0, locals := 0 } : Room).cells ({ frames := 0, cells := 0, slots := 0, locals := 0 } : Room).slots) := by
  refine MetFree.of_bodySF (plainFor_of_name pn_1) hisR ?_
  intro p e s m args below meth c s₁ Bd hml0 hP hK
  obtain ⟨rfl, hZ, hh⟩ := hP
  have hx := Bd.exec
  have hby := Bd.bytes
  have hml : c.maxLocals = 1 := hml0
  have hown : s.vm.findClass "com/example/typeflow/typeflow/classfile/ConstantKind" = some m.cls := findClass_of_methodNamed Bd.named
  have hnm := (name_of_methodNamed Bd.named Bd.method).1
  have hlk : meth.locks = false := Bd.notSynchronized
  have X0 : Stand p l e ({ frames := 0, cells := 0, slots := 0, locals := 0 } : Room) s m #[(.int (3 : Int32))] below meth c s₁ [] 0 0 := Stand.of_body Bd
  have e0 : s₁.heap = h0 := by rw [← hh, Bd.state]; rfl
  have N0 := Fr.nil n0
  refine Comes.out (Q := Q_rm1_3 Z arr kk t1 t3 t4 t5 t6 t7 t8 t9 t10 t11 t12 t15 t16 t17 t18 t19 t20 h0 n0) (kc := ({ frames := 0, cells := 0, slots := 0, locals := 0 } : Room).cells) (ks := ({ frames := 0, cells := 0, slots := 0, locals := 0 } : Room).slots) ?_
  refine Comes.cast (ef_rm1_3 m ) ?_
  have lt_arr : arr < h0.size := G2.lt
  show Comes p e below _ (s₁.setTop (mkF m 0 #[.val (.int (3 : Int32))] []))
  refine Comes.st (fun t k => XS.iloadN X0.here hx rfl (hb hby d1_0) rfl k) ?_
  show Comes p e below _ (s₁.setTop (mkF m 1 #[.val (.int (3 : Int32))] [(.int (3 : Int32))]))
  obtain ⟨T1, X1, e1, st1⟩ := getS2 X0 hx hZ hown (host := "") (Or.inl (hw _ (List.mem_of_getElem? (i := 5) rfl))) Via.refl e0 (G0.ext G1.2) (g := (mkF m 1 #[.val (.int (3 : Int32))] [(.int (3 : Int32))])) rfl (hb hby d1_1)
  refine Comes.st st1 ?_
  show Comes p e below _ (T1.setTop (mkF m 4 #[.val (.int (3 : Int32))] [(.ref arr), (.int (3 : Int32))]))
  obtain ⟨cl2, Ar2, -, S2, Ng2, -, -⟩ := id G2
  refine Comes.st (fun t k => X1.arraylength hx (by rw [e1]; exact Ar2.1) (State.isArrayOf_alike hZ.alike Ar2.2.1) (g := (mkF m 4 #[.val (.int (3 : Int32))] [(.ref arr), (.int (3 : Int32))])) rfl rfl (hb hby d1_4) _ k) ?_
  rw [len_of S2 Ng2]
  show Comes p e below _ (T1.setTop (mkF m 5 #[.val (.int (3 : Int32))] [(.int (21 : Int32)), (.int (3 : Int32))]))
  have hc5_3 : (3 : Int32) < (21 : Int32) := by decide
  refine Comes.st (fun t k => XS.icmpNo X1.here hx rfl (hb hby d1_5) rfl (tlt hc5_3).2.1 k) ?_
  show Comes p e below _ (T1.setTop (mkF m 8 #[.val (.int (3 : Int32))] []))
  obtain ⟨T4, X4, e4, st4⟩ := getS2 X1 hx hZ hown (host := "") (Or.inl (hw _ (List.mem_of_getElem? (i := 5) rfl))) Via.refl e1 (G0.ext G1.2) (g := (mkF m 8 #[.val (.int (3 : Int32))] [])) rfl (hb hby d1_8)
  refine Comes.st st4 ?_
  show Comes p e below _ (T4.setTop (mkF m 11 #[.val (.int (3 : Int32))] [(.ref arr)]))
  refine Comes.st (fun t k => XS.iloadN X4.here hx rfl (hb hby d1_11) rfl k) ?_
  show Comes p e below _ (T4.setTop (mkF m 12 #[.val (.int (3 : Int32))] [(.int (3 : Int32)), (.ref arr)]))
  obtain ⟨cl5, Ar5, q5, S5, Ng5, H5, Gf5⟩ := id G2
  have hin5 : ¬ ((3 : Int32) < 0 ∨ cl5.slots.size ≤ ((3 : Int32)).toNatClampNeg) := inb_of S5 ⟨by decide, by decide⟩
  refine Comes.st (fun t k => X4.aaload hx (j := (3 : Int32)) (v := (.ref t3)) (by rw [e4]; exact Ar5.1) (State.isArrayOf_alike hZ.alike Ar5.2.1) rfl Ar5.2.2 hin5 (Has.at H5 hin5 rfl) (g := (mkF m 12 #[.val (.int (3 : Int32))] [(.int (3 : Int32)), (.ref arr)])) rfl rfl (hb hby d1_12) _ (XS.goto X4.here hx rfl (pc0 := 13) (pc' := 17) rfl (hb hby d1_13) (by decide) (by decide) k)) ?_
  show Comes p e below _ (T4.setTop (mkF m 17 #[.val (.int (3 : Int32))] [(.ref t3)]))
  exact Comes.retV X4 hx Bd.returns (narrow_ref rfl) (Or.inr (Or.inr (Or.inr (Or.inr ⟨rfl, rfl, rfl⟩)))) hlk (hb hby d1_17) e4 ⟨rfl, N0, rfl⟩ (by decide) (by decide)
def Q_rm1_4 (Z : State) (arr : Addr) (kk : ClassId) (t1 : Addr) (t3 : Addr) (t4 : Addr) (t5 : Addr) (t6 : Addr) (t7 : Addr) (t8 : Addr) (t9 : Addr) (t10 : Addr) (t11 : Addr) (t12 : Addr) (t15 : Addr) (t16 : Addr) (t17 : Addr) (t18 : Addr) (t19 : Addr) (t20 : Addr) (h0 : Heap) (n0 : Nat) (v : Option Value) (h : Heap) (L : List Loc) : Prop := (v = some (.ref t4)) ∧ (Fr n0 L) ∧ (h = h0)
set_option maxRecDepth 65536 in
set_option maxHeartbeats 40000000 in
theorem rm1_4 (l : Launch) (Z : State) (a0 : Array Value) (hw : ∀ d ∈ tables_1, d.before a0 Z = true) (ws : List Jvm.Cond) (arr : Addr) (kk : ClassId) (t1 : Addr) (t3 : Addr) (t4 : Addr) (t5 : Addr) (t6 : Addr) (t7 : Addr) (t8 : Addr) (t9 : Addr) (t10 : Addr) (t11 : Addr) (t12 : Addr) (t15 : Addr) (t16 : Addr) (t17 : Addr) (t18 : Addr) (t19 : Addr) (t20 : Addr) (h0 : Heap) (n0 : Nat) (Z0 : n0 ≤ h0.size) (G0 : Sta Z Z.heap "com/example/typeflow/typeflow/classfile/ConstantKind" "BY_TAG" "[Lcom/example/typeflow/typeflow/classfile/ConstantKind;" (.ref arr)) (G1 : Old Z n0 h0) (G2 : Arv Z h0 arr kk (.object "com/example/typeflow/typeflow/classfile/ConstantKind") (21 : Int32) [.null, (.ref t1), .null, (.ref t3), (.ref t4), (.ref t5), (.ref t6), (.ref t7), (.ref t8), (.ref t9), (.ref t10), (.ref t11), (.ref t12), .null, .null, (.ref t15), (.ref t16), (.ref t17), (.ref t18), (.ref t19), (.ref t20)] .null) :
    MetFree l (⟨"com/example/typeflow/typeflow/classfile/ConstantKind", "ofTag", "(I)Lcom/example/typeflow/typeflow/classfile/ConstantKind;"⟩ : MethodName) (head1 (Jvm.Cond.code (⟨"com/example/typeflow/typeflow/classfile/ConstantKind", "ofTag", "(I)Lcom/example/typeflow/typeflow/classfile/ConstantKind;"⟩ : MethodName) prog_59_method_4_code 1 (some (.object "com/example/typeflow/typeflow/classfile/ConstantKind")) :: ws) ({ frames := 0, cells := 0, slots := 0, locals := 0 } : Room)) (fun a U => a = #[(.int (4 : Int32))] ∧ Z.Warmed39 U.vm ∧ U.heap = h0) (fun _ _ _ _ _ => True) (fun _ U o U' => ∃ v L, o = .returned v ∧ Q_rm1_4 Z arr kk t1 t3 t4 t5 t6 t7 t8 t9 t10 t11 t12 t15 t16 t17 t18 t19 t20 h0 n0 v U'.heap L ∧ FrameEnd U o U' L ({ frames := 0, cells := 0, slots := 0, locals := 0 } : Room).cells ({ frames := 0, cells := 0, slots := 0, locals := 0 } : Room).slots) := by
  refine MetFree.of_bodySF (plainFor_of_name pn_1) hisR ?_
  intro p e s m args below meth c s₁ Bd hml0 hP hK
  obtain ⟨rfl, hZ, hh⟩ := hP
  have hx := Bd.exec
  have hby := Bd.bytes
  have hml : c.maxLocals = 1 := hml0
  have hown : s.vm.findClass "com/example/typeflow/typeflow/classfile/ConstantKind" = some m.cls := findClass_of_methodNamed Bd.named
  have hnm := (name_of_methodNamed Bd.named Bd.method).1
  have hlk : meth.locks = false := Bd.notSynchronized
  have X0 : Stand p l e ({ frames := 0, cells := 0, slots := 0, locals := 0 } : Room) s m #[(.int (4 : Int32))] below meth c s₁ [] 0 0 := Stand.of_body Bd
  have e0 : s₁.heap = h0 := by rw [← hh, Bd.state]; rfl
  have N0 := Fr.nil n0
  refine Comes.out (Q := Q_rm1_4 Z arr kk t1 t3 t4 t5 t6 t7 t8 t9 t10 t11 t12 t15 t16 t17 t18 t19 t20 h0 n0) (kc := ({ frames := 0, cells := 0, slots := 0, locals := 0 } : Room).cells) (ks := ({ frames := 0, cells := 0, slots := 0, locals := 0 } : Room).slots) ?_
  refine Comes.cast (ef_rm1_4 m ) ?_
  have lt_arr : arr < h0.size := G2.lt
  show Comes p e below _ (s₁.setTop (mkF m 0 #[.val (.int (4 : Int32))] []))
  refine Comes.st (fun t k => XS.iloadN X0.here hx rfl (hb hby d1_0) rfl k) ?_
  show Comes p e below _ (s₁.setTop (mkF m 1 #[.val (.int (4 : Int32))] [(.int (4 : Int32))]))
  obtain ⟨T1, X1, e1, st1⟩ := getS2 X0 hx hZ hown (host := "") (Or.inl (hw _ (List.mem_of_getElem? (i := 5) rfl))) Via.refl e0 (G0.ext G1.2) (g := (mkF m 1 #[.val (.int (4 : Int32))] [(.int (4 : Int32))])) rfl (hb hby d1_1)
  refine Comes.st st1 ?_
  show Comes p e below _ (T1.setTop (mkF m 4 #[.val (.int (4 : Int32))] [(.ref arr), (.int (4 : Int32))]))
  obtain ⟨cl2, Ar2, -, S2, Ng2, -, -⟩ := id G2
  refine Comes.st (fun t k => X1.arraylength hx (by rw [e1]; exact Ar2.1) (State.isArrayOf_alike hZ.alike Ar2.2.1) (g := (mkF m 4 #[.val (.int (4 : Int32))] [(.ref arr), (.int (4 : Int32))])) rfl rfl (hb hby d1_4) _ k) ?_
  rw [len_of S2 Ng2]
  show Comes p e below _ (T1.setTop (mkF m 5 #[.val (.int (4 : Int32))] [(.int (21 : Int32)), (.int (4 : Int32))]))
  have hc5_3 : (4 : Int32) < (21 : Int32) := by decide
  refine Comes.st (fun t k => XS.icmpNo X1.here hx rfl (hb hby d1_5) rfl (tlt hc5_3).2.1 k) ?_
  show Comes p e below _ (T1.setTop (mkF m 8 #[.val (.int (4 : Int32))] []))
  obtain ⟨T4, X4, e4, st4⟩ := getS2 X1 hx hZ hown (host := "") (Or.inl (hw _ (List.mem_of_getElem? (i := 5) rfl))) Via.refl e1 (G0.ext G1.2) (g := (mkF m 8 #[.val (.int (4 : Int32))] [])) rfl (hb hby d1_8)
  refine Comes.st st4 ?_
  show Comes p e below _ (T4.setTop (mkF m 11 #[.val (.int (4 : Int32))] [(.ref arr)]))
  refine Comes.st (fun t k => XS.iloadN X4.here hx rfl (hb hby d1_11) rfl k) ?_
  show Comes p e below _ (T4.setTop (mkF m 12 #[.val (.int (4 : Int32))] [(.int (4 : Int32)), (.ref arr)]))
  obtain ⟨cl5, Ar5, q5, S5, Ng5, H5, Gf5⟩ := id G2
  have hin5 : ¬ ((4 : Int32) < 0 ∨ cl5.slots.size ≤ ((4 : Int32)).toNatClampNeg) := inb_of S5 ⟨by decide, by decide⟩
  refine Comes.st (fun t k => X4.aaload hx (j := (4 : Int32)) (v := (.ref t4)) (by rw [e4]; exact Ar5.1) (State.isArrayOf_alike hZ.alike Ar5.2.1) rfl Ar5.2.2 hin5 (Has.at H5 hin5 rfl) (g := (mkF m 12 #[.val (.int (4 : Int32))] [(.int (4 : Int32)), (.ref arr)])) rfl rfl (hb hby d1_12) _ (XS.goto X4.here hx rfl (pc0 := 13) (pc' := 17) rfl (hb hby d1_13) (by decide) (by decide) k)) ?_
  show Comes p e below _ (T4.setTop (mkF m 17 #[.val (.int (4 : Int32))] [(.ref t4)]))
  exact Comes.retV X4 hx Bd.returns (narrow_ref rfl) (Or.inr (Or.inr (Or.inr (Or.inr ⟨rfl, rfl, rfl⟩)))) hlk (hb hby d1_17) e4 ⟨rfl, N0, rfl⟩ (by decide) (by decide)
def Q_rm1_5 (Z : State) (arr : Addr) (kk : ClassId) (t1 : Addr) (t3 : Addr) (t4 : Addr) (t5 : Addr) (t6 : Addr) (t7 : Addr) (t8 : Addr) (t9 : Addr) (t10 : Addr) (t11 : Addr) (t12 : Addr) (t15 : Addr) (t16 : Addr) (t17 : Addr) (t18 : Addr) (t19 : Addr) (t20 : Addr) (h0 : Heap) (n0 : Nat) (v : Option Value) (h : Heap) (L : List Loc) : Prop := (v = some (.ref t5)) ∧ (Fr n0 L) ∧ (h = h0)
set_option maxRecDepth 65536 in
set_option maxHeartbeats 40000000 in
theorem rm1_5 (l : Launch) (Z : State) (a0 : Array Value) (hw : ∀ d ∈ tables_1, d.before a0 Z = true) (ws : List Jvm.Cond) (arr : Addr) (kk : ClassId) (t1 : Addr) (t3 : Addr) (t4 : Addr) (t5 : Addr) (t6 : Addr) (t7 : Addr) (t8 : Addr) (t9 : Addr) (t10 : Addr) (t11 : Addr) (t12 : Addr) (t15 : Addr) (t16 : Addr) (t17 : Addr) (t18 : Addr) (t19 : Addr) (t20 : Addr) (h0 : Heap) (n0 : Nat) (Z0 : n0 ≤ h0.size) (G0 : Sta Z Z.heap "com/example/typeflow/typeflow/classfile/ConstantKind" "BY_TAG" "[Lcom/example/typeflow/typeflow/classfile/ConstantKind;" (.ref arr)) (G1 : Old Z n0 h0) (G2 : Arv Z h0 arr kk (.object "com/example/typeflow/typeflow/classfile/ConstantKind") (21 : Int32) [.null, (.ref t1), .null, (.ref t3), (.ref t4), (.ref t5), (.ref t6), (.ref t7), (.ref t8), (.ref t9), (.ref t10), (.ref t11), (.ref t12), .null, .null, (.ref t15), (.ref t16), (.ref t17), (.ref t18), (.ref t19), (.ref t20)] .null) :
    MetFree l (⟨"com/example/typeflow/typeflow/classfile/ConstantKind", "ofTag", "(I)Lcom/example/typeflow/typeflow/classfile/ConstantKind;"⟩ : MethodName) (head1 (Jvm.Cond.code (⟨"com/example/typeflow/typeflow/classfile/ConstantKind", "ofTag", "(I)Lcom/example/typeflow/typeflow/classfile/ConstantKind;"⟩ : MethodName) prog_59_method_4_code 1 (some (.object "com/example/typeflow/typeflow/classfile/ConstantKind")) :: ws) ({ frames := 0, cells := 0, slots := 0, locals := 0 } : Room)) (fun a U => a = #[(.int (5 : Int32))] ∧ Z.Warmed39 U.vm ∧ U.heap = h0) (fun _ _ _ _ _ => True) (fun _ U o U' => ∃ v L, o = .returned v ∧ Q_rm1_5 Z arr kk t1 t3 t4 t5 t6 t7 t8 t9 t10 t11 t12 t15 t16 t17 t18 t19 t20 h0 n0 v U'.heap L ∧ FrameEnd U o U' L ({ frames := 0, cells := 0, slots := 0, locals := 0 } : Room).cells ({ frames := 0, cells := 0, slots := 0, locals := 0 } : Room).slots) := by
  refine MetFree.of_bodySF (plainFor_of_name pn_1) hisR ?_
  intro p e s m args below meth c s₁ Bd hml0 hP hK
  obtain ⟨rfl, hZ, hh⟩ := hP
  have hx := Bd.exec
  have hby := Bd.bytes
  have hml : c.maxLocals = 1 := hml0
  have hown : s.vm.findClass "com/example/typeflow/typeflow/classfile/ConstantKind" = some m.cls := findClass_of_methodNamed Bd.named
  have hnm := (name_of_methodNamed Bd.named Bd.method).1
  have hlk : meth.locks = false := Bd.notSynchronized
  have X0 : Stand p l e ({ frames := 0, cells := 0, slots := 0, locals := 0 } : Room) s m #[(.int (5 : Int32))] below meth c s₁ [] 0 0 := Stand.of_body Bd
  have e0 : s₁.heap = h0 := by rw [← hh, Bd.state]; rfl
  have N0 := Fr.nil n0
  refine Comes.out (Q := Q_rm1_5 Z arr kk t1 t3 t4 t5 t6 t7 t8 t9 t10 t11 t12 t15 t16 t17 t18 t19 t20 h0 n0) (kc := ({ frames := 0, cells := 0, slots := 0, locals := 0 } : Room).cells) (ks := ({ frames := 0, cells := 0, slots := 0, locals := 0 } : Room).slots) ?_
  refine Comes.cast (ef_rm1_5 m ) ?_
  have lt_arr : arr < h0.size := G2.lt
  show Comes p e below _ (s₁.setTop (mkF m 0 #[.val (.int (5 : Int32))] []))
  refine Comes.st (fun t k => XS.iloadN X0.here hx rfl (hb hby d1_0) rfl k) ?_
  show Comes p e below _ (s₁.setTop (mkF m 1 #[.val (.int (5 : Int32))] [(.int (5 : Int32))]))
  obtain ⟨T1, X1, e1, st1⟩ := getS2 X0 hx hZ hown (host := "") (Or.inl (hw _ (List.mem_of_getElem? (i := 5) rfl))) Via.refl e0 (G0.ext G1.2) (g := (mkF m 1 #[.val (.int (5 : Int32))] [(.int (5 : Int32))])) rfl (hb hby d1_1)
  refine Comes.st st1 ?_
  show Comes p e below _ (T1.setTop (mkF m 4 #[.val (.int (5 : Int32))] [(.ref arr), (.int (5 : Int32))]))
  obtain ⟨cl2, Ar2, -, S2, Ng2, -, -⟩ := id G2
  refine Comes.st (fun t k => X1.arraylength hx (by rw [e1]; exact Ar2.1) (State.isArrayOf_alike hZ.alike Ar2.2.1) (g := (mkF m 4 #[.val (.int (5 : Int32))] [(.ref arr), (.int (5 : Int32))])) rfl rfl (hb hby d1_4) _ k) ?_
  rw [len_of S2 Ng2]
  show Comes p e below _ (T1.setTop (mkF m 5 #[.val (.int (5 : Int32))] [(.int (21 : Int32)), (.int (5 : Int32))]))
  have hc5_3 : (5 : Int32) < (21 : Int32) := by decide
  refine Comes.st (fun t k => XS.icmpNo X1.here hx rfl (hb hby d1_5) rfl (tlt hc5_3).2.1 k) ?_
  show Comes p e below _ (T1.setTop (mkF m 8 #[.val (.int (5 : Int32))] []))
  obtain ⟨T4, X4, e4, st4⟩ := getS2 X1 hx hZ hown (host := "") (Or.inl (hw _ (List.mem_of_getElem? (i := 5) rfl))) Via.refl e1 (G0.ext G1.2) (g := (mkF m 8 #[.val (.int (5 : Int32))] [])) rfl (hb hby d1_8)
  refine Comes.st st4 ?_
  show Comes p e below _ (T4.setTop (mkF m 11 #[.val (.int (5 : Int32))] [(.ref arr)]))
  refine Comes.st (fun t k => XS.iloadN X4.here hx rfl (hb hby d1_11) rfl k) ?_
  show Comes p e below _ (T4.setTop (mkF m 12 #[.val (.int (5 : Int32))] [(.int (5 : Int32)), (.ref arr)]))
  obtain ⟨cl5, Ar5, q5, S5, Ng5, H5, Gf5⟩ := id G2
  have hin5 : ¬ ((5 : Int32) < 0 ∨ cl5.slots.size ≤ ((5 : Int32)).toNatClampNeg) := inb_of S5 ⟨by decide, by decide⟩
  refine Comes.st (fun t k => X4.aaload hx (j := (5 : Int32)) (v := (.ref t5)) (by rw [e4]; exact Ar5.1) (State.isArrayOf_alike hZ.alike Ar5.2.1) rfl Ar5.2.2 hin5 (Has.at H5 hin5 rfl) (g := (mkF m 12 #[.val (.int (5 : Int32))] [(.int (5 : Int32)), (.ref arr)])) rfl rfl (hb hby d1_12) _ (XS.goto X4.here hx rfl (pc0 := 13) (pc' := 17) rfl (hb hby d1_13) (by decide) (by decide) k)) ?_
  show Comes p e below _ (T4.setTop (mkF m 17 #[.val (.int (5 : Int32))] [(.ref t5)]))
  exact Comes.retV X4 hx Bd.returns (narrow_ref rfl) (Or.inr (Or.inr (Or.inr (Or.inr ⟨rfl, rfl, rfl⟩)))) hlk (hb hby d1_17) e4 ⟨rfl, N0, rfl⟩ (by decide) (by decide)
def Q_rm1_6 (Z : State) (arr : Addr) (kk : ClassId) (t1 : Addr) (t3 : Addr) (t4 : Addr) (t5 : Addr) (t6 : Addr) (t7 : Addr) (t8 : Addr) (t9 : Addr) (t10 : Addr) (t11 : Addr) (t12 : Addr) (t15 : Addr) (t16 : Addr) (t17 : Addr) (t18 : Addr) (t19 : Addr) (t20 : Addr) (h0 : Heap) (n0 : Nat) (v : Option Value) (h : Heap) (L : List Loc) : Prop := (v = some (.ref t6)) ∧ (Fr n0 L) ∧ (h = h0)
set_option maxRecDepth 65536 in
set_option maxHeartbeats 40000000 in
theorem rm1_6 (l : Launch) (Z : State) (a0 : Array Value) (hw : ∀ d ∈ tables_1, d.before a0 Z = true) (ws : List Jvm.Cond) (arr : Addr) (kk : ClassId) (t1 : Addr) (t3 : Addr) (t4 : Addr) (t5 : Addr) (t6 : Addr) (t7 : Addr) (t8 : Addr) (t9 : Addr) (t10 : Addr) (t11 : Addr) (t12 : Addr) (t15 : Addr) (t16 : Addr) (t17 : Addr) (t18 : Addr) (t19 : Addr) (t20 : Addr) (h0 : Heap) (n0 : Nat) (Z0 : n0 ≤ h0.size) (G0 : Sta Z Z.heap "com/example/typeflow/typeflow/classfile/ConstantKind" "BY_TAG" "[Lcom/example/typeflow/typeflow/classfile/ConstantKind;" (.ref arr)) (G1 : Old Z n0 h0) (G2 : Arv Z h0 arr kk (.object "com/example/typeflow/typeflow/classfile/ConstantKind") (21 : Int32) [.null, (.ref t1), .null, (.ref t3), (.ref t4), (.ref t5), (.ref t6), (.ref t7), (.ref t8), (.ref t9), (.ref t10), (.ref t11), (.ref t12), .null, .null, (.ref t15), (.ref t16), (.ref t17), (.ref t18), (.ref t19), (.ref t20)] .null) :
    MetFree l (⟨"com/example/typeflow/typeflow/classfile/ConstantKind", "ofTag", "(I)Lcom/example/typeflow/typeflow/classfile/ConstantKind;"⟩ : MethodName) (head1 (Jvm.Cond.code (⟨"com/example/typeflow/typeflow/classfile/ConstantKind", "ofTag", "(I)Lcom/example/typeflow/typeflow/classfile/ConstantKind;"⟩ : MethodName) prog_59_method_4_code 1 (some (.object "com/example/typeflow/typeflow/classfile/ConstantKind")) :: ws) ({ frames := 0, cells := 0, slots := 0, locals := 0 } : Room)) (fun a U => a = #[(.int (6 : Int32))] ∧ Z.Warmed39 U.vm ∧ U.heap = h0) (fun _ _ _ _ _ => True) (fun _ U o U' => ∃ v L, o = .returned v ∧ Q_rm1_6 Z arr kk t1 t3 t4 t5 t6 t7 t8 t9 t10 t11 t12 t15 t16 t17 t18 t19 t20 h0 n0 v U'.heap L ∧ FrameEnd U o U' L ({ frames := 0, cells := 0, slots := 0, locals := 0 } : Room).cells ({ frames := 0, cells := 0, slots := 0, locals := 0 } : Room).slots) := by
  refine MetFree.of_bodySF (plainFor_of_name pn_1) hisR ?_
  intro p e s m args below meth c s₁ Bd hml0 hP hK
  obtain ⟨rfl, hZ, hh⟩ := hP
  have hx := Bd.exec
  have hby := Bd.bytes
  have hml : c.maxLocals = 1 := hml0
  have hown : s.vm.findClass "com/example/typeflow/typeflow/classfile/ConstantKind" = some m.cls := findClass_of_methodNamed Bd.named
  have hnm := (name_of_methodNamed Bd.named Bd.method).1
  have hlk : meth.locks = false := Bd.notSynchronized
  have X0 : Stand p l e ({ frames := 0, cells := 0, slots := 0, locals := 0 } : Room) s m #[(.int (6 : Int32))] below meth c s₁ [] 0 0 := Stand.of_body Bd
  have e0 : s₁.heap = h0 := by rw [← hh, Bd.state]; rfl
  have N0 := Fr.nil n0
  refine Comes.out (Q := Q_rm1_6 Z arr kk t1 t3 t4 t5 t6 t7 t8 t9 t10 t11 t12 t15 t16 t17 t18 t19 t20 h0 n0) (kc := ({ frames := 0, cells := 0, slots := 0, locals := 0 } : Room).cells) (ks := ({ frames := 0, cells := 0, slots := 0, locals := 0 } : Room).slots) ?_
  refine Comes.cast (ef_rm1_6 m ) ?_
  have lt_arr : arr < h0.size := G2.lt
  show Comes p e below _ (s₁.setTop (mkF m 0 #[.val (.int (6 : Int32))] []))
  refine Comes.st (fun t k => XS.iloadN X0.here hx rfl (hb hby d1_0) rfl k) ?_
  show Comes p e below _ (s₁.setTop (mkF m 1 #[.val (.int (6 : Int32))] [(.int (6 : Int32))]))
  obtain ⟨T1, X1, e1, st1⟩ := getS2 X0 hx hZ hown (host := "") (Or.inl (hw _ (List.mem_of_getElem? (i := 5) rfl))) Via.refl e0 (G0.ext G1.2) (g := (mkF m 1 #[.val (.int (6 : Int32))] [(.int (6 : Int32))])) rfl (hb hby d1_1)
  refine Comes.st st1 ?_
  show Comes p e below _ (T1.setTop (mkF m 4 #[.val (.int (6 : Int32))] [(.ref arr), (.int (6 : Int32))]))
  obtain ⟨cl2, Ar2, -, S2, Ng2, -, -⟩ := id G2
  refine Comes.st (fun t k => X1.arraylength hx (by rw [e1]; exact Ar2.1) (State.isArrayOf_alike hZ.alike Ar2.2.1) (g := (mkF m 4 #[.val (.int (6 : Int32))] [(.ref arr), (.int (6 : Int32))])) rfl rfl (hb hby d1_4) _ k) ?_
  rw [len_of S2 Ng2]
  show Comes p e below _ (T1.setTop (mkF m 5 #[.val (.int (6 : Int32))] [(.int (21 : Int32)), (.int (6 : Int32))]))
  have hc5_3 : (6 : Int32) < (21 : Int32) := by decide
  refine Comes.st (fun t k => XS.icmpNo X1.here hx rfl (hb hby d1_5) rfl (tlt hc5_3).2.1 k) ?_
  show Comes p e below _ (T1.setTop (mkF m 8 #[.val (.int (6 : Int32))] []))
  obtain ⟨T4, X4, e4, st4⟩ := getS2 X1 hx hZ hown (host := "") (Or.inl (hw _ (List.mem_of_getElem? (i := 5) rfl))) Via.refl e1 (G0.ext G1.2) (g := (mkF m 8 #[.val (.int (6 : Int32))] [])) rfl (hb hby d1_8)
  refine Comes.st st4 ?_
  show Comes p e below _ (T4.setTop (mkF m 11 #[.val (.int (6 : Int32))] [(.ref arr)]))
  refine Comes.st (fun t k => XS.iloadN X4.here hx rfl (hb hby d1_11) rfl k) ?_
  show Comes p e below _ (T4.setTop (mkF m 12 #[.val (.int (6 : Int32))] [(.int (6 : Int32)), (.ref arr)]))
  obtain ⟨cl5, Ar5, q5, S5, Ng5, H5, Gf5⟩ := id G2
  have hin5 : ¬ ((6 : Int32) < 0 ∨ cl5.slots.size ≤ ((6 : Int32)).toNatClampNeg) := inb_of S5 ⟨by decide, by decide⟩
  refine Comes.st (fun t k => X4.aaload hx (j := (6 : Int32)) (v := (.ref t6)) (by rw [e4]; exact Ar5.1) (State.isArrayOf_alike hZ.alike Ar5.2.1) rfl Ar5.2.2 hin5 (Has.at H5 hin5 rfl) (g := (mkF m 12 #[.val (.int (6 : Int32))] [(.int (6 : Int32)), (.ref arr)])) rfl rfl (hb hby d1_12) _ (XS.goto X4.here hx rfl (pc0 := 13) (pc' := 17) rfl (hb hby d1_13) (by decide) (by decide) k)) ?_
  show Comes p e below _ (T4.setTop (mkF m 17 #[.val (.int (6 : Int32))] [(.ref t6)]))
  exact Comes.retV X4 hx Bd.returns (narrow_ref rfl) (Or.inr (Or.inr (Or.inr (Or.inr ⟨rfl, rfl, rfl⟩)))) hlk (hb hby d1_17) e4 ⟨rfl, N0, rfl⟩ (by decide) (by decide)
def Q_rm1_7 (Z : State) (arr : Addr) (kk : ClassId) (t1 : Addr) (t3 : Addr) (t4 : Addr) (t5 : Addr) (t6 : Addr) (t7 : Addr) (t8 : Addr) (t9 : Addr) (t10 : Addr) (t11 : Addr) (t12 : Addr) (t15 : Addr) (t16 : Addr) (t17 : Addr) (t18 : Addr) (t19 : Addr) (t20 : Addr) (h0 : Heap) (n0 : Nat) (v : Option Value) (h : Heap) (L : List Loc) : Prop := (v = some (.ref t7)) ∧ (Fr n0 L) ∧ (h = h0)
set_option maxRecDepth 65536 in
set_option maxHeartbeats 40000000 in
theorem rm1_7 (l : Launch) (Z : State) (a0 : Array Value) (hw : ∀ d ∈ tables_1, d.before a0 Z = true) (ws : List Jvm.Cond) (arr : Addr) (kk : ClassId) (t1 : Addr) (t3 : Addr) (t4 : Addr) (t5 : Addr) (t6 : Addr) (t7 : Addr) (t8 : Addr) (t9 : Addr) (t10 : Addr) (t11 : Addr) (t12 : Addr) (t15 : Addr) (t16 : Addr) (t17 : Addr) (t18 : Addr) (t19 : Addr) (t20 : Addr) (h0 : Heap) (n0 : Nat) (Z0 : n0 ≤ h0.size) (G0 : Sta Z Z.heap "com/example/typeflow/typeflow/classfile/ConstantKind" "BY_TAG" "[Lcom/example/typeflow/typeflow/classfile/ConstantKind;" (.ref arr)) (G1 : Old Z n0 h0) (G2 : Arv Z h0 arr kk (.object "com/example/typeflow/typeflow/classfile/ConstantKind") (21 : Int32) [.null, (.ref t1), .null, (.ref t3), (.ref t4), (.ref t5), (.ref t6), (.ref t7), (.ref t8), (.ref t9), (.ref t10), (.ref t11), (.ref t12), .null, .null, (.ref t15), (.ref t16), (.ref t17), (.ref t18), (.ref t19), (.ref t20)] .null) :
    MetFree l (⟨"com/example/typeflow/typeflow/classfile/ConstantKind", "ofTag", "(I)Lcom/example/typeflow/typeflow/classfile/ConstantKind;"⟩ : MethodName) (head1 (Jvm.Cond.code (⟨"com/example/typeflow/typeflow/classfile/ConstantKind", "ofTag", "(I)Lcom/example/typeflow/typeflow/classfile/ConstantKind;"⟩ : MethodName) prog_59_method_4_code 1 (some (.object "com/example/typeflow/typeflow/classfile/ConstantKind")) :: ws) ({ frames := 0, cells := 0, slots := 0, locals := 0 } : Room)) (fun a U => a = #[(.int (7 : Int32))] ∧ Z.Warmed39 U.vm ∧ U.heap = h0) (fun _ _ _ _ _ => True) (fun _ U o U' => ∃ v L, o = .returned v ∧ Q_rm1_7 Z arr kk t1 t3 t4 t5 t6 t7 t8 t9 t10 t11 t12 t15 t16 t17 t18 t19 t20 h0 n0 v U'.heap L ∧ FrameEnd U o U' L ({ frames := 0, cells := 0, slots := 0, locals := 0 } : Room).cells ({ frames := 0, cells := 0, slots := 0, locals := 0 } : Room).slots) := by
  refine MetFree.of_bodySF (plainFor_of_name pn_1) hisR ?_
  intro p e s m args below meth c s₁ Bd hml0 hP hK
  obtain ⟨rfl, hZ, hh⟩ := hP
  have hx := Bd.exec
  have hby := Bd.bytes
  have hml : c.maxLocals = 1 := hml0
  have hown : s.vm.findClass "com/example/typeflow/typeflow/classfile/ConstantKind" = some m.cls := findClass_of_methodNamed Bd.named
  have hnm := (name_of_methodNamed Bd.named Bd.method).1
  have hlk : meth.locks = false := Bd.notSynchronized
  have X0 : Stand p l e ({ frames := 0, cells := 0, slots := 0, locals := 0 } : Room) s m #[(.int (7 : Int32))] below meth c s₁ [] 0 0 := Stand.of_body Bd
  have e0 : s₁.heap = h0 := by rw [← hh, Bd.state]; rfl
  have N0 := Fr.nil n0
  refine Comes.out (Q := Q_rm1_7 Z arr kk t1 t3 t4 t5 t6 t7 t8 t9 t10 t11 t12 t15 t16 t17 t18 t19 t20 h0 n0) (kc := ({ frames := 0, cells := 0, slots := 0, locals := 0 } : Room).cells) (ks := ({ frames := 0, cells := 0, slots := 0, locals := 0 } : Room).slots) ?_
  refine Comes.cast (ef_rm1_7 m ) ?_
  have lt_arr : arr < h0.size := G2.lt
  show Comes p e below _ (s₁.setTop (mkF m 0 #[.val (.int (7 : Int32))] []))
  refine Comes.st (fun t k => XS.iloadN X0.here hx rfl (hb hby d1_0) rfl k) ?_
  show Comes p e below _ (s₁.setTop (mkF m 1 #[.val (.int (7 : Int32))] [(.int (7 : Int32))]))
  obtain ⟨T1, X1, e1, st1⟩ := getS2 X0 hx hZ hown (host := "") (Or.inl (hw _ (List.mem_of_getElem? (i := 5) rfl))) Via.refl e0 (G0.ext G1.2) (g := (mkF m 1 #[.val (.int (7 : Int32))] [(.int (7 : Int32))])) rfl (hb hby d1_1)
  refine Comes.st st1 ?_
  show Comes p e below _ (T1.setTop (mkF m 4 #[.val (.int (7 : Int32))] [(.ref arr), (.int (7 : Int32))]))
  obtain ⟨cl2, Ar2, -, S2, Ng2, -, -⟩ := id G2
  refine Comes.st (fun t k => X1.arraylength hx (by rw [e1]; exact Ar2.1) (State.isArrayOf_alike hZ.alike Ar2.2.1) (g := (mkF m 4 #[.val (.int (7 : Int32))] [(.ref arr), (.int (7 : Int32))])) rfl rfl (hb hby d1_4) _ k) ?_
  rw [len_of S2 Ng2]
  show Comes p e below _ (T1.setTop (mkF m 5 #[.val (.int (7 : Int32))] [(.int (21 : Int32)), (.int (7 : Int32))]))
  have hc5_3 : (7 : Int32) < (21 : Int32) := by decide
  refine Comes.st (fun t k => XS.icmpNo X1.here hx rfl (hb hby d1_5) rfl (tlt hc5_3).2.1 k) ?_
  show Comes p e below _ (T1.setTop (mkF m 8 #[.val (.int (7 : Int32))] []))
  obtain ⟨T4, X4, e4, st4⟩ := getS2 X1 hx hZ hown (host := "") (Or.inl (hw _ (List.mem_of_getElem? (i := 5) rfl))) Via.refl e1 (G0.ext G1.2) (g := (mkF m 8 #[.val (.int (7 : Int32))] [])) rfl (hb hby d1_8)
  refine Comes.st st4 ?_
  show Comes p e below _ (T4.setTop (mkF m 11 #[.val (.int (7 : Int32))] [(.ref arr)]))
  refine Comes.st (fun t k => XS.iloadN X4.here hx rfl (hb hby d1_11) rfl k) ?_
  show Comes p e below _ (T4.setTop (mkF m 12 #[.val (.int (7 : Int32))] [(.int (7 : Int32)), (.ref arr)]))
  obtain ⟨cl5, Ar5, q5, S5, Ng5, H5, Gf5⟩ := id G2
  have hin5 : ¬ ((7 : Int32) < 0 ∨ cl5.slots.size ≤ ((7 : Int32)).toNatClampNeg) := inb_of S5 ⟨by decide, by decide⟩
  refine Comes.st (fun t k => X4.aaload hx (j := (7 : Int32)) (v := (.ref t7)) (by rw [e4]; exact Ar5.1) (State.isArrayOf_alike hZ.alike Ar5.2.1) rfl Ar5.2.2 hin5 (Has.at H5 hin5 rfl) (g := (mkF m 12 #[.val (.int (7 : Int32))] [(.int (7 : Int32)), (.ref arr)])) rfl rfl (hb hby d1_12) _ (XS.goto X4.here hx rfl (pc0 := 13) (pc' := 17) rfl (hb hby d1_13) (by decide) (by decide) k)) ?_
  show Comes p e below _ (T4.setTop (mkF m 17 #[.val (.int (7 : Int32))] [(.ref t7)]))
  exact Comes.retV X4 hx Bd.returns (narrow_ref rfl) (Or.inr (Or.inr (Or.inr (Or.inr ⟨rfl, rfl, rfl⟩)))) hlk (hb hby d1_17) e4 ⟨rfl, N0, rfl⟩ (by decide) (by decide)
def Q_rm1_8 (Z : State) (arr : Addr) (kk : ClassId) (t1 : Addr) (t3 : Addr) (t4 : Addr) (t5 : Addr) (t6 : Addr) (t7 : Addr) (t8 : Addr) (t9 : Addr) (t10 : Addr) (t11 : Addr) (t12 : Addr) (t15 : Addr) (t16 : Addr) (t17 : Addr) (t18 : Addr) (t19 : Addr) (t20 : Addr) (h0 : Heap) (n0 : Nat) (v : Option Value) (h : Heap) (L : List Loc) : Prop := (v = some (.ref t8)) ∧ (Fr n0 L) ∧ (h = h0)
set_option maxRecDepth 65536 in
set_option maxHeartbeats 40000000 in
theorem rm1_8 (l : Launch) (Z : State) (a0 : Array Value) (hw : ∀ d ∈ tables_1, d.before a0 Z = true) (ws : List Jvm.Cond) (arr : Addr) (kk : ClassId) (t1 : Addr) (t3 : Addr) (t4 : Addr) (t5 : Addr) (t6 : Addr) (t7 : Addr) (t8 : Addr) (t9 : Addr) (t10 : Addr) (t11 : Addr) (t12 : Addr) (t15 : Addr) (t16 : Addr) (t17 : Addr) (t18 : Addr) (t19 : Addr) (t20 : Addr) (h0 : Heap) (n0 : Nat) (Z0 : n0 ≤ h0.size) (G0 : Sta Z Z.heap "com/example/typeflow/typeflow/classfile/ConstantKind" "BY_TAG" "[Lcom/example/typeflow/typeflow/classfile/ConstantKind;" (.ref arr)) (G1 : Old Z n0 h0) (G2 : Arv Z h0 arr kk (.object "com/example/typeflow/typeflow/classfile/ConstantKind") (21 : Int32) [.null, (.ref t1), .null, (.ref t3), (.ref t4), (.ref t5), (.ref t6), (.ref t7), (.ref t8), (.ref t9), (.ref t10), (.ref t11), (.ref t12), .null, .null, (.ref t15), (.ref t16), (.ref t17), (.ref t18), (.ref t19), (.ref t20)] .null) :
    MetFree l (⟨"com/example/typeflow/typeflow/classfile/ConstantKind", "ofTag", "(I)Lcom/example/typeflow/typeflow/classfile/ConstantKind;"⟩ : MethodName) (head1 (Jvm.Cond.code (⟨"com/example/typeflow/typeflow/classfile/ConstantKind", "ofTag", "(I)Lcom/example/typeflow/typeflow/classfile/ConstantKind;"⟩ : MethodName) prog_59_method_4_code 1 (some (.object "com/example/typeflow/typeflow/classfile/ConstantKind")) :: ws) ({ frames := 0, cells := 0, slots := 0, locals := 0 } : Room)) (fun a U => a = #[(.int (8 : Int32))] ∧ Z.Warmed39 U.vm ∧ U.heap = h0) (fun _ _ _ _ _ => True) (fun _ U o U' => ∃ v L, o = .returned v ∧ Q_rm1_8 Z arr kk t1 t3 t4 t5 t6 t7 t8 t9 t10 t11 t12 t15 t16 t17 t18 t19 t20 h0 n0 v U'.heap L ∧ FrameEnd U o U' L ({ frames := 0, cells := 0, slots := 0, locals := 0 } : Room).cells ({ frames := 0, cells := 0, slots := 0, locals := 0 } : Room).slots) := by
  refine MetFree.of_bodySF (plainFor_of_name pn_1) hisR ?_
  intro p e s m args below meth c s₁ Bd hml0 hP hK
  obtain ⟨rfl, hZ, hh⟩ := hP
  have hx := Bd.exec
  have hby := Bd.bytes
  have hml : c.maxLocals = 1 := hml0
  have hown : s.vm.findClass "com/example/typeflow/typeflow/classfile/ConstantKind" = some m.cls := findClass_of_methodNamed Bd.named
  have hnm := (name_of_methodNamed Bd.named Bd.method).1
  have hlk : meth.locks = false := Bd.notSynchronized
  have X0 : Stand p l e ({ frames := 0, cells := 0, slots := 0, locals := 0 } : Room) s m #[(.int (8 : Int32))] below meth c s₁ [] 0 0 := Stand.of_body Bd
  have e0 : s₁.heap = h0 := by rw [← hh, Bd.state]; rfl
  have N0 := Fr.nil n0
  refine Comes.out (Q := Q_rm1_8 Z arr kk t1 t3 t4 t5 t6 t7 t8 t9 t10 t11 t12 t15 t16 t17 t18 t19 t20 h0 n0) (kc := ({ frames := 0, cells := 0, slots := 0, locals := 0 } : Room).cells) (ks := ({ frames := 0, cells := 0, slots := 0, locals := 0 } : Room).slots) ?_
  refine Comes.cast (ef_rm1_8 m ) ?_
  have lt_arr : arr < h0.size := G2.lt
  show Comes p e below _ (s₁.setTop (mkF m 0 #[.val (.int (8 : Int32))] []))
  refine Comes.st (fun t k => XS.iloadN X0.here hx rfl (hb hby d1_0) rfl k) ?_
  show Comes p e below _ (s₁.setTop (mkF m 1 #[.val (.int (8 : Int32))] [(.int (8 : Int32))]))
  obtain ⟨T1, X1, e1, st1⟩ := getS2 X0 hx hZ hown (host := "") (Or.inl (hw _ (List.mem_of_getElem? (i := 5) rfl))) Via.refl e0 (G0.ext G1.2) (g := (mkF m 1 #[.val (.int (8 : Int32))] [(.int (8 : Int32))])) rfl (hb hby d1_1)
  refine Comes.st st1 ?_
  show Comes p e below _ (T1.setTop (mkF m 4 #[.val (.int (8 : Int32))] [(.ref arr), (.int (8 : Int32))]))
  obtain ⟨cl2, Ar2, -, S2, Ng2, -, -⟩ := id G2
  refine Comes.st (fun t k => X1.arraylength hx (by rw [e1]; exact Ar2.1) (State.isArrayOf_alike hZ.alike Ar2.2.1) (g := (mkF m 4 #[.val (.int (8 : Int32))] [(.ref arr), (.int (8 : Int32))])) rfl rfl (hb hby d1_4) _ k) ?_
  rw [len_of S2 Ng2]
  show Comes p e below _ (T1.setTop (mkF m 5 #[.val (.int (8 : Int32))] [(.int (21 : Int32)), (.int (8 : Int32))]))
  have hc5_3 : (8 : Int32) < (21 : Int32) := by decide
  refine Comes.st (fun t k => XS.icmpNo X1.here hx rfl (hb hby d1_5) rfl (tlt hc5_3).2.1 k) ?_
  show Comes p e below _ (T1.setTop (mkF m 8 #[.val (.int (8 : Int32))] []))
  obtain ⟨T4, X4, e4, st4⟩ := getS2 X1 hx hZ hown (host := "") (Or.inl (hw _ (List.mem_of_getElem? (i := 5) rfl))) Via.refl e1 (G0.ext G1.2) (g := (mkF m 8 #[.val (.int (8 : Int32))] [])) rfl (hb hby d1_8)
  refine Comes.st st4 ?_
  show Comes p e below _ (T4.setTop (mkF m 11 #[.val (.int (8 : Int32))] [(.ref arr)]))
  refine Comes.st (fun t k => XS.iloadN X4.here hx rfl (hb hby d1_11) rfl k) ?_
  show Comes p e below _ (T4.setTop (mkF m 12 #[.val (.int (8 : Int32))] [(.int (8 : Int32)), (.ref arr)]))
  obtain ⟨cl5, Ar5, q5, S5, Ng5, H5, Gf5⟩ := id G2
  have hin5 : ¬ ((8 : Int32) < 0 ∨ cl5.slots.size ≤ ((8 : Int32)).toNatClampNeg) := inb_of S5 ⟨by decide, by decide⟩
  refine Comes.st (fun t k => X4.aaload hx (j := (8 : Int32)) (v := (.ref t8)) (by rw [e4]; exact Ar5.1) (State.isArrayOf_alike hZ.alike Ar5.2.1) rfl Ar5.2.2 hin5 (Has.at H5 hin5 rfl) (g := (mkF m 12 #[.val (.int (8 : Int32))] [(.int (8 : Int32)), (.ref arr)])) rfl rfl (hb hby d1_12) _ (XS.goto X4.here hx rfl (pc0 := 13) (pc' := 17) rfl (hb hby d1_13) (by decide) (by decide) k)) ?_
  show Comes p e below _ (T4.setTop (mkF m 17 #[.val (.int (8 : Int32))] [(.ref t8)]))
  exact Comes.retV X4 hx Bd.returns (narrow_ref rfl) (Or.inr (Or.inr (Or.inr (Or.inr ⟨rfl, rfl, rfl⟩)))) hlk (hb hby d1_17) e4 ⟨rfl, N0, rfl⟩ (by decide) (by decide)
def Q_rm1_9 (Z : State) (arr : Addr) (kk : ClassId) (t1 : Addr) (t3 : Addr) (t4 : Addr) (t5 : Addr) (t6 : Addr) (t7 : Addr) (t8 : Addr) (t9 : Addr) (t10 : Addr) (t11 : Addr) (t12 : Addr) (t15 : Addr) (t16 : Addr) (t17 : Addr) (t18 : Addr) (t19 : Addr) (t20 : Addr) (h0 : Heap) (n0 : Nat) (v : Option Value) (h : Heap) (L : List Loc) : Prop := (v = some (.ref t9)) ∧ (Fr n0 L) ∧ (h = h0)
set_option maxRecDepth 65536 in
set_option maxHeartbeats 40000000 in
theorem rm1_9 (l : Launch) (Z : State) (a0 : Array Value) (hw : ∀ d ∈ tables_1, d.before a0 Z = true) (ws : List Jvm.Cond) (arr : Addr) (kk : ClassId) (t1 : Addr) (t3 : Addr) (t4 : Addr) (t5 : Addr) (t6 : Addr) (t7 : Addr) (t8 : Addr) (t9 : Addr) (t10 : Addr) (t11 : Addr) (t12 : Addr) (t15 : Addr) (t16 : Addr) (t17 : Addr) (t18 : Addr) (t19 : Addr) (t20 : Addr) (h0 : Heap) (n0 : Nat) (Z0 : n0 ≤ h0.size) (G0 : Sta Z Z.heap "com/example/typeflow/typeflow/classfile/ConstantKind" "BY_TAG" "[Lcom/example/typeflow/typeflow/classfile/ConstantKind;" (.ref arr)) (G1 : Old Z n0 h0) (G2 : Arv Z h0 arr kk (.object "com/example/typeflow/typeflow/classfile/ConstantKind") (21 : Int32) [.null, (.ref t1), .null, (.ref t3), (.ref t4), (.ref t5), (.ref t6), (.ref t7), (.ref t8), (.ref t9), (.ref t10), (.ref t11), (.ref t12), .null, .null, (.ref t15), (.ref t16), (.ref t17), (.ref t18), (.ref t19), (.ref t20)] .null) :
    MetFree l (⟨"com/example/typeflow/typeflow/classfile/ConstantKind", "ofTag", "(I)Lcom/example/typeflow/typeflow/classfile/ConstantKind;"⟩ : MethodName) (head1 (Jvm.Cond.code (⟨"com/example/typeflow/typeflow/classfile/ConstantKind", "ofTag", "(I)Lcom/example/typeflow/typeflow/classfile/ConstantKind;"⟩ : MethodName) prog_59_method_4_code 1 (some (.object "com/example/typeflow/typeflow/classfile/ConstantKind")) :: ws) ({ frames := 0, cells := 0, slots := 0, locals := 0 } : Room)) (fun a U => a = #[(.int (9 : Int32))] ∧ Z.Warmed39 U.vm ∧ U.heap = h0) (fun _ _ _ _ _ => True) (fun _ U o U' => ∃ v L, o = .returned v ∧ Q_rm1_9 Z arr kk t1 t3 t4 t5 t6 t7 t8 t9 t10 t11 t12 t15 t16 t17 t18 t19 t20 h0 n0 v U'.heap L ∧ FrameEnd U o U' L ({ frames := 0, cells := 0, slots := 0, locals := 0 } : Room).cells ({ frames := 0, cells := 0, slots := 0, locals := 0 } : Room).slots) := by
  refine MetFree.of_bodySF (plainFor_of_name pn_1) hisR ?_
  intro p e s m args below meth c s₁ Bd hml0 hP hK
  obtain ⟨rfl, hZ, hh⟩ := hP
  have hx := Bd.exec
  have hby := Bd.bytes
  have hml : c.maxLocals = 1 := hml0
  have hown : s.vm.findClass "com/example/typeflow/typeflow/classfile/ConstantKind" = some m.cls := findClass_of_methodNamed Bd.named
  have hnm := (name_of_methodNamed Bd.named Bd.method).1
  have hlk : meth.locks = false := Bd.notSynchronized
  have X0 : Stand p l e ({ frames := 0, cells := 0, slots := 0, locals := 0 } : Room) s m #[(.int (9 : Int32))] below meth c s₁ [] 0 0 := Stand.of_body Bd
  have e0 : s₁.heap = h0 := by rw [← hh, Bd.state]; rfl
  have N0 := Fr.nil n0
  refine Comes.out (Q := Q_rm1_9 Z arr kk t1 t3 t4 t5 t6 t7 t8 t9 t10 t11 t12 t15 t16 t17 t18 t19 t20 h0 n0) (kc := ({ frames := 0, cells := 0, slots := 0, locals := 0 } : Room).cells) (ks := ({ frames := 0, cells := 0, slots := 0, locals := 0 } : Room).slots) ?_
  refine Comes.cast (ef_rm1_9 m ) ?_
  have lt_arr : arr < h0.size := G2.lt
  show Comes p e below _ (s₁.setTop (mkF m 0 #[.val (.int (9 : Int32))] []))
  refine Comes.st (fun t k => XS.iloadN X0.here hx rfl (hb hby d1_0) rfl k) ?_
  show Comes p e below _ (s₁.setTop (mkF m 1 #[.val (.int (9 : Int32))] [(.int (9 : Int32))]))
  obtain ⟨T1, X1, e1, st1⟩ := getS2 X0 hx hZ hown (host := "") (Or.inl (hw _ (List.mem_of_getElem? (i := 5) rfl))) Via.refl e0 (G0.ext G1.2) (g := (mkF m 1 #[.val (.int (9 : Int32))] [(.int (9 : Int32))])) rfl (hb hby d1_1)
  refine Comes.st st1 ?_
  show Comes p e below _ (T1.setTop (mkF m 4 #[.val (.int (9 : Int32))] [(.ref arr), (.int (9 : Int32))]))
  obtain ⟨cl2, Ar2, -, S2, Ng2, -, -⟩ := id G2
  refine Comes.st (fun t k => X1.arraylength hx (by rw [e1]; exact Ar2.1) (State.isArrayOf_alike hZ.alike Ar2.2.1) (g := (mkF m 4 #[.val (.int (9 : Int32))] [(.ref arr), (.int (9 : Int32))])) rfl rfl (hb hby d1_4) _ k) ?_
  rw [len_of S2 Ng2]
  show Comes p e below _ (T1.setTop (mkF m 5 #[.val (.int (9 : Int32))] [(.int (21 : Int32)), (.int (9 : Int32))]))
  have hc5_3 : (9 : Int32) < (21 : Int32) := by decide
  refine Comes.st (fun t k => XS.icmpNo X1.here hx rfl (hb hby d1_5) rfl (tlt hc5_3).2.1 k) ?_
  show Comes p e below _ (T1.setTop (mkF m 8 #[.val (.int (9 : Int32))] []))
  obtain ⟨T4, X4, e4, st4⟩ := getS2 X1 hx hZ hown (host := "") (Or.inl (hw _ (List.mem_of_getElem? (i := 5) rfl))) Via.refl e1 (G0.ext G1.2) (g := (mkF m 8 #[.val (.int (9 : Int32))] [])) rfl (hb hby d1_8)
  refine Comes.st st4 ?_
  show Comes p e below _ (T4.setTop (mkF m 11 #[.val (.int (9 : Int32))] [(.ref arr)]))
  refine Comes.st (fun t k => XS.iloadN X4.here hx rfl (hb hby d1_11) rfl k) ?_
  show Comes p e below _ (T4.setTop (mkF m 12 #[.val (.int (9 : Int32))] [(.int (9 : Int32)), (.ref arr)]))
  obtain ⟨cl5, Ar5, q5, S5, Ng5, H5, Gf5⟩ := id G2
  have hin5 : ¬ ((9 : Int32) < 0 ∨ cl5.slots.size ≤ ((9 : Int32)).toNatClampNeg) := inb_of S5 ⟨by decide, by decide⟩
  refine Comes.st (fun t k => X4.aaload hx (j := (9 : Int32)) (v := (.ref t9)) (by rw [e4]; exact Ar5.1) (State.isArrayOf_alike hZ.alike Ar5.2.1) rfl Ar5.2.2 hin5 (Has.at H5 hin5 rfl) (g := (mkF m 12 #[.val (.int (9 : Int32))] [(.int (9 : Int32)), (.ref arr)])) rfl rfl (hb hby d1_12) _ (XS.goto X4.here hx rfl (pc0 := 13) (pc' := 17) rfl (hb hby d1_13) (by decide) (by decide) k)) ?_
  show Comes p e below _ (T4.setTop (mkF m 17 #[.val (.int (9 : Int32))] [(.ref t9)]))
  exact Comes.retV X4 hx Bd.returns (narrow_ref rfl) (Or.inr (Or.inr (Or.inr (Or.inr ⟨rfl, rfl, rfl⟩)))) hlk (hb hby d1_17) e4 ⟨rfl, N0, rfl⟩ (by decide) (by decide)
def Q_rm1_10 (Z : State) (arr : Addr) (kk : ClassId) (t1 : Addr) (t3 : Addr) (t4 : Addr) (t5 : Addr) (t6 : Addr) (t7 : Addr) (t8 : Addr) (t9 : Addr) (t10 : Addr) (t11 : Addr) (t12 : Addr) (t15 : Addr) (t16 : Addr) (t17 : Addr) (t18 : Addr) (t19 : Addr) (t20 : Addr) (h0 : Heap) (n0 : Nat) (v : Option Value) (h : Heap) (L : List Loc) : Prop := (v = some (.ref t10)) ∧ (Fr n0 L) ∧ (h = h0)
set_option maxRecDepth 65536 in
set_option maxHeartbeats 40000000 in
theorem rm1_10 (l : Launch) (Z : State) (a0 : Array Value) (hw : ∀ d ∈ tables_1, d.before a0 Z = true) (ws : List Jvm.Cond) (arr : Addr) (kk : ClassId) (t1 : Addr) (t3 : Addr) (t4 : Addr) (t5 : Addr) (t6 : Addr) (t7 : Addr) (t8 : Addr) (t9 : Addr) (t10 : Addr) (t11 : Addr) (t12 : Addr) (t15 : Addr) (t16 : Addr) (t17 : Addr) (t18 : Addr) (t19 : Addr) (t20 : Addr) (h0 : Heap) (n0 : Nat) (Z0 : n0 ≤ h0.size) (G0 : Sta Z Z.heap "com/example/typeflow/typeflow/classfile/ConstantKind" "BY_TAG" "[Lcom/example/typeflow/typeflow/classfile/ConstantKind;" (.ref arr)) (G1 : Old Z n0 h0) (G2 : Arv Z h0 arr kk (.object "com/example/typeflow/typeflow/classfile/ConstantKind") (21 : Int32) [.null, (.ref t1), .null, (.ref t3), (.ref t4), (.ref t5), (.ref t6), (.ref t7), (.ref t8), (.ref t9), (.ref t10), (.ref t11), (.ref t12), .null, .null, (.ref t15), (.ref t16), (.ref t17), (.ref t18), (.ref t19), (.ref t20)] .null) :
    MetFree l (⟨"com/example/typeflow/typeflow/classfile/ConstantKind", "ofTag", "(I)Lcom/example/typeflow/typeflow/classfile/ConstantKind;"⟩ : MethodName) (head1 (Jvm.Cond.code (⟨"com/example/typeflow/typeflow/classfile/ConstantKind", "ofTag", "(I)Lcom/example/typeflow/typeflow/classfile/ConstantKind;"⟩ : MethodName) prog_59_method_4_code 1 (some (.object "com/example/typeflow/typeflow/classfile/ConstantKind")) :: ws) ({ frames := 0, cells := 0, slots := 0, locals := 0 } : Room)) (fun a U => a = #[(.int (10 : Int32))] ∧ Z.Warmed39 U.vm ∧ U.heap = h0) (fun _ _ _ _ _ => True) (fun _ U o U' => ∃ v L, o = .returned v ∧ Q_rm1_10 Z arr kk t1 t3 t4 t5 t6 t7 t8 t9 t10 t11 t12 t15 t16 t17 t18 t19 t20 h0 n0 v U'.heap L ∧ FrameEnd U o U' L ({ frames := 0, cells := 0, slots := 0, locals := 0 } : Room).cells ({ frames := 0, cells := 0, slots := 0, locals := 0 } : Room).slots) := by
  refine MetFree.of_bodySF (plainFor_of_name pn_1) hisR ?_
  intro p e s m args below meth c s₁ Bd hml0 hP hK
  obtain ⟨rfl, hZ, hh⟩ := hP
  have hx := Bd.exec
  have hby := Bd.bytes
  have hml : c.maxLocals = 1 := hml0
  have hown : s.vm.findClass "com/example/typeflow/typeflow/classfile/ConstantKind" = some m.cls := findClass_of_methodNamed Bd.named
  have hnm := (name_of_methodNamed Bd.named Bd.method).1
  have hlk : meth.locks = false := Bd.notSynchronized
  have X0 : Stand p l e ({ frames := 0, cells := 0, slots := 0, locals := 0 } : Room) s m #[(.int (10 : Int32))] below meth c s₁ [] 0 0 := Stand.of_body Bd
  have e0 : s₁.heap = h0 := by rw [← hh, Bd.state]; rfl
  have N0 := Fr.nil n0
  refine Comes.out (Q := Q_rm1_10 Z arr kk t1 t3 t4 t5 t6 t7 t8 t9 t10 t11 t12 t15 t16 t17 t18 t19 t20 h0 n0) (kc := ({ frames := 0, cells := 0, slots := 0, locals := 0 } : Room).cells) (ks := ({ frames := 0, cells := 0, slots := 0, locals := 0 } : Room).slots) ?_
  refine Comes.cast (ef_rm1_10 m ) ?_
  have lt_arr : arr < h0.size := G2.lt
  show Comes p e below _ (s₁.setTop (mkF m 0 #[.val (.int (10 : Int32))] []))
  refine Comes.st (fun t k => XS.iloadN X0.here hx rfl (hb hby d1_0) rfl k) ?_
  show Comes p e below _ (s₁.setTop (mkF m 1 #[.val (.int (10 : Int32))] [(.int (10 : Int32))]))
  obtain ⟨T1, X1, e1, st1⟩ := getS2 X0 hx hZ hown (host := "") (Or.inl (hw _ (List.mem_of_getElem? (i := 5) rfl))) Via.refl e0 (G0.ext G1.2) (g := (mkF m 1 #[.val (.int (10 : Int32))] [(.int (10 : Int32))])) rfl (hb hby d1_1)
  refine Comes.st st1 ?_
  show Comes p e below _ (T1.setTop (mkF m 4 #[.val (.int (10 : Int32))] [(.ref arr), (.int (10 : Int32))]))
  obtain ⟨cl2, Ar2, -, S2, Ng2, -, -⟩ := id G2
  refine Comes.st (fun t k => X1.arraylength hx (by rw [e1]; exact Ar2.1) (State.isArrayOf_alike hZ.alike Ar2.2.1) (g := (mkF m 4 #[.val (.int (10 : Int32))] [(.ref arr), (.int (10 : Int32))])) rfl rfl (hb hby d1_4) _ k) ?_
  rw [len_of S2 Ng2]
  show Comes p e below _ (T1.setTop (mkF m 5 #[.val (.int (10 : Int32))] [(.int (21 : Int32)), (.int (10 : Int32))]))
  have hc5_3 : (10 : Int32) < (21 : Int32) := by decide
  refine Comes.st (fun t k => XS.icmpNo X1.here hx rfl (hb hby d1_5) rfl (tlt hc5_3).2.1 k) ?_
  show Comes p e below _ (T1.setTop (mkF m 8 #[.val (.int (10 : Int32))] []))
  obtain ⟨T4, X4, e4, st4⟩ := getS2 X1 hx hZ hown (host := "") (Or.inl (hw _ (List.mem_of_getElem? (i := 5) rfl))) Via.refl e1 (G0.ext G1.2) (g := (mkF m 8 #[.val (.int (10 : Int32))] [])) rfl (hb hby d1_8)
  refine Comes.st st4 ?_
  show Comes p e below _ (T4.setTop (mkF m 11 #[.val (.int (10 : Int32))] [(.ref arr)]))
  refine Comes.st (fun t k => XS.iloadN X4.here hx rfl (hb hby d1_11) rfl k) ?_
  show Comes p e below _ (T4.setTop (mkF m 12 #[.val (.int (10 : Int32))] [(.int (10 : Int32)), (.ref arr)]))
  obtain ⟨cl5, Ar5, q5, S5, Ng5, H5, Gf5⟩ := id G2
  have hin5 : ¬ ((10 : Int32) < 0 ∨ cl5.slots.size ≤ ((10 : Int32)).toNatClampNeg) := inb_of S5 ⟨by decide, by decide⟩
  refine Comes.st (fun t k => X4.aaload hx (j := (10 : Int32)) (v := (.ref t10)) (by rw [e4]; exact Ar5.1) (State.isArrayOf_alike hZ.alike Ar5.2.1) rfl Ar5.2.2 hin5 (Has.at H5 hin5 rfl) (g := (mkF m 12 #[.val (.int (10 : Int32))] [(.int (10 : Int32)), (.ref arr)])) rfl rfl (hb hby d1_12) _ (XS.goto X4.here hx rfl (pc0 := 13) (pc' := 17) rfl (hb hby d1_13) (by decide) (by decide) k)) ?_
  show Comes p e below _ (T4.setTop (mkF m 17 #[.val (.int (10 : Int32))] [(.ref t10)]))
  exact Comes.retV X4 hx Bd.returns (narrow_ref rfl) (Or.inr (Or.inr (Or.inr (Or.inr ⟨rfl, rfl, rfl⟩)))) hlk (hb hby d1_17) e4 ⟨rfl, N0, rfl⟩ (by decide) (by decide)
def Q_rm1_11 (Z : State) (arr : Addr) (kk : ClassId) (t1 : Addr) (t3 : Addr) (t4 : Addr) (t5 : Addr) (t6 : Addr) (t7 : Addr) (t8 : Addr) (t9 : Addr) (t10 : Addr) (t11 : Addr) (t12 : Addr) (t15 : Addr) (t16 : Addr) (t17 : Addr) (t18 : Addr) (t19 : Addr) (t20 : Addr) (h0 : Heap) (n0 : Nat) (v : Option Value) (h : Heap) (L : List Loc) : Prop := (v = some (.ref t11)) ∧ (Fr n0 L) ∧ (h = h0)
set_option maxRecDepth 65536 in
set_option maxHeartbeats 40000000 in
theorem rm1_11 (l : Launch) (Z : State) (a0 : Array Value) (hw : ∀ d ∈ tables_1, d.before a0 Z = true) (ws : List Jvm.Cond) (arr : Addr) (kk : ClassId) (t1 : Addr) (t3 : Addr) (t4 : Addr) (t5 : Addr) (t6 : Addr) (t7 : Addr) (t8 : Addr) (t9 : Addr) (t10 : Addr) (t11 : Addr) (t12 : Addr) (t15 : Addr) (t16 : Addr) (t17 : Addr) (t18 : Addr) (t19 : Addr) (t20 : Addr) (h0 : Heap) (n0 : Nat) (Z0 : n0 ≤ h0.size) (G0 : Sta Z Z.heap "com/example/typeflow/typeflow/classfile/ConstantKind" "BY_TAG" "[Lcom/example/typeflow/typeflow/classfile/ConstantKind;" (.ref arr)) (G1 : Old Z n0 h0) (G2 : Arv Z h0 arr kk (.object "com/example/typeflow/typeflow/classfile/ConstantKind") (21 : Int32) [.null, (.ref t1), .null, (.ref t3), (.ref t4), (.ref t5), (.ref t6), (.ref t7), (.ref t8), (.ref t9), (.ref t10), (.ref t11), (.ref t12), .null, .null, (.ref t15), (.ref t16), (.ref t17), (.ref t18), (.ref t19), (.ref t20)] .null) :
    MetFree l (⟨"com/example/typeflow/typeflow/classfile/ConstantKind", "ofTag", "(I)Lcom/example/typeflow/typeflow/classfile/ConstantKind;"⟩ : MethodName) (head1 (Jvm.Cond.code (⟨"com/example/typeflow/typeflow/classfile/ConstantKind", "ofTag", "(I)Lcom/example/typeflow/typeflow/classfile/ConstantKind;"⟩ : MethodName) prog_59_method_4_code 1 (some (.object "com/example/typeflow/typeflow/classfile/ConstantKind")) :: ws) ({ frames := 0, cells := 0, slots := 0, locals := 0 } : Room)) (fun a U => a = #[(.int (11 : Int32))] ∧ Z.Warmed39 U.vm ∧ U.heap = h0) (fun _ _ _ _ _ => True) (fun _ U o U' => ∃ v L, o = .returned v ∧ Q_rm1_11 Z arr kk t1 t3 t4 t5 t6 t7 t8 t9 t10 t11 t12 t15 t16 t17 t18 t19 t20 h0 n0 v U'.heap L ∧ FrameEnd U o U' L ({ frames := 0, cells := 0, slots := 0, locals := 0 } : Room).cells ({ frames := 0, cells := 0, slots := 0, locals := 0 } : Room).slots) := by
  refine MetFree.of_bodySF (plainFor_of_name pn_1) hisR ?_
  intro p e s m args below meth c s₁ Bd hml0 hP hK
  obtain ⟨rfl, hZ, hh⟩ := hP
  have hx := Bd.exec
  have hby := Bd.bytes
  have hml : c.maxLocals = 1 := hml0
  have hown : s.vm.findClass "com/example/typeflow/typeflow/classfile/ConstantKind" = some m.cls := findClass_of_methodNamed Bd.named
  have hnm := (name_of_methodNamed Bd.named Bd.method).1
  have hlk : meth.locks = false := Bd.notSynchronized
  have X0 : Stand p l e ({ frames := 0, cells := 0, slots := 0, locals := 0 } : Room) s m #[(.int (11 : Int32))] below meth c s₁ [] 0 0 := Stand.of_body Bd
  have e0 : s₁.heap = h0 := by rw [← hh, Bd.state]; rfl
  have N0 := Fr.nil n0
  refine Comes.out (Q := Q_rm1_11 Z arr kk t1 t3 t4 t5 t6 t7 t8 t9 t10 t11 t12 t15 t16 t17 t18 t19 t20 h0 n0) (kc := ({ frames := 0, cells := 0, slots := 0, locals := 0 } : Room).cells) (ks := ({ frames := 0, cells := 0, slots := 0, locals := 0 } : Room).slots) ?_
  refine Comes.cast (ef_rm1_11 m ) ?_
  have lt_arr : arr < h0.size := G2.lt
  show Comes p e below _ (s₁.setTop (mkF m 0 #[.val (.int (11 : Int32))] []))
  refine Comes.st (fun t k => XS.iloadN X0.here hx rfl (hb hby d1_0) rfl k) ?_
  show Comes p e below _ (s₁.setTop (mkF m 1 #[.val (.int (11 : Int32))] [(.int (11 : Int32))]))
  obtain ⟨T1, X1, e1, st1⟩ := getS2 X0 hx hZ hown (host := "") (Or.inl (hw _ (List.mem_of_getElem? (i := 5) rfl))) Via.refl e0 (G0.ext G1.2) (g := (mkF m 1 #[.val (.int (11 : Int32))] [(.int (11 : Int32))])) rfl (hb hby d1_1)
  refine Comes.st st1 ?_
  show Comes p e below _ (T1.setTop (mkF m 4 #[.val (.int (11 : Int32))] [(.ref arr), (.int (11 : Int32))]))
  obtain ⟨cl2, Ar2, -, S2, Ng2, -, -⟩ := id G2
  refine Comes.st (fun t k => X1.arraylength hx (by rw [e1]; exact Ar2.1) (State.isArrayOf_alike hZ.alike Ar2.2.1) (g := (mkF m 4 #[.val (.int (11 : Int32))] [(.ref arr), (.int (11 : Int32))])) rfl rfl (hb hby d1_4) _ k) ?_
  rw [len_of S2 Ng2]
  show Comes p e below _ (T1.setTop (mkF m 5 #[.val (.int (11 : Int32))] [(.int (21 : Int32)), (.int (11 : Int32))]))
  have hc5_3 : (11 : Int32) < (21 : Int32) := by decide
  refine Comes.st (fun t k => XS.icmpNo X1.here hx rfl (hb hby d1_5) rfl (tlt hc5_3).2.1 k) ?_
  show Comes p e below _ (T1.setTop (mkF m 8 #[.val (.int (11 : Int32))] []))
  obtain ⟨T4, X4, e4, st4⟩ := getS2 X1 hx hZ hown (host := "") (Or.inl (hw _ (List.mem_of_getElem? (i := 5) rfl))) Via.refl e1 (G0.ext G1.2) (g := (mkF m 8 #[.val (.int (11 : Int32))] [])) rfl (hb hby d1_8)
  refine Comes.st st4 ?_
  show Comes p e below _ (T4.setTop (mkF m 11 #[.val (.int (11 : Int32))] [(.ref arr)]))
  refine Comes.st (fun t k => XS.iloadN X4.here hx rfl (hb hby d1_11) rfl k) ?_
  show Comes p e below _ (T4.setTop (mkF m 12 #[.val (.int (11 : Int32))] [(.int (11 : Int32)), (.ref arr)]))
  obtain ⟨cl5, Ar5, q5, S5, Ng5, H5, Gf5⟩ := id G2
  have hin5 : ¬ ((11 : Int32) < 0 ∨ cl5.slots.size ≤ ((11 : Int32)).toNatClampNeg) := inb_of S5 ⟨by decide, by decide⟩
  refine Comes.st (fun t k => X4.aaload hx (j := (11 : Int32)) (v := (.ref t11)) (by rw [e4]; exact Ar5.1) (State.isArrayOf_alike hZ.alike Ar5.2.1) rfl Ar5.2.2 hin5 (Has.at H5 hin5 rfl) (g := (mkF m 12 #[.val (.int (11 : Int32))] [(.int (11 : Int32)), (.ref arr)])) rfl rfl (hb hby d1_12) _ (XS.goto X4.here hx rfl (pc0 := 13) (pc' := 17) rfl (hb hby d1_13) (by decide) (by decide) k)) ?_
  show Comes p e below _ (T4.setTop (mkF m 17 #[.val (.int (11 : Int32))] [(.ref t11)]))
  exact Comes.retV X4 hx Bd.returns (narrow_ref rfl) (Or.inr (Or.inr (Or.inr (Or.inr ⟨rfl, rfl, rfl⟩)))) hlk (hb hby d1_17) e4 ⟨rfl, N0, rfl⟩ (by decide) (by decide)
def Q_rm1_12 (Z : State) (arr : Addr) (kk : ClassId) (t1 : Addr) (t3 : Addr) (t4 : Addr) (t5 : Addr) (t6 : Addr) (t7 : Addr) (t8 : Addr) (t9 : Addr) (t10 : Addr) (t11 : Addr) (t12 : Addr) (t15 : Addr) (t16 : Addr) (t17 : Addr) (t18 : Addr) (t19 : Addr) (t20 : Addr) (h0 : Heap) (n0 : Nat) (v : Option Value) (h : Heap) (L : List Loc) : Prop := (v = some (.ref t12)) ∧ (Fr n0 L) ∧ (h = h0)
set_option maxRecDepth 65536 in
set_option maxHeartbeats 40000000 in
theorem rm1_12 (l : Launch) (Z : State) (a0 : Array Value) (hw : ∀ d ∈ tables_1, d.before a0 Z = true) (ws : List Jvm.Cond) (arr : Addr) (kk : ClassId) (t1 : Addr) (t3 : Addr) (t4 : Addr) (t5 : Addr) (t6 : Addr) (t7 : Addr) (t8 : Addr) (t9 : Addr) (t10 : Addr) (t11 : Addr) (t12 : Addr) (t15 : Addr) (t16 : Addr) (t17 : Addr) (t18 : Addr) (t19 : Addr) (t20 : Addr) (h0 : Heap) (n0 : Nat) (Z0 : n0 ≤ h0.size) (G0 : Sta Z Z.heap "com/example/typeflow/typeflow/classfile/ConstantKind" "BY_TAG" "[Lcom/example/typeflow/typeflow/classfile/ConstantKind;" (.ref arr)) (G1 : Old Z n0 h0) (G2 : Arv Z h0 arr kk (.object "com/example/typeflow/typeflow/classfile/ConstantKind") (21 : Int32) [.null, (.ref t1), .null, (.ref t3), (.ref t4), (.ref t5), (.ref t6), (.ref t7), (.ref t8), (.ref t9), (.ref t10), (.ref t11), (.ref t12), .null, .null, (.ref t15), (.ref t16), (.ref t17), (.ref t18), (.ref t19), (.ref t20)] .null) :
    MetFree l (⟨"com/example/typeflow/typeflow/classfile/ConstantKind", "ofTag", "(I)Lcom/example/typeflow/typeflow/classfile/ConstantKind;"⟩ : MethodName) (head1 (Jvm.Cond.code (⟨"com/example/typeflow/typeflow/classfile/ConstantKind", "ofTag", "(I)Lcom/example/typeflow/typeflow/classfile/ConstantKind;"⟩ : MethodName) prog_59_method_4_code 1 (some (.object "com/example/typeflow/typeflow/classfile/ConstantKind")) :: ws) ({ frames := 0, cells := 0, slots := 0, locals := 0 } : Room)) (fun a U => a = #[(.int (12 : Int32))] ∧ Z.Warmed39 U.vm ∧ U.heap = h0) (fun _ _ _ _ _ => True) (fun _ U o U' => ∃ v L, o = .returned v ∧ Q_rm1_12 Z arr kk t1 t3 t4 t5 t6 t7 t8 t9 t10 t11 t12 t15 t16 t17 t18 t19 t20 h0 n0 v U'.heap L ∧ FrameEnd U o U' L ({ frames := 0, cells := 0, slots := 0, locals := 0 } : Room).cells ({ frames := 0, cells := 0, slots := 0, locals := 0 } : Room).slots) := by
  refine MetFree.of_bodySF (plainFor_of_name pn_1) hisR ?_
  intro p e s m args below meth c s₁ Bd hml0 hP hK
  obtain ⟨rfl, hZ, hh⟩ := hP
  have hx := Bd.exec
  have hby := Bd.bytes
  have hml : c.maxLocals = 1 := hml0
  have hown : s.vm.findClass "com/example/typeflow/typeflow/classfile/ConstantKind" = some m.cls := findClass_of_methodNamed Bd.named
  have hnm := (name_of_methodNamed Bd.named Bd.method).1
  have hlk : meth.locks = false := Bd.notSynchronized
  have X0 : Stand p l e ({ frames := 0, cells := 0, slots := 0, locals := 0 } : Room) s m #[(.int (12 : Int32))] below meth c s₁ [] 0 0 := Stand.of_body Bd
  have e0 : s₁.heap = h0 := by rw [← hh, Bd.state]; rfl
  have N0 := Fr.nil n0
  refine Comes.out (Q := Q_rm1_12 Z arr kk t1 t3 t4 t5 t6 t7 t8 t9 t10 t11 t12 t15 t16 t17 t18 t19 t20 h0 n0) (kc := ({ frames := 0, cells := 0, slots := 0, locals := 0 } : Room).cells) (ks := ({ frames := 0, cells := 0, slots := 0, locals := 0 } : Room).slots) ?_
  refine Comes.cast (ef_rm1_12 m ) ?_
  have lt_arr : arr < h0.size := G2.lt
  show Comes p e below _ (s₁.setTop (mkF m 0 #[.val (.int (12 : Int32))] []))
  refine Comes.st (fun t k => XS.iloadN X0.here hx rfl (hb hby d1_0) rfl k) ?_
  show Comes p e below _ (s₁.setTop (mkF m 1 #[.val (.int (12 : Int32))] [(.int (12 : Int32))]))
  obtain ⟨T1, X1, e1, st1⟩ := getS2 X0 hx hZ hown (host := "") (Or.inl (hw _ (List.mem_of_getElem? (i := 5) rfl))) Via.refl e0 (G0.ext G1.2) (g := (mkF m 1 #[.val (.int (12 : Int32))] [(.int (12 : Int32))])) rfl (hb hby d1_1)
  refine Comes.st st1 ?_
  show Comes p e below _ (T1.setTop (mkF m 4 #[.val (.int (12 : Int32))] [(.ref arr), (.int (12 : Int32))]))
  obtain ⟨cl2, Ar2, -, S2, Ng2, -, -⟩ := id G2
  refine Comes.st (fun t k => X1.arraylength hx (by rw [e1]; exact Ar2.1) (State.isArrayOf_alike hZ.alike Ar2.2.1) (g := (mkF m 4 #[.val (.int (12 : Int32))] [(.ref arr), (.int (12 : Int32))])) rfl rfl (hb hby d1_4) _ k) ?_
  rw [len_of S2 Ng2]
  show Comes p e below _ (T1.setTop (mkF m 5 #[.val (.int (12 : Int32))] [(.int (21 : Int32)), (.int (12 : Int32))]))
  have hc5_3 : (12 : Int32) < (21 : Int32) := by decide
  refine Comes.st (fun t k => XS.icmpNo X1.here hx rfl (hb hby d1_5) rfl (tlt hc5_3).2.1 k) ?_
  show Comes p e below _ (T1.setTop (mkF m 8 #[.val (.int (12 : Int32))] []))
  obtain ⟨T4, X4, e4, st4⟩ := getS2 X1 hx hZ hown (host := "") (Or.inl (hw _ (List.mem_of_getElem? (i := 5) rfl))) Via.refl e1 (G0.ext G1.2) (g := (mkF m 8 #[.val (.int (12 : Int32))] [])) rfl (hb hby d1_8)
  refine Comes.st st4 ?_
  show Comes p e below _ (T4.setTop (mkF m 11 #[.val (.int (12 : Int32))] [(.ref arr)]))
  refine Comes.st (fun t k => XS.iloadN X4.here hx rfl (hb hby d1_11) rfl k) ?_
  show Comes p e below _ (T4.setTop (mkF m 12 #[.val (.int (12 : Int32))] [(.int (12 : Int32)), (.ref arr)]))
  obtain ⟨cl5, Ar5, q5, S5, Ng5, H5, Gf5⟩ := id G2
  have hin5 : ¬ ((12 : Int32) < 0 ∨ cl5.slots.size ≤ ((12 : Int32)).toNatClampNeg) := inb_of S5 ⟨by decide, by decide⟩
  refine Comes.st (fun t k => X4.aaload hx (j := (12 : Int32)) (v := (.ref t12)) (by rw [e4]; exact Ar5.1) (State.isArrayOf_alike hZ.alike Ar5.2.1) rfl Ar5.2.2 hin5 (Has.at H5 hin5 rfl) (g := (mkF m 12 #[.val (.int (12 : Int32))] [(.int (12 : Int32)), (.ref arr)])) rfl rfl (hb hby d1_12) _ (XS.goto X4.here hx rfl (pc0 := 13) (pc' := 17) rfl (hb hby d1_13) (by decide) (by decide) k)) ?_
  show Comes p e below _ (T4.setTop (mkF m 17 #[.val (.int (12 : Int32))] [(.ref t12)]))
  exact Comes.retV X4 hx Bd.returns (narrow_ref rfl) (Or.inr (Or.inr (Or.inr (Or.inr ⟨rfl, rfl, rfl⟩)))) hlk (hb hby d1_17) e4 ⟨rfl, N0, rfl⟩ (by decide) (by decide)
def Q_rm1_13 (Z : State) (arr : Addr) (kk : ClassId) (t1 : Addr) (t3 : Addr) (t4 : Addr) (t5 : Addr) (t6 : Addr) (t7 : Addr) (t8 : Addr) (t9 : Addr) (t10 : Addr) (t11 : Addr) (t12 : Addr) (t15 : Addr) (t16 : Addr) (t17 : Addr) (t18 : Addr) (t19 : Addr) (t20 : Addr) (h0 : Heap) (n0 : Nat) (v : Option Value) (h : Heap) (L : List Loc) : Prop := (v = some .null) ∧ (Fr n0 L) ∧ (h = h0)
set_option maxRecDepth 65536 in
set_option maxHeartbeats 40000000 in
theorem rm1_13 (l : Launch) (Z : State) (a0 : Array Value) (hw : ∀ d ∈ tables_1, d.before a0 Z = true) (ws : List Jvm.Cond) (arr : Addr) (kk : ClassId) (t1 : Addr) (t3 : Addr) (t4 : Addr) (t5 : Addr) (t6 : Addr) (t7 : Addr) (t8 : Addr) (t9 : Addr) (t10 : Addr) (t11 : Addr) (t12 : Addr) (t15 : Addr) (t16 : Addr) (t17 : Addr) (t18 : Addr) (t19 : Addr) (t20 : Addr) (h0 : Heap) (n0 : Nat) (Z0 : n0 ≤ h0.size) (G0 : Sta Z Z.heap "com/example/typeflow/typeflow/classfile/ConstantKind" "BY_TAG" "[Lcom/example/typeflow/typeflow/classfile/ConstantKind;" (.ref arr)) (G1 : Old Z n0 h0) (G2 : Arv Z h0 arr kk (.object "com/example/typeflow/typeflow/classfile/ConstantKind") (21 : Int32) [.null, (.ref t1), .null, (.ref t3), (.ref t4), (.ref t5), (.ref t6), (.ref t7), (.ref t8), (.ref t9), (.ref t10), (.ref t11), (.ref t12), .null, .null, (.ref t15), (.ref t16), (.ref t17), (.ref t18), (.ref t19), (.ref t20)] .null) :
    MetFree l (⟨"com/example/typeflow/typeflow/classfile/ConstantKind", "ofTag", "(I)Lcom/example/typeflow/typeflow/classfile/ConstantKind;"⟩ : MethodName) (head1 (Jvm.Cond.code (⟨"com/example/typeflow/typeflow/classfile/ConstantKind", "ofTag", "(I)Lcom/example/typeflow/typeflow/classfile/ConstantKind;"⟩ : MethodName) prog_59_method_4_code 1 (some (.object "com/example/typeflow/typeflow/classfile/ConstantKind")) :: ws) ({ frames := 0, cells := 0, slots := 0, locals := 0 } : Room)) (fun a U => a = #[(.int (13 : Int32))] ∧ Z.Warmed39 U.vm ∧ U.heap = h0) (fun _ _ _ _ _ => True) (fun _ U o U' => ∃ v L, o = .returned v ∧ Q_rm1_13 Z arr kk t1 t3 t4 t5 t6 t7 t8 t9 t10 t11 t12 t15 t16 t17 t18 t19 t20 h0 n0 v U'.heap L ∧ FrameEnd U o U' L ({ frames := 0, cells := 0, slots := 0, locals := 0 } : Room).cells ({ frames := 0, cells := 0, slots := 0, locals := 0 } : Room).slots) := by
  refine MetFree.of_bodySF (plainFor_of_name pn_1) hisR ?_
  intro p e s m args below meth c s₁ Bd hml0 hP hK
  obtain ⟨rfl, hZ, hh⟩ := hP
  have hx := Bd.exec
  have hby := Bd.bytes
  have hml : c.maxLocals = 1 := hml0
  have hown : s.vm.findClass "com/example/typeflow/typeflow/classfile/ConstantKind" = some m.cls := findClass_of_methodNamed Bd.named
  have hnm := (name_of_methodNamed Bd.named Bd.method).1
  have hlk : meth.locks = false := Bd.notSynchronized
  have X0 : Stand p l e ({ frames := 0, cells := 0, slots := 0, locals := 0 } : Room) s m #[(.int (13 : Int32))] below meth c s₁ [] 0 0 := Stand.of_body Bd
  have e0 : s₁.heap = h0 := by rw [← hh, Bd.state]; rfl
  have N0 := Fr.nil n0
  refine Comes.out (Q := Q_rm1_13 Z arr kk t1 t3 t4 t5 t6 t7 t8 t9 t10 t11 t12 t15 t16 t17 t18 t19 t20 h0 n0) (kc := ({ frames := 0, cells := 0, slots := 0, locals := 0 } : Room).cells) (ks := ({ frames := 0, cells := 0, slots := 0, locals := 0 } : Room).slots) ?_
  refine Comes.cast (ef_rm1_13 m ) ?_
  have lt_arr : arr < h0.size := G2.lt
  show Comes p e below _ (s₁.setTop (mkF m 0 #[.val (.int (13 : Int32))] []))
  refine Comes.st (fun t k => XS.iloadN X0.here hx rfl (hb hby d1_0) rfl k) ?_
  show Comes p e below _ (s₁.setTop (mkF m 1 #[.val (.int (13 : Int32))] [(.int (13 : Int32))]))
  obtain ⟨T1, X1, e1, st1⟩ := getS2 X0 hx hZ hown (host := "") (Or.inl (hw _ (List.mem_of_getElem? (i := 5) rfl))) Via.refl e0 (G0.ext G1.2) (g := (mkF m 1 #[.val (.int (13 : Int32))] [(.int (13 : Int32))])) rfl (hb hby d1_1)
  refine Comes.st st1 ?_
  show Comes p e below _ (T1.setTop (mkF m 4 #[.val (.int (13 : Int32))] [(.ref arr), (.int (13 : Int32))]))
  obtain ⟨cl2, Ar2, -, S2, Ng2, -, -⟩ := id G2
  refine Comes.st (fun t k => X1.arraylength hx (by rw [e1]; exact Ar2.1) (State.isArrayOf_alike hZ.alike Ar2.2.1) (g := (mkF m 4 #[.val (.int (13 : Int32))] [(.ref arr), (.int (13 : Int32))])) rfl rfl (hb hby d1_4) _ k) ?_
  rw [len_of S2 Ng2]
  show Comes p e below _ (T1.setTop (mkF m 5 #[.val (.int (13 : Int32))] [(.int (21 : Int32)), (.int (13 : Int32))]))
  have hc5_3 : (13 : Int32) < (21 : Int32) := by decide
  refine Comes.st (fun t k => XS.icmpNo X1.here hx rfl (hb hby d1_5) rfl (tlt hc5_3).2.1 k) ?_
  show Comes p e below _ (T1.setTop (mkF m 8 #[.val (.int (13 : Int32))] []))
  obtain ⟨T4, X4, e4, st4⟩ := getS2 X1 hx hZ hown (host := "") (Or.inl (hw _ (List.mem_of_getElem? (i := 5) rfl))) Via.refl e1 (G0.ext G1.2) (g := (mkF m 8 #[.val (.int (13 : Int32))] [])) rfl (hb hby d1_8)
  refine Comes.st st4 ?_
  show Comes p e below _ (T4.setTop (mkF m 11 #[.val (.int (13 : Int32))] [(.ref arr)]))
  refine Comes.st (fun t k => XS.iloadN X4.here hx rfl (hb hby d1_11) rfl k) ?_
  show Comes p e below _ (T4.setTop (mkF m 12 #[.val (.int (13 : Int32))] [(.int (13 : Int32)), (.ref arr)]))
  obtain ⟨cl5, Ar5, q5, S5, Ng5, H5, Gf5⟩ := id G2
  have hin5 : ¬ ((13 : Int32) < 0 ∨ cl5.slots.size ≤ ((13 : Int32)).toNatClampNeg) := inb_of S5 ⟨by decide, by decide⟩
  refine Comes.st (fun t k => X4.aaload hx (j := (13 : Int32)) (v := .null) (by rw [e4]; exact Ar5.1) (State.isArrayOf_alike hZ.alike Ar5.2.1) rfl Ar5.2.2 hin5 (Has.at H5 hin5 rfl) (g := (mkF m 12 #[.val (.int (13 : Int32))] [(.int (13 : Int32)), (.ref arr)])) rfl rfl (hb hby d1_12) _ (XS.goto X4.here hx rfl (pc0 := 13) (pc' := 17) rfl (hb hby d1_13) (by decide) (by decide) k)) ?_
  show Comes p e below _ (T4.setTop (mkF m 17 #[.val (.int (13 : Int32))] [.null]))
  exact Comes.retV X4 hx Bd.returns (narrow_ref rfl) (Or.inr (Or.inr (Or.inr (Or.inr ⟨rfl, rfl, rfl⟩)))) hlk (hb hby d1_17) e4 ⟨rfl, N0, rfl⟩ (by decide) (by decide)
def Q_rm1_14 (Z : State) (arr : Addr) (kk : ClassId) (t1 : Addr) (t3 : Addr) (t4 : Addr) (t5 : Addr) (t6 : Addr) (t7 : Addr) (t8 : Addr) (t9 : Addr) (t10 : Addr) (t11 : Addr) (t12 : Addr) (t15 : Addr) (t16 : Addr) (t17 : Addr) (t18 : Addr) (t19 : Addr) (t20 : Addr) (h0 : Heap) (n0 : Nat) (v : Option Value) (h : Heap) (L : List Loc) : Prop := (v = some .null) ∧ (Fr n0 L) ∧ (h = h0)
set_option maxRecDepth 65536 in
set_option maxHeartbeats 40000000 in
theorem rm1_14 (l : Launch) (Z : State) (a0 : Array Value) (hw : ∀ d ∈ tables_1, d.before a0 Z = true) (ws : List Jvm.Cond) (arr : Addr) (kk : ClassId) (t1 : Addr) (t3 : Addr) (t4 : Addr) (t5 : Addr) (t6 : Addr) (t7 : Addr) (t8 : Addr) (t9 : Addr) (t10 : Addr) (t11 : Addr) (t12 : Addr) (t15 : Addr) (t16 : Addr) (t17 : Addr) (t18 : Addr) (t19 : Addr) (t20 : Addr) (h0 : Heap) (n0 : Nat) (Z0 : n0 ≤ h0.size) (G0 : Sta Z Z.heap "com/example/typeflow/typeflow/classfile/ConstantKind" "BY_TAG" "[Lcom/example/typeflow/typeflow/classfile/ConstantKind;" (.ref arr)) (G1 : Old Z n0 h0) (G2 : Arv Z h0 arr kk (.object "com/example/typeflow/typeflow/classfile/ConstantKind") (21 : Int32) [.null, (.ref t1), .null, (.ref t3), (.ref t4), (.ref t5), (.ref t6), (.ref t7), (.ref t8), (.ref t9), (.ref t10), (.ref t11), (.ref t12), .null, .null, (.ref t15), (.ref t16), (.ref t17), (.ref t18), (.ref t19), (.ref t20)] .null) :
    MetFree l (⟨"com/example/typeflow/typeflow/classfile/ConstantKind", "ofTag", "(I)Lcom/example/typeflow/typeflow/classfile/ConstantKind;"⟩ : MethodName) (head1 (Jvm.Cond.code (⟨"com/example/typeflow/typeflow/classfile/ConstantKind", "ofTag", "(I)Lcom/example/typeflow/typeflow/classfile/ConstantKind;"⟩ : MethodName) prog_59_method_4_code 1 (some (.object "com/example/typeflow/typeflow/classfile/ConstantKind")) :: ws) ({ frames := 0, cells := 0, slots := 0, locals := 0 } : Room)) (fun a U => a = #[(.int (14 : Int32))] ∧ Z.Warmed39 U.vm ∧ U.heap = h0) (fun _ _ _ _ _ => True) (fun _ U o U' => ∃ v L, o = .returned v ∧ Q_rm1_14 Z arr kk t1 t3 t4 t5 t6 t7 t8 t9 t10 t11 t12 t15 t16 t17 t18 t19 t20 h0 n0 v U'.heap L ∧ FrameEnd U o U' L ({ frames := 0, cells := 0, slots := 0, locals := 0 } : Room).cells ({ frames := 0, cells := 0, slots := 0, locals := 0 } : Room).slots) := by
  refine MetFree.of_bodySF (plainFor_of_name pn_1) hisR ?_
  intro p e s m args below meth c s₁ Bd hml0 hP hK
  obtain ⟨rfl, hZ, hh⟩ := hP
  have hx := Bd.exec
  have hby := Bd.bytes
  have hml : c.maxLocals = 1 := hml0
  have hown : s.vm.findClass "com/example/typeflow/typeflow/classfile/ConstantKind" = some m.cls := findClass_of_methodNamed Bd.named
  have hnm := (name_of_methodNamed Bd.named Bd.method).1
  have hlk : meth.locks = false := Bd.notSynchronized
  have X0 : Stand p l e ({ frames := 0, cells := 0, slots := 0, locals := 0 } : Room) s m #[(.int (14 : Int32))] below meth c s₁ [] 0 0 := Stand.of_body Bd
  have e0 : s₁.heap = h0 := by rw [← hh, Bd.state]; rfl
  have N0 := Fr.nil n0
  refine Comes.out (Q := Q_rm1_14 Z arr kk t1 t3 t4 t5 t6 t7 t8 t9 t10 t11 t12 t15 t16 t17 t18 t19 t20 h0 n0) (kc := ({ frames := 0, cells := 0, slots := 0, locals := 0 } : Room).cells) (ks := ({ frames := 0, cells := 0, slots := 0, locals := 0 } : Room).slots) ?_
  refine Comes.cast (ef_rm1_14 m ) ?_
  have lt_arr : arr < h0.size := G2.lt
  show Comes p e below _ (s₁.setTop (mkF m 0 #[.val (.int (14 : Int32))] []))
  refine Comes.st (fun t k => XS.iloadN X0.here hx rfl (hb hby d1_0) rfl k) ?_
  show Comes p e below _ (s₁.setTop (mkF m 1 #[.val (.int (14 : Int32))] [(.int (14 : Int32))]))
  obtain ⟨T1, X1, e1, st1⟩ := getS2 X0 hx hZ hown (host := "") (Or.inl (hw _ (List.mem_of_getElem? (i := 5) rfl))) Via.refl e0 (G0.ext G1.2) (g := (mkF m 1 #[.val (.int (14 : Int32))] [(.int (14 : Int32))])) rfl (hb hby d1_1)
  refine Comes.st st1 ?_
  show Comes p e below _ (T1.setTop (mkF m 4 #[.val (.int (14 : Int32))] [(.ref arr), (.int (14 : Int32))]))
  obtain ⟨cl2, Ar2, -, S2, Ng2, -, -⟩ := id G2
  refine Comes.st (fun t k => X1.arraylength hx (by rw [e1]; exact Ar2.1) (State.isArrayOf_alike hZ.alike Ar2.2.1) (g := (mkF m 4 #[.val (.int (14 : Int32))] [(.ref arr), (.int (14 : Int32))])) rfl rfl (hb hby d1_4) _ k) ?_
  rw [len_of S2 Ng2]
  show Comes p e below _ (T1.setTop (mkF m 5 #[.val (.int (14 : Int32))] [(.int (21 : Int32)), (.int (14 : Int32))]))
  have hc5_3 : (14 : Int32) < (21 : Int32) := by decide
  refine Comes.st (fun t k => XS.icmpNo X1.here hx rfl (hb hby d1_5) rfl (tlt hc5_3).2.1 k) ?_
  show Comes p e below _ (T1.setTop (mkF m 8 #[.val (.int (14 : Int32))] []))
  obtain ⟨T4, X4, e4, st4⟩ := getS2 X1 hx hZ hown (host := "") (Or.inl (hw _ (List.mem_of_getElem? (i := 5) rfl))) Via.refl e1 (G0.ext G1.2) (g := (mkF m 8 #[.val (.int (14 : Int32))] [])) rfl (hb hby d1_8)
  refine Comes.st st4 ?_
  show Comes p e below _ (T4.setTop (mkF m 11 #[.val (.int (14 : Int32))] [(.ref arr)]))
  refine Comes.st (fun t k => XS.iloadN X4.here hx rfl (hb hby d1_11) rfl k) ?_
  show Comes p e below _ (T4.setTop (mkF m 12 #[.val (.int (14 : Int32))] [(.int (14 : Int32)), (.ref arr)]))
  obtain ⟨cl5, Ar5, q5, S5, Ng5, H5, Gf5⟩ := id G2
  have hin5 : ¬ ((14 : Int32) < 0 ∨ cl5.slots.size ≤ ((14 : Int32)).toNatClampNeg) := inb_of S5 ⟨by decide, by decide⟩
  refine Comes.st (fun t k => X4.aaload hx (j := (14 : Int32)) (v := .null) (by rw [e4]; exact Ar5.1) (State.isArrayOf_alike hZ.alike Ar5.2.1) rfl Ar5.2.2 hin5 (Has.at H5 hin5 rfl) (g := (mkF m 12 #[.val (.int (14 : Int32))] [(.int (14 : Int32)), (.ref arr)])) rfl rfl (hb hby d1_12) _ (XS.goto X4.here hx rfl (pc0 := 13) (pc' := 17) rfl (hb hby d1_13) (by decide) (by decide) k)) ?_
  show Comes p e below _ (T4.setTop (mkF m 17 #[.val (.int (14 : Int32))] [.null]))
  exact Comes.retV X4 hx Bd.returns (narrow_ref rfl) (Or.inr (Or.inr (Or.inr (Or.inr ⟨rfl, rfl, rfl⟩)))) hlk (hb hby d1_17) e4 ⟨rfl, N0, rfl⟩ (by decide) (by decide)
def Q_rm1_15 (Z : State) (arr : Addr) (kk : ClassId) (t1 : Addr) (t3 : Addr) (t4 : Addr) (t5 : Addr) (t6 : Addr) (t7 : Addr) (t8 : Addr) (t9 : Addr) (t10 : Addr) (t11 : Addr) (t12 : Addr) (t15 : Addr) (t16 : Addr) (t17 : Addr) (t18 : Addr) (t19 : Addr) (t20 : Addr) (h0 : Heap) (n0 : Nat) (v : Option Value) (h : Heap) (L : List Loc) : Prop := (v = some (.ref t15)) ∧ (Fr n0 L) ∧ (h = h0)
set_option maxRecDepth 65536 in
set_option maxHeartbeats 40000000 in
theorem rm1_15 (l : Launch) (Z : State) (a0 : Array Value) (hw : ∀ d ∈ tables_1, d.before a0 Z = true) (ws : List Jvm.Cond) (arr : Addr) (kk : ClassId) (t1 : Addr) (t3 : Addr) (t4 : Addr) (t5 : Addr) (t6 : Addr) (t7 : Addr) (t8 : Addr) (t9 : Addr) (t10 : Addr) (t11 : Addr) (t12 : Addr) (t15 : Addr) (t16 : Addr) (t17 : Addr) (t18 : Addr) (t19 : Addr) (t20 : Addr) (h0 : Heap) (n0 : Nat) (Z0 : n0 ≤ h0.size) (G0 : Sta Z Z.heap "com/example/typeflow/typeflow/classfile/ConstantKind" "BY_TAG" "[Lcom/example/typeflow/typeflow/classfile/ConstantKind;" (.ref arr)) (G1 : Old Z n0 h0) (G2 : Arv Z h0 arr kk (.object "com/example/typeflow/typeflow/classfile/ConstantKind") (21 : Int32) [.null, (.ref t1), .null, (.ref t3), (.ref t4), (.ref t5), (.ref t6), (.ref t7), (.ref t8), (.ref t9), (.ref t10), (.ref t11), (.ref t12), .null, .null, (.ref t15), (.ref t16), (.ref t17), (.ref t18), (.ref t19), (.ref t20)] .null) :
    MetFree l (⟨"com/example/typeflow/typeflow/classfile/ConstantKind", "ofTag", "(I)Lcom/example/typeflow/typeflow/classfile/ConstantKind;"⟩ : MethodName) (head1 (Jvm.Cond.code (⟨"com/example/typeflow/typeflow/classfile/ConstantKind", "ofTag", "(I)Lcom/example/typeflow/typeflow/classfile/ConstantKind;"⟩ : MethodName) prog_59_method_4_code 1 (some (.object "com/example/typeflow/typeflow/classfile/ConstantKind")) :: ws) ({ frames := 0, cells := 0, slots := 0, locals := 0 } : Room)) (fun a U => a = #[(.int (15 : Int32))] ∧ Z.Warmed39 U.vm ∧ U.heap = h0) (fun _ _ _ _ _ => True) (fun _ U o U' => ∃ v L, o = .returned v ∧ Q_rm1_15 Z arr kk t1 t3 t4 t5 t6 t7 t8 t9 t10 t11 t12 t15 t16 t17 t18 t19 t20 h0 n0 v U'.heap L ∧ FrameEnd U o U' L ({ frames := 0, cells := 0, slots := 0, locals := 0 } : Room).cells ({ frames := 0, cells := 0, slots := 0, locals := 0 } : Room).slots) := by
  refine MetFree.of_bodySF (plainFor_of_name pn_1) hisR ?_
  intro p e s m args below meth c s₁ Bd hml0 hP hK
  obtain ⟨rfl, hZ, hh⟩ := hP
  have hx := Bd.exec
  have hby := Bd.bytes
  have hml : c.maxLocals = 1 := hml0
  have hown : s.vm.findClass "com/example/typeflow/typeflow/classfile/ConstantKind" = some m.cls := findClass_of_methodNamed Bd.named
  have hnm := (name_of_methodNamed Bd.named Bd.method).1
  have hlk : meth.locks = false := Bd.notSynchronized
  have X0 : Stand p l e ({ frames := 0, cells := 0, slots := 0, locals := 0 } : Room) s m #[(.int (15 : Int32))] below meth c s₁ [] 0 0 := Stand.of_body Bd
  have e0 : s₁.heap = h0 := by rw [← hh, Bd.state]; rfl
  have N0 := Fr.nil n0
  refine Comes.out (Q := Q_rm1_15 Z arr kk t1 t3 t4 t5 t6 t7 t8 t9 t10 t11 t12 t15 t16 t17 t18 t19 t20 h0 n0) (kc := ({ frames := 0, cells := 0, slots := 0, locals := 0 } : Room).cells) (ks := ({ frames := 0, cells := 0, slots := 0, locals := 0 } : Room).slots) ?_
  refine Comes.cast (ef_rm1_15 m ) ?_
  have lt_arr : arr < h0.size := G2.lt
  show Comes p e below _ (s₁.setTop (mkF m 0 #[.val (.int (15 : Int32))] []))
  refine Comes.st (fun t k => XS.iloadN X0.here hx rfl (hb hby d1_0) rfl k) ?_
  show Comes p e below _ (s₁.setTop (mkF m 1 #[.val (.int (15 : Int32))] [(.int (15 : Int32))]))
  obtain ⟨T1, X1, e1, st1⟩ := getS2 X0 hx hZ hown (host := "") (Or.inl (hw _ (List.mem_of_getElem? (i := 5) rfl))) Via.refl e0 (G0.ext G1.2) (g := (mkF m 1 #[.val (.int (15 : Int32))] [(.int (15 : Int32))])) rfl (hb hby d1_1)
  refine Comes.st st1 ?_
  show Comes p e below _ (T1.setTop (mkF m 4 #[.val (.int (15 : Int32))] [(.ref arr), (.int (15 : Int32))]))
  obtain ⟨cl2, Ar2, -, S2, Ng2, -, -⟩ := id G2
  refine Comes.st (fun t k => X1.arraylength hx (by rw [e1]; exact Ar2.1) (State.isArrayOf_alike hZ.alike Ar2.2.1) (g := (mkF m 4 #[.val (.int (15 : Int32))] [(.ref arr), (.int (15 : Int32))])) rfl rfl (hb hby d1_4) _ k) ?_
  rw [len_of S2 Ng2]
  show Comes p e below _ (T1.setTop (mkF m 5 #[.val (.int (15 : Int32))] [(.int (21 : Int32)), (.int (15 : Int32))]))
  have hc5_3 : (15 : Int32) < (21 : Int32) := by decide
  refine Comes.st (fun t k => XS.icmpNo X1.here hx rfl (hb hby d1_5) rfl (tlt hc5_3).2.1 k) ?_
  show Comes p e below _ (T1.setTop (mkF m 8 #[.val (.int (15 : Int32))] []))
  obtain ⟨T4, X4, e4, st4⟩ := getS2 X1 hx hZ hown (host := "") (Or.inl (hw _ (List.mem_of_getElem? (i := 5) rfl))) Via.refl e1 (G0.ext G1.2) (g := (mkF m 8 #[.val (.int (15 : Int32))] [])) rfl (hb hby d1_8)
  refine Comes.st st4 ?_
  show Comes p e below _ (T4.setTop (mkF m 11 #[.val (.int (15 : Int32))] [(.ref arr)]))
  refine Comes.st (fun t k => XS.iloadN X4.here hx rfl (hb hby d1_11) rfl k) ?_
  show Comes p e below _ (T4.setTop (mkF m 12 #[.val (.int (15 : Int32))] [(.int (15 : Int32)), (.ref arr)]))
  obtain ⟨cl5, Ar5, q5, S5, Ng5, H5, Gf5⟩ := id G2
  have hin5 : ¬ ((15 : Int32) < 0 ∨ cl5.slots.size ≤ ((15 : Int32)).toNatClampNeg) := inb_of S5 ⟨by decide, by decide⟩
  refine Comes.st (fun t k => X4.aaload hx (j := (15 : Int32)) (v := (.ref t15)) (by rw [e4]; exact Ar5.1) (State.isArrayOf_alike hZ.alike Ar5.2.1) rfl Ar5.2.2 hin5 (Has.at H5 hin5 rfl) (g := (mkF m 12 #[.val (.int (15 : Int32))] [(.int (15 : Int32)), (.ref arr)])) rfl rfl (hb hby d1_12) _ (XS.goto X4.here hx rfl (pc0 := 13) (pc' := 17) rfl (hb hby d1_13) (by decide) (by decide) k)) ?_
  show Comes p e below _ (T4.setTop (mkF m 17 #[.val (.int (15 : Int32))] [(.ref t15)]))
  exact Comes.retV X4 hx Bd.returns (narrow_ref rfl) (Or.inr (Or.inr (Or.inr (Or.inr ⟨rfl, rfl, rfl⟩)))) hlk (hb hby d1_17) e4 ⟨rfl, N0, rfl⟩ (by decide) (by decide)
def Q_rm1_16 (Z : State) (arr : Addr) (kk : ClassId) (t1 : Addr) (t3 : Addr) (t4 : Addr) (t5 : Addr) (t6 : Addr) (t7 : Addr) (t8 : Addr) (t9 : Addr) (t10 : Addr) (t11 : Addr) (t12 : Addr) (t15 : Addr) (t16 : Addr) (t17 : Addr) (t18 : Addr) (t19 : Addr) (t20 : Addr) (h0 : Heap) (n0 : Nat) (v : Option Value) (h : Heap) (L : List Loc) : Prop := (v = some (.ref t16)) ∧ (Fr n0 L) ∧ (h = h0)
set_option maxRecDepth 65536 in
set_option maxHeartbeats 40000000 in
theorem rm1_16 (l : Launch) (Z : State) (a0 : Array Value) (hw : ∀ d ∈ tables_1, d.before a0 Z = true) (ws : List Jvm.Cond) (arr : Addr) (kk : ClassId) (t1 : Addr) (t3 : Addr) (t4 : Addr) (t5 : Addr) (t6 : Addr) (t7 : Addr) (t8 : Addr) (t9 : Addr) (t10 : Addr) (t11 : Addr) (t12 : Addr) (t15 : Addr) (t16 : Addr) (t17 : Addr) (t18 : Addr) (t19 : Addr) (t20 : Addr) (h0 : Heap) (n0 : Nat) (Z0 : n0 ≤ h0.size) (G0 : Sta Z Z.heap "com/example/typeflow/typeflow/classfile/ConstantKind" "BY_TAG" "[Lcom/example/typeflow/typeflow/classfile/ConstantKind;" (.ref arr)) (G1 : Old Z n0 h0) (G2 : Arv Z h0 arr kk (.object "com/example/typeflow/typeflow/classfile/ConstantKind") (21 : Int32) [.null, (.ref t1), .null, (.ref t3), (.ref t4), (.ref t5), (.ref t6), (.ref t7), (.ref t8), (.ref t9), (.ref t10), (.ref t11), (.ref t12), .null, .null, (.ref t15), (.ref t16), (.ref t17), (.ref t18), (.ref t19), (.ref t20)] .null) :
    MetFree l (⟨"com/example/typeflow/typeflow/classfile/ConstantKind", "ofTag", "(I)Lcom/example/typeflow/typeflow/classfile/ConstantKind;"⟩ : MethodName) (head1 (Jvm.Cond.code (⟨"com/example/typeflow/typeflow/classfile/ConstantKind", "ofTag", "(I)Lcom/example/typeflow/typeflow/classfile/ConstantKind;"⟩ : MethodName) prog_59_method_4_code 1 (some (.object "com/example/typeflow/typeflow/classfile/ConstantKind")) :: ws) ({ frames := 0, cells := 0, slots := 0, locals := 0 } : Room)) (fun a U => a = #[(.int (16 : Int32))] ∧ Z.Warmed39 U.vm ∧ U.heap = h0) (fun _ _ _ _ _ => True) (fun _ U o U' => ∃ v L, o = .returned v ∧ Q_rm1_16 Z arr kk t1 t3 t4 t5 t6 t7 t8 t9 t10 t11 t12 t15 t16 t17 t18 t19 t20 h0 n0 v U'.heap L ∧ FrameEnd U o U' L ({ frames := 0, cells := 0, slots := 0, locals := 0 } : Room).cells ({ frames := 0, cells := 0, slots := 0, locals := 0 } : Room).slots) := by
  refine MetFree.of_bodySF (plainFor_of_name pn_1) hisR ?_
  intro p e s m args below meth c s₁ Bd hml0 hP hK
  obtain ⟨rfl, hZ, hh⟩ := hP
  have hx := Bd.exec
  have hby := Bd.bytes
  have hml : c.maxLocals = 1 := hml0
  have hown : s.vm.findClass "com/example/typeflow/typeflow/classfile/ConstantKind" = some m.cls := findClass_of_methodNamed Bd.named
  have hnm := (name_of_methodNamed Bd.named Bd.method).1
  have hlk : meth.locks = false := Bd.notSynchronized
  have X0 : Stand p l e ({ frames := 0, cells := 0, slots := 0, locals := 0 } : Room) s m #[(.int (16 : Int32))] below meth c s₁ [] 0 0 := Stand.of_body Bd
  have e0 : s₁.heap = h0 := by rw [← hh, Bd.state]; rfl
  have N0 := Fr.nil n0
  refine Comes.out (Q := Q_rm1_16 Z arr kk t1 t3 t4 t5 t6 t7 t8 t9 t10 t11 t12 t15 t16 t17 t18 t19 t20 h0 n0) (kc := ({ frames := 0, cells := 0, slots := 0, locals := 0 } : Room).cells) (ks := ({ frames := 0, cells := 0, slots := 0, locals := 0 } : Room).slots) ?_
  refine Comes.cast (ef_rm1_16 m ) ?_
  have lt_arr : arr < h0.size := G2.lt
  show Comes p e below _ (s₁.setTop (mkF m 0 #[.val (.int (16 : Int32))] []))
  refine Comes.st (fun t k => XS.iloadN X0.here hx rfl (hb hby d1_0) rfl k) ?_
  show Comes p e below _ (s₁.setTop (mkF m 1 #[.val (.int (16 : Int32))] [(.int (16 : Int32))]))
  obtain ⟨T1, X1, e1, st1⟩ := getS2 X0 hx hZ hown (host := "") (Or.inl (hw _ (List.mem_of_getElem? (i := 5) rfl))) Via.refl e0 (G0.ext G1.2) (g := (mkF m 1 #[.val (.int (16 : Int32))] [(.int (16 : Int32))])) rfl (hb hby d1_1)
  refine Comes.st st1 ?_
  show Comes p e below _ (T1.setTop (mkF m 4 #[.val (.int (16 : Int32))] [(.ref arr), (.int (16 : Int32))]))
  obtain ⟨cl2, Ar2, -, S2, Ng2, -, -⟩ := id G2
  refine Comes.st (fun t k => X1.arraylength hx (by rw [e1]; exact Ar2.1) (State.isArrayOf_alike hZ.alike Ar2.2.1) (g := (mkF m 4 #[.val (.int (16 : Int32))] [(.ref arr), (.int (16 : Int32))])) rfl rfl (hb hby d1_4) _ k) ?_
  rw [len_of S2 Ng2]
  show Comes p e below _ (T1.setTop (mkF m 5 #[.val (.int (16 : Int32))] [(.int (21 : Int32)), (.int (16 : Int32))]))
  have hc5_3 : (16 : Int32) < (21 : Int32) := by decide
  refine Comes.st (fun t k => XS.icmpNo X1.here hx rfl (hb hby d1_5) rfl (tlt hc5_3).2.1 k) ?_
  show Comes p e below _ (T1.setTop (mkF m 8 #[.val (.int (16 : Int32))] []))
  obtain ⟨T4, X4, e4, st4⟩ := getS2 X1 hx hZ hown (host := "") (Or.inl (hw _ (List.mem_of_getElem? (i := 5) rfl))) Via.refl e1 (G0.ext G1.2) (g := (mkF m 8 #[.val (.int (16 : Int32))] [])) rfl (hb hby d1_8)
  refine Comes.st st4 ?_
  show Comes p e below _ (T4.setTop (mkF m 11 #[.val (.int (16 : Int32))] [(.ref arr)]))
  refine Comes.st (fun t k => XS.iloadN X4.here hx rfl (hb hby d1_11) rfl k) ?_
  show Comes p e below _ (T4.setTop (mkF m 12 #[.val (.int (16 : Int32))] [(.int (16 : Int32)), (.ref arr)]))
  obtain ⟨cl5, Ar5, q5, S5, Ng5, H5, Gf5⟩ := id G2
  have hin5 : ¬ ((16 : Int32) < 0 ∨ cl5.slots.size ≤ ((16 : Int32)).toNatClampNeg) := inb_of S5 ⟨by decide, by decide⟩
  refine Comes.st (fun t k => X4.aaload hx (j := (16 : Int32)) (v := (.ref t16)) (by rw [e4]; exact Ar5.1) (State.isArrayOf_alike hZ.alike Ar5.2.1) rfl Ar5.2.2 hin5 (Has.at H5 hin5 rfl) (g := (mkF m 12 #[.val (.int (16 : Int32))] [(.int (16 : Int32)), (.ref arr)])) rfl rfl (hb hby d1_12) _ (XS.goto X4.here hx rfl (pc0 := 13) (pc' := 17) rfl (hb hby d1_13) (by decide) (by decide) k)) ?_
  show Comes p e below _ (T4.setTop (mkF m 17 #[.val (.int (16 : Int32))] [(.ref t16)]))
  exact Comes.retV X4 hx Bd.returns (narrow_ref rfl) (Or.inr (Or.inr (Or.inr (Or.inr ⟨rfl, rfl, rfl⟩)))) hlk (hb hby d1_17) e4 ⟨rfl, N0, rfl⟩ (by decide) (by decide)
def Q_rm1_17 (Z : State) (arr : Addr) (kk : ClassId) (t1 : Addr) (t3 : Addr) (t4 : Addr) (t5 : Addr) (t6 : Addr) (t7 : Addr) (t8 : Addr) (t9 : Addr) (t10 : Addr) (t11 : Addr) (t12 : Addr) (t15 : Addr) (t16 : Addr) (t17 : Addr) (t18 : Addr) (t19 : Addr) (t20 : Addr) (h0 : Heap) (n0 : Nat) (v : Option Value) (h : Heap) (L : List Loc) : Prop := (v = some (.ref t17)) ∧ (Fr n0 L) ∧ (h = h0)
set_option maxRecDepth 65536 in
set_option maxHeartbeats 40000000 in
theorem rm1_17 (l : Launch) (Z : State) (a0 : Array Value) (hw : ∀ d ∈ tables_1, d.before a0 Z = true) (ws : List Jvm.Cond) (arr : Addr) (kk : ClassId) (t1 : Addr) (t3 : Addr) (t4 : Addr) (t5 : Addr) (t6 : Addr) (t7 : Addr) (t8 : Addr) (t9 : Addr) (t10 : Addr) (t11 : Addr) (t12 : Addr) (t15 : Addr) (t16 : Addr) (t17 : Addr) (t18 : Addr) (t19 : Addr) (t20 : Addr) (h0 : Heap) (n0 : Nat) (Z0 : n0 ≤ h0.size) (G0 : Sta Z Z.heap "com/example/typeflow/typeflow/classfile/ConstantKind" "BY_TAG" "[Lcom/example/typeflow/typeflow/classfile/ConstantKind;" (.ref arr)) (G1 : Old Z n0 h0) (G2 : Arv Z h0 arr kk (.object "com/example/typeflow/typeflow/classfile/ConstantKind") (21 : Int32) [.null, (.ref t1), .null, (.ref t3), (.ref t4), (.ref t5), (.ref t6), (.ref t7), (.ref t8), (.ref t9), (.ref t10), (.ref t11), (.ref t12), .null, .null, (.ref t15), (.ref t16), (.ref t17), (.ref t18), (.ref t19), (.ref t20)] .null) :
    MetFree l (⟨"com/example/typeflow/typeflow/classfile/ConstantKind", "ofTag", "(I)Lcom/example/typeflow/typeflow/classfile/ConstantKind;"⟩ : MethodName) (head1 (Jvm.Cond.code (⟨"com/example/typeflow/typeflow/classfile/ConstantKind", "ofTag", "(I)Lcom/example/typeflow/typeflow/classfile/ConstantKind;"⟩ : MethodName) prog_59_method_4_code 1 (some (.object "com/example/typeflow/typeflow/classfile/ConstantKind")) :: ws) ({ frames := 0, cells := 0, slots := 0, locals := 0 } : Room)) (fun a U => a = #[(.int (17 : Int32))] ∧ Z.Warmed39 U.vm ∧ U.heap = h0) (fun _ _ _ _ _ => True) (fun _ U o U' => ∃ v L, o = .returned v ∧ Q_rm1_17 Z arr kk t1 t3 t4 t5 t6 t7 t8 t9 t10 t11 t12 t15 t16 t17 t18 t19 t20 h0 n0 v U'.heap L ∧ FrameEnd U o U' L ({ frames := 0, cells := 0, slots := 0, locals := 0 } : Room).cells ({ frames := 0, cells := 0, slots := 0, locals := 0 } : Room).slots) := by
  refine MetFree.of_bodySF (plainFor_of_name pn_1) hisR ?_
  intro p e s m args below meth c s₁ Bd hml0 hP hK
  obtain ⟨rfl, hZ, hh⟩ := hP
  have hx := Bd.exec
  have hby := Bd.bytes
  have hml : c.maxLocals = 1 := hml0
  have hown : s.vm.findClass "com/example/typeflow/typeflow/classfile/ConstantKind" = some m.cls := findClass_of_methodNamed Bd.named
  have hnm := (name_of_methodNamed Bd.named Bd.method).1
  have hlk : meth.locks = false := Bd.notSynchronized
  have X0 : Stand p l e ({ frames := 0, cells := 0, slots := 0, locals := 0 } : Room) s m #[(.int (17 : Int32))] below meth c s₁ [] 0 0 := Stand.of_body Bd
  have e0 : s₁.heap = h0 := by rw [← hh, Bd.state]; rfl
  have N0 := Fr.nil n0
  refine Comes.out (Q := Q_rm1_17 Z arr kk t1 t3 t4 t5 t6 t7 t8 t9 t10 t11 t12 t15 t16 t17 t18 t19 t20 h0 n0) (kc := ({ frames := 0, cells := 0, slots := 0, locals := 0 } : Room).cells) (ks := ({ frames := 0, cells := 0, slots := 0, locals := 0 } : Room).slots) ?_
  refine Comes.cast (ef_rm1_17 m ) ?_
  have lt_arr : arr < h0.size := G2.lt
  show Comes p e below _ (s₁.setTop (mkF m 0 #[.val (.int (17 : Int32))] []))
  refine Comes.st (fun t k => XS.iloadN X0.here hx rfl (hb hby d1_0) rfl k) ?_
  show Comes p e below _ (s₁.setTop (mkF m 1 #[.val (.int (17 : Int32))] [(.int (17 : Int32))]))
  obtain ⟨T1, X1, e1, st1⟩ := getS2 X0 hx hZ hown (host := "") (Or.inl (hw _ (List.mem_of_getElem? (i := 5) rfl))) Via.refl e0 (G0.ext G1.2) (g := (mkF m 1 #[.val (.int (17 : Int32))] [(.int (17 : Int32))])) rfl (hb hby d1_1)
  refine Comes.st st1 ?_
  show Comes p e below _ (T1.setTop (mkF m 4 #[.val (.int (17 : Int32))] [(.ref arr), (.int (17 : Int32))]))
  obtain ⟨cl2, Ar2, -, S2, Ng2, -, -⟩ := id G2
  refine Comes.st (fun t k => X1.arraylength hx (by rw [e1]; exact Ar2.1) (State.isArrayOf_alike hZ.alike Ar2.2.1) (g := (mkF m 4 #[.val (.int (17 : Int32))] [(.ref arr), (.int (17 : Int32))])) rfl rfl (hb hby d1_4) _ k) ?_
  rw [len_of S2 Ng2]
  show Comes p e below _ (T1.setTop (mkF m 5 #[.val (.int (17 : Int32))] [(.int (21 : Int32)), (.int (17 : Int32))]))
  have hc5_3 : (17 : Int32) < (21 : Int32) := by decide
  refine Comes.st (fun t k => XS.icmpNo X1.here hx rfl (hb hby d1_5) rfl (tlt hc5_3).2.1 k) ?_
  show Comes p e below _ (T1.setTop (mkF m 8 #[.val (.int (17 : Int32))] []))
  obtain ⟨T4, X4, e4, st4⟩ := getS2 X1 hx hZ hown (host := "") (Or.inl (hw _ (List.mem_of_getElem? (i := 5) rfl))) Via.refl e1 (G0.ext G1.2) (g := (mkF m 8 #[.val (.int (17 : Int32))] [])) rfl (hb hby d1_8)
  refine Comes.st st4 ?_
  show Comes p e below _ (T4.setTop (mkF m 11 #[.val (.int (17 : Int32))] [(.ref arr)]))
  refine Comes.st (fun t k => XS.iloadN X4.here hx rfl (hb hby d1_11) rfl k) ?_
  show Comes p e below _ (T4.setTop (mkF m 12 #[.val (.int (17 : Int32))] [(.int (17 : Int32)), (.ref arr)]))
  obtain ⟨cl5, Ar5, q5, S5, Ng5, H5, Gf5⟩ := id G2
  have hin5 : ¬ ((17 : Int32) < 0 ∨ cl5.slots.size ≤ ((17 : Int32)).toNatClampNeg) := inb_of S5 ⟨by decide, by decide⟩
  refine Comes.st (fun t k => X4.aaload hx (j := (17 : Int32)) (v := (.ref t17)) (by rw [e4]; exact Ar5.1) (State.isArrayOf_alike hZ.alike Ar5.2.1) rfl Ar5.2.2 hin5 (Has.at H5 hin5 rfl) (g := (mkF m 12 #[.val (.int (17 : Int32))] [(.int (17 : Int32)), (.ref arr)])) rfl rfl (hb hby d1_12) _ (XS.goto X4.here hx rfl (pc0 := 13) (pc' := 17) rfl (hb hby d1_13) (by decide) (by decide) k)) ?_
  show Comes p e below _ (T4.setTop (mkF m 17 #[.val (.int (17 : Int32))] [(.ref t17)]))
  exact Comes.retV X4 hx Bd.returns (narrow_ref rfl) (Or.inr (Or.inr (Or.inr (Or.inr ⟨rfl, rfl, rfl⟩)))) hlk (hb hby d1_17) e4 ⟨rfl, N0, rfl⟩ (by decide) (by decide)
def Q_rm1_18 (Z : State) (arr : Addr) (kk : ClassId) (t1 : Addr) (t3 : Addr) (t4 : Addr) (t5 : Addr) (t6 : Addr) (t7 : Addr) (t8 : Addr) (t9 : Addr) (t10 : Addr) (t11 : Addr) (t12 : Addr) (t15 : Addr) (t16 : Addr) (t17 : Addr) (t18 : Addr) (t19 : Addr) (t20 : Addr) (h0 : Heap) (n0 : Nat) (v : Option Value) (h : Heap) (L : List Loc) : Prop := (v = some (.ref t18)) ∧ (Fr n0 L) ∧ (h = h0)
set_option maxRecDepth 65536 in
set_option maxHeartbeats 40000000 in
theorem rm1_18 (l : Launch) (Z : State) (a0 : Array Value) (hw : ∀ d ∈ tables_1, d.before a0 Z = true) (ws : List Jvm.Cond) (arr : Addr) (kk : ClassId) (t1 : Addr) (t3 : Addr) (t4 : Addr) (t5 : Addr) (t6 : Addr) (t7 : Addr) (t8 : Addr) (t9 : Addr) (t10 : Addr) (t11 : Addr) (t12 : Addr) (t15 : Addr) (t16 : Addr) (t17 : Addr) (t18 : Addr) (t19 : Addr) (t20 : Addr) (h0 : Heap) (n0 : Nat) (Z0 : n0 ≤ h0.size) (G0 : Sta Z Z.heap "com/example/typeflow/typeflow/classfile/ConstantKind" "BY_TAG" "[Lcom/example/typeflow/typeflow/classfile/ConstantKind;" (.ref arr)) (G1 : Old Z n0 h0) (G2 : Arv Z h0 arr kk (.object "com/example/typeflow/typeflow/classfile/ConstantKind") (21 : Int32) [.null, (.ref t1), .null, (.ref t3), (.ref t4), (.ref t5), (.ref t6), (.ref t7), (.ref t8), (.ref t9), (.ref t10), (.ref t11), (.ref t12), .null, .null, (.ref t15), (.ref t16), (.ref t17), (.ref t18), (.ref t19), (.ref t20)] .null) :
    MetFree l (⟨"com/example/typeflow/typeflow/classfile/ConstantKind", "ofTag", "(I)Lcom/example/typeflow/typeflow/classfile/ConstantKind;"⟩ : MethodName) (head1 (Jvm.Cond.code (⟨"com/example/typeflow/typeflow/classfile/ConstantKind", "ofTag", "(I)Lcom/example/typeflow/typeflow/classfile/ConstantKind;"⟩ : MethodName) prog_59_method_4_code 1 (some (.object "com/example/typeflow/typeflow/classfile/ConstantKind")) :: ws) ({ frames := 0, cells := 0, slots := 0, locals := 0 } : Room)) (fun a U => a = #[(.int (18 : Int32))] ∧ Z.Warmed39 U.vm ∧ U.heap = h0) (fun _ _ _ _ _ => True) (fun _ U o U' => ∃ v L, o = .returned v ∧ Q_rm1_18 Z arr kk t1 t3 t4 t5 t6 t7 t8 t9 t10 t11 t12 t15 t16 t17 t18 t19 t20 h0 n0 v U'.heap L ∧ FrameEnd U o U' L ({ frames := 0, cells := 0, slots := 0, locals := 0 } : Room).cells ({ frames := 0, cells := 0, slots := 0, locals := 0 } : Room).slots) := by
  refine MetFree.of_bodySF (plainFor_of_name pn_1) hisR ?_
  intro p e s m args below meth c s₁ Bd hml0 hP hK
  obtain ⟨rfl, hZ, hh⟩ := hP
  have hx := Bd.exec
  have hby := Bd.bytes
  have hml : c.maxLocals = 1 := hml0
  have hown : s.vm.findClass "com/example/typeflow/typeflow/classfile/ConstantKind" = some m.cls := findClass_of_methodNamed Bd.named
  have hnm := (name_of_methodNamed Bd.named Bd.method).1
  have hlk : meth.locks = false := Bd.notSynchronized
  have X0 : Stand p l e ({ frames := 0, cells := 0, slots := 0, locals := 0 } : Room) s m #[(.int (18 : Int32))] below meth c s₁ [] 0 0 := Stand.of_body Bd
  have e0 : s₁.heap = h0 := by rw [← hh, Bd.state]; rfl
  have N0 := Fr.nil n0
  refine Comes.out (Q := Q_rm1_18 Z arr kk t1 t3 t4 t5 t6 t7 t8 t9 t10 t11 t12 t15 t16 t17 t18 t19 t20 h0 n0) (kc := ({ frames := 0, cells := 0, slots := 0, locals := 0 } : Room).cells) (ks := ({ frames := 0, cells := 0, slots := 0, locals := 0 } : Room).slots) ?_
  refine Comes.cast (ef_rm1_18 m ) ?_
  have lt_arr : arr < h0.size := G2.lt
  show Comes p e below _ (s₁.setTop (mkF m 0 #[.val (.int (18 : Int32))] []))
  refine Comes.st (fun t k => XS.iloadN X0.here hx rfl (hb hby d1_0) rfl k) ?_
  show Comes p e below _ (s₁.setTop (mkF m 1 #[.val (.int (18 : Int32))] [(.int (18 : Int32))]))
  obtain ⟨T1, X1, e1, st1⟩ := getS2 X0 hx hZ hown (host := "") (Or.inl (hw _ (List.mem_of_getElem? (i := 5) rfl))) Via.refl e0 (G0.ext G1.2) (g := (mkF m 1 #[.val (.int (18 : Int32))] [(.int (18 : Int32))])) rfl (hb hby d1_1)
  refine Comes.st st1 ?_
  show Comes p e below _ (T1.setTop (mkF m 4 #[.val (.int (18 : Int32))] [(.ref arr), (.int (18 : Int32))]))
  obtain ⟨cl2, Ar2, -, S2, Ng2, -, -⟩ := id G2
  refine Comes.st (fun t k => X1.arraylength hx (by rw [e1]; exact Ar2.1) (State.isArrayOf_alike hZ.alike Ar2.2.1) (g := (mkF m 4 #[.val (.int (18 : Int32))] [(.ref arr), (.int (18 : Int32))])) rfl rfl (hb hby d1_4) _ k) ?_
  rw [len_of S2 Ng2]
  show Comes p e below _ (T1.setTop (mkF m 5 #[.val (.int (18 : Int32))] [(.int (21 : Int32)), (.int (18 : Int32))]))
  have hc5_3 : (18 : Int32) < (21 : Int32) := by decide
  refine Comes.st (fun t k => XS.icmpNo X1.here hx rfl (hb hby d1_5) rfl (tlt hc5_3).2.1 k) ?_
  show Comes p e below _ (T1.setTop (mkF m 8 #[.val (.int (18 : Int32))] []))
  obtain ⟨T4, X4, e4, st4⟩ := getS2 X1 hx hZ hown (host := "") (Or.inl (hw _ (List.mem_of_getElem? (i := 5) rfl))) Via.refl e1 (G0.ext G1.2) (g := (mkF m 8 #[.val (.int (18 : Int32))] [])) rfl (hb hby d1_8)
  refine Comes.st st4 ?_
  show Comes p e below _ (T4.setTop (mkF m 11 #[.val (.int (18 : Int32))] [(.ref arr)]))
  refine Comes.st (fun t k => XS.iloadN X4.here hx rfl (hb hby d1_11) rfl k) ?_
  show Comes p e below _ (T4.setTop (mkF m 12 #[.val (.int (18 : Int32))] [(.int (18 : Int32)), (.ref arr)]))
  obtain ⟨cl5, Ar5, q5, S5, Ng5, H5, Gf5⟩ := id G2
  have hin5 : ¬ ((18 : Int32) < 0 ∨ cl5.slots.size ≤ ((18 : Int32)).toNatClampNeg) := inb_of S5 ⟨by decide, by decide⟩
  refine Comes.st (fun t k => X4.aaload hx (j := (18 : Int32)) (v := (.ref t18)) (by rw [e4]; exact Ar5.1) (State.isArrayOf_alike hZ.alike Ar5.2.1) rfl Ar5.2.2 hin5 (Has.at H5 hin5 rfl) (g := (mkF m 12 #[.val (.int (18 : Int32))] [(.int (18 : Int32)), (.ref arr)])) rfl rfl (hb hby d1_12) _ (XS.goto X4.here hx rfl (pc0 := 13) (pc' := 17) rfl (hb hby d1_13) (by decide) (by decide) k)) ?_
  show Comes p e below _ (T4.setTop (mkF m 17 #[.val (.int (18 : Int32))] [(.ref t18)]))
  exact Comes.retV X4 hx Bd.returns (narrow_ref rfl) (Or.inr (Or.inr (Or.inr (Or.inr ⟨rfl, rfl, rfl⟩)))) hlk (hb hby d1_17) e4 ⟨rfl, N0, rfl⟩ (by decide) (by decide)
def Q_rm1_19 (Z : State) (arr : Addr) (kk : ClassId) (t1 : Addr) (t3 : Addr) (t4 : Addr) (t5 : Addr) (t6 : Addr) (t7 : Addr) (t8 : Addr) (t9 : Addr) (t10 : Addr) (t11 : Addr) (t12 : Addr) (t15 : Addr) (t16 : Addr) (t17 : Addr) (t18 : Addr) (t19 : Addr) (t20 : Addr) (h0 : Heap) (n0 : Nat) (v : Option Value) (h : Heap) (L : List Loc) : Prop := (v = some (.ref t19)) ∧ (Fr n0 L) ∧ (h = h0)
set_option maxRecDepth 65536 in
set_option maxHeartbeats 40000000 in
theorem rm1_19 (l : Launch) (Z : State) (a0 : Array Value) (hw : ∀ d ∈ tables_1, d.before a0 Z = true) (ws : List Jvm.Cond) (arr : Addr) (kk : ClassId) (t1 : Addr) (t3 : Addr) (t4 : Addr) (t5 : Addr) (t6 : Addr) (t7 : Addr) (t8 : Addr) (t9 : Addr) (t10 : Addr) (t11 : Addr) (t12 : Addr) (t15 : Addr) (t16 : Addr) (t17 : Addr) (t18 : Addr) (t19 : Addr) (t20 : Addr) (h0 : Heap) (n0 : Nat) (Z0 : n0 ≤ h0.size) (G0 : Sta Z Z.heap "com/example/typeflow/typeflow/classfile/ConstantKind" "BY_TAG" "[Lcom/example/typeflow/typeflow/classfile/ConstantKind;" (.ref arr)) (G1 : Old Z n0 h0) (G2 : Arv Z h0 arr kk (.object "com/example/typeflow/typeflow/classfile/ConstantKind") (21 : Int32) [.null, (.ref t1), .null, (.ref t3), (.ref t4), (.ref t5), (.ref t6), (.ref t7), (.ref t8), (.ref t9), (.ref t10), (.ref t11), (.ref t12), .null, .null, (.ref t15), (.ref t16), (.ref t17), (.ref t18), (.ref t19), (.ref t20)] .null) :
    MetFree l (⟨"com/example/typeflow/typeflow/classfile/ConstantKind", "ofTag", "(I)Lcom/example/typeflow/typeflow/classfile/ConstantKind;"⟩ : MethodName) (head1 (Jvm.Cond.code (⟨"com/example/typeflow/typeflow/classfile/ConstantKind", "ofTag", "(I)Lcom/example/typeflow/typeflow/classfile/ConstantKind;"⟩ : MethodName) prog_59_method_4_code 1 (some (.object "com/example/typeflow/typeflow/classfile/ConstantKind")) :: ws) ({ frames := 0, cells := 0, slots := 0, locals := 0 } : Room)) (fun a U => a = #[(.int (19 : Int32))] ∧ Z.Warmed39 U.vm ∧ U.heap = h0) (fun _ _ _ _ _ => True) (fun _ U o U' => ∃ v L, o = .returned v ∧ Q_rm1_19 Z arr kk t1 t3 t4 t5 t6 t7 t8 t9 t10 t11 t12 t15 t16 t17 t18 t19 t20 h0 n0 v U'.heap L ∧ FrameEnd U o U' L ({ frames := 0, cells := 0, slots := 0, locals := 0 } : Room).cells ({ frames := 0, cells := 0, slots := 0, locals := 0 } : Room).slots) := by
  refine MetFree.of_bodySF (plainFor_of_name pn_1) hisR ?_
  intro p e s m args below meth c s₁ Bd hml0 hP hK
  obtain ⟨rfl, hZ, hh⟩ := hP
  have hx := Bd.exec
  have hby := Bd.bytes
  have hml : c.maxLocals = 1 := hml0
  have hown : s.vm.findClass "com/example/typeflow/typeflow/classfile/ConstantKind" = some m.cls := findClass_of_methodNamed Bd.named
  have hnm := (name_of_methodNamed Bd.named Bd.method).1
  have hlk : meth.locks = false := Bd.notSynchronized
  have X0 : Stand p l e ({ frames := 0, cells := 0, slots := 0, locals := 0 } : Room) s m #[(.int (19 : Int32))] below meth c s₁ [] 0 0 := Stand.of_body Bd
  have e0 : s₁.heap = h0 := by rw [← hh, Bd.state]; rfl
  have N0 := Fr.nil n0
  refine Comes.out (Q := Q_rm1_19 Z arr kk t1 t3 t4 t5 t6 t7 t8 t9 t10 t11 t12 t15 t16 t17 t18 t19 t20 h0 n0) (kc := ({ frames := 0, cells := 0, slots := 0, locals := 0 } : Room).cells) (ks := ({ frames := 0, cells := 0, slots := 0, locals := 0 } : Room).slots) ?_
  refine Comes.cast (ef_rm1_19 m ) ?_
  have lt_arr : arr < h0.size := G2.lt
  show Comes p e below _ (s₁.setTop (mkF m 0 #[.val (.int (19 : Int32))] []))
  refine Comes.st (fun t k => XS.iloadN X0.here hx rfl (hb hby d1_0) rfl k) ?_
  show Comes p e below _ (s₁.setTop (mkF m 1 #[.val (.int (19 : Int32))] [(.int (19 : Int32))]))
  obtain ⟨T1, X1, e1, st1⟩ := getS2 X0 hx hZ hown (host := "") (Or.inl (hw _ (List.mem_of_getElem? (i := 5) rfl))) Via.refl e0 (G0.ext G1.2) (g := (mkF m 1 #[.val (.int (19 : Int32))] [(.int (19 : Int32))])) rfl (hb hby d1_1)
  refine Comes.st st1 ?_
  show Comes p e below _ (T1.setTop (mkF m 4 #[.val (.int (19 : Int32))] [(.ref arr), (.int (19 : Int32))]))
  obtain ⟨cl2, Ar2, -, S2, Ng2, -, -⟩ := id G2
  refine Comes.st (fun t k => X1.arraylength hx (by rw [e1]; exact Ar2.1) (State.isArrayOf_alike hZ.alike Ar2.2.1) (g := (mkF m 4 #[.val (.int (19 : Int32))] [(.ref arr), (.int (19 : Int32))])) rfl rfl (hb hby d1_4) _ k) ?_
  rw [len_of S2 Ng2]
  show Comes p e below _ (T1.setTop (mkF m 5 #[.val (.int (19 : Int32))] [(.int (21 : Int32)), (.int (19 : Int32))]))
  have hc5_3 : (19 : Int32) < (21 : Int32) := by decide
  refine Comes.st (fun t k => XS.icmpNo X1.here hx rfl (hb hby d1_5) rfl (tlt hc5_3).2.1 k) ?_
  show Comes p e below _ (T1.setTop (mkF m 8 #[.val (.int (19 : Int32))] []))
  obtain ⟨T4, X4, e4, st4⟩ := getS2 X1 hx hZ hown (host := "") (Or.inl (hw _ (List.mem_of_getElem? (i := 5) rfl))) Via.refl e1 (G0.ext G1.2) (g := (mkF m 8 #[.val (.int (19 : Int32))] [])) rfl (hb hby d1_8)
  refine Comes.st st4 ?_
  show Comes p e below _ (T4.setTop (mkF m 11 #[.val (.int (19 : Int32))] [(.ref arr)]))
  refine Comes.st (fun t k => XS.iloadN X4.here hx rfl (hb hby d1_11) rfl k) ?_
  show Comes p e below _ (T4.setTop (mkF m 12 #[.val (.int (19 : Int32))] [(.int (19 : Int32)), (.ref arr)]))
  obtain ⟨cl5, Ar5, q5, S5, Ng5, H5, Gf5⟩ := id G2
  have hin5 : ¬ ((19 : Int32) < 0 ∨ cl5.slots.size ≤ ((19 : Int32)).toNatClampNeg) := inb_of S5 ⟨by decide, by decide⟩
  refine Comes.st (fun t k => X4.aaload hx (j := (19 : Int32)) (v := (.ref t19)) (by rw [e4]; exact Ar5.1) (State.isArrayOf_alike hZ.alike Ar5.2.1) rfl Ar5.2.2 hin5 (Has.at H5 hin5 rfl) (g := (mkF m 12 #[.val (.int (19 : Int32))] [(.int (19 : Int32)), (.ref arr)])) rfl rfl (hb hby d1_12) _ (XS.goto X4.here hx rfl (pc0 := 13) (pc' := 17) rfl (hb hby d1_13) (by decide) (by decide) k)) ?_
  show Comes p e below _ (T4.setTop (mkF m 17 #[.val (.int (19 : Int32))] [(.ref t19)]))
  exact Comes.retV X4 hx Bd.returns (narrow_ref rfl) (Or.inr (Or.inr (Or.inr (Or.inr ⟨rfl, rfl, rfl⟩)))) hlk (hb hby d1_17) e4 ⟨rfl, N0, rfl⟩ (by decide) (by decide)
def Q_rm1_20 (Z : State) (arr : Addr) (kk : ClassId) (t1 : Addr) (t3 : Addr) (t4 : Addr) (t5 : Addr) (t6 : Addr) (t7 : Addr) (t8 : Addr) (t9 : Addr) (t10 : Addr) (t11 : Addr) (t12 : Addr) (t15 : Addr) (t16 : Addr) (t17 : Addr) (t18 : Addr) (t19 : Addr) (t20 : Addr) (h0 : Heap) (n0 : Nat) (v : Option Value) (h : Heap) (L : List Loc) : Prop := (v = some (.ref t20)) ∧ (Fr n0 L) ∧ (h = h0)
set_option maxRecDepth 65536 in
set_option maxHeartbeats 40000000 in
theorem rm1_20 (l : Launch) (Z : State) (a0 : Array Value) (hw : ∀ d ∈ tables_1, d.before a0 Z = true) (ws : List Jvm.Cond) (arr : Addr) (kk : ClassId) (t1 : Addr) (t3 : Addr) (t4 : Addr) (t5 : Addr) (t6 : Addr) (t7 : Addr) (t8 : Addr) (t9 : Addr) (t10 : Addr) (t11 : Addr) (t12 : Addr) (t15 : Addr) (t16 : Addr) (t17 : Addr) (t18 : Addr) (t19 : Addr) (t20 : Addr) (h0 : Heap) (n0 : Nat) (Z0 : n0 ≤ h0.size) (G0 : Sta Z Z.heap "com/example/typeflow/typeflow/classfile/ConstantKind" "BY_TAG" "[Lcom/example/typeflow/typeflow/classfile/ConstantKind;" (.ref arr)) (G1 : Old Z n0 h0) (G2 : Arv Z h0 arr kk (.object "com/example/typeflow/typeflow/classfile/ConstantKind") (21 : Int32) [.null, (.ref t1), .null, (.ref t3), (.ref t4), (.ref t5), (.ref t6), (.ref t7), (.ref t8), (.ref t9), (.ref t10), (.ref t11), (.ref t12), .null, .null, (.ref t15), (.ref t16), (.ref t17), (.ref t18), (.ref t19), (.ref t20)] .null) :
    MetFree l (⟨"com/example/typeflow/typeflow/classfile/ConstantKind", "ofTag", "(I)Lcom/example/typeflow/typeflow/classfile/ConstantKind;"⟩ : MethodName) (head1 (Jvm.Cond.code (⟨"com/example/typeflow/typeflow/classfile/ConstantKind", "ofTag", "(I)Lcom/example/typeflow/typeflow/classfile/ConstantKind;"⟩ : MethodName) prog_59_method_4_code 1 (some (.object "com/example/typeflow/typeflow/classfile/ConstantKind")) :: ws) ({ frames := 0, cells := 0, slots := 0, locals := 0 } : Room)) (fun a U => a = #[(.int (20 : Int32))] ∧ Z.Warmed39 U.vm ∧ U.heap = h0) (fun _ _ _ _ _ => True) (fun _ U o U' => ∃ v L, o = .returned v ∧ Q_rm1_20 Z arr kk t1 t3 t4 t5 t6 t7 t8 t9 t10 t11 t12 t15 t16 t17 t18 t19 t20 h0 n0 v U'.heap L ∧ FrameEnd U o U' L ({ frames := 0, cells := 0, slots := 0, locals := 0 } : Room).cells ({ frames := 0, cells := 0, slots := 0, locals := 0 } : Room).slots) := by
  refine MetFree.of_bodySF (plainFor_of_name pn_1) hisR ?_
  intro p e s m args below meth c s₁ Bd hml0 hP hK
  obtain ⟨rfl, hZ, hh⟩ := hP
  have hx := Bd.exec
  have hby := Bd.bytes
  have hml : c.maxLocals = 1 := hml0
  have hown : s.vm.findClass "com/example/typeflow/typeflow/classfile/ConstantKind" = some m.cls := findClass_of_methodNamed Bd.named
  have hnm := (name_of_methodNamed Bd.named Bd.method).1
  have hlk : meth.locks = false := Bd.notSynchronized
  have X0 : Stand p l e ({ frames := 0, cells := 0, slots := 0, locals := 0 } : Room) s m #[(.int (20 : Int32))] below meth c s₁ [] 0 0 := Stand.of_body Bd
  have e0 : s₁.heap = h0 := by rw [← hh, Bd.state]; rfl
  have N0 := Fr.nil n0
  refine Comes.out (Q := Q_rm1_20 Z arr kk t1 t3 t4 t5 t6 t7 t8 t9 t10 t11 t12 t15 t16 t17 t18 t19 t20 h0 n0) (kc := ({ frames := 0, cells := 0, slots := 0, locals := 0 } : Room).cells) (ks := ({ frames := 0, cells := 0, slots := 0, locals := 0 } : Room).slots) ?_
  refine Comes.cast (ef_rm1_20 m ) ?_
  have lt_arr : arr < h0.size := G2.lt
  show Comes p e below _ (s₁.setTop (mkF m 0 #[.val (.int (20 : Int32))] []))
  refine Comes.st (fun t k => XS.iloadN X0.here hx rfl (hb hby d1_0) rfl k) ?_
  show Comes p e below _ (s₁.setTop (mkF m 1 #[.val (.int (20 : Int32))] [(.int (20 : Int32))]))
  obtain ⟨T1, X1, e1, st1⟩ := getS2 X0 hx hZ hown (host := "") (Or.inl (hw _ (List.mem_of_getElem? (i := 5) rfl))) Via.refl e0 (G0.ext G1.2) (g := (mkF m 1 #[.val (.int (20 : Int32))] [(.int (20 : Int32))])) rfl (hb hby d1_1)
  refine Comes.st st1 ?_
  show Comes p e below _ (T1.setTop (mkF m 4 #[.val (.int (20 : Int32))] [(.ref arr), (.int (20 : Int32))]))
  obtain ⟨cl2, Ar2, -, S2, Ng2, -, -⟩ := id G2
  refine Comes.st (fun t k => X1.arraylength hx (by rw [e1]; exact Ar2.1) (State.isArrayOf_alike hZ.alike Ar2.2.1) (g := (mkF m 4 #[.val (.int (20 : Int32))] [(.ref arr), (.int (20 : Int32))])) rfl rfl (hb hby d1_4) _ k) ?_
  rw [len_of S2 Ng2]
  show Comes p e below _ (T1.setTop (mkF m 5 #[.val (.int (20 : Int32))] [(.int (21 : Int32)), (.int (20 : Int32))]))
  have hc5_3 : (20 : Int32) < (21 : Int32) := by decide
  refine Comes.st (fun t k => XS.icmpNo X1.here hx rfl (hb hby d1_5) rfl (tlt hc5_3).2.1 k) ?_
  show Comes p e below _ (T1.setTop (mkF m 8 #[.val (.int (20 : Int32))] []))
  obtain ⟨T4, X4, e4, st4⟩ := getS2 X1 hx hZ hown (host := "") (Or.inl (hw _ (List.mem_of_getElem? (i := 5) rfl))) Via.refl e1 (G0.ext G1.2) (g := (mkF m 8 #[.val (.int (20 : Int32))] [])) rfl (hb hby d1_8)
  refine Comes.st st4 ?_
  show Comes p e below _ (T4.setTop (mkF m 11 #[.val (.int (20 : Int32))] [(.ref arr)]))
  refine Comes.st (fun t k => XS.iloadN X4.here hx rfl (hb hby d1_11) rfl k) ?_
  show Comes p e below _ (T4.setTop (mkF m 12 #[.val (.int (20 : Int32))] [(.int (20 : Int32)), (.ref arr)]))
  obtain ⟨cl5, Ar5, q5, S5, Ng5, H5, Gf5⟩ := id G2
  have hin5 : ¬ ((20 : Int32) < 0 ∨ cl5.slots.size ≤ ((20 : Int32)).toNatClampNeg) := inb_of S5 ⟨by decide, by decide⟩
  refine Comes.st (fun t k => X4.aaload hx (j := (20 : Int32)) (v := (.ref t20)) (by rw [e4]; exact Ar5.1) (State.isArrayOf_alike hZ.alike Ar5.2.1) rfl Ar5.2.2 hin5 (Has.at H5 hin5 rfl) (g := (mkF m 12 #[.val (.int (20 : Int32))] [(.int (20 : Int32)), (.ref arr)])) rfl rfl (hb hby d1_12) _ (XS.goto X4.here hx rfl (pc0 := 13) (pc' := 17) rfl (hb hby d1_13) (by decide) (by decide) k)) ?_
  show Comes p e below _ (T4.setTop (mkF m 17 #[.val (.int (20 : Int32))] [(.ref t20)]))
  exact Comes.retV X4 hx Bd.returns (narrow_ref rfl) (Or.inr (Or.inr (Or.inr (Or.inr ⟨rfl, rfl, rfl⟩)))) hlk (hb hby d1_17) e4 ⟨rfl, N0, rfl⟩ (by decide) (by decide)
def Q_rmL (Z : State) (t5 : Addr) (t6 : Addr) (h0 : Heap) (n0 : Nat) (v : Option Value) (h : Heap) (L : List Loc) : Prop := (v = some (.int (1 : Int32))) ∧ (Fr n0 L) ∧ (h = h0)
set_option maxRecDepth 65536 in
set_option maxHeartbeats 40000000 in
theorem rmL (l : Launch) (Z : State) (a0 : Array Value) (hw : ∀ d ∈ tables_1, d.before a0 Z = true) (ws : List Jvm.Cond) (t5 : Addr) (t6 : Addr) (h0 : Heap) (n0 : Nat) (Z0 : n0 ≤ h0.size) (G0 : Sta Z Z.heap "com/example/typeflow/typeflow/classfile/ConstantKind" "LONG" "Lcom/example/typeflow/typeflow/classfile/ConstantKind;" (.ref t5)) (G1 : Sta Z Z.heap "com/example/typeflow/typeflow/classfile/ConstantKind" "DOUBLE" "Lcom/example/typeflow/typeflow/classfile/ConstantKind;" (.ref t6)) (G2 : Old Z n0 h0) :
    MetFree l (⟨"com/example/typeflow/typeflow/classfile/ConstantKind", "isTwoSlots", "()Z"⟩ : MethodName) (head1 (Jvm.Cond.code (⟨"com/example/typeflow/typeflow/classfile/ConstantKind", "isTwoSlots", "()Z"⟩ : MethodName) prog_59_method_6_code 1 (some .boolean) :: ws) ({ frames := 0, cells := 0, slots := 0, locals := 0 } : Room)) (fun a U => a = #[(.ref t5)] ∧ Z.Warmed39 U.vm ∧ U.heap = h0) (fun _ _ _ _ _ => True) (fun _ U o U' => ∃ v L, o = .returned v ∧ Q_rmL Z t5 t6 h0 n0 v U'.heap L ∧ FrameEnd U o U' L ({ frames := 0, cells := 0, slots := 0, locals := 0 } : Room).cells ({ frames := 0, cells := 0, slots := 0, locals := 0 } : Room).slots) := by
  refine MetFree.of_bodySF (plainFor_of_name pn_2) hisR ?_
  intro p e s m args below meth c s₁ Bd hml0 hP hK
  obtain ⟨rfl, hZ, hh⟩ := hP
  have hx := Bd.exec
  have hby := Bd.bytes
  have hml : c.maxLocals = 1 := hml0
  have hown : s.vm.findClass "com/example/typeflow/typeflow/classfile/ConstantKind" = some m.cls := findClass_of_methodNamed Bd.named
  have hnm := (name_of_methodNamed Bd.named Bd.method).1
  have hlk : meth.locks = false := Bd.notSynchronized
  have X0 : Stand p l e ({ frames := 0, cells := 0, slots := 0, locals := 0 } : Room) s m #[(.ref t5)] below meth c s₁ [] 0 0 := Stand.of_body Bd
  have e0 : s₁.heap = h0 := by rw [← hh, Bd.state]; rfl
  have N0 := Fr.nil n0
  refine Comes.out (Q := Q_rmL Z t5 t6 h0 n0) (kc := ({ frames := 0, cells := 0, slots := 0, locals := 0 } : Room).cells) (ks := ({ frames := 0, cells := 0, slots := 0, locals := 0 } : Room).slots) ?_
  refine Comes.cast (ef_rmL m t5) ?_
  show Comes p e below _ (s₁.setTop (mkF m 0 #[.val (.ref t5)] []))
  refine Comes.st (fun t k => XS.aloadN X0.here hx rfl (hb hby d2_0) rfl rfl k) ?_
  show Comes p e below _ (s₁.setTop (mkF m 1 #[.val (.ref t5)] [(.ref t5)]))
  obtain ⟨T1, X1, e1, st1⟩ := getS2 X0 hx hZ hown (host := "") (Or.inl (hw _ (List.mem_of_getElem? (i := 13) rfl))) Via.refl e0 (G0.ext G2.2) (g := (mkF m 1 #[.val (.ref t5)] [(.ref t5)])) rfl (hb hby d2_1)
  refine Comes.st st1 ?_
  show Comes p e below _ (T1.setTop (mkF m 4 #[.val (.ref t5)] [(.ref t5), (.ref t5)]))
  have hc4_2 : t5 = t5 := by rfl
  refine Comes.st (fun t k => Jvm.RoadKit.acmp (g := (mkF m 4 #[.val (.ref t5)] [(.ref t5), (.ref t5)])) X1 hx rfl rfl rfl (pc0 := 4) (pc' := 14) (same := true) rfl (hb hby d2_4) rfl (decide_eq_true (congrArg Value.ref hc4_2)) (by decide) (by decide) (XS.iconst X1.here hx rfl (hb hby d2_14) (XS.goto X1.here hx rfl (pc0 := 15) (pc' := 19) rfl (hb hby d2_15) (by decide) (by decide) k))) ?_
  show Comes p e below _ (T1.setTop (mkF m 19 #[.val (.ref t5)] [(.int (1 : Int32))]))
  exact Comes.retN X1 hx (t := .boolean) Bd.returns (by simp) hlk (hb hby d2_19) e1 ⟨rfl, N0, rfl⟩ (by decide) (by decide)
def Q_rmD (Z : State) (t6 : Addr) (t5 : Addr) (h0 : Heap) (n0 : Nat) (v : Option Value) (h : Heap) (L : List Loc) : Prop := (v = some (.int (1 : Int32))) ∧ (Fr n0 L) ∧ (h = h0)
set_option maxRecDepth 65536 in
set_option maxHeartbeats 40000000 in
theorem rmD (l : Launch) (Z : State) (a0 : Array Value) (hw : ∀ d ∈ tables_1, d.before a0 Z = true) (ws : List Jvm.Cond) (t6 : Addr) (t5 : Addr) (h0 : Heap) (n0 : Nat) (Z0 : n0 ≤ h0.size) (G0 : Sta Z Z.heap "com/example/typeflow/typeflow/classfile/ConstantKind" "LONG" "Lcom/example/typeflow/typeflow/classfile/ConstantKind;" (.ref t5)) (G1 : Sta Z Z.heap "com/example/typeflow/typeflow/classfile/ConstantKind" "DOUBLE" "Lcom/example/typeflow/typeflow/classfile/ConstantKind;" (.ref t6)) (G2 : Old Z n0 h0) (G3 : t6 ≠ t5) :
    MetFree l (⟨"com/example/typeflow/typeflow/classfile/ConstantKind", "isTwoSlots", "()Z"⟩ : MethodName) (head1 (Jvm.Cond.code (⟨"com/example/typeflow/typeflow/classfile/ConstantKind", "isTwoSlots", "()Z"⟩ : MethodName) prog_59_method_6_code 1 (some .boolean) :: ws) ({ frames := 0, cells := 0, slots := 0, locals := 0 } : Room)) (fun a U => a = #[(.ref t6)] ∧ Z.Warmed39 U.vm ∧ U.heap = h0) (fun _ _ _ _ _ => True) (fun _ U o U' => ∃ v L, o = .returned v ∧ Q_rmD Z t6 t5 h0 n0 v U'.heap L ∧ FrameEnd U o U' L ({ frames := 0, cells := 0, slots := 0, locals := 0 } : Room).cells ({ frames := 0, cells := 0, slots := 0, locals := 0 } : Room).slots) := by
  refine MetFree.of_bodySF (plainFor_of_name pn_2) hisR ?_
  intro p e s m args below meth c s₁ Bd hml0 hP hK
  obtain ⟨rfl, hZ, hh⟩ := hP
  have hx := Bd.exec
  have hby := Bd.bytes
  have hml : c.maxLocals = 1 := hml0
  have hown : s.vm.findClass "com/example/typeflow/typeflow/classfile/ConstantKind" = some m.cls := findClass_of_methodNamed Bd.named
  have hnm := (name_of_methodNamed Bd.named Bd.method).1
  have hlk : meth.locks = false := Bd.notSynchronized
  have X0 : Stand p l e ({ frames := 0, cells := 0, slots := 0, locals := 0 } : Room) s m #[(.ref t6)] below meth c s₁ [] 0 0 := Stand.of_body Bd
  have e0 : s₁.heap = h0 := by rw [← hh, Bd.state]; rfl
  have N0 := Fr.nil n0
  refine Comes.out (Q := Q_rmD Z t6 t5 h0 n0) (kc := ({ frames := 0, cells := 0, slots := 0, locals := 0 } : Room).cells) (ks := ({ frames := 0, cells := 0, slots := 0, locals := 0 } : Room).slots) ?_
  refine Comes.cast (ef_rmD m t6) ?_
  show Comes p e below _ (s₁.setTop (mkF m 0 #[.val (.ref t6)] []))
  refine Comes.st (fun t k => XS.aloadN X0.here hx rfl (hb hby d2_0) rfl rfl k) ?_
  show Comes p e below _ (s₁.setTop (mkF m 1 #[.val (.ref t6)] [(.ref t6)]))
  obtain ⟨T1, X1, e1, st1⟩ := getS2 X0 hx hZ hown (host := "") (Or.inl (hw _ (List.mem_of_getElem? (i := 13) rfl))) Via.refl e0 (G0.ext G2.2) (g := (mkF m 1 #[.val (.ref t6)] [(.ref t6)])) rfl (hb hby d2_1)
  refine Comes.st st1 ?_
  show Comes p e below _ (T1.setTop (mkF m 4 #[.val (.ref t6)] [(.ref t5), (.ref t6)]))
  have hc4_2 : ¬ (t6 = t5) := by exact G3
  refine Comes.st (fun t k => Jvm.RoadKit.acmp (g := (mkF m 4 #[.val (.ref t6)] [(.ref t5), (.ref t6)])) X1 hx rfl rfl rfl (pc0 := 4) (pc' := 7) (same := false) rfl (hb hby d2_4) rfl (decide_eq_false fun q => hc4_2 (Value.ref.inj q)) (by decide) (by decide) (XS.aloadN X1.here hx rfl (hb hby d2_7) rfl rfl k)) ?_
  show Comes p e below _ (T1.setTop (mkF m 8 #[.val (.ref t6)] [(.ref t6)]))
  obtain ⟨T3, X3, e3, st3⟩ := getS2 X1 hx hZ hown (host := "") (Or.inl (hw _ (List.mem_of_getElem? (i := 15) rfl))) Via.refl e1 (G1.ext G2.2) (g := (mkF m 8 #[.val (.ref t6)] [(.ref t6)])) rfl (hb hby d2_8)
  refine Comes.st st3 ?_
  show Comes p e below _ (T3.setTop (mkF m 11 #[.val (.ref t6)] [(.ref t6), (.ref t6)]))
  have hc11_4 : t6 = t6 := by rfl
  refine Comes.st (fun t k => Jvm.RoadKit.acmp (g := (mkF m 11 #[.val (.ref t6)] [(.ref t6), (.ref t6)])) X3 hx rfl rfl rfl (pc0 := 11) (pc' := 14) (same := true) rfl (hb hby d2_11) rfl (decide_eq_true (congrArg Value.ref hc11_4)) (by decide) (by decide) (XS.iconst X3.here hx rfl (hb hby d2_14) (XS.goto X3.here hx rfl (pc0 := 15) (pc' := 19) rfl (hb hby d2_15) (by decide) (by decide) k))) ?_
  show Comes p e below _ (T3.setTop (mkF m 19 #[.val (.ref t6)] [(.int (1 : Int32))]))
  exact Comes.retN X3 hx (t := .boolean) Bd.returns (by simp) hlk (hb hby d2_19) e3 ⟨rfl, N0, rfl⟩ (by decide) (by decide)
def Q_rmO (Z : State) (self : Addr) (t5 : Addr) (t6 : Addr) (h0 : Heap) (n0 : Nat) (v : Option Value) (h : Heap) (L : List Loc) : Prop := (v = some (.int (0 : Int32))) ∧ (Fr n0 L) ∧ (h = h0)
set_option maxRecDepth 65536 in
set_option maxHeartbeats 40000000 in
theorem rmO (l : Launch) (Z : State) (a0 : Array Value) (hw : ∀ d ∈ tables_1, d.before a0 Z = true) (ws : List Jvm.Cond) (self : Addr) (t5 : Addr) (t6 : Addr) (h0 : Heap) (n0 : Nat) (Z0 : n0 ≤ h0.size) (G0 : Sta Z Z.heap "com/example/typeflow/typeflow/classfile/ConstantKind" "LONG" "Lcom/example/typeflow/typeflow/classfile/ConstantKind;" (.ref t5)) (G1 : Sta Z Z.heap "com/example/typeflow/typeflow/classfile/ConstantKind" "DOUBLE" "Lcom/example/typeflow/typeflow/classfile/ConstantKind;" (.ref t6)) (G2 : Old Z n0 h0) (G3 : self ≠ t5) (G4 : self ≠ t6) :
    MetFree l (⟨"com/example/typeflow/typeflow/classfile/ConstantKind", "isTwoSlots", "()Z"⟩ : MethodName) (head1 (Jvm.Cond.code (⟨"com/example/typeflow/typeflow/classfile/ConstantKind", "isTwoSlots", "()Z"⟩ : MethodName) prog_59_method_6_code 1 (some .boolean) :: ws) ({ frames := 0, cells := 0, slots := 0, locals := 0 } : Room)) (fun a U => a = #[(.ref self)] ∧ Z.Warmed39 U.vm ∧ U.heap = h0) (fun _ _ _ _ _ => True) (fun _ U o U' => ∃ v L, o = .returned v ∧ Q_rmO Z self t5 t6 h0 n0 v U'.heap L ∧ FrameEnd U o U' L ({ frames := 0, cells := 0, slots := 0, locals := 0 } : Room).cells ({ frames := 0, cells := 0, slots := 0, locals := 0 } : Room).slots) := by
  refine MetFree.of_bodySF (plainFor_of_name pn_2) hisR ?_
  intro p e s m args below meth c s₁ Bd hml0 hP hK
  obtain ⟨rfl, hZ, hh⟩ := hP
  have hx := Bd.exec
  have hby := Bd.bytes
  have hml : c.maxLocals = 1 := hml0
  have hown : s.vm.findClass "com/example/typeflow/typeflow/classfile/ConstantKind" = some m.cls := findClass_of_methodNamed Bd.named
  have hnm := (name_of_methodNamed Bd.named Bd.method).1
  have hlk : meth.locks = false := Bd.notSynchronized
  have X0 : Stand p l e ({ frames := 0, cells := 0, slots := 0, locals := 0 } : Room) s m #[(.ref self)] below meth c s₁ [] 0 0 := Stand.of_body Bd
  have e0 : s₁.heap = h0 := by rw [← hh, Bd.state]; rfl
  have N0 := Fr.nil n0
  refine Comes.out (Q := Q_rmO Z self t5 t6 h0 n0) (kc := ({ frames := 0, cells := 0, slots := 0, locals := 0 } : Room).cells) (ks := ({ frames := 0, cells := 0, slots := 0, locals := 0 } : Room).slots) ?_
  refine Comes.cast (ef_rmO m self) ?_
  show Comes p e below _ (s₁.setTop (mkF m 0 #[.val (.ref self)] []))
  refine Comes.st (fun t k => XS.aloadN X0.here hx rfl (hb hby d2_0) rfl rfl k) ?_
  show Comes p e below _ (s₁.setTop (mkF m 1 #[.val (.ref self)] [(.ref self)]))
  obtain ⟨T1, X1, e1, st1⟩ := getS2 X0 hx hZ hown (host := "") (Or.inl (hw _ (List.mem_of_getElem? (i := 13) rfl))) Via.refl e0 (G0.ext G2.2) (g := (mkF m 1 #[.val (.ref self)] [(.ref self)])) rfl (hb hby d2_1)
  refine Comes.st st1 ?_
  show Comes p e below _ (T1.setTop (mkF m 4 #[.val (.ref self)] [(.ref t5), (.ref self)]))
  have hc4_2 : ¬ (self = t5) := by exact G3
  refine Comes.st (fun t k => Jvm.RoadKit.acmp (g := (mkF m 4 #[.val (.ref self)] [(.ref t5), (.ref self)])) X1 hx rfl rfl rfl (pc0 := 4) (pc' := 7) (same := false) rfl (hb hby d2_4) rfl (decide_eq_false fun q => hc4_2 (Value.ref.inj q)) (by decide) (by decide) (XS.aloadN X1.here hx rfl (hb hby d2_7) rfl rfl k)) ?_
  show Comes p e below _ (T1.setTop (mkF m 8 #[.val (.ref self)] [(.ref self)]))
  obtain ⟨T3, X3, e3, st3⟩ := getS2 X1 hx hZ hown (host := "") (Or.inl (hw _ (List.mem_of_getElem? (i := 15) rfl))) Via.refl e1 (G1.ext G2.2) (g := (mkF m 8 #[.val (.ref self)] [(.ref self)])) rfl (hb hby d2_8)
  refine Comes.st st3 ?_
  show Comes p e below _ (T3.setTop (mkF m 11 #[.val (.ref self)] [(.ref t6), (.ref self)]))
  have hc11_4 : ¬ (self = t6) := by exact G4
  refine Comes.st (fun t k => Jvm.RoadKit.acmp (g := (mkF m 11 #[.val (.ref self)] [(.ref t6), (.ref self)])) X3 hx rfl rfl rfl (pc0 := 11) (pc' := 18) (same := false) rfl (hb hby d2_11) rfl (decide_eq_false fun q => hc11_4 (Value.ref.inj q)) (by decide) (by decide) (XS.iconst X3.here hx rfl (hb hby d2_18) k)) ?_
  show Comes p e below _ (T3.setTop (mkF m 19 #[.val (.ref self)] [(.int (0 : Int32))]))
  exact Comes.retN X3 hx (t := .boolean) Bd.returns (by simp) hlk (hb hby d2_19) e3 ⟨rfl, N0, rfl⟩ (by decide) (by decide)
def Q_rm0 (Z : State) (xx : Int32) (arr : Addr) (kk : ClassId) (t1 : Addr) (t3 : Addr) (t4 : Addr) (t5 : Addr) (t6 : Addr) (t7 : Addr) (t8 : Addr) (t9 : Addr) (t10 : Addr) (t11 : Addr) (t12 : Addr) (t15 : Addr) (t16 : Addr) (t17 : Addr) (t18 : Addr) (t19 : Addr) (t20 : Addr) (h0 : Heap) (n0 : Nat) (v : Option Value) (h : Heap) (L : List Loc) : Prop := (v = some (.int (1 : Int32))) ∧ (Fr n0 L)
set_option maxRecDepth 65536 in
set_option maxHeartbeats 40000000 in
theorem rm0 (l : Launch) (Z : State) (a0 : Array Value) (hw : ∀ d ∈ tables_1, d.before a0 Z = true) (ws : List Jvm.Cond) (xx : Int32) (arr : Addr) (kk : ClassId) (t1 : Addr) (t3 : Addr) (t4 : Addr) (t5 : Addr) (t6 : Addr) (t7 : Addr) (t8 : Addr) (t9 : Addr) (t10 : Addr) (t11 : Addr) (t12 : Addr) (t15 : Addr) (t16 : Addr) (t17 : Addr) (t18 : Addr) (t19 : Addr) (t20 : Addr) (h0 : Heap) (n0 : Nat) (Z0 : n0 ≤ h0.size) (G0 : Sta Z Z.heap "com/example/typeflow/typeflow/classfile/ConstantKind" "BY_TAG" "[Lcom/example/typeflow/typeflow/classfile/ConstantKind;" (.ref arr)) (G1 : Sta Z Z.heap "com/example/typeflow/typeflow/classfile/ConstantKind" "LONG" "Lcom/example/typeflow/typeflow/classfile/ConstantKind;" (.ref t5)) (G2 : Sta Z Z.heap "com/example/typeflow/typeflow/classfile/ConstantKind" "DOUBLE" "Lcom/example/typeflow/typeflow/classfile/ConstantKind;" (.ref t6)) (G3 : Old Z n0 h0) (G4 : Arv Z h0 arr kk (.object "com/example/typeflow/typeflow/classfile/ConstantKind") (21 : Int32) [.null, (.ref t1), .null, (.ref t3), (.ref t4), (.ref t5), (.ref t6), (.ref t7), (.ref t8), (.ref t9), (.ref t10), (.ref t11), (.ref t12), .null, .null, (.ref t15), (.ref t16), (.ref t17), (.ref t18), (.ref t19), (.ref t20)] .null) (G5 : Exa Z h0 t1 "com/example/typeflow/typeflow/classfile/ConstantKind") (G6 : Exa Z h0 t3 "com/example/typeflow/typeflow/classfile/ConstantKind") (G7 : Exa Z h0 t4 "com/example/typeflow/typeflow/classfile/ConstantKind") (G8 : Exa Z h0 t5 "com/example/typeflow/typeflow/classfile/ConstantKind") (G9 : Exa Z h0 t6 "com/example/typeflow/typeflow/classfile/ConstantKind") (G10 : Exa Z h0 t7 "com/example/typeflow/typeflow/classfile/ConstantKind") (G11 : Exa Z h0 t8 "com/example/typeflow/typeflow/classfile/ConstantKind") (G12 : Exa Z h0 t9 "com/example/typeflow/typeflow/classfile/ConstantKind") (G13 : Exa Z h0 t10 "com/example/typeflow/typeflow/classfile/ConstantKind") (G14 : Exa Z h0 t11 "com/example/typeflow/typeflow/classfile/ConstantKind") (G15 : Exa Z h0 t12 "com/example/typeflow/typeflow/classfile/ConstantKind") (G16 : Exa Z h0 t15 "com/example/typeflow/typeflow/classfile/ConstantKind") (G17 : Exa Z h0 t16 "com/example/typeflow/typeflow/classfile/ConstantKind") (G18 : Exa Z h0 t17 "com/example/typeflow/typeflow/classfile/ConstantKind") (G19 : Exa Z h0 t18 "com/example/typeflow/typeflow/classfile/ConstantKind") (G20 : Exa Z h0 t19 "com/example/typeflow/typeflow/classfile/ConstantKind") (G21 : Exa Z h0 t20 "com/example/typeflow/typeflow/classfile/ConstantKind") (G22 : t6 ≠ t5) (G23 : t1 ≠ t5) (G24 : t1 ≠ t6) (G25 : t3 ≠ t5) (G26 : t3 ≠ t6) (G27 : t4 ≠ t5) (G28 : t4 ≠ t6) (G29 : t7 ≠ t5) (G30 : t7 ≠ t6) (G31 : t8 ≠ t5) (G32 : t8 ≠ t6) (G33 : t9 ≠ t5) (G34 : t9 ≠ t6) (G35 : t10 ≠ t5) (G36 : t10 ≠ t6) (G37 : t11 ≠ t5) (G38 : t11 ≠ t6) (G39 : t12 ≠ t5) (G40 : t12 ≠ t6) (G41 : t15 ≠ t5) (G42 : t15 ≠ t6) (G43 : t16 ≠ t5) (G44 : t16 ≠ t6) (G45 : t17 ≠ t5) (G46 : t17 ≠ t6) (G47 : t18 ≠ t5) (G48 : t18 ≠ t6) (G49 : t19 ≠ t5) (G50 : t19 ≠ t6) (G51 : t20 ≠ t5) (G52 : t20 ≠ t6) :
    MetFree l x (head1 (Jvm.Cond.code x code maxLocals ret :: ws) room_1) (fun a U => a = #[(.int xx)] ∧ Z.Warmed39 U.vm ∧ U.heap = h0) (fun _ _ _ _ _ => True) (fun _ U o U' => ∃ v L, o = .returned v ∧ Q_rm0 Z xx arr kk t1 t3 t4 t5 t6 t7 t8 t9 t10 t11 t12 t15 t16 t17 t18 t19 t20 h0 n0 v U'.heap L ∧ FrameEnd U o U' L room_1.cells room_1.slots) := by
  refine MetFree.of_bodySF (plainFor_of_name pn_0) hisR ?_
  intro p e s m args below meth c s₁ Bd hml0 hP hK
  obtain ⟨rfl, hZ, hh⟩ := hP
  have hx := Bd.exec
  have hby := Bd.bytes
  have hml : c.maxLocals = 3 := hml0
  have hown : s.vm.findClass "com/example/typeflow/typeflow/classfile/ConstantKindIsTwoSlotsPinLaw" = some m.cls := findClass_of_methodNamed Bd.named
  have hnm := (name_of_methodNamed Bd.named Bd.method).1
  have hlk : meth.locks = false := Bd.notSynchronized
  have X0 : Stand p l e room_1 s m #[(.int xx)] below meth c s₁ [] 0 0 := Stand.of_body Bd
  have e0 : s₁.heap = h0 := by rw [← hh, Bd.state]; rfl
  have N0 := Fr.nil n0
  refine Comes.out (Q := Q_rm0 Z xx arr kk t1 t3 t4 t5 t6 t7 t8 t9 t10 t11 t12 t15 t16 t17 t18 t19 t20 h0 n0) (kc := room_1.cells) (ks := room_1.slots) ?_
  refine Comes.cast (ef_rm0 m xx) ?_
  have lt_arr : arr < h0.size := G4.lt
  have lt_t1 : t1 < h0.size := G5.lt
  have lt_t3 : t3 < h0.size := G6.lt
  have lt_t4 : t4 < h0.size := G7.lt
  have lt_t5 : t5 < h0.size := G8.lt
  have lt_t6 : t6 < h0.size := G9.lt
  have lt_t7 : t7 < h0.size := G10.lt
  have lt_t8 : t8 < h0.size := G11.lt
  have lt_t9 : t9 < h0.size := G12.lt
  have lt_t10 : t10 < h0.size := G13.lt
  have lt_t11 : t11 < h0.size := G14.lt
  have lt_t12 : t12 < h0.size := G15.lt
  have lt_t15 : t15 < h0.size := G16.lt
  have lt_t16 : t16 < h0.size := G17.lt
  have lt_t17 : t17 < h0.size := G18.lt
  have lt_t18 : t18 < h0.size := G19.lt
  have lt_t19 : t19 < h0.size := G20.lt
  have lt_t20 : t20 < h0.size := G21.lt
  show Comes p e below _ (s₁.setTop (mkF m 0 #[.val (.int xx), .unset, .unset] []))
  refine Comes.st (fun t k => XS.iloadN X0.here hx rfl (hb hby at_0) rfl (X0.ldcInt hx hown (mvT hZ (hw _ (List.mem_of_getElem? (i := 0) rfl))) (g := (mkF m 1 #[.val (.int xx), .unset, .unset] [(.int xx)])) rfl (hb hby at_1) _ (XS.iand X0.here hx rfl (hb hby at_3) rfl (XS.bipush X0.here hx rfl (hb hby at_4) k)))) ?_
  show Comes p e below _ (s₁.setTop (mkF m 6 #[.val (.int xx), .unset, .unset] [(.int (21 : Int32)), (.int (xx &&& (2147483647 : Int32)))]))
  have hnz1 : ¬ ((21 : Int32) = (0 : Int32)) := by decide
  refine Comes.st (fun t k => iremM X0 hx rfl (hb hby at_6) rfl hnz1 k) ?_
  show Comes p e below _ (s₁.setTop (mkF m 7 #[.val (.int xx), .unset, .unset] [(.int ((xx &&& (2147483647 : Int32)) % (21 : Int32)))]))
  generalize hv_v2 : ((xx &&& (2147483647 : Int32)) % (21 : Int32)) = v2
  show Comes p e below _ (s₁.setTop (mkF m 7 #[.val (.int xx), .unset, .unset] [(.int v2)]))
  refine Comes.st (fun t k => XS.istoreN X0.here hx rfl (hb hby at_7) rfl (l' := #[.val (.int xx), .val (.int v2), .unset]) rfl k) ?_
  have hsp3 : v2 = (0 : Int32) ∨ v2 = (1 : Int32) ∨ v2 = (2 : Int32) ∨ v2 = (3 : Int32) ∨ v2 = (4 : Int32) ∨ v2 = (5 : Int32) ∨ v2 = (6 : Int32) ∨ v2 = (7 : Int32) ∨ v2 = (8 : Int32) ∨ v2 = (9 : Int32) ∨ v2 = (10 : Int32) ∨ v2 = (11 : Int32) ∨ v2 = (12 : Int32) ∨ v2 = (13 : Int32) ∨ v2 = (14 : Int32) ∨ v2 = (15 : Int32) ∨ v2 = (16 : Int32) ∨ v2 = (17 : Int32) ∨ v2 = (18 : Int32) ∨ v2 = (19 : Int32) ∨ v2 = (20 : Int32) := by have a_0 := c_mask xx (2147483647 : Int32) 31 (by decide) (by decide); have a_1 := c_irem (xx &&& (2147483647 : Int32)) (21 : Int32) 21 (by decide); rw [hv_v2] at a_1; have a_2 := rng32 (xx &&& (2147483647 : Int32)); have a_3 := rng32 v2; have a_4 := rng32 xx; (simp only [Int32.lt_iff_toInt_lt, Int64.lt_iff_toInt_lt, ← Int32.toInt_inj, ← Int64.toInt_inj, Int32.reduceToInt, Int64.reduceToInt] at a_0 a_1 a_2 a_3 a_4 ⊢) <;> omega
  rcases hsp3 with rfl | rfl | rfl | rfl | rfl | rfl | rfl | rfl | rfl | rfl | rfl | rfl | rfl | rfl | rfl | rfl | rfl | rfl | rfl | rfl | rfl
  · show Comes p e below _ (s₁.setTop (mkF m 8 #[.val (.int xx), .val (.int (0 : Int32)), .unset] []))
    refine Comes.st (fun t k => XS.iloadN X0.here hx rfl (hb hby at_8) rfl k) ?_
    show Comes p e below _ (s₁.setTop (mkF m 9 #[.val (.int xx), .val (.int (0 : Int32)), .unset] [(.int (0 : Int32))]))
    obtain ⟨_, _, ⟨T4, L4, k4, n4⟩, -, X4, ⟨Lc4, hQ4, l4, y4, z4⟩, st4⟩ := Jvm.LawKit.callS X0 hx (y := (⟨"com/example/typeflow/typeflow/classfile/ConstantKind", "ofTag", "(I)Lcom/example/typeflow/typeflow/classfile/ConstantKind;"⟩ : MethodName)) hown (mvT hZ (hw _ (List.mem_of_getElem? (i := 1) rfl))) (mvT hZ (hw _ (List.mem_of_getElem? (i := 2) rfl))) (mvT hZ (hw _ (List.mem_of_getElem? (i := 3) rfl))) (mvT hZ (hw _ (List.mem_of_getElem? (i := 4) rfl))) (by decide) (backOf (W := 0) (rm1_0 l Z a0 hw [] arr kk t1 t3 t4 t5 t6 t7 t8 t9 t10 t11 t12 t15 t16 t17 t18 t19 t20 h0 n0 (by omega)  G0 G3 G4) hZ (hw _ (List.mem_of_getElem? (i := 4) rfl)) (hw _ (List.mem_of_getElem? (i := 3) rfl)) (by decide) (by decide)) (g := (mkF m 9 #[.val (.int xx), .val (.int (0 : Int32)), .unset] [(.int (0 : Int32))])) rfl (by rw [hml]; rfl) (argsL := [(.int (0 : Int32))]) (rest := []) (lenOf pd_0 rfl) rfl (by show 2 * 0 + _ ≤ _; exact Nat.le_of_eq rfl) (hb hby at_9) (fun _ _ => ⟨rfl, e0, (by decide : 0 + 0 ≤ _), (by decide : 0 + 0 ≤ _)⟩)
    dsimp only [Pt.U, Pt.locs, Pt.cells, Pt.slots] at X4 l4 y4 z4 st4 hQ4
    subst l4 y4 z4
    obtain ⟨rfl, Nq4, hs4⟩ := hQ4
    have N4 := Fr.app N0 Nq4
    refine Comes.st st4 ?_
    show Comes p e below _ (T4.setTop (mkF m 12 #[.val (.int xx), .val (.int (0 : Int32)), .unset] [.null]))
    refine Comes.st (fun t k => XS.astoreN X4.here hx rfl (hb hby at_12) rfl rfl (l' := #[.val (.int xx), .val (.int (0 : Int32)), .val .null]) rfl (XS.aloadN X4.here hx rfl (hb hby at_13) rfl rfl (XS.ifnonnullNo X4.here hx rfl (hb hby at_14) rfl (XS.iloadN X4.here hx rfl (hb hby at_17) rfl k)))) ?_
    show Comes p e below _ (T4.setTop (mkF m 18 #[.val (.int xx), .val (.int (0 : Int32)), .val .null] [(.int (0 : Int32))]))
    have hc18_5 : (0 : Int32) = (0 : Int32) := by decide
    refine Comes.st (fun t k => XS.ifYes X4.here hx rfl (pc0 := 18) (pc' := 38) rfl (hb hby at_18) rfl ((if0 _ _).trans (teq hc18_5).1) (by decide) (by decide) (XS.iconst X4.here hx rfl (hb hby at_38) (XS.goto X4.here hx rfl (pc0 := 39) (pc' := 43) rfl (hb hby at_39) (by decide) (by decide) k))) ?_
    show Comes p e below _ (T4.setTop (mkF m 43 #[.val (.int xx), .val (.int (0 : Int32)), .val .null] [(.int (1 : Int32))]))
    exact Comes.retN X4 hx (t := .boolean) Bd.returns (by simp) hlk (hb hby at_43) hs4 ⟨rfl, N4⟩ (by decide) (by decide)
  · show Comes p e below _ (s₁.setTop (mkF m 8 #[.val (.int xx), .val (.int (1 : Int32)), .unset] []))
    refine Comes.st (fun t k => XS.iloadN X0.here hx rfl (hb hby at_8) rfl k) ?_
    show Comes p e below _ (s₁.setTop (mkF m 9 #[.val (.int xx), .val (.int (1 : Int32)), .unset] [(.int (1 : Int32))]))
    obtain ⟨_, _, ⟨T6, L6, k6, n6⟩, -, X6, ⟨Lc6, hQ6, l6, y6, z6⟩, st6⟩ := Jvm.LawKit.callS X0 hx (y := (⟨"com/example/typeflow/typeflow/classfile/ConstantKind", "ofTag", "(I)Lcom/example/typeflow/typeflow/classfile/ConstantKind;"⟩ : MethodName)) hown (mvT hZ (hw _ (List.mem_of_getElem? (i := 1) rfl))) (mvT hZ (hw _ (List.mem_of_getElem? (i := 2) rfl))) (mvT hZ (hw _ (List.mem_of_getElem? (i := 3) rfl))) (mvT hZ (hw _ (List.mem_of_getElem? (i := 4) rfl))) (by decide) (backOf (W := 0) (rm1_1 l Z a0 hw [] arr kk t1 t3 t4 t5 t6 t7 t8 t9 t10 t11 t12 t15 t16 t17 t18 t19 t20 h0 n0 (by omega)  G0 G3 G4) hZ (hw _ (List.mem_of_getElem? (i := 4) rfl)) (hw _ (List.mem_of_getElem? (i := 3) rfl)) (by decide) (by decide)) (g := (mkF m 9 #[.val (.int xx), .val (.int (1 : Int32)), .unset] [(.int (1 : Int32))])) rfl (by rw [hml]; rfl) (argsL := [(.int (1 : Int32))]) (rest := []) (lenOf pd_0 rfl) rfl (by show 2 * 0 + _ ≤ _; exact Nat.le_of_eq rfl) (hb hby at_9) (fun _ _ => ⟨rfl, e0, (by decide : 0 + 0 ≤ _), (by decide : 0 + 0 ≤ _)⟩)
    dsimp only [Pt.U, Pt.locs, Pt.cells, Pt.slots] at X6 l6 y6 z6 st6 hQ6
    subst l6 y6 z6
    obtain ⟨rfl, Nq6, hs6⟩ := hQ6
    have N6 := Fr.app N0 Nq6
    refine Comes.st st6 ?_
    show Comes p e below _ (T6.setTop (mkF m 12 #[.val (.int xx), .val (.int (1 : Int32)), .unset] [(.ref t1)]))
    refine Comes.st (fun t k => XS.astoreN X6.here hx rfl (hb hby at_12) rfl rfl (l' := #[.val (.int xx), .val (.int (1 : Int32)), .val (.ref t1)]) rfl (XS.aloadN X6.here hx rfl (hb hby at_13) rfl rfl (XS.ifnonnullYes X6.here hx rfl (pc0 := 14) (pc' := 44) rfl (hb hby at_14) rfl (by decide) (by decide) (XS.aloadN X6.here hx rfl (hb hby at_44) rfl rfl k)))) ?_
    show Comes p e below _ (T6.setTop (mkF m 45 #[.val (.int xx), .val (.int (1 : Int32)), .val (.ref t1)] [(.ref t1)]))
    obtain ⟨cq7, kq7, q7a, q7b, q7c⟩ := isOf hZ hs6 G5
    obtain ⟨_, _, ⟨T7, L7, k7, n7⟩, -, X7, ⟨Lc7, hQ7, l7, y7, z7⟩, st7⟩ := X6.virtualBack hx (y := (⟨"com/example/typeflow/typeflow/classfile/ConstantKind", "isTwoSlots", "()Z"⟩ : MethodName)) (z := (⟨"com/example/typeflow/typeflow/classfile/ConstantKind", "isTwoSlots", "()Z"⟩ : MethodName)) hown (mvT hZ (hw _ (List.mem_of_getElem? (i := 8) rfl))) (mvT hZ (hw _ (List.mem_of_getElem? (i := 9) rfl))) (notFace_of_selects (args := #[]) (mvT hZ (hw _ (List.mem_of_getElem? (i := 11) rfl)))) (mvT hZ (hw _ (List.mem_of_getElem? (i := 11) rfl))) (mvT hZ (hw _ (List.mem_of_getElem? (i := 10) rfl))) (by decide) (backOf (W := 0) (rmO l Z a0 hw [] t1 t5 t6 h0 n0 (by omega)  G1 G2 G3 G23 G24) hZ (hw _ (List.mem_of_getElem? (i := 12) rfl)) (hw _ (List.mem_of_getElem? (i := 3) rfl)) (by decide) (by decide)) q7a q7c (g := (mkF m 45 #[.val (.int xx), .val (.int (1 : Int32)), .val (.ref t1)] [(.ref t1)])) rfl (by rw [hml]; rfl) (Steps.refl _) (argsL := []) (rest := []) (lenOf pd_1 rfl) rfl (by show 2 * 0 + _ ≤ _; exact Nat.le_of_eq rfl) (hb hby at_45) (fun _ _ => ⟨rfl, hs6, (by decide : 0 + 0 ≤ _), (by decide : 0 + 0 ≤ _)⟩)
    dsimp only [Pt.U, Pt.locs, Pt.cells, Pt.slots] at X7 l7 y7 z7 st7 hQ7
    subst l7 y7 z7
    obtain ⟨rfl, Nq7, hs7⟩ := hQ7
    have N7 := Fr.app N6 Nq7
    refine Comes.go st7 ?_
    show Comes p e below _ (T7.setTop (mkF m 48 #[.val (.int xx), .val (.int (1 : Int32)), .val (.ref t1)] [(.int (0 : Int32))]))
    refine Comes.st (fun t k => XS.iloadN X7.here hx rfl (hb hby at_48) rfl (XS.iconst X7.here hx rfl (hb hby at_49) k)) ?_
    show Comes p e below _ (T7.setTop (mkF m 50 #[.val (.int xx), .val (.int (1 : Int32)), .val (.ref t1)] [(.int (5 : Int32)), (.int (1 : Int32)), (.int (0 : Int32))]))
    have hc50_8 : ¬ ((1 : Int32) = (5 : Int32)) := by decide
    refine Comes.st (fun t k => XS.icmpNo X7.here hx rfl (hb hby at_50) rfl (feq hc50_8).1 (XS.iloadN X7.here hx rfl (hb hby at_53) rfl (XS.bipush X7.here hx rfl (hb hby at_54) k))) ?_
    show Comes p e below _ (T7.setTop (mkF m 56 #[.val (.int xx), .val (.int (1 : Int32)), .val (.ref t1)] [(.int (6 : Int32)), (.int (1 : Int32)), (.int (0 : Int32))]))
    have hc56_9 : ¬ ((1 : Int32) = (6 : Int32)) := by decide
    refine Comes.st (fun t k => XS.icmpYes X7.here hx rfl (pc0 := 56) (pc' := 63) rfl (hb hby at_56) rfl (feq hc56_9).2 (by decide) (by decide) (XS.iconst X7.here hx rfl (hb hby at_63) k)) ?_
    show Comes p e below _ (T7.setTop (mkF m 64 #[.val (.int xx), .val (.int (1 : Int32)), .val (.ref t1)] [(.int (0 : Int32)), (.int (0 : Int32))]))
    have hc64_10 : (0 : Int32) = (0 : Int32) := by decide
    refine Comes.st (fun t k => XS.icmpNo X7.here hx rfl (hb hby at_64) rfl (teq hc64_10).2 (XS.iconst X7.here hx rfl (hb hby at_67) (XS.goto X7.here hx rfl (pc0 := 68) (pc' := 72) rfl (hb hby at_68) (by decide) (by decide) k))) ?_
    show Comes p e below _ (T7.setTop (mkF m 72 #[.val (.int xx), .val (.int (1 : Int32)), .val (.ref t1)] [(.int (1 : Int32))]))
    exact Comes.retN X7 hx (t := .boolean) Bd.returns (by simp) hlk (hb hby at_72) hs7 ⟨rfl, N7⟩ (by decide) (by decide)
  · show Comes p e below _ (s₁.setTop (mkF m 8 #[.val (.int xx), .val (.int (2 : Int32)), .unset] []))
    refine Comes.st (fun t k => XS.iloadN X0.here hx rfl (hb hby at_8) rfl k) ?_
    show Comes p e below _ (s₁.setTop (mkF m 9 #[.val (.int xx), .val (.int (2 : Int32)), .unset] [(.int (2 : Int32))]))
    obtain ⟨_, _, ⟨T11, L11, k11, n11⟩, -, X11, ⟨Lc11, hQ11, l11, y11, z11⟩, st11⟩ := Jvm.LawKit.callS X0 hx (y := (⟨"com/example/typeflow/typeflow/classfile/ConstantKind", "ofTag", "(I)Lcom/example/typeflow/typeflow/classfile/ConstantKind;"⟩ : MethodName)) hown (mvT hZ (hw _ (List.mem_of_getElem? (i := 1) rfl))) (mvT hZ (hw _ (List.mem_of_getElem? (i := 2) rfl))) (mvT hZ (hw _ (List.mem_of_getElem? (i := 3) rfl))) (mvT hZ (hw _ (List.mem_of_getElem? (i := 4) rfl))) (by decide) (backOf (W := 0) (rm1_2 l Z a0 hw [] arr kk t1 t3 t4 t5 t6 t7 t8 t9 t10 t11 t12 t15 t16 t17 t18 t19 t20 h0 n0 (by omega)  G0 G3 G4) hZ (hw _ (List.mem_of_getElem? (i := 4) rfl)) (hw _ (List.mem_of_getElem? (i := 3) rfl)) (by decide) (by decide)) (g := (mkF m 9 #[.val (.int xx), .val (.int (2 : Int32)), .unset] [(.int (2 : Int32))])) rfl (by rw [hml]; rfl) (argsL := [(.int (2 : Int32))]) (rest := []) (lenOf pd_0 rfl) rfl (by show 2 * 0 + _ ≤ _; exact Nat.le_of_eq rfl) (hb hby at_9) (fun _ _ => ⟨rfl, e0, (by decide : 0 + 0 ≤ _), (by decide : 0 + 0 ≤ _)⟩)
    dsimp only [Pt.U, Pt.locs, Pt.cells, Pt.slots] at X11 l11 y11 z11 st11 hQ11
    subst l11 y11 z11
    obtain ⟨rfl, Nq11, hs11⟩ := hQ11
    have N11 := Fr.app N0 Nq11
    refine Comes.st st11 ?_
    show Comes p e below _ (T11.setTop (mkF m 12 #[.val (.int xx), .val (.int (2 : Int32)), .unset] [.null]))
    refine Comes.st (fun t k => XS.astoreN X11.here hx rfl (hb hby at_12) rfl rfl (l' := #[.val (.int xx), .val (.int (2 : Int32)), .val .null]) rfl (XS.aloadN X11.here hx rfl (hb hby at_13) rfl rfl (XS.ifnonnullNo X11.here hx rfl (hb hby at_14) rfl (XS.iloadN X11.here hx rfl (hb hby at_17) rfl k)))) ?_
    show Comes p e below _ (T11.setTop (mkF m 18 #[.val (.int xx), .val (.int (2 : Int32)), .val .null] [(.int (2 : Int32))]))
    have hc18_12 : ¬ ((2 : Int32) = (0 : Int32)) := by decide
    refine Comes.st (fun t k => XS.ifNo X11.here hx rfl (hb hby at_18) rfl ((if0 _ _).trans (feq hc18_12).1) (XS.iloadN X11.here hx rfl (hb hby at_21) rfl (XS.iconst X11.here hx rfl (hb hby at_22) k))) ?_
    show Comes p e below _ (T11.setTop (mkF m 23 #[.val (.int xx), .val (.int (2 : Int32)), .val .null] [(.int (2 : Int32)), (.int (2 : Int32))]))
    have hc23_13 : (2 : Int32) = (2 : Int32) := by decide
    refine Comes.st (fun t k => XS.icmpYes X11.here hx rfl (pc0 := 23) (pc' := 38) rfl (hb hby at_23) rfl (teq hc23_13).1 (by decide) (by decide) (XS.iconst X11.here hx rfl (hb hby at_38) (XS.goto X11.here hx rfl (pc0 := 39) (pc' := 43) rfl (hb hby at_39) (by decide) (by decide) k))) ?_
    show Comes p e below _ (T11.setTop (mkF m 43 #[.val (.int xx), .val (.int (2 : Int32)), .val .null] [(.int (1 : Int32))]))
    exact Comes.retN X11 hx (t := .boolean) Bd.returns (by simp) hlk (hb hby at_43) hs11 ⟨rfl, N11⟩ (by decide) (by decide)
  · show Comes p e below _ (s₁.setTop (mkF m 8 #[.val (.int xx), .val (.int (3 : Int32)), .unset] []))
    refine Comes.st (fun t k => XS.iloadN X0.here hx rfl (hb hby at_8) rfl k) ?_
    show Comes p e below _ (s₁.setTop (mkF m 9 #[.val (.int xx), .val (.int (3 : Int32)), .unset] [(.int (3 : Int32))]))
    obtain ⟨_, _, ⟨T14, L14, k14, n14⟩, -, X14, ⟨Lc14, hQ14, l14, y14, z14⟩, st14⟩ := Jvm.LawKit.callS X0 hx (y := (⟨"com/example/typeflow/typeflow/classfile/ConstantKind", "ofTag", "(I)Lcom/example/typeflow/typeflow/classfile/ConstantKind;"⟩ : MethodName)) hown (mvT hZ (hw _ (List.mem_of_getElem? (i := 1) rfl))) (mvT hZ (hw _ (List.mem_of_getElem? (i := 2) rfl))) (mvT hZ (hw _ (List.mem_of_getElem? (i := 3) rfl))) (mvT hZ (hw _ (List.mem_of_getElem? (i := 4) rfl))) (by decide) (backOf (W := 0) (rm1_3 l Z a0 hw [] arr kk t1 t3 t4 t5 t6 t7 t8 t9 t10 t11 t12 t15 t16 t17 t18 t19 t20 h0 n0 (by omega)  G0 G3 G4) hZ (hw _ (List.mem_of_getElem? (i := 4) rfl)) (hw _ (List.mem_of_getElem? (i := 3) rfl)) (by decide) (by decide)) (g := (mkF m 9 #[.val (.int xx), .val (.int (3 : Int32)), .unset] [(.int (3 : Int32))])) rfl (by rw [hml]; rfl) (argsL := [(.int (3 : Int32))]) (rest := []) (lenOf pd_0 rfl) rfl (by show 2 * 0 + _ ≤ _; exact Nat.le_of_eq rfl) (hb hby at_9) (fun _ _ => ⟨rfl, e0, (by decide : 0 + 0 ≤ _), (by decide : 0 + 0 ≤ _)⟩)
    dsimp only [Pt.U, Pt.locs, Pt.cells, Pt.slots] at X14 l14 y14 z14 st14 hQ14
    subst l14 y14 z14
    obtain ⟨rfl, Nq14, hs14⟩ := hQ14
    have N14 := Fr.app N0 Nq14
    refine Comes.st st14 ?_
    show Comes p e below _ (T14.setTop (mkF m 12 #[.val (.int xx), .val (.int (3 : Int32)), .unset] [(.ref t3)]))
    refine Comes.st (fun t k => XS.astoreN X14.here hx rfl (hb hby at_12) rfl rfl (l' := #[.val (.int xx), .val (.int (3 : Int32)), .val (.ref t3)]) rfl (XS.aloadN X14.here hx rfl (hb hby at_13) rfl rfl (XS.ifnonnullYes X14.here hx rfl (pc0 := 14) (pc' := 44) rfl (hb hby at_14) rfl (by decide) (by decide) (XS.aloadN X14.here hx rfl (hb hby at_44) rfl rfl k)))) ?_
    show Comes p e below _ (T14.setTop (mkF m 45 #[.val (.int xx), .val (.int (3 : Int32)), .val (.ref t3)] [(.ref t3)]))
    obtain ⟨cq15, kq15, q15a, q15b, q15c⟩ := isOf hZ hs14 G6
    obtain ⟨_, _, ⟨T15, L15, k15, n15⟩, -, X15, ⟨Lc15, hQ15, l15, y15, z15⟩, st15⟩ := X14.virtualBack hx (y := (⟨"com/example/typeflow/typeflow/classfile/ConstantKind", "isTwoSlots", "()Z"⟩ : MethodName)) (z := (⟨"com/example/typeflow/typeflow/classfile/ConstantKind", "isTwoSlots", "()Z"⟩ : MethodName)) hown (mvT hZ (hw _ (List.mem_of_getElem? (i := 8) rfl))) (mvT hZ (hw _ (List.mem_of_getElem? (i := 9) rfl))) (notFace_of_selects (args := #[]) (mvT hZ (hw _ (List.mem_of_getElem? (i := 11) rfl)))) (mvT hZ (hw _ (List.mem_of_getElem? (i := 11) rfl))) (mvT hZ (hw _ (List.mem_of_getElem? (i := 10) rfl))) (by decide) (backOf (W := 0) (rmO l Z a0 hw [] t3 t5 t6 h0 n0 (by omega)  G1 G2 G3 G25 G26) hZ (hw _ (List.mem_of_getElem? (i := 12) rfl)) (hw _ (List.mem_of_getElem? (i := 3) rfl)) (by decide) (by decide)) q15a q15c (g := (mkF m 45 #[.val (.int xx), .val (.int (3 : Int32)), .val (.ref t3)] [(.ref t3)])) rfl (by rw [hml]; rfl) (Steps.refl _) (argsL := []) (rest := []) (lenOf pd_1 rfl) rfl (by show 2 * 0 + _ ≤ _; exact Nat.le_of_eq rfl) (hb hby at_45) (fun _ _ => ⟨rfl, hs14, (by decide : 0 + 0 ≤ _), (by decide : 0 + 0 ≤ _)⟩)
    dsimp only [Pt.U, Pt.locs, Pt.cells, Pt.slots] at X15 l15 y15 z15 st15 hQ15
    subst l15 y15 z15
    obtain ⟨rfl, Nq15, hs15⟩ := hQ15
    have N15 := Fr.app N14 Nq15
    refine Comes.go st15 ?_
    show Comes p e below _ (T15.setTop (mkF m 48 #[.val (.int xx), .val (.int (3 : Int32)), .val (.ref t3)] [(.int (0 : Int32))]))
    refine Comes.st (fun t k => XS.iloadN X15.here hx rfl (hb hby at_48) rfl (XS.iconst X15.here hx rfl (hb hby at_49) k)) ?_
    show Comes p e below _ (T15.setTop (mkF m 50 #[.val (.int xx), .val (.int (3 : Int32)), .val (.ref t3)] [(.int (5 : Int32)), (.int (3 : Int32)), (.int (0 : Int32))]))
    have hc50_16 : ¬ ((3 : Int32) = (5 : Int32)) := by decide
    refine Comes.st (fun t k => XS.icmpNo X15.here hx rfl (hb hby at_50) rfl (feq hc50_16).1 (XS.iloadN X15.here hx rfl (hb hby at_53) rfl (XS.bipush X15.here hx rfl (hb hby at_54) k))) ?_
    show Comes p e below _ (T15.setTop (mkF m 56 #[.val (.int xx), .val (.int (3 : Int32)), .val (.ref t3)] [(.int (6 : Int32)), (.int (3 : Int32)), (.int (0 : Int32))]))
    have hc56_17 : ¬ ((3 : Int32) = (6 : Int32)) := by decide
    refine Comes.st (fun t k => XS.icmpYes X15.here hx rfl (pc0 := 56) (pc' := 63) rfl (hb hby at_56) rfl (feq hc56_17).2 (by decide) (by decide) (XS.iconst X15.here hx rfl (hb hby at_63) k)) ?_
    show Comes p e below _ (T15.setTop (mkF m 64 #[.val (.int xx), .val (.int (3 : Int32)), .val (.ref t3)] [(.int (0 : Int32)), (.int (0 : Int32))]))
    have hc64_18 : (0 : Int32) = (0 : Int32) := by decide
    refine Comes.st (fun t k => XS.icmpNo X15.here hx rfl (hb hby at_64) rfl (teq hc64_18).2 (XS.iconst X15.here hx rfl (hb hby at_67) (XS.goto X15.here hx rfl (pc0 := 68) (pc' := 72) rfl (hb hby at_68) (by decide) (by decide) k))) ?_
    show Comes p e below _ (T15.setTop (mkF m 72 #[.val (.int xx), .val (.int (3 : Int32)), .val (.ref t3)] [(.int (1 : Int32))]))
    exact Comes.retN X15 hx (t := .boolean) Bd.returns (by simp) hlk (hb hby at_72) hs15 ⟨rfl, N15⟩ (by decide) (by decide)
  · show Comes p e below _ (s₁.setTop (mkF m 8 #[.val (.int xx), .val (.int (4 : Int32)), .unset] []))
    refine Comes.st (fun t k => XS.iloadN X0.here hx rfl (hb hby at_8) rfl k) ?_
    show Comes p e below _ (s₁.setTop (mkF m 9 #[.val (.int xx), .val (.int (4 : Int32)), .unset] [(.int (4 : Int32))]))
    obtain ⟨_, _, ⟨T19, L19, k19, n19⟩, -, X19, ⟨Lc19, hQ19, l19, y19, z19⟩, st19⟩ := Jvm.LawKit.callS X0 hx (y := (⟨"com/example/typeflow/typeflow/classfile/ConstantKind", "ofTag", "(I)Lcom/example/typeflow/typeflow/classfile/ConstantKind;"⟩ : MethodName)) hown (mvT hZ (hw _ (List.mem_of_getElem? (i := 1) rfl))) (mvT hZ (hw _ (List.mem_of_getElem? (i := 2) rfl))) (mvT hZ (hw _ (List.mem_of_getElem? (i := 3) rfl))) (mvT hZ (hw _ (List.mem_of_getElem? (i := 4) rfl))) (by decide) (backOf (W := 0) (rm1_4 l Z a0 hw [] arr kk t1 t3 t4 t5 t6 t7 t8 t9 t10 t11 t12 t15 t16 t17 t18 t19 t20 h0 n0 (by omega)  G0 G3 G4) hZ (hw _ (List.mem_of_getElem? (i := 4) rfl)) (hw _ (List.mem_of_getElem? (i := 3) rfl)) (by decide) (by decide)) (g := (mkF m 9 #[.val (.int xx), .val (.int (4 : Int32)), .unset] [(.int (4 : Int32))])) rfl (by rw [hml]; rfl) (argsL := [(.int (4 : Int32))]) (rest := []) (lenOf pd_0 rfl) rfl (by show 2 * 0 + _ ≤ _; exact Nat.le_of_eq rfl) (hb hby at_9) (fun _ _ => ⟨rfl, e0, (by decide : 0 + 0 ≤ _), (by decide : 0 + 0 ≤ _)⟩)
    dsimp only [Pt.U, Pt.locs, Pt.cells, Pt.slots] at X19 l19 y19 z19 st19 hQ19
    subst l19 y19 z19
    obtain ⟨rfl, Nq19, hs19⟩ := hQ19
    have N19 := Fr.app N0 Nq19
    refine Comes.st st19 ?_
    show Comes p e below _ (T19.setTop (mkF m 12 #[.val (.int xx), .val (.int (4 : Int32)), .unset] [(.ref t4)]))
    refine Comes.st (fun t k => XS.astoreN X19.here hx rfl (hb hby at_12) rfl rfl (l' := #[.val (.int xx), .val (.int (4 : Int32)), .val (.ref t4)]) rfl (XS.aloadN X19.here hx rfl (hb hby at_13) rfl rfl (XS.ifnonnullYes X19.here hx rfl (pc0 := 14) (pc' := 44) rfl (hb hby at_14) rfl (by decide) (by decide) (XS.aloadN X19.here hx rfl (hb hby at_44) rfl rfl k)))) ?_
    show Comes p e below _ (T19.setTop (mkF m 45 #[.val (.int xx), .val (.int (4 : Int32)), .val (.ref t4)] [(.ref t4)]))
    obtain ⟨cq20, kq20, q20a, q20b, q20c⟩ := isOf hZ hs19 G7
    obtain ⟨_, _, ⟨T20, L20, k20, n20⟩, -, X20, ⟨Lc20, hQ20, l20, y20, z20⟩, st20⟩ := X19.virtualBack hx (y := (⟨"com/example/typeflow/typeflow/classfile/ConstantKind", "isTwoSlots", "()Z"⟩ : MethodName)) (z := (⟨"com/example/typeflow/typeflow/classfile/ConstantKind", "isTwoSlots", "()Z"⟩ : MethodName)) hown (mvT hZ (hw _ (List.mem_of_getElem? (i := 8) rfl))) (mvT hZ (hw _ (List.mem_of_getElem? (i := 9) rfl))) (notFace_of_selects (args := #[]) (mvT hZ (hw _ (List.mem_of_getElem? (i := 11) rfl)))) (mvT hZ (hw _ (List.mem_of_getElem? (i := 11) rfl))) (mvT hZ (hw _ (List.mem_of_getElem? (i := 10) rfl))) (by decide) (backOf (W := 0) (rmO l Z a0 hw [] t4 t5 t6 h0 n0 (by omega)  G1 G2 G3 G27 G28) hZ (hw _ (List.mem_of_getElem? (i := 12) rfl)) (hw _ (List.mem_of_getElem? (i := 3) rfl)) (by decide) (by decide)) q20a q20c (g := (mkF m 45 #[.val (.int xx), .val (.int (4 : Int32)), .val (.ref t4)] [(.ref t4)])) rfl (by rw [hml]; rfl) (Steps.refl _) (argsL := []) (rest := []) (lenOf pd_1 rfl) rfl (by show 2 * 0 + _ ≤ _; exact Nat.le_of_eq rfl) (hb hby at_45) (fun _ _ => ⟨rfl, hs19, (by decide : 0 + 0 ≤ _), (by decide : 0 + 0 ≤ _)⟩)
    dsimp only [Pt.U, Pt.locs, Pt.cells, Pt.slots] at X20 l20 y20 z20 st20 hQ20
    subst l20 y20 z20
    obtain ⟨rfl, Nq20, hs20⟩ := hQ20
    have N20 := Fr.app N19 Nq20
    refine Comes.go st20 ?_
    show Comes p e below _ (T20.setTop (mkF m 48 #[.val (.int xx), .val (.int (4 : Int32)), .val (.ref t4)] [(.int (0 : Int32))]))
    refine Comes.st (fun t k => XS.iloadN X20.here hx rfl (hb hby at_48) rfl (XS.iconst X20.here hx rfl (hb hby at_49) k)) ?_
    show Comes p e below _ (T20.setTop (mkF m 50 #[.val (.int xx), .val (.int (4 : Int32)), .val (.ref t4)] [(.int (5 : Int32)), (.int (4 : Int32)), (.int (0 : Int32))]))
    have hc50_21 : ¬ ((4 : Int32) = (5 : Int32)) := by decide
    refine Comes.st (fun t k => XS.icmpNo X20.here hx rfl (hb hby at_50) rfl (feq hc50_21).1 (XS.iloadN X20.here hx rfl (hb hby at_53) rfl (XS.bipush X20.here hx rfl (hb hby at_54) k))) ?_
    show Comes p e below _ (T20.setTop (mkF m 56 #[.val (.int xx), .val (.int (4 : Int32)), .val (.ref t4)] [(.int (6 : Int32)), (.int (4 : Int32)), (.int (0 : Int32))]))
    have hc56_22 : ¬ ((4 : Int32) = (6 : Int32)) := by decide
    refine Comes.st (fun t k => XS.icmpYes X20.here hx rfl (pc0 := 56) (pc' := 63) rfl (hb hby at_56) rfl (feq hc56_22).2 (by decide) (by decide) (XS.iconst X20.here hx rfl (hb hby at_63) k)) ?_
    show Comes p e below _ (T20.setTop (mkF m 64 #[.val (.int xx), .val (.int (4 : Int32)), .val (.ref t4)] [(.int (0 : Int32)), (.int (0 : Int32))]))
    have hc64_23 : (0 : Int32) = (0 : Int32) := by decide
    refine Comes.st (fun t k => XS.icmpNo X20.here hx rfl (hb hby at_64) rfl (teq hc64_23).2 (XS.iconst X20.here hx rfl (hb hby at_67) (XS.goto X20.here hx rfl (pc0 := 68) (pc' := 72) rfl (hb hby at_68) (by decide) (by decide) k))) ?_
    show Comes p e below _ (T20.setTop (mkF m 72 #[.val (.int xx), .val (.int (4 : Int32)), .val (.ref t4)] [(.int (1 : Int32))]))
    exact Comes.retN X20 hx (t := .boolean) Bd.returns (by simp) hlk (hb hby at_72) hs20 ⟨rfl, N20⟩ (by decide) (by decide)
  · show Comes p e below _ (s₁.setTop (mkF m 8 #[.val (.int xx), .val (.int (5 : Int32)), .unset] []))
    refine Comes.st (fun t k => XS.iloadN X0.here hx rfl (hb hby at_8) rfl k) ?_
    show Comes p e below _ (s₁.setTop (mkF m 9 #[.val (.int xx), .val (.int (5 : Int32)), .unset] [(.int (5 : Int32))]))
    obtain ⟨_, _, ⟨T24, L24, k24, n24⟩, -, X24, ⟨Lc24, hQ24, l24, y24, z24⟩, st24⟩ := Jvm.LawKit.callS X0 hx (y := (⟨"com/example/typeflow/typeflow/classfile/ConstantKind", "ofTag", "(I)Lcom/example/typeflow/typeflow/classfile/ConstantKind;"⟩ : MethodName)) hown (mvT hZ (hw _ (List.mem_of_getElem? (i := 1) rfl))) (mvT hZ (hw _ (List.mem_of_getElem? (i := 2) rfl))) (mvT hZ (hw _ (List.mem_of_getElem? (i := 3) rfl))) (mvT hZ (hw _ (List.mem_of_getElem? (i := 4) rfl))) (by decide) (backOf (W := 0) (rm1_5 l Z a0 hw [] arr kk t1 t3 t4 t5 t6 t7 t8 t9 t10 t11 t12 t15 t16 t17 t18 t19 t20 h0 n0 (by omega)  G0 G3 G4) hZ (hw _ (List.mem_of_getElem? (i := 4) rfl)) (hw _ (List.mem_of_getElem? (i := 3) rfl)) (by decide) (by decide)) (g := (mkF m 9 #[.val (.int xx), .val (.int (5 : Int32)), .unset] [(.int (5 : Int32))])) rfl (by rw [hml]; rfl) (argsL := [(.int (5 : Int32))]) (rest := []) (lenOf pd_0 rfl) rfl (by show 2 * 0 + _ ≤ _; exact Nat.le_of_eq rfl) (hb hby at_9) (fun _ _ => ⟨rfl, e0, (by decide : 0 + 0 ≤ _), (by decide : 0 + 0 ≤ _)⟩)
    dsimp only [Pt.U, Pt.locs, Pt.cells, Pt.slots] at X24 l24 y24 z24 st24 hQ24
    subst l24 y24 z24
    obtain ⟨rfl, Nq24, hs24⟩ := hQ24
    have N24 := Fr.app N0 Nq24
    refine Comes.st st24 ?_
    show Comes p e below _ (T24.setTop (mkF m 12 #[.val (.int xx), .val (.int (5 : Int32)), .unset] [(.ref t5)]))
    refine Comes.st (fun t k => XS.astoreN X24.here hx rfl (hb hby at_12) rfl rfl (l' := #[.val (.int xx), .val (.int (5 : Int32)), .val (.ref t5)]) rfl (XS.aloadN X24.here hx rfl (hb hby at_13) rfl rfl (XS.ifnonnullYes X24.here hx rfl (pc0 := 14) (pc' := 44) rfl (hb hby at_14) rfl (by decide) (by decide) (XS.aloadN X24.here hx rfl (hb hby at_44) rfl rfl k)))) ?_
    show Comes p e below _ (T24.setTop (mkF m 45 #[.val (.int xx), .val (.int (5 : Int32)), .val (.ref t5)] [(.ref t5)]))
    obtain ⟨cq25, kq25, q25a, q25b, q25c⟩ := isOf hZ hs24 G8
    obtain ⟨_, _, ⟨T25, L25, k25, n25⟩, -, X25, ⟨Lc25, hQ25, l25, y25, z25⟩, st25⟩ := X24.virtualBack hx (y := (⟨"com/example/typeflow/typeflow/classfile/ConstantKind", "isTwoSlots", "()Z"⟩ : MethodName)) (z := (⟨"com/example/typeflow/typeflow/classfile/ConstantKind", "isTwoSlots", "()Z"⟩ : MethodName)) hown (mvT hZ (hw _ (List.mem_of_getElem? (i := 8) rfl))) (mvT hZ (hw _ (List.mem_of_getElem? (i := 9) rfl))) (notFace_of_selects (args := #[]) (mvT hZ (hw _ (List.mem_of_getElem? (i := 11) rfl)))) (mvT hZ (hw _ (List.mem_of_getElem? (i := 11) rfl))) (mvT hZ (hw _ (List.mem_of_getElem? (i := 10) rfl))) (by decide) (backOf (W := 0) (rmL l Z a0 hw [] t5 t6 h0 n0 (by omega)  G1 G2 G3) hZ (hw _ (List.mem_of_getElem? (i := 12) rfl)) (hw _ (List.mem_of_getElem? (i := 3) rfl)) (by decide) (by decide)) q25a q25c (g := (mkF m 45 #[.val (.int xx), .val (.int (5 : Int32)), .val (.ref t5)] [(.ref t5)])) rfl (by rw [hml]; rfl) (Steps.refl _) (argsL := []) (rest := []) (lenOf pd_1 rfl) rfl (by show 2 * 0 + _ ≤ _; exact Nat.le_of_eq rfl) (hb hby at_45) (fun _ _ => ⟨rfl, hs24, (by decide : 0 + 0 ≤ _), (by decide : 0 + 0 ≤ _)⟩)
    dsimp only [Pt.U, Pt.locs, Pt.cells, Pt.slots] at X25 l25 y25 z25 st25 hQ25
    subst l25 y25 z25
    obtain ⟨rfl, Nq25, hs25⟩ := hQ25
    have N25 := Fr.app N24 Nq25
    refine Comes.go st25 ?_
    show Comes p e below _ (T25.setTop (mkF m 48 #[.val (.int xx), .val (.int (5 : Int32)), .val (.ref t5)] [(.int (1 : Int32))]))
    refine Comes.st (fun t k => XS.iloadN X25.here hx rfl (hb hby at_48) rfl (XS.iconst X25.here hx rfl (hb hby at_49) k)) ?_
    show Comes p e below _ (T25.setTop (mkF m 50 #[.val (.int xx), .val (.int (5 : Int32)), .val (.ref t5)] [(.int (5 : Int32)), (.int (5 : Int32)), (.int (1 : Int32))]))
    have hc50_26 : (5 : Int32) = (5 : Int32) := by decide
    refine Comes.st (fun t k => XS.icmpYes X25.here hx rfl (pc0 := 50) (pc' := 59) rfl (hb hby at_50) rfl (teq hc50_26).1 (by decide) (by decide) (XS.iconst X25.here hx rfl (hb hby at_59) (XS.goto X25.here hx rfl (pc0 := 60) (pc' := 64) rfl (hb hby at_60) (by decide) (by decide) k))) ?_
    show Comes p e below _ (T25.setTop (mkF m 64 #[.val (.int xx), .val (.int (5 : Int32)), .val (.ref t5)] [(.int (1 : Int32)), (.int (1 : Int32))]))
    have hc64_27 : (1 : Int32) = (1 : Int32) := by decide
    refine Comes.st (fun t k => XS.icmpNo X25.here hx rfl (hb hby at_64) rfl (teq hc64_27).2 (XS.iconst X25.here hx rfl (hb hby at_67) (XS.goto X25.here hx rfl (pc0 := 68) (pc' := 72) rfl (hb hby at_68) (by decide) (by decide) k))) ?_
    show Comes p e below _ (T25.setTop (mkF m 72 #[.val (.int xx), .val (.int (5 : Int32)), .val (.ref t5)] [(.int (1 : Int32))]))
    exact Comes.retN X25 hx (t := .boolean) Bd.returns (by simp) hlk (hb hby at_72) hs25 ⟨rfl, N25⟩ (by decide) (by decide)
  · show Comes p e below _ (s₁.setTop (mkF m 8 #[.val (.int xx), .val (.int (6 : Int32)), .unset] []))
    refine Comes.st (fun t k => XS.iloadN X0.here hx rfl (hb hby at_8) rfl k) ?_
    show Comes p e below _ (s₁.setTop (mkF m 9 #[.val (.int xx), .val (.int (6 : Int32)), .unset] [(.int (6 : Int32))]))
    obtain ⟨_, _, ⟨T28, L28, k28, n28⟩, -, X28, ⟨Lc28, hQ28, l28, y28, z28⟩, st28⟩ := Jvm.LawKit.callS X0 hx (y := (⟨"com/example/typeflow/typeflow/classfile/ConstantKind", "ofTag", "(I)Lcom/example/typeflow/typeflow/classfile/ConstantKind;"⟩ : MethodName)) hown (mvT hZ (hw _ (List.mem_of_getElem? (i := 1) rfl))) (mvT hZ (hw _ (List.mem_of_getElem? (i := 2) rfl))) (mvT hZ (hw _ (List.mem_of_getElem? (i := 3) rfl))) (mvT hZ (hw _ (List.mem_of_getElem? (i := 4) rfl))) (by decide) (backOf (W := 0) (rm1_6 l Z a0 hw [] arr kk t1 t3 t4 t5 t6 t7 t8 t9 t10 t11 t12 t15 t16 t17 t18 t19 t20 h0 n0 (by omega)  G0 G3 G4) hZ (hw _ (List.mem_of_getElem? (i := 4) rfl)) (hw _ (List.mem_of_getElem? (i := 3) rfl)) (by decide) (by decide)) (g := (mkF m 9 #[.val (.int xx), .val (.int (6 : Int32)), .unset] [(.int (6 : Int32))])) rfl (by rw [hml]; rfl) (argsL := [(.int (6 : Int32))]) (rest := []) (lenOf pd_0 rfl) rfl (by show 2 * 0 + _ ≤ _; exact Nat.le_of_eq rfl) (hb hby at_9) (fun _ _ => ⟨rfl, e0, (by decide : 0 + 0 ≤ _), (by decide : 0 + 0 ≤ _)⟩)
    dsimp only [Pt.U, Pt.locs, Pt.cells, Pt.slots] at X28 l28 y28 z28 st28 hQ28
    subst l28 y28 z28
    obtain ⟨rfl, Nq28, hs28⟩ := hQ28
    have N28 := Fr.app N0 Nq28
    refine Comes.st st28 ?_
    show Comes p e below _ (T28.setTop (mkF m 12 #[.val (.int xx), .val (.int (6 : Int32)), .unset] [(.ref t6)]))
    refine Comes.st (fun t k => XS.astoreN X28.here hx rfl (hb hby at_12) rfl rfl (l' := #[.val (.int xx), .val (.int (6 : Int32)), .val (.ref t6)]) rfl (XS.aloadN X28.here hx rfl (hb hby at_13) rfl rfl (XS.ifnonnullYes X28.here hx rfl (pc0 := 14) (pc' := 44) rfl (hb hby at_14) rfl (by decide) (by decide) (XS.aloadN X28.here hx rfl (hb hby at_44) rfl rfl k)))) ?_
    show Comes p e below _ (T28.setTop (mkF m 45 #[.val (.int xx), .val (.int (6 : Int32)), .val (.ref t6)] [(.ref t6)]))
    obtain ⟨cq29, kq29, q29a, q29b, q29c⟩ := isOf hZ hs28 G9
    obtain ⟨_, _, ⟨T29, L29, k29, n29⟩, -, X29, ⟨Lc29, hQ29, l29, y29, z29⟩, st29⟩ := X28.virtualBack hx (y := (⟨"com/example/typeflow/typeflow/classfile/ConstantKind", "isTwoSlots", "()Z"⟩ : MethodName)) (z := (⟨"com/example/typeflow/typeflow/classfile/ConstantKind", "isTwoSlots", "()Z"⟩ : MethodName)) hown (mvT hZ (hw _ (List.mem_of_getElem? (i := 8) rfl))) (mvT hZ (hw _ (List.mem_of_getElem? (i := 9) rfl))) (notFace_of_selects (args := #[]) (mvT hZ (hw _ (List.mem_of_getElem? (i := 11) rfl)))) (mvT hZ (hw _ (List.mem_of_getElem? (i := 11) rfl))) (mvT hZ (hw _ (List.mem_of_getElem? (i := 10) rfl))) (by decide) (backOf (W := 0) (rmD l Z a0 hw [] t6 t5 h0 n0 (by omega)  G1 G2 G3 G22) hZ (hw _ (List.mem_of_getElem? (i := 12) rfl)) (hw _ (List.mem_of_getElem? (i := 3) rfl)) (by decide) (by decide)) q29a q29c (g := (mkF m 45 #[.val (.int xx), .val (.int (6 : Int32)), .val (.ref t6)] [(.ref t6)])) rfl (by rw [hml]; rfl) (Steps.refl _) (argsL := []) (rest := []) (lenOf pd_1 rfl) rfl (by show 2 * 0 + _ ≤ _; exact Nat.le_of_eq rfl) (hb hby at_45) (fun _ _ => ⟨rfl, hs28, (by decide : 0 + 0 ≤ _), (by decide : 0 + 0 ≤ _)⟩)
    dsimp only [Pt.U, Pt.locs, Pt.cells, Pt.slots] at X29 l29 y29 z29 st29 hQ29
    subst l29 y29 z29
    obtain ⟨rfl, Nq29, hs29⟩ := hQ29
    have N29 := Fr.app N28 Nq29
    refine Comes.go st29 ?_
    show Comes p e below _ (T29.setTop (mkF m 48 #[.val (.int xx), .val (.int (6 : Int32)), .val (.ref t6)] [(.int (1 : Int32))]))
    refine Comes.st (fun t k => XS.iloadN X29.here hx rfl (hb hby at_48) rfl (XS.iconst X29.here hx rfl (hb hby at_49) k)) ?_
    show Comes p e below _ (T29.setTop (mkF m 50 #[.val (.int xx), .val (.int (6 : Int32)), .val (.ref t6)] [(.int (5 : Int32)), (.int (6 : Int32)), (.int (1 : Int32))]))
    have hc50_30 : ¬ ((6 : Int32) = (5 : Int32)) := by decide
    refine Comes.st (fun t k => XS.icmpNo X29.here hx rfl (hb hby at_50) rfl (feq hc50_30).1 (XS.iloadN X29.here hx rfl (hb hby at_53) rfl (XS.bipush X29.here hx rfl (hb hby at_54) k))) ?_
    show Comes p e below _ (T29.setTop (mkF m 56 #[.val (.int xx), .val (.int (6 : Int32)), .val (.ref t6)] [(.int (6 : Int32)), (.int (6 : Int32)), (.int (1 : Int32))]))
    have hc56_31 : (6 : Int32) = (6 : Int32) := by decide
    refine Comes.st (fun t k => XS.icmpNo X29.here hx rfl (hb hby at_56) rfl (teq hc56_31).2 (XS.iconst X29.here hx rfl (hb hby at_59) (XS.goto X29.here hx rfl (pc0 := 60) (pc' := 64) rfl (hb hby at_60) (by decide) (by decide) k))) ?_
    show Comes p e below _ (T29.setTop (mkF m 64 #[.val (.int xx), .val (.int (6 : Int32)), .val (.ref t6)] [(.int (1 : Int32)), (.int (1 : Int32))]))
    have hc64_32 : (1 : Int32) = (1 : Int32) := by decide
    refine Comes.st (fun t k => XS.icmpNo X29.here hx rfl (hb hby at_64) rfl (teq hc64_32).2 (XS.iconst X29.here hx rfl (hb hby at_67) (XS.goto X29.here hx rfl (pc0 := 68) (pc' := 72) rfl (hb hby at_68) (by decide) (by decide) k))) ?_
    show Comes p e below _ (T29.setTop (mkF m 72 #[.val (.int xx), .val (.int (6 : Int32)), .val (.ref t6)] [(.int (1 : Int32))]))
    exact Comes.retN X29 hx (t := .boolean) Bd.returns (by simp) hlk (hb hby at_72) hs29 ⟨rfl, N29⟩ (by decide) (by decide)
  · show Comes p e below _ (s₁.setTop (mkF m 8 #[.val (.int xx), .val (.int (7 : Int32)), .unset] []))
    refine Comes.st (fun t k => XS.iloadN X0.here hx rfl (hb hby at_8) rfl k) ?_
    show Comes p e below _ (s₁.setTop (mkF m 9 #[.val (.int xx), .val (.int (7 : Int32)), .unset] [(.int (7 : Int32))]))
    obtain ⟨_, _, ⟨T33, L33, k33, n33⟩, -, X33, ⟨Lc33, hQ33, l33, y33, z33⟩, st33⟩ := Jvm.LawKit.callS X0 hx (y := (⟨"com/example/typeflow/typeflow/classfile/ConstantKind", "ofTag", "(I)Lcom/example/typeflow/typeflow/classfile/ConstantKind;"⟩ : MethodName)) hown (mvT hZ (hw _ (List.mem_of_getElem? (i := 1) rfl))) (mvT hZ (hw _ (List.mem_of_getElem? (i := 2) rfl))) (mvT hZ (hw _ (List.mem_of_getElem? (i := 3) rfl))) (mvT hZ (hw _ (List.mem_of_getElem? (i := 4) rfl))) (by decide) (backOf (W := 0) (rm1_7 l Z a0 hw [] arr kk t1 t3 t4 t5 t6 t7 t8 t9 t10 t11 t12 t15 t16 t17 t18 t19 t20 h0 n0 (by omega)  G0 G3 G4) hZ (hw _ (List.mem_of_getElem? (i := 4) rfl)) (hw _ (List.mem_of_getElem? (i := 3) rfl)) (by decide) (by decide)) (g := (mkF m 9 #[.val (.int xx), .val (.int (7 : Int32)), .unset] [(.int (7 : Int32))])) rfl (by rw [hml]; rfl) (argsL := [(.int (7 : Int32))]) (rest := []) (lenOf pd_0 rfl) rfl (by show 2 * 0 + _ ≤ _; exact Nat.le_of_eq rfl) (hb hby at_9) (fun _ _ => ⟨rfl, e0, (by decide : 0 + 0 ≤ _), (by decide : 0 + 0 ≤ _)⟩)
    dsimp only [Pt.U, Pt.locs, Pt.cells, Pt.slots] at X33 l33 y33 z33 st33 hQ33
    subst l33 y33 z33
    obtain ⟨rfl, Nq33, hs33⟩ := hQ33
    have N33 := Fr.app N0 Nq33
    refine Comes.st st33 ?_
    show Comes p e below _ (T33.setTop (mkF m 12 #[.val (.int xx), .val (.int (7 : Int32)), .unset] [(.ref t7)]))
    refine Comes.st (fun t k => XS.astoreN X33.here hx rfl (hb hby at_12) rfl rfl (l' := #[.val (.int xx), .val (.int (7 : Int32)), .val (.ref t7)]) rfl (XS.aloadN X33.here hx rfl (hb hby at_13) rfl rfl (XS.ifnonnullYes X33.here hx rfl (pc0 := 14) (pc' := 44) rfl (hb hby at_14) rfl (by decide) (by decide) (XS.aloadN X33.here hx rfl (hb hby at_44) rfl rfl k)))) ?_
    show Comes p e below _ (T33.setTop (mkF m 45 #[.val (.int xx), .val (.int (7 : Int32)), .val (.ref t7)] [(.ref t7)]))
    obtain ⟨cq34, kq34, q34a, q34b, q34c⟩ := isOf hZ hs33 G10
    obtain ⟨_, _, ⟨T34, L34, k34, n34⟩, -, X34, ⟨Lc34, hQ34, l34, y34, z34⟩, st34⟩ := X33.virtualBack hx (y := (⟨"com/example/typeflow/typeflow/classfile/ConstantKind", "isTwoSlots", "()Z"⟩ : MethodName)) (z := (⟨"com/example/typeflow/typeflow/classfile/ConstantKind", "isTwoSlots", "()Z"⟩ : MethodName)) hown (mvT hZ (hw _ (List.mem_of_getElem? (i := 8) rfl))) (mvT hZ (hw _ (List.mem_of_getElem? (i := 9) rfl))) (notFace_of_selects (args := #[]) (mvT hZ (hw _ (List.mem_of_getElem? (i := 11) rfl)))) (mvT hZ (hw _ (List.mem_of_getElem? (i := 11) rfl))) (mvT hZ (hw _ (List.mem_of_getElem? (i := 10) rfl))) (by decide) (backOf (W := 0) (rmO l Z a0 hw [] t7 t5 t6 h0 n0 (by omega)  G1 G2 G3 G29 G30) hZ (hw _ (List.mem_of_getElem? (i := 12) rfl)) (hw _ (List.mem_of_getElem? (i := 3) rfl)) (by decide) (by decide)) q34a q34c (g := (mkF m 45 #[.val (.int xx), .val (.int (7 : Int32)), .val (.ref t7)] [(.ref t7)])) rfl (by rw [hml]; rfl) (Steps.refl _) (argsL := []) (rest := []) (lenOf pd_1 rfl) rfl (by show 2 * 0 + _ ≤ _; exact Nat.le_of_eq rfl) (hb hby at_45) (fun _ _ => ⟨rfl, hs33, (by decide : 0 + 0 ≤ _), (by decide : 0 + 0 ≤ _)⟩)
    dsimp only [Pt.U, Pt.locs, Pt.cells, Pt.slots] at X34 l34 y34 z34 st34 hQ34
    subst l34 y34 z34
    obtain ⟨rfl, Nq34, hs34⟩ := hQ34
    have N34 := Fr.app N33 Nq34
    refine Comes.go st34 ?_
    show Comes p e below _ (T34.setTop (mkF m 48 #[.val (.int xx), .val (.int (7 : Int32)), .val (.ref t7)] [(.int (0 : Int32))]))
    refine Comes.st (fun t k => XS.iloadN X34.here hx rfl (hb hby at_48) rfl (XS.iconst X34.here hx rfl (hb hby at_49) k)) ?_
    show Comes p e below _ (T34.setTop (mkF m 50 #[.val (.int xx), .val (.int (7 : Int32)), .val (.ref t7)] [(.int (5 : Int32)), (.int (7 : Int32)), (.int (0 : Int32))]))
    have hc50_35 : ¬ ((7 : Int32) = (5 : Int32)) := by decide
    refine Comes.st (fun t k => XS.icmpNo X34.here hx rfl (hb hby at_50) rfl (feq hc50_35).1 (XS.iloadN X34.here hx rfl (hb hby at_53) rfl (XS.bipush X34.here hx rfl (hb hby at_54) k))) ?_
    show Comes p e below _ (T34.setTop (mkF m 56 #[.val (.int xx), .val (.int (7 : Int32)), .val (.ref t7)] [(.int (6 : Int32)), (.int (7 : Int32)), (.int (0 : Int32))]))
    have hc56_36 : ¬ ((7 : Int32) = (6 : Int32)) := by decide
    refine Comes.st (fun t k => XS.icmpYes X34.here hx rfl (pc0 := 56) (pc' := 63) rfl (hb hby at_56) rfl (feq hc56_36).2 (by decide) (by decide) (XS.iconst X34.here hx rfl (hb hby at_63) k)) ?_
    show Comes p e below _ (T34.setTop (mkF m 64 #[.val (.int xx), .val (.int (7 : Int32)), .val (.ref t7)] [(.int (0 : Int32)), (.int (0 : Int32))]))
    have hc64_37 : (0 : Int32) = (0 : Int32) := by decide
    refine Comes.st (fun t k => XS.icmpNo X34.here hx rfl (hb hby at_64) rfl (teq hc64_37).2 (XS.iconst X34.here hx rfl (hb hby at_67) (XS.goto X34.here hx rfl (pc0 := 68) (pc' := 72) rfl (hb hby at_68) (by decide) (by decide) k))) ?_
    show Comes p e below _ (T34.setTop (mkF m 72 #[.val (.int xx), .val (.int (7 : Int32)), .val (.ref t7)] [(.int (1 : Int32))]))
    exact Comes.retN X34 hx (t := .boolean) Bd.returns (by simp) hlk (hb hby at_72) hs34 ⟨rfl, N34⟩ (by decide) (by decide)
  · show Comes p e below _ (s₁.setTop (mkF m 8 #[.val (.int xx), .val (.int (8 : Int32)), .unset] []))
    refine Comes.st (fun t k => XS.iloadN X0.here hx rfl (hb hby at_8) rfl k) ?_
    show Comes p e below _ (s₁.setTop (mkF m 9 #[.val (.int xx), .val (.int (8 : Int32)), .unset] [(.int (8 : Int32))]))
    obtain ⟨_, _, ⟨T38, L38, k38, n38⟩, -, X38, ⟨Lc38, hQ38, l38, y38, z38⟩, st38⟩ := Jvm.LawKit.callS X0 hx (y := (⟨"com/example/typeflow/typeflow/classfile/ConstantKind", "ofTag", "(I)Lcom/example/typeflow/typeflow/classfile/ConstantKind;"⟩ : MethodName)) hown (mvT hZ (hw _ (List.mem_of_getElem? (i := 1) rfl))) (mvT hZ (hw _ (List.mem_of_getElem? (i := 2) rfl))) (mvT hZ (hw _ (List.mem_of_getElem? (i := 3) rfl))) (mvT hZ (hw _ (List.mem_of_getElem? (i := 4) rfl))) (by decide) (backOf (W := 0) (rm1_8 l Z a0 hw [] arr kk t1 t3 t4 t5 t6 t7 t8 t9 t10 t11 t12 t15 t16 t17 t18 t19 t20 h0 n0 (by omega)  G0 G3 G4) hZ (hw _ (List.mem_of_getElem? (i := 4) rfl)) (hw _ (List.mem_of_getElem? (i := 3) rfl)) (by decide) (by decide)) (g := (mkF m 9 #[.val (.int xx), .val (.int (8 : Int32)), .unset] [(.int (8 : Int32))])) rfl (by rw [hml]; rfl) (argsL := [(.int (8 : Int32))]) (rest := []) (lenOf pd_0 rfl) rfl (by show 2 * 0 + _ ≤ _; exact Nat.le_of_eq rfl) (hb hby at_9) (fun _ _ => ⟨rfl, e0, (by decide : 0 + 0 ≤ _), (by decide : 0 + 0 ≤ _)⟩)
    dsimp only [Pt.U, Pt.locs, Pt.cells, Pt.slots] at X38 l38 y38 z38 st38 hQ38
    subst l38 y38 z38
    obtain ⟨rfl, Nq38, hs38⟩ := hQ38
    have N38 := Fr.app N0 Nq38
    refine Comes.st st38 ?_
    show Comes p e below _ (T38.setTop (mkF m 12 #[.val (.int xx), .val (.int (8 : Int32)), .unset] [(.ref t8)]))
    refine Comes.st (fun t k => XS.astoreN X38.here hx rfl (hb hby at_12) rfl rfl (l' := #[.val (.int xx), .val (.int (8 : Int32)), .val (.ref t8)]) rfl (XS.aloadN X38.here hx rfl (hb hby at_13) rfl rfl (XS.ifnonnullYes X38.here hx rfl (pc0 := 14) (pc' := 44) rfl (hb hby at_14) rfl (by decide) (by decide) (XS.aloadN X38.here hx rfl (hb hby at_44) rfl rfl k)))) ?_
    show Comes p e below _ (T38.setTop (mkF m 45 #[.val (.int xx), .val (.int (8 : Int32)), .val (.ref t8)] [(.ref t8)]))
    obtain ⟨cq39, kq39, q39a, q39b, q39c⟩ := isOf hZ hs38 G11
    obtain ⟨_, _, ⟨T39, L39, k39, n39⟩, -, X39, ⟨Lc39, hQ39, l39, y39, z39⟩, st39⟩ := X38.virtualBack hx (y := (⟨"com/example/typeflow/typeflow/classfile/ConstantKind", "isTwoSlots", "()Z"⟩ : MethodName)) (z := (⟨"com/example/typeflow/typeflow/classfile/ConstantKind", "isTwoSlots", "()Z"⟩ : MethodName)) hown (mvT hZ (hw _ (List.mem_of_getElem? (i := 8) rfl))) (mvT hZ (hw _ (List.mem_of_getElem? (i := 9) rfl))) (notFace_of_selects (args := #[]) (mvT hZ (hw _ (List.mem_of_getElem? (i := 11) rfl)))) (mvT hZ (hw _ (List.mem_of_getElem? (i := 11) rfl))) (mvT hZ (hw _ (List.mem_of_getElem? (i := 10) rfl))) (by decide) (backOf (W := 0) (rmO l Z a0 hw [] t8 t5 t6 h0 n0 (by omega)  G1 G2 G3 G31 G32) hZ (hw _ (List.mem_of_getElem? (i := 12) rfl)) (hw _ (List.mem_of_getElem? (i := 3) rfl)) (by decide) (by decide)) q39a q39c (g := (mkF m 45 #[.val (.int xx), .val (.int (8 : Int32)), .val (.ref t8)] [(.ref t8)])) rfl (by rw [hml]; rfl) (Steps.refl _) (argsL := []) (rest := []) (lenOf pd_1 rfl) rfl (by show 2 * 0 + _ ≤ _; exact Nat.le_of_eq rfl) (hb hby at_45) (fun _ _ => ⟨rfl, hs38, (by decide : 0 + 0 ≤ _), (by decide : 0 + 0 ≤ _)⟩)
    dsimp only [Pt.U, Pt.locs, Pt.cells, Pt.slots] at X39 l39 y39 z39 st39 hQ39
    subst l39 y39 z39
    obtain ⟨rfl, Nq39, hs39⟩ := hQ39
    have N39 := Fr.app N38 Nq39
    refine Comes.go st39 ?_
    show Comes p e below _ (T39.setTop (mkF m 48 #[.val (.int xx), .val (.int (8 : Int32)), .val (.ref t8)] [(.int (0 : Int32))]))
    refine Comes.st (fun t k => XS.iloadN X39.here hx rfl (hb hby at_48) rfl (XS.iconst X39.here hx rfl (hb hby at_49) k)) ?_
    show Comes p e below _ (T39.setTop (mkF m 50 #[.val (.int xx), .val (.int (8 : Int32)), .val (.ref t8)] [(.int (5 : Int32)), (.int (8 : Int32)), (.int (0 : Int32))]))
    have hc50_40 : ¬ ((8 : Int32) = (5 : Int32)) := by decide
    refine Comes.st (fun t k => XS.icmpNo X39.here hx rfl (hb hby at_50) rfl (feq hc50_40).1 (XS.iloadN X39.here hx rfl (hb hby at_53) rfl (XS.bipush X39.here hx rfl (hb hby at_54) k))) ?_
    show Comes p e below _ (T39.setTop (mkF m 56 #[.val (.int xx), .val (.int (8 : Int32)), .val (.ref t8)] [(.int (6 : Int32)), (.int (8 : Int32)), (.int (0 : Int32))]))
    have hc56_41 : ¬ ((8 : Int32) = (6 : Int32)) := by decide
    refine Comes.st (fun t k => XS.icmpYes X39.here hx rfl (pc0 := 56) (pc' := 63) rfl (hb hby at_56) rfl (feq hc56_41).2 (by decide) (by decide) (XS.iconst X39.here hx rfl (hb hby at_63) k)) ?_
    show Comes p e below _ (T39.setTop (mkF m 64 #[.val (.int xx), .val (.int (8 : Int32)), .val (.ref t8)] [(.int (0 : Int32)), (.int (0 : Int32))]))
    have hc64_42 : (0 : Int32) = (0 : Int32) := by decide
    refine Comes.st (fun t k => XS.icmpNo X39.here hx rfl (hb hby at_64) rfl (teq hc64_42).2 (XS.iconst X39.here hx rfl (hb hby at_67) (XS.goto X39.here hx rfl (pc0 := 68) (pc' := 72) rfl (hb hby at_68) (by decide) (by decide) k))) ?_
    show Comes p e below _ (T39.setTop (mkF m 72 #[.val (.int xx), .val (.int (8 : Int32)), .val (.ref t8)] [(.int (1 : Int32))]))
    exact Comes.retN X39 hx (t := .boolean) Bd.returns (by simp) hlk (hb hby at_72) hs39 ⟨rfl, N39⟩ (by decide) (by decide)
  · show Comes p e below _ (s₁.setTop (mkF m 8 #[.val (.int xx), .val (.int (9 : Int32)), .unset] []))
    refine Comes.st (fun t k => XS.iloadN X0.here hx rfl (hb hby at_8) rfl k) ?_
    show Comes p e below _ (s₁.setTop (mkF m 9 #[.val (.int xx), .val (.int (9 : Int32)), .unset] [(.int (9 : Int32))]))
    obtain ⟨_, _, ⟨T43, L43, k43, n43⟩, -, X43, ⟨Lc43, hQ43, l43, y43, z43⟩, st43⟩ := Jvm.LawKit.callS X0 hx (y := (⟨"com/example/typeflow/typeflow/classfile/ConstantKind", "ofTag", "(I)Lcom/example/typeflow/typeflow/classfile/ConstantKind;"⟩ : MethodName)) hown (mvT hZ (hw _ (List.mem_of_getElem? (i := 1) rfl))) (mvT hZ (hw _ (List.mem_of_getElem? (i := 2) rfl))) (mvT hZ (hw _ (List.mem_of_getElem? (i := 3) rfl))) (mvT hZ (hw _ (List.mem_of_getElem? (i := 4) rfl))) (by decide) (backOf (W := 0) (rm1_9 l Z a0 hw [] arr kk t1 t3 t4 t5 t6 t7 t8 t9 t10 t11 t12 t15 t16 t17 t18 t19 t20 h0 n0 (by omega)  G0 G3 G4) hZ (hw _ (List.mem_of_getElem? (i := 4) rfl)) (hw _ (List.mem_of_getElem? (i := 3) rfl)) (by decide) (by decide)) (g := (mkF m 9 #[.val (.int xx), .val (.int (9 : Int32)), .unset] [(.int (9 : Int32))])) rfl (by rw [hml]; rfl) (argsL := [(.int (9 : Int32))]) (rest := []) (lenOf pd_0 rfl) rfl (by show 2 * 0 + _ ≤ _; exact Nat.le_of_eq rfl) (hb hby at_9) (fun _ _ => ⟨rfl, e0, (by decide : 0 + 0 ≤ _), (by decide : 0 + 0 ≤ _)⟩)
    dsimp only [Pt.U, Pt.locs, Pt.cells, Pt.slots] at X43 l43 y43 z43 st43 hQ43
    subst l43 y43 z43
    obtain ⟨rfl, Nq43, hs43⟩ := hQ43
    have N43 := Fr.app N0 Nq43
    refine Comes.st st43 ?_
    show Comes p e below _ (T43.setTop (mkF m 12 #[.val (.int xx), .val (.int (9 : Int32)), .unset] [(.ref t9)]))
    refine Comes.st (fun t k => XS.astoreN X43.here hx rfl (hb hby at_12) rfl rfl (l' := #[.val (.int xx), .val (.int (9 : Int32)), .val (.ref t9)]) rfl (XS.aloadN X43.here hx rfl (hb hby at_13) rfl rfl (XS.ifnonnullYes X43.here hx rfl (pc0 := 14) (pc' := 44) rfl (hb hby at_14) rfl (by decide) (by decide) (XS.aloadN X43.here hx rfl (hb hby at_44) rfl rfl k)))) ?_
    show Comes p e below _ (T43.setTop (mkF m 45 #[.val (.int xx), .val (.int (9 : Int32)), .val (.ref t9)] [(.ref t9)]))
    obtain ⟨cq44, kq44, q44a, q44b, q44c⟩ := isOf hZ hs43 G12
    obtain ⟨_, _, ⟨T44, L44, k44, n44⟩, -, X44, ⟨Lc44, hQ44, l44, y44, z44⟩, st44⟩ := X43.virtualBack hx (y := (⟨"com/example/typeflow/typeflow/classfile/ConstantKind", "isTwoSlots", "()Z"⟩ : MethodName)) (z := (⟨"com/example/typeflow/typeflow/classfile/ConstantKind", "isTwoSlots", "()Z"⟩ : MethodName)) hown (mvT hZ (hw _ (List.mem_of_getElem? (i := 8) rfl))) (mvT hZ (hw _ (List.mem_of_getElem? (i := 9) rfl))) (notFace_of_selects (args := #[]) (mvT hZ (hw _ (List.mem_of_getElem? (i := 11) rfl)))) (mvT hZ (hw _ (List.mem_of_getElem? (i := 11) rfl))) (mvT hZ (hw _ (List.mem_of_getElem? (i := 10) rfl))) (by decide) (backOf (W := 0) (rmO l Z a0 hw [] t9 t5 t6 h0 n0 (by omega)  G1 G2 G3 G33 G34) hZ (hw _ (List.mem_of_getElem? (i := 12) rfl)) (hw _ (List.mem_of_getElem? (i := 3) rfl)) (by decide) (by decide)) q44a q44c (g := (mkF m 45 #[.val (.int xx), .val (.int (9 : Int32)), .val (.ref t9)] [(.ref t9)])) rfl (by rw [hml]; rfl) (Steps.refl _) (argsL := []) (rest := []) (lenOf pd_1 rfl) rfl (by show 2 * 0 + _ ≤ _; exact Nat.le_of_eq rfl) (hb hby at_45) (fun _ _ => ⟨rfl, hs43, (by decide : 0 + 0 ≤ _), (by decide : 0 + 0 ≤ _)⟩)
    dsimp only [Pt.U, Pt.locs, Pt.cells, Pt.slots] at X44 l44 y44 z44 st44 hQ44
    subst l44 y44 z44
    obtain ⟨rfl, Nq44, hs44⟩ := hQ44
    have N44 := Fr.app N43 Nq44
    refine Comes.go st44 ?_
    show Comes p e below _ (T44.setTop (mkF m 48 #[.val (.int xx), .val (.int (9 : Int32)), .val (.ref t9)] [(.int (0 : Int32))]))
    refine Comes.st (fun t k => XS.iloadN X44.here hx rfl (hb hby at_48) rfl (XS.iconst X44.here hx rfl (hb hby at_49) k)) ?_
    show Comes p e below _ (T44.setTop (mkF m 50 #[.val (.int xx), .val (.int (9 : Int32)), .val (.ref t9)] [(.int (5 : Int32)), (.int (9 : Int32)), (.int (0 : Int32))]))
    have hc50_45 : ¬ ((9 : Int32) = (5 : Int32)) := by decide
    refine Comes.st (fun t k => XS.icmpNo X44.here hx rfl (hb hby at_50) rfl (feq hc50_45).1 (XS.iloadN X44.here hx rfl (hb hby at_53) rfl (XS.bipush X44.here hx rfl (hb hby at_54) k))) ?_
    show Comes p e below _ (T44.setTop (mkF m 56 #[.val (.int xx), .val (.int (9 : Int32)), .val (.ref t9)] [(.int (6 : Int32)), (.int (9 : Int32)), (.int (0 : Int32))]))
    have hc56_46 : ¬ ((9 : Int32) = (6 : Int32)) := by decide
    refine Comes.st (fun t k => XS.icmpYes X44.here hx rfl (pc0 := 56) (pc' := 63) rfl (hb hby at_56) rfl (feq hc56_46).2 (by decide) (by decide) (XS.iconst X44.here hx rfl (hb hby at_63) k)) ?_
    show Comes p e below _ (T44.setTop (mkF m 64 #[.val (.int xx), .val (.int (9 : Int32)), .val (.ref t9)] [(.int (0 : Int32)), (.int (0 : Int32))]))
    have hc64_47 : (0 : Int32) = (0 : Int32) := by decide
    refine Comes.st (fun t k => XS.icmpNo X44.here hx rfl (hb hby at_64) rfl (teq hc64_47).2 (XS.iconst X44.here hx rfl (hb hby at_67) (XS.goto X44.here hx rfl (pc0 := 68) (pc' := 72) rfl (hb hby at_68) (by decide) (by decide) k))) ?_
    show Comes p e below _ (T44.setTop (mkF m 72 #[.val (.int xx), .val (.int (9 : Int32)), .val (.ref t9)] [(.int (1 : Int32))]))
    exact Comes.retN X44 hx (t := .boolean) Bd.returns (by simp) hlk (hb hby at_72) hs44 ⟨rfl, N44⟩ (by decide) (by decide)
  · show Comes p e below _ (s₁.setTop (mkF m 8 #[.val (.int xx), .val (.int (10 : Int32)), .unset] []))
    refine Comes.st (fun t k => XS.iloadN X0.here hx rfl (hb hby at_8) rfl k) ?_
    show Comes p e below _ (s₁.setTop (mkF m 9 #[.val (.int xx), .val (.int (10 : Int32)), .unset] [(.int (10 : Int32))]))
    obtain ⟨_, _, ⟨T48, L48, k48, n48⟩, -, X48, ⟨Lc48, hQ48, l48, y48, z48⟩, st48⟩ := Jvm.LawKit.callS X0 hx (y := (⟨"com/example/typeflow/typeflow/classfile/ConstantKind", "ofTag", "(I)Lcom/example/typeflow/typeflow/classfile/ConstantKind;"⟩ : MethodName)) hown (mvT hZ (hw _ (List.mem_of_getElem? (i := 1) rfl))) (mvT hZ (hw _ (List.mem_of_getElem? (i := 2) rfl))) (mvT hZ (hw _ (List.mem_of_getElem? (i := 3) rfl))) (mvT hZ (hw _ (List.mem_of_getElem? (i := 4) rfl))) (by decide) (backOf (W := 0) (rm1_10 l Z a0 hw [] arr kk t1 t3 t4 t5 t6 t7 t8 t9 t10 t11 t12 t15 t16 t17 t18 t19 t20 h0 n0 (by omega)  G0 G3 G4) hZ (hw _ (List.mem_of_getElem? (i := 4) rfl)) (hw _ (List.mem_of_getElem? (i := 3) rfl)) (by decide) (by decide)) (g := (mkF m 9 #[.val (.int xx), .val (.int (10 : Int32)), .unset] [(.int (10 : Int32))])) rfl (by rw [hml]; rfl) (argsL := [(.int (10 : Int32))]) (rest := []) (lenOf pd_0 rfl) rfl (by show 2 * 0 + _ ≤ _; exact Nat.le_of_eq rfl) (hb hby at_9) (fun _ _ => ⟨rfl, e0, (by decide : 0 + 0 ≤ _), (by decide : 0 + 0 ≤ _)⟩)
    dsimp only [Pt.U, Pt.locs, Pt.cells, Pt.slots] at X48 l48 y48 z48 st48 hQ48
    subst l48 y48 z48
    obtain ⟨rfl, Nq48, hs48⟩ := hQ48
    have N48 := Fr.app N0 Nq48
    refine Comes.st st48 ?_
    show Comes p e below _ (T48.setTop (mkF m 12 #[.val (.int xx), .val (.int (10 : Int32)), .unset] [(.ref t10)]))
    refine Comes.st (fun t k => XS.astoreN X48.here hx rfl (hb hby at_12) rfl rfl (l' := #[.val (.int xx), .val (.int (10 : Int32)), .val (.ref t10)]) rfl (XS.aloadN X48.here hx rfl (hb hby at_13) rfl rfl (XS.ifnonnullYes X48.here hx rfl (pc0 := 14) (pc' := 44) rfl (hb hby at_14) rfl (by decide) (by decide) (XS.aloadN X48.here hx rfl (hb hby at_44) rfl rfl k)))) ?_
    show Comes p e below _ (T48.setTop (mkF m 45 #[.val (.int xx), .val (.int (10 : Int32)), .val (.ref t10)] [(.ref t10)]))
    obtain ⟨cq49, kq49, q49a, q49b, q49c⟩ := isOf hZ hs48 G13
    obtain ⟨_, _, ⟨T49, L49, k49, n49⟩, -, X49, ⟨Lc49, hQ49, l49, y49, z49⟩, st49⟩ := X48.virtualBack hx (y := (⟨"com/example/typeflow/typeflow/classfile/ConstantKind", "isTwoSlots", "()Z"⟩ : MethodName)) (z := (⟨"com/example/typeflow/typeflow/classfile/ConstantKind", "isTwoSlots", "()Z"⟩ : MethodName)) hown (mvT hZ (hw _ (List.mem_of_getElem? (i := 8) rfl))) (mvT hZ (hw _ (List.mem_of_getElem? (i := 9) rfl))) (notFace_of_selects (args := #[]) (mvT hZ (hw _ (List.mem_of_getElem? (i := 11) rfl)))) (mvT hZ (hw _ (List.mem_of_getElem? (i := 11) rfl))) (mvT hZ (hw _ (List.mem_of_getElem? (i := 10) rfl))) (by decide) (backOf (W := 0) (rmO l Z a0 hw [] t10 t5 t6 h0 n0 (by omega)  G1 G2 G3 G35 G36) hZ (hw _ (List.mem_of_getElem? (i := 12) rfl)) (hw _ (List.mem_of_getElem? (i := 3) rfl)) (by decide) (by decide)) q49a q49c (g := (mkF m 45 #[.val (.int xx), .val (.int (10 : Int32)), .val (.ref t10)] [(.ref t10)])) rfl (by rw [hml]; rfl) (Steps.refl _) (argsL := []) (rest := []) (lenOf pd_1 rfl) rfl (by show 2 * 0 + _ ≤ _; exact Nat.le_of_eq rfl) (hb hby at_45) (fun _ _ => ⟨rfl, hs48, (by decide : 0 + 0 ≤ _), (by decide : 0 + 0 ≤ _)⟩)
    dsimp only [Pt.U, Pt.locs, Pt.cells, Pt.slots] at X49 l49 y49 z49 st49 hQ49
    subst l49 y49 z49
    obtain ⟨rfl, Nq49, hs49⟩ := hQ49
    have N49 := Fr.app N48 Nq49
    refine Comes.go st49 ?_
    show Comes p e below _ (T49.setTop (mkF m 48 #[.val (.int xx), .val (.int (10 : Int32)), .val (.ref t10)] [(.int (0 : Int32))]))
    refine Comes.st (fun t k => XS.iloadN X49.here hx rfl (hb hby at_48) rfl (XS.iconst X49.here hx rfl (hb hby at_49) k)) ?_
    show Comes p e below _ (T49.setTop (mkF m 50 #[.val (.int xx), .val (.int (10 : Int32)), .val (.ref t10)] [(.int (5 : Int32)), (.int (10 : Int32)), (.int (0 : Int32))]))
    have hc50_50 : ¬ ((10 : Int32) = (5 : Int32)) := by decide
    refine Comes.st (fun t k => XS.icmpNo X49.here hx rfl (hb hby at_50) rfl (feq hc50_50).1 (XS.iloadN X49.here hx rfl (hb hby at_53) rfl (XS.bipush X49.here hx rfl (hb hby at_54) k))) ?_
    show Comes p e below _ (T49.setTop (mkF m 56 #[.val (.int xx), .val (.int (10 : Int32)), .val (.ref t10)] [(.int (6 : Int32)), (.int (10 : Int32)), (.int (0 : Int32))]))
    have hc56_51 : ¬ ((10 : Int32) = (6 : Int32)) := by decide
    refine Comes.st (fun t k => XS.icmpYes X49.here hx rfl (pc0 := 56) (pc' := 63) rfl (hb hby at_56) rfl (feq hc56_51).2 (by decide) (by decide) (XS.iconst X49.here hx rfl (hb hby at_63) k)) ?_
    show Comes p e below _ (T49.setTop (mkF m 64 #[.val (.int xx), .val (.int (10 : Int32)), .val (.ref t10)] [(.int (0 : Int32)), (.int (0 : Int32))]))
    have hc64_52 : (0 : Int32) = (0 : Int32) := by decide
    refine Comes.st (fun t k => XS.icmpNo X49.here hx rfl (hb hby at_64) rfl (teq hc64_52).2 (XS.iconst X49.here hx rfl (hb hby at_67) (XS.goto X49.here hx rfl (pc0 := 68) (pc' := 72) rfl (hb hby at_68) (by decide) (by decide) k))) ?_
    show Comes p e below _ (T49.setTop (mkF m 72 #[.val (.int xx), .val (.int (10 : Int32)), .val (.ref t10)] [(.int (1 : Int32))]))
    exact Comes.retN X49 hx (t := .boolean) Bd.returns (by simp) hlk (hb hby at_72) hs49 ⟨rfl, N49⟩ (by decide) (by decide)
  · show Comes p e below _ (s₁.setTop (mkF m 8 #[.val (.int xx), .val (.int (11 : Int32)), .unset] []))
    refine Comes.st (fun t k => XS.iloadN X0.here hx rfl (hb hby at_8) rfl k) ?_
    show Comes p e below _ (s₁.setTop (mkF m 9 #[.val (.int xx), .val (.int (11 : Int32)), .unset] [(.int (11 : Int32))]))
    obtain ⟨_, _, ⟨T53, L53, k53, n53⟩, -, X53, ⟨Lc53, hQ53, l53, y53, z53⟩, st53⟩ := Jvm.LawKit.callS X0 hx (y := (⟨"com/example/typeflow/typeflow/classfile/ConstantKind", "ofTag", "(I)Lcom/example/typeflow/typeflow/classfile/ConstantKind;"⟩ : MethodName)) hown (mvT hZ (hw _ (List.mem_of_getElem? (i := 1) rfl))) (mvT hZ (hw _ (List.mem_of_getElem? (i := 2) rfl))) (mvT hZ (hw _ (List.mem_of_getElem? (i := 3) rfl))) (mvT hZ (hw _ (List.mem_of_getElem? (i := 4) rfl))) (by decide) (backOf (W := 0) (rm1_11 l Z a0 hw [] arr kk t1 t3 t4 t5 t6 t7 t8 t9 t10 t11 t12 t15 t16 t17 t18 t19 t20 h0 n0 (by omega)  G0 G3 G4) hZ (hw _ (List.mem_of_getElem? (i := 4) rfl)) (hw _ (List.mem_of_getElem? (i := 3) rfl)) (by decide) (by decide)) (g := (mkF m 9 #[.val (.int xx), .val (.int (11 : Int32)), .unset] [(.int (11 : Int32))])) rfl (by rw [hml]; rfl) (argsL := [(.int (11 : Int32))]) (rest := []) (lenOf pd_0 rfl) rfl (by show 2 * 0 + _ ≤ _; exact Nat.le_of_eq rfl) (hb hby at_9) (fun _ _ => ⟨rfl, e0, (by decide : 0 + 0 ≤ _), (by decide : 0 + 0 ≤ _)⟩)
    dsimp only [Pt.U, Pt.locs, Pt.cells, Pt.slots] at X53 l53 y53 z53 st53 hQ53
    subst l53 y53 z53
    obtain ⟨rfl, Nq53, hs53⟩ := hQ53
    have N53 := Fr.app N0 Nq53
    refine Comes.st st53 ?_
    show Comes p e below _ (T53.setTop (mkF m 12 #[.val (.int xx), .val (.int (11 : Int32)), .unset] [(.ref t11)]))
    refine Comes.st (fun t k => XS.astoreN X53.here hx rfl (hb hby at_12) rfl rfl (l' := #[.val (.int xx), .val (.int (11 : Int32)), .val (.ref t11)]) rfl (XS.aloadN X53.here hx rfl (hb hby at_13) rfl rfl (XS.ifnonnullYes X53.here hx rfl (pc0 := 14) (pc' := 44) rfl (hb hby at_14) rfl (by decide) (by decide) (XS.aloadN X53.here hx rfl (hb hby at_44) rfl rfl k)))) ?_
    show Comes p e below _ (T53.setTop (mkF m 45 #[.val (.int xx), .val (.int (11 : Int32)), .val (.ref t11)] [(.ref t11)]))
    obtain ⟨cq54, kq54, q54a, q54b, q54c⟩ := isOf hZ hs53 G14
    obtain ⟨_, _, ⟨T54, L54, k54, n54⟩, -, X54, ⟨Lc54, hQ54, l54, y54, z54⟩, st54⟩ := X53.virtualBack hx (y := (⟨"com/example/typeflow/typeflow/classfile/ConstantKind", "isTwoSlots", "()Z"⟩ : MethodName)) (z := (⟨"com/example/typeflow/typeflow/classfile/ConstantKind", "isTwoSlots", "()Z"⟩ : MethodName)) hown (mvT hZ (hw _ (List.mem_of_getElem? (i := 8) rfl))) (mvT hZ (hw _ (List.mem_of_getElem? (i := 9) rfl))) (notFace_of_selects (args := #[]) (mvT hZ (hw _ (List.mem_of_getElem? (i := 11) rfl)))) (mvT hZ (hw _ (List.mem_of_getElem? (i := 11) rfl))) (mvT hZ (hw _ (List.mem_of_getElem? (i := 10) rfl))) (by decide) (backOf (W := 0) (rmO l Z a0 hw [] t11 t5 t6 h0 n0 (by omega)  G1 G2 G3 G37 G38) hZ (hw _ (List.mem_of_getElem? (i := 12) rfl)) (hw _ (List.mem_of_getElem? (i := 3) rfl)) (by decide) (by decide)) q54a q54c (g := (mkF m 45 #[.val (.int xx), .val (.int (11 : Int32)), .val (.ref t11)] [(.ref t11)])) rfl (by rw [hml]; rfl) (Steps.refl _) (argsL := []) (rest := []) (lenOf pd_1 rfl) rfl (by show 2 * 0 + _ ≤ _; exact Nat.le_of_eq rfl) (hb hby at_45) (fun _ _ => ⟨rfl, hs53, (by decide : 0 + 0 ≤ _), (by decide : 0 + 0 ≤ _)⟩)
    dsimp only [Pt.U, Pt.locs, Pt.cells, Pt.slots] at X54 l54 y54 z54 st54 hQ54
    subst l54 y54 z54
    obtain ⟨rfl, Nq54, hs54⟩ := hQ54
    have N54 := Fr.app N53 Nq54
    refine Comes.go st54 ?_
    show Comes p e below _ (T54.setTop (mkF m 48 #[.val (.int xx), .val (.int (11 : Int32)), .val (.ref t11)] [(.int (0 : Int32))]))
    refine Comes.st (fun t k => XS.iloadN X54.here hx rfl (hb hby at_48) rfl (XS.iconst X54.here hx rfl (hb hby at_49) k)) ?_
    show Comes p e below _ (T54.setTop (mkF m 50 #[.val (.int xx), .val (.int (11 : Int32)), .val (.ref t11)] [(.int (5 : Int32)), (.int (11 : Int32)), (.int (0 : Int32))]))
    have hc50_55 : ¬ ((11 : Int32) = (5 : Int32)) := by decide
    refine Comes.st (fun t k => XS.icmpNo X54.here hx rfl (hb hby at_50) rfl (feq hc50_55).1 (XS.iloadN X54.here hx rfl (hb hby at_53) rfl (XS.bipush X54.here hx rfl (hb hby at_54) k))) ?_
    show Comes p e below _ (T54.setTop (mkF m 56 #[.val (.int xx), .val (.int (11 : Int32)), .val (.ref t11)] [(.int (6 : Int32)), (.int (11 : Int32)), (.int (0 : Int32))]))
    have hc56_56 : ¬ ((11 : Int32) = (6 : Int32)) := by decide
    refine Comes.st (fun t k => XS.icmpYes X54.here hx rfl (pc0 := 56) (pc' := 63) rfl (hb hby at_56) rfl (feq hc56_56).2 (by decide) (by decide) (XS.iconst X54.here hx rfl (hb hby at_63) k)) ?_
    show Comes p e below _ (T54.setTop (mkF m 64 #[.val (.int xx), .val (.int (11 : Int32)), .val (.ref t11)] [(.int (0 : Int32)), (.int (0 : Int32))]))
    have hc64_57 : (0 : Int32) = (0 : Int32) := by decide
    refine Comes.st (fun t k => XS.icmpNo X54.here hx rfl (hb hby at_64) rfl (teq hc64_57).2 (XS.iconst X54.here hx rfl (hb hby at_67) (XS.goto X54.here hx rfl (pc0 := 68) (pc' := 72) rfl (hb hby at_68) (by decide) (by decide) k))) ?_
    show Comes p e below _ (T54.setTop (mkF m 72 #[.val (.int xx), .val (.int (11 : Int32)), .val (.ref t11)] [(.int (1 : Int32))]))
    exact Comes.retN X54 hx (t := .boolean) Bd.returns (by simp) hlk (hb hby at_72) hs54 ⟨rfl, N54⟩ (by decide) (by decide)
  · show Comes p e below _ (s₁.setTop (mkF m 8 #[.val (.int xx), .val (.int (12 : Int32)), .unset] []))
    refine Comes.st (fun t k => XS.iloadN X0.here hx rfl (hb hby at_8) rfl k) ?_
    show Comes p e below _ (s₁.setTop (mkF m 9 #[.val (.int xx), .val (.int (12 : Int32)), .unset] [(.int (12 : Int32))]))
    obtain ⟨_, _, ⟨T58, L58, k58, n58⟩, -, X58, ⟨Lc58, hQ58, l58, y58, z58⟩, st58⟩ := Jvm.LawKit.callS X0 hx (y := (⟨"com/example/typeflow/typeflow/classfile/ConstantKind", "ofTag", "(I)Lcom/example/typeflow/typeflow/classfile/ConstantKind;"⟩ : MethodName)) hown (mvT hZ (hw _ (List.mem_of_getElem? (i := 1) rfl))) (mvT hZ (hw _ (List.mem_of_getElem? (i := 2) rfl))) (mvT hZ (hw _ (List.mem_of_getElem? (i := 3) rfl))) (mvT hZ (hw _ (List.mem_of_getElem? (i := 4) rfl))) (by decide) (backOf (W := 0) (rm1_12 l Z a0 hw [] arr kk t1 t3 t4 t5 t6 t7 t8 t9 t10 t11 t12 t15 t16 t17 t18 t19 t20 h0 n0 (by omega)  G0 G3 G4) hZ (hw _ (List.mem_of_getElem? (i := 4) rfl)) (hw _ (List.mem_of_getElem? (i := 3) rfl)) (by decide) (by decide)) (g := (mkF m 9 #[.val (.int xx), .val (.int (12 : Int32)), .unset] [(.int (12 : Int32))])) rfl (by rw [hml]; rfl) (argsL := [(.int (12 : Int32))]) (rest := []) (lenOf pd_0 rfl) rfl (by show 2 * 0 + _ ≤ _; exact Nat.le_of_eq rfl) (hb hby at_9) (fun _ _ => ⟨rfl, e0, (by decide : 0 + 0 ≤ _), (by decide : 0 + 0 ≤ _)⟩)
    dsimp only [Pt.U, Pt.locs, Pt.cells, Pt.slots] at X58 l58 y58 z58 st58 hQ58
    subst l58 y58 z58
    obtain ⟨rfl, Nq58, hs58⟩ := hQ58
    have N58 := Fr.app N0 Nq58
    refine Comes.st st58 ?_
    show Comes p e below _ (T58.setTop (mkF m 12 #[.val (.int xx), .val (.int (12 : Int32)), .unset] [(.ref t12)]))
    refine Comes.st (fun t k => XS.astoreN X58.here hx rfl (hb hby at_12) rfl rfl (l' := #[.val (.int xx), .val (.int (12 : Int32)), .val (.ref t12)]) rfl (XS.aloadN X58.here hx rfl (hb hby at_13) rfl rfl (XS.ifnonnullYes X58.here hx rfl (pc0 := 14) (pc' := 44) rfl (hb hby at_14) rfl (by decide) (by decide) (XS.aloadN X58.here hx rfl (hb hby at_44) rfl rfl k)))) ?_
    show Comes p e below _ (T58.setTop (mkF m 45 #[.val (.int xx), .val (.int (12 : Int32)), .val (.ref t12)] [(.ref t12)]))
    obtain ⟨cq59, kq59, q59a, q59b, q59c⟩ := isOf hZ hs58 G15
    obtain ⟨_, _, ⟨T59, L59, k59, n59⟩, -, X59, ⟨Lc59, hQ59, l59, y59, z59⟩, st59⟩ := X58.virtualBack hx (y := (⟨"com/example/typeflow/typeflow/classfile/ConstantKind", "isTwoSlots", "()Z"⟩ : MethodName)) (z := (⟨"com/example/typeflow/typeflow/classfile/ConstantKind", "isTwoSlots", "()Z"⟩ : MethodName)) hown (mvT hZ (hw _ (List.mem_of_getElem? (i := 8) rfl))) (mvT hZ (hw _ (List.mem_of_getElem? (i := 9) rfl))) (notFace_of_selects (args := #[]) (mvT hZ (hw _ (List.mem_of_getElem? (i := 11) rfl)))) (mvT hZ (hw _ (List.mem_of_getElem? (i := 11) rfl))) (mvT hZ (hw _ (List.mem_of_getElem? (i := 10) rfl))) (by decide) (backOf (W := 0) (rmO l Z a0 hw [] t12 t5 t6 h0 n0 (by omega)  G1 G2 G3 G39 G40) hZ (hw _ (List.mem_of_getElem? (i := 12) rfl)) (hw _ (List.mem_of_getElem? (i := 3) rfl)) (by decide) (by decide)) q59a q59c (g := (mkF m 45 #[.val (.int xx), .val (.int (12 : Int32)), .val (.ref t12)] [(.ref t12)])) rfl (by rw [hml]; rfl) (Steps.refl _) (argsL := []) (rest := []) (lenOf pd_1 rfl) rfl (by show 2 * 0 + _ ≤ _; exact Nat.le_of_eq rfl) (hb hby at_45) (fun _ _ => ⟨rfl, hs58, (by decide : 0 + 0 ≤ _), (by decide : 0 + 0 ≤ _)⟩)
    dsimp only [Pt.U, Pt.locs, Pt.cells, Pt.slots] at X59 l59 y59 z59 st59 hQ59
    subst l59 y59 z59
    obtain ⟨rfl, Nq59, hs59⟩ := hQ59
    have N59 := Fr.app N58 Nq59
    refine Comes.go st59 ?_
    show Comes p e below _ (T59.setTop (mkF m 48 #[.val (.int xx), .val (.int (12 : Int32)), .val (.ref t12)] [(.int (0 : Int32))]))
    refine Comes.st (fun t k => XS.iloadN X59.here hx rfl (hb hby at_48) rfl (XS.iconst X59.here hx rfl (hb hby at_49) k)) ?_
    show Comes p e below _ (T59.setTop (mkF m 50 #[.val (.int xx), .val (.int (12 : Int32)), .val (.ref t12)] [(.int (5 : Int32)), (.int (12 : Int32)), (.int (0 : Int32))]))
    have hc50_60 : ¬ ((12 : Int32) = (5 : Int32)) := by decide
    refine Comes.st (fun t k => XS.icmpNo X59.here hx rfl (hb hby at_50) rfl (feq hc50_60).1 (XS.iloadN X59.here hx rfl (hb hby at_53) rfl (XS.bipush X59.here hx rfl (hb hby at_54) k))) ?_
    show Comes p e below _ (T59.setTop (mkF m 56 #[.val (.int xx), .val (.int (12 : Int32)), .val (.ref t12)] [(.int (6 : Int32)), (.int (12 : Int32)), (.int (0 : Int32))]))
    have hc56_61 : ¬ ((12 : Int32) = (6 : Int32)) := by decide
    refine Comes.st (fun t k => XS.icmpYes X59.here hx rfl (pc0 := 56) (pc' := 63) rfl (hb hby at_56) rfl (feq hc56_61).2 (by decide) (by decide) (XS.iconst X59.here hx rfl (hb hby at_63) k)) ?_
    show Comes p e below _ (T59.setTop (mkF m 64 #[.val (.int xx), .val (.int (12 : Int32)), .val (.ref t12)] [(.int (0 : Int32)), (.int (0 : Int32))]))
    have hc64_62 : (0 : Int32) = (0 : Int32) := by decide
    refine Comes.st (fun t k => XS.icmpNo X59.here hx rfl (hb hby at_64) rfl (teq hc64_62).2 (XS.iconst X59.here hx rfl (hb hby at_67) (XS.goto X59.here hx rfl (pc0 := 68) (pc' := 72) rfl (hb hby at_68) (by decide) (by decide) k))) ?_
    show Comes p e below _ (T59.setTop (mkF m 72 #[.val (.int xx), .val (.int (12 : Int32)), .val (.ref t12)] [(.int (1 : Int32))]))
    exact Comes.retN X59 hx (t := .boolean) Bd.returns (by simp) hlk (hb hby at_72) hs59 ⟨rfl, N59⟩ (by decide) (by decide)
  · show Comes p e below _ (s₁.setTop (mkF m 8 #[.val (.int xx), .val (.int (13 : Int32)), .unset] []))
    refine Comes.st (fun t k => XS.iloadN X0.here hx rfl (hb hby at_8) rfl k) ?_
    show Comes p e below _ (s₁.setTop (mkF m 9 #[.val (.int xx), .val (.int (13 : Int32)), .unset] [(.int (13 : Int32))]))
    obtain ⟨_, _, ⟨T63, L63, k63, n63⟩, -, X63, ⟨Lc63, hQ63, l63, y63, z63⟩, st63⟩ := Jvm.LawKit.callS X0 hx (y := (⟨"com/example/typeflow/typeflow/classfile/ConstantKind", "ofTag", "(I)Lcom/example/typeflow/typeflow/classfile/ConstantKind;"⟩ : MethodName)) hown (mvT hZ (hw _ (List.mem_of_getElem? (i := 1) rfl))) (mvT hZ (hw _ (List.mem_of_getElem? (i := 2) rfl))) (mvT hZ (hw _ (List.mem_of_getElem? (i := 3) rfl))) (mvT hZ (hw _ (List.mem_of_getElem? (i := 4) rfl))) (by decide) (backOf (W := 0) (rm1_13 l Z a0 hw [] arr kk t1 t3 t4 t5 t6 t7 t8 t9 t10 t11 t12 t15 t16 t17 t18 t19 t20 h0 n0 (by omega)  G0 G3 G4) hZ (hw _ (List.mem_of_getElem? (i := 4) rfl)) (hw _ (List.mem_of_getElem? (i := 3) rfl)) (by decide) (by decide)) (g := (mkF m 9 #[.val (.int xx), .val (.int (13 : Int32)), .unset] [(.int (13 : Int32))])) rfl (by rw [hml]; rfl) (argsL := [(.int (13 : Int32))]) (rest := []) (lenOf pd_0 rfl) rfl (by show 2 * 0 + _ ≤ _; exact Nat.le_of_eq rfl) (hb hby at_9) (fun _ _ => ⟨rfl, e0, (by decide : 0 + 0 ≤ _), (by decide : 0 + 0 ≤ _)⟩)
    dsimp only [Pt.U, Pt.locs, Pt.cells, Pt.slots] at X63 l63 y63 z63 st63 hQ63
    subst l63 y63 z63
    obtain ⟨rfl, Nq63, hs63⟩ := hQ63
    have N63 := Fr.app N0 Nq63
    refine Comes.st st63 ?_
    show Comes p e below _ (T63.setTop (mkF m 12 #[.val (.int xx), .val (.int (13 : Int32)), .unset] [.null]))
    refine Comes.st (fun t k => XS.astoreN X63.here hx rfl (hb hby at_12) rfl rfl (l' := #[.val (.int xx), .val (.int (13 : Int32)), .val .null]) rfl (XS.aloadN X63.here hx rfl (hb hby at_13) rfl rfl (XS.ifnonnullNo X63.here hx rfl (hb hby at_14) rfl (XS.iloadN X63.here hx rfl (hb hby at_17) rfl k)))) ?_
    show Comes p e below _ (T63.setTop (mkF m 18 #[.val (.int xx), .val (.int (13 : Int32)), .val .null] [(.int (13 : Int32))]))
    have hc18_64 : ¬ ((13 : Int32) = (0 : Int32)) := by decide
    refine Comes.st (fun t k => XS.ifNo X63.here hx rfl (hb hby at_18) rfl ((if0 _ _).trans (feq hc18_64).1) (XS.iloadN X63.here hx rfl (hb hby at_21) rfl (XS.iconst X63.here hx rfl (hb hby at_22) k))) ?_
    show Comes p e below _ (T63.setTop (mkF m 23 #[.val (.int xx), .val (.int (13 : Int32)), .val .null] [(.int (2 : Int32)), (.int (13 : Int32))]))
    have hc23_65 : ¬ ((13 : Int32) = (2 : Int32)) := by decide
    refine Comes.st (fun t k => XS.icmpNo X63.here hx rfl (hb hby at_23) rfl (feq hc23_65).1 (XS.iloadN X63.here hx rfl (hb hby at_26) rfl (XS.bipush X63.here hx rfl (hb hby at_27) k))) ?_
    show Comes p e below _ (T63.setTop (mkF m 29 #[.val (.int xx), .val (.int (13 : Int32)), .val .null] [(.int (13 : Int32)), (.int (13 : Int32))]))
    have hc29_66 : (13 : Int32) = (13 : Int32) := by decide
    refine Comes.st (fun t k => XS.icmpYes X63.here hx rfl (pc0 := 29) (pc' := 38) rfl (hb hby at_29) rfl (teq hc29_66).1 (by decide) (by decide) (XS.iconst X63.here hx rfl (hb hby at_38) (XS.goto X63.here hx rfl (pc0 := 39) (pc' := 43) rfl (hb hby at_39) (by decide) (by decide) k))) ?_
    show Comes p e below _ (T63.setTop (mkF m 43 #[.val (.int xx), .val (.int (13 : Int32)), .val .null] [(.int (1 : Int32))]))
    exact Comes.retN X63 hx (t := .boolean) Bd.returns (by simp) hlk (hb hby at_43) hs63 ⟨rfl, N63⟩ (by decide) (by decide)
  · show Comes p e below _ (s₁.setTop (mkF m 8 #[.val (.int xx), .val (.int (14 : Int32)), .unset] []))
    refine Comes.st (fun t k => XS.iloadN X0.here hx rfl (hb hby at_8) rfl k) ?_
    show Comes p e below _ (s₁.setTop (mkF m 9 #[.val (.int xx), .val (.int (14 : Int32)), .unset] [(.int (14 : Int32))]))
    obtain ⟨_, _, ⟨T67, L67, k67, n67⟩, -, X67, ⟨Lc67, hQ67, l67, y67, z67⟩, st67⟩ := Jvm.LawKit.callS X0 hx (y := (⟨"com/example/typeflow/typeflow/classfile/ConstantKind", "ofTag", "(I)Lcom/example/typeflow/typeflow/classfile/ConstantKind;"⟩ : MethodName)) hown (mvT hZ (hw _ (List.mem_of_getElem? (i := 1) rfl))) (mvT hZ (hw _ (List.mem_of_getElem? (i := 2) rfl))) (mvT hZ (hw _ (List.mem_of_getElem? (i := 3) rfl))) (mvT hZ (hw _ (List.mem_of_getElem? (i := 4) rfl))) (by decide) (backOf (W := 0) (rm1_14 l Z a0 hw [] arr kk t1 t3 t4 t5 t6 t7 t8 t9 t10 t11 t12 t15 t16 t17 t18 t19 t20 h0 n0 (by omega)  G0 G3 G4) hZ (hw _ (List.mem_of_getElem? (i := 4) rfl)) (hw _ (List.mem_of_getElem? (i := 3) rfl)) (by decide) (by decide)) (g := (mkF m 9 #[.val (.int xx), .val (.int (14 : Int32)), .unset] [(.int (14 : Int32))])) rfl (by rw [hml]; rfl) (argsL := [(.int (14 : Int32))]) (rest := []) (lenOf pd_0 rfl) rfl (by show 2 * 0 + _ ≤ _; exact Nat.le_of_eq rfl) (hb hby at_9) (fun _ _ => ⟨rfl, e0, (by decide : 0 + 0 ≤ _), (by decide : 0 + 0 ≤ _)⟩)
    dsimp only [Pt.U, Pt.locs, Pt.cells, Pt.slots] at X67 l67 y67 z67 st67 hQ67
    subst l67 y67 z67
    obtain ⟨rfl, Nq67, hs67⟩ := hQ67
    have N67 := Fr.app N0 Nq67
    refine Comes.st st67 ?_
    show Comes p e below _ (T67.setTop (mkF m 12 #[.val (.int xx), .val (.int (14 : Int32)), .unset] [.null]))
    refine Comes.st (fun t k => XS.astoreN X67.here hx rfl (hb hby at_12) rfl rfl (l' := #[.val (.int xx), .val (.int (14 : Int32)), .val .null]) rfl (XS.aloadN X67.here hx rfl (hb hby at_13) rfl rfl (XS.ifnonnullNo X67.here hx rfl (hb hby at_14) rfl (XS.iloadN X67.here hx rfl (hb hby at_17) rfl k)))) ?_
    show Comes p e below _ (T67.setTop (mkF m 18 #[.val (.int xx), .val (.int (14 : Int32)), .val .null] [(.int (14 : Int32))]))
    have hc18_68 : ¬ ((14 : Int32) = (0 : Int32)) := by decide
    refine Comes.st (fun t k => XS.ifNo X67.here hx rfl (hb hby at_18) rfl ((if0 _ _).trans (feq hc18_68).1) (XS.iloadN X67.here hx rfl (hb hby at_21) rfl (XS.iconst X67.here hx rfl (hb hby at_22) k))) ?_
    show Comes p e below _ (T67.setTop (mkF m 23 #[.val (.int xx), .val (.int (14 : Int32)), .val .null] [(.int (2 : Int32)), (.int (14 : Int32))]))
    have hc23_69 : ¬ ((14 : Int32) = (2 : Int32)) := by decide
    refine Comes.st (fun t k => XS.icmpNo X67.here hx rfl (hb hby at_23) rfl (feq hc23_69).1 (XS.iloadN X67.here hx rfl (hb hby at_26) rfl (XS.bipush X67.here hx rfl (hb hby at_27) k))) ?_
    show Comes p e below _ (T67.setTop (mkF m 29 #[.val (.int xx), .val (.int (14 : Int32)), .val .null] [(.int (13 : Int32)), (.int (14 : Int32))]))
    have hc29_70 : ¬ ((14 : Int32) = (13 : Int32)) := by decide
    refine Comes.st (fun t k => XS.icmpNo X67.here hx rfl (hb hby at_29) rfl (feq hc29_70).1 (XS.iloadN X67.here hx rfl (hb hby at_32) rfl (XS.bipush X67.here hx rfl (hb hby at_33) k))) ?_
    show Comes p e below _ (T67.setTop (mkF m 35 #[.val (.int xx), .val (.int (14 : Int32)), .val .null] [(.int (14 : Int32)), (.int (14 : Int32))]))
    have hc35_71 : (14 : Int32) = (14 : Int32) := by decide
    refine Comes.st (fun t k => XS.icmpNo X67.here hx rfl (hb hby at_35) rfl (teq hc35_71).2 (XS.iconst X67.here hx rfl (hb hby at_38) (XS.goto X67.here hx rfl (pc0 := 39) (pc' := 43) rfl (hb hby at_39) (by decide) (by decide) k))) ?_
    show Comes p e below _ (T67.setTop (mkF m 43 #[.val (.int xx), .val (.int (14 : Int32)), .val .null] [(.int (1 : Int32))]))
    exact Comes.retN X67 hx (t := .boolean) Bd.returns (by simp) hlk (hb hby at_43) hs67 ⟨rfl, N67⟩ (by decide) (by decide)
  · show Comes p e below _ (s₁.setTop (mkF m 8 #[.val (.int xx), .val (.int (15 : Int32)), .unset] []))
    refine Comes.st (fun t k => XS.iloadN X0.here hx rfl (hb hby at_8) rfl k) ?_
    show Comes p e below _ (s₁.setTop (mkF m 9 #[.val (.int xx), .val (.int (15 : Int32)), .unset] [(.int (15 : Int32))]))
    obtain ⟨_, _, ⟨T72, L72, k72, n72⟩, -, X72, ⟨Lc72, hQ72, l72, y72, z72⟩, st72⟩ := Jvm.LawKit.callS X0 hx (y := (⟨"com/example/typeflow/typeflow/classfile/ConstantKind", "ofTag", "(I)Lcom/example/typeflow/typeflow/classfile/ConstantKind;"⟩ : MethodName)) hown (mvT hZ (hw _ (List.mem_of_getElem? (i := 1) rfl))) (mvT hZ (hw _ (List.mem_of_getElem? (i := 2) rfl))) (mvT hZ (hw _ (List.mem_of_getElem? (i := 3) rfl))) (mvT hZ (hw _ (List.mem_of_getElem? (i := 4) rfl))) (by decide) (backOf (W := 0) (rm1_15 l Z a0 hw [] arr kk t1 t3 t4 t5 t6 t7 t8 t9 t10 t11 t12 t15 t16 t17 t18 t19 t20 h0 n0 (by omega)  G0 G3 G4) hZ (hw _ (List.mem_of_getElem? (i := 4) rfl)) (hw _ (List.mem_of_getElem? (i := 3) rfl)) (by decide) (by decide)) (g := (mkF m 9 #[.val (.int xx), .val (.int (15 : Int32)), .unset] [(.int (15 : Int32))])) rfl (by rw [hml]; rfl) (argsL := [(.int (15 : Int32))]) (rest := []) (lenOf pd_0 rfl) rfl (by show 2 * 0 + _ ≤ _; exact Nat.le_of_eq rfl) (hb hby at_9) (fun _ _ => ⟨rfl, e0, (by decide : 0 + 0 ≤ _), (by decide : 0 + 0 ≤ _)⟩)
    dsimp only [Pt.U, Pt.locs, Pt.cells, Pt.slots] at X72 l72 y72 z72 st72 hQ72
    subst l72 y72 z72
    obtain ⟨rfl, Nq72, hs72⟩ := hQ72
    have N72 := Fr.app N0 Nq72
    refine Comes.st st72 ?_
    show Comes p e below _ (T72.setTop (mkF m 12 #[.val (.int xx), .val (.int (15 : Int32)), .unset] [(.ref t15)]))
    refine Comes.st (fun t k => XS.astoreN X72.here hx rfl (hb hby at_12) rfl rfl (l' := #[.val (.int xx), .val (.int (15 : Int32)), .val (.ref t15)]) rfl (XS.aloadN X72.here hx rfl (hb hby at_13) rfl rfl (XS.ifnonnullYes X72.here hx rfl (pc0 := 14) (pc' := 44) rfl (hb hby at_14) rfl (by decide) (by decide) (XS.aloadN X72.here hx rfl (hb hby at_44) rfl rfl k)))) ?_
    show Comes p e below _ (T72.setTop (mkF m 45 #[.val (.int xx), .val (.int (15 : Int32)), .val (.ref t15)] [(.ref t15)]))
    obtain ⟨cq73, kq73, q73a, q73b, q73c⟩ := isOf hZ hs72 G16
    obtain ⟨_, _, ⟨T73, L73, k73, n73⟩, -, X73, ⟨Lc73, hQ73, l73, y73, z73⟩, st73⟩ := X72.virtualBack hx (y := (⟨"com/example/typeflow/typeflow/classfile/ConstantKind", "isTwoSlots", "()Z"⟩ : MethodName)) (z := (⟨"com/example/typeflow/typeflow/classfile/ConstantKind", "isTwoSlots", "()Z"⟩ : MethodName)) hown (mvT hZ (hw _ (List.mem_of_getElem? (i := 8) rfl))) (mvT hZ (hw _ (List.mem_of_getElem? (i := 9) rfl))) (notFace_of_selects (args := #[]) (mvT hZ (hw _ (List.mem_of_getElem? (i := 11) rfl)))) (mvT hZ (hw _ (List.mem_of_getElem? (i := 11) rfl))) (mvT hZ (hw _ (List.mem_of_getElem? (i := 10) rfl))) (by decide) (backOf (W := 0) (rmO l Z a0 hw [] t15 t5 t6 h0 n0 (by omega)  G1 G2 G3 G41 G42) hZ (hw _ (List.mem_of_getElem? (i := 12) rfl)) (hw _ (List.mem_of_getElem? (i := 3) rfl)) (by decide) (by decide)) q73a q73c (g := (mkF m 45 #[.val (.int xx), .val (.int (15 : Int32)), .val (.ref t15)] [(.ref t15)])) rfl (by rw [hml]; rfl) (Steps.refl _) (argsL := []) (rest := []) (lenOf pd_1 rfl) rfl (by show 2 * 0 + _ ≤ _; exact Nat.le_of_eq rfl) (hb hby at_45) (fun _ _ => ⟨rfl, hs72, (by decide : 0 + 0 ≤ _), (by decide : 0 + 0 ≤ _)⟩)
    dsimp only [Pt.U, Pt.locs, Pt.cells, Pt.slots] at X73 l73 y73 z73 st73 hQ73
    subst l73 y73 z73
    obtain ⟨rfl, Nq73, hs73⟩ := hQ73
    have N73 := Fr.app N72 Nq73
    refine Comes.go st73 ?_
    show Comes p e below _ (T73.setTop (mkF m 48 #[.val (.int xx), .val (.int (15 : Int32)), .val (.ref t15)] [(.int (0 : Int32))]))
    refine Comes.st (fun t k => XS.iloadN X73.here hx rfl (hb hby at_48) rfl (XS.iconst X73.here hx rfl (hb hby at_49) k)) ?_
    show Comes p e below _ (T73.setTop (mkF m 50 #[.val (.int xx), .val (.int (15 : Int32)), .val (.ref t15)] [(.int (5 : Int32)), (.int (15 : Int32)), (.int (0 : Int32))]))
    have hc50_74 : ¬ ((15 : Int32) = (5 : Int32)) := by decide
    refine Comes.st (fun t k => XS.icmpNo X73.here hx rfl (hb hby at_50) rfl (feq hc50_74).1 (XS.iloadN X73.here hx rfl (hb hby at_53) rfl (XS.bipush X73.here hx rfl (hb hby at_54) k))) ?_
    show Comes p e below _ (T73.setTop (mkF m 56 #[.val (.int xx), .val (.int (15 : Int32)), .val (.ref t15)] [(.int (6 : Int32)), (.int (15 : Int32)), (.int (0 : Int32))]))
    have hc56_75 : ¬ ((15 : Int32) = (6 : Int32)) := by decide
    refine Comes.st (fun t k => XS.icmpYes X73.here hx rfl (pc0 := 56) (pc' := 63) rfl (hb hby at_56) rfl (feq hc56_75).2 (by decide) (by decide) (XS.iconst X73.here hx rfl (hb hby at_63) k)) ?_
    show Comes p e below _ (T73.setTop (mkF m 64 #[.val (.int xx), .val (.int (15 : Int32)), .val (.ref t15)] [(.int (0 : Int32)), (.int (0 : Int32))]))
    have hc64_76 : (0 : Int32) = (0 : Int32) := by decide
    refine Comes.st (fun t k => XS.icmpNo X73.here hx rfl (hb hby at_64) rfl (teq hc64_76).2 (XS.iconst X73.here hx rfl (hb hby at_67) (XS.goto X73.here hx rfl (pc0 := 68) (pc' := 72) rfl (hb hby at_68) (by decide) (by decide) k))) ?_
    show Comes p e below _ (T73.setTop (mkF m 72 #[.val (.int xx), .val (.int (15 : Int32)), .val (.ref t15)] [(.int (1 : Int32))]))
    exact Comes.retN X73 hx (t := .boolean) Bd.returns (by simp) hlk (hb hby at_72) hs73 ⟨rfl, N73⟩ (by decide) (by decide)
  · show Comes p e below _ (s₁.setTop (mkF m 8 #[.val (.int xx), .val (.int (16 : Int32)), .unset] []))
    refine Comes.st (fun t k => XS.iloadN X0.here hx rfl (hb hby at_8) rfl k) ?_
    show Comes p e below _ (s₁.setTop (mkF m 9 #[.val (.int xx), .val (.int (16 : Int32)), .unset] [(.int (16 : Int32))]))
    obtain ⟨_, _, ⟨T77, L77, k77, n77⟩, -, X77, ⟨Lc77, hQ77, l77, y77, z77⟩, st77⟩ := Jvm.LawKit.callS X0 hx (y := (⟨"com/example/typeflow/typeflow/classfile/ConstantKind", "ofTag", "(I)Lcom/example/typeflow/typeflow/classfile/ConstantKind;"⟩ : MethodName)) hown (mvT hZ (hw _ (List.mem_of_getElem? (i := 1) rfl))) (mvT hZ (hw _ (List.mem_of_getElem? (i := 2) rfl))) (mvT hZ (hw _ (List.mem_of_getElem? (i := 3) rfl))) (mvT hZ (hw _ (List.mem_of_getElem? (i := 4) rfl))) (by decide) (backOf (W := 0) (rm1_16 l Z a0 hw [] arr kk t1 t3 t4 t5 t6 t7 t8 t9 t10 t11 t12 t15 t16 t17 t18 t19 t20 h0 n0 (by omega)  G0 G3 G4) hZ (hw _ (List.mem_of_getElem? (i := 4) rfl)) (hw _ (List.mem_of_getElem? (i := 3) rfl)) (by decide) (by decide)) (g := (mkF m 9 #[.val (.int xx), .val (.int (16 : Int32)), .unset] [(.int (16 : Int32))])) rfl (by rw [hml]; rfl) (argsL := [(.int (16 : Int32))]) (rest := []) (lenOf pd_0 rfl) rfl (by show 2 * 0 + _ ≤ _; exact Nat.le_of_eq rfl) (hb hby at_9) (fun _ _ => ⟨rfl, e0, (by decide : 0 + 0 ≤ _), (by decide : 0 + 0 ≤ _)⟩)
    dsimp only [Pt.U, Pt.locs, Pt.cells, Pt.slots] at X77 l77 y77 z77 st77 hQ77
    subst l77 y77 z77
    obtain ⟨rfl, Nq77, hs77⟩ := hQ77
    have N77 := Fr.app N0 Nq77
    refine Comes.st st77 ?_
    show Comes p e below _ (T77.setTop (mkF m 12 #[.val (.int xx), .val (.int (16 : Int32)), .unset] [(.ref t16)]))
    refine Comes.st (fun t k => XS.astoreN X77.here hx rfl (hb hby at_12) rfl rfl (l' := #[.val (.int xx), .val (.int (16 : Int32)), .val (.ref t16)]) rfl (XS.aloadN X77.here hx rfl (hb hby at_13) rfl rfl (XS.ifnonnullYes X77.here hx rfl (pc0 := 14) (pc' := 44) rfl (hb hby at_14) rfl (by decide) (by decide) (XS.aloadN X77.here hx rfl (hb hby at_44) rfl rfl k)))) ?_
    show Comes p e below _ (T77.setTop (mkF m 45 #[.val (.int xx), .val (.int (16 : Int32)), .val (.ref t16)] [(.ref t16)]))
    obtain ⟨cq78, kq78, q78a, q78b, q78c⟩ := isOf hZ hs77 G17
    obtain ⟨_, _, ⟨T78, L78, k78, n78⟩, -, X78, ⟨Lc78, hQ78, l78, y78, z78⟩, st78⟩ := X77.virtualBack hx (y := (⟨"com/example/typeflow/typeflow/classfile/ConstantKind", "isTwoSlots", "()Z"⟩ : MethodName)) (z := (⟨"com/example/typeflow/typeflow/classfile/ConstantKind", "isTwoSlots", "()Z"⟩ : MethodName)) hown (mvT hZ (hw _ (List.mem_of_getElem? (i := 8) rfl))) (mvT hZ (hw _ (List.mem_of_getElem? (i := 9) rfl))) (notFace_of_selects (args := #[]) (mvT hZ (hw _ (List.mem_of_getElem? (i := 11) rfl)))) (mvT hZ (hw _ (List.mem_of_getElem? (i := 11) rfl))) (mvT hZ (hw _ (List.mem_of_getElem? (i := 10) rfl))) (by decide) (backOf (W := 0) (rmO l Z a0 hw [] t16 t5 t6 h0 n0 (by omega)  G1 G2 G3 G43 G44) hZ (hw _ (List.mem_of_getElem? (i := 12) rfl)) (hw _ (List.mem_of_getElem? (i := 3) rfl)) (by decide) (by decide)) q78a q78c (g := (mkF m 45 #[.val (.int xx), .val (.int (16 : Int32)), .val (.ref t16)] [(.ref t16)])) rfl (by rw [hml]; rfl) (Steps.refl _) (argsL := []) (rest := []) (lenOf pd_1 rfl) rfl (by show 2 * 0 + _ ≤ _; exact Nat.le_of_eq rfl) (hb hby at_45) (fun _ _ => ⟨rfl, hs77, (by decide : 0 + 0 ≤ _), (by decide : 0 + 0 ≤ _)⟩)
    dsimp only [Pt.U, Pt.locs, Pt.cells, Pt.slots] at X78 l78 y78 z78 st78 hQ78
    subst l78 y78 z78
    obtain ⟨rfl, Nq78, hs78⟩ := hQ78
    have N78 := Fr.app N77 Nq78
    refine Comes.go st78 ?_
    show Comes p e below _ (T78.setTop (mkF m 48 #[.val (.int xx), .val (.int (16 : Int32)), .val (.ref t16)] [(.int (0 : Int32))]))
    refine Comes.st (fun t k => XS.iloadN X78.here hx rfl (hb hby at_48) rfl (XS.iconst X78.here hx rfl (hb hby at_49) k)) ?_
    show Comes p e below _ (T78.setTop (mkF m 50 #[.val (.int xx), .val (.int (16 : Int32)), .val (.ref t16)] [(.int (5 : Int32)), (.int (16 : Int32)), (.int (0 : Int32))]))
    have hc50_79 : ¬ ((16 : Int32) = (5 : Int32)) := by decide
    refine Comes.st (fun t k => XS.icmpNo X78.here hx rfl (hb hby at_50) rfl (feq hc50_79).1 (XS.iloadN X78.here hx rfl (hb hby at_53) rfl (XS.bipush X78.here hx rfl (hb hby at_54) k))) ?_
    show Comes p e below _ (T78.setTop (mkF m 56 #[.val (.int xx), .val (.int (16 : Int32)), .val (.ref t16)] [(.int (6 : Int32)), (.int (16 : Int32)), (.int (0 : Int32))]))
    have hc56_80 : ¬ ((16 : Int32) = (6 : Int32)) := by decide
    refine Comes.st (fun t k => XS.icmpYes X78.here hx rfl (pc0 := 56) (pc' := 63) rfl (hb hby at_56) rfl (feq hc56_80).2 (by decide) (by decide) (XS.iconst X78.here hx rfl (hb hby at_63) k)) ?_
    show Comes p e below _ (T78.setTop (mkF m 64 #[.val (.int xx), .val (.int (16 : Int32)), .val (.ref t16)] [(.int (0 : Int32)), (.int (0 : Int32))]))
    have hc64_81 : (0 : Int32) = (0 : Int32) := by decide
    refine Comes.st (fun t k => XS.icmpNo X78.here hx rfl (hb hby at_64) rfl (teq hc64_81).2 (XS.iconst X78.here hx rfl (hb hby at_67) (XS.goto X78.here hx rfl (pc0 := 68) (pc' := 72) rfl (hb hby at_68) (by decide) (by decide) k))) ?_
    show Comes p e below _ (T78.setTop (mkF m 72 #[.val (.int xx), .val (.int (16 : Int32)), .val (.ref t16)] [(.int (1 : Int32))]))
    exact Comes.retN X78 hx (t := .boolean) Bd.returns (by simp) hlk (hb hby at_72) hs78 ⟨rfl, N78⟩ (by decide) (by decide)
  · show Comes p e below _ (s₁.setTop (mkF m 8 #[.val (.int xx), .val (.int (17 : Int32)), .unset] []))
    refine Comes.st (fun t k => XS.iloadN X0.here hx rfl (hb hby at_8) rfl k) ?_
    show Comes p e below _ (s₁.setTop (mkF m 9 #[.val (.int xx), .val (.int (17 : Int32)), .unset] [(.int (17 : Int32))]))
    obtain ⟨_, _, ⟨T82, L82, k82, n82⟩, -, X82, ⟨Lc82, hQ82, l82, y82, z82⟩, st82⟩ := Jvm.LawKit.callS X0 hx (y := (⟨"com/example/typeflow/typeflow/classfile/ConstantKind", "ofTag", "(I)Lcom/example/typeflow/typeflow/classfile/ConstantKind;"⟩ : MethodName)) hown (mvT hZ (hw _ (List.mem_of_getElem? (i := 1) rfl))) (mvT hZ (hw _ (List.mem_of_getElem? (i := 2) rfl))) (mvT hZ (hw _ (List.mem_of_getElem? (i := 3) rfl))) (mvT hZ (hw _ (List.mem_of_getElem? (i := 4) rfl))) (by decide) (backOf (W := 0) (rm1_17 l Z a0 hw [] arr kk t1 t3 t4 t5 t6 t7 t8 t9 t10 t11 t12 t15 t16 t17 t18 t19 t20 h0 n0 (by omega)  G0 G3 G4) hZ (hw _ (List.mem_of_getElem? (i := 4) rfl)) (hw _ (List.mem_of_getElem? (i := 3) rfl)) (by decide) (by decide)) (g := (mkF m 9 #[.val (.int xx), .val (.int (17 : Int32)), .unset] [(.int (17 : Int32))])) rfl (by rw [hml]; rfl) (argsL := [(.int (17 : Int32))]) (rest := []) (lenOf pd_0 rfl) rfl (by show 2 * 0 + _ ≤ _; exact Nat.le_of_eq rfl) (hb hby at_9) (fun _ _ => ⟨rfl, e0, (by decide : 0 + 0 ≤ _), (by decide : 0 + 0 ≤ _)⟩)
    dsimp only [Pt.U, Pt.locs, Pt.cells, Pt.slots] at X82 l82 y82 z82 st82 hQ82
    subst l82 y82 z82
    obtain ⟨rfl, Nq82, hs82⟩ := hQ82
    have N82 := Fr.app N0 Nq82
    refine Comes.st st82 ?_
    show Comes p e below _ (T82.setTop (mkF m 12 #[.val (.int xx), .val (.int (17 : Int32)), .unset] [(.ref t17)]))
    refine Comes.st (fun t k => XS.astoreN X82.here hx rfl (hb hby at_12) rfl rfl (l' := #[.val (.int xx), .val (.int (17 : Int32)), .val (.ref t17)]) rfl (XS.aloadN X82.here hx rfl (hb hby at_13) rfl rfl (XS.ifnonnullYes X82.here hx rfl (pc0 := 14) (pc' := 44) rfl (hb hby at_14) rfl (by decide) (by decide) (XS.aloadN X82.here hx rfl (hb hby at_44) rfl rfl k)))) ?_
    show Comes p e below _ (T82.setTop (mkF m 45 #[.val (.int xx), .val (.int (17 : Int32)), .val (.ref t17)] [(.ref t17)]))
    obtain ⟨cq83, kq83, q83a, q83b, q83c⟩ := isOf hZ hs82 G18
    obtain ⟨_, _, ⟨T83, L83, k83, n83⟩, -, X83, ⟨Lc83, hQ83, l83, y83, z83⟩, st83⟩ := X82.virtualBack hx (y := (⟨"com/example/typeflow/typeflow/classfile/ConstantKind", "isTwoSlots", "()Z"⟩ : MethodName)) (z := (⟨"com/example/typeflow/typeflow/classfile/ConstantKind", "isTwoSlots", "()Z"⟩ : MethodName)) hown (mvT hZ (hw _ (List.mem_of_getElem? (i := 8) rfl))) (mvT hZ (hw _ (List.mem_of_getElem? (i := 9) rfl))) (notFace_of_selects (args := #[]) (mvT hZ (hw _ (List.mem_of_getElem? (i := 11) rfl)))) (mvT hZ (hw _ (List.mem_of_getElem? (i := 11) rfl))) (mvT hZ (hw _ (List.mem_of_getElem? (i := 10) rfl))) (by decide) (backOf (W := 0) (rmO l Z a0 hw [] t17 t5 t6 h0 n0 (by omega)  G1 G2 G3 G45 G46) hZ (hw _ (List.mem_of_getElem? (i := 12) rfl)) (hw _ (List.mem_of_getElem? (i := 3) rfl)) (by decide) (by decide)) q83a q83c (g := (mkF m 45 #[.val (.int xx), .val (.int (17 : Int32)), .val (.ref t17)] [(.ref t17)])) rfl (by rw [hml]; rfl) (Steps.refl _) (argsL := []) (rest := []) (lenOf pd_1 rfl) rfl (by show 2 * 0 + _ ≤ _; exact Nat.le_of_eq rfl) (hb hby at_45) (fun _ _ => ⟨rfl, hs82, (by decide : 0 + 0 ≤ _), (by decide : 0 + 0 ≤ _)⟩)
    dsimp only [Pt.U, Pt.locs, Pt.cells, Pt.slots] at X83 l83 y83 z83 st83 hQ83
    subst l83 y83 z83
    obtain ⟨rfl, Nq83, hs83⟩ := hQ83
    have N83 := Fr.app N82 Nq83
    refine Comes.go st83 ?_
    show Comes p e below _ (T83.setTop (mkF m 48 #[.val (.int xx), .val (.int (17 : Int32)), .val (.ref t17)] [(.int (0 : Int32))]))
    refine Comes.st (fun t k => XS.iloadN X83.here hx rfl (hb hby at_48) rfl (XS.iconst X83.here hx rfl (hb hby at_49) k)) ?_
    show Comes p e below _ (T83.setTop (mkF m 50 #[.val (.int xx), .val (.int (17 : Int32)), .val (.ref t17)] [(.int (5 : Int32)), (.int (17 : Int32)), (.int (0 : Int32))]))
    have hc50_84 : ¬ ((17 : Int32) = (5 : Int32)) := by decide
    refine Comes.st (fun t k => XS.icmpNo X83.here hx rfl (hb hby at_50) rfl (feq hc50_84).1 (XS.iloadN X83.here hx rfl (hb hby at_53) rfl (XS.bipush X83.here hx rfl (hb hby at_54) k))) ?_
    show Comes p e below _ (T83.setTop (mkF m 56 #[.val (.int xx), .val (.int (17 : Int32)), .val (.ref t17)] [(.int (6 : Int32)), (.int (17 : Int32)), (.int (0 : Int32))]))
    have hc56_85 : ¬ ((17 : Int32) = (6 : Int32)) := by decide
    refine Comes.st (fun t k => XS.icmpYes X83.here hx rfl (pc0 := 56) (pc' := 63) rfl (hb hby at_56) rfl (feq hc56_85).2 (by decide) (by decide) (XS.iconst X83.here hx rfl (hb hby at_63) k)) ?_
    show Comes p e below _ (T83.setTop (mkF m 64 #[.val (.int xx), .val (.int (17 : Int32)), .val (.ref t17)] [(.int (0 : Int32)), (.int (0 : Int32))]))
    have hc64_86 : (0 : Int32) = (0 : Int32) := by decide
    refine Comes.st (fun t k => XS.icmpNo X83.here hx rfl (hb hby at_64) rfl (teq hc64_86).2 (XS.iconst X83.here hx rfl (hb hby at_67) (XS.goto X83.here hx rfl (pc0 := 68) (pc' := 72) rfl (hb hby at_68) (by decide) (by decide) k))) ?_
    show Comes p e below _ (T83.setTop (mkF m 72 #[.val (.int xx), .val (.int (17 : Int32)), .val (.ref t17)] [(.int (1 : Int32))]))
    exact Comes.retN X83 hx (t := .boolean) Bd.returns (by simp) hlk (hb hby at_72) hs83 ⟨rfl, N83⟩ (by decide) (by decide)
  · show Comes p e below _ (s₁.setTop (mkF m 8 #[.val (.int xx), .val (.int (18 : Int32)), .unset] []))
    refine Comes.st (fun t k => XS.iloadN X0.here hx rfl (hb hby at_8) rfl k) ?_
    show Comes p e below _ (s₁.setTop (mkF m 9 #[.val (.int xx), .val (.int (18 : Int32)), .unset] [(.int (18 : Int32))]))
    obtain ⟨_, _, ⟨T87, L87, k87, n87⟩, -, X87, ⟨Lc87, hQ87, l87, y87, z87⟩, st87⟩ := Jvm.LawKit.callS X0 hx (y := (⟨"com/example/typeflow/typeflow/classfile/ConstantKind", "ofTag", "(I)Lcom/example/typeflow/typeflow/classfile/ConstantKind;"⟩ : MethodName)) hown (mvT hZ (hw _ (List.mem_of_getElem? (i := 1) rfl))) (mvT hZ (hw _ (List.mem_of_getElem? (i := 2) rfl))) (mvT hZ (hw _ (List.mem_of_getElem? (i := 3) rfl))) (mvT hZ (hw _ (List.mem_of_getElem? (i := 4) rfl))) (by decide) (backOf (W := 0) (rm1_18 l Z a0 hw [] arr kk t1 t3 t4 t5 t6 t7 t8 t9 t10 t11 t12 t15 t16 t17 t18 t19 t20 h0 n0 (by omega)  G0 G3 G4) hZ (hw _ (List.mem_of_getElem? (i := 4) rfl)) (hw _ (List.mem_of_getElem? (i := 3) rfl)) (by decide) (by decide)) (g := (mkF m 9 #[.val (.int xx), .val (.int (18 : Int32)), .unset] [(.int (18 : Int32))])) rfl (by rw [hml]; rfl) (argsL := [(.int (18 : Int32))]) (rest := []) (lenOf pd_0 rfl) rfl (by show 2 * 0 + _ ≤ _; exact Nat.le_of_eq rfl) (hb hby at_9) (fun _ _ => ⟨rfl, e0, (by decide : 0 + 0 ≤ _), (by decide : 0 + 0 ≤ _)⟩)
    dsimp only [Pt.U, Pt.locs, Pt.cells, Pt.slots] at X87 l87 y87 z87 st87 hQ87
    subst l87 y87 z87
    obtain ⟨rfl, Nq87, hs87⟩ := hQ87
    have N87 := Fr.app N0 Nq87
    refine Comes.st st87 ?_
    show Comes p e below _ (T87.setTop (mkF m 12 #[.val (.int xx), .val (.int (18 : Int32)), .unset] [(.ref t18)]))
    refine Comes.st (fun t k => XS.astoreN X87.here hx rfl (hb hby at_12) rfl rfl (l' := #[.val (.int xx), .val (.int (18 : Int32)), .val (.ref t18)]) rfl (XS.aloadN X87.here hx rfl (hb hby at_13) rfl rfl (XS.ifnonnullYes X87.here hx rfl (pc0 := 14) (pc' := 44) rfl (hb hby at_14) rfl (by decide) (by decide) (XS.aloadN X87.here hx rfl (hb hby at_44) rfl rfl k)))) ?_
    show Comes p e below _ (T87.setTop (mkF m 45 #[.val (.int xx), .val (.int (18 : Int32)), .val (.ref t18)] [(.ref t18)]))
    obtain ⟨cq88, kq88, q88a, q88b, q88c⟩ := isOf hZ hs87 G19
    obtain ⟨_, _, ⟨T88, L88, k88, n88⟩, -, X88, ⟨Lc88, hQ88, l88, y88, z88⟩, st88⟩ := X87.virtualBack hx (y := (⟨"com/example/typeflow/typeflow/classfile/ConstantKind", "isTwoSlots", "()Z"⟩ : MethodName)) (z := (⟨"com/example/typeflow/typeflow/classfile/ConstantKind", "isTwoSlots", "()Z"⟩ : MethodName)) hown (mvT hZ (hw _ (List.mem_of_getElem? (i := 8) rfl))) (mvT hZ (hw _ (List.mem_of_getElem? (i := 9) rfl))) (notFace_of_selects (args := #[]) (mvT hZ (hw _ (List.mem_of_getElem? (i := 11) rfl)))) (mvT hZ (hw _ (List.mem_of_getElem? (i := 11) rfl))) (mvT hZ (hw _ (List.mem_of_getElem? (i := 10) rfl))) (by decide) (backOf (W := 0) (rmO l Z a0 hw [] t18 t5 t6 h0 n0 (by omega)  G1 G2 G3 G47 G48) hZ (hw _ (List.mem_of_getElem? (i := 12) rfl)) (hw _ (List.mem_of_getElem? (i := 3) rfl)) (by decide) (by decide)) q88a q88c (g := (mkF m 45 #[.val (.int xx), .val (.int (18 : Int32)), .val (.ref t18)] [(.ref t18)])) rfl (by rw [hml]; rfl) (Steps.refl _) (argsL := []) (rest := []) (lenOf pd_1 rfl) rfl (by show 2 * 0 + _ ≤ _; exact Nat.le_of_eq rfl) (hb hby at_45) (fun _ _ => ⟨rfl, hs87, (by decide : 0 + 0 ≤ _), (by decide : 0 + 0 ≤ _)⟩)
    dsimp only [Pt.U, Pt.locs, Pt.cells, Pt.slots] at X88 l88 y88 z88 st88 hQ88
    subst l88 y88 z88
    obtain ⟨rfl, Nq88, hs88⟩ := hQ88
    have N88 := Fr.app N87 Nq88
    refine Comes.go st88 ?_
    show Comes p e below _ (T88.setTop (mkF m 48 #[.val (.int xx), .val (.int (18 : Int32)), .val (.ref t18)] [(.int (0 : Int32))]))
    refine Comes.st (fun t k => XS.iloadN X88.here hx rfl (hb hby at_48) rfl (XS.iconst X88.here hx rfl (hb hby at_49) k)) ?_
    show Comes p e below _ (T88.setTop (mkF m 50 #[.val (.int xx), .val (.int (18 : Int32)), .val (.ref t18)] [(.int (5 : Int32)), (.int (18 : Int32)), (.int (0 : Int32))]))
    have hc50_89 : ¬ ((18 : Int32) = (5 : Int32)) := by decide
    refine Comes.st (fun t k => XS.icmpNo X88.here hx rfl (hb hby at_50) rfl (feq hc50_89).1 (XS.iloadN X88.here hx rfl (hb hby at_53) rfl (XS.bipush X88.here hx rfl (hb hby at_54) k))) ?_
    show Comes p e below _ (T88.setTop (mkF m 56 #[.val (.int xx), .val (.int (18 : Int32)), .val (.ref t18)] [(.int (6 : Int32)), (.int (18 : Int32)), (.int (0 : Int32))]))
    have hc56_90 : ¬ ((18 : Int32) = (6 : Int32)) := by decide
    refine Comes.st (fun t k => XS.icmpYes X88.here hx rfl (pc0 := 56) (pc' := 63) rfl (hb hby at_56) rfl (feq hc56_90).2 (by decide) (by decide) (XS.iconst X88.here hx rfl (hb hby at_63) k)) ?_
    show Comes p e below _ (T88.setTop (mkF m 64 #[.val (.int xx), .val (.int (18 : Int32)), .val (.ref t18)] [(.int (0 : Int32)), (.int (0 : Int32))]))
    have hc64_91 : (0 : Int32) = (0 : Int32) := by decide
    refine Comes.st (fun t k => XS.icmpNo X88.here hx rfl (hb hby at_64) rfl (teq hc64_91).2 (XS.iconst X88.here hx rfl (hb hby at_67) (XS.goto X88.here hx rfl (pc0 := 68) (pc' := 72) rfl (hb hby at_68) (by decide) (by decide) k))) ?_
    show Comes p e below _ (T88.setTop (mkF m 72 #[.val (.int xx), .val (.int (18 : Int32)), .val (.ref t18)] [(.int (1 : Int32))]))
    exact Comes.retN X88 hx (t := .boolean) Bd.returns (by simp) hlk (hb hby at_72) hs88 ⟨rfl, N88⟩ (by decide) (by decide)
  · show Comes p e below _ (s₁.setTop (mkF m 8 #[.val (.int xx), .val (.int (19 : Int32)), .unset] []))
    refine Comes.st (fun t k => XS.iloadN X0.here hx rfl (hb hby at_8) rfl k) ?_
    show Comes p e below _ (s₁.setTop (mkF m 9 #[.val (.int xx), .val (.int (19 : Int32)), .unset] [(.int (19 : Int32))]))
    obtain ⟨_, _, ⟨T92, L92, k92, n92⟩, -, X92, ⟨Lc92, hQ92, l92, y92, z92⟩, st92⟩ := Jvm.LawKit.callS X0 hx (y := (⟨"com/example/typeflow/typeflow/classfile/ConstantKind", "ofTag", "(I)Lcom/example/typeflow/typeflow/classfile/ConstantKind;"⟩ : MethodName)) hown (mvT hZ (hw _ (List.mem_of_getElem? (i := 1) rfl))) (mvT hZ (hw _ (List.mem_of_getElem? (i := 2) rfl))) (mvT hZ (hw _ (List.mem_of_getElem? (i := 3) rfl))) (mvT hZ (hw _ (List.mem_of_getElem? (i := 4) rfl))) (by decide) (backOf (W := 0) (rm1_19 l Z a0 hw [] arr kk t1 t3 t4 t5 t6 t7 t8 t9 t10 t11 t12 t15 t16 t17 t18 t19 t20 h0 n0 (by omega)  G0 G3 G4) hZ (hw _ (List.mem_of_getElem? (i := 4) rfl)) (hw _ (List.mem_of_getElem? (i := 3) rfl)) (by decide) (by decide)) (g := (mkF m 9 #[.val (.int xx), .val (.int (19 : Int32)), .unset] [(.int (19 : Int32))])) rfl (by rw [hml]; rfl) (argsL := [(.int (19 : Int32))]) (rest := []) (lenOf pd_0 rfl) rfl (by show 2 * 0 + _ ≤ _; exact Nat.le_of_eq rfl) (hb hby at_9) (fun _ _ => ⟨rfl, e0, (by decide : 0 + 0 ≤ _), (by decide : 0 + 0 ≤ _)⟩)
    dsimp only [Pt.U, Pt.locs, Pt.cells, Pt.slots] at X92 l92 y92 z92 st92 hQ92
    subst l92 y92 z92
    obtain ⟨rfl, Nq92, hs92⟩ := hQ92
    have N92 := Fr.app N0 Nq92
    refine Comes.st st92 ?_
    show Comes p e below _ (T92.setTop (mkF m 12 #[.val (.int xx), .val (.int (19 : Int32)), .unset] [(.ref t19)]))
    refine Comes.st (fun t k => XS.astoreN X92.here hx rfl (hb hby at_12) rfl rfl (l' := #[.val (.int xx), .val (.int (19 : Int32)), .val (.ref t19)]) rfl (XS.aloadN X92.here hx rfl (hb hby at_13) rfl rfl (XS.ifnonnullYes X92.here hx rfl (pc0 := 14) (pc' := 44) rfl (hb hby at_14) rfl (by decide) (by decide) (XS.aloadN X92.here hx rfl (hb hby at_44) rfl rfl k)))) ?_
    show Comes p e below _ (T92.setTop (mkF m 45 #[.val (.int xx), .val (.int (19 : Int32)), .val (.ref t19)] [(.ref t19)]))
    obtain ⟨cq93, kq93, q93a, q93b, q93c⟩ := isOf hZ hs92 G20
    obtain ⟨_, _, ⟨T93, L93, k93, n93⟩, -, X93, ⟨Lc93, hQ93, l93, y93, z93⟩, st93⟩ := X92.virtualBack hx (y := (⟨"com/example/typeflow/typeflow/classfile/ConstantKind", "isTwoSlots", "()Z"⟩ : MethodName)) (z := (⟨"com/example/typeflow/typeflow/classfile/ConstantKind", "isTwoSlots", "()Z"⟩ : MethodName)) hown (mvT hZ (hw _ (List.mem_of_getElem? (i := 8) rfl))) (mvT hZ (hw _ (List.mem_of_getElem? (i := 9) rfl))) (notFace_of_selects (args := #[]) (mvT hZ (hw _ (List.mem_of_getElem? (i := 11) rfl)))) (mvT hZ (hw _ (List.mem_of_getElem? (i := 11) rfl))) (mvT hZ (hw _ (List.mem_of_getElem? (i := 10) rfl))) (by decide) (backOf (W := 0) (rmO l Z a0 hw [] t19 t5 t6 h0 n0 (by omega)  G1 G2 G3 G49 G50) hZ (hw _ (List.mem_of_getElem? (i := 12) rfl)) (hw _ (List.mem_of_getElem? (i := 3) rfl)) (by decide) (by decide)) q93a q93c (g := (mkF m 45 #[.val (.int xx), .val (.int (19 : Int32)), .val (.ref t19)] [(.ref t19)])) rfl (by rw [hml]; rfl) (Steps.refl _) (argsL := []) (rest := []) (lenOf pd_1 rfl) rfl (by show 2 * 0 + _ ≤ _; exact Nat.le_of_eq rfl) (hb hby at_45) (fun _ _ => ⟨rfl, hs92, (by decide : 0 + 0 ≤ _), (by decide : 0 + 0 ≤ _)⟩)
    dsimp only [Pt.U, Pt.locs, Pt.cells, Pt.slots] at X93 l93 y93 z93 st93 hQ93
    subst l93 y93 z93
    obtain ⟨rfl, Nq93, hs93⟩ := hQ93
    have N93 := Fr.app N92 Nq93
    refine Comes.go st93 ?_
    show Comes p e below _ (T93.setTop (mkF m 48 #[.val (.int xx), .val (.int (19 : Int32)), .val (.ref t19)] [(.int (0 : Int32))]))
    refine Comes.st (fun t k => XS.iloadN X93.here hx rfl (hb hby at_48) rfl (XS.iconst X93.here hx rfl (hb hby at_49) k)) ?_
    show Comes p e below _ (T93.setTop (mkF m 50 #[.val (.int xx), .val (.int (19 : Int32)), .val (.ref t19)] [(.int (5 : Int32)), (.int (19 : Int32)), (.int (0 : Int32))]))
    have hc50_94 : ¬ ((19 : Int32) = (5 : Int32)) := by decide
    refine Comes.st (fun t k => XS.icmpNo X93.here hx rfl (hb hby at_50) rfl (feq hc50_94).1 (XS.iloadN X93.here hx rfl (hb hby at_53) rfl (XS.bipush X93.here hx rfl (hb hby at_54) k))) ?_
    show Comes p e below _ (T93.setTop (mkF m 56 #[.val (.int xx), .val (.int (19 : Int32)), .val (.ref t19)] [(.int (6 : Int32)), (.int (19 : Int32)), (.int (0 : Int32))]))
    have hc56_95 : ¬ ((19 : Int32) = (6 : Int32)) := by decide
    refine Comes.st (fun t k => XS.icmpYes X93.here hx rfl (pc0 := 56) (pc' := 63) rfl (hb hby at_56) rfl (feq hc56_95).2 (by decide) (by decide) (XS.iconst X93.here hx rfl (hb hby at_63) k)) ?_
    show Comes p e below _ (T93.setTop (mkF m 64 #[.val (.int xx), .val (.int (19 : Int32)), .val (.ref t19)] [(.int (0 : Int32)), (.int (0 : Int32))]))
    have hc64_96 : (0 : Int32) = (0 : Int32) := by decide
    refine Comes.st (fun t k => XS.icmpNo X93.here hx rfl (hb hby at_64) rfl (teq hc64_96).2 (XS.iconst X93.here hx rfl (hb hby at_67) (XS.goto X93.here hx rfl (pc0 := 68) (pc' := 72) rfl (hb hby at_68) (by decide) (by decide) k))) ?_
    show Comes p e below _ (T93.setTop (mkF m 72 #[.val (.int xx), .val (.int (19 : Int32)), .val (.ref t19)] [(.int (1 : Int32))]))
    exact Comes.retN X93 hx (t := .boolean) Bd.returns (by simp) hlk (hb hby at_72) hs93 ⟨rfl, N93⟩ (by decide) (by decide)
  · show Comes p e below _ (s₁.setTop (mkF m 8 #[.val (.int xx), .val (.int (20 : Int32)), .unset] []))
    refine Comes.st (fun t k => XS.iloadN X0.here hx rfl (hb hby at_8) rfl k) ?_
    show Comes p e below _ (s₁.setTop (mkF m 9 #[.val (.int xx), .val (.int (20 : Int32)), .unset] [(.int (20 : Int32))]))
    obtain ⟨_, _, ⟨T97, L97, k97, n97⟩, -, X97, ⟨Lc97, hQ97, l97, y97, z97⟩, st97⟩ := Jvm.LawKit.callS X0 hx (y := (⟨"com/example/typeflow/typeflow/classfile/ConstantKind", "ofTag", "(I)Lcom/example/typeflow/typeflow/classfile/ConstantKind;"⟩ : MethodName)) hown (mvT hZ (hw _ (List.mem_of_getElem? (i := 1) rfl))) (mvT hZ (hw _ (List.mem_of_getElem? (i := 2) rfl))) (mvT hZ (hw _ (List.mem_of_getElem? (i := 3) rfl))) (mvT hZ (hw _ (List.mem_of_getElem? (i := 4) rfl))) (by decide) (backOf (W := 0) (rm1_20 l Z a0 hw [] arr kk t1 t3 t4 t5 t6 t7 t8 t9 t10 t11 t12 t15 t16 t17 t18 t19 t20 h0 n0 (by omega)  G0 G3 G4) hZ (hw _ (List.mem_of_getElem? (i := 4) rfl)) (hw _ (List.mem_of_getElem? (i := 3) rfl)) (by decide) (by decide)) (g := (mkF m 9 #[.val (.int xx), .val (.int (20 : Int32)), .unset] [(.int (20 : Int32))])) rfl (by rw [hml]; rfl) (argsL := [(.int (20 : Int32))]) (rest := []) (lenOf pd_0 rfl) rfl (by show 2 * 0 + _ ≤ _; exact Nat.le_of_eq rfl) (hb hby at_9) (fun _ _ => ⟨rfl, e0, (by decide : 0 + 0 ≤ _), (by decide : 0 + 0 ≤ _)⟩)
    dsimp only [Pt.U, Pt.locs, Pt.cells, Pt.slots] at X97 l97 y97 z97 st97 hQ97
    subst l97 y97 z97
    obtain ⟨rfl, Nq97, hs97⟩ := hQ97
    have N97 := Fr.app N0 Nq97
    refine Comes.st st97 ?_
    show Comes p e below _ (T97.setTop (mkF m 12 #[.val (.int xx), .val (.int (20 : Int32)), .unset] [(.ref t20)]))
    refine Comes.st (fun t k => XS.astoreN X97.here hx rfl (hb hby at_12) rfl rfl (l' := #[.val (.int xx), .val (.int (20 : Int32)), .val (.ref t20)]) rfl (XS.aloadN X97.here hx rfl (hb hby at_13) rfl rfl (XS.ifnonnullYes X97.here hx rfl (pc0 := 14) (pc' := 44) rfl (hb hby at_14) rfl (by decide) (by decide) (XS.aloadN X97.here hx rfl (hb hby at_44) rfl rfl k)))) ?_
    show Comes p e below _ (T97.setTop (mkF m 45 #[.val (.int xx), .val (.int (20 : Int32)), .val (.ref t20)] [(.ref t20)]))
    obtain ⟨cq98, kq98, q98a, q98b, q98c⟩ := isOf hZ hs97 G21
    obtain ⟨_, _, ⟨T98, L98, k98, n98⟩, -, X98, ⟨Lc98, hQ98, l98, y98, z98⟩, st98⟩ := X97.virtualBack hx (y := (⟨"com/example/typeflow/typeflow/classfile/ConstantKind", "isTwoSlots", "()Z"⟩ : MethodName)) (z := (⟨"com/example/typeflow/typeflow/classfile/ConstantKind", "isTwoSlots", "()Z"⟩ : MethodName)) hown (mvT hZ (hw _ (List.mem_of_getElem? (i := 8) rfl))) (mvT hZ (hw _ (List.mem_of_getElem? (i := 9) rfl))) (notFace_of_selects (args := #[]) (mvT hZ (hw _ (List.mem_of_getElem? (i := 11) rfl)))) (mvT hZ (hw _ (List.mem_of_getElem? (i := 11) rfl))) (mvT hZ (hw _ (List.mem_of_getElem? (i := 10) rfl))) (by decide) (backOf (W := 0) (rmO l Z a0 hw [] t20 t5 t6 h0 n0 (by omega)  G1 G2 G3 G51 G52) hZ (hw _ (List.mem_of_getElem? (i := 12) rfl)) (hw _ (List.mem_of_getElem? (i := 3) rfl)) (by decide) (by decide)) q98a q98c (g := (mkF m 45 #[.val (.int xx), .val (.int (20 : Int32)), .val (.ref t20)] [(.ref t20)])) rfl (by rw [hml]; rfl) (Steps.refl _) (argsL := []) (rest := []) (lenOf pd_1 rfl) rfl (by show 2 * 0 + _ ≤ _; exact Nat.le_of_eq rfl) (hb hby at_45) (fun _ _ => ⟨rfl, hs97, (by decide : 0 + 0 ≤ _), (by decide : 0 + 0 ≤ _)⟩)
    dsimp only [Pt.U, Pt.locs, Pt.cells, Pt.slots] at X98 l98 y98 z98 st98 hQ98
    subst l98 y98 z98
    obtain ⟨rfl, Nq98, hs98⟩ := hQ98
    have N98 := Fr.app N97 Nq98
    refine Comes.go st98 ?_
    show Comes p e below _ (T98.setTop (mkF m 48 #[.val (.int xx), .val (.int (20 : Int32)), .val (.ref t20)] [(.int (0 : Int32))]))
    refine Comes.st (fun t k => XS.iloadN X98.here hx rfl (hb hby at_48) rfl (XS.iconst X98.here hx rfl (hb hby at_49) k)) ?_
    show Comes p e below _ (T98.setTop (mkF m 50 #[.val (.int xx), .val (.int (20 : Int32)), .val (.ref t20)] [(.int (5 : Int32)), (.int (20 : Int32)), (.int (0 : Int32))]))
    have hc50_99 : ¬ ((20 : Int32) = (5 : Int32)) := by decide
    refine Comes.st (fun t k => XS.icmpNo X98.here hx rfl (hb hby at_50) rfl (feq hc50_99).1 (XS.iloadN X98.here hx rfl (hb hby at_53) rfl (XS.bipush X98.here hx rfl (hb hby at_54) k))) ?_
    show Comes p e below _ (T98.setTop (mkF m 56 #[.val (.int xx), .val (.int (20 : Int32)), .val (.ref t20)] [(.int (6 : Int32)), (.int (20 : Int32)), (.int (0 : Int32))]))
    have hc56_100 : ¬ ((20 : Int32) = (6 : Int32)) := by decide
    refine Comes.st (fun t k => XS.icmpYes X98.here hx rfl (pc0 := 56) (pc' := 63) rfl (hb hby at_56) rfl (feq hc56_100).2 (by decide) (by decide) (XS.iconst X98.here hx rfl (hb hby at_63) k)) ?_
    show Comes p e below _ (T98.setTop (mkF m 64 #[.val (.int xx), .val (.int (20 : Int32)), .val (.ref t20)] [(.int (0 : Int32)), (.int (0 : Int32))]))
    have hc64_101 : (0 : Int32) = (0 : Int32) := by decide
    refine Comes.st (fun t k => XS.icmpNo X98.here hx rfl (hb hby at_64) rfl (teq hc64_101).2 (XS.iconst X98.here hx rfl (hb hby at_67) (XS.goto X98.here hx rfl (pc0 := 68) (pc' := 72) rfl (hb hby at_68) (by decide) (by decide) k))) ?_
    show Comes p e below _ (T98.setTop (mkF m 72 #[.val (.int xx), .val (.int (20 : Int32)), .val (.ref t20)] [(.int (1 : Int32))]))
    exact Comes.retN X98 hx (t := .boolean) Bd.returns (by simp) hlk (hb hby at_72) hs98 ⟨rfl, N98⟩ (by decide) (by decide)
set_option maxRecDepth 65536 in
set_option maxHeartbeats 40000000 in
theorem comes_1 {Post : Tables → Env → Array Value → State → Outcome → State → Prop} (hpost : ∀ tb e args s v u, (limb_1_1.after args s (.returned v) u = true ∧ limb_1_2.after args s (.returned v) u = true ∧ True) → FrameEnd s (.returned v) u (Jvm.fieldLocs frame_1_writes args s ++ Jvm.arrayLocs frame_1_arrays args s ++ Jvm.staticLocs frame_1_statics s) 0 0 → Post tb e args s (.returned v) u) :
    ArmFor flags0 classFile x code maxLocals ret World_1 tables_1 room_1 Calls_1 rest_1 Pre_1 Post := by
  intro l hfl _ _ p e ha hc hk s m args below hf hA hF happ hP
  obtain ⟨hcalls, hrest, hpre⟩ := hP
  obtain ⟨-, -, -, hnamed, -, -, -, hat⟩ := (Spec.applies_iff hf).mp happ
  obtain ⟨hg, hn⟩ := and_e (Cond.before_iff.mp (show (Jvm.Cond.and given_1 narrow_1).before args s = true from hpre))
  obtain ⟨c0, d0⟩ := and_e hg
  obtain ⟨w0, rfl⟩ : ∃ w0 : Value, args = #[w0] := by
    have hs : args.size = 1 := by simpa [Cond.value, given_1] using c0
    obtain ⟨L⟩ := args
    match L, hs with
    | [w0], _ => exact ⟨w0, rfl⟩
  have hw := fun d (hd : d ∈ tables_1) => atoms_spec (ws := Jvm.Cond.code x code maxLocals ret :: tables_1) hat d (List.mem_cons_of_mem _ hd)
  have hfit : Fit s := fun {y c} hc i hi => by
    obtain ⟨ha, rfl⟩ := Array.getElem?_eq_some_iff.mp hc
    have q := List.all_eq_true.mp ((Array.all_eq_true_iff_forall_mem.mp hF) _ (Array.getElem_mem ha)) i (List.mem_range.mpr hi)
    simpa [Array.getElem?_eq_getElem hi] using q
  obtain ⟨i0, ei0⟩ := is_v d0
  obtain rfl : w0 = (.int i0) := Option.some.inj ei0
  obtain ⟨n0, nr0⟩ := and_e hn
  obtain ⟨n1, nr1⟩ := and_e nr0
  obtain ⟨n2, nr2⟩ := and_e nr1
  obtain ⟨n3, nr3⟩ := and_e nr2
  obtain ⟨n4, nr4⟩ := and_e nr3
  obtain ⟨n5, nr5⟩ := and_e nr4
  obtain ⟨n6, nr6⟩ := and_e nr5
  obtain ⟨n7, nr7⟩ := and_e nr6
  obtain ⟨n8, nr8⟩ := and_e nr7
  obtain ⟨n9, nr9⟩ := and_e nr8
  obtain ⟨n10, nr10⟩ := and_e nr9
  obtain ⟨n11, nr11⟩ := and_e nr10
  obtain ⟨n12, nr12⟩ := and_e nr11
  obtain ⟨n13, nr13⟩ := and_e nr12
  obtain ⟨n14, nr14⟩ := and_e nr13
  obtain ⟨n15, nr15⟩ := and_e nr14
  obtain ⟨n16, nr16⟩ := and_e nr15
  obtain ⟨n17, nr17⟩ := and_e nr16
  obtain ⟨n18, nr18⟩ := and_e nr17
  obtain ⟨n19, nr19⟩ := and_e nr18
  obtain ⟨n20, nr20⟩ := and_e nr19
  obtain ⟨n21, nr21⟩ := and_e nr20
  obtain ⟨n22, nr22⟩ := and_e nr21
  obtain ⟨n23, nr23⟩ := and_e nr22
  obtain ⟨n24, nr24⟩ := and_e nr23
  obtain ⟨n25, nr25⟩ := and_e nr24
  obtain ⟨n26, nr26⟩ := and_e nr25
  obtain ⟨n27, nr27⟩ := and_e nr26
  obtain ⟨n28, nr28⟩ := and_e nr27
  obtain ⟨n29, nr29⟩ := and_e nr28
  obtain ⟨n30, nr30⟩ := and_e nr29
  obtain ⟨n31, nr31⟩ := and_e nr30
  obtain ⟨n32, nr32⟩ := and_e nr31
  obtain ⟨n33, nr33⟩ := and_e nr32
  obtain ⟨n34, nr34⟩ := and_e nr33
  obtain ⟨n35, nr35⟩ := and_e nr34
  obtain ⟨n36, nr36⟩ := and_e nr35
  obtain ⟨n37, nr37⟩ := and_e nr36
  obtain ⟨n38, nr38⟩ := and_e nr37
  obtain ⟨n39, nr39⟩ := and_e nr38
  obtain ⟨n40, nr40⟩ := and_e nr39
  obtain ⟨n41, nr41⟩ := and_e nr40
  obtain ⟨n42, nr42⟩ := and_e nr41
  obtain ⟨n43, nr43⟩ := and_e nr42
  obtain ⟨n44, nr44⟩ := and_e nr43
  obtain ⟨n45, nr45⟩ := and_e nr44
  obtain ⟨n46, nr46⟩ := and_e nr45
  obtain ⟨n47, nr47⟩ := and_e nr46
  obtain ⟨n48, nr48⟩ := and_e nr47
  obtain ⟨n49, nr49⟩ := and_e nr48
  obtain ⟨n50, nr50⟩ := and_e nr49
  obtain ⟨n51, nr51⟩ := and_e nr50
  obtain ⟨n52, nr52⟩ := and_e nr51
  obtain ⟨n53, nr53⟩ := and_e nr52
  obtain ⟨n54, nr54⟩ := and_e nr53
  obtain ⟨n55, nr55⟩ := and_e nr54
  have n56 := nr55
  obtain ⟨arr, ea⟩ := arr_v n0
  obtain ⟨cl, A⟩ := Arr.start ea n0
  have hl := own_len ea A n1
  obtain ⟨t1, e1⟩ := exa_v n26
  obtain ⟨t3, e3⟩ := exa_v n3
  obtain ⟨t4, e4⟩ := exa_v n48
  obtain ⟨t5, e5⟩ := exa_v n5
  obtain ⟨t6, e6⟩ := exa_v n8
  obtain ⟨t7, e7⟩ := exa_v n16
  obtain ⟨t8, e8⟩ := exa_v n23
  obtain ⟨t9, e9⟩ := exa_v n33
  obtain ⟨t10, e10⟩ := exa_v n20
  obtain ⟨t11, e11⟩ := exa_v n13
  obtain ⟨t12, e12⟩ := exa_v n51
  obtain ⟨t15, e15⟩ := exa_v n30
  obtain ⟨t16, e16⟩ := exa_v n39
  obtain ⟨t17, e17⟩ := exa_v n42
  obtain ⟨t18, e18⟩ := exa_v n54
  obtain ⟨t19, e19⟩ := exa_v n36
  obtain ⟨t20, e20⟩ := exa_v n45
  have hv : Arv s s.heap arr cl.cls (.object "com/example/typeflow/typeflow/classfile/ConstantKind") (21 : Int32) [.null, (.ref t1), .null, (.ref t3), (.ref t4), (.ref t5), (.ref t6), (.ref t7), (.ref t8), (.ref t9), (.ref t10), (.ref t11), (.ref t12), .null, .null, (.ref t15), (.ref t16), (.ref t17), (.ref t18), (.ref t19), (.ref t20)] .null := Arv.start hfit A hl.1 hl.2 (by decide) rfl ⟨own_elem ea A.1 n2 (by rfl) rfl, own_elem ea A.1 n27 e1 rfl, own_elem ea A.1 n19 (by rfl) rfl, own_elem ea A.1 n4 e3 rfl, own_elem ea A.1 n49 e4 rfl, own_elem ea A.1 n10 e5 rfl, own_elem ea A.1 n12 e6 rfl, own_elem ea A.1 n17 e7 rfl, own_elem ea A.1 n24 e8 rfl, own_elem ea A.1 n34 e9 rfl, own_elem ea A.1 n21 e10 rfl, own_elem ea A.1 n14 e11 rfl, own_elem ea A.1 n52 e12 rfl, own_elem ea A.1 n11 (by rfl) rfl, own_elem ea A.1 n29 (by rfl) rfl, own_elem ea A.1 n31 e15 rfl, own_elem ea A.1 n40 e16 rfl, own_elem ea A.1 n43 e17 rfl, own_elem ea A.1 n55 e18 rfl, own_elem ea A.1 n37 e19 rfl, own_elem ea A.1 n46 e20 rfl, trivial⟩
  obtain ⟨kk, hkk⟩ : ∃ z, z = cl.cls := ⟨_, rfl⟩
  rw [← hkk] at hv
  obtain ⟨n, o, h1, h2, h3, _, L, rfl, ⟨rfl, N⟩, hq⟩ := rm0 l s _ hw tables_1 i0 arr kk t1 t3 t4 t5 t6 t7 t8 t9 t10 t11 t12 t15 t16 t17 t18 t19 t20 s.heap s.heap.size (Nat.le_refl _) (Sta.start ea (Or.inr ⟨(hw _ (List.mem_of_getElem? (i := 3) rfl)), (hw _ (List.mem_of_getElem? (i := 6) rfl))⟩)) (Sta.start e5 (Or.inr ⟨(hw _ (List.mem_of_getElem? (i := 3) rfl)), (hw _ (List.mem_of_getElem? (i := 14) rfl))⟩)) (Sta.start e6 (Or.inr ⟨(hw _ (List.mem_of_getElem? (i := 3) rfl)), (hw _ (List.mem_of_getElem? (i := 16) rfl))⟩)) (Old.start s) hv (Exa.start e1 n26) (Exa.start e3 n3) (Exa.start e4 n48) (Exa.start e5 n5) (Exa.start e6 n8) (Exa.start e7 n16) (Exa.start e8 n23) (Exa.start e9 n33) (Exa.start e10 n20) (Exa.start e11 n13) (Exa.start e12 n51) (Exa.start e15 n30) (Exa.start e16 n39) (Exa.start e17 n42) (Exa.start e18 n54) (Exa.start e19 n36) (Exa.start e20 n45) (Fld.ne (own_fldi e6 n9) (own_fldi e5 n7) (fun q => absurd (Value.int.inj q) (by decide))) (Fld.ne (own_fldi e1 n28) (own_fldi e5 n7) (fun q => absurd (Value.int.inj q) (by decide))) (Fld.ne (own_fldi e1 n28) (own_fldi e6 n9) (fun q => absurd (Value.int.inj q) (by decide))) (Fld.ne (own_fldi e3 n6) (own_fldi e5 n7) (fun q => absurd (Value.int.inj q) (by decide))) (Fld.ne (own_fldi e3 n6) (own_fldi e6 n9) (fun q => absurd (Value.int.inj q) (by decide))) (Fld.ne (own_fldi e4 n50) (own_fldi e5 n7) (fun q => absurd (Value.int.inj q) (by decide))) (Fld.ne (own_fldi e4 n50) (own_fldi e6 n9) (fun q => absurd (Value.int.inj q) (by decide))) (Fld.ne (own_fldi e7 n18) (own_fldi e5 n7) (fun q => absurd (Value.int.inj q) (by decide))) (Fld.ne (own_fldi e7 n18) (own_fldi e6 n9) (fun q => absurd (Value.int.inj q) (by decide))) (Fld.ne (own_fldi e8 n25) (own_fldi e5 n7) (fun q => absurd (Value.int.inj q) (by decide))) (Fld.ne (own_fldi e8 n25) (own_fldi e6 n9) (fun q => absurd (Value.int.inj q) (by decide))) (Fld.ne (own_fldi e9 n35) (own_fldi e5 n7) (fun q => absurd (Value.int.inj q) (by decide))) (Fld.ne (own_fldi e9 n35) (own_fldi e6 n9) (fun q => absurd (Value.int.inj q) (by decide))) (Fld.ne (own_fldi e10 n22) (own_fldi e5 n7) (fun q => absurd (Value.int.inj q) (by decide))) (Fld.ne (own_fldi e10 n22) (own_fldi e6 n9) (fun q => absurd (Value.int.inj q) (by decide))) (Fld.ne (own_fldi e11 n15) (own_fldi e5 n7) (fun q => absurd (Value.int.inj q) (by decide))) (Fld.ne (own_fldi e11 n15) (own_fldi e6 n9) (fun q => absurd (Value.int.inj q) (by decide))) (Fld.ne (own_fldi e12 n53) (own_fldi e5 n7) (fun q => absurd (Value.int.inj q) (by decide))) (Fld.ne (own_fldi e12 n53) (own_fldi e6 n9) (fun q => absurd (Value.int.inj q) (by decide))) (Fld.ne (own_fldi e15 n32) (own_fldi e5 n7) (fun q => absurd (Value.int.inj q) (by decide))) (Fld.ne (own_fldi e15 n32) (own_fldi e6 n9) (fun q => absurd (Value.int.inj q) (by decide))) (Fld.ne (own_fldi e16 n41) (own_fldi e5 n7) (fun q => absurd (Value.int.inj q) (by decide))) (Fld.ne (own_fldi e16 n41) (own_fldi e6 n9) (fun q => absurd (Value.int.inj q) (by decide))) (Fld.ne (own_fldi e17 n44) (own_fldi e5 n7) (fun q => absurd (Value.int.inj q) (by decide))) (Fld.ne (own_fldi e17 n44) (own_fldi e6 n9) (fun q => absurd (Value.int.inj q) (by decide))) (Fld.ne (own_fldi e18 n56) (own_fldi e5 n7) (fun q => absurd (Value.int.inj q) (by decide))) (Fld.ne (own_fldi e18 n56) (own_fldi e6 n9) (fun q => absurd (Value.int.inj q) (by decide))) (Fld.ne (own_fldi e19 n38) (own_fldi e5 n7) (fun q => absurd (Value.int.inj q) (by decide))) (Fld.ne (own_fldi e19 n38) (own_fldi e6 n9) (fun q => absurd (Value.int.inj q) (by decide))) (Fld.ne (own_fldi e20 n47) (own_fldi e5 n7) (fun q => absurd (Value.int.inj q) (by decide))) (Fld.ne (own_fldi e20 n47) (own_fldi e6 n9) (fun q => absurd (Value.int.inj q) (by decide))) p e ha hc hk s m _ below hf ((Spec.applies_iff_loose hf).mp happ).1 ⟨rfl, State.Warmed39.refl s, rfl⟩ trivial
  refine ⟨n, _, h1, h2, h3, hpost _ _ _ _ _ _ ⟨Cond.after_iff.mpr rfl, Cond.after_iff.mpr (eq_i res_at (Term.int_eval (1)) rfl), trivial⟩ ⟨hq.1, hq.2.1, (hq.2.2.sift fun y hy => Or.inr (N y hy)).mono (by decide) (by decide)⟩⟩
theorem main_1_1 : Claimed_1_1 := comes_1 fun _ _ _ _ _ _ h hF => ⟨h.1, hF⟩
theorem main_1_2 : Claimed_1_2 := comes_1 fun _ _ _ _ _ _ h hF => ⟨h.2.1, hF⟩
end Jvm.Pilot.@@N@@
namespace Jvm.Pilot.@@N@@
open Jvm Jvm.ClassFile Sem Op Lib Jvm.Free Jvm.Stand Jvm.Pilot.@@N@@.Jvm.D
/-! MADE BY PROGRAM (witnessworld.py) out of the Statement's table words and the real class files: 13 classes; the members and pool entries that the words name. The judged class is class 1, her method 1. -/
namespace start1
open Jvm.ClassFile
def u (s : String) : CpInfo := .utf8 (stringToUtf16 s)
/-- a pool by its gaps: so many unusable entries, then the entry; so many at the end -/
def gap : Nat → List CpInfo → List CpInfo
  | 0, r => r
  | n + 1, r => .unusable :: gap n r
def poolList (es : List (Nat × CpInfo)) (last : Nat) : List CpInfo := es.foldr (fun e r => gap e.1 (e.2 :: r)) (gap last [])
def pool (es : List (Nat × CpInfo)) (last : Nat) : Array CpInfo := ⟨poolList es last⟩
def fileOf (pool : Array CpInfo) (this : Nat) (attrs : Array Attribute := #[]) (ms : Array MethodInfo := #[]) (fl : Nat := 33) (sup : Nat := 0) (ifs : Array Nat := #[]) (fds : Array FieldInfo := #[]) : ClassFile where
  minorVersion := 0
  majorVersion := 65
  constantPool := pool
  accessFlags := fl
  thisClass := this
  superClass := sup
  interfaces := ifs
  fields := fds
  methods := ms
  attributes := attrs
def plain (name : String) (sup : Option ClassId) : Class where
  name := name
  kind := .ordinary
  loader := none
  accessFlags := 33
  super := sup
  interfaces := #[]
  cf := none
  fields := #[]
  methods := #[]
  instanceTypes := #[]
  staticTypes := #[]
  resolved := #[]
  callSites := []
  init := .initialized
  statics := none
  mirror := none

def pool0 : Array CpInfo := pool [(5, u "<init>"), (0, u "()V"), (1, .class_ 10), (1, u "java/lang/Object")] 113

def k0m0 : Method := { name := "<init>", desc := "()V", sig := { parameters := [], returnType := none }, accessFlags := 1, code := none }
/-- java/lang/Object -/
def k0 : Class := { plain "java/lang/Object" none with
  accessFlags := 33
  interfaces := #[]
  cf := some (fileOf pool0 8 #[] #[{ accessFlags := 1, nameIndex := 5, descriptorIndex := 6, attributes := #[] }] 33 0 #[] #[])
  fields := #[]
  methods := #[k0m0]
  instanceTypes := #[]
  staticTypes := #[]
  resolved := Array.replicate 124 none
  statics := none }

def pool1 : Array CpInfo := pool [(2, .class_ 4), (1, u "java/lang/Object"), (0, u "<init>"), (0, u "()V"), (0, .integer 2147483647), (0, .methodref 9 10), (0, .class_ 11), (0, .nameAndType 12 13), (0, u "com/example/typeflow/typeflow/classfile/ConstantKind"), (0, u "ofTag"), (0, u "(I)Lcom/example/typeflow/typeflow/classfile/ConstantKind;"), (0, .methodref 9 15), (0, .nameAndType 16 17), (0, u "isTwoSlots"), (0, u "()Z"), (0, .class_ 19), (0, u "com/example/typeflow/typeflow/classfile/ConstantKindIsTwoSlotsPinLaw"), (2, u "law"), (0, u "(I)Z")] 3

def k1m0 : Method := { name := "<init>", desc := "()V", sig := { parameters := [], returnType := none }, accessFlags := 1, code := none }
def k1c1 : Code := { maxStack := 3, maxLocals := 3, code := code, exceptionTable := #[], attributes := #[] }
def k1m1 : Method := { name := "law", desc := "(I)Z", sig := { parameters := [.int], returnType := some .boolean }, accessFlags := 9, code := some k1c1 }
/-- com/example/typeflow/typeflow/classfile/ConstantKindIsTwoSlotsPinLaw -/
def k1 : Class := { plain "com/example/typeflow/typeflow/classfile/ConstantKindIsTwoSlotsPinLaw" (some 0) with
  accessFlags := 49
  interfaces := #[]
  cf := some (fileOf pool1 18 #[] #[{ accessFlags := 1, nameIndex := 5, descriptorIndex := 6, attributes := #[] }, { accessFlags := 9, nameIndex := 22, descriptorIndex := 23, attributes := #[] }] 49 2 #[] #[])
  fields := #[]
  methods := #[k1m0, k1m1]
  instanceTypes := #[]
  staticTypes := #[]
  resolved := Array.replicate 27 none
  statics := none }

def pool2 : Array CpInfo := pool [(1, .class_ 2), (0, u "java/lang/constant/Constable"), (0, .class_ 4), (0, u "java/lang/Object")] 6

/-- java/lang/constant/Constable -/
def k2 : Class := { plain "java/lang/constant/Constable" (some 0) with
  accessFlags := 1537
  interfaces := #[]
  cf := some (fileOf pool2 1 #[] #[] 1537 3 #[] #[])
  fields := #[]
  methods := #[]
  instanceTypes := #[]
  staticTypes := #[]
  resolved := Array.replicate 11 none
  statics := none }

def pool3 : Array CpInfo := pool [(1, .class_ 2), (0, u "java/lang/Comparable"), (0, .class_ 4), (0, u "java/lang/Object")] 7

/-- java/lang/Comparable -/
def k3 : Class := { plain "java/lang/Comparable" (some 0) with
  accessFlags := 1537
  interfaces := #[]
  cf := some (fileOf pool3 1 #[] #[] 1537 3 #[] #[])
  fields := #[]
  methods := #[]
  instanceTypes := #[]
  staticTypes := #[]
  resolved := Array.replicate 12 none
  statics := none }

def pool4 : Array CpInfo := pool [(1, .class_ 2), (0, u "java/io/Serializable"), (0, .class_ 4), (0, u "java/lang/Object")] 2

/-- java/io/Serializable -/
def k4 : Class := { plain "java/io/Serializable" (some 0) with
  accessFlags := 1537
  interfaces := #[]
  cf := some (fileOf pool4 1 #[] #[] 1537 3 #[] #[])
  fields := #[]
  methods := #[]
  instanceTypes := #[]
  staticTypes := #[]
  resolved := Array.replicate 7 none
  statics := none }

def pool5 : Array CpInfo := pool [(2, .class_ 4), (1, u "java/lang/Enum"), (0, u "name"), (0, u "Ljava/lang/String;"), (2, u "ordinal"), (0, u "I"), (1, .class_ 14), (1, u "java/lang/Object"), (4, u "hash"), (86, .class_ 108), (1, u "java/lang/Enum$EnumDesc"), (2, .class_ 112), (0, u "java/lang/constant/Constable"), (0, .class_ 114), (0, u "java/lang/Comparable"), (0, .class_ 116), (0, u "java/io/Serializable")] 87

/-- java/lang/Enum -/
def k5 : Class := { plain "java/lang/Enum" (some 0) with
  accessFlags := 1057
  interfaces := #[2, 3, 4]
  cf := some (fileOf pool5 2 #[.nestMembers #[106]] #[] 1057 12 #[111, 113, 115] #[{ accessFlags := 18, nameIndex := 5, descriptorIndex := 6, attributes := #[] }, { accessFlags := 18, nameIndex := 9, descriptorIndex := 10, attributes := #[] }, { accessFlags := 2, nameIndex := 19, descriptorIndex := 10, attributes := #[] }])
  fields := #[{ name := "name", type := (.object "java/lang/String"), accessFlags := 18, slot := 0, constantValue := 0 }, { name := "ordinal", type := .int, accessFlags := 18, slot := 1, constantValue := 0 }, { name := "hash", type := .int, accessFlags := 2, slot := 2, constantValue := 0 }]
  methods := #[]
  instanceTypes := #[(.object "java/lang/String"), .int, .int]
  staticTypes := #[]
  resolved := Array.replicate 204 none
  statics := none }

def pool6 : Array CpInfo := pool [(1, .class_ 2), (0, u "com/example/typeflow/typeflow/classfile/ConstantKind"), (2, u "UTF8"), (0, u "Lcom/example/typeflow/typeflow/classfile/ConstantKind;"), (2, u "INTEGER"), (2, u "FLOAT"), (0, .fieldref 1 14), (0, .nameAndType 15 6), (0, u "LONG"), (0, .fieldref 1 17), (0, .nameAndType 18 6), (0, u "DOUBLE"), (2, u "CLASS"), (2, u "STRING"), (2, u "FIELDREF"), (2, u "METHODREF"), (2, u "INTERFACE_METHODREF"), (2, u "NAME_AND_TYPE"), (2, u "METHOD_HANDLE"), (2, u "METHOD_TYPE"), (2, u "DYNAMIC"), (2, u "INVOKE_DYNAMIC"), (2, u "MODULE"), (2, u "PACKAGE"), (2, u "$VALUES"), (0, u "[Lcom/example/typeflow/typeflow/classfile/ConstantKind;"), (6, .class_ 67), (1, u "java/lang/Enum"), (8, u "tag"), (0, u "I"), (2, u "specName"), (0, u "Ljava/lang/String;"), (2, u "firstMajor"), (2, u "firstLoadableMajor"), (0, .fieldref 1 89), (0, .nameAndType 90 58), (0, u "BY_TAG"), (73, u "ofTag"), (0, u "(I)Lcom/example/typeflow/typeflow/classfile/ConstantKind;"), (1, u "isTwoSlots"), (0, u "()Z")] 9

def k6c0 : Code := { maxStack := 2, maxLocals := 1, code := prog_59_method_4_code, exceptionTable := #[], attributes := #[] }
def k6m0 : Method := { name := "ofTag", desc := "(I)Lcom/example/typeflow/typeflow/classfile/ConstantKind;", sig := { parameters := [.int], returnType := some (.object "com/example/typeflow/typeflow/classfile/ConstantKind") }, accessFlags := 8, code := some k6c0 }
def k6c1 : Code := { maxStack := 2, maxLocals := 1, code := prog_59_method_6_code, exceptionTable := #[], attributes := #[] }
def k6m1 : Method := { name := "isTwoSlots", desc := "()Z", sig := { parameters := [], returnType := some .boolean }, accessFlags := 1, code := some k6c1 }
/-- com/example/typeflow/typeflow/classfile/ConstantKind -/
def k6 : Class := { plain "com/example/typeflow/typeflow/classfile/ConstantKind" (some 5) with
  accessFlags := 16433
  interfaces := #[]
  cf := some (fileOf pool6 1 #[] #[{ accessFlags := 8, nameIndex := 164, descriptorIndex := 165, attributes := #[] }, { accessFlags := 1, nameIndex := 167, descriptorIndex := 168, attributes := #[] }] 16433 65 #[] #[{ accessFlags := 16409, nameIndex := 5, descriptorIndex := 6, attributes := #[] }, { accessFlags := 16409, nameIndex := 9, descriptorIndex := 6, attributes := #[] }, { accessFlags := 16409, nameIndex := 12, descriptorIndex := 6, attributes := #[] }, { accessFlags := 16409, nameIndex := 15, descriptorIndex := 6, attributes := #[] }, { accessFlags := 16409, nameIndex := 18, descriptorIndex := 6, attributes := #[] }, { accessFlags := 16409, nameIndex := 21, descriptorIndex := 6, attributes := #[] }, { accessFlags := 16409, nameIndex := 24, descriptorIndex := 6, attributes := #[] }, { accessFlags := 16409, nameIndex := 27, descriptorIndex := 6, attributes := #[] }, { accessFlags := 16409, nameIndex := 30, descriptorIndex := 6, attributes := #[] }, { accessFlags := 16409, nameIndex := 33, descriptorIndex := 6, attributes := #[] }, { accessFlags := 16409, nameIndex := 36, descriptorIndex := 6, attributes := #[] }, { accessFlags := 16409, nameIndex := 39, descriptorIndex := 6, attributes := #[] }, { accessFlags := 16409, nameIndex := 42, descriptorIndex := 6, attributes := #[] }, { accessFlags := 16409, nameIndex := 45, descriptorIndex := 6, attributes := #[] }, { accessFlags := 16409, nameIndex := 48, descriptorIndex := 6, attributes := #[] }, { accessFlags := 16409, nameIndex := 51, descriptorIndex := 6, attributes := #[] }, { accessFlags := 16409, nameIndex := 54, descriptorIndex := 6, attributes := #[] }, { accessFlags := 26, nameIndex := 90, descriptorIndex := 58, attributes := #[] }, { accessFlags := 18, nameIndex := 76, descriptorIndex := 77, attributes := #[] }, { accessFlags := 18, nameIndex := 80, descriptorIndex := 81, attributes := #[] }, { accessFlags := 18, nameIndex := 84, descriptorIndex := 77, attributes := #[] }, { accessFlags := 18, nameIndex := 87, descriptorIndex := 77, attributes := #[] }, { accessFlags := 4122, nameIndex := 57, descriptorIndex := 58, attributes := #[] }])
  fields := #[{ name := "UTF8", type := (.object "com/example/typeflow/typeflow/classfile/ConstantKind"), accessFlags := 16409, slot := 0, constantValue := 0 }, { name := "INTEGER", type := (.object "com/example/typeflow/typeflow/classfile/ConstantKind"), accessFlags := 16409, slot := 1, constantValue := 0 }, { name := "FLOAT", type := (.object "com/example/typeflow/typeflow/classfile/ConstantKind"), accessFlags := 16409, slot := 2, constantValue := 0 }, { name := "LONG", type := (.object "com/example/typeflow/typeflow/classfile/ConstantKind"), accessFlags := 16409, slot := 3, constantValue := 0 }, { name := "DOUBLE", type := (.object "com/example/typeflow/typeflow/classfile/ConstantKind"), accessFlags := 16409, slot := 4, constantValue := 0 }, { name := "CLASS", type := (.object "com/example/typeflow/typeflow/classfile/ConstantKind"), accessFlags := 16409, slot := 5, constantValue := 0 }, { name := "STRING", type := (.object "com/example/typeflow/typeflow/classfile/ConstantKind"), accessFlags := 16409, slot := 6, constantValue := 0 }, { name := "FIELDREF", type := (.object "com/example/typeflow/typeflow/classfile/ConstantKind"), accessFlags := 16409, slot := 7, constantValue := 0 }, { name := "METHODREF", type := (.object "com/example/typeflow/typeflow/classfile/ConstantKind"), accessFlags := 16409, slot := 8, constantValue := 0 }, { name := "INTERFACE_METHODREF", type := (.object "com/example/typeflow/typeflow/classfile/ConstantKind"), accessFlags := 16409, slot := 9, constantValue := 0 }, { name := "NAME_AND_TYPE", type := (.object "com/example/typeflow/typeflow/classfile/ConstantKind"), accessFlags := 16409, slot := 10, constantValue := 0 }, { name := "METHOD_HANDLE", type := (.object "com/example/typeflow/typeflow/classfile/ConstantKind"), accessFlags := 16409, slot := 11, constantValue := 0 }, { name := "METHOD_TYPE", type := (.object "com/example/typeflow/typeflow/classfile/ConstantKind"), accessFlags := 16409, slot := 12, constantValue := 0 }, { name := "DYNAMIC", type := (.object "com/example/typeflow/typeflow/classfile/ConstantKind"), accessFlags := 16409, slot := 13, constantValue := 0 }, { name := "INVOKE_DYNAMIC", type := (.object "com/example/typeflow/typeflow/classfile/ConstantKind"), accessFlags := 16409, slot := 14, constantValue := 0 }, { name := "MODULE", type := (.object "com/example/typeflow/typeflow/classfile/ConstantKind"), accessFlags := 16409, slot := 15, constantValue := 0 }, { name := "PACKAGE", type := (.object "com/example/typeflow/typeflow/classfile/ConstantKind"), accessFlags := 16409, slot := 16, constantValue := 0 }, { name := "BY_TAG", type := (.array (.object "com/example/typeflow/typeflow/classfile/ConstantKind")), accessFlags := 26, slot := 17, constantValue := 0 }, { name := "tag", type := .int, accessFlags := 18, slot := 3, constantValue := 0 }, { name := "specName", type := (.object "java/lang/String"), accessFlags := 18, slot := 4, constantValue := 0 }, { name := "firstMajor", type := .int, accessFlags := 18, slot := 5, constantValue := 0 }, { name := "firstLoadableMajor", type := .int, accessFlags := 18, slot := 6, constantValue := 0 }, { name := "$VALUES", type := (.array (.object "com/example/typeflow/typeflow/classfile/ConstantKind")), accessFlags := 4122, slot := 18, constantValue := 0 }]
  methods := #[k6m0, k6m1]
  instanceTypes := #[(.object "java/lang/String"), .int, .int, .int, (.object "java/lang/String"), .int, .int]
  staticTypes := #[(.object "com/example/typeflow/typeflow/classfile/ConstantKind"), (.object "com/example/typeflow/typeflow/classfile/ConstantKind"), (.object "com/example/typeflow/typeflow/classfile/ConstantKind"), (.object "com/example/typeflow/typeflow/classfile/ConstantKind"), (.object "com/example/typeflow/typeflow/classfile/ConstantKind"), (.object "com/example/typeflow/typeflow/classfile/ConstantKind"), (.object "com/example/typeflow/typeflow/classfile/ConstantKind"), (.object "com/example/typeflow/typeflow/classfile/ConstantKind"), (.object "com/example/typeflow/typeflow/classfile/ConstantKind"), (.object "com/example/typeflow/typeflow/classfile/ConstantKind"), (.object "com/example/typeflow/typeflow/classfile/ConstantKind"), (.object "com/example/typeflow/typeflow/classfile/ConstantKind"), (.object "com/example/typeflow/typeflow/classfile/ConstantKind"), (.object "com/example/typeflow/typeflow/classfile/ConstantKind"), (.object "com/example/typeflow/typeflow/classfile/ConstantKind"), (.object "com/example/typeflow/typeflow/classfile/ConstantKind"), (.object "com/example/typeflow/typeflow/classfile/ConstantKind"), (.array (.object "com/example/typeflow/typeflow/classfile/ConstantKind")), (.array (.object "com/example/typeflow/typeflow/classfile/ConstantKind"))]
  resolved := Array.replicate 178 none
  statics := some 0 }

def pool7 : Array CpInfo := pool [(1, u "java/lang/Cloneable"), (0, .class_ 1), (0, u "java/lang/Object"), (0, .class_ 3)] 3

/-- java/lang/Cloneable -/
def k7 : Class := { plain "java/lang/Cloneable" (some 0) with
  accessFlags := 1537
  interfaces := #[]
  cf := some (fileOf pool7 2 #[] #[] 1537 4 #[] #[])
  fields := #[]
  methods := #[]
  instanceTypes := #[]
  staticTypes := #[]
  resolved := Array.replicate 8 none
  statics := none }

/-- the primitive byte -/
def k8 : Class := { plain "byte" none with kind := .primitive 'B', accessFlags := 0x411 }
/-- [B -/
def k9 : Class := { plain "[B" (some 0) with kind := .array 8 .byte, interfaces := #[7, 4], accessFlags := 1041 }

/-- the primitive int -/
def k10 : Class := { plain "int" none with kind := .primitive 'I', accessFlags := 0x411 }
/-- [I -/
def k11 : Class := { plain "[I" (some 0) with kind := .array 10 .int, interfaces := #[7, 4], accessFlags := 1041 }

/-- [Lcom/example/typeflow/typeflow/classfile/ConstantKind; -/
def k12 : Class := { plain "[Lcom/example/typeflow/typeflow/classfile/ConstantKind;" (some 0) with kind := .array 6 (.object "com/example/typeflow/typeflow/classfile/ConstantKind"), interfaces := #[7, 4], accessFlags := 1041 }

def heap : Heap := #[{ cls := 6, slots := #[.ref 2, .ref 3, .ref 4, .ref 5, .ref 6, .ref 7, .ref 8, .ref 9, .ref 10, .ref 11, .ref 12, .ref 13, .ref 14, .ref 15, .ref 16, .ref 17, .ref 18, .ref 1, .null], vm := .statics 6 },
  { cls := 12, slots := #[.null, .ref 2, .null, .ref 3, .ref 4, .ref 5, .ref 6, .ref 7, .ref 8, .ref 9, .ref 10, .ref 11, .ref 12, .null, .null, .ref 13, .ref 14, .ref 15, .ref 16, .ref 17, .ref 18], vm := .none },
  { cls := 6, slots := #[.null, .int 0, .int 0, .int 0, .null, .int 0, .int 0], vm := .none },
  { cls := 6, slots := #[.null, .int 1, .int 0, .int 0, .null, .int 0, .int 0], vm := .none },
  { cls := 6, slots := #[.null, .int 2, .int 0, .int 0, .null, .int 0, .int 0], vm := .none },
  { cls := 6, slots := #[.null, .int 3, .int 0, .int 0, .null, .int 0, .int 0], vm := .none },
  { cls := 6, slots := #[.null, .int 4, .int 0, .int 0, .null, .int 0, .int 0], vm := .none },
  { cls := 6, slots := #[.null, .int 5, .int 0, .int 0, .null, .int 0, .int 0], vm := .none },
  { cls := 6, slots := #[.null, .int 6, .int 0, .int 0, .null, .int 0, .int 0], vm := .none },
  { cls := 6, slots := #[.null, .int 7, .int 0, .int 0, .null, .int 0, .int 0], vm := .none },
  { cls := 6, slots := #[.null, .int 8, .int 0, .int 0, .null, .int 0, .int 0], vm := .none },
  { cls := 6, slots := #[.null, .int 9, .int 0, .int 0, .null, .int 0, .int 0], vm := .none },
  { cls := 6, slots := #[.null, .int 10, .int 0, .int 0, .null, .int 0, .int 0], vm := .none },
  { cls := 6, slots := #[.null, .int 11, .int 0, .int 0, .null, .int 0, .int 0], vm := .none },
  { cls := 6, slots := #[.null, .int 12, .int 0, .int 0, .null, .int 0, .int 0], vm := .none },
  { cls := 6, slots := #[.null, .int 13, .int 0, .int 0, .null, .int 0, .int 0], vm := .none },
  { cls := 6, slots := #[.null, .int 14, .int 0, .int 0, .null, .int 0, .int 0], vm := .none },
  { cls := 6, slots := #[.null, .int 15, .int 0, .int 0, .null, .int 0, .int 0], vm := .none },
  { cls := 6, slots := #[.null, .int 16, .int 0, .int 0, .null, .int 0, .int 0], vm := .none }]
def classes : Array Class := #[k0, k1, k2, k3, k4, k5, k6, k7, k8, k9, k10, k11, k12]
def interned : List (Array UInt16 × Addr) := []
def slotsUsed : Nat := 159
def theMethod : MethodId := ⟨1, 1⟩
def args0 : Array Value := #[.int 5]
def aboutOver (below : List Frame) : State where
  vm := { classes := classes, interned := interned.toArray }
  heap := heap
  slotsUsed := slotsUsed
  threads := #[{ frames := .invoking theMethod args0 :: below }]
def below0 : List Frame := [.native { method := ⟨0, 0⟩, args := #[] }]
def about1 : State := aboutOver below0
def p0 : Program := .bare "" "" ""
def e0 : Env := launch0.env 0 0 0
theorem w_frames : about1.frames = Frame.invoking theMethod args0 :: below0 := rfl
set_option maxRecDepth 65536 in
theorem w_args : argsFit about1.vm theMethod args0 = true := by decide +kernel
set_option maxRecDepth 65536 in
theorem w_heap : heapFits about1 = true := by decide +kernel
set_option maxRecDepth 65536 in
theorem w_runnable : about1.curStatus? = some .runnable := by decide +kernel
set_option maxRecDepth 65536 in
theorem w_alone : about1.alone = true := by decide +kernel
set_option maxRecDepth 65536 in
theorem w_named : about1.methodNamed? x = some theMethod := by decide +kernel
set_option maxRecDepth 65536 in
theorem w_hears : about1.hears theMethod below0 = true := by decide +kernel
set_option maxRecDepth 65536 in
theorem w_ripe : about1.ripe theMethod args0 below0 = true := by decide +kernel
theorem w_running : about1.status = .running := rfl
set_option maxRecDepth 65536 in
theorem w_room : about1.hasRoom e0.platform room_1 = true :=
  launch0.hasRoom_least _ room_1 (by decide +kernel) (by decide +kernel) (by decide +kernel) (by decide +kernel) (by decide +kernel) (by decide +kernel)
theorem allAtoms_all (ts : List Jvm.Cond) (a : Array Jvm.Value) (st : Jvm.State) : (allAtoms ts).before a st = ts.all (fun c => c.before a st) := by
  induction ts with
  | nil => rfl
  | cons c t ih =>
    show (Jvm.Cond.and c (allAtoms t)).before a st = _
    rw [Jvm.Cond.before_and, ih, List.all_cons]
def words1 : List Jvm.Cond := Jvm.Cond.code x code maxLocals ret :: tables_1
/-- a 'code' word, met by the world's own term for the bytes: nothing is compared byte by byte -/
theorem code_word {y : MethodName} {bytes : ByteArray} {mx : Nat} {rt : Option FieldType} {a : Array Value} {s : State} {m : MethodId} {meth : Method} {c : Code} (h1 : s.methodNamed? y = some m) (h2 : s.vm.method? m = some meth) (h3 : meth.code = some c) (h4 : c.code = bytes)
    (h5 : (c.maxLocals == mx && c.exceptionTable.isEmpty && decide (c.maxStack ≤ mostOperands) && decide (meth.sig.returnType = rt) && !meth.locks && decide (parseMethodDescriptor y.desc = some meth.sig)) = true) : (Jvm.Cond.code y bytes mx rt).before a s = true := by
  simp only [Bool.and_eq_true, beq_iff_eq, Bool.not_eq_true', decide_eq_true_eq] at h5
  obtain ⟨⟨⟨⟨⟨g1, g2⟩, g3⟩, g4⟩, g5⟩, g6⟩ := h5
  simp [Cond.before, Cond.holds, Cond.value, h1, h2, h3, h4, g1, g2, g3, g4, g5, g6]
def isCode : Jvm.Cond → Bool
  | .code _ _ _ _ => true
  | _ => false
theorem all_split {L : List Jvm.Cond} {P : Jvm.Cond → Bool} (h1 : L.all (fun c => isCode c || P c) = true) (h2 : ∀ c ∈ L.filter isCode, P c = true) : L.all P = true := by
  refine List.all_eq_true.mpr fun c hc => ?_
  have h := List.all_eq_true.mp h1 c hc
  rcases Bool.eq_false_or_eq_true (isCode c) with hi | hi
  · exact h2 c (List.mem_filter.mpr ⟨hc, hi⟩)
  · simpa [hi] using h
set_option maxRecDepth 65536 in
theorem w_c0 : (Jvm.Cond.code x code maxLocals ret).before args0 about1 = true := code_word (m := ⟨1, 1⟩) (meth := k1m1) (c := k1c1) (by decide +kernel) rfl rfl rfl (by decide +kernel)
set_option maxRecDepth 65536 in
theorem w_c1 : (Jvm.Cond.code ({ cls := "com/example/typeflow/typeflow/classfile/ConstantKind", name := "ofTag", desc := "(I)Lcom/example/typeflow/typeflow/classfile/ConstantKind;" } : Jvm.MethodName) prog_59_method_4_code (1 : Nat) (Option.some (Jvm.ClassFile.FieldType.object "com/example/typeflow/typeflow/classfile/ConstantKind"))).before args0 about1 = true := code_word (m := ⟨6, 0⟩) (meth := k6m0) (c := k6c0) (by decide +kernel) rfl rfl rfl (by decide +kernel)
set_option maxRecDepth 65536 in
theorem w_c2 : (Jvm.Cond.code ({ cls := "com/example/typeflow/typeflow/classfile/ConstantKind", name := "isTwoSlots", desc := "()Z" } : Jvm.MethodName) prog_59_method_6_code (1 : Nat) (Option.some Jvm.ClassFile.FieldType.boolean)).before args0 about1 = true := code_word (m := ⟨6, 1⟩) (meth := k6m1) (c := k6c1) (by decide +kernel) rfl rfl rfl (by decide +kernel)
def codes1 : List Jvm.Cond := [Jvm.Cond.code x code maxLocals ret, Jvm.Cond.code ({ cls := "com/example/typeflow/typeflow/classfile/ConstantKind", name := "ofTag", desc := "(I)Lcom/example/typeflow/typeflow/classfile/ConstantKind;" } : Jvm.MethodName) prog_59_method_4_code (1 : Nat) (Option.some (Jvm.ClassFile.FieldType.object "com/example/typeflow/typeflow/classfile/ConstantKind")), Jvm.Cond.code ({ cls := "com/example/typeflow/typeflow/classfile/ConstantKind", name := "isTwoSlots", desc := "()Z" } : Jvm.MethodName) prog_59_method_6_code (1 : Nat) (Option.some Jvm.ClassFile.FieldType.boolean)]
set_option maxRecDepth 65536 in
theorem codes_eq : words1.filter isCode = codes1 := rfl
theorem w_codes : ∀ c ∈ words1.filter isCode, c.before args0 about1 = true := by
  rw [codes_eq]
  intro c hc
  simp only [codes1, List.mem_cons, List.not_mem_nil, or_false] at hc
  rcases hc with rfl | rfl | rfl
  · exact w_c0
  · exact w_c1
  · exact w_c2
set_option maxRecDepth 65536 in
theorem w_t1 : (words1.take 24).all (fun c => isCode c || c.before args0 about1) = true := by decide +kernel
set_option maxRecDepth 65536 in
theorem w_t2 : (words1.drop 24).all (fun c => isCode c || c.before args0 about1) = true := by decide +kernel
theorem w_tables : (allAtoms (Jvm.Cond.code x code maxLocals ret :: tables_1)).before args0 about1 = true := by
  rw [allAtoms_all]
  show words1.all (fun c => c.before args0 about1) = true
  refine all_split ?_ w_codes
  rw [← List.take_append_drop 24 words1, List.all_append, w_t1, w_t2]
  rfl
set_option maxRecDepth 65536 in
theorem w_case : (Jvm.Cond.and given_1 narrow_1).before args0 about1 = true := by decide +kernel
theorem w_applies : (headSpec (Jvm.Cond.code x code maxLocals ret :: tables_1) room_1).applies x e0.platform about1 = true :=
  (Spec.applies_iff w_frames).mpr ⟨w_running, w_runnable, w_alone, w_named, w_hears, w_ripe, w_room, w_tables⟩
theorem atStart : AtStart classFile x code maxLocals ret World_1 tables_1 room_1 Calls_1 rest_1 Pre_1 launch0 p0 e0 about1 theMethod args0 below0 :=
  ⟨lists_1, trivial, launch0.admits_env _ _ _, launch0.least_env, fairChoices_fair.cas, fairChoices_fair.clock, w_frames, w_args, w_heap, w_applies, trivial, trivial, w_case⟩
end start1
theorem witness_1 : WitnessClaimed_1 := ⟨start1.p0, start1.e0, start1.about1, start1.theMethod, start1.args0, start1.below0, start1.atStart⟩
end Jvm.Pilot.@@N@@
