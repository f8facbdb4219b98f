import JvmDerived
import JvmDerived.Pilot.@@N@@Statement
import JvmDerived.Pilot.@@N@@Code
set_option linter.unusedVariables false
set_option linter.unusedSimpArgs false
namespace Jvm.Pilot.@@N@@
open Jvm Jvm.ClassFile Sem Op Lib Jvm.Free Jvm.Stand Jvm.LawKit Jvm.RoadKit Bundle Jvm.Pilot.@@N@@.Jvm.D
/-- from S the run comes to a state that P allows -/
def Comes (p : Program) (e : Env) (below : List Frame) (P : State → Prop) (S : State) : Prop := ∃ S', Steps p.tables e below S S' ∧ P S'
/-- how a body ends that Q allows -/
def EndsAt (below : List Frame) (s : State) (Q : Option Value → Heap → List Loc → Prop) (kc ks : Nat) (s₂ : State) : Prop := ∃ o, s₂.status = .running ∧ Ended s₂ below o ∧ ∃ v L, o = .returned v ∧ Q v s₂.heap L ∧ FrameEnd s o s₂ L kc ks
section Own
variable {p : Program} {l : Launch} {e : Env} {R : Room} {s : State} {m : MethodId} {args : Array Value} {below : List Frame} {meth : Method} {c : Code} {T : State} {locs : List Loc} {cells slots : Nat} {Q : Option Value → Heap → List Loc → Prop} {kc ks : Nat} {P : State → Prop} {S S' : State} {h : Heap}
theorem Comes.here (q : P S) : Comes p e below P S := ⟨S, Steps.refl _, q⟩
theorem Comes.st (f : ∀ t, Steps p.tables e below S' t → Steps p.tables e below S t) (g : Comes p e below P S') : Comes p e below P S := by
  obtain ⟨s₂, h1, r⟩ := g; exact ⟨s₂, f _ h1, r⟩
theorem Comes.go (f : Steps p.tables e below S S') (g : Comes p e below P S') : Comes p e below P S := by
  obtain ⟨s₂, h1, r⟩ := g; exact ⟨s₂, f.trans h1, r⟩
theorem Comes.cast {g g' : JFrame} (q : g = g') (k : Comes p e below P (T.setTop g')) : Comes p e below P (T.setTop g) := q ▸ k
theorem Comes.out (h : Comes p e below (EndsAt below s Q kc ks) S) : ∃ s₂ o, Steps p.tables e below S s₂ ∧ s₂.status = .running ∧ Ended s₂ below o ∧ ∃ v L, o = .returned v ∧ Q v s₂.heap L ∧ FrameEnd s o s₂ L kc ks := by
  obtain ⟨s₂, h1, o, r⟩ := h; exact ⟨s₂, o, h1, r⟩
theorem Comes.fin (X : Stand p l e R s m args below meth c T locs cells slots) {v : Option Value} (hv : meth.sig.returnType = none → v = none) (hlk : meth.locks = false)
    (hs : ∀ fs, (∀ (f : JFrame) (acts : List Action), f.method = m → f.locked = none → f.entered = [] → (doReturn e (T.setTop f) acts v).1 = T.setFrames fs) → Steps p.tables e below S (T.setFrames fs))
    (eT : T.heap = h) (hq : Q v h locs) (hc : cells ≤ kc) (hl : slots ≤ ks) : Comes p e below (EndsAt below s Q kc ks) S := by
  obtain ⟨fs, hr, hrun, hended, hW, hsame⟩ := X.leave (v := v) hv hlk
  exact ⟨_, hs fs hr, _, hrun, hended, _, _, rfl, (show Q v T.heap locs from by rw [eT]; exact hq), ⟨_, rfl⟩, hW, hsame.mono hc hl⟩
theorem Comes.ret0 (X : Stand p l e R s m args below meth c T locs cells slots) (hx : p.tables.exec = Jvm.exec) {pc : Nat} {Ls : Array Slot} (hret : meth.sig.returnType = none) (hlk : meth.locks = false) (hd : decode c.code pc = .ok (.return_, 1))
    (eT : T.heap = h) (hq : Q none h locs) (hc : cells ≤ kc) (hl : slots ≤ ks) : Comes p e below (EndsAt below s Q kc ks) (T.setTop (mkF m pc Ls [])) :=
  Comes.fin X (fun _ => rfl) hlk (fun _ hr => X.returnOut hx hret hd hr) eT hq hc hl
theorem Comes.retN (X : Stand p l e R s m args below meth c T locs cells slots) (hx : p.tables.exec = Jvm.exec) {pc : Nat} {Ls : Array Slot} {z : Int32} {t : FieldType} {rest : List Value} (hret : meth.sig.returnType = some t) (ht : t = .boolean ∨ t = .byte ∨ t = .char ∨ t = .short) (hlk : meth.locks = false) (hd : decode c.code pc = .ok (.ireturn, 1))
    (eT : T.heap = h) (hq : Q (some (.int (nar t z))) h locs) (hc : cells ≤ kc) (hl : slots ≤ ks) : Comes p e below (EndsAt below s Q kc ks) (T.setTop (mkF m pc Ls (.int z :: rest))) :=
  Comes.fin X (fun q => by rw [hret] at q; cases q) hlk (fun _ hr => Jvm.RoadKit.retN X hx hret ht hd hr) eT hq hc hl
theorem Comes.retV (X : Stand p l e R s m args below meth c T locs cells slots) (hx : p.tables.exec = Jvm.exec) {pc : Nat} {Ls : Array Slot} {w : Value} {t : FieldType} {i : Instr} {rest : List Value} (hret : meth.sig.returnType = some t) (hn : narrow t w = w)
    (hi : (i = .ireturn ∧ (t = .int ∨ t = .boolean ∨ t = .byte ∨ t = .char ∨ t = .short) ∧ ∃ z, w = .int z) ∨ (i = .lreturn ∧ t = .long ∧ ∃ z, w = .long z) ∨ (i = .dreturn ∧ t = .double ∧ ∃ z, w = .double z) ∨ (i = .freturn ∧ t = .float ∧ ∃ z, w = .float z) ∨ (i = .areturn ∧ t.isReference = true ∧ w.isRef = true))
    (hlk : meth.locks = false) (hd : decode c.code pc = .ok (i, 1))
    (eT : T.heap = h) (hq : Q (some w) h locs) (hc : cells ≤ kc) (hl : slots ≤ ks) : Comes p e below (EndsAt below s Q kc ks) (T.setTop (mkF m pc Ls (w :: rest))) :=
  Comes.fin X (fun q => by rw [hret] at q; cases q) hlk (fun _ hr => retOut X hx hret hn hi hd hr) eT hq hc hl
theorem narrow_ref {t : FieldType} {w : Value} (h : w.isRef = true) : narrow t w = w := by rcases ref_cases h with rfl | ⟨y, rfl⟩ <;> cases t <;> rfl
theorem lremM {g : JFrame} {target : State} (X : Stand p l e R s m args below meth c T locs cells slots) (hx : p.tables.exec = Jvm.exec) (hg : g.method = m) {x y : Int64} {rest : List Value} (hd : decode c.code g.pc = .ok (.lrem, 1)) (hs : g.stack = .long y :: .long x :: rest) (hy : ¬ y = 0)
    (hr : Steps p.tables e below (T.setTop { g with pc := g.pc + 1, stack := .long (x % y) :: rest }) target) : Steps p.tables e below (T.setTop g) target := by
  have q : x - x / y * y = x % y := lrem_mod x y
  exact XT.lrem X.here hx hg hd hs hy (by rw [q]; exact hr)
theorem own_lrem (x y : Int64) (d : Int) (hy : y.toInt = d) : (0 ≤ x.toInt → (x % y).toInt = x.toInt % d) ∧ (x.toInt < 0 → (x % y).toInt = -((-x.toInt) % d)) := by rw [Int64.toInt_mod, hy]; exact tr _ _
theorem own_lremV (x y : Int64) : 0 ≤ x.toInt → 0 < y.toInt → 0 ≤ (x % y).toInt ∧ (x % y).toInt < y.toInt := by
  intro h1 h2
  rw [Int64.toInt_mod, Int.tmod_eq_emod_of_nonneg h1]
  exact ⟨Int.emod_nonneg _ (by omega), Int.emod_lt_of_pos _ h2⟩
theorem own_eqi {a0 : Array Value} {Z : State} {t : Term} {k : Int32} {idx : List Nat} (h : (Jvm.Cond.eq t (Term.int k)).value a0 Z none Z idx = some true) : t.eval a0 Z none idx Z = some (.int k) := by
  obtain ⟨x, y, e1, e2, k1, k2⟩ := cmp_v (Or.inl h)
  simp only [Term.eval, Option.some.injEq] at e2
  subst e2
  obtain ⟨z, rfl⟩ := k2
  simp [Cond.value, e1, Term.eval] at h
  rw [e1, h]
theorem own_selp {a0 : Array Value} {Z : State} {y : MethodName} {n : Nat} (wi : (Jvm.Cond.instantiable y.cls n).before a0 Z = true) (wp : (Jvm.Cond.privateMethod y).before a0 Z = true) (wm : (Jvm.Cond.instanceMethod y).before a0 Z = true) (hy : y.cls ≠ "java/lang/invoke/MethodHandle" ∧ y.cls ≠ "java/lang/invoke/VarHandle") : (Jvm.Cond.selects y.cls y y).before a0 Z = true := by
  obtain ⟨c, k, h1, h2, h3, h4, -⟩ := Cond.instantiable_spec wi
  exact Jvm.Stand.selects_self_of_private h1 h2 (by simp only [Bool.or_eq_false_iff] at h4; exact h4.1) (Cond.privateMethod_at wp) wm hy
theorem own_eqr {a0 : Array Value} {Z : State} {t u : Term} {y : Value} {idx : List Nat} (h : (Jvm.Cond.eq t u).value a0 Z none Z idx = some true) (hu : u.eval a0 Z none idx Z = some y) (hy : y.isRef = true) : t.eval a0 Z none idx Z = some y := by
  obtain ⟨x, y', e1, e2, k1, k2⟩ := cmp_v (Or.inl h)
  cases hu.symm.trans e2
  have hx : x.isRef = true := by
    rcases ref_cases hy with rfl | ⟨z, rfl⟩ <;> cases x <;> simp_all [Kin, Value.isRef]
  rw [e1, gotT (eq_R e1 hu hx hy) h]
theorem own_len {a0 : Array Value} {Z : State} {t : Term} {a : Addr} {cl : Cell} {ty : FieldType} {k : Int32} (ht : t.eval a0 Z none [] Z = some (.ref a)) (A : Arr Z Z.heap a cl ty) (h : (Jvm.Cond.eq (Term.length t) (Term.int k)).value a0 Z none Z [] = some true) : cl.slots.size < 2 ^ 31 ∧ cl.slots.size.toInt32 = k := by
  have e := own_eqi h
  have e2 := A.fin (Vm.Alike.refl _)
  simp [Term.eval, ht, e2] at e
  exact ⟨by omega, e.2⟩
theorem own_elem {a0 : Array Value} {Z : State} {t u : Term} {a : Addr} {cl : Cell} {j : Int32} {y : Value} (ht : t.eval a0 Z none [] Z = some (.ref a)) (hc : Z.heap[a]? = some cl) (h : (Jvm.Cond.eq (Term.elem t (Term.int j)) u).value a0 Z none Z [] = some true) (hu : u.eval a0 Z none [] Z = some y) (hy : y.isRef = true) : cl.slots[j.toNatClampNeg]? = some y := (elem_in (own_eqr h hu hy) ht (by rfl) hc).2
theorem own_fldi {a0 : Array Value} {Z : State} {t : Term} {k : Int32} {a : Addr} {C n d : String} (ht : t.eval a0 Z none [] Z = some (.ref a)) (h : (Jvm.Cond.eq (Term.field t C n d) (Term.int k)).value a0 Z none Z [] = some true) : Fld Z Z.heap a C n d (.int k) := Fld.start ((fld_at ht).symm.trans (own_eqi h))
end Own
theorem d1_0 : decode method_2_code 0 = .ok (.iload_n 0, 1) := by decide +kernel
theorem d1_1 : decode method_2_code 1 = .ok (.ldc 7, 2) := by decide +kernel
theorem d1_3 : decode method_2_code 3 = .ok (.iand, 1) := by decide +kernel
theorem d1_4 : decode method_2_code 4 = .ok (.ifCond .eq 10, 3) := by decide +kernel
theorem d1_14 : decode method_2_code 14 = .ok (.iload_n 0, 1) := by decide +kernel
theorem d1_15 : decode method_2_code 15 = .ok (.iconst 3, 1) := by decide +kernel
theorem d1_16 : decode method_2_code 16 = .ok (.iand, 1) := by decide +kernel
theorem d1_17 : decode method_2_code 17 = .ok (.iconst 1, 1) := by decide +kernel
theorem d1_18 : decode method_2_code 18 = .ok (.iadd, 1) := by decide +kernel
theorem d1_19 : decode method_2_code 19 = .ok (.ireturn, 1) := by decide +kernel
theorem d1_7 : decode method_2_code 7 = .ok (.iload_n 0, 1) := by decide +kernel
theorem d1_8 : decode method_2_code 8 = .ok (.ldc 8, 2) := by decide +kernel
theorem d1_10 : decode method_2_code 10 = .ok (.iand, 1) := by decide +kernel
theorem d1_11 : decode method_2_code 11 = .ok (.iconst 1, 1) := by decide +kernel
theorem d1_12 : decode method_2_code 12 = .ok (.iadd, 1) := by decide +kernel
theorem d1_13 : decode method_2_code 13 = .ok (.ireturn, 1) := by decide +kernel
theorem d2_0 : decode prog_21_method_1_code 0 = .ok (.aload_n 0, 1) := by decide +kernel
theorem d2_1 : decode prog_21_method_1_code 1 = .ok (.invokespecial 1, 3) := by decide +kernel
theorem d2_4 : decode prog_21_method_1_code 4 = .ok (.aload_n 0, 1) := by decide +kernel
theorem d2_5 : decode prog_21_method_1_code 5 = .ok (.iload_n 1, 1) := by decide +kernel
theorem d2_6 : decode prog_21_method_1_code 6 = .ok (.putfield 7, 3) := by decide +kernel
theorem d2_9 : decode prog_21_method_1_code 9 = .ok (.aload_n 0, 1) := by decide +kernel
theorem d2_10 : decode prog_21_method_1_code 10 = .ok (.iload_n 2, 1) := by decide +kernel
theorem d2_11 : decode prog_21_method_1_code 11 = .ok (.putfield 13, 3) := by decide +kernel
theorem d2_14 : decode prog_21_method_1_code 14 = .ok (.aload_n 0, 1) := by decide +kernel
theorem d2_15 : decode prog_21_method_1_code 15 = .ok (.iload_n 1, 1) := by decide +kernel
theorem d2_16 : decode prog_21_method_1_code 16 = .ok (.putfield 16, 3) := by decide +kernel
theorem d2_19 : decode prog_21_method_1_code 19 = .ok (.return_, 1) := by decide +kernel
theorem d5_0 : decode jdk_29_method_69_code 0 = .ok (.iload_n 0, 1) := by decide +kernel
theorem d5_1 : decode jdk_29_method_69_code 1 = .ok (.iload_n 1, 1) := by decide +kernel
theorem d5_2 : decode jdk_29_method_69_code 2 = .ok (.if_icmp .gt 7, 3) := by decide +kernel
theorem d5_9 : decode jdk_29_method_69_code 9 = .ok (.iload_n 1, 1) := by decide +kernel
theorem d5_10 : decode jdk_29_method_69_code 10 = .ok (.ireturn, 1) := by decide +kernel
theorem d5_5 : decode jdk_29_method_69_code 5 = .ok (.iload_n 0, 1) := by decide +kernel
theorem d5_6 : decode jdk_29_method_69_code 6 = .ok (.goto 4, 3) := by decide +kernel
theorem d4_0 : decode prog_21_method_2_code 0 = .ok (.aload_n 0, 1) := by decide +kernel
theorem d4_1 : decode prog_21_method_2_code 1 = .ok (.iload_n 1, 1) := by decide +kernel
theorem d4_2 : decode prog_21_method_2_code 2 = .ok (.ifCond .eq 7, 3) := by decide +kernel
theorem d4_9 : decode prog_21_method_2_code 9 = .ok (.aload_n 0, 1) := by decide +kernel
theorem d4_10 : decode prog_21_method_2_code 10 = .ok (.getfield 16, 3) := by decide +kernel
theorem d4_13 : decode prog_21_method_2_code 13 = .ok (.iconst 1, 1) := by decide +kernel
theorem d4_14 : decode prog_21_method_2_code 14 = .ok (.iadd, 1) := by decide +kernel
theorem d4_15 : decode prog_21_method_2_code 15 = .ok (.aload_n 0, 1) := by decide +kernel
theorem d4_16 : decode prog_21_method_2_code 16 = .ok (.getfield 7, 3) := by decide +kernel
theorem d4_19 : decode prog_21_method_2_code 19 = .ok (.invokestatic 19, 3) := by decide +kernel
theorem d4_22 : decode prog_21_method_2_code 22 = .ok (.putfield 16, 3) := by decide +kernel
theorem d4_25 : decode prog_21_method_2_code 25 = .ok (.aload_n 0, 1) := by decide +kernel
theorem d4_26 : decode prog_21_method_2_code 26 = .ok (.aload_n 0, 1) := by decide +kernel
theorem d4_27 : decode prog_21_method_2_code 27 = .ok (.getfield 25, 3) := by decide +kernel
theorem d4_30 : decode prog_21_method_2_code 30 = .ok (.iconst 1, 1) := by decide +kernel
theorem d4_31 : decode prog_21_method_2_code 31 = .ok (.iadd, 1) := by decide +kernel
theorem d4_32 : decode prog_21_method_2_code 32 = .ok (.aload_n 0, 1) := by decide +kernel
theorem d4_33 : decode prog_21_method_2_code 33 = .ok (.getfield 13, 3) := by decide +kernel
theorem d4_36 : decode prog_21_method_2_code 36 = .ok (.invokestatic 19, 3) := by decide +kernel
theorem d4_39 : decode prog_21_method_2_code 39 = .ok (.putfield 25, 3) := by decide +kernel
theorem d4_42 : decode prog_21_method_2_code 42 = .ok (.return_, 1) := by decide +kernel
theorem d4_5 : decode prog_21_method_2_code 5 = .ok (.iconst 0, 1) := by decide +kernel
theorem d4_6 : decode prog_21_method_2_code 6 = .ok (.goto 16, 3) := by decide +kernel
theorem d6_0 : decode prog_21_method_3_code 0 = .ok (.aload_n 0, 1) := by decide +kernel
theorem d6_1 : decode prog_21_method_3_code 1 = .ok (.getfield 16, 3) := by decide +kernel
theorem d6_4 : decode prog_21_method_3_code 4 = .ok (.aload_n 0, 1) := by decide +kernel
theorem d6_5 : decode prog_21_method_3_code 5 = .ok (.getfield 7, 3) := by decide +kernel
theorem d6_8 : decode prog_21_method_3_code 8 = .ok (.if_icmp .eq 14, 3) := by decide +kernel
theorem d6_22 : decode prog_21_method_3_code 22 = .ok (.iconst 1, 1) := by decide +kernel
theorem d6_23 : decode prog_21_method_3_code 23 = .ok (.goto 4, 3) := by decide +kernel
theorem d6_27 : decode prog_21_method_3_code 27 = .ok (.ireturn, 1) := by decide +kernel
theorem d6_11 : decode prog_21_method_3_code 11 = .ok (.aload_n 0, 1) := by decide +kernel
theorem d6_12 : decode prog_21_method_3_code 12 = .ok (.getfield 25, 3) := by decide +kernel
theorem d6_15 : decode prog_21_method_3_code 15 = .ok (.aload_n 0, 1) := by decide +kernel
theorem d6_16 : decode prog_21_method_3_code 16 = .ok (.getfield 13, 3) := by decide +kernel
theorem d6_19 : decode prog_21_method_3_code 19 = .ok (.if_icmp .ne 7, 3) := by decide +kernel
theorem d6_26 : decode prog_21_method_3_code 26 = .ok (.iconst 0, 1) := by decide +kernel
theorem d7_0 : decode prog_21_method_4_code 0 = .ok (.aload_n 0, 1) := by decide +kernel
theorem d7_1 : decode prog_21_method_4_code 1 = .ok (.iconst 0, 1) := by decide +kernel
theorem d7_2 : decode prog_21_method_4_code 2 = .ok (.putfield 25, 3) := by decide +kernel
theorem d7_5 : decode prog_21_method_4_code 5 = .ok (.return_, 1) := by decide +kernel
theorem pd_0 : parseMethodDescriptor "(II)I" = some ⟨[.int, .int], some .int⟩ := by decide +kernel
theorem pd_1 : parseMethodDescriptor "(I)I" = some ⟨[.int], some .int⟩ := by decide +kernel
theorem pd_2 : parseMethodDescriptor "(II)V" = some ⟨[.int, .int], none⟩ := by decide +kernel
theorem pd_3 : parseMethodDescriptor "(Z)V" = some ⟨[.boolean], none⟩ := by decide +kernel
theorem pd_4 : parseMethodDescriptor "()Z" = some ⟨[], some .boolean⟩ := by decide +kernel
theorem pd_5 : parseMethodDescriptor "()V" = some ⟨[], none⟩ := by decide +kernel
theorem pn_1 : plainName "com/example/evenring/evenring/IntakeHasComeInPinLaw" = true := by first | (simp [plainName, overriddenIn]; done) | decide +kernel
theorem pn_2 : plainName "com/example/evenring/evenring/Intake" = true := by first | (simp [plainName, overriddenIn]; done) | decide +kernel
theorem pn_5 : plainFor (⟨"java/lang/Math", "min", "(II)I"⟩ : MethodName) = true := by decide +kernel
theorem pn_4 : plainName "com/example/evenring/evenring/Intake" = true := by first | (simp [plainName, overriddenIn]; done) | decide +kernel
theorem pn_6 : plainName "com/example/evenring/evenring/Intake" = true := by first | (simp [plainName, overriddenIn]; done) | decide +kernel
theorem pn_7 : plainName "com/example/evenring/evenring/Intake" = true := by first | (simp [plainName, overriddenIn]; done) | decide +kernel
theorem pn_0 : plainName "com/example/evenring/evenring/IntakeHasComeInPinLaw" = true := by first | (simp [plainName, overriddenIn]; done) | decide +kernel
theorem ef_rm1 (m : MethodId) (x0 : Int32) : entryFrame m #[(.int x0)] 1 = mkF m 0 #[.val (.int x0)] [] := by first | (simp [entryFrame, mkF, argsToLocals, Value.category]; done) | rfl
theorem ef_rm2 (m : MethodId) (x0 : Addr) (x1 : Int32) (x2 : Int32) : entryFrame m #[(.ref x0), (.int x1), (.int x2)] 3 = mkF m 0 #[.val (.ref x0), .val (.int x1), .val (.int x2)] [] := by first | (simp [entryFrame, mkF, argsToLocals, Value.category]; done) | rfl
theorem ef_rm5 (m : MethodId) (x0 : Int32) (x1 : Int32) : entryFrame m #[(.int x0), (.int x1)] 2 = mkF m 0 #[.val (.int x0), .val (.int x1)] [] := by first | (simp [entryFrame, mkF, argsToLocals, Value.category]; done) | rfl
theorem ef_rm4 (m : MethodId) (x0 : Addr) (x1 : Int32) : entryFrame m #[(.ref x0), (.int x1)] 2 = mkF m 0 #[.val (.ref x0), .val (.int x1)] [] := by first | (simp [entryFrame, mkF, argsToLocals, Value.category]; done) | rfl
theorem ef_rm6 (m : MethodId) (x0 : Addr) : entryFrame m #[(.ref x0)] 1 = mkF m 0 #[.val (.ref x0)] [] := by first | (simp [entryFrame, mkF, argsToLocals, Value.category]; done) | rfl
theorem ef_rm7 (m : MethodId) (x0 : Addr) : entryFrame m #[(.ref x0)] 1 = mkF m 0 #[.val (.ref x0)] [] := by first | (simp [entryFrame, mkF, argsToLocals, Value.category]; done) | rfl
theorem ef_rm0 (m : MethodId) (x0 : Int32) (x1 : Int32) (x2 : Int32) : entryFrame m #[(.int x0), (.int x1), (.int x2)] maxLocals = mkF m 0 #[.val (.int x0), .val (.int x1), .val (.int x2), .unset, .unset, .unset, .unset, .unset, .unset, .unset, .unset, .unset, .unset, .unset, .unset, .unset, .unset, .unset, .unset, .unset, .unset, .unset, .unset] [] := by first | (simp [entryFrame, mkF, argsToLocals, Value.category, maxLocals]; done) | rfl
def Q_rm1 (Z : State) (xx : Int32) (h0 : Heap) (n0 : Nat) (v : Option Value) (h : Heap) (L : List Loc) : Prop := ∃ (r : Int32), (v = some (.int r)) ∧ (Fr n0 L) ∧ (h = h0) ∧ (1 ≤ r.toInt ∧ r.toInt ≤ 1073741824)
set_option maxRecDepth 65536 in
set_option maxHeartbeats 40000000 in
theorem rm1 (l : Launch) (Z : State) (a0 : Array Value) (hw : ∀ d ∈ tables_1, d.before a0 Z = true) (ws : List Jvm.Cond) (xx : Int32) (h0 : Heap) (n0 : Nat) (Z0 : n0 ≤ h0.size) :
    MetFree l (⟨"com/example/evenring/evenring/IntakeHasComeInPinLaw", "size", "(I)I"⟩ : MethodName) (head1 (Jvm.Cond.code (⟨"com/example/evenring/evenring/IntakeHasComeInPinLaw", "size", "(I)I"⟩ : MethodName) method_2_code 1 (some .int) :: ws) ({ frames := 0, cells := 0, slots := 0, locals := 0 } : Room)) (fun a U => a = #[(.int xx)] ∧ Z.Warmed39 U.vm ∧ U.heap = h0) (fun _ _ _ _ _ => True) (fun _ U o U' => ∃ v L, o = .returned v ∧ Q_rm1 Z xx h0 n0 v U'.heap L ∧ FrameEnd U o U' L ({ frames := 0, cells := 0, slots := 0, locals := 0 } : Room).cells ({ frames := 0, cells := 0, slots := 0, locals := 0 } : Room).slots) := by
  refine MetFree.of_bodySF (plainFor_of_name pn_1) hisR ?_
  intro p e s m args below meth c s₁ Bd hml0 hP hK
  obtain ⟨rfl, hZ, hh⟩ := hP
  have hx := Bd.exec
  have hby := Bd.bytes
  have hml : c.maxLocals = 1 := hml0
  have hown : s.vm.findClass "com/example/evenring/evenring/IntakeHasComeInPinLaw" = some m.cls := findClass_of_methodNamed Bd.named
  have hnm := (name_of_methodNamed Bd.named Bd.method).1
  have hlk : meth.locks = false := Bd.notSynchronized
  have X0 : Stand p l e ({ frames := 0, cells := 0, slots := 0, locals := 0 } : Room) s m #[(.int xx)] below meth c s₁ [] 0 0 := Stand.of_body Bd
  have e0 : s₁.heap = h0 := by rw [← hh, Bd.state]; rfl
  have N0 := Fr.nil n0
  refine Comes.out (Q := Q_rm1 Z xx h0 n0) (kc := ({ frames := 0, cells := 0, slots := 0, locals := 0 } : Room).cells) (ks := ({ frames := 0, cells := 0, slots := 0, locals := 0 } : Room).slots) ?_
  refine Comes.cast (ef_rm1 m xx) ?_
  show Comes p e below _ (s₁.setTop (mkF m 0 #[.val (.int xx)] []))
  refine Comes.st (fun t k => XS.iloadN X0.here hx rfl (hb hby d1_0) rfl (X0.ldcInt hx hown (mvT hZ (hw _ (List.mem_of_getElem? (i := 4) rfl))) (g := (mkF m 1 #[.val (.int xx)] [(.int xx)])) rfl (hb hby d1_1) _ (XS.iand X0.here hx rfl (hb hby d1_3) rfl k))) ?_
  show Comes p e below _ (s₁.setTop (mkF m 4 #[.val (.int xx)] [(.int (xx &&& (1073741824 : Int32)))]))
  by_cases hc4_1 : (xx &&& (1073741824 : Int32)) = (0 : Int32)
  · refine Comes.st (fun t k => XS.ifYes X0.here hx rfl (pc0 := 4) (pc' := 14) rfl (hb hby d1_4) rfl ((if0 _ _).trans (teq hc4_1).1) (by decide) (by decide) (XS.iloadN X0.here hx rfl (hb hby d1_14) rfl (XS.iconst X0.here hx rfl (hb hby d1_15) (XS.iand X0.here hx rfl (hb hby d1_16) rfl (XS.iconst X0.here hx rfl (hb hby d1_17) (XS.iadd X0.here hx rfl (hb hby d1_18) rfl k)))))) ?_
    show Comes p e below _ (s₁.setTop (mkF m 19 #[.val (.int xx)] [(.int ((xx &&& (3 : Int32)) + (1 : Int32)))]))
    exact Comes.retV X0 hx Bd.returns rfl (Or.inl ⟨rfl, Or.inl rfl, _, rfl⟩) hlk (hb hby d1_19) e0 ⟨((xx &&& (3 : Int32)) + (1 : Int32)), rfl, N0, rfl, (by have a_0 := c_and xx (1073741824 : Int32) (by decide); have a_1 := c_mask xx (3 : Int32) 2 (by decide) (by decide); have a_2 := c_iadd (xx &&& (3 : Int32)) (1 : Int32); have a_3 := rng32 ((xx &&& (3 : Int32)) + (1 : Int32)); have a_4 := rng32 (xx &&& (1073741824 : Int32)); have a_5 := rng32 (xx &&& (3 : Int32)); have a_6 := rng32 xx; have c_0 := hc4_1; (try simp only [Int32.lt_iff_toInt_lt, Int64.lt_iff_toInt_lt, ← Int32.toInt_inj, ← Int64.toInt_inj, Int32.reduceToInt, Int64.reduceToInt, eq_self, and_true, true_and, or_true, true_or, and_false, false_and, or_false, false_or, not_true_eq_false, not_false_eq_true] at a_0 a_1 a_2 a_3 a_4 a_5 a_6 c_0 ⊢) <;> omega)⟩ (by decide) (by decide)
  · refine Comes.st (fun t k => XS.ifNo X0.here hx rfl (hb hby d1_4) rfl ((if0 _ _).trans (feq hc4_1).1) (XS.iloadN X0.here hx rfl (hb hby d1_7) rfl (X0.ldcInt hx hown (mvT hZ (hw _ (List.mem_of_getElem? (i := 41) rfl))) (g := (mkF m 8 #[.val (.int xx)] [(.int xx)])) rfl (hb hby d1_8) _ (XS.iand X0.here hx rfl (hb hby d1_10) rfl (XS.iconst X0.here hx rfl (hb hby d1_11) (XS.iadd X0.here hx rfl (hb hby d1_12) rfl k)))))) ?_
    show Comes p e below _ (s₁.setTop (mkF m 13 #[.val (.int xx)] [(.int ((xx &&& (1073741823 : Int32)) + (1 : Int32)))]))
    exact Comes.retV X0 hx Bd.returns rfl (Or.inl ⟨rfl, Or.inl rfl, _, rfl⟩) hlk (hb hby d1_13) e0 ⟨((xx &&& (1073741823 : Int32)) + (1 : Int32)), rfl, N0, rfl, (by have a_0 := c_and xx (1073741824 : Int32) (by decide); have a_1 := c_mask xx (1073741823 : Int32) 30 (by decide) (by decide); have a_2 := c_iadd (xx &&& (1073741823 : Int32)) (1 : Int32); have a_3 := rng32 ((xx &&& (1073741823 : Int32)) + (1 : Int32)); have a_4 := rng32 (xx &&& (1073741823 : Int32)); have a_5 := rng32 (xx &&& (1073741824 : Int32)); have a_6 := rng32 xx; have c_0 := hc4_1; (try simp only [Int32.lt_iff_toInt_lt, Int64.lt_iff_toInt_lt, ← Int32.toInt_inj, ← Int64.toInt_inj, Int32.reduceToInt, Int64.reduceToInt, eq_self, and_true, true_and, or_true, true_or, and_false, false_and, or_false, false_or, not_true_eq_false, not_false_eq_true] at a_0 a_1 a_2 a_3 a_4 a_5 a_6 c_0 ⊢) <;> omega)⟩ (by decide) (by decide)
def Q_rm2 (Z : State) (self : Addr) (qs : Int32) (lw : Int32) (h0 : Heap) (n0 : Nat) (v : Option Value) (h : Heap) (L : List Loc) : Prop := (v = none) ∧ (Fr n0 L) ∧ (Keep h0 h [self]) ∧ (Exa Z h self "com/example/evenring/evenring/Intake") ∧ (Fld Z h self "com/example/evenring/evenring/Intake" "quietSpell" "I" (.int qs)) ∧ (Fld Z h self "com/example/evenring/evenring/Intake" "longestWait" "I" (.int lw)) ∧ (Fld Z h self "com/example/evenring/evenring/Intake" "quietFor" "I" (.int qs)) ∧ (Fld Z h self "com/example/evenring/evenring/Intake" "waitedFor" "I" (.int (0 : Int32)))
set_option maxRecDepth 65536 in
set_option maxHeartbeats 40000000 in
theorem rm2 (l : Launch) (Z : State) (a0 : Array Value) (hw : ∀ d ∈ tables_1, d.before a0 Z = true) (ws : List Jvm.Cond) (self : Addr) (qs : Int32) (lw : Int32) (h0 : Heap) (n0 : Nat) (Z0 : n0 ≤ h0.size) (G0 : Exa Z h0 self "com/example/evenring/evenring/Intake") (G1 : Fld Z h0 self "com/example/evenring/evenring/Intake" "quietSpell" "I" (.int (0 : Int32))) (G2 : Fld Z h0 self "com/example/evenring/evenring/Intake" "longestWait" "I" (.int (0 : Int32))) (G3 : Fld Z h0 self "com/example/evenring/evenring/Intake" "quietFor" "I" (.int (0 : Int32))) (G4 : Fld Z h0 self "com/example/evenring/evenring/Intake" "waitedFor" "I" (.int (0 : Int32))) (G5 : n0 ≤ self) :
    MetFree l (⟨"com/example/evenring/evenring/Intake", "<init>", "(II)V"⟩ : MethodName) (head1 (Jvm.Cond.code (⟨"com/example/evenring/evenring/Intake", "<init>", "(II)V"⟩ : MethodName) prog_21_method_1_code 3 none :: ws) ({ frames := 1, cells := 0, slots := 0, locals := 12 } : Room)) (fun a U => a = #[(.ref self), (.int qs), (.int lw)] ∧ Z.Warmed39 U.vm ∧ U.heap = h0) (fun _ _ _ _ _ => True) (fun _ U o U' => ∃ v L, o = .returned v ∧ Q_rm2 Z self qs lw h0 n0 v U'.heap L ∧ FrameEnd U o U' L ({ frames := 1, cells := 0, slots := 0, locals := 12 } : Room).cells ({ frames := 1, cells := 0, slots := 0, locals := 12 } : Room).slots) := by
  refine MetFree.of_bodySF (plainFor_of_name pn_2) hisR ?_
  intro p e s m args below meth c s₁ Bd hml0 hP hK
  obtain ⟨rfl, hZ, hh⟩ := hP
  have hx := Bd.exec
  have hby := Bd.bytes
  have hml : c.maxLocals = 3 := hml0
  have hown : s.vm.findClass "com/example/evenring/evenring/Intake" = some m.cls := findClass_of_methodNamed Bd.named
  have hnm := (name_of_methodNamed Bd.named Bd.method).1
  have hlk : meth.locks = false := Bd.notSynchronized
  have X0 : Stand p l e ({ frames := 1, cells := 0, slots := 0, locals := 12 } : Room) s m #[(.ref self), (.int qs), (.int lw)] below meth c s₁ [] 0 0 := Stand.of_body Bd
  have e0 : s₁.heap = h0 := by rw [← hh, Bd.state]; rfl
  have N0 := Fr.nil n0
  have K0 := Keep.refl h0 [self]
  refine Comes.out (Q := Q_rm2 Z self qs lw h0 n0) (kc := ({ frames := 1, cells := 0, slots := 0, locals := 12 } : Room).cells) (ks := ({ frames := 1, cells := 0, slots := 0, locals := 12 } : Room).slots) ?_
  refine Comes.cast (ef_rm2 m self qs lw) ?_
  have lt_self : self < h0.size := G0.lt
  show Comes p e below _ (s₁.setTop (mkF m 0 #[.val (.ref self), .val (.int qs), .val (.int lw)] []))
  refine Comes.st (fun t k => XS.aloadN X0.here hx rfl (hb hby d2_0) rfl rfl k) ?_
  show Comes p e below _ (s₁.setTop (mkF m 1 #[.val (.ref self), .val (.int qs), .val (.int lw)] [(.ref self)]))
  obtain ⟨T1, X1, e1, st1⟩ := initO X0 hx hZ hown (hw _ (List.mem_of_getElem? (i := 11) rfl)) (hw _ (List.mem_of_getElem? (i := 12) rfl)) (hw _ (List.mem_of_getElem? (i := 13) rfl)) e0 (g := (mkF m 1 #[.val (.ref self), .val (.int qs), .val (.int lw)] [(.ref self)])) rfl (by rw [hml]; rfl) rfl (hb hby d2_1) (by decide) (W := 0) (by show 2 * 0 + _ ≤ _; exact Nat.le_of_eq rfl) (by decide)
  refine Comes.st st1 ?_
  show Comes p e below _ (T1.setTop (mkF m 4 #[.val (.ref self), .val (.int qs), .val (.int lw)] []))
  refine Comes.st (fun t k => XS.aloadN X1.here hx rfl (hb hby d2_4) rfl rfl (XS.iloadN X1.here hx rfl (hb hby d2_5) rfl k)) ?_
  show Comes p e below _ (T1.setTop (mkF m 6 #[.val (.ref self), .val (.int qs), .val (.int lw)] [(.int qs), (.ref self)]))
  obtain ⟨T2, h2, X2, e2, W2, st2⟩ := putF X1 hx hZ hown (host := "") (Or.inl (hw _ (List.mem_of_getElem? (i := 14) rfl))) Via.refl e1 G1 G0 (Or.inr ⟨(hw _ (List.mem_of_getElem? (i := 15) rfl)), rfl, hnm⟩) (hw _ (List.mem_of_getElem? (i := 6) rfl)) (ty := .int) (by decide) rfl rfl (g := (mkF m 6 #[.val (.ref self), .val (.int qs), .val (.int lw)] [(.int qs), (.ref self)])) rfl rfl (hb hby d2_6)
  have Fw2 := G1.same W2
  have z2 : h2.size = h0.size := W2.size
  have N2 := Fr.snoc X2 N0 (by omega)
  have K2 : Keep h0 h2 [self] := K0.wr W2 (Or.inl (List.mem_of_getElem? (i := 0) rfl))
  refine Comes.st st2 ?_
  show Comes p e below _ (T2.setTop (mkF m 9 #[.val (.ref self), .val (.int qs), .val (.int lw)] []))
  refine Comes.st (fun t k => XS.aloadN X2.here hx rfl (hb hby d2_9) rfl rfl (XS.iloadN X2.here hx rfl (hb hby d2_10) rfl k)) ?_
  show Comes p e below _ (T2.setTop (mkF m 11 #[.val (.ref self), .val (.int qs), .val (.int lw)] [(.int lw), (.ref self)]))
  have F3 : Exa Z h2 self "com/example/evenring/evenring/Intake" := (G0.wr W2)
  have F4 : Fld Z h2 self "com/example/evenring/evenring/Intake" "longestWait" "I" (.int (0 : Int32)) := (G2.other W2 (Or.inr (slot_ne (Or.inr (hw _ (List.mem_of_getElem? (i := 17) rfl))) (Or.inr (hw _ (List.mem_of_getElem? (i := 15) rfl))) (by decide) (t := .int) (t' := .int) (by decide) (by decide))))
  obtain ⟨T5, h5, X5, e5, W5, st5⟩ := putF X2 hx hZ hown (host := "") (Or.inl (hw _ (List.mem_of_getElem? (i := 16) rfl))) Via.refl e2 F4 F3 (Or.inr ⟨(hw _ (List.mem_of_getElem? (i := 17) rfl)), rfl, hnm⟩) (hw _ (List.mem_of_getElem? (i := 6) rfl)) (ty := .int) (by decide) rfl rfl (g := (mkF m 11 #[.val (.ref self), .val (.int qs), .val (.int lw)] [(.int lw), (.ref self)])) rfl rfl (hb hby d2_11)
  have Fw5 := F4.same W5
  have z5 : h5.size = h2.size := W5.size
  have N5 := Fr.snoc X5 N2 (by omega)
  have K5 : Keep h0 h5 [self] := K2.wr W5 (Or.inl (List.mem_of_getElem? (i := 0) rfl))
  refine Comes.st st5 ?_
  show Comes p e below _ (T5.setTop (mkF m 14 #[.val (.ref self), .val (.int qs), .val (.int lw)] []))
  refine Comes.st (fun t k => XS.aloadN X5.here hx rfl (hb hby d2_14) rfl rfl (XS.iloadN X5.here hx rfl (hb hby d2_15) rfl k)) ?_
  show Comes p e below _ (T5.setTop (mkF m 16 #[.val (.ref self), .val (.int qs), .val (.int lw)] [(.int qs), (.ref self)]))
  have F6 : Exa Z h5 self "com/example/evenring/evenring/Intake" := (F3.wr W5)
  have F7 : Fld Z h5 self "com/example/evenring/evenring/Intake" "quietFor" "I" (.int (0 : Int32)) := ((G3.other W2 (Or.inr (slot_ne (Or.inl (hw _ (List.mem_of_getElem? (i := 19) rfl))) (Or.inr (hw _ (List.mem_of_getElem? (i := 15) rfl))) (by decide) (t := .int) (t' := .int) (by decide) (by decide)))).other W5 (Or.inr (slot_ne (Or.inl (hw _ (List.mem_of_getElem? (i := 19) rfl))) (Or.inr (hw _ (List.mem_of_getElem? (i := 17) rfl))) (by decide) (t := .int) (t' := .int) (by decide) (by decide))))
  obtain ⟨T8, h8, X8, e8, W8, st8⟩ := putF X5 hx hZ hown (host := "") (Or.inl (hw _ (List.mem_of_getElem? (i := 18) rfl))) Via.refl e5 F7 F6 (Or.inl (hw _ (List.mem_of_getElem? (i := 19) rfl))) (hw _ (List.mem_of_getElem? (i := 6) rfl)) (ty := .int) (by decide) rfl rfl (g := (mkF m 16 #[.val (.ref self), .val (.int qs), .val (.int lw)] [(.int qs), (.ref self)])) rfl rfl (hb hby d2_16)
  have Fw8 := F7.same W8
  have z8 : h8.size = h5.size := W8.size
  have N8 := Fr.snoc X8 N5 (by omega)
  have K8 : Keep h0 h8 [self] := K5.wr W8 (Or.inl (List.mem_of_getElem? (i := 0) rfl))
  refine Comes.st st8 ?_
  show Comes p e below _ (T8.setTop (mkF m 19 #[.val (.ref self), .val (.int qs), .val (.int lw)] []))
  have F9 : Exa Z h8 self "com/example/evenring/evenring/Intake" := (F6.wr W8)
  have F10 : Fld Z h8 self "com/example/evenring/evenring/Intake" "quietSpell" "I" (.int qs) := ((Fw2.other W5 (Or.inr (slot_ne (Or.inr (hw _ (List.mem_of_getElem? (i := 15) rfl))) (Or.inr (hw _ (List.mem_of_getElem? (i := 17) rfl))) (by decide) (t := .int) (t' := .int) (by decide) (by decide)))).other W8 (Or.inr (slot_ne (Or.inr (hw _ (List.mem_of_getElem? (i := 15) rfl))) (Or.inl (hw _ (List.mem_of_getElem? (i := 19) rfl))) (by decide) (t := .int) (t' := .int) (by decide) (by decide))))
  have F11 : Fld Z h8 self "com/example/evenring/evenring/Intake" "longestWait" "I" (.int lw) := (Fw5.other W8 (Or.inr (slot_ne (Or.inr (hw _ (List.mem_of_getElem? (i := 17) rfl))) (Or.inl (hw _ (List.mem_of_getElem? (i := 19) rfl))) (by decide) (t := .int) (t' := .int) (by decide) (by decide))))
  have F12 : Fld Z h8 self "com/example/evenring/evenring/Intake" "waitedFor" "I" (.int (0 : Int32)) := (((G4.other W2 (Or.inr (slot_ne (Or.inl (hw _ (List.mem_of_getElem? (i := 30) rfl))) (Or.inr (hw _ (List.mem_of_getElem? (i := 15) rfl))) (by decide) (t := .int) (t' := .int) (by decide) (by decide)))).other W5 (Or.inr (slot_ne (Or.inl (hw _ (List.mem_of_getElem? (i := 30) rfl))) (Or.inr (hw _ (List.mem_of_getElem? (i := 17) rfl))) (by decide) (t := .int) (t' := .int) (by decide) (by decide)))).other W8 (Or.inr (slot_ne (Or.inl (hw _ (List.mem_of_getElem? (i := 30) rfl))) (Or.inl (hw _ (List.mem_of_getElem? (i := 19) rfl))) (by decide) (t := .int) (t' := .int) (by decide) (by decide))))
  exact Comes.ret0 X8 hx Bd.returns hlk (hb hby d2_19) e8 ⟨rfl, N8, K8, F9, F10, F11, Fw8, F12⟩ (by decide) (by decide)
def Q_rm5 (Z : State) (xa : Int32) (xb : Int32) (h0 : Heap) (n0 : Nat) (v : Option Value) (h : Heap) (L : List Loc) : Prop := ∃ (r : Int32), (v = some (.int r)) ∧ (Fr n0 L) ∧ (h = h0) ∧ ((xb < xa ∧ r = xb) ∨ (¬ (xb < xa) ∧ r = xa))
set_option maxRecDepth 65536 in
set_option maxHeartbeats 40000000 in
theorem rm5 (l : Launch) (Z : State) (a0 : Array Value) (hw : ∀ d ∈ tables_1, d.before a0 Z = true) (ws : List Jvm.Cond) (xa : Int32) (xb : Int32) (h0 : Heap) (n0 : Nat) (Z0 : n0 ≤ h0.size) :
    MetFree l (⟨"java/lang/Math", "min", "(II)I"⟩ : MethodName) (head1 (Jvm.Cond.code (⟨"java/lang/Math", "min", "(II)I"⟩ : MethodName) jdk_29_method_69_code 2 (some .int) :: ws) ({ frames := 0, cells := 0, slots := 0, locals := 0 } : Room)) (fun a U => a = #[(.int xa), (.int xb)] ∧ Z.Warmed39 U.vm ∧ U.heap = h0) (fun _ _ _ _ _ => True) (fun _ U o U' => ∃ v L, o = .returned v ∧ Q_rm5 Z xa xb h0 n0 v U'.heap L ∧ FrameEnd U o U' L ({ frames := 0, cells := 0, slots := 0, locals := 0 } : Room).cells ({ frames := 0, cells := 0, slots := 0, locals := 0 } : Room).slots) := by
  refine MetFree.of_bodySF pn_5 hisR ?_
  intro p e s m args below meth c s₁ Bd hml0 hP hK
  obtain ⟨rfl, hZ, hh⟩ := hP
  have hx := Bd.exec
  have hby := Bd.bytes
  have hml : c.maxLocals = 2 := hml0
  have hown : s.vm.findClass "java/lang/Math" = some m.cls := findClass_of_methodNamed Bd.named
  have hnm := (name_of_methodNamed Bd.named Bd.method).1
  have hlk : meth.locks = false := Bd.notSynchronized
  have X0 : Stand p l e ({ frames := 0, cells := 0, slots := 0, locals := 0 } : Room) s m #[(.int xa), (.int xb)] below meth c s₁ [] 0 0 := Stand.of_body Bd
  have e0 : s₁.heap = h0 := by rw [← hh, Bd.state]; rfl
  have N0 := Fr.nil n0
  refine Comes.out (Q := Q_rm5 Z xa xb h0 n0) (kc := ({ frames := 0, cells := 0, slots := 0, locals := 0 } : Room).cells) (ks := ({ frames := 0, cells := 0, slots := 0, locals := 0 } : Room).slots) ?_
  refine Comes.cast (ef_rm5 m xa xb) ?_
  show Comes p e below _ (s₁.setTop (mkF m 0 #[.val (.int xa), .val (.int xb)] []))
  refine Comes.st (fun t k => XS.iloadN X0.here hx rfl (hb hby d5_0) rfl (XS.iloadN X0.here hx rfl (hb hby d5_1) rfl k)) ?_
  show Comes p e below _ (s₁.setTop (mkF m 2 #[.val (.int xa), .val (.int xb)] [(.int xb), (.int xa)]))
  by_cases hc2_1 : xb < xa
  · refine Comes.st (fun t k => XS.icmpYes X0.here hx rfl (pc0 := 2) (pc' := 9) rfl (hb hby d5_2) rfl (tlt hc2_1).2.2.1 (by decide) (by decide) (XS.iloadN X0.here hx rfl (hb hby d5_9) rfl k)) ?_
    show Comes p e below _ (s₁.setTop (mkF m 10 #[.val (.int xa), .val (.int xb)] [(.int xb)]))
    exact Comes.retV X0 hx Bd.returns rfl (Or.inl ⟨rfl, Or.inl rfl, _, rfl⟩) hlk (hb hby d5_10) e0 ⟨xb, rfl, N0, rfl, (by first | exact Or.inl ⟨by assumption, rfl⟩ | exact Or.inr ⟨by assumption, rfl⟩)⟩ (by decide) (by decide)
  · refine Comes.st (fun t k => XS.icmpNo X0.here hx rfl (hb hby d5_2) rfl (flt hc2_1).2.2.1 (XS.iloadN X0.here hx rfl (hb hby d5_5) rfl (XS.goto X0.here hx rfl (pc0 := 6) (pc' := 10) rfl (hb hby d5_6) (by decide) (by decide) k))) ?_
    show Comes p e below _ (s₁.setTop (mkF m 10 #[.val (.int xa), .val (.int xb)] [(.int xa)]))
    exact Comes.retV X0 hx Bd.returns rfl (Or.inl ⟨rfl, Or.inl rfl, _, rfl⟩) hlk (hb hby d5_10) e0 ⟨xa, rfl, N0, rfl, (by first | exact Or.inl ⟨by assumption, rfl⟩ | exact Or.inr ⟨by assumption, rfl⟩)⟩ (by decide) (by decide)
def Q_rm4 (Z : State) (self : Addr) (flag : Int32) (qs : Int32) (lw : Int32) (qf : Int32) (wf : Int32) (h0 : Heap) (n0 : Nat) (v : Option Value) (h : Heap) (L : List Loc) : Prop := ∃ (qf2 : Int32), ∃ (wf2 : Int32), (v = none) ∧ (Fr n0 L) ∧ (Keep h0 h [self]) ∧ (Exa Z h self "com/example/evenring/evenring/Intake") ∧ (Fld Z h self "com/example/evenring/evenring/Intake" "quietSpell" "I" (.int qs)) ∧ (Fld Z h self "com/example/evenring/evenring/Intake" "longestWait" "I" (.int lw)) ∧ (Fld Z h self "com/example/evenring/evenring/Intake" "quietFor" "I" (.int qf2)) ∧ (Fld Z h self "com/example/evenring/evenring/Intake" "waitedFor" "I" (.int wf2)) ∧ ((flag = (0 : Int32) ∧ (qf2.toInt = qf.toInt + 1 ∧ qf.toInt < qs.toInt ∨ qf2.toInt = qs.toInt ∧ qf.toInt = qs.toInt)) ∨ (¬ flag = (0 : Int32) ∧ qf2.toInt = 0)) ∧ (wf2.toInt = wf.toInt + 1 ∧ wf.toInt < lw.toInt ∨ wf2.toInt = lw.toInt ∧ wf.toInt = lw.toInt) ∧ (0 ≤ qf2.toInt ∧ qf2.toInt ≤ qs.toInt ∧ 0 ≤ wf2.toInt ∧ wf2.toInt ≤ lw.toInt)
set_option maxRecDepth 65536 in
set_option maxHeartbeats 40000000 in
theorem rm4 (l : Launch) (Z : State) (a0 : Array Value) (hw : ∀ d ∈ tables_1, d.before a0 Z = true) (ws : List Jvm.Cond) (self : Addr) (flag : Int32) (qs : Int32) (lw : Int32) (qf : Int32) (wf : Int32) (h0 : Heap) (n0 : Nat) (Z0 : n0 ≤ h0.size) (G0 : Exa Z h0 self "com/example/evenring/evenring/Intake") (G1 : Fld Z h0 self "com/example/evenring/evenring/Intake" "quietSpell" "I" (.int qs)) (G2 : Fld Z h0 self "com/example/evenring/evenring/Intake" "longestWait" "I" (.int lw)) (G3 : Fld Z h0 self "com/example/evenring/evenring/Intake" "quietFor" "I" (.int qf)) (G4 : Fld Z h0 self "com/example/evenring/evenring/Intake" "waitedFor" "I" (.int wf)) (G5 : n0 ≤ self) (G6 : 0 ≤ qf.toInt ∧ qf.toInt ≤ qs.toInt) (G7 : 0 ≤ wf.toInt ∧ wf.toInt ≤ lw.toInt) (G8 : 1 ≤ qs.toInt ∧ qs.toInt ≤ 1073741824) (G9 : 1 ≤ lw.toInt ∧ lw.toInt ≤ 1073741824) :
    MetFree l (⟨"com/example/evenring/evenring/Intake", "count", "(Z)V"⟩ : MethodName) (head1 (Jvm.Cond.code (⟨"com/example/evenring/evenring/Intake", "count", "(Z)V"⟩ : MethodName) prog_21_method_2_code 2 none :: ws) ({ frames := 1, cells := 0, slots := 0, locals := 14 } : Room)) (fun a U => a = #[(.ref self), (.int flag)] ∧ Z.Warmed39 U.vm ∧ U.heap = h0) (fun _ _ _ _ _ => True) (fun _ U o U' => ∃ v L, o = .returned v ∧ Q_rm4 Z self flag qs lw qf wf h0 n0 v U'.heap L ∧ FrameEnd U o U' L ({ frames := 1, cells := 0, slots := 0, locals := 14 } : Room).cells ({ frames := 1, cells := 0, slots := 0, locals := 14 } : Room).slots) := by
  refine MetFree.of_bodySF (plainFor_of_name pn_4) hisR ?_
  intro p e s m args below meth c s₁ Bd hml0 hP hK
  obtain ⟨rfl, hZ, hh⟩ := hP
  have hx := Bd.exec
  have hby := Bd.bytes
  have hml : c.maxLocals = 2 := hml0
  have hown : s.vm.findClass "com/example/evenring/evenring/Intake" = some m.cls := findClass_of_methodNamed Bd.named
  have hnm := (name_of_methodNamed Bd.named Bd.method).1
  have hlk : meth.locks = false := Bd.notSynchronized
  have X0 : Stand p l e ({ frames := 1, cells := 0, slots := 0, locals := 14 } : Room) s m #[(.ref self), (.int flag)] below meth c s₁ [] 0 0 := Stand.of_body Bd
  have e0 : s₁.heap = h0 := by rw [← hh, Bd.state]; rfl
  have N0 := Fr.nil n0
  have K0 := Keep.refl h0 [self]
  refine Comes.out (Q := Q_rm4 Z self flag qs lw qf wf h0 n0) (kc := ({ frames := 1, cells := 0, slots := 0, locals := 14 } : Room).cells) (ks := ({ frames := 1, cells := 0, slots := 0, locals := 14 } : Room).slots) ?_
  refine Comes.cast (ef_rm4 m self flag) ?_
  have lt_self : self < h0.size := G0.lt
  show Comes p e below _ (s₁.setTop (mkF m 0 #[.val (.ref self), .val (.int flag)] []))
  refine Comes.st (fun t k => XS.aloadN X0.here hx rfl (hb hby d4_0) rfl rfl (XS.iloadN X0.here hx rfl (hb hby d4_1) rfl k)) ?_
  show Comes p e below _ (s₁.setTop (mkF m 2 #[.val (.ref self), .val (.int flag)] [(.int flag), (.ref self)]))
  by_cases hc2_1 : flag = (0 : Int32)
  · refine Comes.st (fun t k => XS.ifYes X0.here hx rfl (pc0 := 2) (pc' := 9) rfl (hb hby d4_2) rfl ((if0 _ _).trans (teq hc2_1).1) (by decide) (by decide) (XS.aloadN X0.here hx rfl (hb hby d4_9) rfl rfl k)) ?_
    show Comes p e below _ (s₁.setTop (mkF m 10 #[.val (.ref self), .val (.int flag)] [(.ref self), (.ref self)]))
    obtain ⟨T2, X2, e2, st2⟩ := getF X0 hx hZ hown (host := "") (Or.inl (hw _ (List.mem_of_getElem? (i := 18) rfl))) Via.refl e0 G3 (g := (mkF m 10 #[.val (.ref self), .val (.int flag)] [(.ref self), (.ref self)])) rfl rfl (hb hby d4_10)
    refine Comes.st st2 ?_
    show Comes p e below _ (T2.setTop (mkF m 13 #[.val (.ref self), .val (.int flag)] [(.int qf), (.ref self)]))
    refine Comes.st (fun t k => XS.iconst X2.here hx rfl (hb hby d4_13) (XS.iadd X2.here hx rfl (hb hby d4_14) rfl (XS.aloadN X2.here hx rfl (hb hby d4_15) rfl rfl k))) ?_
    show Comes p e below _ (T2.setTop (mkF m 16 #[.val (.ref self), .val (.int flag)] [(.ref self), (.int (qf + (1 : Int32))), (.ref self)]))
    obtain ⟨T3, X3, e3, st3⟩ := getF X2 hx hZ hown (host := "") (Or.inl (hw _ (List.mem_of_getElem? (i := 14) rfl))) Via.refl e2 G1 (g := (mkF m 16 #[.val (.ref self), .val (.int flag)] [(.ref self), (.int (qf + (1 : Int32))), (.ref self)])) rfl rfl (hb hby d4_16)
    refine Comes.st st3 ?_
    show Comes p e below _ (T3.setTop (mkF m 19 #[.val (.ref self), .val (.int flag)] [(.int qs), (.int (qf + (1 : Int32))), (.ref self)]))
    generalize hv_v4 : (qf + (1 : Int32)) = v4
    show Comes p e below _ (T3.setTop (mkF m 19 #[.val (.ref self), .val (.int flag)] [(.int qs), (.int v4), (.ref self)]))
    obtain ⟨_, _, ⟨T5, L5, k5, n5⟩, -, X5, ⟨Lc5, hQ5, l5, y5, z5⟩, st5⟩ := Jvm.LawKit.callS X3 hx (y := (⟨"java/lang/Math", "min", "(II)I"⟩ : MethodName)) hown (mvT hZ (hw _ (List.mem_of_getElem? (i := 25) rfl))) (mvT hZ (hw _ (List.mem_of_getElem? (i := 26) rfl))) (mvT hZ (hw _ (List.mem_of_getElem? (i := 27) rfl))) (mvT hZ (hw _ (List.mem_of_getElem? (i := 28) rfl))) (by decide) (backOf (W := 1) (rm5 l Z a0 hw [] v4 qs h0 n0 (by omega)  ) hZ (hw _ (List.mem_of_getElem? (i := 28) rfl)) (hw _ (List.mem_of_getElem? (i := 27) rfl)) (by decide) (by decide)) (g := (mkF m 19 #[.val (.ref self), .val (.int flag)] [(.int qs), (.int v4), (.ref self)])) rfl (by rw [hml]; rfl) (argsL := [(.int v4), (.int qs)]) (rest := [(.ref self)]) (lenOf pd_0 rfl) rfl (by show 2 * 0 + _ ≤ _; exact Nat.le_of_eq rfl) (hb hby d4_19) (fun _ _ => ⟨rfl, e3, (by decide : 0 + 0 ≤ _), (by decide : 0 + 0 ≤ _)⟩)
    dsimp only [Pt.U, Pt.locs, Pt.cells, Pt.slots] at X5 l5 y5 z5 st5 hQ5
    subst l5 y5 z5
    obtain ⟨r6, rfl, Nq5, hs5, P5_0⟩ := hQ5
    have N5 := Fr.app N0 Nq5
    refine Comes.st st5 ?_
    show Comes p e below _ (T5.setTop (mkF m 22 #[.val (.ref self), .val (.int flag)] [(.int r6), (.ref self)]))
    obtain ⟨T7, h7, X7, e7, W7, st7⟩ := putF X5 hx hZ hown (host := "") (Or.inl (hw _ (List.mem_of_getElem? (i := 18) rfl))) Via.refl hs5 G3 G0 (Or.inl (hw _ (List.mem_of_getElem? (i := 19) rfl))) (hw _ (List.mem_of_getElem? (i := 6) rfl)) (ty := .int) (by decide) rfl rfl (g := (mkF m 22 #[.val (.ref self), .val (.int flag)] [(.int r6), (.ref self)])) rfl rfl (hb hby d4_22)
    have Fw7 := G3.same W7
    have z7 : h7.size = h0.size := W7.size
    have N7 := Fr.snoc X7 N5 (by omega)
    have K7 : Keep h0 h7 [self] := K0.wr W7 (Or.inl (List.mem_of_getElem? (i := 0) rfl))
    refine Comes.st st7 ?_
    show Comes p e below _ (T7.setTop (mkF m 25 #[.val (.ref self), .val (.int flag)] []))
    refine Comes.st (fun t k => XS.aloadN X7.here hx rfl (hb hby d4_25) rfl rfl (XS.aloadN X7.here hx rfl (hb hby d4_26) rfl rfl k)) ?_
    show Comes p e below _ (T7.setTop (mkF m 27 #[.val (.ref self), .val (.int flag)] [(.ref self), (.ref self)]))
    have F8 : Fld Z h7 self "com/example/evenring/evenring/Intake" "waitedFor" "I" (.int wf) := (G4.other W7 (Or.inr (slot_ne (Or.inl (hw _ (List.mem_of_getElem? (i := 30) rfl))) (Or.inl (hw _ (List.mem_of_getElem? (i := 19) rfl))) (by decide) (t := .int) (t' := .int) (by decide) (by decide))))
    obtain ⟨T9, X9, e9, st9⟩ := getF X7 hx hZ hown (host := "") (Or.inl (hw _ (List.mem_of_getElem? (i := 29) rfl))) Via.refl e7 F8 (g := (mkF m 27 #[.val (.ref self), .val (.int flag)] [(.ref self), (.ref self)])) rfl rfl (hb hby d4_27)
    refine Comes.st st9 ?_
    show Comes p e below _ (T9.setTop (mkF m 30 #[.val (.ref self), .val (.int flag)] [(.int wf), (.ref self)]))
    refine Comes.st (fun t k => XS.iconst X9.here hx rfl (hb hby d4_30) (XS.iadd X9.here hx rfl (hb hby d4_31) rfl (XS.aloadN X9.here hx rfl (hb hby d4_32) rfl rfl k))) ?_
    show Comes p e below _ (T9.setTop (mkF m 33 #[.val (.ref self), .val (.int flag)] [(.ref self), (.int (wf + (1 : Int32))), (.ref self)]))
    have F10 : Fld Z h7 self "com/example/evenring/evenring/Intake" "longestWait" "I" (.int lw) := (G2.other W7 (Or.inr (slot_ne (Or.inr (hw _ (List.mem_of_getElem? (i := 17) rfl))) (Or.inl (hw _ (List.mem_of_getElem? (i := 19) rfl))) (by decide) (t := .int) (t' := .int) (by decide) (by decide))))
    obtain ⟨T11, X11, e11, st11⟩ := getF X9 hx hZ hown (host := "") (Or.inl (hw _ (List.mem_of_getElem? (i := 16) rfl))) Via.refl e9 F10 (g := (mkF m 33 #[.val (.ref self), .val (.int flag)] [(.ref self), (.int (wf + (1 : Int32))), (.ref self)])) rfl rfl (hb hby d4_33)
    refine Comes.st st11 ?_
    show Comes p e below _ (T11.setTop (mkF m 36 #[.val (.ref self), .val (.int flag)] [(.int lw), (.int (wf + (1 : Int32))), (.ref self)]))
    generalize hv_v12 : (wf + (1 : Int32)) = v12
    show Comes p e below _ (T11.setTop (mkF m 36 #[.val (.ref self), .val (.int flag)] [(.int lw), (.int v12), (.ref self)]))
    obtain ⟨_, _, ⟨T13, L13, k13, n13⟩, -, X13, ⟨Lc13, hQ13, l13, y13, z13⟩, st13⟩ := Jvm.LawKit.callS X11 hx (y := (⟨"java/lang/Math", "min", "(II)I"⟩ : MethodName)) hown (mvT hZ (hw _ (List.mem_of_getElem? (i := 25) rfl))) (mvT hZ (hw _ (List.mem_of_getElem? (i := 26) rfl))) (mvT hZ (hw _ (List.mem_of_getElem? (i := 27) rfl))) (mvT hZ (hw _ (List.mem_of_getElem? (i := 28) rfl))) (by decide) (backOf (W := 1) (rm5 l Z a0 hw [] v12 lw h7 n0 (by omega)  ) hZ (hw _ (List.mem_of_getElem? (i := 28) rfl)) (hw _ (List.mem_of_getElem? (i := 27) rfl)) (by decide) (by decide)) (g := (mkF m 36 #[.val (.ref self), .val (.int flag)] [(.int lw), (.int v12), (.ref self)])) rfl (by rw [hml]; rfl) (argsL := [(.int v12), (.int lw)]) (rest := [(.ref self)]) (lenOf pd_0 rfl) rfl (by show 2 * 0 + _ ≤ _; exact Nat.le_of_eq rfl) (hb hby d4_36) (fun _ _ => ⟨rfl, e11, (by decide : 0 + 0 ≤ _), (by decide : 0 + 0 ≤ _)⟩)
    dsimp only [Pt.U, Pt.locs, Pt.cells, Pt.slots] at X13 l13 y13 z13 st13 hQ13
    subst l13 y13 z13
    obtain ⟨r14, rfl, Nq13, hs13, P13_0⟩ := hQ13
    have N13 := Fr.app N7 Nq13
    refine Comes.st st13 ?_
    show Comes p e below _ (T13.setTop (mkF m 39 #[.val (.ref self), .val (.int flag)] [(.int r14), (.ref self)]))
    have F15 : Exa Z h7 self "com/example/evenring/evenring/Intake" := (G0.wr W7)
    obtain ⟨T16, h16, X16, e16, W16, st16⟩ := putF X13 hx hZ hown (host := "") (Or.inl (hw _ (List.mem_of_getElem? (i := 29) rfl))) Via.refl hs13 F8 F15 (Or.inl (hw _ (List.mem_of_getElem? (i := 30) rfl))) (hw _ (List.mem_of_getElem? (i := 6) rfl)) (ty := .int) (by decide) rfl rfl (g := (mkF m 39 #[.val (.ref self), .val (.int flag)] [(.int r14), (.ref self)])) rfl rfl (hb hby d4_39)
    have Fw16 := F8.same W16
    have z16 : h16.size = h7.size := W16.size
    have N16 := Fr.snoc X16 N13 (by omega)
    have K16 : Keep h0 h16 [self] := K7.wr W16 (Or.inl (List.mem_of_getElem? (i := 0) rfl))
    refine Comes.st st16 ?_
    show Comes p e below _ (T16.setTop (mkF m 42 #[.val (.ref self), .val (.int flag)] []))
    have F17 : Exa Z h16 self "com/example/evenring/evenring/Intake" := (F15.wr W16)
    have F18 : Fld Z h16 self "com/example/evenring/evenring/Intake" "quietSpell" "I" (.int qs) := ((G1.other W7 (Or.inr (slot_ne (Or.inr (hw _ (List.mem_of_getElem? (i := 15) rfl))) (Or.inl (hw _ (List.mem_of_getElem? (i := 19) rfl))) (by decide) (t := .int) (t' := .int) (by decide) (by decide)))).other W16 (Or.inr (slot_ne (Or.inr (hw _ (List.mem_of_getElem? (i := 15) rfl))) (Or.inl (hw _ (List.mem_of_getElem? (i := 30) rfl))) (by decide) (t := .int) (t' := .int) (by decide) (by decide))))
    have F19 : Fld Z h16 self "com/example/evenring/evenring/Intake" "longestWait" "I" (.int lw) := (F10.other W16 (Or.inr (slot_ne (Or.inr (hw _ (List.mem_of_getElem? (i := 17) rfl))) (Or.inl (hw _ (List.mem_of_getElem? (i := 30) rfl))) (by decide) (t := .int) (t' := .int) (by decide) (by decide))))
    have F20 : Fld Z h16 self "com/example/evenring/evenring/Intake" "quietFor" "I" (.int r6) := (Fw7.other W16 (Or.inr (slot_ne (Or.inl (hw _ (List.mem_of_getElem? (i := 19) rfl))) (Or.inl (hw _ (List.mem_of_getElem? (i := 30) rfl))) (by decide) (t := .int) (t' := .int) (by decide) (by decide))))
    exact Comes.ret0 X16 hx Bd.returns hlk (hb hby d4_42) e16 ⟨r6, r14, rfl, N16, K16, F17, F18, F19, F20, Fw16, (by have a_0 := c_iadd qf (1 : Int32); rw [hv_v4] at a_0; have a_1 := c_iadd wf (1 : Int32); rw [hv_v12] at a_1; have a_2 := rng32 qf; have a_3 := rng32 v12; have a_4 := rng32 v4; have a_5 := rng32 wf; have a_6 := G6; have a_7 := G7; have a_8 := G8; have a_9 := G9; have c_0 := hc2_1; have c_1 := P5_0; have c_2 := P13_0; (try simp only [Int32.lt_iff_toInt_lt, Int64.lt_iff_toInt_lt, ← Int32.toInt_inj, ← Int64.toInt_inj, Int32.reduceToInt, Int64.reduceToInt, eq_self, and_true, true_and, or_true, true_or, and_false, false_and, or_false, false_or, not_true_eq_false, not_false_eq_true] at a_0 a_1 a_2 a_3 a_4 a_5 a_6 a_7 a_8 a_9 c_0 c_1 c_2 ⊢) <;> omega), (by have a_0 := c_iadd qf (1 : Int32); rw [hv_v4] at a_0; have a_1 := c_iadd wf (1 : Int32); rw [hv_v12] at a_1; have a_2 := rng32 qf; have a_3 := rng32 v12; have a_4 := rng32 v4; have a_5 := rng32 wf; have a_6 := G6; have a_7 := G7; have a_8 := G8; have a_9 := G9; have c_0 := hc2_1; have c_1 := P5_0; have c_2 := P13_0; (try simp only [Int32.lt_iff_toInt_lt, Int64.lt_iff_toInt_lt, ← Int32.toInt_inj, ← Int64.toInt_inj, Int32.reduceToInt, Int64.reduceToInt, eq_self, and_true, true_and, or_true, true_or, and_false, false_and, or_false, false_or, not_true_eq_false, not_false_eq_true] at a_0 a_1 a_2 a_3 a_4 a_5 a_6 a_7 a_8 a_9 c_0 c_1 c_2 ⊢) <;> omega), (by have a_0 := c_iadd qf (1 : Int32); rw [hv_v4] at a_0; have a_1 := c_iadd wf (1 : Int32); rw [hv_v12] at a_1; have a_2 := rng32 qf; have a_3 := rng32 v12; have a_4 := rng32 v4; have a_5 := rng32 wf; have a_6 := G6; have a_7 := G7; have a_8 := G8; have a_9 := G9; have c_0 := hc2_1; have c_1 := P5_0; have c_2 := P13_0; (try simp only [Int32.lt_iff_toInt_lt, Int64.lt_iff_toInt_lt, ← Int32.toInt_inj, ← Int64.toInt_inj, Int32.reduceToInt, Int64.reduceToInt, eq_self, and_true, true_and, or_true, true_or, and_false, false_and, or_false, false_or, not_true_eq_false, not_false_eq_true] at a_0 a_1 a_2 a_3 a_4 a_5 a_6 a_7 a_8 a_9 c_0 c_1 c_2 ⊢) <;> omega)⟩ (by decide) (by decide)
  · refine Comes.st (fun t k => XS.ifNo X0.here hx rfl (hb hby d4_2) rfl ((if0 _ _).trans (feq hc2_1).1) (XS.iconst X0.here hx rfl (hb hby d4_5) (XS.goto X0.here hx rfl (pc0 := 6) (pc' := 22) rfl (hb hby d4_6) (by decide) (by decide) k))) ?_
    show Comes p e below _ (s₁.setTop (mkF m 22 #[.val (.ref self), .val (.int flag)] [(.int (0 : Int32)), (.ref self)]))
    obtain ⟨T21, h21, X21, e21, W21, st21⟩ := putF X0 hx hZ hown (host := "") (Or.inl (hw _ (List.mem_of_getElem? (i := 18) rfl))) Via.refl e0 G3 G0 (Or.inl (hw _ (List.mem_of_getElem? (i := 19) rfl))) (hw _ (List.mem_of_getElem? (i := 6) rfl)) (ty := .int) (by decide) rfl rfl (g := (mkF m 22 #[.val (.ref self), .val (.int flag)] [(.int (0 : Int32)), (.ref self)])) rfl rfl (hb hby d4_22)
    have Fw21 := G3.same W21
    have z21 : h21.size = h0.size := W21.size
    have N21 := Fr.snoc X21 N0 (by omega)
    have K21 : Keep h0 h21 [self] := K0.wr W21 (Or.inl (List.mem_of_getElem? (i := 0) rfl))
    refine Comes.st st21 ?_
    show Comes p e below _ (T21.setTop (mkF m 25 #[.val (.ref self), .val (.int flag)] []))
    refine Comes.st (fun t k => XS.aloadN X21.here hx rfl (hb hby d4_25) rfl rfl (XS.aloadN X21.here hx rfl (hb hby d4_26) rfl rfl k)) ?_
    show Comes p e below _ (T21.setTop (mkF m 27 #[.val (.ref self), .val (.int flag)] [(.ref self), (.ref self)]))
    have F22 : Fld Z h21 self "com/example/evenring/evenring/Intake" "waitedFor" "I" (.int wf) := (G4.other W21 (Or.inr (slot_ne (Or.inl (hw _ (List.mem_of_getElem? (i := 30) rfl))) (Or.inl (hw _ (List.mem_of_getElem? (i := 19) rfl))) (by decide) (t := .int) (t' := .int) (by decide) (by decide))))
    obtain ⟨T23, X23, e23, st23⟩ := getF X21 hx hZ hown (host := "") (Or.inl (hw _ (List.mem_of_getElem? (i := 29) rfl))) Via.refl e21 F22 (g := (mkF m 27 #[.val (.ref self), .val (.int flag)] [(.ref self), (.ref self)])) rfl rfl (hb hby d4_27)
    refine Comes.st st23 ?_
    show Comes p e below _ (T23.setTop (mkF m 30 #[.val (.ref self), .val (.int flag)] [(.int wf), (.ref self)]))
    refine Comes.st (fun t k => XS.iconst X23.here hx rfl (hb hby d4_30) (XS.iadd X23.here hx rfl (hb hby d4_31) rfl (XS.aloadN X23.here hx rfl (hb hby d4_32) rfl rfl k))) ?_
    show Comes p e below _ (T23.setTop (mkF m 33 #[.val (.ref self), .val (.int flag)] [(.ref self), (.int (wf + (1 : Int32))), (.ref self)]))
    have F24 : Fld Z h21 self "com/example/evenring/evenring/Intake" "longestWait" "I" (.int lw) := (G2.other W21 (Or.inr (slot_ne (Or.inr (hw _ (List.mem_of_getElem? (i := 17) rfl))) (Or.inl (hw _ (List.mem_of_getElem? (i := 19) rfl))) (by decide) (t := .int) (t' := .int) (by decide) (by decide))))
    obtain ⟨T25, X25, e25, st25⟩ := getF X23 hx hZ hown (host := "") (Or.inl (hw _ (List.mem_of_getElem? (i := 16) rfl))) Via.refl e23 F24 (g := (mkF m 33 #[.val (.ref self), .val (.int flag)] [(.ref self), (.int (wf + (1 : Int32))), (.ref self)])) rfl rfl (hb hby d4_33)
    refine Comes.st st25 ?_
    show Comes p e below _ (T25.setTop (mkF m 36 #[.val (.ref self), .val (.int flag)] [(.int lw), (.int (wf + (1 : Int32))), (.ref self)]))
    generalize hv_v26 : (wf + (1 : Int32)) = v26
    show Comes p e below _ (T25.setTop (mkF m 36 #[.val (.ref self), .val (.int flag)] [(.int lw), (.int v26), (.ref self)]))
    obtain ⟨_, _, ⟨T27, L27, k27, n27⟩, -, X27, ⟨Lc27, hQ27, l27, y27, z27⟩, st27⟩ := Jvm.LawKit.callS X25 hx (y := (⟨"java/lang/Math", "min", "(II)I"⟩ : MethodName)) hown (mvT hZ (hw _ (List.mem_of_getElem? (i := 25) rfl))) (mvT hZ (hw _ (List.mem_of_getElem? (i := 26) rfl))) (mvT hZ (hw _ (List.mem_of_getElem? (i := 27) rfl))) (mvT hZ (hw _ (List.mem_of_getElem? (i := 28) rfl))) (by decide) (backOf (W := 1) (rm5 l Z a0 hw [] v26 lw h21 n0 (by omega)  ) hZ (hw _ (List.mem_of_getElem? (i := 28) rfl)) (hw _ (List.mem_of_getElem? (i := 27) rfl)) (by decide) (by decide)) (g := (mkF m 36 #[.val (.ref self), .val (.int flag)] [(.int lw), (.int v26), (.ref self)])) rfl (by rw [hml]; rfl) (argsL := [(.int v26), (.int lw)]) (rest := [(.ref self)]) (lenOf pd_0 rfl) rfl (by show 2 * 0 + _ ≤ _; exact Nat.le_of_eq rfl) (hb hby d4_36) (fun _ _ => ⟨rfl, e25, (by decide : 0 + 0 ≤ _), (by decide : 0 + 0 ≤ _)⟩)
    dsimp only [Pt.U, Pt.locs, Pt.cells, Pt.slots] at X27 l27 y27 z27 st27 hQ27
    subst l27 y27 z27
    obtain ⟨r28, rfl, Nq27, hs27, P27_0⟩ := hQ27
    have N27 := Fr.app N21 Nq27
    refine Comes.st st27 ?_
    show Comes p e below _ (T27.setTop (mkF m 39 #[.val (.ref self), .val (.int flag)] [(.int r28), (.ref self)]))
    have F29 : Exa Z h21 self "com/example/evenring/evenring/Intake" := (G0.wr W21)
    obtain ⟨T30, h30, X30, e30, W30, st30⟩ := putF X27 hx hZ hown (host := "") (Or.inl (hw _ (List.mem_of_getElem? (i := 29) rfl))) Via.refl hs27 F22 F29 (Or.inl (hw _ (List.mem_of_getElem? (i := 30) rfl))) (hw _ (List.mem_of_getElem? (i := 6) rfl)) (ty := .int) (by decide) rfl rfl (g := (mkF m 39 #[.val (.ref self), .val (.int flag)] [(.int r28), (.ref self)])) rfl rfl (hb hby d4_39)
    have Fw30 := F22.same W30
    have z30 : h30.size = h21.size := W30.size
    have N30 := Fr.snoc X30 N27 (by omega)
    have K30 : Keep h0 h30 [self] := K21.wr W30 (Or.inl (List.mem_of_getElem? (i := 0) rfl))
    refine Comes.st st30 ?_
    show Comes p e below _ (T30.setTop (mkF m 42 #[.val (.ref self), .val (.int flag)] []))
    have F31 : Exa Z h30 self "com/example/evenring/evenring/Intake" := (F29.wr W30)
    have F32 : Fld Z h30 self "com/example/evenring/evenring/Intake" "quietSpell" "I" (.int qs) := ((G1.other W21 (Or.inr (slot_ne (Or.inr (hw _ (List.mem_of_getElem? (i := 15) rfl))) (Or.inl (hw _ (List.mem_of_getElem? (i := 19) rfl))) (by decide) (t := .int) (t' := .int) (by decide) (by decide)))).other W30 (Or.inr (slot_ne (Or.inr (hw _ (List.mem_of_getElem? (i := 15) rfl))) (Or.inl (hw _ (List.mem_of_getElem? (i := 30) rfl))) (by decide) (t := .int) (t' := .int) (by decide) (by decide))))
    have F33 : Fld Z h30 self "com/example/evenring/evenring/Intake" "longestWait" "I" (.int lw) := (F24.other W30 (Or.inr (slot_ne (Or.inr (hw _ (List.mem_of_getElem? (i := 17) rfl))) (Or.inl (hw _ (List.mem_of_getElem? (i := 30) rfl))) (by decide) (t := .int) (t' := .int) (by decide) (by decide))))
    have F34 : Fld Z h30 self "com/example/evenring/evenring/Intake" "quietFor" "I" (.int (0 : Int32)) := (Fw21.other W30 (Or.inr (slot_ne (Or.inl (hw _ (List.mem_of_getElem? (i := 19) rfl))) (Or.inl (hw _ (List.mem_of_getElem? (i := 30) rfl))) (by decide) (t := .int) (t' := .int) (by decide) (by decide))))
    exact Comes.ret0 X30 hx Bd.returns hlk (hb hby d4_42) e30 ⟨(0 : Int32), r28, rfl, N30, K30, F31, F32, F33, F34, Fw30, (by have a_0 := c_iadd wf (1 : Int32); rw [hv_v26] at a_0; have a_1 := rng32 v26; have a_2 := rng32 wf; have a_3 := G6; have a_4 := G7; have a_5 := G8; have a_6 := G9; have c_0 := hc2_1; have c_1 := P27_0; (try simp only [Int32.lt_iff_toInt_lt, Int64.lt_iff_toInt_lt, ← Int32.toInt_inj, ← Int64.toInt_inj, Int32.reduceToInt, Int64.reduceToInt, eq_self, and_true, true_and, or_true, true_or, and_false, false_and, or_false, false_or, not_true_eq_false, not_false_eq_true] at a_0 a_1 a_2 a_3 a_4 a_5 a_6 c_0 c_1 ⊢) <;> omega), (by have a_0 := c_iadd wf (1 : Int32); rw [hv_v26] at a_0; have a_1 := rng32 v26; have a_2 := rng32 wf; have a_3 := G6; have a_4 := G7; have a_5 := G8; have a_6 := G9; have c_0 := hc2_1; have c_1 := P27_0; (try simp only [Int32.lt_iff_toInt_lt, Int64.lt_iff_toInt_lt, ← Int32.toInt_inj, ← Int64.toInt_inj, Int32.reduceToInt, Int64.reduceToInt, eq_self, and_true, true_and, or_true, true_or, and_false, false_and, or_false, false_or, not_true_eq_false, not_false_eq_true] at a_0 a_1 a_2 a_3 a_4 a_5 a_6 c_0 c_1 ⊢) <;> omega), (by have a_0 := c_iadd wf (1 : Int32); rw [hv_v26] at a_0; have a_1 := rng32 v26; have a_2 := rng32 wf; have a_3 := G6; have a_4 := G7; have a_5 := G8; have a_6 := G9; have c_0 := hc2_1; have c_1 := P27_0; (try simp only [Int32.lt_iff_toInt_lt, Int64.lt_iff_toInt_lt, ← Int32.toInt_inj, ← Int64.toInt_inj, Int32.reduceToInt, Int64.reduceToInt, eq_self, and_true, true_and, or_true, true_or, and_false, false_and, or_false, false_or, not_true_eq_false, not_false_eq_true] at a_0 a_1 a_2 a_3 a_4 a_5 a_6 c_0 c_1 ⊢) <;> omega)⟩ (by decide) (by decide)
def Q_rm6 (Z : State) (self : Addr) (qs : Int32) (lw : Int32) (qf : Int32) (wf : Int32) (h0 : Heap) (n0 : Nat) (v : Option Value) (h : Heap) (L : List Loc) : Prop := ∃ (r : Int32), (v = some (.int r)) ∧ (Fr n0 L) ∧ (h = h0) ∧ ((qf = qs ∧ r = (1 : Int32)) ∨ (¬ qf = qs ∧ wf = lw ∧ r = (1 : Int32)) ∨ (¬ qf = qs ∧ ¬ wf = lw ∧ r = (0 : Int32)))
set_option maxRecDepth 65536 in
set_option maxHeartbeats 40000000 in
theorem rm6 (l : Launch) (Z : State) (a0 : Array Value) (hw : ∀ d ∈ tables_1, d.before a0 Z = true) (ws : List Jvm.Cond) (self : Addr) (qs : Int32) (lw : Int32) (qf : Int32) (wf : Int32) (h0 : Heap) (n0 : Nat) (Z0 : n0 ≤ h0.size) (G0 : Fld Z h0 self "com/example/evenring/evenring/Intake" "quietSpell" "I" (.int qs)) (G1 : Fld Z h0 self "com/example/evenring/evenring/Intake" "longestWait" "I" (.int lw)) (G2 : Fld Z h0 self "com/example/evenring/evenring/Intake" "quietFor" "I" (.int qf)) (G3 : Fld Z h0 self "com/example/evenring/evenring/Intake" "waitedFor" "I" (.int wf)) :
    MetFree l (⟨"com/example/evenring/evenring/Intake", "hasComeIn", "()Z"⟩ : MethodName) (head1 (Jvm.Cond.code (⟨"com/example/evenring/evenring/Intake", "hasComeIn", "()Z"⟩ : MethodName) prog_21_method_3_code 1 (some .boolean) :: ws) ({ frames := 0, cells := 0, slots := 0, locals := 0 } : Room)) (fun a U => a = #[(.ref self)] ∧ Z.Warmed39 U.vm ∧ U.heap = h0) (fun _ _ _ _ _ => True) (fun _ U o U' => ∃ v L, o = .returned v ∧ Q_rm6 Z self qs lw qf wf h0 n0 v U'.heap L ∧ FrameEnd U o U' L ({ frames := 0, cells := 0, slots := 0, locals := 0 } : Room).cells ({ frames := 0, cells := 0, slots := 0, locals := 0 } : Room).slots) := by
  refine MetFree.of_bodySF (plainFor_of_name pn_6) hisR ?_
  intro p e s m args below meth c s₁ Bd hml0 hP hK
  obtain ⟨rfl, hZ, hh⟩ := hP
  have hx := Bd.exec
  have hby := Bd.bytes
  have hml : c.maxLocals = 1 := hml0
  have hown : s.vm.findClass "com/example/evenring/evenring/Intake" = some m.cls := findClass_of_methodNamed Bd.named
  have hnm := (name_of_methodNamed Bd.named Bd.method).1
  have hlk : meth.locks = false := Bd.notSynchronized
  have X0 : Stand p l e ({ frames := 0, cells := 0, slots := 0, locals := 0 } : Room) s m #[(.ref self)] below meth c s₁ [] 0 0 := Stand.of_body Bd
  have e0 : s₁.heap = h0 := by rw [← hh, Bd.state]; rfl
  have N0 := Fr.nil n0
  refine Comes.out (Q := Q_rm6 Z self qs lw qf wf h0 n0) (kc := ({ frames := 0, cells := 0, slots := 0, locals := 0 } : Room).cells) (ks := ({ frames := 0, cells := 0, slots := 0, locals := 0 } : Room).slots) ?_
  refine Comes.cast (ef_rm6 m self) ?_
  have lt_self : self < h0.size := G0.lt
  show Comes p e below _ (s₁.setTop (mkF m 0 #[.val (.ref self)] []))
  refine Comes.st (fun t k => XS.aloadN X0.here hx rfl (hb hby d6_0) rfl rfl k) ?_
  show Comes p e below _ (s₁.setTop (mkF m 1 #[.val (.ref self)] [(.ref self)]))
  obtain ⟨T1, X1, e1, st1⟩ := getF X0 hx hZ hown (host := "") (Or.inl (hw _ (List.mem_of_getElem? (i := 18) rfl))) Via.refl e0 G2 (g := (mkF m 1 #[.val (.ref self)] [(.ref self)])) rfl rfl (hb hby d6_1)
  refine Comes.st st1 ?_
  show Comes p e below _ (T1.setTop (mkF m 4 #[.val (.ref self)] [(.int qf)]))
  refine Comes.st (fun t k => XS.aloadN X1.here hx rfl (hb hby d6_4) rfl rfl k) ?_
  show Comes p e below _ (T1.setTop (mkF m 5 #[.val (.ref self)] [(.ref self), (.int qf)]))
  obtain ⟨T2, X2, e2, st2⟩ := getF X1 hx hZ hown (host := "") (Or.inl (hw _ (List.mem_of_getElem? (i := 14) rfl))) Via.refl e1 G0 (g := (mkF m 5 #[.val (.ref self)] [(.ref self), (.int qf)])) rfl rfl (hb hby d6_5)
  refine Comes.st st2 ?_
  show Comes p e below _ (T2.setTop (mkF m 8 #[.val (.ref self)] [(.int qs), (.int qf)]))
  by_cases hc8_3 : qf = qs
  · refine Comes.st (fun t k => XS.icmpYes X2.here hx rfl (pc0 := 8) (pc' := 22) rfl (hb hby d6_8) rfl (teq hc8_3).1 (by decide) (by decide) (XS.iconst X2.here hx rfl (hb hby d6_22) (XS.goto X2.here hx rfl (pc0 := 23) (pc' := 27) rfl (hb hby d6_23) (by decide) (by decide) k))) ?_
    show Comes p e below _ (T2.setTop (mkF m 27 #[.val (.ref self)] [(.int (1 : Int32))]))
    exact Comes.retN X2 hx (t := .boolean) Bd.returns (by simp) hlk (hb hby d6_27) e2 ⟨(1 : Int32), rfl, N0, rfl, (by first | exact Or.inl ⟨by assumption, rfl⟩ | exact Or.inr (Or.inl ⟨by assumption, by assumption, rfl⟩) | exact Or.inr (Or.inr ⟨by assumption, by assumption, rfl⟩))⟩ (by decide) (by decide)
  · refine Comes.st (fun t k => XS.icmpNo X2.here hx rfl (hb hby d6_8) rfl (feq hc8_3).1 (XS.aloadN X2.here hx rfl (hb hby d6_11) rfl rfl k)) ?_
    show Comes p e below _ (T2.setTop (mkF m 12 #[.val (.ref self)] [(.ref self)]))
    obtain ⟨T4, X4, e4, st4⟩ := getF X2 hx hZ hown (host := "") (Or.inl (hw _ (List.mem_of_getElem? (i := 29) rfl))) Via.refl e2 G3 (g := (mkF m 12 #[.val (.ref self)] [(.ref self)])) rfl rfl (hb hby d6_12)
    refine Comes.st st4 ?_
    show Comes p e below _ (T4.setTop (mkF m 15 #[.val (.ref self)] [(.int wf)]))
    refine Comes.st (fun t k => XS.aloadN X4.here hx rfl (hb hby d6_15) rfl rfl k) ?_
    show Comes p e below _ (T4.setTop (mkF m 16 #[.val (.ref self)] [(.ref self), (.int wf)]))
    obtain ⟨T5, X5, e5, st5⟩ := getF X4 hx hZ hown (host := "") (Or.inl (hw _ (List.mem_of_getElem? (i := 16) rfl))) Via.refl e4 G1 (g := (mkF m 16 #[.val (.ref self)] [(.ref self), (.int wf)])) rfl rfl (hb hby d6_16)
    refine Comes.st st5 ?_
    show Comes p e below _ (T5.setTop (mkF m 19 #[.val (.ref self)] [(.int lw), (.int wf)]))
    by_cases hc19_6 : wf = lw
    · refine Comes.st (fun t k => XS.icmpNo X5.here hx rfl (hb hby d6_19) rfl (teq hc19_6).2 (XS.iconst X5.here hx rfl (hb hby d6_22) (XS.goto X5.here hx rfl (pc0 := 23) (pc' := 27) rfl (hb hby d6_23) (by decide) (by decide) k))) ?_
      show Comes p e below _ (T5.setTop (mkF m 27 #[.val (.ref self)] [(.int (1 : Int32))]))
      exact Comes.retN X5 hx (t := .boolean) Bd.returns (by simp) hlk (hb hby d6_27) e5 ⟨(1 : Int32), rfl, N0, rfl, (by first | exact Or.inl ⟨by assumption, rfl⟩ | exact Or.inr (Or.inl ⟨by assumption, by assumption, rfl⟩) | exact Or.inr (Or.inr ⟨by assumption, by assumption, rfl⟩))⟩ (by decide) (by decide)
    · refine Comes.st (fun t k => XS.icmpYes X5.here hx rfl (pc0 := 19) (pc' := 26) rfl (hb hby d6_19) rfl (feq hc19_6).2 (by decide) (by decide) (XS.iconst X5.here hx rfl (hb hby d6_26) k)) ?_
      show Comes p e below _ (T5.setTop (mkF m 27 #[.val (.ref self)] [(.int (0 : Int32))]))
      exact Comes.retN X5 hx (t := .boolean) Bd.returns (by simp) hlk (hb hby d6_27) e5 ⟨(0 : Int32), rfl, N0, rfl, (by first | exact Or.inl ⟨by assumption, rfl⟩ | exact Or.inr (Or.inl ⟨by assumption, by assumption, rfl⟩) | exact Or.inr (Or.inr ⟨by assumption, by assumption, rfl⟩))⟩ (by decide) (by decide)
def Q_rm7 (Z : State) (self : Addr) (qs : Int32) (lw : Int32) (qf : Int32) (wf : Int32) (h0 : Heap) (n0 : Nat) (v : Option Value) (h : Heap) (L : List Loc) : Prop := (v = none) ∧ (Fr n0 L) ∧ (Keep h0 h [self]) ∧ (Exa Z h self "com/example/evenring/evenring/Intake") ∧ (Fld Z h self "com/example/evenring/evenring/Intake" "quietSpell" "I" (.int qs)) ∧ (Fld Z h self "com/example/evenring/evenring/Intake" "longestWait" "I" (.int lw)) ∧ (Fld Z h self "com/example/evenring/evenring/Intake" "quietFor" "I" (.int qf)) ∧ (Fld Z h self "com/example/evenring/evenring/Intake" "waitedFor" "I" (.int (0 : Int32)))
set_option maxRecDepth 65536 in
set_option maxHeartbeats 40000000 in
theorem rm7 (l : Launch) (Z : State) (a0 : Array Value) (hw : ∀ d ∈ tables_1, d.before a0 Z = true) (ws : List Jvm.Cond) (self : Addr) (qs : Int32) (lw : Int32) (qf : Int32) (wf : Int32) (h0 : Heap) (n0 : Nat) (Z0 : n0 ≤ h0.size) (G0 : Exa Z h0 self "com/example/evenring/evenring/Intake") (G1 : Fld Z h0 self "com/example/evenring/evenring/Intake" "quietSpell" "I" (.int qs)) (G2 : Fld Z h0 self "com/example/evenring/evenring/Intake" "longestWait" "I" (.int lw)) (G3 : Fld Z h0 self "com/example/evenring/evenring/Intake" "quietFor" "I" (.int qf)) (G4 : Fld Z h0 self "com/example/evenring/evenring/Intake" "waitedFor" "I" (.int wf)) (G5 : n0 ≤ self) :
    MetFree l (⟨"com/example/evenring/evenring/Intake", "weighed", "()V"⟩ : MethodName) (head1 (Jvm.Cond.code (⟨"com/example/evenring/evenring/Intake", "weighed", "()V"⟩ : MethodName) prog_21_method_4_code 1 none :: ws) ({ frames := 0, cells := 0, slots := 0, locals := 0 } : Room)) (fun a U => a = #[(.ref self)] ∧ Z.Warmed39 U.vm ∧ U.heap = h0) (fun _ _ _ _ _ => True) (fun _ U o U' => ∃ v L, o = .returned v ∧ Q_rm7 Z self qs lw qf wf h0 n0 v U'.heap L ∧ FrameEnd U o U' L ({ frames := 0, cells := 0, slots := 0, locals := 0 } : Room).cells ({ frames := 0, cells := 0, slots := 0, locals := 0 } : Room).slots) := by
  refine MetFree.of_bodySF (plainFor_of_name pn_7) hisR ?_
  intro p e s m args below meth c s₁ Bd hml0 hP hK
  obtain ⟨rfl, hZ, hh⟩ := hP
  have hx := Bd.exec
  have hby := Bd.bytes
  have hml : c.maxLocals = 1 := hml0
  have hown : s.vm.findClass "com/example/evenring/evenring/Intake" = some m.cls := findClass_of_methodNamed Bd.named
  have hnm := (name_of_methodNamed Bd.named Bd.method).1
  have hlk : meth.locks = false := Bd.notSynchronized
  have X0 : Stand p l e ({ frames := 0, cells := 0, slots := 0, locals := 0 } : Room) s m #[(.ref self)] below meth c s₁ [] 0 0 := Stand.of_body Bd
  have e0 : s₁.heap = h0 := by rw [← hh, Bd.state]; rfl
  have N0 := Fr.nil n0
  have K0 := Keep.refl h0 [self]
  refine Comes.out (Q := Q_rm7 Z self qs lw qf wf h0 n0) (kc := ({ frames := 0, cells := 0, slots := 0, locals := 0 } : Room).cells) (ks := ({ frames := 0, cells := 0, slots := 0, locals := 0 } : Room).slots) ?_
  refine Comes.cast (ef_rm7 m self) ?_
  have lt_self : self < h0.size := G0.lt
  show Comes p e below _ (s₁.setTop (mkF m 0 #[.val (.ref self)] []))
  refine Comes.st (fun t k => XS.aloadN X0.here hx rfl (hb hby d7_0) rfl rfl (XS.iconst X0.here hx rfl (hb hby d7_1) k)) ?_
  show Comes p e below _ (s₁.setTop (mkF m 2 #[.val (.ref self)] [(.int (0 : Int32)), (.ref self)]))
  obtain ⟨T1, h1, X1, e1, W1, st1⟩ := putF X0 hx hZ hown (host := "") (Or.inl (hw _ (List.mem_of_getElem? (i := 29) rfl))) Via.refl e0 G4 G0 (Or.inl (hw _ (List.mem_of_getElem? (i := 30) rfl))) (hw _ (List.mem_of_getElem? (i := 6) rfl)) (ty := .int) (by decide) rfl rfl (g := (mkF m 2 #[.val (.ref self)] [(.int (0 : Int32)), (.ref self)])) rfl rfl (hb hby d7_2)
  have Fw1 := G4.same W1
  have z1 : h1.size = h0.size := W1.size
  have N1 := Fr.snoc X1 N0 (by omega)
  have K1 : Keep h0 h1 [self] := K0.wr W1 (Or.inl (List.mem_of_getElem? (i := 0) rfl))
  refine Comes.st st1 ?_
  show Comes p e below _ (T1.setTop (mkF m 5 #[.val (.ref self)] []))
  have F2 : Exa Z h1 self "com/example/evenring/evenring/Intake" := (G0.wr W1)
  have F3 : Fld Z h1 self "com/example/evenring/evenring/Intake" "quietSpell" "I" (.int qs) := (G1.other W1 (Or.inr (slot_ne (Or.inr (hw _ (List.mem_of_getElem? (i := 15) rfl))) (Or.inl (hw _ (List.mem_of_getElem? (i := 30) rfl))) (by decide) (t := .int) (t' := .int) (by decide) (by decide))))
  have F4 : Fld Z h1 self "com/example/evenring/evenring/Intake" "longestWait" "I" (.int lw) := (G2.other W1 (Or.inr (slot_ne (Or.inr (hw _ (List.mem_of_getElem? (i := 17) rfl))) (Or.inl (hw _ (List.mem_of_getElem? (i := 30) rfl))) (by decide) (t := .int) (t' := .int) (by decide) (by decide))))
  have F5 : Fld Z h1 self "com/example/evenring/evenring/Intake" "quietFor" "I" (.int qf) := (G3.other W1 (Or.inr (slot_ne (Or.inl (hw _ (List.mem_of_getElem? (i := 19) rfl))) (Or.inl (hw _ (List.mem_of_getElem? (i := 30) rfl))) (by decide) (t := .int) (t' := .int) (by decide) (by decide))))
  exact Comes.ret0 X1 hx Bd.returns hlk (hb hby d7_5) e1 ⟨rfl, N1, K1, F2, F3, F4, F5, Fw1⟩ (by decide) (by decide)
def Q_rm0 (Z : State) (ia : Int32) (ib : Int32) (ic : Int32) (h0 : Heap) (n0 : Nat) (v : Option Value) (h : Heap) (L : List Loc) : Prop := (v = some (.int (1 : Int32))) ∧ (Fr n0 L)
set_option maxRecDepth 65536 in
set_option maxHeartbeats 40000000 in
theorem rm0 (l : Launch) (Z : State) (a0 : Array Value) (hw : ∀ d ∈ tables_1, d.before a0 Z = true) (ws : List Jvm.Cond) (ia : Int32) (ib : Int32) (ic : Int32) (h0 : Heap) (n0 : Nat) (Z0 : n0 ≤ h0.size) :
    MetFree l x (head1 (Jvm.Cond.code x code maxLocals ret :: ws) room_1) (fun a U => a = #[(.int ia), (.int ib), (.int ic)] ∧ Z.Warmed39 U.vm ∧ U.heap = h0) (fun _ _ _ _ _ => True) (fun _ U o U' => ∃ v L, o = .returned v ∧ Q_rm0 Z ia ib ic h0 n0 v U'.heap L ∧ FrameEnd U o U' L room_1.cells room_1.slots) := by
  refine MetFree.of_bodySF (plainFor_of_name pn_0) hisR ?_
  intro p e s m args below meth c s₁ Bd hml0 hP hK
  obtain ⟨rfl, hZ, hh⟩ := hP
  have hx := Bd.exec
  have hby := Bd.bytes
  have hml : c.maxLocals = 23 := hml0
  have hown : s.vm.findClass "com/example/evenring/evenring/IntakeHasComeInPinLaw" = some m.cls := findClass_of_methodNamed Bd.named
  have hnm := (name_of_methodNamed Bd.named Bd.method).1
  have hlk : meth.locks = false := Bd.notSynchronized
  have X0 : Stand p l e room_1 s m #[(.int ia), (.int ib), (.int ic)] below meth c s₁ [] 0 0 := Stand.of_body Bd
  have e0 : s₁.heap = h0 := by rw [← hh, Bd.state]; rfl
  have N0 := Fr.nil n0
  refine Comes.out (Q := Q_rm0 Z ia ib ic h0 n0) (kc := room_1.cells) (ks := room_1.slots) ?_
  refine Comes.cast (ef_rm0 m ia ib ic) ?_
  show Comes p e below _ (s₁.setTop (mkF m 0 #[.val (.int ia), .val (.int ib), .val (.int ic), .unset, .unset, .unset, .unset, .unset, .unset, .unset, .unset, .unset, .unset, .unset, .unset, .unset, .unset, .unset, .unset, .unset, .unset, .unset, .unset] []))
  refine Comes.st (fun t k => XS.iloadN X0.here hx rfl (hb hby at_0) rfl k) ?_
  show Comes p e below _ (s₁.setTop (mkF m 1 #[.val (.int ia), .val (.int ib), .val (.int ic), .unset, .unset, .unset, .unset, .unset, .unset, .unset, .unset, .unset, .unset, .unset, .unset, .unset, .unset, .unset, .unset, .unset, .unset, .unset, .unset] [(.int ia)]))
  obtain ⟨_, _, ⟨T1, L1, k1, n1⟩, -, X1, ⟨Lc1, hQ1, l1, y1, z1⟩, st1⟩ := Jvm.LawKit.callS X0 hx (y := (⟨"com/example/evenring/evenring/IntakeHasComeInPinLaw", "size", "(I)I"⟩ : MethodName)) hown (mvT hZ (hw _ (List.mem_of_getElem? (i := 0) rfl))) (mvT hZ (hw _ (List.mem_of_getElem? (i := 1) rfl))) (mvT hZ (hw _ (List.mem_of_getElem? (i := 2) rfl))) (mvT hZ (hw _ (List.mem_of_getElem? (i := 3) rfl))) (by decide) (backOf (W := 0) (rm1 l Z a0 hw [] ia h0 n0 (by omega)  ) hZ (hw _ (List.mem_of_getElem? (i := 3) rfl)) (hw _ (List.mem_of_getElem? (i := 2) rfl)) (by decide) (by decide)) (g := (mkF m 1 #[.val (.int ia), .val (.int ib), .val (.int ic), .unset, .unset, .unset, .unset, .unset, .unset, .unset, .unset, .unset, .unset, .unset, .unset, .unset, .unset, .unset, .unset, .unset, .unset, .unset, .unset] [(.int ia)])) rfl (by rw [hml]; rfl) (argsL := [(.int ia)]) (rest := []) (lenOf pd_1 rfl) rfl (by show 2 * 0 + _ ≤ _; exact Nat.le_of_eq rfl) (hb hby at_1) (fun _ _ => ⟨rfl, e0, (by decide : 0 + 0 ≤ _), (by decide : 0 + 0 ≤ _)⟩)
  dsimp only [Pt.U, Pt.locs, Pt.cells, Pt.slots] at X1 l1 y1 z1 st1 hQ1
  subst l1 y1 z1
  obtain ⟨r2, rfl, Nq1, hs1, P1_0⟩ := hQ1
  have N1 := Fr.app N0 Nq1
  refine Comes.st st1 ?_
  show Comes p e below _ (T1.setTop (mkF m 4 #[.val (.int ia), .val (.int ib), .val (.int ic), .unset, .unset, .unset, .unset, .unset, .unset, .unset, .unset, .unset, .unset, .unset, .unset, .unset, .unset, .unset, .unset, .unset, .unset, .unset, .unset] [(.int r2)]))
  refine Comes.st (fun t k => XS.istoreN X1.here hx rfl (hb hby at_4) rfl (l' := #[.val (.int ia), .val (.int ib), .val (.int ic), .val (.int r2), .unset, .unset, .unset, .unset, .unset, .unset, .unset, .unset, .unset, .unset, .unset, .unset, .unset, .unset, .unset, .unset, .unset, .unset, .unset]) rfl (XS.iloadN X1.here hx rfl (hb hby at_5) rfl k)) ?_
  show Comes p e below _ (T1.setTop (mkF m 6 #[.val (.int ia), .val (.int ib), .val (.int ic), .val (.int r2), .unset, .unset, .unset, .unset, .unset, .unset, .unset, .unset, .unset, .unset, .unset, .unset, .unset, .unset, .unset, .unset, .unset, .unset, .unset] [(.int ib)]))
  obtain ⟨_, _, ⟨T3, L3, k3, n3⟩, -, X3, ⟨Lc3, hQ3, l3, y3, z3⟩, st3⟩ := Jvm.LawKit.callS X1 hx (y := (⟨"com/example/evenring/evenring/IntakeHasComeInPinLaw", "size", "(I)I"⟩ : MethodName)) hown (mvT hZ (hw _ (List.mem_of_getElem? (i := 0) rfl))) (mvT hZ (hw _ (List.mem_of_getElem? (i := 1) rfl))) (mvT hZ (hw _ (List.mem_of_getElem? (i := 2) rfl))) (mvT hZ (hw _ (List.mem_of_getElem? (i := 3) rfl))) (by decide) (backOf (W := 0) (rm1 l Z a0 hw [] ib h0 n0 (by omega)  ) hZ (hw _ (List.mem_of_getElem? (i := 3) rfl)) (hw _ (List.mem_of_getElem? (i := 2) rfl)) (by decide) (by decide)) (g := (mkF m 6 #[.val (.int ia), .val (.int ib), .val (.int ic), .val (.int r2), .unset, .unset, .unset, .unset, .unset, .unset, .unset, .unset, .unset, .unset, .unset, .unset, .unset, .unset, .unset, .unset, .unset, .unset, .unset] [(.int ib)])) rfl (by rw [hml]; rfl) (argsL := [(.int ib)]) (rest := []) (lenOf pd_1 rfl) rfl (by show 2 * 0 + _ ≤ _; exact Nat.le_of_eq rfl) (hb hby at_6) (fun _ _ => ⟨rfl, hs1, (by decide : 0 + 0 ≤ _), (by decide : 0 + 0 ≤ _)⟩)
  dsimp only [Pt.U, Pt.locs, Pt.cells, Pt.slots] at X3 l3 y3 z3 st3 hQ3
  subst l3 y3 z3
  obtain ⟨r4, rfl, Nq3, hs3, P3_0⟩ := hQ3
  have N3 := Fr.app N1 Nq3
  refine Comes.st st3 ?_
  show Comes p e below _ (T3.setTop (mkF m 9 #[.val (.int ia), .val (.int ib), .val (.int ic), .val (.int r2), .unset, .unset, .unset, .unset, .unset, .unset, .unset, .unset, .unset, .unset, .unset, .unset, .unset, .unset, .unset, .unset, .unset, .unset, .unset] [(.int r4)]))
  refine Comes.st (fun t k => XS.istore X3.here hx rfl (hb hby at_9) rfl (l' := #[.val (.int ia), .val (.int ib), .val (.int ic), .val (.int r2), .val (.int r4), .unset, .unset, .unset, .unset, .unset, .unset, .unset, .unset, .unset, .unset, .unset, .unset, .unset, .unset, .unset, .unset, .unset, .unset]) rfl (XS.iloadN X3.here hx rfl (hb hby at_11) rfl (XS.iconst X3.here hx rfl (hb hby at_12) (XS.iand X3.here hx rfl (hb hby at_13) rfl k)))) ?_
  have J5 : Comes p e below (fun S' => ∃ (T' : State), ∃ (L' : List Loc), ∃ (j7 : Int32), (S' = T'.setTop (mkF m 22 #[.val (.int ia), .val (.int ib), .val (.int ic), .val (.int r2), .val (.int r4), .unset, .unset, .unset, .unset, .unset, .unset, .unset, .unset, .unset, .unset, .unset, .unset, .unset, .unset, .unset, .unset, .unset, .unset] [(.int j7)])) ∧ (Stand p l e room_1 s m #[(.int ia), (.int ib), (.int ic)] below meth c T' L' 0 0) ∧ (T'.heap = h0) ∧ (Fr n0 L') ∧ (j7 = (0 : Int32) ∨ j7 = (1 : Int32))) (T3.setTop (mkF m 14 #[.val (.int ia), .val (.int ib), .val (.int ic), .val (.int r2), .val (.int r4), .unset, .unset, .unset, .unset, .unset, .unset, .unset, .unset, .unset, .unset, .unset, .unset, .unset, .unset, .unset, .unset, .unset, .unset] [(.int (ic &&& (1 : Int32)))])) := by
    show Comes p e below _ (T3.setTop (mkF m 14 #[.val (.int ia), .val (.int ib), .val (.int ic), .val (.int r2), .val (.int r4), .unset, .unset, .unset, .unset, .unset, .unset, .unset, .unset, .unset, .unset, .unset, .unset, .unset, .unset, .unset, .unset, .unset, .unset] [(.int (ic &&& (1 : Int32)))]))
    by_cases hc14_6 : (ic &&& (1 : Int32)) = (0 : Int32)
    · refine Comes.st (fun t k => XS.ifYes X3.here hx rfl (pc0 := 14) (pc' := 21) rfl (hb hby at_14) rfl ((if0 _ _).trans (teq hc14_6).1) (by decide) (by decide) (XS.iconst X3.here hx rfl (hb hby at_21) k)) ?_
      show Comes p e below _ (T3.setTop (mkF m 22 #[.val (.int ia), .val (.int ib), .val (.int ic), .val (.int r2), .val (.int r4), .unset, .unset, .unset, .unset, .unset, .unset, .unset, .unset, .unset, .unset, .unset, .unset, .unset, .unset, .unset, .unset, .unset, .unset] [(.int (0 : Int32))]))
      exact Comes.here ⟨_, _, (0 : Int32), rfl, X3, hs3, N3, (by first | exact Or.inl rfl | exact Or.inr rfl)⟩
    · refine Comes.st (fun t k => XS.ifNo X3.here hx rfl (hb hby at_14) rfl ((if0 _ _).trans (feq hc14_6).1) (XS.iconst X3.here hx rfl (hb hby at_17) (XS.goto X3.here hx rfl (pc0 := 18) (pc' := 22) rfl (hb hby at_18) (by decide) (by decide) k))) ?_
      show Comes p e below _ (T3.setTop (mkF m 22 #[.val (.int ia), .val (.int ib), .val (.int ic), .val (.int r2), .val (.int r4), .unset, .unset, .unset, .unset, .unset, .unset, .unset, .unset, .unset, .unset, .unset, .unset, .unset, .unset, .unset, .unset, .unset, .unset] [(.int (1 : Int32))]))
      exact Comes.here ⟨_, _, (1 : Int32), rfl, X3, hs3, N3, (by first | exact Or.inl rfl | exact Or.inr rfl)⟩
  obtain ⟨_, st8, T8, L8, j7, rfl, X8, e8, N8, rel8⟩ := J5
  refine Comes.go st8 ?_
  show Comes p e below _ (T8.setTop (mkF m 22 #[.val (.int ia), .val (.int ib), .val (.int ic), .val (.int r2), .val (.int r4), .unset, .unset, .unset, .unset, .unset, .unset, .unset, .unset, .unset, .unset, .unset, .unset, .unset, .unset, .unset, .unset, .unset, .unset] [(.int j7)]))
  refine Comes.st (fun t k => XS.istore X8.here hx rfl (hb hby at_22) rfl (l' := #[.val (.int ia), .val (.int ib), .val (.int ic), .val (.int r2), .val (.int r4), .val (.int j7), .unset, .unset, .unset, .unset, .unset, .unset, .unset, .unset, .unset, .unset, .unset, .unset, .unset, .unset, .unset, .unset, .unset]) rfl (XS.iloadN X8.here hx rfl (hb hby at_24) rfl (XS.iconst X8.here hx rfl (hb hby at_25) (XS.iand X8.here hx rfl (hb hby at_26) rfl k)))) ?_
  have J9 : Comes p e below (fun S' => ∃ (T' : State), ∃ (L' : List Loc), ∃ (j11 : Int32), (S' = T'.setTop (mkF m 35 #[.val (.int ia), .val (.int ib), .val (.int ic), .val (.int r2), .val (.int r4), .val (.int j7), .unset, .unset, .unset, .unset, .unset, .unset, .unset, .unset, .unset, .unset, .unset, .unset, .unset, .unset, .unset, .unset, .unset] [(.int j11)])) ∧ (Stand p l e room_1 s m #[(.int ia), (.int ib), (.int ic)] below meth c T' L' 0 0) ∧ (T'.heap = h0) ∧ (Fr n0 L') ∧ (j11 = (0 : Int32) ∨ j11 = (1 : Int32))) (T8.setTop (mkF m 27 #[.val (.int ia), .val (.int ib), .val (.int ic), .val (.int r2), .val (.int r4), .val (.int j7), .unset, .unset, .unset, .unset, .unset, .unset, .unset, .unset, .unset, .unset, .unset, .unset, .unset, .unset, .unset, .unset, .unset] [(.int (ic &&& (2 : Int32)))])) := by
    show Comes p e below _ (T8.setTop (mkF m 27 #[.val (.int ia), .val (.int ib), .val (.int ic), .val (.int r2), .val (.int r4), .val (.int j7), .unset, .unset, .unset, .unset, .unset, .unset, .unset, .unset, .unset, .unset, .unset, .unset, .unset, .unset, .unset, .unset, .unset] [(.int (ic &&& (2 : Int32)))]))
    by_cases hc27_10 : (ic &&& (2 : Int32)) = (0 : Int32)
    · refine Comes.st (fun t k => XS.ifYes X8.here hx rfl (pc0 := 27) (pc' := 34) rfl (hb hby at_27) rfl ((if0 _ _).trans (teq hc27_10).1) (by decide) (by decide) (XS.iconst X8.here hx rfl (hb hby at_34) k)) ?_
      show Comes p e below _ (T8.setTop (mkF m 35 #[.val (.int ia), .val (.int ib), .val (.int ic), .val (.int r2), .val (.int r4), .val (.int j7), .unset, .unset, .unset, .unset, .unset, .unset, .unset, .unset, .unset, .unset, .unset, .unset, .unset, .unset, .unset, .unset, .unset] [(.int (0 : Int32))]))
      exact Comes.here ⟨_, _, (0 : Int32), rfl, X8, e8, N8, (by first | exact Or.inl rfl | exact Or.inr rfl)⟩
    · refine Comes.st (fun t k => XS.ifNo X8.here hx rfl (hb hby at_27) rfl ((if0 _ _).trans (feq hc27_10).1) (XS.iconst X8.here hx rfl (hb hby at_30) (XS.goto X8.here hx rfl (pc0 := 31) (pc' := 35) rfl (hb hby at_31) (by decide) (by decide) k))) ?_
      show Comes p e below _ (T8.setTop (mkF m 35 #[.val (.int ia), .val (.int ib), .val (.int ic), .val (.int r2), .val (.int r4), .val (.int j7), .unset, .unset, .unset, .unset, .unset, .unset, .unset, .unset, .unset, .unset, .unset, .unset, .unset, .unset, .unset, .unset, .unset] [(.int (1 : Int32))]))
      exact Comes.here ⟨_, _, (1 : Int32), rfl, X8, e8, N8, (by first | exact Or.inl rfl | exact Or.inr rfl)⟩
  obtain ⟨_, st12, T12, L12, j11, rfl, X12, e12, N12, rel12⟩ := J9
  refine Comes.go st12 ?_
  show Comes p e below _ (T12.setTop (mkF m 35 #[.val (.int ia), .val (.int ib), .val (.int ic), .val (.int r2), .val (.int r4), .val (.int j7), .unset, .unset, .unset, .unset, .unset, .unset, .unset, .unset, .unset, .unset, .unset, .unset, .unset, .unset, .unset, .unset, .unset] [(.int j11)]))
  refine Comes.st (fun t k => XS.istore X12.here hx rfl (hb hby at_35) rfl (l' := #[.val (.int ia), .val (.int ib), .val (.int ic), .val (.int r2), .val (.int r4), .val (.int j7), .val (.int j11), .unset, .unset, .unset, .unset, .unset, .unset, .unset, .unset, .unset, .unset, .unset, .unset, .unset, .unset, .unset, .unset]) rfl (XS.iloadN X12.here hx rfl (hb hby at_37) rfl (XS.iconst X12.here hx rfl (hb hby at_38) (XS.iand X12.here hx rfl (hb hby at_39) rfl k)))) ?_
  have J13 : Comes p e below (fun S' => ∃ (T' : State), ∃ (L' : List Loc), ∃ (j15 : Int32), (S' = T'.setTop (mkF m 48 #[.val (.int ia), .val (.int ib), .val (.int ic), .val (.int r2), .val (.int r4), .val (.int j7), .val (.int j11), .unset, .unset, .unset, .unset, .unset, .unset, .unset, .unset, .unset, .unset, .unset, .unset, .unset, .unset, .unset, .unset] [(.int j15)])) ∧ (Stand p l e room_1 s m #[(.int ia), (.int ib), (.int ic)] below meth c T' L' 0 0) ∧ (T'.heap = h0) ∧ (Fr n0 L') ∧ (j15 = (0 : Int32) ∨ j15 = (1 : Int32))) (T12.setTop (mkF m 40 #[.val (.int ia), .val (.int ib), .val (.int ic), .val (.int r2), .val (.int r4), .val (.int j7), .val (.int j11), .unset, .unset, .unset, .unset, .unset, .unset, .unset, .unset, .unset, .unset, .unset, .unset, .unset, .unset, .unset, .unset] [(.int (ic &&& (4 : Int32)))])) := by
    show Comes p e below _ (T12.setTop (mkF m 40 #[.val (.int ia), .val (.int ib), .val (.int ic), .val (.int r2), .val (.int r4), .val (.int j7), .val (.int j11), .unset, .unset, .unset, .unset, .unset, .unset, .unset, .unset, .unset, .unset, .unset, .unset, .unset, .unset, .unset, .unset] [(.int (ic &&& (4 : Int32)))]))
    by_cases hc40_14 : (ic &&& (4 : Int32)) = (0 : Int32)
    · refine Comes.st (fun t k => XS.ifYes X12.here hx rfl (pc0 := 40) (pc' := 47) rfl (hb hby at_40) rfl ((if0 _ _).trans (teq hc40_14).1) (by decide) (by decide) (XS.iconst X12.here hx rfl (hb hby at_47) k)) ?_
      show Comes p e below _ (T12.setTop (mkF m 48 #[.val (.int ia), .val (.int ib), .val (.int ic), .val (.int r2), .val (.int r4), .val (.int j7), .val (.int j11), .unset, .unset, .unset, .unset, .unset, .unset, .unset, .unset, .unset, .unset, .unset, .unset, .unset, .unset, .unset, .unset] [(.int (0 : Int32))]))
      exact Comes.here ⟨_, _, (0 : Int32), rfl, X12, e12, N12, (by first | exact Or.inl rfl | exact Or.inr rfl)⟩
    · refine Comes.st (fun t k => XS.ifNo X12.here hx rfl (hb hby at_40) rfl ((if0 _ _).trans (feq hc40_14).1) (XS.iconst X12.here hx rfl (hb hby at_43) (XS.goto X12.here hx rfl (pc0 := 44) (pc' := 48) rfl (hb hby at_44) (by decide) (by decide) k))) ?_
      show Comes p e below _ (T12.setTop (mkF m 48 #[.val (.int ia), .val (.int ib), .val (.int ic), .val (.int r2), .val (.int r4), .val (.int j7), .val (.int j11), .unset, .unset, .unset, .unset, .unset, .unset, .unset, .unset, .unset, .unset, .unset, .unset, .unset, .unset, .unset, .unset] [(.int (1 : Int32))]))
      exact Comes.here ⟨_, _, (1 : Int32), rfl, X12, e12, N12, (by first | exact Or.inl rfl | exact Or.inr rfl)⟩
  obtain ⟨_, st16, T16, L16, j15, rfl, X16, e16, N16, rel16⟩ := J13
  refine Comes.go st16 ?_
  show Comes p e below _ (T16.setTop (mkF m 48 #[.val (.int ia), .val (.int ib), .val (.int ic), .val (.int r2), .val (.int r4), .val (.int j7), .val (.int j11), .unset, .unset, .unset, .unset, .unset, .unset, .unset, .unset, .unset, .unset, .unset, .unset, .unset, .unset, .unset, .unset] [(.int j15)]))
  refine Comes.st (fun t k => XS.istore X16.here hx rfl (hb hby at_48) rfl (l' := #[.val (.int ia), .val (.int ib), .val (.int ic), .val (.int r2), .val (.int r4), .val (.int j7), .val (.int j11), .val (.int j15), .unset, .unset, .unset, .unset, .unset, .unset, .unset, .unset, .unset, .unset, .unset, .unset, .unset, .unset, .unset]) rfl (XS.iloadN X16.here hx rfl (hb hby at_50) rfl (XS.bipush X16.here hx rfl (hb hby at_51) (XS.iand X16.here hx rfl (hb hby at_53) rfl k)))) ?_
  have J17 : Comes p e below (fun S' => ∃ (T' : State), ∃ (L' : List Loc), ∃ (j19 : Int32), (S' = T'.setTop (mkF m 62 #[.val (.int ia), .val (.int ib), .val (.int ic), .val (.int r2), .val (.int r4), .val (.int j7), .val (.int j11), .val (.int j15), .unset, .unset, .unset, .unset, .unset, .unset, .unset, .unset, .unset, .unset, .unset, .unset, .unset, .unset, .unset] [(.int j19)])) ∧ (Stand p l e room_1 s m #[(.int ia), (.int ib), (.int ic)] below meth c T' L' 0 0) ∧ (T'.heap = h0) ∧ (Fr n0 L') ∧ (j19 = (0 : Int32) ∨ j19 = (1 : Int32))) (T16.setTop (mkF m 54 #[.val (.int ia), .val (.int ib), .val (.int ic), .val (.int r2), .val (.int r4), .val (.int j7), .val (.int j11), .val (.int j15), .unset, .unset, .unset, .unset, .unset, .unset, .unset, .unset, .unset, .unset, .unset, .unset, .unset, .unset, .unset] [(.int (ic &&& (8 : Int32)))])) := by
    show Comes p e below _ (T16.setTop (mkF m 54 #[.val (.int ia), .val (.int ib), .val (.int ic), .val (.int r2), .val (.int r4), .val (.int j7), .val (.int j11), .val (.int j15), .unset, .unset, .unset, .unset, .unset, .unset, .unset, .unset, .unset, .unset, .unset, .unset, .unset, .unset, .unset] [(.int (ic &&& (8 : Int32)))]))
    by_cases hc54_18 : (ic &&& (8 : Int32)) = (0 : Int32)
    · refine Comes.st (fun t k => XS.ifYes X16.here hx rfl (pc0 := 54) (pc' := 61) rfl (hb hby at_54) rfl ((if0 _ _).trans (teq hc54_18).1) (by decide) (by decide) (XS.iconst X16.here hx rfl (hb hby at_61) k)) ?_
      show Comes p e below _ (T16.setTop (mkF m 62 #[.val (.int ia), .val (.int ib), .val (.int ic), .val (.int r2), .val (.int r4), .val (.int j7), .val (.int j11), .val (.int j15), .unset, .unset, .unset, .unset, .unset, .unset, .unset, .unset, .unset, .unset, .unset, .unset, .unset, .unset, .unset] [(.int (0 : Int32))]))
      exact Comes.here ⟨_, _, (0 : Int32), rfl, X16, e16, N16, (by first | exact Or.inl rfl | exact Or.inr rfl)⟩
    · refine Comes.st (fun t k => XS.ifNo X16.here hx rfl (hb hby at_54) rfl ((if0 _ _).trans (feq hc54_18).1) (XS.iconst X16.here hx rfl (hb hby at_57) (XS.goto X16.here hx rfl (pc0 := 58) (pc' := 62) rfl (hb hby at_58) (by decide) (by decide) k))) ?_
      show Comes p e below _ (T16.setTop (mkF m 62 #[.val (.int ia), .val (.int ib), .val (.int ic), .val (.int r2), .val (.int r4), .val (.int j7), .val (.int j11), .val (.int j15), .unset, .unset, .unset, .unset, .unset, .unset, .unset, .unset, .unset, .unset, .unset, .unset, .unset, .unset, .unset] [(.int (1 : Int32))]))
      exact Comes.here ⟨_, _, (1 : Int32), rfl, X16, e16, N16, (by first | exact Or.inl rfl | exact Or.inr rfl)⟩
  obtain ⟨_, st20, T20, L20, j19, rfl, X20, e20, N20, rel20⟩ := J17
  refine Comes.go st20 ?_
  show Comes p e below _ (T20.setTop (mkF m 62 #[.val (.int ia), .val (.int ib), .val (.int ic), .val (.int r2), .val (.int r4), .val (.int j7), .val (.int j11), .val (.int j15), .unset, .unset, .unset, .unset, .unset, .unset, .unset, .unset, .unset, .unset, .unset, .unset, .unset, .unset, .unset] [(.int j19)]))
  refine Comes.st (fun t k => XS.istore X20.here hx rfl (hb hby at_62) rfl (l' := #[.val (.int ia), .val (.int ib), .val (.int ic), .val (.int r2), .val (.int r4), .val (.int j7), .val (.int j11), .val (.int j15), .val (.int j19), .unset, .unset, .unset, .unset, .unset, .unset, .unset, .unset, .unset, .unset, .unset, .unset, .unset, .unset]) rfl (XS.iloadN X20.here hx rfl (hb hby at_64) rfl (XS.bipush X20.here hx rfl (hb hby at_65) (XS.iand X20.here hx rfl (hb hby at_67) rfl k)))) ?_
  have J21 : Comes p e below (fun S' => ∃ (T' : State), ∃ (L' : List Loc), ∃ (j23 : Int32), (S' = T'.setTop (mkF m 76 #[.val (.int ia), .val (.int ib), .val (.int ic), .val (.int r2), .val (.int r4), .val (.int j7), .val (.int j11), .val (.int j15), .val (.int j19), .unset, .unset, .unset, .unset, .unset, .unset, .unset, .unset, .unset, .unset, .unset, .unset, .unset, .unset] [(.int j23)])) ∧ (Stand p l e room_1 s m #[(.int ia), (.int ib), (.int ic)] below meth c T' L' 0 0) ∧ (T'.heap = h0) ∧ (Fr n0 L') ∧ (j23 = (0 : Int32) ∨ j23 = (1 : Int32))) (T20.setTop (mkF m 68 #[.val (.int ia), .val (.int ib), .val (.int ic), .val (.int r2), .val (.int r4), .val (.int j7), .val (.int j11), .val (.int j15), .val (.int j19), .unset, .unset, .unset, .unset, .unset, .unset, .unset, .unset, .unset, .unset, .unset, .unset, .unset, .unset] [(.int (ic &&& (16 : Int32)))])) := by
    show Comes p e below _ (T20.setTop (mkF m 68 #[.val (.int ia), .val (.int ib), .val (.int ic), .val (.int r2), .val (.int r4), .val (.int j7), .val (.int j11), .val (.int j15), .val (.int j19), .unset, .unset, .unset, .unset, .unset, .unset, .unset, .unset, .unset, .unset, .unset, .unset, .unset, .unset] [(.int (ic &&& (16 : Int32)))]))
    by_cases hc68_22 : (ic &&& (16 : Int32)) = (0 : Int32)
    · refine Comes.st (fun t k => XS.ifYes X20.here hx rfl (pc0 := 68) (pc' := 75) rfl (hb hby at_68) rfl ((if0 _ _).trans (teq hc68_22).1) (by decide) (by decide) (XS.iconst X20.here hx rfl (hb hby at_75) k)) ?_
      show Comes p e below _ (T20.setTop (mkF m 76 #[.val (.int ia), .val (.int ib), .val (.int ic), .val (.int r2), .val (.int r4), .val (.int j7), .val (.int j11), .val (.int j15), .val (.int j19), .unset, .unset, .unset, .unset, .unset, .unset, .unset, .unset, .unset, .unset, .unset, .unset, .unset, .unset] [(.int (0 : Int32))]))
      exact Comes.here ⟨_, _, (0 : Int32), rfl, X20, e20, N20, (by first | exact Or.inl rfl | exact Or.inr rfl)⟩
    · refine Comes.st (fun t k => XS.ifNo X20.here hx rfl (hb hby at_68) rfl ((if0 _ _).trans (feq hc68_22).1) (XS.iconst X20.here hx rfl (hb hby at_71) (XS.goto X20.here hx rfl (pc0 := 72) (pc' := 76) rfl (hb hby at_72) (by decide) (by decide) k))) ?_
      show Comes p e below _ (T20.setTop (mkF m 76 #[.val (.int ia), .val (.int ib), .val (.int ic), .val (.int r2), .val (.int r4), .val (.int j7), .val (.int j11), .val (.int j15), .val (.int j19), .unset, .unset, .unset, .unset, .unset, .unset, .unset, .unset, .unset, .unset, .unset, .unset, .unset, .unset] [(.int (1 : Int32))]))
      exact Comes.here ⟨_, _, (1 : Int32), rfl, X20, e20, N20, (by first | exact Or.inl rfl | exact Or.inr rfl)⟩
  obtain ⟨_, st24, T24, L24, j23, rfl, X24, e24, N24, rel24⟩ := J21
  refine Comes.go st24 ?_
  show Comes p e below _ (T24.setTop (mkF m 76 #[.val (.int ia), .val (.int ib), .val (.int ic), .val (.int r2), .val (.int r4), .val (.int j7), .val (.int j11), .val (.int j15), .val (.int j19), .unset, .unset, .unset, .unset, .unset, .unset, .unset, .unset, .unset, .unset, .unset, .unset, .unset, .unset] [(.int j23)]))
  refine Comes.st (fun t k => XS.istore X24.here hx rfl (hb hby at_76) rfl (l' := #[.val (.int ia), .val (.int ib), .val (.int ic), .val (.int r2), .val (.int r4), .val (.int j7), .val (.int j11), .val (.int j15), .val (.int j19), .val (.int j23), .unset, .unset, .unset, .unset, .unset, .unset, .unset, .unset, .unset, .unset, .unset, .unset, .unset]) rfl k) ?_
  show Comes p e below _ (T24.setTop (mkF m 78 #[.val (.int ia), .val (.int ib), .val (.int ic), .val (.int r2), .val (.int r4), .val (.int j7), .val (.int j11), .val (.int j15), .val (.int j19), .val (.int j23), .unset, .unset, .unset, .unset, .unset, .unset, .unset, .unset, .unset, .unset, .unset, .unset, .unset] []))
  obtain ⟨T25, h25, X25, e25, E25, A25, D25, -, st25⟩ := newO X24 hx hZ hown (hw _ (List.mem_of_getElem? (i := 5) rfl)) (hw _ (List.mem_of_getElem? (i := 6) rfl)) (hw _ (List.mem_of_getElem? (i := 7) rfl)) e24 (g := (mkF m 78 #[.val (.int ia), .val (.int ib), .val (.int ic), .val (.int r2), .val (.int r4), .val (.int j7), .val (.int j11), .val (.int j15), .val (.int j19), .val (.int j23), .unset, .unset, .unset, .unset, .unset, .unset, .unset, .unset, .unset, .unset, .unset, .unset, .unset] [])) rfl (hb hby at_78) (by decide) (by decide)
  obtain ⟨b25, g25⟩ : ∃ z, z = h0.size := ⟨_, rfl⟩
  rw [← g25] at A25 D25 st25
  have z25 : h0.size ≤ h25.size := E25.1
  have lt25 : b25 < h25.size := A25.lt
  have F26 : Fld Z h25 b25 "com/example/evenring/evenring/Intake" "quietSpell" "I" (.int (0 : Int32)) := D25 (Or.inr (hw _ (List.mem_of_getElem? (i := 15) rfl))) (ty := .int) (by decide)
  have F27 : Fld Z h25 b25 "com/example/evenring/evenring/Intake" "longestWait" "I" (.int (0 : Int32)) := D25 (Or.inr (hw _ (List.mem_of_getElem? (i := 17) rfl))) (ty := .int) (by decide)
  have F28 : Fld Z h25 b25 "com/example/evenring/evenring/Intake" "quietFor" "I" (.int (0 : Int32)) := D25 (Or.inl (hw _ (List.mem_of_getElem? (i := 19) rfl))) (ty := .int) (by decide)
  have F29 : Fld Z h25 b25 "com/example/evenring/evenring/Intake" "waitedFor" "I" (.int (0 : Int32)) := D25 (Or.inl (hw _ (List.mem_of_getElem? (i := 30) rfl))) (ty := .int) (by decide)
  refine Comes.st st25 ?_
  show Comes p e below _ (T25.setTop (mkF m 81 #[.val (.int ia), .val (.int ib), .val (.int ic), .val (.int r2), .val (.int r4), .val (.int j7), .val (.int j11), .val (.int j15), .val (.int j19), .val (.int j23), .unset, .unset, .unset, .unset, .unset, .unset, .unset, .unset, .unset, .unset, .unset, .unset, .unset] [(.ref b25)]))
  refine Comes.st (fun t k => XS.dup X25.here hx rfl (hb hby at_81) rfl rfl (XS.iloadN X25.here hx rfl (hb hby at_82) rfl (XS.iload X25.here hx rfl (hb hby at_83) rfl k))) ?_
  show Comes p e below _ (T25.setTop (mkF m 85 #[.val (.int ia), .val (.int ib), .val (.int ic), .val (.int r2), .val (.int r4), .val (.int j7), .val (.int j11), .val (.int j15), .val (.int j19), .val (.int j23), .unset, .unset, .unset, .unset, .unset, .unset, .unset, .unset, .unset, .unset, .unset, .unset, .unset] [(.int r4), (.int r2), (.ref b25), (.ref b25)]))
  obtain ⟨_, _, ⟨T30, L30, k30, n30⟩, -, X30, ⟨Lc30, hQ30, l30, y30, z30⟩, st30⟩ := X25.specialBack hx (y := (⟨"com/example/evenring/evenring/Intake", "<init>", "(II)V"⟩ : MethodName)) rfl hown (mvT hZ (hw _ (List.mem_of_getElem? (i := 8) rfl))) (mvT hZ (hw _ (List.mem_of_getElem? (i := 9) rfl))) (mvT hZ (hw _ (List.mem_of_getElem? (i := 10) rfl))) (by decide) (backOf (W := 1) (rm2 l Z a0 hw [] b25 r2 r4 h25 n0 (by omega)  A25 F26 F27 F28 F29 (by omega)) hZ (hw _ (List.mem_of_getElem? (i := 10) rfl)) (hw _ (List.mem_of_getElem? (i := 7) rfl)) (by decide) (by decide)) (g := (mkF m 85 #[.val (.int ia), .val (.int ib), .val (.int ic), .val (.int r2), .val (.int r4), .val (.int j7), .val (.int j11), .val (.int j15), .val (.int j19), .val (.int j23), .unset, .unset, .unset, .unset, .unset, .unset, .unset, .unset, .unset, .unset, .unset, .unset, .unset] [(.int r4), (.int r2), (.ref b25), (.ref b25)])) rfl (by rw [hml]; rfl) (Steps.refl _) (a := b25) (argsL := [(.int r2), (.int r4)]) (rest := [(.ref b25)]) (lenOf pd_2 rfl) rfl (by show 2 * 0 + _ ≤ _; exact Nat.le_of_eq rfl) (hb hby at_85) (fun _ _ => ⟨rfl, e25, (by decide : 1 + 0 ≤ _), (by decide : 4 + 0 ≤ _)⟩)
  dsimp only [Pt.U, Pt.locs, Pt.cells, Pt.slots] at X30 l30 y30 z30 st30 hQ30
  subst l30 y30 z30
  obtain ⟨rfl, Nq30, Kq30, P30_0, P30_1, P30_2, P30_3, P30_4⟩ := hQ30
  have N30 := Fr.app N24 Nq30
  have z30k : h25.size ≤ T30.heap.size := Kq30.1
  refine Comes.go st30 ?_
  have lt_31 : b25 < T30.heap.size := P30_0.lt
  show Comes p e below _ (T30.setTop (mkF m 88 #[.val (.int ia), .val (.int ib), .val (.int ic), .val (.int r2), .val (.int r4), .val (.int j7), .val (.int j11), .val (.int j15), .val (.int j19), .val (.int j23), .unset, .unset, .unset, .unset, .unset, .unset, .unset, .unset, .unset, .unset, .unset, .unset, .unset] [(.ref b25)]))
  refine Comes.st (fun t k => XS.astore X30.here hx rfl (hb hby at_88) rfl rfl (l' := #[.val (.int ia), .val (.int ib), .val (.int ic), .val (.int r2), .val (.int r4), .val (.int j7), .val (.int j11), .val (.int j15), .val (.int j19), .val (.int j23), .val (.ref b25), .unset, .unset, .unset, .unset, .unset, .unset, .unset, .unset, .unset, .unset, .unset, .unset]) rfl (XS.aload X30.here hx rfl (hb hby at_90) rfl rfl (XS.iload X30.here hx rfl (hb hby at_92) rfl k))) ?_
  show Comes p e below _ (T30.setTop (mkF m 94 #[.val (.int ia), .val (.int ib), .val (.int ic), .val (.int r2), .val (.int r4), .val (.int j7), .val (.int j11), .val (.int j15), .val (.int j19), .val (.int j23), .val (.ref b25), .unset, .unset, .unset, .unset, .unset, .unset, .unset, .unset, .unset, .unset, .unset, .unset] [(.int j7), (.ref b25)]))
  obtain ⟨cq32, kq32, q32a, q32b, q32c⟩ := isOf hZ rfl P30_0
  obtain ⟨_, _, ⟨T32, L32, k32, n32⟩, -, X32, ⟨Lc32, hQ32, l32, y32, z32⟩, st32⟩ := X30.virtualBack hx (y := (⟨"com/example/evenring/evenring/Intake", "count", "(Z)V"⟩ : MethodName)) (z := (⟨"com/example/evenring/evenring/Intake", "count", "(Z)V"⟩ : MethodName)) hown (mvT hZ (hw _ (List.mem_of_getElem? (i := 20) rfl))) (mvT hZ (hw _ (List.mem_of_getElem? (i := 21) rfl))) (notFace_of_selects (args := #[]) (mvT hZ (hw _ (List.mem_of_getElem? (i := 23) rfl)))) (mvT hZ (hw _ (List.mem_of_getElem? (i := 23) rfl))) (mvT hZ (hw _ (List.mem_of_getElem? (i := 22) rfl))) (by decide) (backOf (W := 0) (rm4 l Z a0 hw [] b25 j7 r2 r4 r2 ((0 : Int32)) T30.heap n0 (by omega)  P30_0 P30_1 P30_2 P30_3 P30_4 (by omega) (by have c_0 := P1_0; have c_1 := P3_0; (try simp only [Int32.lt_iff_toInt_lt, Int64.lt_iff_toInt_lt, ← Int32.toInt_inj, ← Int64.toInt_inj, Int32.reduceToInt, Int64.reduceToInt, eq_self, and_true, true_and, or_true, true_or, and_false, false_and, or_false, false_or, not_true_eq_false, not_false_eq_true] at c_0 c_1 ⊢) <;> omega) (by have c_0 := P1_0; have c_1 := P3_0; (try simp only [Int32.lt_iff_toInt_lt, Int64.lt_iff_toInt_lt, ← Int32.toInt_inj, ← Int64.toInt_inj, Int32.reduceToInt, Int64.reduceToInt, eq_self, and_true, true_and, or_true, true_or, and_false, false_and, or_false, false_or, not_true_eq_false, not_false_eq_true] at c_0 c_1 ⊢) <;> omega) (by have c_0 := P1_0; have c_1 := P3_0; (try simp only [Int32.lt_iff_toInt_lt, Int64.lt_iff_toInt_lt, ← Int32.toInt_inj, ← Int64.toInt_inj, Int32.reduceToInt, Int64.reduceToInt, eq_self, and_true, true_and, or_true, true_or, and_false, false_and, or_false, false_or, not_true_eq_false, not_false_eq_true] at c_0 c_1 ⊢) <;> omega) (by have c_0 := P1_0; have c_1 := P3_0; (try simp only [Int32.lt_iff_toInt_lt, Int64.lt_iff_toInt_lt, ← Int32.toInt_inj, ← Int64.toInt_inj, Int32.reduceToInt, Int64.reduceToInt, eq_self, and_true, true_and, or_true, true_or, and_false, false_and, or_false, false_or, not_true_eq_false, not_false_eq_true] at c_0 c_1 ⊢) <;> omega)) hZ (hw _ (List.mem_of_getElem? (i := 24) rfl)) (hw _ (List.mem_of_getElem? (i := 7) rfl)) (by decide) (by decide)) q32a q32c (g := (mkF m 94 #[.val (.int ia), .val (.int ib), .val (.int ic), .val (.int r2), .val (.int r4), .val (.int j7), .val (.int j11), .val (.int j15), .val (.int j19), .val (.int j23), .val (.ref b25), .unset, .unset, .unset, .unset, .unset, .unset, .unset, .unset, .unset, .unset, .unset, .unset] [(.int j7), (.ref b25)])) rfl (by rw [hml]; rfl) (Steps.refl _) (argsL := [(.int j7)]) (rest := []) (lenOf pd_3 rfl) rfl (by show 2 * 0 + _ ≤ _; exact Nat.le_of_eq rfl) (hb hby at_94) (fun _ _ => ⟨rfl, rfl, (by decide : 1 + 0 ≤ _), (by decide : 4 + 0 ≤ _)⟩)
  dsimp only [Pt.U, Pt.locs, Pt.cells, Pt.slots] at X32 l32 y32 z32 st32 hQ32
  subst l32 y32 z32
  obtain ⟨r33, r34, rfl, Nq32, Kq32, P32_0, P32_1, P32_2, P32_3, P32_4, P32_5, P32_6, P32_7⟩ := hQ32
  have N32 := Fr.app N30 Nq32
  have z32k : T30.heap.size ≤ T32.heap.size := Kq32.1
  refine Comes.go st32 ?_
  show Comes p e below _ (T32.setTop (mkF m 97 #[.val (.int ia), .val (.int ib), .val (.int ic), .val (.int r2), .val (.int r4), .val (.int j7), .val (.int j11), .val (.int j15), .val (.int j19), .val (.int j23), .val (.ref b25), .unset, .unset, .unset, .unset, .unset, .unset, .unset, .unset, .unset, .unset, .unset, .unset] []))
  refine Comes.st (fun t k => XS.aload X32.here hx rfl (hb hby at_97) rfl rfl k) ?_
  show Comes p e below _ (T32.setTop (mkF m 99 #[.val (.int ia), .val (.int ib), .val (.int ic), .val (.int r2), .val (.int r4), .val (.int j7), .val (.int j11), .val (.int j15), .val (.int j19), .val (.int j23), .val (.ref b25), .unset, .unset, .unset, .unset, .unset, .unset, .unset, .unset, .unset, .unset, .unset, .unset] [(.ref b25)]))
  obtain ⟨cq35, kq35, q35a, q35b, q35c⟩ := isOf hZ rfl P32_0
  obtain ⟨_, _, ⟨T35, L35, k35, n35⟩, -, X35, ⟨Lc35, hQ35, l35, y35, z35⟩, st35⟩ := X32.virtualBack hx (y := (⟨"com/example/evenring/evenring/Intake", "hasComeIn", "()Z"⟩ : MethodName)) (z := (⟨"com/example/evenring/evenring/Intake", "hasComeIn", "()Z"⟩ : MethodName)) hown (mvT hZ (hw _ (List.mem_of_getElem? (i := 31) rfl))) (mvT hZ (hw _ (List.mem_of_getElem? (i := 32) rfl))) (notFace_of_selects (args := #[]) (mvT hZ (hw _ (List.mem_of_getElem? (i := 34) rfl)))) (mvT hZ (hw _ (List.mem_of_getElem? (i := 34) rfl))) (mvT hZ (hw _ (List.mem_of_getElem? (i := 33) rfl))) (by decide) (backOf (W := 0) (rm6 l Z a0 hw [] b25 r2 r4 r33 r34 T32.heap n0 (by omega)  P32_1 P32_2 P32_3 P32_4) hZ (hw _ (List.mem_of_getElem? (i := 35) rfl)) (hw _ (List.mem_of_getElem? (i := 7) rfl)) (by decide) (by decide)) q35a q35c (g := (mkF m 99 #[.val (.int ia), .val (.int ib), .val (.int ic), .val (.int r2), .val (.int r4), .val (.int j7), .val (.int j11), .val (.int j15), .val (.int j19), .val (.int j23), .val (.ref b25), .unset, .unset, .unset, .unset, .unset, .unset, .unset, .unset, .unset, .unset, .unset, .unset] [(.ref b25)])) rfl (by rw [hml]; rfl) (Steps.refl _) (argsL := []) (rest := []) (lenOf pd_4 rfl) rfl (by show 2 * 0 + _ ≤ _; exact Nat.le_of_eq rfl) (hb hby at_99) (fun _ _ => ⟨rfl, rfl, (by decide : 1 + 0 ≤ _), (by decide : 4 + 0 ≤ _)⟩)
  dsimp only [Pt.U, Pt.locs, Pt.cells, Pt.slots] at X35 l35 y35 z35 st35 hQ35
  subst l35 y35 z35
  obtain ⟨r36, rfl, Nq35, hs35, P35_0⟩ := hQ35
  have N35 := Fr.app N32 Nq35
  refine Comes.go st35 ?_
  show Comes p e below _ (T35.setTop (mkF m 102 #[.val (.int ia), .val (.int ib), .val (.int ic), .val (.int r2), .val (.int r4), .val (.int j7), .val (.int j11), .val (.int j15), .val (.int j19), .val (.int j23), .val (.ref b25), .unset, .unset, .unset, .unset, .unset, .unset, .unset, .unset, .unset, .unset, .unset, .unset] [(.int r36)]))
  refine Comes.st (fun t k => XS.istore X35.here hx rfl (hb hby at_102) rfl (l' := #[.val (.int ia), .val (.int ib), .val (.int ic), .val (.int r2), .val (.int r4), .val (.int j7), .val (.int j11), .val (.int j15), .val (.int j19), .val (.int j23), .val (.ref b25), .val (.int r36), .unset, .unset, .unset, .unset, .unset, .unset, .unset, .unset, .unset, .unset, .unset]) rfl k) ?_
  show Comes p e below _ (T35.setTop (mkF m 104 #[.val (.int ia), .val (.int ib), .val (.int ic), .val (.int r2), .val (.int r4), .val (.int j7), .val (.int j11), .val (.int j15), .val (.int j19), .val (.int j23), .val (.ref b25), .val (.int r36), .unset, .unset, .unset, .unset, .unset, .unset, .unset, .unset, .unset, .unset, .unset] []))
  refine Comes.st (fun t k => XS.iload X35.here hx rfl (hb hby at_104) rfl k) ?_
  have J37 : Comes p e below (fun S' => ∃ (T' : State), ∃ (L' : List Loc), ∃ (j40 : Int32), (S' = T'.setTop (mkF m 114 #[.val (.int ia), .val (.int ib), .val (.int ic), .val (.int r2), .val (.int r4), .val (.int j7), .val (.int j11), .val (.int j15), .val (.int j19), .val (.int j23), .val (.ref b25), .val (.int r36), .unset, .unset, .unset, .unset, .unset, .unset, .unset, .unset, .unset, .unset, .unset] [])) ∧ (Stand p l e room_1 s m #[(.int ia), (.int ib), (.int ic)] below meth c T' L' 1 4) ∧ (Keep T32.heap T'.heap [b25]) ∧ (Fr n0 L') ∧ (Exa Z T'.heap b25 "com/example/evenring/evenring/Intake") ∧ (Fld Z T'.heap b25 "com/example/evenring/evenring/Intake" "quietSpell" "I" (.int r2)) ∧ (Fld Z T'.heap b25 "com/example/evenring/evenring/Intake" "longestWait" "I" (.int r4)) ∧ (Fld Z T'.heap b25 "com/example/evenring/evenring/Intake" "quietFor" "I" (.int r33)) ∧ (Fld Z T'.heap b25 "com/example/evenring/evenring/Intake" "waitedFor" "I" (.int j40)) ∧ (((j19 = (0 : Int32)) ∧ j40 = r34) ∨ ((¬ (j19 = (0 : Int32))) ∧ j40 = (0 : Int32)))) (T35.setTop (mkF m 106 #[.val (.int ia), .val (.int ib), .val (.int ic), .val (.int r2), .val (.int r4), .val (.int j7), .val (.int j11), .val (.int j15), .val (.int j19), .val (.int j23), .val (.ref b25), .val (.int r36), .unset, .unset, .unset, .unset, .unset, .unset, .unset, .unset, .unset, .unset, .unset] [(.int j19)])) := by
    show Comes p e below _ (T35.setTop (mkF m 106 #[.val (.int ia), .val (.int ib), .val (.int ic), .val (.int r2), .val (.int r4), .val (.int j7), .val (.int j11), .val (.int j15), .val (.int j19), .val (.int j23), .val (.ref b25), .val (.int r36), .unset, .unset, .unset, .unset, .unset, .unset, .unset, .unset, .unset, .unset, .unset] [(.int j19)]))
    by_cases hc106_38 : j19 = (0 : Int32)
    · refine Comes.st (fun t k => XS.ifYes X35.here hx rfl (pc0 := 106) (pc' := 114) rfl (hb hby at_106) rfl ((if0 _ _).trans (teq hc106_38).1) (by decide) (by decide) k) ?_
      show Comes p e below _ (T35.setTop (mkF m 114 #[.val (.int ia), .val (.int ib), .val (.int ic), .val (.int r2), .val (.int r4), .val (.int j7), .val (.int j11), .val (.int j15), .val (.int j19), .val (.int j23), .val (.ref b25), .val (.int r36), .unset, .unset, .unset, .unset, .unset, .unset, .unset, .unset, .unset, .unset, .unset] []))
      exact Comes.here ⟨_, _, r34, rfl, X35, (by rw [hs35]; exact (Keep.refl T32.heap [b25])), N35, (by rw [hs35]; exact P32_0), (by rw [hs35]; exact P32_1), (by rw [hs35]; exact P32_2), (by rw [hs35]; exact P32_3), (by rw [hs35]; exact P32_4), (Or.inl ⟨hc106_38, rfl⟩)⟩
    · refine Comes.st (fun t k => XS.ifNo X35.here hx rfl (hb hby at_106) rfl ((if0 _ _).trans (feq hc106_38).1) (XS.aload X35.here hx rfl (hb hby at_109) rfl rfl k)) ?_
      show Comes p e below _ (T35.setTop (mkF m 111 #[.val (.int ia), .val (.int ib), .val (.int ic), .val (.int r2), .val (.int r4), .val (.int j7), .val (.int j11), .val (.int j15), .val (.int j19), .val (.int j23), .val (.ref b25), .val (.int r36), .unset, .unset, .unset, .unset, .unset, .unset, .unset, .unset, .unset, .unset, .unset] [(.ref b25)]))
      obtain ⟨cq39, kq39, q39a, q39b, q39c⟩ := isOf hZ hs35 P32_0
      obtain ⟨_, _, ⟨T39, L39, k39, n39⟩, -, X39, ⟨Lc39, hQ39, l39, y39, z39⟩, st39⟩ := X35.virtualBack hx (y := (⟨"com/example/evenring/evenring/Intake", "weighed", "()V"⟩ : MethodName)) (z := (⟨"com/example/evenring/evenring/Intake", "weighed", "()V"⟩ : MethodName)) hown (mvT hZ (hw _ (List.mem_of_getElem? (i := 36) rfl))) (mvT hZ (hw _ (List.mem_of_getElem? (i := 37) rfl))) (notFace_of_selects (args := #[]) (mvT hZ (hw _ (List.mem_of_getElem? (i := 39) rfl)))) (mvT hZ (hw _ (List.mem_of_getElem? (i := 39) rfl))) (mvT hZ (hw _ (List.mem_of_getElem? (i := 38) rfl))) (by decide) (backOf (W := 0) (rm7 l Z a0 hw [] b25 r2 r4 r33 r34 T32.heap n0 (by omega)  P32_0 P32_1 P32_2 P32_3 P32_4 (by omega)) hZ (hw _ (List.mem_of_getElem? (i := 40) rfl)) (hw _ (List.mem_of_getElem? (i := 7) rfl)) (by decide) (by decide)) q39a q39c (g := (mkF m 111 #[.val (.int ia), .val (.int ib), .val (.int ic), .val (.int r2), .val (.int r4), .val (.int j7), .val (.int j11), .val (.int j15), .val (.int j19), .val (.int j23), .val (.ref b25), .val (.int r36), .unset, .unset, .unset, .unset, .unset, .unset, .unset, .unset, .unset, .unset, .unset] [(.ref b25)])) rfl (by rw [hml]; rfl) (Steps.refl _) (argsL := []) (rest := []) (lenOf pd_5 rfl) rfl (by show 2 * 0 + _ ≤ _; exact Nat.le_of_eq rfl) (hb hby at_111) (fun _ _ => ⟨rfl, hs35, (by decide : 1 + 0 ≤ _), (by decide : 4 + 0 ≤ _)⟩)
      dsimp only [Pt.U, Pt.locs, Pt.cells, Pt.slots] at X39 l39 y39 z39 st39 hQ39
      subst l39 y39 z39
      obtain ⟨rfl, Nq39, Kq39, P39_0, P39_1, P39_2, P39_3, P39_4⟩ := hQ39
      have N39 := Fr.app N35 Nq39
      have z39k : T32.heap.size ≤ T39.heap.size := Kq39.1
      refine Comes.go st39 ?_
      show Comes p e below _ (T39.setTop (mkF m 114 #[.val (.int ia), .val (.int ib), .val (.int ic), .val (.int r2), .val (.int r4), .val (.int j7), .val (.int j11), .val (.int j15), .val (.int j19), .val (.int j23), .val (.ref b25), .val (.int r36), .unset, .unset, .unset, .unset, .unset, .unset, .unset, .unset, .unset, .unset, .unset] []))
      exact Comes.here ⟨_, _, (0 : Int32), rfl, X39, ((Keep.refl T32.heap [b25]).trans Kq39 (allS (Or.inl (List.mem_of_getElem? (i := 0) rfl)) all0)), N39, P39_0, P39_1, P39_2, P39_3, P39_4, (Or.inr ⟨hc106_38, rfl⟩)⟩
  obtain ⟨_, st41, T41, L41, j40, rfl, X41, Kq41, N41, f41_0, f41_1, f41_2, f41_3, f41_4, rel41⟩ := J37
  refine Comes.go st41 ?_
  have z41 : T32.heap.size ≤ T41.heap.size := Kq41.1
  show Comes p e below _ (T41.setTop (mkF m 114 #[.val (.int ia), .val (.int ib), .val (.int ic), .val (.int r2), .val (.int r4), .val (.int j7), .val (.int j11), .val (.int j15), .val (.int j19), .val (.int j23), .val (.ref b25), .val (.int r36), .unset, .unset, .unset, .unset, .unset, .unset, .unset, .unset, .unset, .unset, .unset] []))
  refine Comes.st (fun t k => XS.aload X41.here hx rfl (hb hby at_114) rfl rfl (XS.iload X41.here hx rfl (hb hby at_116) rfl k)) ?_
  show Comes p e below _ (T41.setTop (mkF m 118 #[.val (.int ia), .val (.int ib), .val (.int ic), .val (.int r2), .val (.int r4), .val (.int j7), .val (.int j11), .val (.int j15), .val (.int j19), .val (.int j23), .val (.ref b25), .val (.int r36), .unset, .unset, .unset, .unset, .unset, .unset, .unset, .unset, .unset, .unset, .unset] [(.int j11), (.ref b25)]))
  obtain ⟨cq42, kq42, q42a, q42b, q42c⟩ := isOf hZ rfl f41_0
  obtain ⟨_, _, ⟨T42, L42, k42, n42⟩, -, X42, ⟨Lc42, hQ42, l42, y42, z42⟩, st42⟩ := X41.virtualBack hx (y := (⟨"com/example/evenring/evenring/Intake", "count", "(Z)V"⟩ : MethodName)) (z := (⟨"com/example/evenring/evenring/Intake", "count", "(Z)V"⟩ : MethodName)) hown (mvT hZ (hw _ (List.mem_of_getElem? (i := 20) rfl))) (mvT hZ (hw _ (List.mem_of_getElem? (i := 21) rfl))) (notFace_of_selects (args := #[]) (mvT hZ (hw _ (List.mem_of_getElem? (i := 23) rfl)))) (mvT hZ (hw _ (List.mem_of_getElem? (i := 23) rfl))) (mvT hZ (hw _ (List.mem_of_getElem? (i := 22) rfl))) (by decide) (backOf (W := 0) (rm4 l Z a0 hw [] b25 j11 r2 r4 r33 j40 T41.heap n0 (by omega)  f41_0 f41_1 f41_2 f41_3 f41_4 (by omega) (by have c_0 := P1_0; have c_1 := P3_0; have c_2 := P32_7; have c_3 := rel41; (try simp only [Int32.lt_iff_toInt_lt, Int64.lt_iff_toInt_lt, ← Int32.toInt_inj, ← Int64.toInt_inj, Int32.reduceToInt, Int64.reduceToInt, eq_self, and_true, true_and, or_true, true_or, and_false, false_and, or_false, false_or, not_true_eq_false, not_false_eq_true] at c_0 c_1 c_2 c_3 ⊢) <;> omega) (by have c_0 := P1_0; have c_1 := P3_0; have c_2 := P32_7; have c_3 := rel41; (try simp only [Int32.lt_iff_toInt_lt, Int64.lt_iff_toInt_lt, ← Int32.toInt_inj, ← Int64.toInt_inj, Int32.reduceToInt, Int64.reduceToInt, eq_self, and_true, true_and, or_true, true_or, and_false, false_and, or_false, false_or, not_true_eq_false, not_false_eq_true] at c_0 c_1 c_2 c_3 ⊢) <;> omega) (by have c_0 := P1_0; have c_1 := P3_0; have c_2 := P32_7; have c_3 := rel41; (try simp only [Int32.lt_iff_toInt_lt, Int64.lt_iff_toInt_lt, ← Int32.toInt_inj, ← Int64.toInt_inj, Int32.reduceToInt, Int64.reduceToInt, eq_self, and_true, true_and, or_true, true_or, and_false, false_and, or_false, false_or, not_true_eq_false, not_false_eq_true] at c_0 c_1 c_2 c_3 ⊢) <;> omega) (by have c_0 := P1_0; have c_1 := P3_0; have c_2 := P32_7; have c_3 := rel41; (try simp only [Int32.lt_iff_toInt_lt, Int64.lt_iff_toInt_lt, ← Int32.toInt_inj, ← Int64.toInt_inj, Int32.reduceToInt, Int64.reduceToInt, eq_self, and_true, true_and, or_true, true_or, and_false, false_and, or_false, false_or, not_true_eq_false, not_false_eq_true] at c_0 c_1 c_2 c_3 ⊢) <;> omega)) hZ (hw _ (List.mem_of_getElem? (i := 24) rfl)) (hw _ (List.mem_of_getElem? (i := 7) rfl)) (by decide) (by decide)) q42a q42c (g := (mkF m 118 #[.val (.int ia), .val (.int ib), .val (.int ic), .val (.int r2), .val (.int r4), .val (.int j7), .val (.int j11), .val (.int j15), .val (.int j19), .val (.int j23), .val (.ref b25), .val (.int r36), .unset, .unset, .unset, .unset, .unset, .unset, .unset, .unset, .unset, .unset, .unset] [(.int j11), (.ref b25)])) rfl (by rw [hml]; rfl) (Steps.refl _) (argsL := [(.int j11)]) (rest := []) (lenOf pd_3 rfl) rfl (by show 2 * 0 + _ ≤ _; exact Nat.le_of_eq rfl) (hb hby at_118) (fun _ _ => ⟨rfl, rfl, (by decide : 1 + 0 ≤ _), (by decide : 4 + 0 ≤ _)⟩)
  dsimp only [Pt.U, Pt.locs, Pt.cells, Pt.slots] at X42 l42 y42 z42 st42 hQ42
  subst l42 y42 z42
  obtain ⟨r43, r44, rfl, Nq42, Kq42, P42_0, P42_1, P42_2, P42_3, P42_4, P42_5, P42_6, P42_7⟩ := hQ42
  have N42 := Fr.app N41 Nq42
  have z42k : T41.heap.size ≤ T42.heap.size := Kq42.1
  refine Comes.go st42 ?_
  show Comes p e below _ (T42.setTop (mkF m 121 #[.val (.int ia), .val (.int ib), .val (.int ic), .val (.int r2), .val (.int r4), .val (.int j7), .val (.int j11), .val (.int j15), .val (.int j19), .val (.int j23), .val (.ref b25), .val (.int r36), .unset, .unset, .unset, .unset, .unset, .unset, .unset, .unset, .unset, .unset, .unset] []))
  refine Comes.st (fun t k => XS.aload X42.here hx rfl (hb hby at_121) rfl rfl k) ?_
  show Comes p e below _ (T42.setTop (mkF m 123 #[.val (.int ia), .val (.int ib), .val (.int ic), .val (.int r2), .val (.int r4), .val (.int j7), .val (.int j11), .val (.int j15), .val (.int j19), .val (.int j23), .val (.ref b25), .val (.int r36), .unset, .unset, .unset, .unset, .unset, .unset, .unset, .unset, .unset, .unset, .unset] [(.ref b25)]))
  obtain ⟨cq45, kq45, q45a, q45b, q45c⟩ := isOf hZ rfl P42_0
  obtain ⟨_, _, ⟨T45, L45, k45, n45⟩, -, X45, ⟨Lc45, hQ45, l45, y45, z45⟩, st45⟩ := X42.virtualBack hx (y := (⟨"com/example/evenring/evenring/Intake", "hasComeIn", "()Z"⟩ : MethodName)) (z := (⟨"com/example/evenring/evenring/Intake", "hasComeIn", "()Z"⟩ : MethodName)) hown (mvT hZ (hw _ (List.mem_of_getElem? (i := 31) rfl))) (mvT hZ (hw _ (List.mem_of_getElem? (i := 32) rfl))) (notFace_of_selects (args := #[]) (mvT hZ (hw _ (List.mem_of_getElem? (i := 34) rfl)))) (mvT hZ (hw _ (List.mem_of_getElem? (i := 34) rfl))) (mvT hZ (hw _ (List.mem_of_getElem? (i := 33) rfl))) (by decide) (backOf (W := 0) (rm6 l Z a0 hw [] b25 r2 r4 r43 r44 T42.heap n0 (by omega)  P42_1 P42_2 P42_3 P42_4) hZ (hw _ (List.mem_of_getElem? (i := 35) rfl)) (hw _ (List.mem_of_getElem? (i := 7) rfl)) (by decide) (by decide)) q45a q45c (g := (mkF m 123 #[.val (.int ia), .val (.int ib), .val (.int ic), .val (.int r2), .val (.int r4), .val (.int j7), .val (.int j11), .val (.int j15), .val (.int j19), .val (.int j23), .val (.ref b25), .val (.int r36), .unset, .unset, .unset, .unset, .unset, .unset, .unset, .unset, .unset, .unset, .unset] [(.ref b25)])) rfl (by rw [hml]; rfl) (Steps.refl _) (argsL := []) (rest := []) (lenOf pd_4 rfl) rfl (by show 2 * 0 + _ ≤ _; exact Nat.le_of_eq rfl) (hb hby at_123) (fun _ _ => ⟨rfl, rfl, (by decide : 1 + 0 ≤ _), (by decide : 4 + 0 ≤ _)⟩)
  dsimp only [Pt.U, Pt.locs, Pt.cells, Pt.slots] at X45 l45 y45 z45 st45 hQ45
  subst l45 y45 z45
  obtain ⟨r46, rfl, Nq45, hs45, P45_0⟩ := hQ45
  have N45 := Fr.app N42 Nq45
  refine Comes.go st45 ?_
  show Comes p e below _ (T45.setTop (mkF m 126 #[.val (.int ia), .val (.int ib), .val (.int ic), .val (.int r2), .val (.int r4), .val (.int j7), .val (.int j11), .val (.int j15), .val (.int j19), .val (.int j23), .val (.ref b25), .val (.int r36), .unset, .unset, .unset, .unset, .unset, .unset, .unset, .unset, .unset, .unset, .unset] [(.int r46)]))
  refine Comes.st (fun t k => XS.istore X45.here hx rfl (hb hby at_126) rfl (l' := #[.val (.int ia), .val (.int ib), .val (.int ic), .val (.int r2), .val (.int r4), .val (.int j7), .val (.int j11), .val (.int j15), .val (.int j19), .val (.int j23), .val (.ref b25), .val (.int r36), .val (.int r46), .unset, .unset, .unset, .unset, .unset, .unset, .unset, .unset, .unset, .unset]) rfl k) ?_
  show Comes p e below _ (T45.setTop (mkF m 128 #[.val (.int ia), .val (.int ib), .val (.int ic), .val (.int r2), .val (.int r4), .val (.int j7), .val (.int j11), .val (.int j15), .val (.int j19), .val (.int j23), .val (.ref b25), .val (.int r36), .val (.int r46), .unset, .unset, .unset, .unset, .unset, .unset, .unset, .unset, .unset, .unset] []))
  refine Comes.st (fun t k => XS.iload X45.here hx rfl (hb hby at_128) rfl k) ?_
  have J47 : Comes p e below (fun S' => ∃ (T' : State), ∃ (L' : List Loc), ∃ (j50 : Int32), (S' = T'.setTop (mkF m 138 #[.val (.int ia), .val (.int ib), .val (.int ic), .val (.int r2), .val (.int r4), .val (.int j7), .val (.int j11), .val (.int j15), .val (.int j19), .val (.int j23), .val (.ref b25), .val (.int r36), .val (.int r46), .unset, .unset, .unset, .unset, .unset, .unset, .unset, .unset, .unset, .unset] [])) ∧ (Stand p l e room_1 s m #[(.int ia), (.int ib), (.int ic)] below meth c T' L' 1 4) ∧ (Keep T42.heap T'.heap [b25]) ∧ (Fr n0 L') ∧ (Exa Z T'.heap b25 "com/example/evenring/evenring/Intake") ∧ (Fld Z T'.heap b25 "com/example/evenring/evenring/Intake" "quietSpell" "I" (.int r2)) ∧ (Fld Z T'.heap b25 "com/example/evenring/evenring/Intake" "longestWait" "I" (.int r4)) ∧ (Fld Z T'.heap b25 "com/example/evenring/evenring/Intake" "quietFor" "I" (.int r43)) ∧ (Fld Z T'.heap b25 "com/example/evenring/evenring/Intake" "waitedFor" "I" (.int j50)) ∧ (((j23 = (0 : Int32)) ∧ j50 = r44) ∨ ((¬ (j23 = (0 : Int32))) ∧ j50 = (0 : Int32)))) (T45.setTop (mkF m 130 #[.val (.int ia), .val (.int ib), .val (.int ic), .val (.int r2), .val (.int r4), .val (.int j7), .val (.int j11), .val (.int j15), .val (.int j19), .val (.int j23), .val (.ref b25), .val (.int r36), .val (.int r46), .unset, .unset, .unset, .unset, .unset, .unset, .unset, .unset, .unset, .unset] [(.int j23)])) := by
    show Comes p e below _ (T45.setTop (mkF m 130 #[.val (.int ia), .val (.int ib), .val (.int ic), .val (.int r2), .val (.int r4), .val (.int j7), .val (.int j11), .val (.int j15), .val (.int j19), .val (.int j23), .val (.ref b25), .val (.int r36), .val (.int r46), .unset, .unset, .unset, .unset, .unset, .unset, .unset, .unset, .unset, .unset] [(.int j23)]))
    by_cases hc130_48 : j23 = (0 : Int32)
    · refine Comes.st (fun t k => XS.ifYes X45.here hx rfl (pc0 := 130) (pc' := 138) rfl (hb hby at_130) rfl ((if0 _ _).trans (teq hc130_48).1) (by decide) (by decide) k) ?_
      show Comes p e below _ (T45.setTop (mkF m 138 #[.val (.int ia), .val (.int ib), .val (.int ic), .val (.int r2), .val (.int r4), .val (.int j7), .val (.int j11), .val (.int j15), .val (.int j19), .val (.int j23), .val (.ref b25), .val (.int r36), .val (.int r46), .unset, .unset, .unset, .unset, .unset, .unset, .unset, .unset, .unset, .unset] []))
      exact Comes.here ⟨_, _, r44, rfl, X45, (by rw [hs45]; exact (Keep.refl T42.heap [b25])), N45, (by rw [hs45]; exact P42_0), (by rw [hs45]; exact P42_1), (by rw [hs45]; exact P42_2), (by rw [hs45]; exact P42_3), (by rw [hs45]; exact P42_4), (Or.inl ⟨hc130_48, rfl⟩)⟩
    · refine Comes.st (fun t k => XS.ifNo X45.here hx rfl (hb hby at_130) rfl ((if0 _ _).trans (feq hc130_48).1) (XS.aload X45.here hx rfl (hb hby at_133) rfl rfl k)) ?_
      show Comes p e below _ (T45.setTop (mkF m 135 #[.val (.int ia), .val (.int ib), .val (.int ic), .val (.int r2), .val (.int r4), .val (.int j7), .val (.int j11), .val (.int j15), .val (.int j19), .val (.int j23), .val (.ref b25), .val (.int r36), .val (.int r46), .unset, .unset, .unset, .unset, .unset, .unset, .unset, .unset, .unset, .unset] [(.ref b25)]))
      obtain ⟨cq49, kq49, q49a, q49b, q49c⟩ := isOf hZ hs45 P42_0
      obtain ⟨_, _, ⟨T49, L49, k49, n49⟩, -, X49, ⟨Lc49, hQ49, l49, y49, z49⟩, st49⟩ := X45.virtualBack hx (y := (⟨"com/example/evenring/evenring/Intake", "weighed", "()V"⟩ : MethodName)) (z := (⟨"com/example/evenring/evenring/Intake", "weighed", "()V"⟩ : MethodName)) hown (mvT hZ (hw _ (List.mem_of_getElem? (i := 36) rfl))) (mvT hZ (hw _ (List.mem_of_getElem? (i := 37) rfl))) (notFace_of_selects (args := #[]) (mvT hZ (hw _ (List.mem_of_getElem? (i := 39) rfl)))) (mvT hZ (hw _ (List.mem_of_getElem? (i := 39) rfl))) (mvT hZ (hw _ (List.mem_of_getElem? (i := 38) rfl))) (by decide) (backOf (W := 0) (rm7 l Z a0 hw [] b25 r2 r4 r43 r44 T42.heap n0 (by omega)  P42_0 P42_1 P42_2 P42_3 P42_4 (by omega)) hZ (hw _ (List.mem_of_getElem? (i := 40) rfl)) (hw _ (List.mem_of_getElem? (i := 7) rfl)) (by decide) (by decide)) q49a q49c (g := (mkF m 135 #[.val (.int ia), .val (.int ib), .val (.int ic), .val (.int r2), .val (.int r4), .val (.int j7), .val (.int j11), .val (.int j15), .val (.int j19), .val (.int j23), .val (.ref b25), .val (.int r36), .val (.int r46), .unset, .unset, .unset, .unset, .unset, .unset, .unset, .unset, .unset, .unset] [(.ref b25)])) rfl (by rw [hml]; rfl) (Steps.refl _) (argsL := []) (rest := []) (lenOf pd_5 rfl) rfl (by show 2 * 0 + _ ≤ _; exact Nat.le_of_eq rfl) (hb hby at_135) (fun _ _ => ⟨rfl, hs45, (by decide : 1 + 0 ≤ _), (by decide : 4 + 0 ≤ _)⟩)
      dsimp only [Pt.U, Pt.locs, Pt.cells, Pt.slots] at X49 l49 y49 z49 st49 hQ49
      subst l49 y49 z49
      obtain ⟨rfl, Nq49, Kq49, P49_0, P49_1, P49_2, P49_3, P49_4⟩ := hQ49
      have N49 := Fr.app N45 Nq49
      have z49k : T42.heap.size ≤ T49.heap.size := Kq49.1
      refine Comes.go st49 ?_
      show Comes p e below _ (T49.setTop (mkF m 138 #[.val (.int ia), .val (.int ib), .val (.int ic), .val (.int r2), .val (.int r4), .val (.int j7), .val (.int j11), .val (.int j15), .val (.int j19), .val (.int j23), .val (.ref b25), .val (.int r36), .val (.int r46), .unset, .unset, .unset, .unset, .unset, .unset, .unset, .unset, .unset, .unset] []))
      exact Comes.here ⟨_, _, (0 : Int32), rfl, X49, ((Keep.refl T42.heap [b25]).trans Kq49 (allS (Or.inl (List.mem_of_getElem? (i := 0) rfl)) all0)), N49, P49_0, P49_1, P49_2, P49_3, P49_4, (Or.inr ⟨hc130_48, rfl⟩)⟩
  obtain ⟨_, st51, T51, L51, j50, rfl, X51, Kq51, N51, f51_0, f51_1, f51_2, f51_3, f51_4, rel51⟩ := J47
  refine Comes.go st51 ?_
  have z51 : T42.heap.size ≤ T51.heap.size := Kq51.1
  show Comes p e below _ (T51.setTop (mkF m 138 #[.val (.int ia), .val (.int ib), .val (.int ic), .val (.int r2), .val (.int r4), .val (.int j7), .val (.int j11), .val (.int j15), .val (.int j19), .val (.int j23), .val (.ref b25), .val (.int r36), .val (.int r46), .unset, .unset, .unset, .unset, .unset, .unset, .unset, .unset, .unset, .unset] []))
  refine Comes.st (fun t k => XS.aload X51.here hx rfl (hb hby at_138) rfl rfl (XS.iload X51.here hx rfl (hb hby at_140) rfl k)) ?_
  show Comes p e below _ (T51.setTop (mkF m 142 #[.val (.int ia), .val (.int ib), .val (.int ic), .val (.int r2), .val (.int r4), .val (.int j7), .val (.int j11), .val (.int j15), .val (.int j19), .val (.int j23), .val (.ref b25), .val (.int r36), .val (.int r46), .unset, .unset, .unset, .unset, .unset, .unset, .unset, .unset, .unset, .unset] [(.int j15), (.ref b25)]))
  obtain ⟨cq52, kq52, q52a, q52b, q52c⟩ := isOf hZ rfl f51_0
  obtain ⟨_, _, ⟨T52, L52, k52, n52⟩, -, X52, ⟨Lc52, hQ52, l52, y52, z52⟩, st52⟩ := X51.virtualBack hx (y := (⟨"com/example/evenring/evenring/Intake", "count", "(Z)V"⟩ : MethodName)) (z := (⟨"com/example/evenring/evenring/Intake", "count", "(Z)V"⟩ : MethodName)) hown (mvT hZ (hw _ (List.mem_of_getElem? (i := 20) rfl))) (mvT hZ (hw _ (List.mem_of_getElem? (i := 21) rfl))) (notFace_of_selects (args := #[]) (mvT hZ (hw _ (List.mem_of_getElem? (i := 23) rfl)))) (mvT hZ (hw _ (List.mem_of_getElem? (i := 23) rfl))) (mvT hZ (hw _ (List.mem_of_getElem? (i := 22) rfl))) (by decide) (backOf (W := 0) (rm4 l Z a0 hw [] b25 j15 r2 r4 r43 j50 T51.heap n0 (by omega)  f51_0 f51_1 f51_2 f51_3 f51_4 (by omega) (by have c_0 := P1_0; have c_1 := P3_0; have c_2 := P42_7; have c_3 := rel51; (try simp only [Int32.lt_iff_toInt_lt, Int64.lt_iff_toInt_lt, ← Int32.toInt_inj, ← Int64.toInt_inj, Int32.reduceToInt, Int64.reduceToInt, eq_self, and_true, true_and, or_true, true_or, and_false, false_and, or_false, false_or, not_true_eq_false, not_false_eq_true] at c_0 c_1 c_2 c_3 ⊢) <;> omega) (by have c_0 := P1_0; have c_1 := P3_0; have c_2 := P42_7; have c_3 := rel51; (try simp only [Int32.lt_iff_toInt_lt, Int64.lt_iff_toInt_lt, ← Int32.toInt_inj, ← Int64.toInt_inj, Int32.reduceToInt, Int64.reduceToInt, eq_self, and_true, true_and, or_true, true_or, and_false, false_and, or_false, false_or, not_true_eq_false, not_false_eq_true] at c_0 c_1 c_2 c_3 ⊢) <;> omega) (by have c_0 := P1_0; have c_1 := P3_0; have c_2 := P42_7; have c_3 := rel51; (try simp only [Int32.lt_iff_toInt_lt, Int64.lt_iff_toInt_lt, ← Int32.toInt_inj, ← Int64.toInt_inj, Int32.reduceToInt, Int64.reduceToInt, eq_self, and_true, true_and, or_true, true_or, and_false, false_and, or_false, false_or, not_true_eq_false, not_false_eq_true] at c_0 c_1 c_2 c_3 ⊢) <;> omega) (by have c_0 := P1_0; have c_1 := P3_0; have c_2 := P42_7; have c_3 := rel51; (try simp only [Int32.lt_iff_toInt_lt, Int64.lt_iff_toInt_lt, ← Int32.toInt_inj, ← Int64.toInt_inj, Int32.reduceToInt, Int64.reduceToInt, eq_self, and_true, true_and, or_true, true_or, and_false, false_and, or_false, false_or, not_true_eq_false, not_false_eq_true] at c_0 c_1 c_2 c_3 ⊢) <;> omega)) hZ (hw _ (List.mem_of_getElem? (i := 24) rfl)) (hw _ (List.mem_of_getElem? (i := 7) rfl)) (by decide) (by decide)) q52a q52c (g := (mkF m 142 #[.val (.int ia), .val (.int ib), .val (.int ic), .val (.int r2), .val (.int r4), .val (.int j7), .val (.int j11), .val (.int j15), .val (.int j19), .val (.int j23), .val (.ref b25), .val (.int r36), .val (.int r46), .unset, .unset, .unset, .unset, .unset, .unset, .unset, .unset, .unset, .unset] [(.int j15), (.ref b25)])) rfl (by rw [hml]; rfl) (Steps.refl _) (argsL := [(.int j15)]) (rest := []) (lenOf pd_3 rfl) rfl (by show 2 * 0 + _ ≤ _; exact Nat.le_of_eq rfl) (hb hby at_142) (fun _ _ => ⟨rfl, rfl, (by decide : 1 + 0 ≤ _), (by decide : 4 + 0 ≤ _)⟩)
  dsimp only [Pt.U, Pt.locs, Pt.cells, Pt.slots] at X52 l52 y52 z52 st52 hQ52
  subst l52 y52 z52
  obtain ⟨r53, r54, rfl, Nq52, Kq52, P52_0, P52_1, P52_2, P52_3, P52_4, P52_5, P52_6, P52_7⟩ := hQ52
  have N52 := Fr.app N51 Nq52
  have z52k : T51.heap.size ≤ T52.heap.size := Kq52.1
  refine Comes.go st52 ?_
  show Comes p e below _ (T52.setTop (mkF m 145 #[.val (.int ia), .val (.int ib), .val (.int ic), .val (.int r2), .val (.int r4), .val (.int j7), .val (.int j11), .val (.int j15), .val (.int j19), .val (.int j23), .val (.ref b25), .val (.int r36), .val (.int r46), .unset, .unset, .unset, .unset, .unset, .unset, .unset, .unset, .unset, .unset] []))
  refine Comes.st (fun t k => XS.aload X52.here hx rfl (hb hby at_145) rfl rfl k) ?_
  show Comes p e below _ (T52.setTop (mkF m 147 #[.val (.int ia), .val (.int ib), .val (.int ic), .val (.int r2), .val (.int r4), .val (.int j7), .val (.int j11), .val (.int j15), .val (.int j19), .val (.int j23), .val (.ref b25), .val (.int r36), .val (.int r46), .unset, .unset, .unset, .unset, .unset, .unset, .unset, .unset, .unset, .unset] [(.ref b25)]))
  obtain ⟨cq55, kq55, q55a, q55b, q55c⟩ := isOf hZ rfl P52_0
  obtain ⟨_, _, ⟨T55, L55, k55, n55⟩, -, X55, ⟨Lc55, hQ55, l55, y55, z55⟩, st55⟩ := X52.virtualBack hx (y := (⟨"com/example/evenring/evenring/Intake", "hasComeIn", "()Z"⟩ : MethodName)) (z := (⟨"com/example/evenring/evenring/Intake", "hasComeIn", "()Z"⟩ : MethodName)) hown (mvT hZ (hw _ (List.mem_of_getElem? (i := 31) rfl))) (mvT hZ (hw _ (List.mem_of_getElem? (i := 32) rfl))) (notFace_of_selects (args := #[]) (mvT hZ (hw _ (List.mem_of_getElem? (i := 34) rfl)))) (mvT hZ (hw _ (List.mem_of_getElem? (i := 34) rfl))) (mvT hZ (hw _ (List.mem_of_getElem? (i := 33) rfl))) (by decide) (backOf (W := 0) (rm6 l Z a0 hw [] b25 r2 r4 r53 r54 T52.heap n0 (by omega)  P52_1 P52_2 P52_3 P52_4) hZ (hw _ (List.mem_of_getElem? (i := 35) rfl)) (hw _ (List.mem_of_getElem? (i := 7) rfl)) (by decide) (by decide)) q55a q55c (g := (mkF m 147 #[.val (.int ia), .val (.int ib), .val (.int ic), .val (.int r2), .val (.int r4), .val (.int j7), .val (.int j11), .val (.int j15), .val (.int j19), .val (.int j23), .val (.ref b25), .val (.int r36), .val (.int r46), .unset, .unset, .unset, .unset, .unset, .unset, .unset, .unset, .unset, .unset] [(.ref b25)])) rfl (by rw [hml]; rfl) (Steps.refl _) (argsL := []) (rest := []) (lenOf pd_4 rfl) rfl (by show 2 * 0 + _ ≤ _; exact Nat.le_of_eq rfl) (hb hby at_147) (fun _ _ => ⟨rfl, rfl, (by decide : 1 + 0 ≤ _), (by decide : 4 + 0 ≤ _)⟩)
  dsimp only [Pt.U, Pt.locs, Pt.cells, Pt.slots] at X55 l55 y55 z55 st55 hQ55
  subst l55 y55 z55
  obtain ⟨r56, rfl, Nq55, hs55, P55_0⟩ := hQ55
  have N55 := Fr.app N52 Nq55
  refine Comes.go st55 ?_
  show Comes p e below _ (T55.setTop (mkF m 150 #[.val (.int ia), .val (.int ib), .val (.int ic), .val (.int r2), .val (.int r4), .val (.int j7), .val (.int j11), .val (.int j15), .val (.int j19), .val (.int j23), .val (.ref b25), .val (.int r36), .val (.int r46), .unset, .unset, .unset, .unset, .unset, .unset, .unset, .unset, .unset, .unset] [(.int r56)]))
  refine Comes.st (fun t k => XS.istore X55.here hx rfl (hb hby at_150) rfl (l' := #[.val (.int ia), .val (.int ib), .val (.int ic), .val (.int r2), .val (.int r4), .val (.int j7), .val (.int j11), .val (.int j15), .val (.int j19), .val (.int j23), .val (.ref b25), .val (.int r36), .val (.int r46), .val (.int r56), .unset, .unset, .unset, .unset, .unset, .unset, .unset, .unset, .unset]) rfl (XS.iload X55.here hx rfl (hb hby at_152) rfl k)) ?_
  have J57 : Comes p e below (fun S' => ∃ (T' : State), ∃ (L' : List Loc), ∃ (j59 : Int32), (S' = T'.setTop (mkF m 162 #[.val (.int ia), .val (.int ib), .val (.int ic), .val (.int r2), .val (.int r4), .val (.int j7), .val (.int j11), .val (.int j15), .val (.int j19), .val (.int j23), .val (.ref b25), .val (.int r36), .val (.int r46), .val (.int r56), .unset, .unset, .unset, .unset, .unset, .unset, .unset, .unset, .unset] [(.int j59)])) ∧ (Stand p l e room_1 s m #[(.int ia), (.int ib), (.int ic)] below meth c T' L' 1 4) ∧ (T'.heap = T52.heap) ∧ (Fr n0 L') ∧ (((j7 = (0 : Int32)) ∧ j59 = (1 : Int32)) ∨ ((¬ (j7 = (0 : Int32))) ∧ j59 = (0 : Int32)))) (T55.setTop (mkF m 154 #[.val (.int ia), .val (.int ib), .val (.int ic), .val (.int r2), .val (.int r4), .val (.int j7), .val (.int j11), .val (.int j15), .val (.int j19), .val (.int j23), .val (.ref b25), .val (.int r36), .val (.int r46), .val (.int r56), .unset, .unset, .unset, .unset, .unset, .unset, .unset, .unset, .unset] [(.int j7)])) := by
    show Comes p e below _ (T55.setTop (mkF m 154 #[.val (.int ia), .val (.int ib), .val (.int ic), .val (.int r2), .val (.int r4), .val (.int j7), .val (.int j11), .val (.int j15), .val (.int j19), .val (.int j23), .val (.ref b25), .val (.int r36), .val (.int r46), .val (.int r56), .unset, .unset, .unset, .unset, .unset, .unset, .unset, .unset, .unset] [(.int j7)]))
    by_cases hc154_58 : j7 = (0 : Int32)
    · refine Comes.st (fun t k => XS.ifNo X55.here hx rfl (hb hby at_154) rfl ((if0 _ _).trans (teq hc154_58).2) (XS.iconst X55.here hx rfl (hb hby at_157) (XS.goto X55.here hx rfl (pc0 := 158) (pc' := 162) rfl (hb hby at_158) (by decide) (by decide) k))) ?_
      show Comes p e below _ (T55.setTop (mkF m 162 #[.val (.int ia), .val (.int ib), .val (.int ic), .val (.int r2), .val (.int r4), .val (.int j7), .val (.int j11), .val (.int j15), .val (.int j19), .val (.int j23), .val (.ref b25), .val (.int r36), .val (.int r46), .val (.int r56), .unset, .unset, .unset, .unset, .unset, .unset, .unset, .unset, .unset] [(.int (1 : Int32))]))
      exact Comes.here ⟨_, _, (1 : Int32), rfl, X55, hs55, N55, (Or.inl ⟨hc154_58, rfl⟩)⟩
    · refine Comes.st (fun t k => XS.ifYes X55.here hx rfl (pc0 := 154) (pc' := 161) rfl (hb hby at_154) rfl ((if0 _ _).trans (feq hc154_58).2) (by decide) (by decide) (XS.iconst X55.here hx rfl (hb hby at_161) k)) ?_
      show Comes p e below _ (T55.setTop (mkF m 162 #[.val (.int ia), .val (.int ib), .val (.int ic), .val (.int r2), .val (.int r4), .val (.int j7), .val (.int j11), .val (.int j15), .val (.int j19), .val (.int j23), .val (.ref b25), .val (.int r36), .val (.int r46), .val (.int r56), .unset, .unset, .unset, .unset, .unset, .unset, .unset, .unset, .unset] [(.int (0 : Int32))]))
      exact Comes.here ⟨_, _, (0 : Int32), rfl, X55, hs55, N55, (Or.inr ⟨hc154_58, rfl⟩)⟩
  obtain ⟨_, st60, T60, L60, j59, rfl, X60, e60, N60, rel60⟩ := J57
  refine Comes.go st60 ?_
  show Comes p e below _ (T60.setTop (mkF m 162 #[.val (.int ia), .val (.int ib), .val (.int ic), .val (.int r2), .val (.int r4), .val (.int j7), .val (.int j11), .val (.int j15), .val (.int j19), .val (.int j23), .val (.ref b25), .val (.int r36), .val (.int r46), .val (.int r56), .unset, .unset, .unset, .unset, .unset, .unset, .unset, .unset, .unset] [(.int j59)]))
  refine Comes.st (fun t k => XS.istore X60.here hx rfl (hb hby at_162) rfl (l' := #[.val (.int ia), .val (.int ib), .val (.int ic), .val (.int r2), .val (.int r4), .val (.int j7), .val (.int j11), .val (.int j15), .val (.int j19), .val (.int j23), .val (.ref b25), .val (.int r36), .val (.int r46), .val (.int r56), .val (.int j59), .unset, .unset, .unset, .unset, .unset, .unset, .unset, .unset]) rfl (XS.iload X60.here hx rfl (hb hby at_164) rfl k)) ?_
  have J61 : Comes p e below (fun S' => ∃ (T' : State), ∃ (L' : List Loc), ∃ (j65 : Int32), (S' = T'.setTop (mkF m 184 #[.val (.int ia), .val (.int ib), .val (.int ic), .val (.int r2), .val (.int r4), .val (.int j7), .val (.int j11), .val (.int j15), .val (.int j19), .val (.int j23), .val (.ref b25), .val (.int r36), .val (.int r46), .val (.int r56), .val (.int j59), .unset, .unset, .unset, .unset, .unset, .unset, .unset, .unset] [(.int j65)])) ∧ (Stand p l e room_1 s m #[(.int ia), (.int ib), (.int ic)] below meth c T' L' 1 4) ∧ (T'.heap = T52.heap) ∧ (Fr n0 L') ∧ (((j11 = (0 : Int32)) ∧ ((1 : Int32) < r2) ∧ (j7 = (0 : Int32)) ∧ j65 = (1 : Int32)) ∨ ((j11 = (0 : Int32)) ∧ ((1 : Int32) < r2) ∧ (¬ (j7 = (0 : Int32))) ∧ j65 = (0 : Int32)) ∨ ((j11 = (0 : Int32)) ∧ (¬ ((1 : Int32) < r2)) ∧ j65 = (1 : Int32)) ∨ ((¬ (j11 = (0 : Int32))) ∧ j65 = (0 : Int32)))) (T60.setTop (mkF m 166 #[.val (.int ia), .val (.int ib), .val (.int ic), .val (.int r2), .val (.int r4), .val (.int j7), .val (.int j11), .val (.int j15), .val (.int j19), .val (.int j23), .val (.ref b25), .val (.int r36), .val (.int r46), .val (.int r56), .val (.int j59), .unset, .unset, .unset, .unset, .unset, .unset, .unset, .unset] [(.int j11)])) := by
    show Comes p e below _ (T60.setTop (mkF m 166 #[.val (.int ia), .val (.int ib), .val (.int ic), .val (.int r2), .val (.int r4), .val (.int j7), .val (.int j11), .val (.int j15), .val (.int j19), .val (.int j23), .val (.ref b25), .val (.int r36), .val (.int r46), .val (.int r56), .val (.int j59), .unset, .unset, .unset, .unset, .unset, .unset, .unset, .unset] [(.int j11)]))
    by_cases hc166_62 : j11 = (0 : Int32)
    · refine Comes.st (fun t k => XS.ifNo X60.here hx rfl (hb hby at_166) rfl ((if0 _ _).trans (teq hc166_62).2) (XS.iloadN X60.here hx rfl (hb hby at_169) rfl (XS.iconst X60.here hx rfl (hb hby at_170) k))) ?_
      show Comes p e below _ (T60.setTop (mkF m 171 #[.val (.int ia), .val (.int ib), .val (.int ic), .val (.int r2), .val (.int r4), .val (.int j7), .val (.int j11), .val (.int j15), .val (.int j19), .val (.int j23), .val (.ref b25), .val (.int r36), .val (.int r46), .val (.int r56), .val (.int j59), .unset, .unset, .unset, .unset, .unset, .unset, .unset, .unset] [(.int (1 : Int32)), (.int r2)]))
      by_cases hc171_63 : (1 : Int32) < r2
      · refine Comes.st (fun t k => XS.icmpNo X60.here hx rfl (hb hby at_171) rfl (tlt hc171_63).2.2.2 (XS.iload X60.here hx rfl (hb hby at_174) rfl k)) ?_
        show Comes p e below _ (T60.setTop (mkF m 176 #[.val (.int ia), .val (.int ib), .val (.int ic), .val (.int r2), .val (.int r4), .val (.int j7), .val (.int j11), .val (.int j15), .val (.int j19), .val (.int j23), .val (.ref b25), .val (.int r36), .val (.int r46), .val (.int r56), .val (.int j59), .unset, .unset, .unset, .unset, .unset, .unset, .unset, .unset] [(.int j7)]))
        by_cases hc176_64 : j7 = (0 : Int32)
        · refine Comes.st (fun t k => XS.ifNo X60.here hx rfl (hb hby at_176) rfl ((if0 _ _).trans (teq hc176_64).2) (XS.iconst X60.here hx rfl (hb hby at_179) (XS.goto X60.here hx rfl (pc0 := 180) (pc' := 184) rfl (hb hby at_180) (by decide) (by decide) k))) ?_
          show Comes p e below _ (T60.setTop (mkF m 184 #[.val (.int ia), .val (.int ib), .val (.int ic), .val (.int r2), .val (.int r4), .val (.int j7), .val (.int j11), .val (.int j15), .val (.int j19), .val (.int j23), .val (.ref b25), .val (.int r36), .val (.int r46), .val (.int r56), .val (.int j59), .unset, .unset, .unset, .unset, .unset, .unset, .unset, .unset] [(.int (1 : Int32))]))
          exact Comes.here ⟨_, _, (1 : Int32), rfl, X60, e60, N60, (Or.inl ⟨hc166_62, hc171_63, hc176_64, rfl⟩)⟩
        · refine Comes.st (fun t k => XS.ifYes X60.here hx rfl (pc0 := 176) (pc' := 183) rfl (hb hby at_176) rfl ((if0 _ _).trans (feq hc176_64).2) (by decide) (by decide) (XS.iconst X60.here hx rfl (hb hby at_183) k)) ?_
          show Comes p e below _ (T60.setTop (mkF m 184 #[.val (.int ia), .val (.int ib), .val (.int ic), .val (.int r2), .val (.int r4), .val (.int j7), .val (.int j11), .val (.int j15), .val (.int j19), .val (.int j23), .val (.ref b25), .val (.int r36), .val (.int r46), .val (.int r56), .val (.int j59), .unset, .unset, .unset, .unset, .unset, .unset, .unset, .unset] [(.int (0 : Int32))]))
          exact Comes.here ⟨_, _, (0 : Int32), rfl, X60, e60, N60, (Or.inr (Or.inl ⟨hc166_62, hc171_63, hc176_64, rfl⟩))⟩
      · refine Comes.st (fun t k => XS.icmpYes X60.here hx rfl (pc0 := 171) (pc' := 179) rfl (hb hby at_171) rfl (flt hc171_63).2.2.2 (by decide) (by decide) (XS.iconst X60.here hx rfl (hb hby at_179) (XS.goto X60.here hx rfl (pc0 := 180) (pc' := 184) rfl (hb hby at_180) (by decide) (by decide) k))) ?_
        show Comes p e below _ (T60.setTop (mkF m 184 #[.val (.int ia), .val (.int ib), .val (.int ic), .val (.int r2), .val (.int r4), .val (.int j7), .val (.int j11), .val (.int j15), .val (.int j19), .val (.int j23), .val (.ref b25), .val (.int r36), .val (.int r46), .val (.int r56), .val (.int j59), .unset, .unset, .unset, .unset, .unset, .unset, .unset, .unset] [(.int (1 : Int32))]))
        exact Comes.here ⟨_, _, (1 : Int32), rfl, X60, e60, N60, (Or.inr (Or.inr (Or.inl ⟨hc166_62, hc171_63, rfl⟩)))⟩
    · refine Comes.st (fun t k => XS.ifYes X60.here hx rfl (pc0 := 166) (pc' := 183) rfl (hb hby at_166) rfl ((if0 _ _).trans (feq hc166_62).2) (by decide) (by decide) (XS.iconst X60.here hx rfl (hb hby at_183) k)) ?_
      show Comes p e below _ (T60.setTop (mkF m 184 #[.val (.int ia), .val (.int ib), .val (.int ic), .val (.int r2), .val (.int r4), .val (.int j7), .val (.int j11), .val (.int j15), .val (.int j19), .val (.int j23), .val (.ref b25), .val (.int r36), .val (.int r46), .val (.int r56), .val (.int j59), .unset, .unset, .unset, .unset, .unset, .unset, .unset, .unset] [(.int (0 : Int32))]))
      exact Comes.here ⟨_, _, (0 : Int32), rfl, X60, e60, N60, (Or.inr (Or.inr (Or.inr ⟨hc166_62, rfl⟩)))⟩
  obtain ⟨_, st66, T66, L66, j65, rfl, X66, e66, N66, rel66⟩ := J61
  refine Comes.go st66 ?_
  show Comes p e below _ (T66.setTop (mkF m 184 #[.val (.int ia), .val (.int ib), .val (.int ic), .val (.int r2), .val (.int r4), .val (.int j7), .val (.int j11), .val (.int j15), .val (.int j19), .val (.int j23), .val (.ref b25), .val (.int r36), .val (.int r46), .val (.int r56), .val (.int j59), .unset, .unset, .unset, .unset, .unset, .unset, .unset, .unset] [(.int j65)]))
  refine Comes.st (fun t k => XS.istore X66.here hx rfl (hb hby at_184) rfl (l' := #[.val (.int ia), .val (.int ib), .val (.int ic), .val (.int r2), .val (.int r4), .val (.int j7), .val (.int j11), .val (.int j15), .val (.int j19), .val (.int j23), .val (.ref b25), .val (.int r36), .val (.int r46), .val (.int r56), .val (.int j59), .val (.int j65), .unset, .unset, .unset, .unset, .unset, .unset, .unset]) rfl (XS.iload X66.here hx rfl (hb hby at_186) rfl k)) ?_
  have J67 : Comes p e below (fun S' => ∃ (T' : State), ∃ (L' : List Loc), ∃ (j73 : Int32), (S' = T'.setTop (mkF m 216 #[.val (.int ia), .val (.int ib), .val (.int ic), .val (.int r2), .val (.int r4), .val (.int j7), .val (.int j11), .val (.int j15), .val (.int j19), .val (.int j23), .val (.ref b25), .val (.int r36), .val (.int r46), .val (.int r56), .val (.int j59), .val (.int j65), .unset, .unset, .unset, .unset, .unset, .unset, .unset] [(.int j73)])) ∧ (Stand p l e room_1 s m #[(.int ia), (.int ib), (.int ic)] below meth c T' L' 1 4) ∧ (T'.heap = T52.heap) ∧ (Fr n0 L') ∧ (((j15 = (0 : Int32)) ∧ ((1 : Int32) < r2) ∧ (j11 = (0 : Int32)) ∧ ((2 : Int32) < r2) ∧ (j7 = (0 : Int32)) ∧ j73 = (1 : Int32)) ∨ ((j15 = (0 : Int32)) ∧ ((1 : Int32) < r2) ∧ (j11 = (0 : Int32)) ∧ ((2 : Int32) < r2) ∧ (¬ (j7 = (0 : Int32))) ∧ j73 = (0 : Int32)) ∨ ((j15 = (0 : Int32)) ∧ ((1 : Int32) < r2) ∧ (j11 = (0 : Int32)) ∧ (¬ ((2 : Int32) < r2)) ∧ j73 = (1 : Int32)) ∨ ((j15 = (0 : Int32)) ∧ ((1 : Int32) < r2) ∧ (¬ (j11 = (0 : Int32))) ∧ j73 = (0 : Int32)) ∨ ((j15 = (0 : Int32)) ∧ (¬ ((1 : Int32) < r2)) ∧ j73 = (1 : Int32)) ∨ ((¬ (j15 = (0 : Int32))) ∧ j73 = (0 : Int32)))) (T66.setTop (mkF m 188 #[.val (.int ia), .val (.int ib), .val (.int ic), .val (.int r2), .val (.int r4), .val (.int j7), .val (.int j11), .val (.int j15), .val (.int j19), .val (.int j23), .val (.ref b25), .val (.int r36), .val (.int r46), .val (.int r56), .val (.int j59), .val (.int j65), .unset, .unset, .unset, .unset, .unset, .unset, .unset] [(.int j15)])) := by
    show Comes p e below _ (T66.setTop (mkF m 188 #[.val (.int ia), .val (.int ib), .val (.int ic), .val (.int r2), .val (.int r4), .val (.int j7), .val (.int j11), .val (.int j15), .val (.int j19), .val (.int j23), .val (.ref b25), .val (.int r36), .val (.int r46), .val (.int r56), .val (.int j59), .val (.int j65), .unset, .unset, .unset, .unset, .unset, .unset, .unset] [(.int j15)]))
    by_cases hc188_68 : j15 = (0 : Int32)
    · refine Comes.st (fun t k => XS.ifNo X66.here hx rfl (hb hby at_188) rfl ((if0 _ _).trans (teq hc188_68).2) (XS.iloadN X66.here hx rfl (hb hby at_191) rfl (XS.iconst X66.here hx rfl (hb hby at_192) k))) ?_
      show Comes p e below _ (T66.setTop (mkF m 193 #[.val (.int ia), .val (.int ib), .val (.int ic), .val (.int r2), .val (.int r4), .val (.int j7), .val (.int j11), .val (.int j15), .val (.int j19), .val (.int j23), .val (.ref b25), .val (.int r36), .val (.int r46), .val (.int r56), .val (.int j59), .val (.int j65), .unset, .unset, .unset, .unset, .unset, .unset, .unset] [(.int (1 : Int32)), (.int r2)]))
      by_cases hc193_69 : (1 : Int32) < r2
      · refine Comes.st (fun t k => XS.icmpNo X66.here hx rfl (hb hby at_193) rfl (tlt hc193_69).2.2.2 (XS.iload X66.here hx rfl (hb hby at_196) rfl k)) ?_
        show Comes p e below _ (T66.setTop (mkF m 198 #[.val (.int ia), .val (.int ib), .val (.int ic), .val (.int r2), .val (.int r4), .val (.int j7), .val (.int j11), .val (.int j15), .val (.int j19), .val (.int j23), .val (.ref b25), .val (.int r36), .val (.int r46), .val (.int r56), .val (.int j59), .val (.int j65), .unset, .unset, .unset, .unset, .unset, .unset, .unset] [(.int j11)]))
        by_cases hc198_70 : j11 = (0 : Int32)
        · refine Comes.st (fun t k => XS.ifNo X66.here hx rfl (hb hby at_198) rfl ((if0 _ _).trans (teq hc198_70).2) (XS.iloadN X66.here hx rfl (hb hby at_201) rfl (XS.iconst X66.here hx rfl (hb hby at_202) k))) ?_
          show Comes p e below _ (T66.setTop (mkF m 203 #[.val (.int ia), .val (.int ib), .val (.int ic), .val (.int r2), .val (.int r4), .val (.int j7), .val (.int j11), .val (.int j15), .val (.int j19), .val (.int j23), .val (.ref b25), .val (.int r36), .val (.int r46), .val (.int r56), .val (.int j59), .val (.int j65), .unset, .unset, .unset, .unset, .unset, .unset, .unset] [(.int (2 : Int32)), (.int r2)]))
          by_cases hc203_71 : (2 : Int32) < r2
          · refine Comes.st (fun t k => XS.icmpNo X66.here hx rfl (hb hby at_203) rfl (tlt hc203_71).2.2.2 (XS.iload X66.here hx rfl (hb hby at_206) rfl k)) ?_
            show Comes p e below _ (T66.setTop (mkF m 208 #[.val (.int ia), .val (.int ib), .val (.int ic), .val (.int r2), .val (.int r4), .val (.int j7), .val (.int j11), .val (.int j15), .val (.int j19), .val (.int j23), .val (.ref b25), .val (.int r36), .val (.int r46), .val (.int r56), .val (.int j59), .val (.int j65), .unset, .unset, .unset, .unset, .unset, .unset, .unset] [(.int j7)]))
            by_cases hc208_72 : j7 = (0 : Int32)
            · refine Comes.st (fun t k => XS.ifNo X66.here hx rfl (hb hby at_208) rfl ((if0 _ _).trans (teq hc208_72).2) (XS.iconst X66.here hx rfl (hb hby at_211) (XS.goto X66.here hx rfl (pc0 := 212) (pc' := 216) rfl (hb hby at_212) (by decide) (by decide) k))) ?_
              show Comes p e below _ (T66.setTop (mkF m 216 #[.val (.int ia), .val (.int ib), .val (.int ic), .val (.int r2), .val (.int r4), .val (.int j7), .val (.int j11), .val (.int j15), .val (.int j19), .val (.int j23), .val (.ref b25), .val (.int r36), .val (.int r46), .val (.int r56), .val (.int j59), .val (.int j65), .unset, .unset, .unset, .unset, .unset, .unset, .unset] [(.int (1 : Int32))]))
              exact Comes.here ⟨_, _, (1 : Int32), rfl, X66, e66, N66, (Or.inl ⟨hc188_68, hc193_69, hc198_70, hc203_71, hc208_72, rfl⟩)⟩
            · refine Comes.st (fun t k => XS.ifYes X66.here hx rfl (pc0 := 208) (pc' := 215) rfl (hb hby at_208) rfl ((if0 _ _).trans (feq hc208_72).2) (by decide) (by decide) (XS.iconst X66.here hx rfl (hb hby at_215) k)) ?_
              show Comes p e below _ (T66.setTop (mkF m 216 #[.val (.int ia), .val (.int ib), .val (.int ic), .val (.int r2), .val (.int r4), .val (.int j7), .val (.int j11), .val (.int j15), .val (.int j19), .val (.int j23), .val (.ref b25), .val (.int r36), .val (.int r46), .val (.int r56), .val (.int j59), .val (.int j65), .unset, .unset, .unset, .unset, .unset, .unset, .unset] [(.int (0 : Int32))]))
              exact Comes.here ⟨_, _, (0 : Int32), rfl, X66, e66, N66, (Or.inr (Or.inl ⟨hc188_68, hc193_69, hc198_70, hc203_71, hc208_72, rfl⟩))⟩
          · refine Comes.st (fun t k => XS.icmpYes X66.here hx rfl (pc0 := 203) (pc' := 211) rfl (hb hby at_203) rfl (flt hc203_71).2.2.2 (by decide) (by decide) (XS.iconst X66.here hx rfl (hb hby at_211) (XS.goto X66.here hx rfl (pc0 := 212) (pc' := 216) rfl (hb hby at_212) (by decide) (by decide) k))) ?_
            show Comes p e below _ (T66.setTop (mkF m 216 #[.val (.int ia), .val (.int ib), .val (.int ic), .val (.int r2), .val (.int r4), .val (.int j7), .val (.int j11), .val (.int j15), .val (.int j19), .val (.int j23), .val (.ref b25), .val (.int r36), .val (.int r46), .val (.int r56), .val (.int j59), .val (.int j65), .unset, .unset, .unset, .unset, .unset, .unset, .unset] [(.int (1 : Int32))]))
            exact Comes.here ⟨_, _, (1 : Int32), rfl, X66, e66, N66, (Or.inr (Or.inr (Or.inl ⟨hc188_68, hc193_69, hc198_70, hc203_71, rfl⟩)))⟩
        · refine Comes.st (fun t k => XS.ifYes X66.here hx rfl (pc0 := 198) (pc' := 215) rfl (hb hby at_198) rfl ((if0 _ _).trans (feq hc198_70).2) (by decide) (by decide) (XS.iconst X66.here hx rfl (hb hby at_215) k)) ?_
          show Comes p e below _ (T66.setTop (mkF m 216 #[.val (.int ia), .val (.int ib), .val (.int ic), .val (.int r2), .val (.int r4), .val (.int j7), .val (.int j11), .val (.int j15), .val (.int j19), .val (.int j23), .val (.ref b25), .val (.int r36), .val (.int r46), .val (.int r56), .val (.int j59), .val (.int j65), .unset, .unset, .unset, .unset, .unset, .unset, .unset] [(.int (0 : Int32))]))
          exact Comes.here ⟨_, _, (0 : Int32), rfl, X66, e66, N66, (Or.inr (Or.inr (Or.inr (Or.inl ⟨hc188_68, hc193_69, hc198_70, rfl⟩))))⟩
      · refine Comes.st (fun t k => XS.icmpYes X66.here hx rfl (pc0 := 193) (pc' := 211) rfl (hb hby at_193) rfl (flt hc193_69).2.2.2 (by decide) (by decide) (XS.iconst X66.here hx rfl (hb hby at_211) (XS.goto X66.here hx rfl (pc0 := 212) (pc' := 216) rfl (hb hby at_212) (by decide) (by decide) k))) ?_
        show Comes p e below _ (T66.setTop (mkF m 216 #[.val (.int ia), .val (.int ib), .val (.int ic), .val (.int r2), .val (.int r4), .val (.int j7), .val (.int j11), .val (.int j15), .val (.int j19), .val (.int j23), .val (.ref b25), .val (.int r36), .val (.int r46), .val (.int r56), .val (.int j59), .val (.int j65), .unset, .unset, .unset, .unset, .unset, .unset, .unset] [(.int (1 : Int32))]))
        exact Comes.here ⟨_, _, (1 : Int32), rfl, X66, e66, N66, (Or.inr (Or.inr (Or.inr (Or.inr (Or.inl ⟨hc188_68, hc193_69, rfl⟩)))))⟩
    · refine Comes.st (fun t k => XS.ifYes X66.here hx rfl (pc0 := 188) (pc' := 215) rfl (hb hby at_188) rfl ((if0 _ _).trans (feq hc188_68).2) (by decide) (by decide) (XS.iconst X66.here hx rfl (hb hby at_215) k)) ?_
      show Comes p e below _ (T66.setTop (mkF m 216 #[.val (.int ia), .val (.int ib), .val (.int ic), .val (.int r2), .val (.int r4), .val (.int j7), .val (.int j11), .val (.int j15), .val (.int j19), .val (.int j23), .val (.ref b25), .val (.int r36), .val (.int r46), .val (.int r56), .val (.int j59), .val (.int j65), .unset, .unset, .unset, .unset, .unset, .unset, .unset] [(.int (0 : Int32))]))
      exact Comes.here ⟨_, _, (0 : Int32), rfl, X66, e66, N66, (Or.inr (Or.inr (Or.inr (Or.inr (Or.inr ⟨hc188_68, rfl⟩)))))⟩
  obtain ⟨_, st74, T74, L74, j73, rfl, X74, e74, N74, rel74⟩ := J67
  refine Comes.go st74 ?_
  show Comes p e below _ (T74.setTop (mkF m 216 #[.val (.int ia), .val (.int ib), .val (.int ic), .val (.int r2), .val (.int r4), .val (.int j7), .val (.int j11), .val (.int j15), .val (.int j19), .val (.int j23), .val (.ref b25), .val (.int r36), .val (.int r46), .val (.int r56), .val (.int j59), .val (.int j65), .unset, .unset, .unset, .unset, .unset, .unset, .unset] [(.int j73)]))
  refine Comes.st (fun t k => XS.istore X74.here hx rfl (hb hby at_216) rfl (l' := #[.val (.int ia), .val (.int ib), .val (.int ic), .val (.int r2), .val (.int r4), .val (.int j7), .val (.int j11), .val (.int j15), .val (.int j19), .val (.int j23), .val (.ref b25), .val (.int r36), .val (.int r46), .val (.int r56), .val (.int j59), .val (.int j65), .val (.int j73), .unset, .unset, .unset, .unset, .unset, .unset]) rfl (XS.iconst X74.here hx rfl (hb hby at_218) (XS.istore X74.here hx rfl (hb hby at_219) rfl (l' := #[.val (.int ia), .val (.int ib), .val (.int ic), .val (.int r2), .val (.int r4), .val (.int j7), .val (.int j11), .val (.int j15), .val (.int j19), .val (.int j23), .val (.ref b25), .val (.int r36), .val (.int r46), .val (.int r56), .val (.int j59), .val (.int j65), .val (.int j73), .val (.int (1 : Int32)), .unset, .unset, .unset, .unset, .unset]) rfl (XS.iload X74.here hx rfl (hb hby at_221) rfl k)))) ?_
  have J75 : Comes p e below (fun S' => ∃ (T' : State), ∃ (L' : List Loc), ∃ (j77 : Int32), (S' = T'.setTop (mkF m 231 #[.val (.int ia), .val (.int ib), .val (.int ic), .val (.int r2), .val (.int r4), .val (.int j7), .val (.int j11), .val (.int j15), .val (.int j19), .val (.int j23), .val (.ref b25), .val (.int r36), .val (.int r46), .val (.int r56), .val (.int j59), .val (.int j65), .val (.int j73), .val (.int (1 : Int32)), .unset, .unset, .unset, .unset, .unset] [(.int j77)])) ∧ (Stand p l e room_1 s m #[(.int ia), (.int ib), (.int ic)] below meth c T' L' 1 4) ∧ (T'.heap = T52.heap) ∧ (Fr n0 L') ∧ (((j19 = (0 : Int32)) ∧ j77 = (2 : Int32)) ∨ ((¬ (j19 = (0 : Int32))) ∧ j77 = (1 : Int32)))) (T74.setTop (mkF m 223 #[.val (.int ia), .val (.int ib), .val (.int ic), .val (.int r2), .val (.int r4), .val (.int j7), .val (.int j11), .val (.int j15), .val (.int j19), .val (.int j23), .val (.ref b25), .val (.int r36), .val (.int r46), .val (.int r56), .val (.int j59), .val (.int j65), .val (.int j73), .val (.int (1 : Int32)), .unset, .unset, .unset, .unset, .unset] [(.int j19)])) := by
    show Comes p e below _ (T74.setTop (mkF m 223 #[.val (.int ia), .val (.int ib), .val (.int ic), .val (.int r2), .val (.int r4), .val (.int j7), .val (.int j11), .val (.int j15), .val (.int j19), .val (.int j23), .val (.ref b25), .val (.int r36), .val (.int r46), .val (.int r56), .val (.int j59), .val (.int j65), .val (.int j73), .val (.int (1 : Int32)), .unset, .unset, .unset, .unset, .unset] [(.int j19)]))
    by_cases hc223_76 : j19 = (0 : Int32)
    · refine Comes.st (fun t k => XS.ifYes X74.here hx rfl (pc0 := 223) (pc' := 230) rfl (hb hby at_223) rfl ((if0 _ _).trans (teq hc223_76).1) (by decide) (by decide) (XS.iconst X74.here hx rfl (hb hby at_230) k)) ?_
      show Comes p e below _ (T74.setTop (mkF m 231 #[.val (.int ia), .val (.int ib), .val (.int ic), .val (.int r2), .val (.int r4), .val (.int j7), .val (.int j11), .val (.int j15), .val (.int j19), .val (.int j23), .val (.ref b25), .val (.int r36), .val (.int r46), .val (.int r56), .val (.int j59), .val (.int j65), .val (.int j73), .val (.int (1 : Int32)), .unset, .unset, .unset, .unset, .unset] [(.int (2 : Int32))]))
      exact Comes.here ⟨_, _, (2 : Int32), rfl, X74, e74, N74, (Or.inl ⟨hc223_76, rfl⟩)⟩
    · refine Comes.st (fun t k => XS.ifNo X74.here hx rfl (hb hby at_223) rfl ((if0 _ _).trans (feq hc223_76).1) (XS.iconst X74.here hx rfl (hb hby at_226) (XS.goto X74.here hx rfl (pc0 := 227) (pc' := 231) rfl (hb hby at_227) (by decide) (by decide) k))) ?_
      show Comes p e below _ (T74.setTop (mkF m 231 #[.val (.int ia), .val (.int ib), .val (.int ic), .val (.int r2), .val (.int r4), .val (.int j7), .val (.int j11), .val (.int j15), .val (.int j19), .val (.int j23), .val (.ref b25), .val (.int r36), .val (.int r46), .val (.int r56), .val (.int j59), .val (.int j65), .val (.int j73), .val (.int (1 : Int32)), .unset, .unset, .unset, .unset, .unset] [(.int (1 : Int32))]))
      exact Comes.here ⟨_, _, (1 : Int32), rfl, X74, e74, N74, (Or.inr ⟨hc223_76, rfl⟩)⟩
  obtain ⟨_, st78, T78, L78, j77, rfl, X78, e78, N78, rel78⟩ := J75
  refine Comes.go st78 ?_
  show Comes p e below _ (T78.setTop (mkF m 231 #[.val (.int ia), .val (.int ib), .val (.int ic), .val (.int r2), .val (.int r4), .val (.int j7), .val (.int j11), .val (.int j15), .val (.int j19), .val (.int j23), .val (.ref b25), .val (.int r36), .val (.int r46), .val (.int r56), .val (.int j59), .val (.int j65), .val (.int j73), .val (.int (1 : Int32)), .unset, .unset, .unset, .unset, .unset] [(.int j77)]))
  refine Comes.st (fun t k => XS.istore X78.here hx rfl (hb hby at_231) rfl (l' := #[.val (.int ia), .val (.int ib), .val (.int ic), .val (.int r2), .val (.int r4), .val (.int j7), .val (.int j11), .val (.int j15), .val (.int j19), .val (.int j23), .val (.ref b25), .val (.int r36), .val (.int r46), .val (.int r56), .val (.int j59), .val (.int j65), .val (.int j73), .val (.int (1 : Int32)), .val (.int j77), .unset, .unset, .unset, .unset]) rfl (XS.iload X78.here hx rfl (hb hby at_233) rfl k)) ?_
  have J79 : Comes p e below (fun S' => ∃ (T' : State), ∃ (L' : List Loc), ∃ (j82 : Int32), (S' = T'.setTop (mkF m 252 #[.val (.int ia), .val (.int ib), .val (.int ic), .val (.int r2), .val (.int r4), .val (.int j7), .val (.int j11), .val (.int j15), .val (.int j19), .val (.int j23), .val (.ref b25), .val (.int r36), .val (.int r46), .val (.int r56), .val (.int j59), .val (.int j65), .val (.int j73), .val (.int (1 : Int32)), .val (.int j77), .unset, .unset, .unset, .unset] [(.int j82)])) ∧ (Stand p l e room_1 s m #[(.int ia), (.int ib), (.int ic)] below meth c T' L' 1 4) ∧ (T'.heap = T52.heap) ∧ (Fr n0 L') ∧ (((j23 = (0 : Int32)) ∧ (j19 = (0 : Int32)) ∧ j82 = (3 : Int32)) ∨ ((j23 = (0 : Int32)) ∧ (¬ (j19 = (0 : Int32))) ∧ j82 = (2 : Int32)) ∨ ((¬ (j23 = (0 : Int32))) ∧ j82 = (1 : Int32)))) (T78.setTop (mkF m 235 #[.val (.int ia), .val (.int ib), .val (.int ic), .val (.int r2), .val (.int r4), .val (.int j7), .val (.int j11), .val (.int j15), .val (.int j19), .val (.int j23), .val (.ref b25), .val (.int r36), .val (.int r46), .val (.int r56), .val (.int j59), .val (.int j65), .val (.int j73), .val (.int (1 : Int32)), .val (.int j77), .unset, .unset, .unset, .unset] [(.int j23)])) := by
    show Comes p e below _ (T78.setTop (mkF m 235 #[.val (.int ia), .val (.int ib), .val (.int ic), .val (.int r2), .val (.int r4), .val (.int j7), .val (.int j11), .val (.int j15), .val (.int j19), .val (.int j23), .val (.ref b25), .val (.int r36), .val (.int r46), .val (.int r56), .val (.int j59), .val (.int j65), .val (.int j73), .val (.int (1 : Int32)), .val (.int j77), .unset, .unset, .unset, .unset] [(.int j23)]))
    by_cases hc235_80 : j23 = (0 : Int32)
    · refine Comes.st (fun t k => XS.ifYes X78.here hx rfl (pc0 := 235) (pc' := 242) rfl (hb hby at_235) rfl ((if0 _ _).trans (teq hc235_80).1) (by decide) (by decide) (XS.iload X78.here hx rfl (hb hby at_242) rfl k)) ?_
      show Comes p e below _ (T78.setTop (mkF m 244 #[.val (.int ia), .val (.int ib), .val (.int ic), .val (.int r2), .val (.int r4), .val (.int j7), .val (.int j11), .val (.int j15), .val (.int j19), .val (.int j23), .val (.ref b25), .val (.int r36), .val (.int r46), .val (.int r56), .val (.int j59), .val (.int j65), .val (.int j73), .val (.int (1 : Int32)), .val (.int j77), .unset, .unset, .unset, .unset] [(.int j19)]))
      by_cases hc244_81 : j19 = (0 : Int32)
      · refine Comes.st (fun t k => XS.ifYes X78.here hx rfl (pc0 := 244) (pc' := 251) rfl (hb hby at_244) rfl ((if0 _ _).trans (teq hc244_81).1) (by decide) (by decide) (XS.iconst X78.here hx rfl (hb hby at_251) k)) ?_
        show Comes p e below _ (T78.setTop (mkF m 252 #[.val (.int ia), .val (.int ib), .val (.int ic), .val (.int r2), .val (.int r4), .val (.int j7), .val (.int j11), .val (.int j15), .val (.int j19), .val (.int j23), .val (.ref b25), .val (.int r36), .val (.int r46), .val (.int r56), .val (.int j59), .val (.int j65), .val (.int j73), .val (.int (1 : Int32)), .val (.int j77), .unset, .unset, .unset, .unset] [(.int (3 : Int32))]))
        exact Comes.here ⟨_, _, (3 : Int32), rfl, X78, e78, N78, (Or.inl ⟨hc235_80, hc244_81, rfl⟩)⟩
      · refine Comes.st (fun t k => XS.ifNo X78.here hx rfl (hb hby at_244) rfl ((if0 _ _).trans (feq hc244_81).1) (XS.iconst X78.here hx rfl (hb hby at_247) (XS.goto X78.here hx rfl (pc0 := 248) (pc' := 252) rfl (hb hby at_248) (by decide) (by decide) k))) ?_
        show Comes p e below _ (T78.setTop (mkF m 252 #[.val (.int ia), .val (.int ib), .val (.int ic), .val (.int r2), .val (.int r4), .val (.int j7), .val (.int j11), .val (.int j15), .val (.int j19), .val (.int j23), .val (.ref b25), .val (.int r36), .val (.int r46), .val (.int r56), .val (.int j59), .val (.int j65), .val (.int j73), .val (.int (1 : Int32)), .val (.int j77), .unset, .unset, .unset, .unset] [(.int (2 : Int32))]))
        exact Comes.here ⟨_, _, (2 : Int32), rfl, X78, e78, N78, (Or.inr (Or.inl ⟨hc235_80, hc244_81, rfl⟩))⟩
    · refine Comes.st (fun t k => XS.ifNo X78.here hx rfl (hb hby at_235) rfl ((if0 _ _).trans (feq hc235_80).1) (XS.iconst X78.here hx rfl (hb hby at_238) (XS.goto X78.here hx rfl (pc0 := 239) (pc' := 252) rfl (hb hby at_239) (by decide) (by decide) k))) ?_
      show Comes p e below _ (T78.setTop (mkF m 252 #[.val (.int ia), .val (.int ib), .val (.int ic), .val (.int r2), .val (.int r4), .val (.int j7), .val (.int j11), .val (.int j15), .val (.int j19), .val (.int j23), .val (.ref b25), .val (.int r36), .val (.int r46), .val (.int r56), .val (.int j59), .val (.int j65), .val (.int j73), .val (.int (1 : Int32)), .val (.int j77), .unset, .unset, .unset, .unset] [(.int (1 : Int32))]))
      exact Comes.here ⟨_, _, (1 : Int32), rfl, X78, e78, N78, (Or.inr (Or.inr ⟨hc235_80, rfl⟩))⟩
  obtain ⟨_, st83, T83, L83, j82, rfl, X83, e83, N83, rel83⟩ := J79
  refine Comes.go st83 ?_
  show Comes p e below _ (T83.setTop (mkF m 252 #[.val (.int ia), .val (.int ib), .val (.int ic), .val (.int r2), .val (.int r4), .val (.int j7), .val (.int j11), .val (.int j15), .val (.int j19), .val (.int j23), .val (.ref b25), .val (.int r36), .val (.int r46), .val (.int r56), .val (.int j59), .val (.int j65), .val (.int j73), .val (.int (1 : Int32)), .val (.int j77), .unset, .unset, .unset, .unset] [(.int j82)]))
  refine Comes.st (fun t k => XS.istore X83.here hx rfl (hb hby at_252) rfl (l' := #[.val (.int ia), .val (.int ib), .val (.int ic), .val (.int r2), .val (.int r4), .val (.int j7), .val (.int j11), .val (.int j15), .val (.int j19), .val (.int j23), .val (.ref b25), .val (.int r36), .val (.int r46), .val (.int r56), .val (.int j59), .val (.int j65), .val (.int j73), .val (.int (1 : Int32)), .val (.int j77), .val (.int j82), .unset, .unset, .unset]) rfl (XS.iload X83.here hx rfl (hb hby at_254) rfl k)) ?_
  have J84 : Comes p e below (fun S' => ∃ (T' : State), ∃ (L' : List Loc), ∃ (j87 : Int32), (S' = T'.setTop (mkF m 271 #[.val (.int ia), .val (.int ib), .val (.int ic), .val (.int r2), .val (.int r4), .val (.int j7), .val (.int j11), .val (.int j15), .val (.int j19), .val (.int j23), .val (.ref b25), .val (.int r36), .val (.int r46), .val (.int r56), .val (.int j59), .val (.int j65), .val (.int j73), .val (.int (1 : Int32)), .val (.int j77), .val (.int j82), .unset, .unset, .unset] [(.int j87)])) ∧ (Stand p l e room_1 s m #[(.int ia), (.int ib), (.int ic)] below meth c T' L' 1 4) ∧ (T'.heap = T52.heap) ∧ (Fr n0 L') ∧ (((j59 = (0 : Int32)) ∧ ((1 : Int32) < r4) ∧ j87 = (0 : Int32)) ∨ ((j59 = (0 : Int32)) ∧ (¬ ((1 : Int32) < r4)) ∧ j87 = (1 : Int32)) ∨ ((¬ (j59 = (0 : Int32))) ∧ j87 = (1 : Int32)))) (T83.setTop (mkF m 256 #[.val (.int ia), .val (.int ib), .val (.int ic), .val (.int r2), .val (.int r4), .val (.int j7), .val (.int j11), .val (.int j15), .val (.int j19), .val (.int j23), .val (.ref b25), .val (.int r36), .val (.int r46), .val (.int r56), .val (.int j59), .val (.int j65), .val (.int j73), .val (.int (1 : Int32)), .val (.int j77), .val (.int j82), .unset, .unset, .unset] [(.int j59)])) := by
    show Comes p e below _ (T83.setTop (mkF m 256 #[.val (.int ia), .val (.int ib), .val (.int ic), .val (.int r2), .val (.int r4), .val (.int j7), .val (.int j11), .val (.int j15), .val (.int j19), .val (.int j23), .val (.ref b25), .val (.int r36), .val (.int r46), .val (.int r56), .val (.int j59), .val (.int j65), .val (.int j73), .val (.int (1 : Int32)), .val (.int j77), .val (.int j82), .unset, .unset, .unset] [(.int j59)]))
    by_cases hc256_85 : j59 = (0 : Int32)
    · refine Comes.st (fun t k => XS.ifNo X83.here hx rfl (hb hby at_256) rfl ((if0 _ _).trans (teq hc256_85).2) (XS.iload X83.here hx rfl (hb hby at_259) rfl (XS.iload X83.here hx rfl (hb hby at_261) rfl k))) ?_
      show Comes p e below _ (T83.setTop (mkF m 263 #[.val (.int ia), .val (.int ib), .val (.int ic), .val (.int r2), .val (.int r4), .val (.int j7), .val (.int j11), .val (.int j15), .val (.int j19), .val (.int j23), .val (.ref b25), .val (.int r36), .val (.int r46), .val (.int r56), .val (.int j59), .val (.int j65), .val (.int j73), .val (.int (1 : Int32)), .val (.int j77), .val (.int j82), .unset, .unset, .unset] [(.int r4), (.int (1 : Int32))]))
      by_cases hc263_86 : (1 : Int32) < r4
      · refine Comes.st (fun t k => XS.icmpYes X83.here hx rfl (pc0 := 263) (pc' := 270) rfl (hb hby at_263) rfl (tlt hc263_86).1 (by decide) (by decide) (XS.iconst X83.here hx rfl (hb hby at_270) k)) ?_
        show Comes p e below _ (T83.setTop (mkF m 271 #[.val (.int ia), .val (.int ib), .val (.int ic), .val (.int r2), .val (.int r4), .val (.int j7), .val (.int j11), .val (.int j15), .val (.int j19), .val (.int j23), .val (.ref b25), .val (.int r36), .val (.int r46), .val (.int r56), .val (.int j59), .val (.int j65), .val (.int j73), .val (.int (1 : Int32)), .val (.int j77), .val (.int j82), .unset, .unset, .unset] [(.int (0 : Int32))]))
        exact Comes.here ⟨_, _, (0 : Int32), rfl, X83, e83, N83, (Or.inl ⟨hc256_85, hc263_86, rfl⟩)⟩
      · refine Comes.st (fun t k => XS.icmpNo X83.here hx rfl (hb hby at_263) rfl (flt hc263_86).1 (XS.iconst X83.here hx rfl (hb hby at_266) (XS.goto X83.here hx rfl (pc0 := 267) (pc' := 271) rfl (hb hby at_267) (by decide) (by decide) k))) ?_
        show Comes p e below _ (T83.setTop (mkF m 271 #[.val (.int ia), .val (.int ib), .val (.int ic), .val (.int r2), .val (.int r4), .val (.int j7), .val (.int j11), .val (.int j15), .val (.int j19), .val (.int j23), .val (.ref b25), .val (.int r36), .val (.int r46), .val (.int r56), .val (.int j59), .val (.int j65), .val (.int j73), .val (.int (1 : Int32)), .val (.int j77), .val (.int j82), .unset, .unset, .unset] [(.int (1 : Int32))]))
        exact Comes.here ⟨_, _, (1 : Int32), rfl, X83, e83, N83, (Or.inr (Or.inl ⟨hc256_85, hc263_86, rfl⟩))⟩
    · refine Comes.st (fun t k => XS.ifYes X83.here hx rfl (pc0 := 256) (pc' := 266) rfl (hb hby at_256) rfl ((if0 _ _).trans (feq hc256_85).2) (by decide) (by decide) (XS.iconst X83.here hx rfl (hb hby at_266) (XS.goto X83.here hx rfl (pc0 := 267) (pc' := 271) rfl (hb hby at_267) (by decide) (by decide) k))) ?_
      show Comes p e below _ (T83.setTop (mkF m 271 #[.val (.int ia), .val (.int ib), .val (.int ic), .val (.int r2), .val (.int r4), .val (.int j7), .val (.int j11), .val (.int j15), .val (.int j19), .val (.int j23), .val (.ref b25), .val (.int r36), .val (.int r46), .val (.int r56), .val (.int j59), .val (.int j65), .val (.int j73), .val (.int (1 : Int32)), .val (.int j77), .val (.int j82), .unset, .unset, .unset] [(.int (1 : Int32))]))
      exact Comes.here ⟨_, _, (1 : Int32), rfl, X83, e83, N83, (Or.inr (Or.inr ⟨hc256_85, rfl⟩))⟩
  obtain ⟨_, st88, T88, L88, j87, rfl, X88, e88, N88, rel88⟩ := J84
  refine Comes.go st88 ?_
  show Comes p e below _ (T88.setTop (mkF m 271 #[.val (.int ia), .val (.int ib), .val (.int ic), .val (.int r2), .val (.int r4), .val (.int j7), .val (.int j11), .val (.int j15), .val (.int j19), .val (.int j23), .val (.ref b25), .val (.int r36), .val (.int r46), .val (.int r56), .val (.int j59), .val (.int j65), .val (.int j73), .val (.int (1 : Int32)), .val (.int j77), .val (.int j82), .unset, .unset, .unset] [(.int j87)]))
  refine Comes.st (fun t k => XS.istore X88.here hx rfl (hb hby at_271) rfl (l' := #[.val (.int ia), .val (.int ib), .val (.int ic), .val (.int r2), .val (.int r4), .val (.int j7), .val (.int j11), .val (.int j15), .val (.int j19), .val (.int j23), .val (.ref b25), .val (.int r36), .val (.int r46), .val (.int r56), .val (.int j59), .val (.int j65), .val (.int j73), .val (.int (1 : Int32)), .val (.int j77), .val (.int j82), .val (.int j87), .unset, .unset]) rfl (XS.iload X88.here hx rfl (hb hby at_273) rfl k)) ?_
  have J89 : Comes p e below (fun S' => ∃ (T' : State), ∃ (L' : List Loc), ∃ (j92 : Int32), (S' = T'.setTop (mkF m 290 #[.val (.int ia), .val (.int ib), .val (.int ic), .val (.int r2), .val (.int r4), .val (.int j7), .val (.int j11), .val (.int j15), .val (.int j19), .val (.int j23), .val (.ref b25), .val (.int r36), .val (.int r46), .val (.int r56), .val (.int j59), .val (.int j65), .val (.int j73), .val (.int (1 : Int32)), .val (.int j77), .val (.int j82), .val (.int j87), .unset, .unset] [(.int j92)])) ∧ (Stand p l e room_1 s m #[(.int ia), (.int ib), (.int ic)] below meth c T' L' 1 4) ∧ (T'.heap = T52.heap) ∧ (Fr n0 L') ∧ (((j65 = (0 : Int32)) ∧ (j77 < r4) ∧ j92 = (0 : Int32)) ∨ ((j65 = (0 : Int32)) ∧ (¬ (j77 < r4)) ∧ j92 = (1 : Int32)) ∨ ((¬ (j65 = (0 : Int32))) ∧ j92 = (1 : Int32)))) (T88.setTop (mkF m 275 #[.val (.int ia), .val (.int ib), .val (.int ic), .val (.int r2), .val (.int r4), .val (.int j7), .val (.int j11), .val (.int j15), .val (.int j19), .val (.int j23), .val (.ref b25), .val (.int r36), .val (.int r46), .val (.int r56), .val (.int j59), .val (.int j65), .val (.int j73), .val (.int (1 : Int32)), .val (.int j77), .val (.int j82), .val (.int j87), .unset, .unset] [(.int j65)])) := by
    show Comes p e below _ (T88.setTop (mkF m 275 #[.val (.int ia), .val (.int ib), .val (.int ic), .val (.int r2), .val (.int r4), .val (.int j7), .val (.int j11), .val (.int j15), .val (.int j19), .val (.int j23), .val (.ref b25), .val (.int r36), .val (.int r46), .val (.int r56), .val (.int j59), .val (.int j65), .val (.int j73), .val (.int (1 : Int32)), .val (.int j77), .val (.int j82), .val (.int j87), .unset, .unset] [(.int j65)]))
    by_cases hc275_90 : j65 = (0 : Int32)
    · refine Comes.st (fun t k => XS.ifNo X88.here hx rfl (hb hby at_275) rfl ((if0 _ _).trans (teq hc275_90).2) (XS.iload X88.here hx rfl (hb hby at_278) rfl (XS.iload X88.here hx rfl (hb hby at_280) rfl k))) ?_
      show Comes p e below _ (T88.setTop (mkF m 282 #[.val (.int ia), .val (.int ib), .val (.int ic), .val (.int r2), .val (.int r4), .val (.int j7), .val (.int j11), .val (.int j15), .val (.int j19), .val (.int j23), .val (.ref b25), .val (.int r36), .val (.int r46), .val (.int r56), .val (.int j59), .val (.int j65), .val (.int j73), .val (.int (1 : Int32)), .val (.int j77), .val (.int j82), .val (.int j87), .unset, .unset] [(.int r4), (.int j77)]))
      by_cases hc282_91 : j77 < r4
      · refine Comes.st (fun t k => XS.icmpYes X88.here hx rfl (pc0 := 282) (pc' := 289) rfl (hb hby at_282) rfl (tlt hc282_91).1 (by decide) (by decide) (XS.iconst X88.here hx rfl (hb hby at_289) k)) ?_
        show Comes p e below _ (T88.setTop (mkF m 290 #[.val (.int ia), .val (.int ib), .val (.int ic), .val (.int r2), .val (.int r4), .val (.int j7), .val (.int j11), .val (.int j15), .val (.int j19), .val (.int j23), .val (.ref b25), .val (.int r36), .val (.int r46), .val (.int r56), .val (.int j59), .val (.int j65), .val (.int j73), .val (.int (1 : Int32)), .val (.int j77), .val (.int j82), .val (.int j87), .unset, .unset] [(.int (0 : Int32))]))
        exact Comes.here ⟨_, _, (0 : Int32), rfl, X88, e88, N88, (Or.inl ⟨hc275_90, hc282_91, rfl⟩)⟩
      · refine Comes.st (fun t k => XS.icmpNo X88.here hx rfl (hb hby at_282) rfl (flt hc282_91).1 (XS.iconst X88.here hx rfl (hb hby at_285) (XS.goto X88.here hx rfl (pc0 := 286) (pc' := 290) rfl (hb hby at_286) (by decide) (by decide) k))) ?_
        show Comes p e below _ (T88.setTop (mkF m 290 #[.val (.int ia), .val (.int ib), .val (.int ic), .val (.int r2), .val (.int r4), .val (.int j7), .val (.int j11), .val (.int j15), .val (.int j19), .val (.int j23), .val (.ref b25), .val (.int r36), .val (.int r46), .val (.int r56), .val (.int j59), .val (.int j65), .val (.int j73), .val (.int (1 : Int32)), .val (.int j77), .val (.int j82), .val (.int j87), .unset, .unset] [(.int (1 : Int32))]))
        exact Comes.here ⟨_, _, (1 : Int32), rfl, X88, e88, N88, (Or.inr (Or.inl ⟨hc275_90, hc282_91, rfl⟩))⟩
    · refine Comes.st (fun t k => XS.ifYes X88.here hx rfl (pc0 := 275) (pc' := 285) rfl (hb hby at_275) rfl ((if0 _ _).trans (feq hc275_90).2) (by decide) (by decide) (XS.iconst X88.here hx rfl (hb hby at_285) (XS.goto X88.here hx rfl (pc0 := 286) (pc' := 290) rfl (hb hby at_286) (by decide) (by decide) k))) ?_
      show Comes p e below _ (T88.setTop (mkF m 290 #[.val (.int ia), .val (.int ib), .val (.int ic), .val (.int r2), .val (.int r4), .val (.int j7), .val (.int j11), .val (.int j15), .val (.int j19), .val (.int j23), .val (.ref b25), .val (.int r36), .val (.int r46), .val (.int r56), .val (.int j59), .val (.int j65), .val (.int j73), .val (.int (1 : Int32)), .val (.int j77), .val (.int j82), .val (.int j87), .unset, .unset] [(.int (1 : Int32))]))
      exact Comes.here ⟨_, _, (1 : Int32), rfl, X88, e88, N88, (Or.inr (Or.inr ⟨hc275_90, rfl⟩))⟩
  obtain ⟨_, st93, T93, L93, j92, rfl, X93, e93, N93, rel93⟩ := J89
  refine Comes.go st93 ?_
  show Comes p e below _ (T93.setTop (mkF m 290 #[.val (.int ia), .val (.int ib), .val (.int ic), .val (.int r2), .val (.int r4), .val (.int j7), .val (.int j11), .val (.int j15), .val (.int j19), .val (.int j23), .val (.ref b25), .val (.int r36), .val (.int r46), .val (.int r56), .val (.int j59), .val (.int j65), .val (.int j73), .val (.int (1 : Int32)), .val (.int j77), .val (.int j82), .val (.int j87), .unset, .unset] [(.int j92)]))
  refine Comes.st (fun t k => XS.istore X93.here hx rfl (hb hby at_290) rfl (l' := #[.val (.int ia), .val (.int ib), .val (.int ic), .val (.int r2), .val (.int r4), .val (.int j7), .val (.int j11), .val (.int j15), .val (.int j19), .val (.int j23), .val (.ref b25), .val (.int r36), .val (.int r46), .val (.int r56), .val (.int j59), .val (.int j65), .val (.int j73), .val (.int (1 : Int32)), .val (.int j77), .val (.int j82), .val (.int j87), .val (.int j92), .unset]) rfl (XS.iload X93.here hx rfl (hb hby at_292) rfl k)) ?_
  have J94 : Comes p e below (fun S' => ∃ (T' : State), ∃ (L' : List Loc), ∃ (j97 : Int32), (S' = T'.setTop (mkF m 309 #[.val (.int ia), .val (.int ib), .val (.int ic), .val (.int r2), .val (.int r4), .val (.int j7), .val (.int j11), .val (.int j15), .val (.int j19), .val (.int j23), .val (.ref b25), .val (.int r36), .val (.int r46), .val (.int r56), .val (.int j59), .val (.int j65), .val (.int j73), .val (.int (1 : Int32)), .val (.int j77), .val (.int j82), .val (.int j87), .val (.int j92), .unset] [(.int j97)])) ∧ (Stand p l e room_1 s m #[(.int ia), (.int ib), (.int ic)] below meth c T' L' 1 4) ∧ (T'.heap = T52.heap) ∧ (Fr n0 L') ∧ (((j73 = (0 : Int32)) ∧ (j82 < r4) ∧ j97 = (0 : Int32)) ∨ ((j73 = (0 : Int32)) ∧ (¬ (j82 < r4)) ∧ j97 = (1 : Int32)) ∨ ((¬ (j73 = (0 : Int32))) ∧ j97 = (1 : Int32)))) (T93.setTop (mkF m 294 #[.val (.int ia), .val (.int ib), .val (.int ic), .val (.int r2), .val (.int r4), .val (.int j7), .val (.int j11), .val (.int j15), .val (.int j19), .val (.int j23), .val (.ref b25), .val (.int r36), .val (.int r46), .val (.int r56), .val (.int j59), .val (.int j65), .val (.int j73), .val (.int (1 : Int32)), .val (.int j77), .val (.int j82), .val (.int j87), .val (.int j92), .unset] [(.int j73)])) := by
    show Comes p e below _ (T93.setTop (mkF m 294 #[.val (.int ia), .val (.int ib), .val (.int ic), .val (.int r2), .val (.int r4), .val (.int j7), .val (.int j11), .val (.int j15), .val (.int j19), .val (.int j23), .val (.ref b25), .val (.int r36), .val (.int r46), .val (.int r56), .val (.int j59), .val (.int j65), .val (.int j73), .val (.int (1 : Int32)), .val (.int j77), .val (.int j82), .val (.int j87), .val (.int j92), .unset] [(.int j73)]))
    by_cases hc294_95 : j73 = (0 : Int32)
    · refine Comes.st (fun t k => XS.ifNo X93.here hx rfl (hb hby at_294) rfl ((if0 _ _).trans (teq hc294_95).2) (XS.iload X93.here hx rfl (hb hby at_297) rfl (XS.iload X93.here hx rfl (hb hby at_299) rfl k))) ?_
      show Comes p e below _ (T93.setTop (mkF m 301 #[.val (.int ia), .val (.int ib), .val (.int ic), .val (.int r2), .val (.int r4), .val (.int j7), .val (.int j11), .val (.int j15), .val (.int j19), .val (.int j23), .val (.ref b25), .val (.int r36), .val (.int r46), .val (.int r56), .val (.int j59), .val (.int j65), .val (.int j73), .val (.int (1 : Int32)), .val (.int j77), .val (.int j82), .val (.int j87), .val (.int j92), .unset] [(.int r4), (.int j82)]))
      by_cases hc301_96 : j82 < r4
      · refine Comes.st (fun t k => XS.icmpYes X93.here hx rfl (pc0 := 301) (pc' := 308) rfl (hb hby at_301) rfl (tlt hc301_96).1 (by decide) (by decide) (XS.iconst X93.here hx rfl (hb hby at_308) k)) ?_
        show Comes p e below _ (T93.setTop (mkF m 309 #[.val (.int ia), .val (.int ib), .val (.int ic), .val (.int r2), .val (.int r4), .val (.int j7), .val (.int j11), .val (.int j15), .val (.int j19), .val (.int j23), .val (.ref b25), .val (.int r36), .val (.int r46), .val (.int r56), .val (.int j59), .val (.int j65), .val (.int j73), .val (.int (1 : Int32)), .val (.int j77), .val (.int j82), .val (.int j87), .val (.int j92), .unset] [(.int (0 : Int32))]))
        exact Comes.here ⟨_, _, (0 : Int32), rfl, X93, e93, N93, (Or.inl ⟨hc294_95, hc301_96, rfl⟩)⟩
      · refine Comes.st (fun t k => XS.icmpNo X93.here hx rfl (hb hby at_301) rfl (flt hc301_96).1 (XS.iconst X93.here hx rfl (hb hby at_304) (XS.goto X93.here hx rfl (pc0 := 305) (pc' := 309) rfl (hb hby at_305) (by decide) (by decide) k))) ?_
        show Comes p e below _ (T93.setTop (mkF m 309 #[.val (.int ia), .val (.int ib), .val (.int ic), .val (.int r2), .val (.int r4), .val (.int j7), .val (.int j11), .val (.int j15), .val (.int j19), .val (.int j23), .val (.ref b25), .val (.int r36), .val (.int r46), .val (.int r56), .val (.int j59), .val (.int j65), .val (.int j73), .val (.int (1 : Int32)), .val (.int j77), .val (.int j82), .val (.int j87), .val (.int j92), .unset] [(.int (1 : Int32))]))
        exact Comes.here ⟨_, _, (1 : Int32), rfl, X93, e93, N93, (Or.inr (Or.inl ⟨hc294_95, hc301_96, rfl⟩))⟩
    · refine Comes.st (fun t k => XS.ifYes X93.here hx rfl (pc0 := 294) (pc' := 304) rfl (hb hby at_294) rfl ((if0 _ _).trans (feq hc294_95).2) (by decide) (by decide) (XS.iconst X93.here hx rfl (hb hby at_304) (XS.goto X93.here hx rfl (pc0 := 305) (pc' := 309) rfl (hb hby at_305) (by decide) (by decide) k))) ?_
      show Comes p e below _ (T93.setTop (mkF m 309 #[.val (.int ia), .val (.int ib), .val (.int ic), .val (.int r2), .val (.int r4), .val (.int j7), .val (.int j11), .val (.int j15), .val (.int j19), .val (.int j23), .val (.ref b25), .val (.int r36), .val (.int r46), .val (.int r56), .val (.int j59), .val (.int j65), .val (.int j73), .val (.int (1 : Int32)), .val (.int j77), .val (.int j82), .val (.int j87), .val (.int j92), .unset] [(.int (1 : Int32))]))
      exact Comes.here ⟨_, _, (1 : Int32), rfl, X93, e93, N93, (Or.inr (Or.inr ⟨hc294_95, rfl⟩))⟩
  obtain ⟨_, st98, T98, L98, j97, rfl, X98, e98, N98, rel98⟩ := J94
  refine Comes.go st98 ?_
  show Comes p e below _ (T98.setTop (mkF m 309 #[.val (.int ia), .val (.int ib), .val (.int ic), .val (.int r2), .val (.int r4), .val (.int j7), .val (.int j11), .val (.int j15), .val (.int j19), .val (.int j23), .val (.ref b25), .val (.int r36), .val (.int r46), .val (.int r56), .val (.int j59), .val (.int j65), .val (.int j73), .val (.int (1 : Int32)), .val (.int j77), .val (.int j82), .val (.int j87), .val (.int j92), .unset] [(.int j97)]))
  refine Comes.st (fun t k => XS.istore X98.here hx rfl (hb hby at_309) rfl (l' := #[.val (.int ia), .val (.int ib), .val (.int ic), .val (.int r2), .val (.int r4), .val (.int j7), .val (.int j11), .val (.int j15), .val (.int j19), .val (.int j23), .val (.ref b25), .val (.int r36), .val (.int r46), .val (.int r56), .val (.int j59), .val (.int j65), .val (.int j73), .val (.int (1 : Int32)), .val (.int j77), .val (.int j82), .val (.int j87), .val (.int j92), .val (.int j97)]) rfl (XS.iload X98.here hx rfl (hb hby at_311) rfl (XS.iload X98.here hx rfl (hb hby at_313) rfl k))) ?_
  show Comes p e below _ (T98.setTop (mkF m 315 #[.val (.int ia), .val (.int ib), .val (.int ic), .val (.int r2), .val (.int r4), .val (.int j7), .val (.int j11), .val (.int j15), .val (.int j19), .val (.int j23), .val (.ref b25), .val (.int r36), .val (.int r46), .val (.int r56), .val (.int j59), .val (.int j65), .val (.int j73), .val (.int (1 : Int32)), .val (.int j77), .val (.int j82), .val (.int j87), .val (.int j92), .val (.int j97)] [(.int j87), (.int r36)]))
  have hc315_99 : r36 = j87 := by have c_0 := P1_0; have c_1 := P3_0; have c_2 := rel8; have c_3 := P32_5; have c_4 := P32_6; have c_5 := P35_0; have c_6 := rel60; have c_7 := rel88; (try simp only [Int32.lt_iff_toInt_lt, Int64.lt_iff_toInt_lt, ← Int32.toInt_inj, ← Int64.toInt_inj, Int32.reduceToInt, Int64.reduceToInt, eq_self, and_true, true_and, or_true, true_or, and_false, false_and, or_false, false_or, not_true_eq_false, not_false_eq_true] at c_0 c_1 c_2 c_3 c_4 c_5 c_6 c_7 ⊢) <;> rcases c_2 with h2 | h2 <;> omega
  refine Comes.st (fun t k => XS.icmpNo X98.here hx rfl (hb hby at_315) rfl (teq hc315_99).2 (XS.iload X98.here hx rfl (hb hby at_318) rfl (XS.iload X98.here hx rfl (hb hby at_320) rfl k))) ?_
  show Comes p e below _ (T98.setTop (mkF m 322 #[.val (.int ia), .val (.int ib), .val (.int ic), .val (.int r2), .val (.int r4), .val (.int j7), .val (.int j11), .val (.int j15), .val (.int j19), .val (.int j23), .val (.ref b25), .val (.int r36), .val (.int r46), .val (.int r56), .val (.int j59), .val (.int j65), .val (.int j73), .val (.int (1 : Int32)), .val (.int j77), .val (.int j82), .val (.int j87), .val (.int j92), .val (.int j97)] [(.int j92), (.int r46)]))
  have hc322_100 : r46 = j92 := by have c_0 := P1_0; have c_1 := P3_0; have c_2 := rel8; have c_3 := rel12; have c_4 := rel20; have c_5 := P32_5; have c_6 := P32_6; have c_7 := rel41; have c_8 := P42_5; have c_9 := P42_6; have c_10 := P45_0; have c_11 := rel66; have c_12 := rel78; have c_13 := rel93; (try simp only [Int32.lt_iff_toInt_lt, Int64.lt_iff_toInt_lt, ← Int32.toInt_inj, ← Int64.toInt_inj, Int32.reduceToInt, Int64.reduceToInt, eq_self, and_true, true_and, or_true, true_or, and_false, false_and, or_false, false_or, not_true_eq_false, not_false_eq_true] at c_0 c_1 c_2 c_3 c_4 c_5 c_6 c_7 c_8 c_9 c_10 c_11 c_12 c_13 ⊢) <;> rcases c_2 with h2 | h2 <;> rcases c_3 with h3 | h3 <;> rcases c_4 with h5 | h5 <;> omega
  refine Comes.st (fun t k => XS.icmpNo X98.here hx rfl (hb hby at_322) rfl (teq hc322_100).2 (XS.iload X98.here hx rfl (hb hby at_325) rfl (XS.iload X98.here hx rfl (hb hby at_327) rfl k))) ?_
  show Comes p e below _ (T98.setTop (mkF m 329 #[.val (.int ia), .val (.int ib), .val (.int ic), .val (.int r2), .val (.int r4), .val (.int j7), .val (.int j11), .val (.int j15), .val (.int j19), .val (.int j23), .val (.ref b25), .val (.int r36), .val (.int r46), .val (.int r56), .val (.int j59), .val (.int j65), .val (.int j73), .val (.int (1 : Int32)), .val (.int j77), .val (.int j82), .val (.int j87), .val (.int j92), .val (.int j97)] [(.int j97), (.int r56)]))
  have hc329_101 : r56 = j97 := by have c_0 := P1_0; have c_1 := P3_0; have c_2 := rel8; have c_3 := rel12; have c_4 := rel16; have c_5 := rel20; have c_6 := rel24; have c_7 := P32_5; have c_8 := P32_6; have c_9 := rel41; have c_10 := P42_5; have c_11 := P42_6; have c_12 := rel51; have c_13 := P52_5; have c_14 := P52_6; have c_15 := P55_0; have c_16 := rel74; have c_17 := rel83; have c_18 := rel98; (try simp only [Int32.lt_iff_toInt_lt, Int64.lt_iff_toInt_lt, ← Int32.toInt_inj, ← Int64.toInt_inj, Int32.reduceToInt, Int64.reduceToInt, eq_self, and_true, true_and, or_true, true_or, and_false, false_and, or_false, false_or, not_true_eq_false, not_false_eq_true] at c_0 c_1 c_2 c_3 c_4 c_5 c_6 c_7 c_8 c_9 c_10 c_11 c_12 c_13 c_14 c_15 c_16 c_17 c_18 ⊢) <;> rcases c_2 with h2 | h2 <;> rcases c_3 with h3 | h3 <;> rcases c_4 with h4 | h4 <;> rcases c_5 with h5 | h5 <;> rcases c_6 with h6 | h6 <;> omega
  refine Comes.st (fun t k => XS.icmpNo X98.here hx rfl (hb hby at_329) rfl (teq hc329_101).2 (XS.iconst X98.here hx rfl (hb hby at_332) (XS.goto X98.here hx rfl (pc0 := 333) (pc' := 337) rfl (hb hby at_333) (by decide) (by decide) k))) ?_
  show Comes p e below _ (T98.setTop (mkF m 337 #[.val (.int ia), .val (.int ib), .val (.int ic), .val (.int r2), .val (.int r4), .val (.int j7), .val (.int j11), .val (.int j15), .val (.int j19), .val (.int j23), .val (.ref b25), .val (.int r36), .val (.int r46), .val (.int r56), .val (.int j59), .val (.int j65), .val (.int j73), .val (.int (1 : Int32)), .val (.int j77), .val (.int j82), .val (.int j87), .val (.int j92), .val (.int j97)] [(.int (1 : Int32))]))
  exact Comes.retN X98 hx (t := .boolean) Bd.returns (by simp) hlk (hb hby at_337) e98 ⟨rfl, N98⟩ (by decide) (by decide)
set_option maxRecDepth 65536 in
set_option maxHeartbeats 40000000 in
theorem comes_1 {Post : Tables → Env → Array Value → State → Outcome → State → Prop} (hpost : ∀ tb e args s v u, (limb_1_1.after args s (.returned v) u = true ∧ limb_1_2.after args s (.returned v) u = true ∧ True) → FrameEnd s (.returned v) u (Jvm.fieldLocs frame_1_writes args s ++ Jvm.arrayLocs frame_1_arrays args s ++ Jvm.staticLocs frame_1_statics s) 16 128 → Post tb e args s (.returned v) u) :
    ArmFor flags0 classFile x code maxLocals ret World_1 tables_1 room_1 Calls_1 rest_1 Pre_1 Post := by
  intro l hfl _ _ p e ha hc hk s m args below hf hA hF happ hP
  obtain ⟨hcalls, hrest, hpre⟩ := hP
  obtain ⟨-, -, -, hnamed, -, -, -, hat⟩ := (Spec.applies_iff hf).mp happ
  obtain ⟨hg, hn⟩ := and_e (Cond.before_iff.mp (show (Jvm.Cond.and given_1 narrow_1).before args s = true from hpre))
  obtain ⟨c0, d0⟩ := and_e hg
  obtain ⟨c1, d1⟩ := and_e d0
  obtain ⟨c2, d2⟩ := and_e d1
  obtain ⟨w0, w1, w2, rfl⟩ : ∃ w0 w1 w2 : Value, args = #[w0, w1, w2] := by
    have hs : args.size = 3 := by simpa [Cond.value, given_1] using c0
    obtain ⟨L⟩ := args
    match L, hs with
    | [w0, w1, w2], _ => exact ⟨w0, w1, w2, rfl⟩
  have hw := fun d (hd : d ∈ tables_1) => atoms_spec (ws := Jvm.Cond.code x code maxLocals ret :: tables_1) hat d (List.mem_cons_of_mem _ hd)
  have hfit : Fit s := fun {y c} hc i hi => by
    obtain ⟨ha, rfl⟩ := Array.getElem?_eq_some_iff.mp hc
    have q := List.all_eq_true.mp ((Array.all_eq_true_iff_forall_mem.mp hF) _ (Array.getElem_mem ha)) i (List.mem_range.mpr hi)
    simpa [Array.getElem?_eq_getElem hi] using q
  obtain ⟨i0, ei0⟩ := is_v c1
  obtain rfl : w0 = (.int i0) := Option.some.inj ei0
  obtain ⟨i1, ei1⟩ := is_v c2
  obtain rfl : w1 = (.int i1) := Option.some.inj ei1
  obtain ⟨i2, ei2⟩ := is_v d2
  obtain rfl : w2 = (.int i2) := Option.some.inj ei2
  obtain ⟨n, o, h1, h2, h3, _, L, rfl, ⟨rfl, N⟩, hq⟩ := rm0 l s _ hw tables_1 i0 i1 i2 s.heap s.heap.size (Nat.le_refl _)  p e ha hc hk s m _ below hf ((Spec.applies_iff_loose hf).mp happ).1 ⟨rfl, State.Warmed39.refl s, rfl⟩ trivial
  refine ⟨n, _, h1, h2, h3, hpost _ _ _ _ _ _ ⟨Cond.after_iff.mpr rfl, Cond.after_iff.mpr (eq_i res_at (Term.int_eval (1)) rfl), trivial⟩ ⟨hq.1, hq.2.1, (hq.2.2.sift fun y hy => Or.inr (N y hy)).mono (by decide) (by decide)⟩⟩
theorem main_1_1 : Claimed_1_1 := comes_1 fun _ _ _ _ _ _ h hF => ⟨h.1, hF⟩
theorem main_1_2 : Claimed_1_2 := comes_1 fun _ _ _ _ _ _ h hF => ⟨h.2.1, hF⟩
end Jvm.Pilot.@@N@@
namespace Jvm.Pilot.@@N@@
open Jvm Jvm.ClassFile Sem Op Lib Jvm.Free Jvm.Stand Jvm.Pilot.@@N@@.Jvm.D
/-! MADE BY PROGRAM (witnessworld.py) out of the Statement's table words and the real class files: 10 classes; the members and pool entries that the words name. The judged class is class 1, her method 2. -/
namespace start1
open Jvm.ClassFile
def u (s : String) : CpInfo := .utf8 (stringToUtf16 s)
/-- a pool by its gaps: so many unusable entries, then the entry; so many at the end -/
def gap : Nat → List CpInfo → List CpInfo
  | 0, r => r
  | n + 1, r => .unusable :: gap n r
def poolList (es : List (Nat × CpInfo)) (last : Nat) : List CpInfo := es.foldr (fun e r => gap e.1 (e.2 :: r)) (gap last [])
def pool (es : List (Nat × CpInfo)) (last : Nat) : Array CpInfo := ⟨poolList es last⟩
def fileOf (pool : Array CpInfo) (this : Nat) (attrs : Array Attribute := #[]) (ms : Array MethodInfo := #[]) (fl : Nat := 33) (sup : Nat := 0) (ifs : Array Nat := #[]) (fds : Array FieldInfo := #[]) : ClassFile where
  minorVersion := 0
  majorVersion := 65
  constantPool := pool
  accessFlags := fl
  thisClass := this
  superClass := sup
  interfaces := ifs
  fields := fds
  methods := ms
  attributes := attrs
def plain (name : String) (sup : Option ClassId) : Class where
  name := name
  kind := .ordinary
  loader := none
  accessFlags := 33
  super := sup
  interfaces := #[]
  cf := none
  fields := #[]
  methods := #[]
  instanceTypes := #[]
  staticTypes := #[]
  resolved := #[]
  callSites := []
  init := .initialized
  statics := none
  mirror := none

def pool0 : Array CpInfo := pool [(5, u "<init>"), (0, u "()V"), (1, .class_ 10), (1, u "java/lang/Object")] 113

def k0c0 : Code := { maxStack := 0, maxLocals := 1, code := object_method_1_code, exceptionTable := #[], attributes := #[] }
def k0m0 : Method := { name := "<init>", desc := "()V", sig := { parameters := [], returnType := none }, accessFlags := 1, code := some k0c0 }
/-- java/lang/Object -/
def k0 : Class := { plain "java/lang/Object" none with
  accessFlags := 33
  interfaces := #[]
  cf := some (fileOf pool0 8 #[] #[{ accessFlags := 1, nameIndex := 5, descriptorIndex := 6, attributes := #[] }] 33 0 #[] #[])
  fields := #[]
  methods := #[k0m0]
  instanceTypes := #[]
  staticTypes := #[]
  resolved := Array.replicate 124 none
  statics := none }

def pool1 : Array CpInfo := pool [(2, .class_ 4), (1, u "java/lang/Object"), (0, u "<init>"), (0, u "()V"), (0, .integer 1073741824), (0, .integer 1073741823), (0, .methodref 10 11), (0, .class_ 12), (0, .nameAndType 13 14), (0, u "com/example/evenring/evenring/IntakeHasComeInPinLaw"), (0, u "size"), (0, u "(I)I"), (0, .class_ 16), (0, u "com/example/evenring/evenring/Intake"), (0, .methodref 15 18), (0, .nameAndType 5 19), (0, u "(II)V"), (0, .methodref 15 21), (0, .nameAndType 22 23), (0, u "count"), (0, u "(Z)V"), (0, .methodref 15 25), (0, .nameAndType 26 27), (0, u "hasComeIn"), (0, u "()Z"), (0, .methodref 15 29), (0, .nameAndType 30 6), (0, u "weighed"), (3, u "law"), (0, u "(III)Z")] 2

def k1m0 : Method := { name := "<init>", desc := "()V", sig := { parameters := [], returnType := none }, accessFlags := 1, code := none }
def k1c1 : Code := { maxStack := 2, maxLocals := 1, code := method_2_code, exceptionTable := #[], attributes := #[] }
def k1m1 : Method := { name := "size", desc := "(I)I", sig := { parameters := [.int], returnType := some .int }, accessFlags := 10, code := some k1c1 }
def k1c2 : Code := { maxStack := 4, maxLocals := 23, code := code, exceptionTable := #[], attributes := #[] }
def k1m2 : Method := { name := "law", desc := "(III)Z", sig := { parameters := [.int, .int, .int], returnType := some .boolean }, accessFlags := 9, code := some k1c2 }
/-- com/example/evenring/evenring/IntakeHasComeInPinLaw -/
def k1 : Class := { plain "com/example/evenring/evenring/IntakeHasComeInPinLaw" (some 0) with
  accessFlags := 49
  interfaces := #[]
  cf := some (fileOf pool1 10 #[] #[{ accessFlags := 1, nameIndex := 5, descriptorIndex := 6, attributes := #[] }, { accessFlags := 10, nameIndex := 13, descriptorIndex := 14, attributes := #[] }, { accessFlags := 9, nameIndex := 34, descriptorIndex := 35, attributes := #[] }] 49 2 #[] #[])
  fields := #[]
  methods := #[k1m0, k1m1, k1m2]
  instanceTypes := #[]
  staticTypes := #[]
  resolved := Array.replicate 38 none
  statics := none }

def pool2 : Array CpInfo := pool [(1, .methodref 2 3), (0, .class_ 4), (0, .nameAndType 5 6), (0, u "java/lang/Object"), (0, u "<init>"), (0, u "()V"), (0, .fieldref 8 9), (0, .class_ 10), (0, .nameAndType 11 12), (0, u "com/example/evenring/evenring/Intake"), (0, u "quietSpell"), (0, u "I"), (0, .fieldref 8 14), (0, .nameAndType 15 12), (0, u "longestWait"), (0, .fieldref 8 17), (0, .nameAndType 18 12), (0, u "quietFor"), (0, .methodref 20 21), (0, .class_ 22), (0, .nameAndType 23 24), (0, u "java/lang/Math"), (0, u "min"), (0, u "(II)I"), (0, .fieldref 8 26), (0, .nameAndType 27 12), (0, u "waitedFor"), (0, u "LONGEST_WAIT"), (2, u "(II)V"), (2, u "count"), (0, u "(Z)V"), (1, u "hasComeIn"), (0, u "()Z"), (0, u "weighed")] 2

def k2c0 : Code := { maxStack := 2, maxLocals := 3, code := prog_21_method_1_code, exceptionTable := #[], attributes := #[] }
def k2m0 : Method := { name := "<init>", desc := "(II)V", sig := { parameters := [.int, .int], returnType := none }, accessFlags := 0, code := some k2c0 }
def k2c1 : Code := { maxStack := 3, maxLocals := 2, code := prog_21_method_2_code, exceptionTable := #[], attributes := #[] }
def k2m1 : Method := { name := "count", desc := "(Z)V", sig := { parameters := [.boolean], returnType := none }, accessFlags := 0, code := some k2c1 }
def k2c2 : Code := { maxStack := 2, maxLocals := 1, code := prog_21_method_3_code, exceptionTable := #[], attributes := #[] }
def k2m2 : Method := { name := "hasComeIn", desc := "()Z", sig := { parameters := [], returnType := some .boolean }, accessFlags := 0, code := some k2c2 }
def k2c3 : Code := { maxStack := 2, maxLocals := 1, code := prog_21_method_4_code, exceptionTable := #[], attributes := #[] }
def k2m3 : Method := { name := "weighed", desc := "()V", sig := { parameters := [], returnType := none }, accessFlags := 0, code := some k2c3 }
/-- com/example/evenring/evenring/Intake -/
def k2 : Class := { plain "com/example/evenring/evenring/Intake" (some 0) with
  accessFlags := 48
  interfaces := #[]
  cf := some (fileOf pool2 8 #[] #[{ accessFlags := 0, nameIndex := 5, descriptorIndex := 31, attributes := #[] }, { accessFlags := 0, nameIndex := 34, descriptorIndex := 35, attributes := #[] }, { accessFlags := 0, nameIndex := 37, descriptorIndex := 38, attributes := #[] }, { accessFlags := 0, nameIndex := 39, descriptorIndex := 6, attributes := #[] }] 48 2 #[] #[{ accessFlags := 24, nameIndex := 28, descriptorIndex := 12, attributes := #[] }, { accessFlags := 18, nameIndex := 11, descriptorIndex := 12, attributes := #[] }, { accessFlags := 18, nameIndex := 15, descriptorIndex := 12, attributes := #[] }, { accessFlags := 2, nameIndex := 18, descriptorIndex := 12, attributes := #[] }, { accessFlags := 2, nameIndex := 27, descriptorIndex := 12, attributes := #[] }])
  fields := #[{ name := "LONGEST_WAIT", type := .int, accessFlags := 24, slot := 0, constantValue := 0 }, { name := "quietSpell", type := .int, accessFlags := 18, slot := 0, constantValue := 0 }, { name := "longestWait", type := .int, accessFlags := 18, slot := 1, constantValue := 0 }, { name := "quietFor", type := .int, accessFlags := 2, slot := 2, constantValue := 0 }, { name := "waitedFor", type := .int, accessFlags := 2, slot := 3, constantValue := 0 }]
  methods := #[k2m0, k2m1, k2m2, k2m3]
  instanceTypes := #[.int, .int, .int, .int]
  staticTypes := #[.int]
  resolved := Array.replicate 42 none
  statics := none }

def pool3 : Array CpInfo := pool [(1, .class_ 2), (0, u "java/lang/Math"), (1, .class_ 6), (1, u "java/lang/Object"), (0, u "<init>"), (0, u "()V"), (89, .class_ 100), (1, u "java/lang/Math$RandomNumberGeneratorHolder"), (71, u "negativeZeroFloatBits"), (0, u "J"), (2, u "negativeZeroDoubleBits"), (24, u "min"), (43, u "$assertionsDisabled"), (0, u "Z"), (88, u "(II)I"), (2, u "twoToTheDoubleScaleDown"), (0, u "D"), (4, u "twoToTheDoubleScaleUp"), (9, u "E"), (3, u "PI"), (2, u "TAU"), (2, u "DEGREES_TO_RADIANS"), (0, u "RADIANS_TO_DEGREES")] 94

def k3m0 : Method := { name := "<init>", desc := "()V", sig := { parameters := [], returnType := none }, accessFlags := 2, code := none }
def k3c1 : Code := { maxStack := 2, maxLocals := 2, code := jdk_29_method_69_code, exceptionTable := #[], attributes := #[] }
def k3m1 : Method := { name := "min", desc := "(II)I", sig := { parameters := [.int, .int], returnType := some .int }, accessFlags := 9, code := some k3c1 }
/-- java/lang/Math -/
def k3 : Class := { plain "java/lang/Math" (some 0) with
  accessFlags := 49
  interfaces := #[]
  cf := some (fileOf pool3 1 #[.nestMembers #[98]] #[{ accessFlags := 2, nameIndex := 7, descriptorIndex := 8, attributes := #[] }, { accessFlags := 9, nameIndex := 201, descriptorIndex := 335, attributes := #[] }] 49 4 #[] #[{ accessFlags := 25, nameIndex := 354, descriptorIndex := 339, attributes := #[] }, { accessFlags := 25, nameIndex := 358, descriptorIndex := 339, attributes := #[] }, { accessFlags := 25, nameIndex := 361, descriptorIndex := 339, attributes := #[] }, { accessFlags := 26, nameIndex := 364, descriptorIndex := 339, attributes := #[] }, { accessFlags := 26, nameIndex := 365, descriptorIndex := 339, attributes := #[] }, { accessFlags := 26, nameIndex := 172, descriptorIndex := 173, attributes := #[] }, { accessFlags := 26, nameIndex := 176, descriptorIndex := 173, attributes := #[] }, { accessFlags := 8, nameIndex := 344, descriptorIndex := 339, attributes := #[] }, { accessFlags := 8, nameIndex := 338, descriptorIndex := 339, attributes := #[] }, { accessFlags := 4120, nameIndex := 245, descriptorIndex := 246, attributes := #[] }])
  fields := #[{ name := "E", type := .double, accessFlags := 25, slot := 0, constantValue := 0 }, { name := "PI", type := .double, accessFlags := 25, slot := 1, constantValue := 0 }, { name := "TAU", type := .double, accessFlags := 25, slot := 2, constantValue := 0 }, { name := "DEGREES_TO_RADIANS", type := .double, accessFlags := 26, slot := 3, constantValue := 0 }, { name := "RADIANS_TO_DEGREES", type := .double, accessFlags := 26, slot := 4, constantValue := 0 }, { name := "negativeZeroFloatBits", type := .long, accessFlags := 26, slot := 5, constantValue := 0 }, { name := "negativeZeroDoubleBits", type := .long, accessFlags := 26, slot := 6, constantValue := 0 }, { name := "twoToTheDoubleScaleUp", type := .double, accessFlags := 8, slot := 7, constantValue := 0 }, { name := "twoToTheDoubleScaleDown", type := .double, accessFlags := 8, slot := 8, constantValue := 0 }, { name := "$assertionsDisabled", type := .boolean, accessFlags := 4120, slot := 9, constantValue := 0 }]
  methods := #[k3m0, k3m1]
  instanceTypes := #[]
  staticTypes := #[.double, .double, .double, .double, .double, .long, .long, .double, .double, .boolean]
  resolved := Array.replicate 460 none
  statics := none }

def pool4 : Array CpInfo := pool [(1, u "java/lang/Cloneable"), (0, .class_ 1), (0, u "java/lang/Object"), (0, .class_ 3)] 3

/-- java/lang/Cloneable -/
def k4 : Class := { plain "java/lang/Cloneable" (some 0) with
  accessFlags := 1537
  interfaces := #[]
  cf := some (fileOf pool4 2 #[] #[] 1537 4 #[] #[])
  fields := #[]
  methods := #[]
  instanceTypes := #[]
  staticTypes := #[]
  resolved := Array.replicate 8 none
  statics := none }

def pool5 : Array CpInfo := pool [(1, u "java/io/Serializable"), (0, .class_ 1), (0, u "java/lang/Object"), (0, .class_ 3)] 3

/-- java/io/Serializable -/
def k5 : Class := { plain "java/io/Serializable" (some 0) with
  accessFlags := 1537
  interfaces := #[]
  cf := some (fileOf pool5 2 #[] #[] 1537 4 #[] #[])
  fields := #[]
  methods := #[]
  instanceTypes := #[]
  staticTypes := #[]
  resolved := Array.replicate 8 none
  statics := none }

/-- the primitive byte -/
def k6 : Class := { plain "byte" none with kind := .primitive 'B', accessFlags := 0x411 }
/-- [B -/
def k7 : Class := { plain "[B" (some 0) with kind := .array 6 .byte, interfaces := #[4, 5], accessFlags := 1041 }

/-- the primitive int -/
def k8 : Class := { plain "int" none with kind := .primitive 'I', accessFlags := 0x411 }
/-- [I -/
def k9 : Class := { plain "[I" (some 0) with kind := .array 8 .int, interfaces := #[4, 5], accessFlags := 1041 }

def heap : Heap := #[]
def classes : Array Class := #[k0, k1, k2, k3, k4, k5, k6, k7, k8, k9]
def interned : List (Array UInt16 × Addr) := []
def slotsUsed : Nat := 0
def theMethod : MethodId := ⟨1, 2⟩
def args0 : Array Value := #[.int 5, .int 7, .int 3]
def aboutOver (below : List Frame) : State where
  vm := { classes := classes, interned := interned.toArray }
  heap := heap
  slotsUsed := slotsUsed
  threads := #[{ frames := .invoking theMethod args0 :: below }]
def below0 : List Frame := [.native { method := ⟨0, 0⟩, args := #[] }]
def about1 : State := aboutOver below0
def p0 : Program := .bare "" "" ""
def e0 : Env := launch0.env 0 0 0
theorem w_frames : about1.frames = Frame.invoking theMethod args0 :: below0 := rfl
set_option maxRecDepth 65536 in
theorem w_args : argsFit about1.vm theMethod args0 = true := by decide +kernel
set_option maxRecDepth 65536 in
theorem w_heap : heapFits about1 = true := by decide +kernel
set_option maxRecDepth 65536 in
theorem w_runnable : about1.curStatus? = some .runnable := by decide +kernel
set_option maxRecDepth 65536 in
theorem w_alone : about1.alone = true := by decide +kernel
set_option maxRecDepth 65536 in
theorem w_named : about1.methodNamed? x = some theMethod := by decide +kernel
set_option maxRecDepth 65536 in
theorem w_hears : about1.hears theMethod below0 = true := by decide +kernel
set_option maxRecDepth 65536 in
theorem w_ripe : about1.ripe theMethod args0 below0 = true := by decide +kernel
theorem w_running : about1.status = .running := rfl
set_option maxRecDepth 65536 in
theorem w_room : about1.hasRoom e0.platform room_1 = true :=
  launch0.hasRoom_least _ room_1 (by decide +kernel) (by decide +kernel) (by decide +kernel) (by decide +kernel) (by decide +kernel) (by decide +kernel)
theorem allAtoms_all (ts : List Jvm.Cond) (a : Array Jvm.Value) (st : Jvm.State) : (allAtoms ts).before a st = ts.all (fun c => c.before a st) := by
  induction ts with
  | nil => rfl
  | cons c t ih =>
    show (Jvm.Cond.and c (allAtoms t)).before a st = _
    rw [Jvm.Cond.before_and, ih, List.all_cons]
def words1 : List Jvm.Cond := Jvm.Cond.code x code maxLocals ret :: tables_1
/-- a 'code' word, met by the world's own term for the bytes: nothing is compared byte by byte -/
theorem code_word {y : MethodName} {bytes : ByteArray} {mx : Nat} {rt : Option FieldType} {a : Array Value} {s : State} {m : MethodId} {meth : Method} {c : Code} (h1 : s.methodNamed? y = some m) (h2 : s.vm.method? m = some meth) (h3 : meth.code = some c) (h4 : c.code = bytes)
    (h5 : (c.maxLocals == mx && c.exceptionTable.isEmpty && decide (c.maxStack ≤ mostOperands) && decide (meth.sig.returnType = rt) && !meth.locks && decide (parseMethodDescriptor y.desc = some meth.sig)) = true) : (Jvm.Cond.code y bytes mx rt).before a s = true := by
  simp only [Bool.and_eq_true, beq_iff_eq, Bool.not_eq_true', decide_eq_true_eq] at h5
  obtain ⟨⟨⟨⟨⟨g1, g2⟩, g3⟩, g4⟩, g5⟩, g6⟩ := h5
  simp [Cond.before, Cond.holds, Cond.value, h1, h2, h3, h4, g1, g2, g3, g4, g5, g6]
def isCode : Jvm.Cond → Bool
  | .code _ _ _ _ => true
  | _ => false
theorem all_split {L : List Jvm.Cond} {P : Jvm.Cond → Bool} (h1 : L.all (fun c => isCode c || P c) = true) (h2 : ∀ c ∈ L.filter isCode, P c = true) : L.all P = true := by
  refine List.all_eq_true.mpr fun c hc => ?_
  have h := List.all_eq_true.mp h1 c hc
  rcases Bool.eq_false_or_eq_true (isCode c) with hi | hi
  · exact h2 c (List.mem_filter.mpr ⟨hc, hi⟩)
  · simpa [hi] using h
set_option maxRecDepth 65536 in
theorem w_c0 : (Jvm.Cond.code x code maxLocals ret).before args0 about1 = true := code_word (m := ⟨1, 2⟩) (meth := k1m2) (c := k1c2) (by decide +kernel) rfl rfl rfl (by decide +kernel)
set_option maxRecDepth 65536 in
theorem w_c1 : (Jvm.Cond.code ({ cls := "com/example/evenring/evenring/IntakeHasComeInPinLaw", name := "size", desc := "(I)I" } : Jvm.MethodName) method_2_code (1 : Nat) (Option.some Jvm.ClassFile.FieldType.int)).before args0 about1 = true := code_word (m := ⟨1, 1⟩) (meth := k1m1) (c := k1c1) (by decide +kernel) rfl rfl rfl (by decide +kernel)
set_option maxRecDepth 65536 in
theorem w_c2 : (Jvm.Cond.code ({ cls := "com/example/evenring/evenring/Intake", name := "<init>", desc := "(II)V" } : Jvm.MethodName) prog_21_method_1_code (3 : Nat) (Option.none : Option Jvm.ClassFile.FieldType)).before args0 about1 = true := code_word (m := ⟨2, 0⟩) (meth := k2m0) (c := k2c0) (by decide +kernel) rfl rfl rfl (by decide +kernel)
set_option maxRecDepth 65536 in
theorem w_c3 : (Jvm.Cond.code ({ cls := "java/lang/Object", name := "<init>", desc := "()V" } : Jvm.MethodName) object_method_1_code (1 : Nat) (Option.none : Option Jvm.ClassFile.FieldType)).before args0 about1 = true := code_word (m := ⟨0, 0⟩) (meth := k0m0) (c := k0c0) (by decide +kernel) rfl rfl rfl (by decide +kernel)
set_option maxRecDepth 65536 in
theorem w_c4 : (Jvm.Cond.code ({ cls := "com/example/evenring/evenring/Intake", name := "count", desc := "(Z)V" } : Jvm.MethodName) prog_21_method_2_code (2 : Nat) (Option.none : Option Jvm.ClassFile.FieldType)).before args0 about1 = true := code_word (m := ⟨2, 1⟩) (meth := k2m1) (c := k2c1) (by decide +kernel) rfl rfl rfl (by decide +kernel)
set_option maxRecDepth 65536 in
theorem w_c5 : (Jvm.Cond.code ({ cls := "java/lang/Math", name := "min", desc := "(II)I" } : Jvm.MethodName) jdk_29_method_69_code (2 : Nat) (Option.some Jvm.ClassFile.FieldType.int)).before args0 about1 = true := code_word (m := ⟨3, 1⟩) (meth := k3m1) (c := k3c1) (by decide +kernel) rfl rfl rfl (by decide +kernel)
set_option maxRecDepth 65536 in
theorem w_c6 : (Jvm.Cond.code ({ cls := "com/example/evenring/evenring/Intake", name := "hasComeIn", desc := "()Z" } : Jvm.MethodName) prog_21_method_3_code (1 : Nat) (Option.some Jvm.ClassFile.FieldType.boolean)).before args0 about1 = true := code_word (m := ⟨2, 2⟩) (meth := k2m2) (c := k2c2) (by decide +kernel) rfl rfl rfl (by decide +kernel)
set_option maxRecDepth 65536 in
theorem w_c7 : (Jvm.Cond.code ({ cls := "com/example/evenring/evenring/Intake", name := "weighed", desc := "()V" } : Jvm.MethodName) prog_21_method_4_code (1 : Nat) (Option.none : Option Jvm.ClassFile.FieldType)).before args0 about1 = true := code_word (m := ⟨2, 3⟩) (meth := k2m3) (c := k2c3) (by decide +kernel) rfl rfl rfl (by decide +kernel)
def codes1 : List Jvm.Cond := [Jvm.Cond.code x code maxLocals ret, Jvm.Cond.code ({ cls := "com/example/evenring/evenring/IntakeHasComeInPinLaw", name := "size", desc := "(I)I" } : Jvm.MethodName) method_2_code (1 : Nat) (Option.some Jvm.ClassFile.FieldType.int), Jvm.Cond.code ({ cls := "com/example/evenring/evenring/Intake", name := "<init>", desc := "(II)V" } : Jvm.MethodName) prog_21_method_1_code (3 : Nat) (Option.none : Option Jvm.ClassFile.FieldType), Jvm.Cond.code ({ cls := "java/lang/Object", name := "<init>", desc := "()V" } : Jvm.MethodName) object_method_1_code (1 : Nat) (Option.none : Option Jvm.ClassFile.FieldType), Jvm.Cond.code ({ cls := "com/example/evenring/evenring/Intake", name := "count", desc := "(Z)V" } : Jvm.MethodName) prog_21_method_2_code (2 : Nat) (Option.none : Option Jvm.ClassFile.FieldType), Jvm.Cond.code ({ cls := "java/lang/Math", name := "min", desc := "(II)I" } : Jvm.MethodName) jdk_29_method_69_code (2 : Nat) (Option.some Jvm.ClassFile.FieldType.int), Jvm.Cond.code ({ cls := "com/example/evenring/evenring/Intake", name := "hasComeIn", desc := "()Z" } : Jvm.MethodName) prog_21_method_3_code (1 : Nat) (Option.some Jvm.ClassFile.FieldType.boolean), Jvm.Cond.code ({ cls := "com/example/evenring/evenring/Intake", name := "weighed", desc := "()V" } : Jvm.MethodName) prog_21_method_4_code (1 : Nat) (Option.none : Option Jvm.ClassFile.FieldType)]
set_option maxRecDepth 65536 in
theorem codes_eq : words1.filter isCode = codes1 := rfl
theorem w_codes : ∀ c ∈ words1.filter isCode, c.before args0 about1 = true := by
  rw [codes_eq]
  intro c hc
  simp only [codes1, List.mem_cons, List.not_mem_nil, or_false] at hc
  rcases hc with rfl | rfl | rfl | rfl | rfl | rfl | rfl | rfl
  · exact w_c0
  · exact w_c1
  · exact w_c2
  · exact w_c3
  · exact w_c4
  · exact w_c5
  · exact w_c6
  · exact w_c7
set_option maxRecDepth 65536 in
theorem w_t1 : (words1.take 24).all (fun c => isCode c || c.before args0 about1) = true := by decide +kernel
set_option maxRecDepth 65536 in
theorem w_t2 : (words1.drop 24).all (fun c => isCode c || c.before args0 about1) = true := by decide +kernel
theorem w_tables : (allAtoms (Jvm.Cond.code x code maxLocals ret :: tables_1)).before args0 about1 = true := by
  rw [allAtoms_all]
  show words1.all (fun c => c.before args0 about1) = true
  refine all_split ?_ w_codes
  rw [← List.take_append_drop 24 words1, List.all_append, w_t1, w_t2]
  rfl
set_option maxRecDepth 65536 in
theorem w_case : (Jvm.Cond.and given_1 narrow_1).before args0 about1 = true := by decide +kernel
theorem w_applies : (headSpec (Jvm.Cond.code x code maxLocals ret :: tables_1) room_1).applies x e0.platform about1 = true :=
  (Spec.applies_iff w_frames).mpr ⟨w_running, w_runnable, w_alone, w_named, w_hears, w_ripe, w_room, w_tables⟩
theorem atStart : AtStart classFile x code maxLocals ret World_1 tables_1 room_1 Calls_1 rest_1 Pre_1 launch0 p0 e0 about1 theMethod args0 below0 :=
  ⟨lists_1, trivial, launch0.admits_env _ _ _, launch0.least_env, fairChoices_fair.cas, fairChoices_fair.clock, w_frames, w_args, w_heap, w_applies, trivial, trivial, w_case⟩
end start1
theorem witness_1 : WitnessClaimed_1 := ⟨start1.p0, start1.e0, start1.about1, start1.theMethod, start1.args0, start1.below0, start1.atStart⟩
end Jvm.Pilot.@@N@@
