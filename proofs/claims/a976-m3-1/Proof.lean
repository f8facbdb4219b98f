import JvmDerived
import JvmDerived.Pilot.@@N@@Statement
import JvmDerived.Pilot.@@N@@Code
set_option linter.unusedVariables false
set_option linter.unusedSimpArgs false
namespace Jvm.Pilot.@@N@@
open Jvm Jvm.ClassFile Sem Op Lib Jvm.Free Jvm.Stand Jvm.LawKit Jvm.RoadKit Bundle Jvm.Pilot.@@N@@.Jvm.D
/-- from S the run comes to a state that P allows -/
def Comes (p : Program) (e : Env) (below : List Frame) (P : State → Prop) (S : State) : Prop := ∃ S', Steps p.tables e below S S' ∧ P S'
/-- how a body ends that Q allows -/
def EndsAt (below : List Frame) (s : State) (Q : Option Value → Heap → List Loc → Prop) (kc ks : Nat) (s₂ : State) : Prop := ∃ o, s₂.status = .running ∧ Ended s₂ below o ∧ ∃ v L, o = .returned v ∧ Q v s₂.heap L ∧ FrameEnd s o s₂ L kc ks
section Own
variable {p : Program} {l : Launch} {e : Env} {R : Room} {s : State} {m : MethodId} {args : Array Value} {below : List Frame} {meth : Method} {c : Code} {T : State} {locs : List Loc} {cells slots : Nat} {Q : Option Value → Heap → List Loc → Prop} {kc ks : Nat} {P : State → Prop} {S S' : State} {h : Heap}
theorem Comes.here (q : P S) : Comes p e below P S := ⟨S, Steps.refl _, q⟩
theorem Comes.st (f : ∀ t, Steps p.tables e below S' t → Steps p.tables e below S t) (g : Comes p e below P S') : Comes p e below P S := by
  obtain ⟨s₂, h1, r⟩ := g; exact ⟨s₂, f _ h1, r⟩
theorem Comes.go (f : Steps p.tables e below S S') (g : Comes p e below P S') : Comes p e below P S := by
  obtain ⟨s₂, h1, r⟩ := g; exact ⟨s₂, f.trans h1, r⟩
theorem Comes.cast {g g' : JFrame} (q : g = g') (k : Comes p e below P (T.setTop g')) : Comes p e below P (T.setTop g) := q ▸ k
theorem Comes.out (h : Comes p e below (EndsAt below s Q kc ks) S) : ∃ s₂ o, Steps p.tables e below S s₂ ∧ s₂.status = .running ∧ Ended s₂ below o ∧ ∃ v L, o = .returned v ∧ Q v s₂.heap L ∧ FrameEnd s o s₂ L kc ks := by
  obtain ⟨s₂, h1, o, r⟩ := h; exact ⟨s₂, o, h1, r⟩
theorem Comes.fin (X : Stand p l e R s m args below meth c T locs cells slots) {v : Option Value} (hv : meth.sig.returnType = none → v = none) (hlk : meth.locks = false)
    (hs : ∀ fs, (∀ (f : JFrame) (acts : List Action), f.method = m → f.locked = none → f.entered = [] → (doReturn e (T.setTop f) acts v).1 = T.setFrames fs) → Steps p.tables e below S (T.setFrames fs))
    (eT : T.heap = h) (hq : Q v h locs) (hc : cells ≤ kc) (hl : slots ≤ ks) : Comes p e below (EndsAt below s Q kc ks) S := by
  obtain ⟨fs, hr, hrun, hended, hW, hsame⟩ := X.leave (v := v) hv hlk
  exact ⟨_, hs fs hr, _, hrun, hended, _, _, rfl, (show Q v T.heap locs from by rw [eT]; exact hq), ⟨_, rfl⟩, hW, hsame.mono hc hl⟩
theorem Comes.ret0 (X : Stand p l e R s m args below meth c T locs cells slots) (hx : p.tables.exec = Jvm.exec) {pc : Nat} {Ls : Array Slot} (hret : meth.sig.returnType = none) (hlk : meth.locks = false) (hd : decode c.code pc = .ok (.return_, 1))
    (eT : T.heap = h) (hq : Q none h locs) (hc : cells ≤ kc) (hl : slots ≤ ks) : Comes p e below (EndsAt below s Q kc ks) (T.setTop (mkF m pc Ls [])) :=
  Comes.fin X (fun _ => rfl) hlk (fun _ hr => X.returnOut hx hret hd hr) eT hq hc hl
theorem Comes.retN (X : Stand p l e R s m args below meth c T locs cells slots) (hx : p.tables.exec = Jvm.exec) {pc : Nat} {Ls : Array Slot} {z : Int32} {t : FieldType} {rest : List Value} (hret : meth.sig.returnType = some t) (ht : t = .boolean ∨ t = .byte ∨ t = .char ∨ t = .short) (hlk : meth.locks = false) (hd : decode c.code pc = .ok (.ireturn, 1))
    (eT : T.heap = h) (hq : Q (some (.int (nar t z))) h locs) (hc : cells ≤ kc) (hl : slots ≤ ks) : Comes p e below (EndsAt below s Q kc ks) (T.setTop (mkF m pc Ls (.int z :: rest))) :=
  Comes.fin X (fun q => by rw [hret] at q; cases q) hlk (fun _ hr => Jvm.RoadKit.retN X hx hret ht hd hr) eT hq hc hl
theorem Comes.retV (X : Stand p l e R s m args below meth c T locs cells slots) (hx : p.tables.exec = Jvm.exec) {pc : Nat} {Ls : Array Slot} {w : Value} {t : FieldType} {i : Instr} {rest : List Value} (hret : meth.sig.returnType = some t) (hn : narrow t w = w)
    (hi : (i = .ireturn ∧ (t = .int ∨ t = .boolean ∨ t = .byte ∨ t = .char ∨ t = .short) ∧ ∃ z, w = .int z) ∨ (i = .lreturn ∧ t = .long ∧ ∃ z, w = .long z) ∨ (i = .dreturn ∧ t = .double ∧ ∃ z, w = .double z) ∨ (i = .freturn ∧ t = .float ∧ ∃ z, w = .float z) ∨ (i = .areturn ∧ t.isReference = true ∧ w.isRef = true))
    (hlk : meth.locks = false) (hd : decode c.code pc = .ok (i, 1))
    (eT : T.heap = h) (hq : Q (some w) h locs) (hc : cells ≤ kc) (hl : slots ≤ ks) : Comes p e below (EndsAt below s Q kc ks) (T.setTop (mkF m pc Ls (w :: rest))) :=
  Comes.fin X (fun q => by rw [hret] at q; cases q) hlk (fun _ hr => retOut X hx hret hn hi hd hr) eT hq hc hl
theorem narrow_ref {t : FieldType} {w : Value} (h : w.isRef = true) : narrow t w = w := by rcases ref_cases h with rfl | ⟨y, rfl⟩ <;> cases t <;> rfl
theorem lremM {g : JFrame} {target : State} (X : Stand p l e R s m args below meth c T locs cells slots) (hx : p.tables.exec = Jvm.exec) (hg : g.method = m) {x y : Int64} {rest : List Value} (hd : decode c.code g.pc = .ok (.lrem, 1)) (hs : g.stack = .long y :: .long x :: rest) (hy : ¬ y = 0)
    (hr : Steps p.tables e below (T.setTop { g with pc := g.pc + 1, stack := .long (x % y) :: rest }) target) : Steps p.tables e below (T.setTop g) target := by
  have q : x - x / y * y = x % y := lrem_mod x y
  exact XT.lrem X.here hx hg hd hs hy (by rw [q]; exact hr)
theorem own_lrem (x y : Int64) (d : Int) (hy : y.toInt = d) : (0 ≤ x.toInt → (x % y).toInt = x.toInt % d) ∧ (x.toInt < 0 → (x % y).toInt = -((-x.toInt) % d)) := by rw [Int64.toInt_mod, hy]; exact tr _ _
theorem own_lremV (x y : Int64) : 0 ≤ x.toInt → 0 < y.toInt → 0 ≤ (x % y).toInt ∧ (x % y).toInt < y.toInt := by
  intro h1 h2
  rw [Int64.toInt_mod, Int.tmod_eq_emod_of_nonneg h1]
  exact ⟨Int.emod_nonneg _ (by omega), Int.emod_lt_of_pos _ h2⟩
theorem own_eqi {a0 : Array Value} {Z : State} {t : Term} {k : Int32} {idx : List Nat} (h : (Jvm.Cond.eq t (Term.int k)).value a0 Z none Z idx = some true) : t.eval a0 Z none idx Z = some (.int k) := by
  obtain ⟨x, y, e1, e2, k1, k2⟩ := cmp_v (Or.inl h)
  simp only [Term.eval, Option.some.injEq] at e2
  subst e2
  obtain ⟨z, rfl⟩ := k2
  simp [Cond.value, e1, Term.eval] at h
  rw [e1, h]
theorem own_selp {a0 : Array Value} {Z : State} {y : MethodName} {n : Nat} (wi : (Jvm.Cond.instantiable y.cls n).before a0 Z = true) (wp : (Jvm.Cond.privateMethod y).before a0 Z = true) (wm : (Jvm.Cond.instanceMethod y).before a0 Z = true) (hy : y.cls ≠ "java/lang/invoke/MethodHandle" ∧ y.cls ≠ "java/lang/invoke/VarHandle") : (Jvm.Cond.selects y.cls y y).before a0 Z = true := by
  obtain ⟨c, k, h1, h2, h3, h4, -⟩ := Cond.instantiable_spec wi
  exact Jvm.Stand.selects_self_of_private h1 h2 (by simp only [Bool.or_eq_false_iff] at h4; exact h4.1) (Cond.privateMethod_at wp) wm hy
theorem own_eqr {a0 : Array Value} {Z : State} {t u : Term} {y : Value} {idx : List Nat} (h : (Jvm.Cond.eq t u).value a0 Z none Z idx = some true) (hu : u.eval a0 Z none idx Z = some y) (hy : y.isRef = true) : t.eval a0 Z none idx Z = some y := by
  obtain ⟨x, y', e1, e2, k1, k2⟩ := cmp_v (Or.inl h)
  cases hu.symm.trans e2
  have hx : x.isRef = true := by
    rcases ref_cases hy with rfl | ⟨z, rfl⟩ <;> cases x <;> simp_all [Kin, Value.isRef]
  rw [e1, gotT (eq_R e1 hu hx hy) h]
theorem own_len {a0 : Array Value} {Z : State} {t : Term} {a : Addr} {cl : Cell} {ty : FieldType} {k : Int32} (ht : t.eval a0 Z none [] Z = some (.ref a)) (A : Arr Z Z.heap a cl ty) (h : (Jvm.Cond.eq (Term.length t) (Term.int k)).value a0 Z none Z [] = some true) : cl.slots.size < 2 ^ 31 ∧ cl.slots.size.toInt32 = k := by
  have e := own_eqi h
  have e2 := A.fin (Vm.Alike.refl _)
  simp [Term.eval, ht, e2] at e
  exact ⟨by omega, e.2⟩
theorem own_elem {a0 : Array Value} {Z : State} {t u : Term} {a : Addr} {cl : Cell} {j : Int32} {y : Value} (ht : t.eval a0 Z none [] Z = some (.ref a)) (hc : Z.heap[a]? = some cl) (h : (Jvm.Cond.eq (Term.elem t (Term.int j)) u).value a0 Z none Z [] = some true) (hu : u.eval a0 Z none [] Z = some y) (hy : y.isRef = true) : cl.slots[j.toNatClampNeg]? = some y := (elem_in (own_eqr h hu hy) ht (by rfl) hc).2
theorem own_fldi {a0 : Array Value} {Z : State} {t : Term} {k : Int32} {a : Addr} {C n d : String} (ht : t.eval a0 Z none [] Z = some (.ref a)) (h : (Jvm.Cond.eq (Term.field t C n d) (Term.int k)).value a0 Z none Z [] = some true) : Fld Z Z.heap a C n d (.int k) := Fld.start ((fld_at ht).symm.trans (own_eqi h))
end Own
theorem d1_0 : decode prog_9_method_1_code 0 = .ok (.aload_n 0, 1) := by decide +kernel
theorem d1_1 : decode prog_9_method_1_code 1 = .ok (.invokespecial 1, 3) := by decide +kernel
theorem d1_4 : decode prog_9_method_1_code 4 = .ok (.aload_n 0, 1) := by decide +kernel
theorem d1_5 : decode prog_9_method_1_code 5 = .ok (.iconst 4, 1) := by decide +kernel
theorem d1_6 : decode prog_9_method_1_code 6 = .ok (.newarray .long, 2) := by decide +kernel
theorem d1_8 : decode prog_9_method_1_code 8 = .ok (.putfield 9, 3) := by decide +kernel
theorem d1_11 : decode prog_9_method_1_code 11 = .ok (.aload_n 0, 1) := by decide +kernel
theorem d1_12 : decode prog_9_method_1_code 12 = .ok (.iconst 4, 1) := by decide +kernel
theorem d1_13 : decode prog_9_method_1_code 13 = .ok (.anewarray 13, 3) := by decide +kernel
theorem d1_16 : decode prog_9_method_1_code 16 = .ok (.putfield 15, 3) := by decide +kernel
theorem d1_19 : decode prog_9_method_1_code 19 = .ok (.aload_n 0, 1) := by decide +kernel
theorem d1_20 : decode prog_9_method_1_code 20 = .ok (.iload_n 1, 1) := by decide +kernel
theorem d1_21 : decode prog_9_method_1_code 21 = .ok (.putfield 19, 3) := by decide +kernel
theorem d1_24 : decode prog_9_method_1_code 24 = .ok (.return_, 1) := by decide +kernel
theorem d3_0 : decode prog_11_method_1_code 0 = .ok (.aload_n 0, 1) := by decide +kernel
theorem d3_1 : decode prog_11_method_1_code 1 = .ok (.invokespecial 1, 3) := by decide +kernel
theorem d3_4 : decode prog_11_method_1_code 4 = .ok (.aload_n 0, 1) := by decide +kernel
theorem d3_5 : decode prog_11_method_1_code 5 = .ok (.lload_n 1, 1) := by decide +kernel
theorem d3_6 : decode prog_11_method_1_code 6 = .ok (.putfield 7, 3) := by decide +kernel
theorem d3_9 : decode prog_11_method_1_code 9 = .ok (.aload_n 0, 1) := by decide +kernel
theorem d3_10 : decode prog_11_method_1_code 10 = .ok (.aload_n 3, 1) := by decide +kernel
theorem d3_11 : decode prog_11_method_1_code 11 = .ok (.putfield 13, 3) := by decide +kernel
theorem d3_14 : decode prog_11_method_1_code 14 = .ok (.return_, 1) := by decide +kernel
theorem d5_0 : decode prog_11_method_2_code 0 = .ok (.aload_n 0, 1) := by decide +kernel
theorem d5_1 : decode prog_11_method_2_code 1 = .ok (.getfield 7, 3) := by decide +kernel
theorem d5_4 : decode prog_11_method_2_code 4 = .ok (.lreturn, 1) := by decide +kernel
theorem d7_0 : decode prog_9_method_9_code 0 = .ok (.aload_n 0, 1) := by decide +kernel
theorem d7_1 : decode prog_9_method_9_code 1 = .ok (.getfield 19, 3) := by decide +kernel
theorem d7_4 : decode prog_9_method_9_code 4 = .ok (.ifCond .eq 17, 3) := by decide +kernel
theorem d7_21 : decode prog_9_method_9_code 21 = .ok (.lload_n 1, 1) := by decide +kernel
theorem d7_22 : decode prog_9_method_9_code 22 = .ok (.lload_n 3, 1) := by decide +kernel
theorem d7_23 : decode prog_9_method_9_code 23 = .ok (.lcmp, 1) := by decide +kernel
theorem d7_24 : decode prog_9_method_9_code 24 = .ok (.ifCond .ge 7, 3) := by decide +kernel
theorem d7_27 : decode prog_9_method_9_code 27 = .ok (.iconst 1, 1) := by decide +kernel
theorem d7_28 : decode prog_9_method_9_code 28 = .ok (.goto 4, 3) := by decide +kernel
theorem d7_32 : decode prog_9_method_9_code 32 = .ok (.ireturn, 1) := by decide +kernel
theorem d7_31 : decode prog_9_method_9_code 31 = .ok (.iconst 0, 1) := by decide +kernel
theorem d7_7 : decode prog_9_method_9_code 7 = .ok (.lload_n 1, 1) := by decide +kernel
theorem d7_8 : decode prog_9_method_9_code 8 = .ok (.lload_n 3, 1) := by decide +kernel
theorem d7_9 : decode prog_9_method_9_code 9 = .ok (.lcmp, 1) := by decide +kernel
theorem d7_10 : decode prog_9_method_9_code 10 = .ok (.ifCond .le 7, 3) := by decide +kernel
theorem d7_13 : decode prog_9_method_9_code 13 = .ok (.iconst 1, 1) := by decide +kernel
theorem d7_14 : decode prog_9_method_9_code 14 = .ok (.goto 18, 3) := by decide +kernel
theorem d7_17 : decode prog_9_method_9_code 17 = .ok (.iconst 0, 1) := by decide +kernel
theorem d7_18 : decode prog_9_method_9_code 18 = .ok (.goto 14, 3) := by decide +kernel
theorem d8_0 : decode method_2_code 0 = .ok (.iload 4, 2) := by decide +kernel
theorem d8_2 : decode method_2_code 2 = .ok (.ifCond .eq 17, 3) := by decide +kernel
theorem d8_19 : decode method_2_code 19 = .ok (.lload_n 0, 1) := by decide +kernel
theorem d8_20 : decode method_2_code 20 = .ok (.lload_n 2, 1) := by decide +kernel
theorem d8_21 : decode method_2_code 21 = .ok (.lcmp, 1) := by decide +kernel
theorem d8_22 : decode method_2_code 22 = .ok (.ifCond .le 7, 3) := by decide +kernel
theorem d8_25 : decode method_2_code 25 = .ok (.iconst 1, 1) := by decide +kernel
theorem d8_26 : decode method_2_code 26 = .ok (.goto 4, 3) := by decide +kernel
theorem d8_30 : decode method_2_code 30 = .ok (.ireturn, 1) := by decide +kernel
theorem d8_29 : decode method_2_code 29 = .ok (.iconst 0, 1) := by decide +kernel
theorem d8_5 : decode method_2_code 5 = .ok (.lload_n 0, 1) := by decide +kernel
theorem d8_6 : decode method_2_code 6 = .ok (.lload_n 2, 1) := by decide +kernel
theorem d8_7 : decode method_2_code 7 = .ok (.lcmp, 1) := by decide +kernel
theorem d8_8 : decode method_2_code 8 = .ok (.ifCond .ge 7, 3) := by decide +kernel
theorem d8_11 : decode method_2_code 11 = .ok (.iconst 1, 1) := by decide +kernel
theorem d8_12 : decode method_2_code 12 = .ok (.goto 18, 3) := by decide +kernel
theorem d8_15 : decode method_2_code 15 = .ok (.iconst 0, 1) := by decide +kernel
theorem d8_16 : decode method_2_code 16 = .ok (.goto 14, 3) := by decide +kernel
theorem d6_0 : decode prog_9_method_8_code 0 = .ok (.iconst 0, 1) := by decide +kernel
theorem d6_1 : decode prog_9_method_8_code 1 = .ok (.istore_n 3, 1) := by decide +kernel
theorem d6_2 : decode prog_9_method_8_code 2 = .ok (.aload_n 0, 1) := by decide +kernel
theorem d6_3 : decode prog_9_method_8_code 3 = .ok (.getfield 23, 3) := by decide +kernel
theorem d6_6 : decode prog_9_method_8_code 6 = .ok (.iconst 1, 1) := by decide +kernel
theorem d6_7 : decode prog_9_method_8_code 7 = .ok (.isub, 1) := by decide +kernel
theorem d6_8 : decode prog_9_method_8_code 8 = .ok (.istore 4, 2) := by decide +kernel
theorem d6_10 : decode prog_9_method_8_code 10 = .ok (.iload 4, 2) := by decide +kernel
theorem d6_12 : decode prog_9_method_8_code 12 = .ok (.ifCond .lt 21, 3) := by decide +kernel
theorem d6_33 : decode prog_9_method_8_code 33 = .ok (.iload_n 3, 1) := by decide +kernel
theorem d6_34 : decode prog_9_method_8_code 34 = .ok (.iload 4, 2) := by decide +kernel
theorem d6_36 : decode prog_9_method_8_code 36 = .ok (.if_icmp .gt 57, 3) := by decide +kernel
theorem d6_93 : decode prog_9_method_8_code 93 = .ok (.iload_n 3, 1) := by decide +kernel
theorem d6_94 : decode prog_9_method_8_code 94 = .ok (.ineg, 1) := by decide +kernel
theorem d6_95 : decode prog_9_method_8_code 95 = .ok (.iconst 1, 1) := by decide +kernel
theorem d6_96 : decode prog_9_method_8_code 96 = .ok (.isub, 1) := by decide +kernel
theorem d6_97 : decode prog_9_method_8_code 97 = .ok (.ireturn, 1) := by decide +kernel
theorem d6_15 : decode prog_9_method_8_code 15 = .ok (.aload_n 0, 1) := by decide +kernel
theorem d6_16 : decode prog_9_method_8_code 16 = .ok (.lload_n 1, 1) := by decide +kernel
theorem d6_17 : decode prog_9_method_8_code 17 = .ok (.aload_n 0, 1) := by decide +kernel
theorem d6_18 : decode prog_9_method_8_code 18 = .ok (.getfield 9, 3) := by decide +kernel
theorem d6_21 : decode prog_9_method_8_code 21 = .ok (.iload 4, 2) := by decide +kernel
theorem d6_23 : decode prog_9_method_8_code 23 = .ok (.laload, 1) := by decide +kernel
theorem d6_24 : decode prog_9_method_8_code 24 = .ok (.invokevirtual 58, 3) := by decide +kernel
theorem d6_27 : decode prog_9_method_8_code 27 = .ok (.ifCond .ne 6, 3) := by decide +kernel
theorem d6_30 : decode prog_9_method_8_code 30 = .ok (.iload 4, 2) := by decide +kernel
theorem d6_32 : decode prog_9_method_8_code 32 = .ok (.istore_n 3, 1) := by decide +kernel
theorem d6_39 : decode prog_9_method_8_code 39 = .ok (.iload_n 3, 1) := by decide +kernel
theorem d6_40 : decode prog_9_method_8_code 40 = .ok (.iload 4, 2) := by decide +kernel
theorem d6_42 : decode prog_9_method_8_code 42 = .ok (.iadd, 1) := by decide +kernel
theorem d6_43 : decode prog_9_method_8_code 43 = .ok (.iconst 1, 1) := by decide +kernel
theorem d6_44 : decode prog_9_method_8_code 44 = .ok (.iushr, 1) := by decide +kernel
theorem d6_45 : decode prog_9_method_8_code 45 = .ok (.istore 5, 2) := by decide +kernel
theorem d6_47 : decode prog_9_method_8_code 47 = .ok (.aload_n 0, 1) := by decide +kernel
theorem d6_48 : decode prog_9_method_8_code 48 = .ok (.getfield 9, 3) := by decide +kernel
theorem d6_51 : decode prog_9_method_8_code 51 = .ok (.iload 5, 2) := by decide +kernel
theorem d6_53 : decode prog_9_method_8_code 53 = .ok (.laload, 1) := by decide +kernel
theorem d6_54 : decode prog_9_method_8_code 54 = .ok (.lstore 6, 2) := by decide +kernel
theorem d6_56 : decode prog_9_method_8_code 56 = .ok (.lload 6, 2) := by decide +kernel
theorem d6_58 : decode prog_9_method_8_code 58 = .ok (.lload_n 1, 1) := by decide +kernel
theorem d6_59 : decode prog_9_method_8_code 59 = .ok (.lcmp, 1) := by decide +kernel
theorem d6_60 : decode prog_9_method_8_code 60 = .ok (.ifCond .ne 6, 3) := by decide +kernel
theorem d6_66 : decode prog_9_method_8_code 66 = .ok (.aload_n 0, 1) := by decide +kernel
theorem d6_67 : decode prog_9_method_8_code 67 = .ok (.lload 6, 2) := by decide +kernel
theorem d6_69 : decode prog_9_method_8_code 69 = .ok (.lload_n 1, 1) := by decide +kernel
theorem d6_70 : decode prog_9_method_8_code 70 = .ok (.invokevirtual 58, 3) := by decide +kernel
theorem d6_73 : decode prog_9_method_8_code 73 = .ok (.ifCond .eq 11, 3) := by decide +kernel
theorem d6_84 : decode prog_9_method_8_code 84 = .ok (.iload 5, 2) := by decide +kernel
theorem d6_86 : decode prog_9_method_8_code 86 = .ok (.iconst 1, 1) := by decide +kernel
theorem d6_87 : decode prog_9_method_8_code 87 = .ok (.isub, 1) := by decide +kernel
theorem d6_88 : decode prog_9_method_8_code 88 = .ok (.istore 4, 2) := by decide +kernel
theorem d6_90 : decode prog_9_method_8_code 90 = .ok (.goto (-57), 3) := by decide +kernel
theorem d6_76 : decode prog_9_method_8_code 76 = .ok (.iload 5, 2) := by decide +kernel
theorem d6_78 : decode prog_9_method_8_code 78 = .ok (.iconst 1, 1) := by decide +kernel
theorem d6_79 : decode prog_9_method_8_code 79 = .ok (.iadd, 1) := by decide +kernel
theorem d6_80 : decode prog_9_method_8_code 80 = .ok (.istore_n 3, 1) := by decide +kernel
theorem d6_81 : decode prog_9_method_8_code 81 = .ok (.goto 9, 3) := by decide +kernel
theorem d4_0 : decode prog_9_method_6_code 0 = .ok (.aload_n 0, 1) := by decide +kernel
theorem d4_1 : decode prog_9_method_6_code 1 = .ok (.aload_n 1, 1) := by decide +kernel
theorem d4_2 : decode prog_9_method_6_code 2 = .ok (.invokevirtual 35, 3) := by decide +kernel
theorem d4_5 : decode prog_9_method_6_code 5 = .ok (.invokevirtual 31, 3) := by decide +kernel
theorem d4_8 : decode prog_9_method_6_code 8 = .ok (.ineg, 1) := by decide +kernel
theorem d4_9 : decode prog_9_method_6_code 9 = .ok (.iconst 1, 1) := by decide +kernel
theorem d4_10 : decode prog_9_method_6_code 10 = .ok (.isub, 1) := by decide +kernel
theorem d4_11 : decode prog_9_method_6_code 11 = .ok (.istore_n 2, 1) := by decide +kernel
theorem d4_12 : decode prog_9_method_6_code 12 = .ok (.aload_n 0, 1) := by decide +kernel
theorem d4_13 : decode prog_9_method_6_code 13 = .ok (.getfield 23, 3) := by decide +kernel
theorem d4_16 : decode prog_9_method_6_code 16 = .ok (.aload_n 0, 1) := by decide +kernel
theorem d4_17 : decode prog_9_method_6_code 17 = .ok (.getfield 15, 3) := by decide +kernel
theorem d4_20 : decode prog_9_method_6_code 20 = .ok (.arraylength, 1) := by decide +kernel
theorem d4_21 : decode prog_9_method_6_code 21 = .ok (.if_icmp .ne 40, 3) := by decide +kernel
theorem d4_61 : decode prog_9_method_6_code 61 = .ok (.aload_n 0, 1) := by decide +kernel
theorem d4_62 : decode prog_9_method_6_code 62 = .ok (.getfield 9, 3) := by decide +kernel
theorem d4_65 : decode prog_9_method_6_code 65 = .ok (.iload_n 2, 1) := by decide +kernel
theorem d4_66 : decode prog_9_method_6_code 66 = .ok (.aload_n 0, 1) := by decide +kernel
theorem d4_67 : decode prog_9_method_6_code 67 = .ok (.getfield 9, 3) := by decide +kernel
theorem d4_70 : decode prog_9_method_6_code 70 = .ok (.iload_n 2, 1) := by decide +kernel
theorem d4_71 : decode prog_9_method_6_code 71 = .ok (.iconst 1, 1) := by decide +kernel
theorem d4_72 : decode prog_9_method_6_code 72 = .ok (.iadd, 1) := by decide +kernel
theorem d4_73 : decode prog_9_method_6_code 73 = .ok (.aload_n 0, 1) := by decide +kernel
theorem d4_74 : decode prog_9_method_6_code 74 = .ok (.getfield 23, 3) := by decide +kernel
theorem d4_77 : decode prog_9_method_6_code 77 = .ok (.iload_n 2, 1) := by decide +kernel
theorem d4_78 : decode prog_9_method_6_code 78 = .ok (.isub, 1) := by decide +kernel
theorem d4_79 : decode prog_9_method_6_code 79 = .ok (.invokestatic 48, 3) := by decide +kernel
theorem d4_82 : decode prog_9_method_6_code 82 = .ok (.aload_n 0, 1) := by decide +kernel
theorem d4_83 : decode prog_9_method_6_code 83 = .ok (.getfield 15, 3) := by decide +kernel
theorem d4_86 : decode prog_9_method_6_code 86 = .ok (.iload_n 2, 1) := by decide +kernel
theorem d4_87 : decode prog_9_method_6_code 87 = .ok (.aload_n 0, 1) := by decide +kernel
theorem d4_88 : decode prog_9_method_6_code 88 = .ok (.getfield 15, 3) := by decide +kernel
theorem d4_91 : decode prog_9_method_6_code 91 = .ok (.iload_n 2, 1) := by decide +kernel
theorem d4_92 : decode prog_9_method_6_code 92 = .ok (.iconst 1, 1) := by decide +kernel
theorem d4_93 : decode prog_9_method_6_code 93 = .ok (.iadd, 1) := by decide +kernel
theorem d4_94 : decode prog_9_method_6_code 94 = .ok (.aload_n 0, 1) := by decide +kernel
theorem d4_95 : decode prog_9_method_6_code 95 = .ok (.getfield 23, 3) := by decide +kernel
theorem d4_98 : decode prog_9_method_6_code 98 = .ok (.iload_n 2, 1) := by decide +kernel
theorem d4_99 : decode prog_9_method_6_code 99 = .ok (.isub, 1) := by decide +kernel
theorem d4_100 : decode prog_9_method_6_code 100 = .ok (.invokestatic 48, 3) := by decide +kernel
theorem d4_103 : decode prog_9_method_6_code 103 = .ok (.aload_n 0, 1) := by decide +kernel
theorem d4_104 : decode prog_9_method_6_code 104 = .ok (.getfield 9, 3) := by decide +kernel
theorem d4_107 : decode prog_9_method_6_code 107 = .ok (.iload_n 2, 1) := by decide +kernel
theorem d4_108 : decode prog_9_method_6_code 108 = .ok (.aload_n 1, 1) := by decide +kernel
theorem d4_109 : decode prog_9_method_6_code 109 = .ok (.invokevirtual 35, 3) := by decide +kernel
theorem d4_112 : decode prog_9_method_6_code 112 = .ok (.lastore, 1) := by decide +kernel
theorem d4_113 : decode prog_9_method_6_code 113 = .ok (.aload_n 0, 1) := by decide +kernel
theorem d4_114 : decode prog_9_method_6_code 114 = .ok (.getfield 15, 3) := by decide +kernel
theorem d4_117 : decode prog_9_method_6_code 117 = .ok (.iload_n 2, 1) := by decide +kernel
theorem d4_118 : decode prog_9_method_6_code 118 = .ok (.aload_n 1, 1) := by decide +kernel
theorem d4_119 : decode prog_9_method_6_code 119 = .ok (.aastore, 1) := by decide +kernel
theorem d4_120 : decode prog_9_method_6_code 120 = .ok (.aload_n 1, 1) := by decide +kernel
theorem d4_121 : decode prog_9_method_6_code 121 = .ok (.aload_n 0, 1) := by decide +kernel
theorem d4_122 : decode prog_9_method_6_code 122 = .ok (.putfield 54, 3) := by decide +kernel
theorem d4_125 : decode prog_9_method_6_code 125 = .ok (.aload_n 0, 1) := by decide +kernel
theorem d4_126 : decode prog_9_method_6_code 126 = .ok (.dup, 1) := by decide +kernel
theorem d4_127 : decode prog_9_method_6_code 127 = .ok (.getfield 23, 3) := by decide +kernel
theorem d4_130 : decode prog_9_method_6_code 130 = .ok (.iconst 1, 1) := by decide +kernel
theorem d4_131 : decode prog_9_method_6_code 131 = .ok (.iadd, 1) := by decide +kernel
theorem d4_132 : decode prog_9_method_6_code 132 = .ok (.putfield 23, 3) := by decide +kernel
theorem d4_135 : decode prog_9_method_6_code 135 = .ok (.return_, 1) := by decide +kernel
theorem d9_0 : decode prog_9_method_4_code 0 = .ok (.aload_n 0, 1) := by decide +kernel
theorem d9_1 : decode prog_9_method_4_code 1 = .ok (.getfield 15, 3) := by decide +kernel
theorem d9_4 : decode prog_9_method_4_code 4 = .ok (.aload_n 0, 1) := by decide +kernel
theorem d9_5 : decode prog_9_method_4_code 5 = .ok (.getfield 23, 3) := by decide +kernel
theorem d9_8 : decode prog_9_method_4_code 8 = .ok (.iconst 1, 1) := by decide +kernel
theorem d9_9 : decode prog_9_method_4_code 9 = .ok (.isub, 1) := by decide +kernel
theorem d9_10 : decode prog_9_method_4_code 10 = .ok (.iload_n 1, 1) := by decide +kernel
theorem d9_11 : decode prog_9_method_4_code 11 = .ok (.isub, 1) := by decide +kernel
theorem d9_12 : decode prog_9_method_4_code 12 = .ok (.aaload, 1) := by decide +kernel
theorem d9_13 : decode prog_9_method_4_code 13 = .ok (.areturn, 1) := by decide +kernel
theorem pd_0 : parseMethodDescriptor "(JJ)Z" = some ⟨[.long, .long], some .boolean⟩ := by decide +kernel
theorem pd_1 : parseMethodDescriptor "()J" = some ⟨[], some .long⟩ := by decide +kernel
theorem pd_2 : parseMethodDescriptor "(J)I" = some ⟨[.long], some .int⟩ := by decide +kernel
theorem pd_3 : parseMethodDescriptor "(Z)V" = some ⟨[.boolean], none⟩ := by decide +kernel
theorem pd_4 : parseMethodDescriptor "(JLjava/math/BigDecimal;)V" = some ⟨[.long, (.object "java/math/BigDecimal")], none⟩ := by decide +kernel
theorem pd_5 : parseMethodDescriptor "(Lcom/example/tenorbook/tenorbook/engine/Level;)V" = some ⟨[(.object "com/example/tenorbook/tenorbook/engine/Level")], none⟩ := by decide +kernel
theorem pd_6 : parseMethodDescriptor "(I)Lcom/example/tenorbook/tenorbook/engine/Level;" = some ⟨[.int], some (.object "com/example/tenorbook/tenorbook/engine/Level")⟩ := by decide +kernel
theorem pd_7 : parseMethodDescriptor "(JJZ)Z" = some ⟨[.long, .long, .boolean], some .boolean⟩ := by decide +kernel
theorem pn_1 : plainName "com/example/tenorbook/tenorbook/engine/Ladder" = true := by first | (simp [plainName, overriddenIn]; done) | decide +kernel
theorem pn_3 : plainName "com/example/tenorbook/tenorbook/engine/Level" = true := by first | (simp [plainName, overriddenIn]; done) | decide +kernel
theorem pn_5 : plainName "com/example/tenorbook/tenorbook/engine/Level" = true := by first | (simp [plainName, overriddenIn]; done) | decide +kernel
theorem pn_7 : plainName "com/example/tenorbook/tenorbook/engine/Ladder" = true := by first | (simp [plainName, overriddenIn]; done) | decide +kernel
theorem pn_8 : plainName "com/example/tenorbook/tenorbook/engine/LadderBestPinLaw" = true := by first | (simp [plainName, overriddenIn]; done) | decide +kernel
theorem pn_6 : plainName "com/example/tenorbook/tenorbook/engine/Ladder" = true := by first | (simp [plainName, overriddenIn]; done) | decide +kernel
theorem pn_4 : plainName "com/example/tenorbook/tenorbook/engine/Ladder" = true := by first | (simp [plainName, overriddenIn]; done) | decide +kernel
theorem pn_9 : plainName "com/example/tenorbook/tenorbook/engine/Ladder" = true := by first | (simp [plainName, overriddenIn]; done) | decide +kernel
theorem pn_0 : plainName "com/example/tenorbook/tenorbook/engine/LadderBestPinLaw" = true := by first | (simp [plainName, overriddenIn]; done) | decide +kernel
theorem ef_rm1 (m : MethodId) (x0 : Nat) (x1 : Int32) : entryFrame m #[(.ref x0), (.int x1)] 2 = mkF m 0 #[.val (.ref x0), .val (.int x1)] [] := by first | (simp [entryFrame, mkF, argsToLocals, Value.category]; done) | rfl
theorem ef_rm3 (m : MethodId) (x0 : Nat) (x1 : Int64) : entryFrame m #[(.ref x0), (.long x1), .null] 4 = mkF m 0 #[.val (.ref x0), .val (.long x1), .second, .val .null] [] := by first | (simp [entryFrame, mkF, argsToLocals, Value.category]; done) | rfl
theorem ef_rm5 (m : MethodId) (x0 : Nat) : entryFrame m #[(.ref x0)] 1 = mkF m 0 #[.val (.ref x0)] [] := by first | (simp [entryFrame, mkF, argsToLocals, Value.category]; done) | rfl
theorem ef_rm7 (m : MethodId) (x0 : Nat) (x1 : Int64) (x2 : Int64) : entryFrame m #[(.ref x0), (.long x1), (.long x2)] 5 = mkF m 0 #[.val (.ref x0), .val (.long x1), .second, .val (.long x2), .second] [] := by first | (simp [entryFrame, mkF, argsToLocals, Value.category]; done) | rfl
theorem ef_rm8 (m : MethodId) (x0 : Int64) (x1 : Int64) (x2 : Int32) : entryFrame m #[(.long x0), (.long x1), (.int x2)] 5 = mkF m 0 #[.val (.long x0), .second, .val (.long x1), .second, .val (.int x2)] [] := by first | (simp [entryFrame, mkF, argsToLocals, Value.category]; done) | rfl
theorem ef_find0 (m : MethodId) (x0 : Nat) (x1 : Int64) : entryFrame m #[(.ref x0), (.long x1)] 8 = mkF m 0 #[.val (.ref x0), .val (.long x1), .second, .unset, .unset, .unset, .unset, .unset] [] := by first | (simp [entryFrame, mkF, argsToLocals, Value.category]; done) | rfl
theorem ef_find1 (m : MethodId) (x0 : Nat) (x1 : Int64) : entryFrame m #[(.ref x0), (.long x1)] 8 = mkF m 0 #[.val (.ref x0), .val (.long x1), .second, .unset, .unset, .unset, .unset, .unset] [] := by first | (simp [entryFrame, mkF, argsToLocals, Value.category]; done) | rfl
theorem ef_find2 (m : MethodId) (x0 : Nat) (x1 : Int64) : entryFrame m #[(.ref x0), (.long x1)] 8 = mkF m 0 #[.val (.ref x0), .val (.long x1), .second, .unset, .unset, .unset, .unset, .unset] [] := by first | (simp [entryFrame, mkF, argsToLocals, Value.category]; done) | rfl
theorem ef_add0 (m : MethodId) (x0 : Nat) (x1 : Nat) : entryFrame m #[(.ref x0), (.ref x1)] 3 = mkF m 0 #[.val (.ref x0), .val (.ref x1), .unset] [] := by first | (simp [entryFrame, mkF, argsToLocals, Value.category]; done) | rfl
theorem ef_add1 (m : MethodId) (x0 : Nat) (x1 : Nat) : entryFrame m #[(.ref x0), (.ref x1)] 3 = mkF m 0 #[.val (.ref x0), .val (.ref x1), .unset] [] := by first | (simp [entryFrame, mkF, argsToLocals, Value.category]; done) | rfl
theorem ef_add2 (m : MethodId) (x0 : Nat) (x1 : Nat) : entryFrame m #[(.ref x0), (.ref x1)] 3 = mkF m 0 #[.val (.ref x0), .val (.ref x1), .unset] [] := by first | (simp [entryFrame, mkF, argsToLocals, Value.category]; done) | rfl
theorem ef_best1 (m : MethodId) (x0 : Nat) (x1 : Int32) : entryFrame m #[(.ref x0), (.int x1)] 2 = mkF m 0 #[.val (.ref x0), .val (.int x1)] [] := by first | (simp [entryFrame, mkF, argsToLocals, Value.category]; done) | rfl
theorem ef_best2 (m : MethodId) (x0 : Nat) (x1 : Int32) : entryFrame m #[(.ref x0), (.int x1)] 2 = mkF m 0 #[.val (.ref x0), .val (.int x1)] [] := by first | (simp [entryFrame, mkF, argsToLocals, Value.category]; done) | rfl
theorem ef_best3 (m : MethodId) (x0 : Nat) (x1 : Int32) : entryFrame m #[(.ref x0), (.int x1)] 2 = mkF m 0 #[.val (.ref x0), .val (.int x1)] [] := by first | (simp [entryFrame, mkF, argsToLocals, Value.category]; done) | rfl
theorem ef_rm0 (m : MethodId) (x0 : Int64) (x1 : Int64) (x2 : Int64) (x3 : Int32) : entryFrame m #[(.long x0), (.long x1), (.long x2), (.int x3)] maxLocals = mkF m 0 #[.val (.long x0), .second, .val (.long x1), .second, .val (.long x2), .second, .val (.int x3), .unset, .unset, .unset, .unset, .unset, .unset, .unset, .unset, .unset, .unset, .unset] [] := by first | (simp [entryFrame, mkF, argsToLocals, Value.category, maxLocals]; done) | rfl
def own_ad (a : Addr) : Int := Int.ofNat a
theorem own_ad_inj {a b : Addr} (h : own_ad a = own_ad b) : a = b := Int.ofNat.inj h
def own_key (lb : Int32) (x : Int64) : Int := if lb = 0 then x.toInt else - x.toInt
theorem own_key_ne (lb : Int32) {x y : Int64} (h : ¬ x = y) : own_key lb x ≠ own_key lb y := by
  intro q; apply h; apply Int64.toInt_inj.mp; unfold own_key at q; split at q <;> omega
theorem own_key0 {lb : Int32} (h : lb = 0) (x y : Int64) : (own_key lb x < own_key lb y) = (x.toInt < y.toInt) := by simp [own_key, h]
theorem own_key1 {lb : Int32} (h : ¬ lb = 0) (x y : Int64) : (own_key lb x < own_key lb y) = (y.toInt < x.toInt) := by simp only [own_key, h, if_false]; apply propext; omega
def Q_rm1 (Z : State) (self : Nat) (zz : Int32) (h0 : Heap) (n0 : Nat) (v : Option Value) (h : Heap) (L : List Loc) : Prop := ∃ (ta : Nat), ∃ (la : Nat), ∃ (kt : ClassId), ∃ (kl : ClassId), (v = none) ∧ (Fr n0 L) ∧ (Keep h0 h [self]) ∧ (Exa Z h self "com/example/tenorbook/tenorbook/engine/Ladder") ∧ (Fld Z h self "com/example/tenorbook/tenorbook/engine/Ladder" "ticks" "[J" (.ref ta)) ∧ (Fld Z h self "com/example/tenorbook/tenorbook/engine/Ladder" "levels" "[Lcom/example/tenorbook/tenorbook/engine/Level;" (.ref la)) ∧ (Fld Z h self "com/example/tenorbook/tenorbook/engine/Ladder" "lowestBest" "Z" (.int (nar .boolean zz))) ∧ (Fld Z h self "com/example/tenorbook/tenorbook/engine/Ladder" "count" "I" (.int (0 : Int32))) ∧ (Arv Z h ta kt .long (4 : Int32) [(.long (0 : Int64)), (.long (0 : Int64)), (.long (0 : Int64)), (.long (0 : Int64))] (.long (0 : Int64))) ∧ (Arv Z h la kl (.object "com/example/tenorbook/tenorbook/engine/Level") (4 : Int32) [.null, .null, .null, .null] .null) ∧ (Ovr Z kl "com/example/tenorbook/tenorbook/engine/Level") ∧ (n0 ≤ ta) ∧ (n0 ≤ la) ∧ (ta ≠ self) ∧ (la ≠ self) ∧ (la ≠ ta) ∧ (h0.size ≤ ta ∧ h0.size ≤ la)
set_option maxRecDepth 65536 in
set_option maxHeartbeats 40000000 in
theorem rm1 (l : Launch) (Z : State) (a0 : Array Value) (hw : ∀ d ∈ tables_1, d.before a0 Z = true) (ws : List Jvm.Cond) (self : Nat) (zz : Int32) (h0 : Heap) (n0 : Nat) (Z0 : n0 ≤ h0.size) (G0 : Exa Z h0 self "com/example/tenorbook/tenorbook/engine/Ladder") (G1 : Fld Z h0 self "com/example/tenorbook/tenorbook/engine/Ladder" "ticks" "[J" .null) (G2 : Fld Z h0 self "com/example/tenorbook/tenorbook/engine/Ladder" "levels" "[Lcom/example/tenorbook/tenorbook/engine/Level;" .null) (G3 : Fld Z h0 self "com/example/tenorbook/tenorbook/engine/Ladder" "lowestBest" "Z" (.int (0 : Int32))) (G4 : Fld Z h0 self "com/example/tenorbook/tenorbook/engine/Ladder" "count" "I" (.int (0 : Int32))) (G5 : n0 ≤ self) :
    MetFree l (⟨"com/example/tenorbook/tenorbook/engine/Ladder", "<init>", "(Z)V"⟩ : MethodName) (head1 (Jvm.Cond.code (⟨"com/example/tenorbook/tenorbook/engine/Ladder", "<init>", "(Z)V"⟩ : MethodName) prog_9_method_1_code 2 none :: ws) ({ frames := 1, cells := 2, slots := 8, locals := 12 } : Room)) (fun a U => a = #[(.ref self), (.int zz)] ∧ Z.Warmed39 U.vm ∧ U.heap = h0) (fun _ _ _ _ _ => True) (fun _ U o U' => ∃ v L, o = .returned v ∧ Q_rm1 Z self zz h0 n0 v U'.heap L ∧ FrameEnd U o U' L ({ frames := 1, cells := 2, slots := 8, locals := 12 } : Room).cells ({ frames := 1, cells := 2, slots := 8, locals := 12 } : Room).slots) := by
  refine MetFree.of_bodySF (plainFor_of_name pn_1) hisR ?_
  intro p e s m args below meth c s₁ Bd hml0 hP hK
  obtain ⟨rfl, hZ, hh⟩ := hP
  have hx := Bd.exec
  have hby := Bd.bytes
  have hml : c.maxLocals = 2 := hml0
  have hown : s.vm.findClass "com/example/tenorbook/tenorbook/engine/Ladder" = some m.cls := findClass_of_methodNamed Bd.named
  have hnm := (name_of_methodNamed Bd.named Bd.method).1
  have hlk : meth.locks = false := Bd.notSynchronized
  have X0 : Stand p l e ({ frames := 1, cells := 2, slots := 8, locals := 12 } : Room) s m #[(.ref self), (.int zz)] below meth c s₁ [] 0 0 := Stand.of_body Bd
  have e0 : s₁.heap = h0 := by rw [← hh, Bd.state]; rfl
  have N0 := Fr.nil n0
  have K0 := Keep.refl h0 [self]
  refine Comes.out (Q := Q_rm1 Z self zz h0 n0) (kc := ({ frames := 1, cells := 2, slots := 8, locals := 12 } : Room).cells) (ks := ({ frames := 1, cells := 2, slots := 8, locals := 12 } : Room).slots) ?_
  refine Comes.cast (ef_rm1 m self zz) ?_
  have lt_self : self < h0.size := G0.lt
  show Comes p e below _ (s₁.setTop (mkF m 0 #[.val (.ref self), .val (.int zz)] []))
  refine Comes.st (fun t k => XS.aloadN X0.here hx rfl (hb hby d1_0) rfl rfl k) ?_
  show Comes p e below _ (s₁.setTop (mkF m 1 #[.val (.ref self), .val (.int zz)] [(.ref self)]))
  obtain ⟨T1, X1, e1, st1⟩ := initO X0 hx hZ hown (hw _ (List.mem_of_getElem? (i := 6) rfl)) (hw _ (List.mem_of_getElem? (i := 7) rfl)) (hw _ (List.mem_of_getElem? (i := 8) rfl)) e0 (g := (mkF m 1 #[.val (.ref self), .val (.int zz)] [(.ref self)])) rfl (by rw [hml]; rfl) rfl (hb hby d1_1) (by decide) (W := 0) (by show 2 * 0 + _ ≤ _; exact Nat.le_of_eq rfl) (by decide)
  refine Comes.st st1 ?_
  show Comes p e below _ (T1.setTop (mkF m 4 #[.val (.ref self), .val (.int zz)] []))
  refine Comes.st (fun t k => XS.aloadN X1.here hx rfl (hb hby d1_4) rfl rfl (XS.iconst X1.here hx rfl (hb hby d1_5) k)) ?_
  show Comes p e below _ (T1.setTop (mkF m 6 #[.val (.ref self), .val (.int zz)] [(.int (4 : Int32)), (.ref self)]))
  obtain ⟨T2, h2, k2, X2, e2, E2, A2, st2⟩ := newP X1 hx hZ (hw _ (List.mem_of_getElem? (i := 9) rfl)) e1 (g := (mkF m 6 #[.val (.ref self), .val (.int zz)] [(.int (4 : Int32)), (.ref self)])) rfl (hb hby d1_6) rfl (by decide) (cap := 4) (by decide) (by decide) (by decide) (by decide)
  obtain ⟨b2, g2⟩ : ∃ z, z = h0.size := ⟨_, rfl⟩
  rw [← g2] at A2 st2
  have z2 : h0.size ≤ h2.size := E2.1
  have lt2 : b2 < h2.size := A2.lt
  have V2 : Arv Z h2 b2 k2 .long (4 : Int32) [(.long (0 : Int64)), (.long (0 : Int64)), (.long (0 : Int64)), (.long (0 : Int64))] (.long (0 : Int64)) := (Arv.new A2 (by decide)).pad (pad_rep [] (.long (0 : Int64)) 4)
  have K2 : Keep h0 h2 [self] := K0.ext E2
  refine Comes.st st2 ?_
  show Comes p e below _ (T2.setTop (mkF m 8 #[.val (.ref self), .val (.int zz)] [(.ref b2), (.ref self)]))
  have F3 : Exa Z h2 self "com/example/tenorbook/tenorbook/engine/Ladder" := (G0.ext E2)
  have F4 : Fld Z h2 self "com/example/tenorbook/tenorbook/engine/Ladder" "ticks" "[J" .null := (G1.ext E2)
  obtain ⟨T5, h5, X5, e5, W5, st5⟩ := putF X2 hx hZ hown (host := "") (Or.inl (hw _ (List.mem_of_getElem? (i := 10) rfl))) Via.refl e2 F4 F3 (Or.inl (hw _ (List.mem_of_getElem? (i := 11) rfl))) (hw _ (List.mem_of_getElem? (i := 1) rfl)) (ty := (.array .long)) (by decide) rfl rfl (g := (mkF m 8 #[.val (.ref self), .val (.int zz)] [(.ref b2), (.ref self)])) rfl rfl (hb hby d1_8)
  have Fw5 := F4.same W5
  have z5 : h5.size = h2.size := W5.size
  have N5 := Fr.snoc X5 N0 (by omega)
  have K5 : Keep h0 h5 [self] := K2.wr W5 (Or.inl (List.mem_of_getElem? (i := 0) rfl))
  refine Comes.st st5 ?_
  show Comes p e below _ (T5.setTop (mkF m 11 #[.val (.ref self), .val (.int zz)] []))
  refine Comes.st (fun t k => XS.aloadN X5.here hx rfl (hb hby d1_11) rfl rfl (XS.iconst X5.here hx rfl (hb hby d1_12) k)) ?_
  show Comes p e below _ (T5.setTop (mkF m 13 #[.val (.ref self), .val (.int zz)] [(.int (4 : Int32)), (.ref self)]))
  obtain ⟨T6, h6, k6, X6, e6, E6, A6, O6, st6⟩ := newR X5 hx hZ hown (hw _ (List.mem_of_getElem? (i := 12) rfl)) (hw _ (List.mem_of_getElem? (i := 13) rfl)) e5 (g := (mkF m 13 #[.val (.ref self), .val (.int zz)] [(.int (4 : Int32)), (.ref self)])) rfl (hb hby d1_13) rfl (by decide) (cap := 4) (by decide) (by decide) (by decide) (by decide)
  obtain ⟨b6, g6⟩ : ∃ z, z = h5.size := ⟨_, rfl⟩
  rw [← g6] at A6 st6
  have z6 : h5.size ≤ h6.size := E6.1
  have lt6 : b6 < h6.size := A6.lt
  have V6 : Arv Z h6 b6 k6 (.object "com/example/tenorbook/tenorbook/engine/Level") (4 : Int32) [.null, .null, .null, .null] .null := (Arv.new A6 (by decide)).pad (pad_rep [] .null 4)
  have K6 : Keep h0 h6 [self] := K5.ext E6
  refine Comes.st st6 ?_
  show Comes p e below _ (T6.setTop (mkF m 16 #[.val (.ref self), .val (.int zz)] [(.ref b6), (.ref self)]))
  have F7 : Exa Z h6 self "com/example/tenorbook/tenorbook/engine/Ladder" := ((F3.wr W5).ext E6)
  have F8 : Fld Z h6 self "com/example/tenorbook/tenorbook/engine/Ladder" "levels" "[Lcom/example/tenorbook/tenorbook/engine/Level;" .null := (((G2.ext E2).other W5 (Or.inr (slot_ne (Or.inl (hw _ (List.mem_of_getElem? (i := 15) rfl))) (Or.inl (hw _ (List.mem_of_getElem? (i := 11) rfl))) (by decide) (t := (.array (.object "com/example/tenorbook/tenorbook/engine/Level"))) (t' := (.array .long)) (by decide) (by decide)))).ext E6)
  obtain ⟨T9, h9, X9, e9, W9, st9⟩ := putF X6 hx hZ hown (host := "") (Or.inl (hw _ (List.mem_of_getElem? (i := 14) rfl))) Via.refl e6 F8 F7 (Or.inl (hw _ (List.mem_of_getElem? (i := 15) rfl))) (hw _ (List.mem_of_getElem? (i := 1) rfl)) (ty := (.array (.object "com/example/tenorbook/tenorbook/engine/Level"))) (by decide) rfl rfl (g := (mkF m 16 #[.val (.ref self), .val (.int zz)] [(.ref b6), (.ref self)])) rfl rfl (hb hby d1_16)
  have Fw9 := F8.same W9
  have z9 : h9.size = h6.size := W9.size
  have N9 := Fr.snoc X9 N5 (by omega)
  have K9 : Keep h0 h9 [self] := K6.wr W9 (Or.inl (List.mem_of_getElem? (i := 0) rfl))
  refine Comes.st st9 ?_
  show Comes p e below _ (T9.setTop (mkF m 19 #[.val (.ref self), .val (.int zz)] []))
  refine Comes.st (fun t k => XS.aloadN X9.here hx rfl (hb hby d1_19) rfl rfl (XS.iloadN X9.here hx rfl (hb hby d1_20) rfl k)) ?_
  show Comes p e below _ (T9.setTop (mkF m 21 #[.val (.ref self), .val (.int zz)] [(.int zz), (.ref self)]))
  have F10 : Exa Z h9 self "com/example/tenorbook/tenorbook/engine/Ladder" := (F7.wr W9)
  have F11 : Fld Z h9 self "com/example/tenorbook/tenorbook/engine/Ladder" "lowestBest" "Z" (.int (0 : Int32)) := ((((G3.ext E2).other W5 (Or.inr (slot_ne (Or.inr (hw _ (List.mem_of_getElem? (i := 17) rfl))) (Or.inl (hw _ (List.mem_of_getElem? (i := 11) rfl))) (by decide) (t := .boolean) (t' := (.array .long)) (by decide) (by decide)))).ext E6).other W9 (Or.inr (slot_ne (Or.inr (hw _ (List.mem_of_getElem? (i := 17) rfl))) (Or.inl (hw _ (List.mem_of_getElem? (i := 15) rfl))) (by decide) (t := .boolean) (t' := (.array (.object "com/example/tenorbook/tenorbook/engine/Level"))) (by decide) (by decide))))
  obtain ⟨T12, h12, X12, e12, W12, st12⟩ := putFN X9 hx hZ hown (hw _ (List.mem_of_getElem? (i := 16) rfl)) Via.refl e9 F11 F10 (Or.inr ⟨(hw _ (List.mem_of_getElem? (i := 17) rfl)), rfl, hnm⟩) (hw _ (List.mem_of_getElem? (i := 1) rfl)) (ty := .boolean) (v' := (.int (nar .boolean zz))) (by decide) rfl (fits_nar_bool _) (g := (mkF m 21 #[.val (.ref self), .val (.int zz)] [(.int zz), (.ref self)])) rfl rfl (hb hby d1_21)
  have Fw12 := F11.same W12
  have z12 : h12.size = h9.size := W12.size
  have N12 := Fr.snoc X12 N9 (by omega)
  have K12 : Keep h0 h12 [self] := K9.wr W12 (Or.inl (List.mem_of_getElem? (i := 0) rfl))
  refine Comes.st st12 ?_
  show Comes p e below _ (T12.setTop (mkF m 24 #[.val (.ref self), .val (.int zz)] []))
  have F13 : Exa Z h12 self "com/example/tenorbook/tenorbook/engine/Ladder" := (F10.wr W12)
  have F14 : Fld Z h12 self "com/example/tenorbook/tenorbook/engine/Ladder" "ticks" "[J" (.ref b2) := (((Fw5.ext E6).other W9 (Or.inr (slot_ne (Or.inl (hw _ (List.mem_of_getElem? (i := 11) rfl))) (Or.inl (hw _ (List.mem_of_getElem? (i := 15) rfl))) (by decide) (t := (.array .long)) (t' := (.array (.object "com/example/tenorbook/tenorbook/engine/Level"))) (by decide) (by decide)))).other W12 (Or.inr (slot_ne (Or.inl (hw _ (List.mem_of_getElem? (i := 11) rfl))) (Or.inr (hw _ (List.mem_of_getElem? (i := 17) rfl))) (by decide) (t := (.array .long)) (t' := .boolean) (by decide) (by decide))))
  have F15 : Fld Z h12 self "com/example/tenorbook/tenorbook/engine/Ladder" "levels" "[Lcom/example/tenorbook/tenorbook/engine/Level;" (.ref b6) := (Fw9.other W12 (Or.inr (slot_ne (Or.inl (hw _ (List.mem_of_getElem? (i := 15) rfl))) (Or.inr (hw _ (List.mem_of_getElem? (i := 17) rfl))) (by decide) (t := (.array (.object "com/example/tenorbook/tenorbook/engine/Level"))) (t' := .boolean) (by decide) (by decide))))
  have F16 : Fld Z h12 self "com/example/tenorbook/tenorbook/engine/Ladder" "count" "I" (.int (0 : Int32)) := (((((G4.ext E2).other W5 (Or.inr (slot_ne (Or.inl (hw _ (List.mem_of_getElem? (i := 44) rfl))) (Or.inl (hw _ (List.mem_of_getElem? (i := 11) rfl))) (by decide) (t := .int) (t' := (.array .long)) (by decide) (by decide)))).ext E6).other W9 (Or.inr (slot_ne (Or.inl (hw _ (List.mem_of_getElem? (i := 44) rfl))) (Or.inl (hw _ (List.mem_of_getElem? (i := 15) rfl))) (by decide) (t := .int) (t' := (.array (.object "com/example/tenorbook/tenorbook/engine/Level"))) (by decide) (by decide)))).other W12 (Or.inr (slot_ne (Or.inl (hw _ (List.mem_of_getElem? (i := 44) rfl))) (Or.inr (hw _ (List.mem_of_getElem? (i := 17) rfl))) (by decide) (t := .int) (t' := .boolean) (by decide) (by decide))))
  have ne17 : b2 ≠ self := by omega
  have F18 : Arv Z h12 b2 k2 .long (4 : Int32) [(.long (0 : Int64)), (.long (0 : Int64)), (.long (0 : Int64)), (.long (0 : Int64))] (.long (0 : Int64)) := ((((V2.other W5 ne17).ext E6).other W9 ne17).other W12 ne17)
  have ne19 : b6 ≠ self := by omega
  have F20 : Arv Z h12 b6 k6 (.object "com/example/tenorbook/tenorbook/engine/Level") (4 : Int32) [.null, .null, .null, .null] .null := ((V6.other W9 ne19).other W12 ne19)
  have ne21 : b6 ≠ b2 := by omega
  exact Comes.ret0 X12 hx Bd.returns hlk (hb hby d1_24) e12 ⟨b2, b6, k2, k6, rfl, N12, K12, F13, F14, F15, Fw12, F16, F18, F20, O6, (by omega), (by omega), ne17, ne19, ne21, (by omega)⟩ (by decide) (by decide)
def Q_rm3 (Z : State) (lev : Nat) (xx : Int64) (h0 : Heap) (n0 : Nat) (v : Option Value) (h : Heap) (L : List Loc) : Prop := (v = none) ∧ (Fr n0 L) ∧ (Keep h0 h [lev]) ∧ (Exa Z h lev "com/example/tenorbook/tenorbook/engine/Level") ∧ (Fld Z h lev "com/example/tenorbook/tenorbook/engine/Level" "ticks" "J" (.long xx)) ∧ (Fld Z h lev "com/example/tenorbook/tenorbook/engine/Level" "ladder" "Lcom/example/tenorbook/tenorbook/engine/Ladder;" .null)
set_option maxRecDepth 65536 in
set_option maxHeartbeats 40000000 in
theorem rm3 (l : Launch) (Z : State) (a0 : Array Value) (hw : ∀ d ∈ tables_1, d.before a0 Z = true) (ws : List Jvm.Cond) (lev : Nat) (xx : Int64) (h0 : Heap) (n0 : Nat) (Z0 : n0 ≤ h0.size) (G0 : Exa Z h0 lev "com/example/tenorbook/tenorbook/engine/Level") (G1 : Fld Z h0 lev "com/example/tenorbook/tenorbook/engine/Level" "ticks" "J" (.long (0 : Int64))) (G2 : Fld Z h0 lev "com/example/tenorbook/tenorbook/engine/Level" "rate" "Ljava/math/BigDecimal;" .null) (G3 : Fld Z h0 lev "com/example/tenorbook/tenorbook/engine/Level" "ladder" "Lcom/example/tenorbook/tenorbook/engine/Ladder;" .null) (G4 : n0 ≤ lev) :
    MetFree l (⟨"com/example/tenorbook/tenorbook/engine/Level", "<init>", "(JLjava/math/BigDecimal;)V"⟩ : MethodName) (head1 (Jvm.Cond.code (⟨"com/example/tenorbook/tenorbook/engine/Level", "<init>", "(JLjava/math/BigDecimal;)V"⟩ : MethodName) prog_11_method_1_code 4 none :: ws) ({ frames := 1, cells := 0, slots := 0, locals := 12 } : Room)) (fun a U => a = #[(.ref lev), (.long xx), .null] ∧ Z.Warmed39 U.vm ∧ U.heap = h0) (fun _ _ _ _ _ => True) (fun _ U o U' => ∃ v L, o = .returned v ∧ Q_rm3 Z lev xx h0 n0 v U'.heap L ∧ FrameEnd U o U' L ({ frames := 1, cells := 0, slots := 0, locals := 12 } : Room).cells ({ frames := 1, cells := 0, slots := 0, locals := 12 } : Room).slots) := by
  refine MetFree.of_bodySF (plainFor_of_name pn_3) hisR ?_
  intro p e s m args below meth c s₁ Bd hml0 hP hK
  obtain ⟨rfl, hZ, hh⟩ := hP
  have hx := Bd.exec
  have hby := Bd.bytes
  have hml : c.maxLocals = 4 := hml0
  have hown : s.vm.findClass "com/example/tenorbook/tenorbook/engine/Level" = some m.cls := findClass_of_methodNamed Bd.named
  have hnm := (name_of_methodNamed Bd.named Bd.method).1
  have hlk : meth.locks = false := Bd.notSynchronized
  have X0 : Stand p l e ({ frames := 1, cells := 0, slots := 0, locals := 12 } : Room) s m #[(.ref lev), (.long xx), .null] below meth c s₁ [] 0 0 := Stand.of_body Bd
  have e0 : s₁.heap = h0 := by rw [← hh, Bd.state]; rfl
  have N0 := Fr.nil n0
  have K0 := Keep.refl h0 [lev]
  refine Comes.out (Q := Q_rm3 Z lev xx h0 n0) (kc := ({ frames := 1, cells := 0, slots := 0, locals := 12 } : Room).cells) (ks := ({ frames := 1, cells := 0, slots := 0, locals := 12 } : Room).slots) ?_
  refine Comes.cast (ef_rm3 m lev xx) ?_
  have lt_lev : lev < h0.size := G0.lt
  show Comes p e below _ (s₁.setTop (mkF m 0 #[.val (.ref lev), .val (.long xx), .second, .val .null] []))
  refine Comes.st (fun t k => XS.aloadN X0.here hx rfl (hb hby d3_0) rfl rfl k) ?_
  show Comes p e below _ (s₁.setTop (mkF m 1 #[.val (.ref lev), .val (.long xx), .second, .val .null] [(.ref lev)]))
  obtain ⟨T1, X1, e1, st1⟩ := initO X0 hx hZ hown (hw _ (List.mem_of_getElem? (i := 24) rfl)) (hw _ (List.mem_of_getElem? (i := 7) rfl)) (hw _ (List.mem_of_getElem? (i := 8) rfl)) e0 (g := (mkF m 1 #[.val (.ref lev), .val (.long xx), .second, .val .null] [(.ref lev)])) rfl (by rw [hml]; rfl) rfl (hb hby d3_1) (by decide) (W := 0) (by show 2 * 0 + _ ≤ _; exact Nat.le_of_eq rfl) (by decide)
  refine Comes.st st1 ?_
  show Comes p e below _ (T1.setTop (mkF m 4 #[.val (.ref lev), .val (.long xx), .second, .val .null] []))
  refine Comes.st (fun t k => XS.aloadN X1.here hx rfl (hb hby d3_4) rfl rfl (XS.lloadN X1.here hx rfl (hb hby d3_5) rfl k)) ?_
  show Comes p e below _ (T1.setTop (mkF m 6 #[.val (.ref lev), .val (.long xx), .second, .val .null] [(.long xx), (.ref lev)]))
  obtain ⟨T2, h2, X2, e2, W2, st2⟩ := putF X1 hx hZ hown (host := "") (Or.inl (hw _ (List.mem_of_getElem? (i := 25) rfl))) Via.refl e1 G1 G0 (Or.inr ⟨(hw _ (List.mem_of_getElem? (i := 26) rfl)), rfl, hnm⟩) (hw _ (List.mem_of_getElem? (i := 19) rfl)) (ty := .long) (by decide) rfl rfl (g := (mkF m 6 #[.val (.ref lev), .val (.long xx), .second, .val .null] [(.long xx), (.ref lev)])) rfl rfl (hb hby d3_6)
  have Fw2 := G1.same W2
  have z2 : h2.size = h0.size := W2.size
  have N2 := Fr.snoc X2 N0 (by omega)
  have K2 : Keep h0 h2 [lev] := K0.wr W2 (Or.inl (List.mem_of_getElem? (i := 0) rfl))
  refine Comes.st st2 ?_
  show Comes p e below _ (T2.setTop (mkF m 9 #[.val (.ref lev), .val (.long xx), .second, .val .null] []))
  refine Comes.st (fun t k => XS.aloadN X2.here hx rfl (hb hby d3_9) rfl rfl (XS.aloadN X2.here hx rfl (hb hby d3_10) rfl rfl k)) ?_
  show Comes p e below _ (T2.setTop (mkF m 11 #[.val (.ref lev), .val (.long xx), .second, .val .null] [.null, (.ref lev)]))
  have F3 : Exa Z h2 lev "com/example/tenorbook/tenorbook/engine/Level" := (G0.wr W2)
  have F4 : Fld Z h2 lev "com/example/tenorbook/tenorbook/engine/Level" "rate" "Ljava/math/BigDecimal;" .null := (G2.other W2 (Or.inr (slot_ne (Or.inr (hw _ (List.mem_of_getElem? (i := 28) rfl))) (Or.inr (hw _ (List.mem_of_getElem? (i := 26) rfl))) (by decide) (t := (.object "java/math/BigDecimal")) (t' := .long) (by decide) (by decide))))
  obtain ⟨T5, h5, X5, e5, W5, st5⟩ := putF X2 hx hZ hown (host := "") (Or.inl (hw _ (List.mem_of_getElem? (i := 27) rfl))) Via.refl e2 F4 F3 (Or.inr ⟨(hw _ (List.mem_of_getElem? (i := 28) rfl)), rfl, hnm⟩) (hw _ (List.mem_of_getElem? (i := 19) rfl)) (ty := (.object "java/math/BigDecimal")) (by decide) rfl rfl (g := (mkF m 11 #[.val (.ref lev), .val (.long xx), .second, .val .null] [.null, (.ref lev)])) rfl rfl (hb hby d3_11)
  have Fw5 := F4.same W5
  have z5 : h5.size = h2.size := W5.size
  have N5 := Fr.snoc X5 N2 (by omega)
  have K5 : Keep h0 h5 [lev] := K2.wr W5 (Or.inl (List.mem_of_getElem? (i := 0) rfl))
  refine Comes.st st5 ?_
  show Comes p e below _ (T5.setTop (mkF m 14 #[.val (.ref lev), .val (.long xx), .second, .val .null] []))
  have F6 : Exa Z h5 lev "com/example/tenorbook/tenorbook/engine/Level" := (F3.wr W5)
  have F7 : Fld Z h5 lev "com/example/tenorbook/tenorbook/engine/Level" "ticks" "J" (.long xx) := (Fw2.other W5 (Or.inr (slot_ne (Or.inr (hw _ (List.mem_of_getElem? (i := 26) rfl))) (Or.inr (hw _ (List.mem_of_getElem? (i := 28) rfl))) (by decide) (t := .long) (t' := (.object "java/math/BigDecimal")) (by decide) (by decide))))
  have F8 : Fld Z h5 lev "com/example/tenorbook/tenorbook/engine/Level" "ladder" "Lcom/example/tenorbook/tenorbook/engine/Ladder;" .null := ((G3.other W2 (Or.inr (slot_ne (Or.inl (hw _ (List.mem_of_getElem? (i := 51) rfl))) (Or.inr (hw _ (List.mem_of_getElem? (i := 26) rfl))) (by decide) (t := (.object "com/example/tenorbook/tenorbook/engine/Ladder")) (t' := .long) (by decide) (by decide)))).other W5 (Or.inr (slot_ne (Or.inl (hw _ (List.mem_of_getElem? (i := 51) rfl))) (Or.inr (hw _ (List.mem_of_getElem? (i := 28) rfl))) (by decide) (t := (.object "com/example/tenorbook/tenorbook/engine/Ladder")) (t' := (.object "java/math/BigDecimal")) (by decide) (by decide))))
  exact Comes.ret0 X5 hx Bd.returns hlk (hb hby d3_14) e5 ⟨rfl, N5, K5, F6, F7, F8⟩ (by decide) (by decide)
def Q_rm5 (Z : State) (lev : Nat) (xx : Int64) (h0 : Heap) (n0 : Nat) (v : Option Value) (h : Heap) (L : List Loc) : Prop := (v = some (.long xx)) ∧ (Fr n0 L) ∧ (h = h0)
set_option maxRecDepth 65536 in
set_option maxHeartbeats 40000000 in
theorem rm5 (l : Launch) (Z : State) (a0 : Array Value) (hw : ∀ d ∈ tables_1, d.before a0 Z = true) (ws : List Jvm.Cond) (lev : Nat) (xx : Int64) (h0 : Heap) (n0 : Nat) (Z0 : n0 ≤ h0.size) (G0 : Fld Z h0 lev "com/example/tenorbook/tenorbook/engine/Level" "ticks" "J" (.long xx)) :
    MetFree l (⟨"com/example/tenorbook/tenorbook/engine/Level", "ticks", "()J"⟩ : MethodName) (head1 (Jvm.Cond.code (⟨"com/example/tenorbook/tenorbook/engine/Level", "ticks", "()J"⟩ : MethodName) prog_11_method_2_code 1 (some .long) :: ws) ({ frames := 0, cells := 0, slots := 0, locals := 0 } : Room)) (fun a U => a = #[(.ref lev)] ∧ Z.Warmed39 U.vm ∧ U.heap = h0) (fun _ _ _ _ _ => True) (fun _ U o U' => ∃ v L, o = .returned v ∧ Q_rm5 Z lev xx h0 n0 v U'.heap L ∧ FrameEnd U o U' L ({ frames := 0, cells := 0, slots := 0, locals := 0 } : Room).cells ({ frames := 0, cells := 0, slots := 0, locals := 0 } : Room).slots) := by
  refine MetFree.of_bodySF (plainFor_of_name pn_5) hisR ?_
  intro p e s m args below meth c s₁ Bd hml0 hP hK
  obtain ⟨rfl, hZ, hh⟩ := hP
  have hx := Bd.exec
  have hby := Bd.bytes
  have hml : c.maxLocals = 1 := hml0
  have hown : s.vm.findClass "com/example/tenorbook/tenorbook/engine/Level" = some m.cls := findClass_of_methodNamed Bd.named
  have hnm := (name_of_methodNamed Bd.named Bd.method).1
  have hlk : meth.locks = false := Bd.notSynchronized
  have X0 : Stand p l e ({ frames := 0, cells := 0, slots := 0, locals := 0 } : Room) s m #[(.ref lev)] below meth c s₁ [] 0 0 := Stand.of_body Bd
  have e0 : s₁.heap = h0 := by rw [← hh, Bd.state]; rfl
  have N0 := Fr.nil n0
  refine Comes.out (Q := Q_rm5 Z lev xx h0 n0) (kc := ({ frames := 0, cells := 0, slots := 0, locals := 0 } : Room).cells) (ks := ({ frames := 0, cells := 0, slots := 0, locals := 0 } : Room).slots) ?_
  refine Comes.cast (ef_rm5 m lev) ?_
  have lt_lev : lev < h0.size := G0.lt
  show Comes p e below _ (s₁.setTop (mkF m 0 #[.val (.ref lev)] []))
  refine Comes.st (fun t k => XS.aloadN X0.here hx rfl (hb hby d5_0) rfl rfl k) ?_
  show Comes p e below _ (s₁.setTop (mkF m 1 #[.val (.ref lev)] [(.ref lev)]))
  obtain ⟨T1, X1, e1, st1⟩ := getF X0 hx hZ hown (host := "") (Or.inl (hw _ (List.mem_of_getElem? (i := 25) rfl))) Via.refl e0 G0 (g := (mkF m 1 #[.val (.ref lev)] [(.ref lev)])) rfl rfl (hb hby d5_1)
  refine Comes.st st1 ?_
  show Comes p e below _ (T1.setTop (mkF m 4 #[.val (.ref lev)] [(.long xx)]))
  exact Comes.retV X1 hx Bd.returns rfl (Or.inr (Or.inl ⟨rfl, rfl, _, rfl⟩)) hlk (hb hby d5_4) e1 ⟨rfl, N0, rfl⟩ (by decide) (by decide)
def Q_rm7 (Z : State) (self : Nat) (xx : Int64) (yy : Int64) (lbv : Int32) (h0 : Heap) (n0 : Nat) (v : Option Value) (h : Heap) (L : List Loc) : Prop := ∃ (r : Int32), (v = some (.int r)) ∧ (Fr n0 L) ∧ (h = h0) ∧ ((own_key lbv xx < own_key lbv yy ∧ r = (1 : Int32)) ∨ (¬ (own_key lbv xx < own_key lbv yy) ∧ r = (0 : Int32)))
set_option maxRecDepth 65536 in
set_option maxHeartbeats 40000000 in
theorem rm7 (l : Launch) (Z : State) (a0 : Array Value) (hw : ∀ d ∈ tables_1, d.before a0 Z = true) (ws : List Jvm.Cond) (self : Nat) (xx : Int64) (yy : Int64) (lbv : Int32) (h0 : Heap) (n0 : Nat) (Z0 : n0 ≤ h0.size) (G0 : Fld Z h0 self "com/example/tenorbook/tenorbook/engine/Ladder" "lowestBest" "Z" (.int lbv)) :
    MetFree l (⟨"com/example/tenorbook/tenorbook/engine/Ladder", "worse", "(JJ)Z"⟩ : MethodName) (head1 (Jvm.Cond.code (⟨"com/example/tenorbook/tenorbook/engine/Ladder", "worse", "(JJ)Z"⟩ : MethodName) prog_9_method_9_code 5 (some .boolean) :: ws) ({ frames := 0, cells := 0, slots := 0, locals := 0 } : Room)) (fun a U => a = #[(.ref self), (.long xx), (.long yy)] ∧ Z.Warmed39 U.vm ∧ U.heap = h0) (fun _ _ _ _ _ => True) (fun _ U o U' => ∃ v L, o = .returned v ∧ Q_rm7 Z self xx yy lbv h0 n0 v U'.heap L ∧ FrameEnd U o U' L ({ frames := 0, cells := 0, slots := 0, locals := 0 } : Room).cells ({ frames := 0, cells := 0, slots := 0, locals := 0 } : Room).slots) := by
  refine MetFree.of_bodySF (plainFor_of_name pn_7) hisR ?_
  intro p e s m args below meth c s₁ Bd hml0 hP hK
  obtain ⟨rfl, hZ, hh⟩ := hP
  have hx := Bd.exec
  have hby := Bd.bytes
  have hml : c.maxLocals = 5 := hml0
  have hown : s.vm.findClass "com/example/tenorbook/tenorbook/engine/Ladder" = some m.cls := findClass_of_methodNamed Bd.named
  have hnm := (name_of_methodNamed Bd.named Bd.method).1
  have hlk : meth.locks = false := Bd.notSynchronized
  have X0 : Stand p l e ({ frames := 0, cells := 0, slots := 0, locals := 0 } : Room) s m #[(.ref self), (.long xx), (.long yy)] below meth c s₁ [] 0 0 := Stand.of_body Bd
  have e0 : s₁.heap = h0 := by rw [← hh, Bd.state]; rfl
  have N0 := Fr.nil n0
  refine Comes.out (Q := Q_rm7 Z self xx yy lbv h0 n0) (kc := ({ frames := 0, cells := 0, slots := 0, locals := 0 } : Room).cells) (ks := ({ frames := 0, cells := 0, slots := 0, locals := 0 } : Room).slots) ?_
  refine Comes.cast (ef_rm7 m self xx yy) ?_
  have lt_self : self < h0.size := G0.lt
  show Comes p e below _ (s₁.setTop (mkF m 0 #[.val (.ref self), .val (.long xx), .second, .val (.long yy), .second] []))
  refine Comes.st (fun t k => XS.aloadN X0.here hx rfl (hb hby d7_0) rfl rfl k) ?_
  show Comes p e below _ (s₁.setTop (mkF m 1 #[.val (.ref self), .val (.long xx), .second, .val (.long yy), .second] [(.ref self)]))
  obtain ⟨T1, X1, e1, st1⟩ := getF X0 hx hZ hown (host := "") (Or.inl (hw _ (List.mem_of_getElem? (i := 16) rfl))) Via.refl e0 G0 (g := (mkF m 1 #[.val (.ref self), .val (.long xx), .second, .val (.long yy), .second] [(.ref self)])) rfl rfl (hb hby d7_1)
  refine Comes.st st1 ?_
  show Comes p e below _ (T1.setTop (mkF m 4 #[.val (.ref self), .val (.long xx), .second, .val (.long yy), .second] [(.int lbv)]))
  by_cases hc4_2 : lbv = (0 : Int32)
  · refine Comes.st (fun t k => XS.ifYes X1.here hx rfl (pc0 := 4) (pc' := 21) rfl (hb hby d7_4) rfl ((if0 _ _).trans (teq hc4_2).1) (by decide) (by decide) (XS.lloadN X1.here hx rfl (hb hby d7_21) rfl (XS.lloadN X1.here hx rfl (hb hby d7_22) rfl (XS.lcmp X1.here hx rfl (hb hby d7_23) rfl k)))) ?_
    show Comes p e below _ (T1.setTop (mkF m 24 #[.val (.ref self), .val (.long xx), .second, .val (.long yy), .second] [(.int (lcmpW xx yy))]))
    by_cases hc24_3 : xx < yy
    · refine Comes.st (fun t k => XS.ifNo X1.here hx rfl (hb hby d7_24) rfl ((if0 _ _).trans (tlt ((lw_lt _ _).mpr hc24_3)).2.1) (XS.iconst X1.here hx rfl (hb hby d7_27) (XS.goto X1.here hx rfl (pc0 := 28) (pc' := 32) rfl (hb hby d7_28) (by decide) (by decide) k))) ?_
      show Comes p e below _ (T1.setTop (mkF m 32 #[.val (.ref self), .val (.long xx), .second, .val (.long yy), .second] [(.int (1 : Int32))]))
      exact Comes.retN X1 hx (t := .boolean) Bd.returns (by simp) hlk (hb hby d7_32) e1 ⟨(1 : Int32), rfl, N0, rfl, (by rw [own_key0 hc4_2]; have q := hc24_3; rw [Int64.lt_iff_toInt_lt] at q; first | exact Or.inl ⟨q, rfl⟩ | exact Or.inr ⟨q, rfl⟩)⟩ (by decide) (by decide)
    · refine Comes.st (fun t k => XS.ifYes X1.here hx rfl (pc0 := 24) (pc' := 31) rfl (hb hby d7_24) rfl ((if0 _ _).trans (flt (fun q => hc24_3 ((lw_lt _ _).mp q))).2.1) (by decide) (by decide) (XS.iconst X1.here hx rfl (hb hby d7_31) k)) ?_
      show Comes p e below _ (T1.setTop (mkF m 32 #[.val (.ref self), .val (.long xx), .second, .val (.long yy), .second] [(.int (0 : Int32))]))
      exact Comes.retN X1 hx (t := .boolean) Bd.returns (by simp) hlk (hb hby d7_32) e1 ⟨(0 : Int32), rfl, N0, rfl, (by rw [own_key0 hc4_2]; have q := hc24_3; rw [Int64.lt_iff_toInt_lt] at q; first | exact Or.inl ⟨q, rfl⟩ | exact Or.inr ⟨q, rfl⟩)⟩ (by decide) (by decide)
  · refine Comes.st (fun t k => XS.ifNo X1.here hx rfl (hb hby d7_4) rfl ((if0 _ _).trans (feq hc4_2).1) (XS.lloadN X1.here hx rfl (hb hby d7_7) rfl (XS.lloadN X1.here hx rfl (hb hby d7_8) rfl (XS.lcmp X1.here hx rfl (hb hby d7_9) rfl k)))) ?_
    show Comes p e below _ (T1.setTop (mkF m 10 #[.val (.ref self), .val (.long xx), .second, .val (.long yy), .second] [(.int (lcmpW xx yy))]))
    by_cases hc10_4 : yy < xx
    · refine Comes.st (fun t k => XS.ifNo X1.here hx rfl (hb hby d7_10) rfl ((if0 _ _).trans (tlt ((lw_gt _ _).mpr hc10_4)).2.2.2) (XS.iconst X1.here hx rfl (hb hby d7_13) (XS.goto X1.here hx rfl (pc0 := 14) (pc' := 32) rfl (hb hby d7_14) (by decide) (by decide) k))) ?_
      show Comes p e below _ (T1.setTop (mkF m 32 #[.val (.ref self), .val (.long xx), .second, .val (.long yy), .second] [(.int (1 : Int32))]))
      exact Comes.retN X1 hx (t := .boolean) Bd.returns (by simp) hlk (hb hby d7_32) e1 ⟨(1 : Int32), rfl, N0, rfl, (by rw [own_key1 hc4_2]; have q := hc10_4; rw [Int64.lt_iff_toInt_lt] at q; first | exact Or.inl ⟨q, rfl⟩ | exact Or.inr ⟨q, rfl⟩)⟩ (by decide) (by decide)
    · refine Comes.st (fun t k => XS.ifYes X1.here hx rfl (pc0 := 10) (pc' := 17) rfl (hb hby d7_10) rfl ((if0 _ _).trans (flt (fun q => hc10_4 ((lw_gt _ _).mp q))).2.2.2) (by decide) (by decide) (XS.iconst X1.here hx rfl (hb hby d7_17) (XS.goto X1.here hx rfl (pc0 := 18) (pc' := 32) rfl (hb hby d7_18) (by decide) (by decide) k))) ?_
      show Comes p e below _ (T1.setTop (mkF m 32 #[.val (.ref self), .val (.long xx), .second, .val (.long yy), .second] [(.int (0 : Int32))]))
      exact Comes.retN X1 hx (t := .boolean) Bd.returns (by simp) hlk (hb hby d7_32) e1 ⟨(0 : Int32), rfl, N0, rfl, (by rw [own_key1 hc4_2]; have q := hc10_4; rw [Int64.lt_iff_toInt_lt] at q; first | exact Or.inl ⟨q, rfl⟩ | exact Or.inr ⟨q, rfl⟩)⟩ (by decide) (by decide)
def Q_rm8 (Z : State) (xx : Int64) (yy : Int64) (lbb : Int32) (h0 : Heap) (n0 : Nat) (v : Option Value) (h : Heap) (L : List Loc) : Prop := ∃ (r : Int32), (v = some (.int r)) ∧ (Fr n0 L) ∧ (h = h0) ∧ ((own_key lbb yy < own_key lbb xx ∧ r = (1 : Int32)) ∨ (¬ (own_key lbb yy < own_key lbb xx) ∧ r = (0 : Int32)))
set_option maxRecDepth 65536 in
set_option maxHeartbeats 40000000 in
theorem rm8 (l : Launch) (Z : State) (a0 : Array Value) (hw : ∀ d ∈ tables_1, d.before a0 Z = true) (ws : List Jvm.Cond) (xx : Int64) (yy : Int64) (lbb : Int32) (h0 : Heap) (n0 : Nat) (Z0 : n0 ≤ h0.size) :
    MetFree l (⟨"com/example/tenorbook/tenorbook/engine/LadderBestPinLaw", "better", "(JJZ)Z"⟩ : MethodName) (head1 (Jvm.Cond.code (⟨"com/example/tenorbook/tenorbook/engine/LadderBestPinLaw", "better", "(JJZ)Z"⟩ : MethodName) method_2_code 5 (some .boolean) :: ws) ({ frames := 0, cells := 0, slots := 0, locals := 0 } : Room)) (fun a U => a = #[(.long xx), (.long yy), (.int lbb)] ∧ Z.Warmed39 U.vm ∧ U.heap = h0) (fun _ _ _ _ _ => True) (fun _ U o U' => ∃ v L, o = .returned v ∧ Q_rm8 Z xx yy lbb h0 n0 v U'.heap L ∧ FrameEnd U o U' L ({ frames := 0, cells := 0, slots := 0, locals := 0 } : Room).cells ({ frames := 0, cells := 0, slots := 0, locals := 0 } : Room).slots) := by
  refine MetFree.of_bodySF (plainFor_of_name pn_8) hisR ?_
  intro p e s m args below meth c s₁ Bd hml0 hP hK
  obtain ⟨rfl, hZ, hh⟩ := hP
  have hx := Bd.exec
  have hby := Bd.bytes
  have hml : c.maxLocals = 5 := hml0
  have hown : s.vm.findClass "com/example/tenorbook/tenorbook/engine/LadderBestPinLaw" = some m.cls := findClass_of_methodNamed Bd.named
  have hnm := (name_of_methodNamed Bd.named Bd.method).1
  have hlk : meth.locks = false := Bd.notSynchronized
  have X0 : Stand p l e ({ frames := 0, cells := 0, slots := 0, locals := 0 } : Room) s m #[(.long xx), (.long yy), (.int lbb)] below meth c s₁ [] 0 0 := Stand.of_body Bd
  have e0 : s₁.heap = h0 := by rw [← hh, Bd.state]; rfl
  have N0 := Fr.nil n0
  refine Comes.out (Q := Q_rm8 Z xx yy lbb h0 n0) (kc := ({ frames := 0, cells := 0, slots := 0, locals := 0 } : Room).cells) (ks := ({ frames := 0, cells := 0, slots := 0, locals := 0 } : Room).slots) ?_
  refine Comes.cast (ef_rm8 m xx yy lbb) ?_
  show Comes p e below _ (s₁.setTop (mkF m 0 #[.val (.long xx), .second, .val (.long yy), .second, .val (.int lbb)] []))
  refine Comes.st (fun t k => XS.iload X0.here hx rfl (hb hby d8_0) rfl k) ?_
  show Comes p e below _ (s₁.setTop (mkF m 2 #[.val (.long xx), .second, .val (.long yy), .second, .val (.int lbb)] [(.int lbb)]))
  by_cases hc2_1 : lbb = (0 : Int32)
  · refine Comes.st (fun t k => XS.ifYes X0.here hx rfl (pc0 := 2) (pc' := 19) rfl (hb hby d8_2) rfl ((if0 _ _).trans (teq hc2_1).1) (by decide) (by decide) (XS.lloadN X0.here hx rfl (hb hby d8_19) rfl (XS.lloadN X0.here hx rfl (hb hby d8_20) rfl (XS.lcmp X0.here hx rfl (hb hby d8_21) rfl k)))) ?_
    show Comes p e below _ (s₁.setTop (mkF m 22 #[.val (.long xx), .second, .val (.long yy), .second, .val (.int lbb)] [(.int (lcmpW xx yy))]))
    by_cases hc22_2 : yy < xx
    · refine Comes.st (fun t k => XS.ifNo X0.here hx rfl (hb hby d8_22) rfl ((if0 _ _).trans (tlt ((lw_gt _ _).mpr hc22_2)).2.2.2) (XS.iconst X0.here hx rfl (hb hby d8_25) (XS.goto X0.here hx rfl (pc0 := 26) (pc' := 30) rfl (hb hby d8_26) (by decide) (by decide) k))) ?_
      show Comes p e below _ (s₁.setTop (mkF m 30 #[.val (.long xx), .second, .val (.long yy), .second, .val (.int lbb)] [(.int (1 : Int32))]))
      exact Comes.retN X0 hx (t := .boolean) Bd.returns (by simp) hlk (hb hby d8_30) e0 ⟨(1 : Int32), rfl, N0, rfl, (by rw [own_key0 hc2_1]; have q := hc22_2; rw [Int64.lt_iff_toInt_lt] at q; first | exact Or.inl ⟨q, rfl⟩ | exact Or.inr ⟨q, rfl⟩)⟩ (by decide) (by decide)
    · refine Comes.st (fun t k => XS.ifYes X0.here hx rfl (pc0 := 22) (pc' := 29) rfl (hb hby d8_22) rfl ((if0 _ _).trans (flt (fun q => hc22_2 ((lw_gt _ _).mp q))).2.2.2) (by decide) (by decide) (XS.iconst X0.here hx rfl (hb hby d8_29) k)) ?_
      show Comes p e below _ (s₁.setTop (mkF m 30 #[.val (.long xx), .second, .val (.long yy), .second, .val (.int lbb)] [(.int (0 : Int32))]))
      exact Comes.retN X0 hx (t := .boolean) Bd.returns (by simp) hlk (hb hby d8_30) e0 ⟨(0 : Int32), rfl, N0, rfl, (by rw [own_key0 hc2_1]; have q := hc22_2; rw [Int64.lt_iff_toInt_lt] at q; first | exact Or.inl ⟨q, rfl⟩ | exact Or.inr ⟨q, rfl⟩)⟩ (by decide) (by decide)
  · refine Comes.st (fun t k => XS.ifNo X0.here hx rfl (hb hby d8_2) rfl ((if0 _ _).trans (feq hc2_1).1) (XS.lloadN X0.here hx rfl (hb hby d8_5) rfl (XS.lloadN X0.here hx rfl (hb hby d8_6) rfl (XS.lcmp X0.here hx rfl (hb hby d8_7) rfl k)))) ?_
    show Comes p e below _ (s₁.setTop (mkF m 8 #[.val (.long xx), .second, .val (.long yy), .second, .val (.int lbb)] [(.int (lcmpW xx yy))]))
    by_cases hc8_3 : xx < yy
    · refine Comes.st (fun t k => XS.ifNo X0.here hx rfl (hb hby d8_8) rfl ((if0 _ _).trans (tlt ((lw_lt _ _).mpr hc8_3)).2.1) (XS.iconst X0.here hx rfl (hb hby d8_11) (XS.goto X0.here hx rfl (pc0 := 12) (pc' := 30) rfl (hb hby d8_12) (by decide) (by decide) k))) ?_
      show Comes p e below _ (s₁.setTop (mkF m 30 #[.val (.long xx), .second, .val (.long yy), .second, .val (.int lbb)] [(.int (1 : Int32))]))
      exact Comes.retN X0 hx (t := .boolean) Bd.returns (by simp) hlk (hb hby d8_30) e0 ⟨(1 : Int32), rfl, N0, rfl, (by rw [own_key1 hc2_1]; have q := hc8_3; rw [Int64.lt_iff_toInt_lt] at q; first | exact Or.inl ⟨q, rfl⟩ | exact Or.inr ⟨q, rfl⟩)⟩ (by decide) (by decide)
    · refine Comes.st (fun t k => XS.ifYes X0.here hx rfl (pc0 := 8) (pc' := 15) rfl (hb hby d8_8) rfl ((if0 _ _).trans (flt (fun q => hc8_3 ((lw_lt _ _).mp q))).2.1) (by decide) (by decide) (XS.iconst X0.here hx rfl (hb hby d8_15) (XS.goto X0.here hx rfl (pc0 := 16) (pc' := 30) rfl (hb hby d8_16) (by decide) (by decide) k))) ?_
      show Comes p e below _ (s₁.setTop (mkF m 30 #[.val (.long xx), .second, .val (.long yy), .second, .val (.int lbb)] [(.int (0 : Int32))]))
      exact Comes.retN X0 hx (t := .boolean) Bd.returns (by simp) hlk (hb hby d8_30) e0 ⟨(0 : Int32), rfl, N0, rfl, (by rw [own_key1 hc2_1]; have q := hc8_3; rw [Int64.lt_iff_toInt_lt] at q; first | exact Or.inl ⟨q, rfl⟩ | exact Or.inr ⟨q, rfl⟩)⟩ (by decide) (by decide)
def Q_find0 (Z : State) (self : Nat) (xx : Int64) (lbv : Int32) (ta : Nat) (kt : ClassId) (h0 : Heap) (n0 : Nat) (v : Option Value) (h : Heap) (L : List Loc) : Prop := ∃ (r : Int32), (v = some (.int r)) ∧ (Fr n0 L) ∧ (h = h0) ∧ ((r = (-1 : Int32)))
set_option maxRecDepth 65536 in
set_option maxHeartbeats 40000000 in
theorem find0 (l : Launch) (Z : State) (a0 : Array Value) (hw : ∀ d ∈ tables_1, d.before a0 Z = true) (ws : List Jvm.Cond) (self : Nat) (xx : Int64) (lbv : Int32) (ta : Nat) (kt : ClassId) (h0 : Heap) (n0 : Nat) (Z0 : n0 ≤ h0.size) (G0 : Exa Z h0 self "com/example/tenorbook/tenorbook/engine/Ladder") (G1 : Fld Z h0 self "com/example/tenorbook/tenorbook/engine/Ladder" "ticks" "[J" (.ref ta)) (G2 : Fld Z h0 self "com/example/tenorbook/tenorbook/engine/Ladder" "lowestBest" "Z" (.int lbv)) (G3 : Fld Z h0 self "com/example/tenorbook/tenorbook/engine/Ladder" "count" "I" (.int (0 : Int32))) (G4 : Arv Z h0 ta kt .long (4 : Int32) [(.long (0 : Int64)), (.long (0 : Int64)), (.long (0 : Int64)), (.long (0 : Int64))] (.long (0 : Int64))) :
    MetFree l (⟨"com/example/tenorbook/tenorbook/engine/Ladder", "find", "(J)I"⟩ : MethodName) (head1 (Jvm.Cond.code (⟨"com/example/tenorbook/tenorbook/engine/Ladder", "find", "(J)I"⟩ : MethodName) prog_9_method_8_code 8 (some .int) :: ws) ({ frames := 0, cells := 0, slots := 0, locals := 0 } : Room)) (fun a U => a = #[(.ref self), (.long xx)] ∧ Z.Warmed39 U.vm ∧ U.heap = h0) (fun _ _ _ _ _ => True) (fun _ U o U' => ∃ v L, o = .returned v ∧ Q_find0 Z self xx lbv ta kt h0 n0 v U'.heap L ∧ FrameEnd U o U' L ({ frames := 0, cells := 0, slots := 0, locals := 0 } : Room).cells ({ frames := 0, cells := 0, slots := 0, locals := 0 } : Room).slots) := by
  refine MetFree.of_bodySF (plainFor_of_name pn_6) hisR ?_
  intro p e s m args below meth c s₁ Bd hml0 hP hK
  obtain ⟨rfl, hZ, hh⟩ := hP
  have hx := Bd.exec
  have hby := Bd.bytes
  have hml : c.maxLocals = 8 := hml0
  have hown : s.vm.findClass "com/example/tenorbook/tenorbook/engine/Ladder" = some m.cls := findClass_of_methodNamed Bd.named
  have hnm := (name_of_methodNamed Bd.named Bd.method).1
  have hlk : meth.locks = false := Bd.notSynchronized
  have X0 : Stand p l e ({ frames := 0, cells := 0, slots := 0, locals := 0 } : Room) s m #[(.ref self), (.long xx)] below meth c s₁ [] 0 0 := Stand.of_body Bd
  have e0 : s₁.heap = h0 := by rw [← hh, Bd.state]; rfl
  have N0 := Fr.nil n0
  refine Comes.out (Q := Q_find0 Z self xx lbv ta kt h0 n0) (kc := ({ frames := 0, cells := 0, slots := 0, locals := 0 } : Room).cells) (ks := ({ frames := 0, cells := 0, slots := 0, locals := 0 } : Room).slots) ?_
  refine Comes.cast (ef_find0 m self xx) ?_
  have lt_self : self < h0.size := G0.lt
  have lt_ta : ta < h0.size := G4.lt
  show Comes p e below _ (s₁.setTop (mkF m 0 #[.val (.ref self), .val (.long xx), .second, .unset, .unset, .unset, .unset, .unset] []))
  refine Comes.st (fun t k => XS.iconst X0.here hx rfl (hb hby d6_0) (XS.istoreN X0.here hx rfl (hb hby d6_1) rfl (l' := #[.val (.ref self), .val (.long xx), .second, .val (.int (0 : Int32)), .unset, .unset, .unset, .unset]) rfl (XS.aloadN X0.here hx rfl (hb hby d6_2) rfl rfl k))) ?_
  show Comes p e below _ (s₁.setTop (mkF m 3 #[.val (.ref self), .val (.long xx), .second, .val (.int (0 : Int32)), .unset, .unset, .unset, .unset] [(.ref self)]))
  obtain ⟨T1, X1, e1, st1⟩ := getF X0 hx hZ hown (host := "") (Or.inl (hw _ (List.mem_of_getElem? (i := 43) rfl))) Via.refl e0 G3 (g := (mkF m 3 #[.val (.ref self), .val (.long xx), .second, .val (.int (0 : Int32)), .unset, .unset, .unset, .unset] [(.ref self)])) rfl rfl (hb hby d6_3)
  refine Comes.st st1 ?_
  show Comes p e below _ (T1.setTop (mkF m 6 #[.val (.ref self), .val (.long xx), .second, .val (.int (0 : Int32)), .unset, .unset, .unset, .unset] [(.int (0 : Int32))]))
  refine Comes.st (fun t k => XS.iconst X1.here hx rfl (hb hby d6_6) (XS.isub X1.here hx rfl (hb hby d6_7) rfl k)) ?_
  show Comes p e below _ (T1.setTop (mkF m 8 #[.val (.ref self), .val (.long xx), .second, .val (.int (0 : Int32)), .unset, .unset, .unset, .unset] [(.int ((0 : Int32) - (1 : Int32)))]))
  rw [show ((0 : Int32) - (1 : Int32)) = (-1 : Int32) from by decide]
  show Comes p e below _ (T1.setTop (mkF m 8 #[.val (.ref self), .val (.long xx), .second, .val (.int (0 : Int32)), .unset, .unset, .unset, .unset] [(.int (-1 : Int32))]))
  refine Comes.st (fun t k => XS.istore X1.here hx rfl (hb hby d6_8) rfl (l' := #[.val (.ref self), .val (.long xx), .second, .val (.int (0 : Int32)), .val (.int (-1 : Int32)), .unset, .unset, .unset]) rfl (XS.iload X1.here hx rfl (hb hby d6_10) rfl k)) ?_
  show Comes p e below _ (T1.setTop (mkF m 12 #[.val (.ref self), .val (.long xx), .second, .val (.int (0 : Int32)), .val (.int (-1 : Int32)), .unset, .unset, .unset] [(.int (-1 : Int32))]))
  have hc12_2 : (-1 : Int32) < (0 : Int32) := by decide
  refine Comes.st (fun t k => XS.ifYes X1.here hx rfl (pc0 := 12) (pc' := 33) rfl (hb hby d6_12) rfl ((if0 _ _).trans (tlt hc12_2).1) (by decide) (by decide) (XS.iloadN X1.here hx rfl (hb hby d6_33) rfl (XS.iload X1.here hx rfl (hb hby d6_34) rfl k))) ?_
  show Comes p e below _ (T1.setTop (mkF m 36 #[.val (.ref self), .val (.long xx), .second, .val (.int (0 : Int32)), .val (.int (-1 : Int32)), .unset, .unset, .unset] [(.int (-1 : Int32)), (.int (0 : Int32))]))
  have hc36_3 : (-1 : Int32) < (0 : Int32) := by decide
  refine Comes.st (fun t k => XS.icmpYes X1.here hx rfl (pc0 := 36) (pc' := 93) rfl (hb hby d6_36) rfl (tlt hc36_3).2.2.1 (by decide) (by decide) (XS.iloadN X1.here hx rfl (hb hby d6_93) rfl (XS.ineg X1.here hx rfl (hb hby d6_94) rfl k))) ?_
  show Comes p e below _ (T1.setTop (mkF m 95 #[.val (.ref self), .val (.long xx), .second, .val (.int (0 : Int32)), .val (.int (-1 : Int32)), .unset, .unset, .unset] [(.int (-(0 : Int32)))]))
  rw [show (-(0 : Int32)) = (0 : Int32) from by decide]
  show Comes p e below _ (T1.setTop (mkF m 95 #[.val (.ref self), .val (.long xx), .second, .val (.int (0 : Int32)), .val (.int (-1 : Int32)), .unset, .unset, .unset] [(.int (0 : Int32))]))
  refine Comes.st (fun t k => XS.iconst X1.here hx rfl (hb hby d6_95) (XS.isub X1.here hx rfl (hb hby d6_96) rfl k)) ?_
  show Comes p e below _ (T1.setTop (mkF m 97 #[.val (.ref self), .val (.long xx), .second, .val (.int (0 : Int32)), .val (.int (-1 : Int32)), .unset, .unset, .unset] [(.int ((0 : Int32) - (1 : Int32)))]))
  rw [show ((0 : Int32) - (1 : Int32)) = (-1 : Int32) from by decide]
  show Comes p e below _ (T1.setTop (mkF m 97 #[.val (.ref self), .val (.long xx), .second, .val (.int (0 : Int32)), .val (.int (-1 : Int32)), .unset, .unset, .unset] [(.int (-1 : Int32))]))
  exact Comes.retV X1 hx Bd.returns rfl (Or.inl ⟨rfl, Or.inl rfl, _, rfl⟩) hlk (hb hby d6_97) e1 ⟨(-1 : Int32), rfl, N0, rfl, (by exact rfl)⟩ (by decide) (by decide)
def Q_find1 (Z : State) (self : Nat) (xx : Int64) (lbv : Int32) (ta : Nat) (kt : ClassId) (x0 : Int64) (h0 : Heap) (n0 : Nat) (v : Option Value) (h : Heap) (L : List Loc) : Prop := ∃ (r : Int32), (v = some (.int r)) ∧ (Fr n0 L) ∧ (h = h0) ∧ ((r = (-1 : Int32) ∧ own_key lbv xx < own_key lbv x0) ∨ (r = (-2 : Int32) ∧ own_key lbv x0 < own_key lbv xx))
set_option maxRecDepth 65536 in
set_option maxHeartbeats 40000000 in
theorem find1 (l : Launch) (Z : State) (a0 : Array Value) (hw : ∀ d ∈ tables_1, d.before a0 Z = true) (ws : List Jvm.Cond) (self : Nat) (xx : Int64) (lbv : Int32) (ta : Nat) (kt : ClassId) (x0 : Int64) (h0 : Heap) (n0 : Nat) (Z0 : n0 ≤ h0.size) (G0 : Exa Z h0 self "com/example/tenorbook/tenorbook/engine/Ladder") (G1 : Fld Z h0 self "com/example/tenorbook/tenorbook/engine/Ladder" "ticks" "[J" (.ref ta)) (G2 : Fld Z h0 self "com/example/tenorbook/tenorbook/engine/Ladder" "lowestBest" "Z" (.int lbv)) (G3 : Fld Z h0 self "com/example/tenorbook/tenorbook/engine/Ladder" "count" "I" (.int (1 : Int32))) (G4 : Arv Z h0 ta kt .long (4 : Int32) [(.long x0), (.long (0 : Int64)), (.long (0 : Int64)), (.long (0 : Int64))] (.long (0 : Int64))) (G5 : ¬ x0 = xx) :
    MetFree l (⟨"com/example/tenorbook/tenorbook/engine/Ladder", "find", "(J)I"⟩ : MethodName) (head1 (Jvm.Cond.code (⟨"com/example/tenorbook/tenorbook/engine/Ladder", "find", "(J)I"⟩ : MethodName) prog_9_method_8_code 8 (some .int) :: ws) ({ frames := 1, cells := 0, slots := 0, locals := 16 } : Room)) (fun a U => a = #[(.ref self), (.long xx)] ∧ Z.Warmed39 U.vm ∧ U.heap = h0) (fun _ _ _ _ _ => True) (fun _ U o U' => ∃ v L, o = .returned v ∧ Q_find1 Z self xx lbv ta kt x0 h0 n0 v U'.heap L ∧ FrameEnd U o U' L ({ frames := 1, cells := 0, slots := 0, locals := 16 } : Room).cells ({ frames := 1, cells := 0, slots := 0, locals := 16 } : Room).slots) := by
  refine MetFree.of_bodySF (plainFor_of_name pn_6) hisR ?_
  intro p e s m args below meth c s₁ Bd hml0 hP hK
  obtain ⟨rfl, hZ, hh⟩ := hP
  have hx := Bd.exec
  have hby := Bd.bytes
  have hml : c.maxLocals = 8 := hml0
  have hown : s.vm.findClass "com/example/tenorbook/tenorbook/engine/Ladder" = some m.cls := findClass_of_methodNamed Bd.named
  have hnm := (name_of_methodNamed Bd.named Bd.method).1
  have hlk : meth.locks = false := Bd.notSynchronized
  have X0 : Stand p l e ({ frames := 1, cells := 0, slots := 0, locals := 16 } : Room) s m #[(.ref self), (.long xx)] below meth c s₁ [] 0 0 := Stand.of_body Bd
  have e0 : s₁.heap = h0 := by rw [← hh, Bd.state]; rfl
  have N0 := Fr.nil n0
  refine Comes.out (Q := Q_find1 Z self xx lbv ta kt x0 h0 n0) (kc := ({ frames := 1, cells := 0, slots := 0, locals := 16 } : Room).cells) (ks := ({ frames := 1, cells := 0, slots := 0, locals := 16 } : Room).slots) ?_
  refine Comes.cast (ef_find1 m self xx) ?_
  have lt_self : self < h0.size := G0.lt
  have lt_ta : ta < h0.size := G4.lt
  have hk0 := own_key_ne lbv G5
  show Comes p e below _ (s₁.setTop (mkF m 0 #[.val (.ref self), .val (.long xx), .second, .unset, .unset, .unset, .unset, .unset] []))
  refine Comes.st (fun t k => XS.iconst X0.here hx rfl (hb hby d6_0) (XS.istoreN X0.here hx rfl (hb hby d6_1) rfl (l' := #[.val (.ref self), .val (.long xx), .second, .val (.int (0 : Int32)), .unset, .unset, .unset, .unset]) rfl (XS.aloadN X0.here hx rfl (hb hby d6_2) rfl rfl k))) ?_
  show Comes p e below _ (s₁.setTop (mkF m 3 #[.val (.ref self), .val (.long xx), .second, .val (.int (0 : Int32)), .unset, .unset, .unset, .unset] [(.ref self)]))
  obtain ⟨T1, X1, e1, st1⟩ := getF X0 hx hZ hown (host := "") (Or.inl (hw _ (List.mem_of_getElem? (i := 43) rfl))) Via.refl e0 G3 (g := (mkF m 3 #[.val (.ref self), .val (.long xx), .second, .val (.int (0 : Int32)), .unset, .unset, .unset, .unset] [(.ref self)])) rfl rfl (hb hby d6_3)
  refine Comes.st st1 ?_
  show Comes p e below _ (T1.setTop (mkF m 6 #[.val (.ref self), .val (.long xx), .second, .val (.int (0 : Int32)), .unset, .unset, .unset, .unset] [(.int (1 : Int32))]))
  refine Comes.st (fun t k => XS.iconst X1.here hx rfl (hb hby d6_6) (XS.isub X1.here hx rfl (hb hby d6_7) rfl k)) ?_
  show Comes p e below _ (T1.setTop (mkF m 8 #[.val (.ref self), .val (.long xx), .second, .val (.int (0 : Int32)), .unset, .unset, .unset, .unset] [(.int ((1 : Int32) - (1 : Int32)))]))
  rw [show ((1 : Int32) - (1 : Int32)) = (0 : Int32) from by decide]
  show Comes p e below _ (T1.setTop (mkF m 8 #[.val (.ref self), .val (.long xx), .second, .val (.int (0 : Int32)), .unset, .unset, .unset, .unset] [(.int (0 : Int32))]))
  refine Comes.st (fun t k => XS.istore X1.here hx rfl (hb hby d6_8) rfl (l' := #[.val (.ref self), .val (.long xx), .second, .val (.int (0 : Int32)), .val (.int (0 : Int32)), .unset, .unset, .unset]) rfl (XS.iload X1.here hx rfl (hb hby d6_10) rfl k)) ?_
  show Comes p e below _ (T1.setTop (mkF m 12 #[.val (.ref self), .val (.long xx), .second, .val (.int (0 : Int32)), .val (.int (0 : Int32)), .unset, .unset, .unset] [(.int (0 : Int32))]))
  have hc12_2 : ¬ ((0 : Int32) < (0 : Int32)) := by decide
  refine Comes.st (fun t k => XS.ifNo X1.here hx rfl (hb hby d6_12) rfl ((if0 _ _).trans (flt hc12_2).1) (XS.aloadN X1.here hx rfl (hb hby d6_15) rfl rfl (XS.lloadN X1.here hx rfl (hb hby d6_16) rfl (XS.aloadN X1.here hx rfl (hb hby d6_17) rfl rfl k)))) ?_
  show Comes p e below _ (T1.setTop (mkF m 18 #[.val (.ref self), .val (.long xx), .second, .val (.int (0 : Int32)), .val (.int (0 : Int32)), .unset, .unset, .unset] [(.ref self), (.long xx), (.ref self)]))
  obtain ⟨T3, X3, e3, st3⟩ := getF X1 hx hZ hown (host := "") (Or.inl (hw _ (List.mem_of_getElem? (i := 10) rfl))) Via.refl e1 G1 (g := (mkF m 18 #[.val (.ref self), .val (.long xx), .second, .val (.int (0 : Int32)), .val (.int (0 : Int32)), .unset, .unset, .unset] [(.ref self), (.long xx), (.ref self)])) rfl rfl (hb hby d6_18)
  refine Comes.st st3 ?_
  show Comes p e below _ (T3.setTop (mkF m 21 #[.val (.ref self), .val (.long xx), .second, .val (.int (0 : Int32)), .val (.int (0 : Int32)), .unset, .unset, .unset] [(.ref ta), (.long xx), (.ref self)]))
  refine Comes.st (fun t k => XS.iload X3.here hx rfl (hb hby d6_21) rfl k) ?_
  show Comes p e below _ (T3.setTop (mkF m 23 #[.val (.ref self), .val (.long xx), .second, .val (.int (0 : Int32)), .val (.int (0 : Int32)), .unset, .unset, .unset] [(.int (0 : Int32)), (.ref ta), (.long xx), (.ref self)]))
  obtain ⟨cl4, Ar4, q4, S4, Ng4, H4, Gf4⟩ := id G4
  have hin4 : ¬ ((0 : Int32) < 0 ∨ cl4.slots.size ≤ ((0 : Int32)).toNatClampNeg) := inb_of S4 ⟨by decide, by decide⟩
  refine Comes.st (fun t k => X3.laload hx (j := (0 : Int32)) (v := (.long x0)) (by rw [e3]; exact Ar4.1) (State.isArrayOf_alike hZ.alike Ar4.2.1) Ar4.2.2 hin4 (Has.at H4 hin4 rfl) (g := (mkF m 23 #[.val (.ref self), .val (.long xx), .second, .val (.int (0 : Int32)), .val (.int (0 : Int32)), .unset, .unset, .unset] [(.int (0 : Int32)), (.ref ta), (.long xx), (.ref self)])) rfl rfl (hb hby d6_23) _ k) ?_
  show Comes p e below _ (T3.setTop (mkF m 24 #[.val (.ref self), .val (.long xx), .second, .val (.int (0 : Int32)), .val (.int (0 : Int32)), .unset, .unset, .unset] [(.long x0), (.long xx), (.ref self)]))
  obtain ⟨cq5, q5, q5'⟩ := G0.cell
  obtain ⟨_, _, ⟨T5, L5, k5, n5⟩, -, X5, ⟨Lc5, hQ5, l5, y5, z5⟩, st5⟩ := X3.privateBack hx (y := (⟨"com/example/tenorbook/tenorbook/engine/Ladder", "worse", "(JJ)Z"⟩ : MethodName)) hown (mvT hZ (hw _ (List.mem_of_getElem? (i := 52) rfl))) (mvT hZ (hw _ (List.mem_of_getElem? (i := 53) rfl))) (mvT hZ (own_selp (y := (⟨"com/example/tenorbook/tenorbook/engine/Ladder", "worse", "(JJ)Z"⟩ : MethodName)) (hw _ (List.mem_of_getElem? (i := 1) rfl)) (hw _ (List.mem_of_getElem? (i := 54) rfl)) (hw _ (List.mem_of_getElem? (i := 53) rfl)) (by decide))) (Cond.privateMethod_at (mvP hZ (hw _ (List.mem_of_getElem? (i := 54) rfl)) (args := #[]))) (mvT hZ (hw _ (List.mem_of_getElem? (i := 55) rfl))) (by decide) (backOf (W := 0) (rm7 l Z a0 hw [] self xx x0 lbv h0 n0 (by omega)  G2) hZ (hw _ (List.mem_of_getElem? (i := 55) rfl)) (hw _ (List.mem_of_getElem? (i := 2) rfl)) (by decide) (by decide)) (g := (mkF m 24 #[.val (.ref self), .val (.long xx), .second, .val (.int (0 : Int32)), .val (.int (0 : Int32)), .unset, .unset, .unset] [(.long x0), (.long xx), (.ref self)])) rfl (by rw [hml]; rfl) (Steps.refl _) (a := self) (by rw [e3]; exact q5) q5' (argsL := [(.long xx), (.long x0)]) (rest := []) (lenOf pd_0 rfl) rfl (by show 2 * 0 + _ ≤ _; exact Nat.le_of_eq rfl) (hb hby d6_24) (fun _ _ => ⟨rfl, e3, (by decide : 0 + 0 ≤ _), (by decide : 0 + 0 ≤ _)⟩)
  dsimp only [Pt.U, Pt.locs, Pt.cells, Pt.slots] at X5 l5 y5 z5 st5 hQ5
  subst l5 y5 z5
  obtain ⟨r6, rfl, Nq5, hs5, P5_0⟩ := hQ5
  have N5 := Fr.app N0 Nq5
  refine Comes.go st5 ?_
  show Comes p e below _ (T5.setTop (mkF m 27 #[.val (.ref self), .val (.long xx), .second, .val (.int (0 : Int32)), .val (.int (0 : Int32)), .unset, .unset, .unset] [(.int r6)]))
  by_cases hc27_7 : r6 = (0 : Int32)
  · refine Comes.st (fun t k => XS.ifNo X5.here hx rfl (hb hby d6_27) rfl ((if0 _ _).trans (teq hc27_7).2) (XS.iload X5.here hx rfl (hb hby d6_30) rfl (XS.istoreN X5.here hx rfl (hb hby d6_32) rfl (l' := #[.val (.ref self), .val (.long xx), .second, .val (.int (0 : Int32)), .val (.int (0 : Int32)), .unset, .unset, .unset]) rfl (XS.iloadN X5.here hx rfl (hb hby d6_33) rfl (XS.iload X5.here hx rfl (hb hby d6_34) rfl k))))) ?_
    show Comes p e below _ (T5.setTop (mkF m 36 #[.val (.ref self), .val (.long xx), .second, .val (.int (0 : Int32)), .val (.int (0 : Int32)), .unset, .unset, .unset] [(.int (0 : Int32)), (.int (0 : Int32))]))
    have hc36_8 : ¬ ((0 : Int32) < (0 : Int32)) := by decide
    refine Comes.st (fun t k => XS.icmpNo X5.here hx rfl (hb hby d6_36) rfl (flt hc36_8).2.2.1 (XS.iloadN X5.here hx rfl (hb hby d6_39) rfl (XS.iload X5.here hx rfl (hb hby d6_40) rfl (XS.iadd X5.here hx rfl (hb hby d6_42) rfl k)))) ?_
    show Comes p e below _ (T5.setTop (mkF m 43 #[.val (.ref self), .val (.long xx), .second, .val (.int (0 : Int32)), .val (.int (0 : Int32)), .unset, .unset, .unset] [(.int ((0 : Int32) + (0 : Int32)))]))
    rw [show ((0 : Int32) + (0 : Int32)) = (0 : Int32) from by decide]
    show Comes p e below _ (T5.setTop (mkF m 43 #[.val (.ref self), .val (.long xx), .second, .val (.int (0 : Int32)), .val (.int (0 : Int32)), .unset, .unset, .unset] [(.int (0 : Int32))]))
    refine Comes.st (fun t k => XS.iconst X5.here hx rfl (hb hby d6_43) (XS.iushr X5.here hx rfl (hb hby d6_44) rfl k)) ?_
    show Comes p e below _ (T5.setTop (mkF m 45 #[.val (.ref self), .val (.long xx), .second, .val (.int (0 : Int32)), .val (.int (0 : Int32)), .unset, .unset, .unset] [(.int (((0 : Int32).toUInt32 >>> ((1 : Int32) &&& 31).toUInt32).toInt32))]))
    rw [show (((0 : Int32).toUInt32 >>> ((1 : Int32) &&& 31).toUInt32).toInt32) = (0 : Int32) from by decide]
    show Comes p e below _ (T5.setTop (mkF m 45 #[.val (.ref self), .val (.long xx), .second, .val (.int (0 : Int32)), .val (.int (0 : Int32)), .unset, .unset, .unset] [(.int (0 : Int32))]))
    refine Comes.st (fun t k => XS.istore X5.here hx rfl (hb hby d6_45) rfl (l' := #[.val (.ref self), .val (.long xx), .second, .val (.int (0 : Int32)), .val (.int (0 : Int32)), .val (.int (0 : Int32)), .unset, .unset]) rfl (XS.aloadN X5.here hx rfl (hb hby d6_47) rfl rfl k)) ?_
    show Comes p e below _ (T5.setTop (mkF m 48 #[.val (.ref self), .val (.long xx), .second, .val (.int (0 : Int32)), .val (.int (0 : Int32)), .val (.int (0 : Int32)), .unset, .unset] [(.ref self)]))
    obtain ⟨T9, X9, e9, st9⟩ := getF X5 hx hZ hown (host := "") (Or.inl (hw _ (List.mem_of_getElem? (i := 10) rfl))) Via.refl hs5 G1 (g := (mkF m 48 #[.val (.ref self), .val (.long xx), .second, .val (.int (0 : Int32)), .val (.int (0 : Int32)), .val (.int (0 : Int32)), .unset, .unset] [(.ref self)])) rfl rfl (hb hby d6_48)
    refine Comes.st st9 ?_
    show Comes p e below _ (T9.setTop (mkF m 51 #[.val (.ref self), .val (.long xx), .second, .val (.int (0 : Int32)), .val (.int (0 : Int32)), .val (.int (0 : Int32)), .unset, .unset] [(.ref ta)]))
    refine Comes.st (fun t k => XS.iload X9.here hx rfl (hb hby d6_51) rfl k) ?_
    show Comes p e below _ (T9.setTop (mkF m 53 #[.val (.ref self), .val (.long xx), .second, .val (.int (0 : Int32)), .val (.int (0 : Int32)), .val (.int (0 : Int32)), .unset, .unset] [(.int (0 : Int32)), (.ref ta)]))
    obtain ⟨cl10, Ar10, q10, S10, Ng10, H10, Gf10⟩ := id G4
    have hin10 : ¬ ((0 : Int32) < 0 ∨ cl10.slots.size ≤ ((0 : Int32)).toNatClampNeg) := inb_of S10 ⟨by decide, by decide⟩
    refine Comes.st (fun t k => X9.laload hx (j := (0 : Int32)) (v := (.long x0)) (by rw [e9]; exact Ar10.1) (State.isArrayOf_alike hZ.alike Ar10.2.1) Ar10.2.2 hin10 (Has.at H10 hin10 rfl) (g := (mkF m 53 #[.val (.ref self), .val (.long xx), .second, .val (.int (0 : Int32)), .val (.int (0 : Int32)), .val (.int (0 : Int32)), .unset, .unset] [(.int (0 : Int32)), (.ref ta)])) rfl rfl (hb hby d6_53) _ (XS.lstore X9.here hx rfl (hb hby d6_54) rfl (l' := #[.val (.ref self), .val (.long xx), .second, .val (.int (0 : Int32)), .val (.int (0 : Int32)), .val (.int (0 : Int32)), .val (.long x0), .second]) rfl (XS.lload X9.here hx rfl (hb hby d6_56) rfl (XS.lloadN X9.here hx rfl (hb hby d6_58) rfl (XS.lcmp X9.here hx rfl (hb hby d6_59) rfl k))))) ?_
    show Comes p e below _ (T9.setTop (mkF m 60 #[.val (.ref self), .val (.long xx), .second, .val (.int (0 : Int32)), .val (.int (0 : Int32)), .val (.int (0 : Int32)), .val (.long x0), .second] [(.int (lcmpW x0 xx))]))
    have hc60_11 : ¬ (x0 = xx) := by assumption
    refine Comes.st (fun t k => XS.ifYes X9.here hx rfl (pc0 := 60) (pc' := 66) rfl (hb hby d6_60) rfl ((if0 _ _).trans (feq (fun q => hc60_11 ((lw_eq _ _).mp q))).2) (by decide) (by decide) (XS.aloadN X9.here hx rfl (hb hby d6_66) rfl rfl (XS.lload X9.here hx rfl (hb hby d6_67) rfl (XS.lloadN X9.here hx rfl (hb hby d6_69) rfl k)))) ?_
    show Comes p e below _ (T9.setTop (mkF m 70 #[.val (.ref self), .val (.long xx), .second, .val (.int (0 : Int32)), .val (.int (0 : Int32)), .val (.int (0 : Int32)), .val (.long x0), .second] [(.long xx), (.long x0), (.ref self)]))
    obtain ⟨cq12, q12, q12'⟩ := G0.cell
    obtain ⟨_, _, ⟨T12, L12, k12, n12⟩, -, X12, ⟨Lc12, hQ12, l12, y12, z12⟩, st12⟩ := X9.privateBack hx (y := (⟨"com/example/tenorbook/tenorbook/engine/Ladder", "worse", "(JJ)Z"⟩ : MethodName)) hown (mvT hZ (hw _ (List.mem_of_getElem? (i := 52) rfl))) (mvT hZ (hw _ (List.mem_of_getElem? (i := 53) rfl))) (mvT hZ (own_selp (y := (⟨"com/example/tenorbook/tenorbook/engine/Ladder", "worse", "(JJ)Z"⟩ : MethodName)) (hw _ (List.mem_of_getElem? (i := 1) rfl)) (hw _ (List.mem_of_getElem? (i := 54) rfl)) (hw _ (List.mem_of_getElem? (i := 53) rfl)) (by decide))) (Cond.privateMethod_at (mvP hZ (hw _ (List.mem_of_getElem? (i := 54) rfl)) (args := #[]))) (mvT hZ (hw _ (List.mem_of_getElem? (i := 55) rfl))) (by decide) (backOf (W := 0) (rm7 l Z a0 hw [] self x0 xx lbv h0 n0 (by omega)  G2) hZ (hw _ (List.mem_of_getElem? (i := 55) rfl)) (hw _ (List.mem_of_getElem? (i := 2) rfl)) (by decide) (by decide)) (g := (mkF m 70 #[.val (.ref self), .val (.long xx), .second, .val (.int (0 : Int32)), .val (.int (0 : Int32)), .val (.int (0 : Int32)), .val (.long x0), .second] [(.long xx), (.long x0), (.ref self)])) rfl (by rw [hml]; rfl) (Steps.refl _) (a := self) (by rw [e9]; exact q12) q12' (argsL := [(.long x0), (.long xx)]) (rest := []) (lenOf pd_0 rfl) rfl (by show 2 * 0 + _ ≤ _; exact Nat.le_of_eq rfl) (hb hby d6_70) (fun _ _ => ⟨rfl, e9, (by decide : 0 + 0 ≤ _), (by decide : 0 + 0 ≤ _)⟩)
    dsimp only [Pt.U, Pt.locs, Pt.cells, Pt.slots] at X12 l12 y12 z12 st12 hQ12
    subst l12 y12 z12
    obtain ⟨r13, rfl, Nq12, hs12, P12_0⟩ := hQ12
    have N12 := Fr.app N5 Nq12
    refine Comes.go st12 ?_
    show Comes p e below _ (T12.setTop (mkF m 73 #[.val (.ref self), .val (.long xx), .second, .val (.int (0 : Int32)), .val (.int (0 : Int32)), .val (.int (0 : Int32)), .val (.long x0), .second] [(.int r13)]))
    by_cases hc73_14 : r13 = (0 : Int32)
    · refine Comes.st (fun t k => XS.ifYes X12.here hx rfl (pc0 := 73) (pc' := 84) rfl (hb hby d6_73) rfl ((if0 _ _).trans (teq hc73_14).1) (by decide) (by decide) (XS.iload X12.here hx rfl (hb hby d6_84) rfl (XS.iconst X12.here hx rfl (hb hby d6_86) (XS.isub X12.here hx rfl (hb hby d6_87) rfl k)))) ?_
      show Comes p e below _ (T12.setTop (mkF m 88 #[.val (.ref self), .val (.long xx), .second, .val (.int (0 : Int32)), .val (.int (0 : Int32)), .val (.int (0 : Int32)), .val (.long x0), .second] [(.int ((0 : Int32) - (1 : Int32)))]))
      rw [show ((0 : Int32) - (1 : Int32)) = (-1 : Int32) from by decide]
      show Comes p e below _ (T12.setTop (mkF m 88 #[.val (.ref self), .val (.long xx), .second, .val (.int (0 : Int32)), .val (.int (0 : Int32)), .val (.int (0 : Int32)), .val (.long x0), .second] [(.int (-1 : Int32))]))
      refine Comes.st (fun t k => XS.istore X12.here hx rfl (hb hby d6_88) rfl (l' := #[.val (.ref self), .val (.long xx), .second, .val (.int (0 : Int32)), .val (.int (-1 : Int32)), .val (.int (0 : Int32)), .val (.long x0), .second]) rfl (XS.goto X12.here hx rfl (pc0 := 90) (pc' := 33) rfl (hb hby d6_90) (by decide) (by decide) (XS.iloadN X12.here hx rfl (hb hby d6_33) rfl (XS.iload X12.here hx rfl (hb hby d6_34) rfl k)))) ?_
      show Comes p e below _ (T12.setTop (mkF m 36 #[.val (.ref self), .val (.long xx), .second, .val (.int (0 : Int32)), .val (.int (-1 : Int32)), .val (.int (0 : Int32)), .val (.long x0), .second] [(.int (-1 : Int32)), (.int (0 : Int32))]))
      have hc36_15 : (-1 : Int32) < (0 : Int32) := by decide
      refine Comes.st (fun t k => XS.icmpYes X12.here hx rfl (pc0 := 36) (pc' := 93) rfl (hb hby d6_36) rfl (tlt hc36_15).2.2.1 (by decide) (by decide) (XS.iloadN X12.here hx rfl (hb hby d6_93) rfl (XS.ineg X12.here hx rfl (hb hby d6_94) rfl k))) ?_
      show Comes p e below _ (T12.setTop (mkF m 95 #[.val (.ref self), .val (.long xx), .second, .val (.int (0 : Int32)), .val (.int (-1 : Int32)), .val (.int (0 : Int32)), .val (.long x0), .second] [(.int (-(0 : Int32)))]))
      rw [show (-(0 : Int32)) = (0 : Int32) from by decide]
      show Comes p e below _ (T12.setTop (mkF m 95 #[.val (.ref self), .val (.long xx), .second, .val (.int (0 : Int32)), .val (.int (-1 : Int32)), .val (.int (0 : Int32)), .val (.long x0), .second] [(.int (0 : Int32))]))
      refine Comes.st (fun t k => XS.iconst X12.here hx rfl (hb hby d6_95) (XS.isub X12.here hx rfl (hb hby d6_96) rfl k)) ?_
      show Comes p e below _ (T12.setTop (mkF m 97 #[.val (.ref self), .val (.long xx), .second, .val (.int (0 : Int32)), .val (.int (-1 : Int32)), .val (.int (0 : Int32)), .val (.long x0), .second] [(.int ((0 : Int32) - (1 : Int32)))]))
      rw [show ((0 : Int32) - (1 : Int32)) = (-1 : Int32) from by decide]
      show Comes p e below _ (T12.setTop (mkF m 97 #[.val (.ref self), .val (.long xx), .second, .val (.int (0 : Int32)), .val (.int (-1 : Int32)), .val (.int (0 : Int32)), .val (.long x0), .second] [(.int (-1 : Int32))]))
      exact Comes.retV X12 hx Bd.returns rfl (Or.inl ⟨rfl, Or.inl rfl, _, rfl⟩) hlk (hb hby d6_97) hs12 ⟨(-1 : Int32), rfl, N12, rfl, (by exact (Or.inl ⟨rfl, (by have z0 := P5_0; have z1 := P12_0; have y1 := hc27_7; have y4 := hc73_14; have x3 := own_key_ne lbv hc60_11; simp only [← Int32.toInt_inj, Int32.reduceToInt] at z0 z1 y1 y4; omega)⟩))⟩ (by decide) (by decide)
    · refine Comes.st (fun t k => XS.ifNo X12.here hx rfl (hb hby d6_73) rfl ((if0 _ _).trans (feq hc73_14).1) (XS.iload X12.here hx rfl (hb hby d6_76) rfl (XS.iconst X12.here hx rfl (hb hby d6_78) (XS.iadd X12.here hx rfl (hb hby d6_79) rfl k)))) ?_
      show Comes p e below _ (T12.setTop (mkF m 80 #[.val (.ref self), .val (.long xx), .second, .val (.int (0 : Int32)), .val (.int (0 : Int32)), .val (.int (0 : Int32)), .val (.long x0), .second] [(.int ((0 : Int32) + (1 : Int32)))]))
      rw [show ((0 : Int32) + (1 : Int32)) = (1 : Int32) from by decide]
      show Comes p e below _ (T12.setTop (mkF m 80 #[.val (.ref self), .val (.long xx), .second, .val (.int (0 : Int32)), .val (.int (0 : Int32)), .val (.int (0 : Int32)), .val (.long x0), .second] [(.int (1 : Int32))]))
      refine Comes.st (fun t k => XS.istoreN X12.here hx rfl (hb hby d6_80) rfl (l' := #[.val (.ref self), .val (.long xx), .second, .val (.int (1 : Int32)), .val (.int (0 : Int32)), .val (.int (0 : Int32)), .val (.long x0), .second]) rfl (XS.goto X12.here hx rfl (pc0 := 81) (pc' := 90) rfl (hb hby d6_81) (by decide) (by decide) (XS.goto X12.here hx rfl (pc0 := 90) (pc' := 33) rfl (hb hby d6_90) (by decide) (by decide) (XS.iloadN X12.here hx rfl (hb hby d6_33) rfl (XS.iload X12.here hx rfl (hb hby d6_34) rfl k))))) ?_
      show Comes p e below _ (T12.setTop (mkF m 36 #[.val (.ref self), .val (.long xx), .second, .val (.int (1 : Int32)), .val (.int (0 : Int32)), .val (.int (0 : Int32)), .val (.long x0), .second] [(.int (0 : Int32)), (.int (1 : Int32))]))
      have hc36_16 : (0 : Int32) < (1 : Int32) := by decide
      refine Comes.st (fun t k => XS.icmpYes X12.here hx rfl (pc0 := 36) (pc' := 93) rfl (hb hby d6_36) rfl (tlt hc36_16).2.2.1 (by decide) (by decide) (XS.iloadN X12.here hx rfl (hb hby d6_93) rfl (XS.ineg X12.here hx rfl (hb hby d6_94) rfl k))) ?_
      show Comes p e below _ (T12.setTop (mkF m 95 #[.val (.ref self), .val (.long xx), .second, .val (.int (1 : Int32)), .val (.int (0 : Int32)), .val (.int (0 : Int32)), .val (.long x0), .second] [(.int (-(1 : Int32)))]))
      rw [show (-(1 : Int32)) = (-1 : Int32) from by decide]
      show Comes p e below _ (T12.setTop (mkF m 95 #[.val (.ref self), .val (.long xx), .second, .val (.int (1 : Int32)), .val (.int (0 : Int32)), .val (.int (0 : Int32)), .val (.long x0), .second] [(.int (-1 : Int32))]))
      refine Comes.st (fun t k => XS.iconst X12.here hx rfl (hb hby d6_95) (XS.isub X12.here hx rfl (hb hby d6_96) rfl k)) ?_
      show Comes p e below _ (T12.setTop (mkF m 97 #[.val (.ref self), .val (.long xx), .second, .val (.int (1 : Int32)), .val (.int (0 : Int32)), .val (.int (0 : Int32)), .val (.long x0), .second] [(.int ((-1 : Int32) - (1 : Int32)))]))
      rw [show ((-1 : Int32) - (1 : Int32)) = (-2 : Int32) from by decide]
      show Comes p e below _ (T12.setTop (mkF m 97 #[.val (.ref self), .val (.long xx), .second, .val (.int (1 : Int32)), .val (.int (0 : Int32)), .val (.int (0 : Int32)), .val (.long x0), .second] [(.int (-2 : Int32))]))
      exact Comes.retV X12 hx Bd.returns rfl (Or.inl ⟨rfl, Or.inl rfl, _, rfl⟩) hlk (hb hby d6_97) hs12 ⟨(-2 : Int32), rfl, N12, rfl, (by exact (Or.inr ⟨rfl, (by have z0 := P5_0; have z1 := P12_0; have y1 := hc27_7; have y4 := hc73_14; have x3 := own_key_ne lbv hc60_11; simp only [← Int32.toInt_inj, Int32.reduceToInt] at z0 z1 y1 y4; omega)⟩))⟩ (by decide) (by decide)
  · refine Comes.st (fun t k => XS.ifYes X5.here hx rfl (pc0 := 27) (pc' := 33) rfl (hb hby d6_27) rfl ((if0 _ _).trans (feq hc27_7).2) (by decide) (by decide) (XS.iloadN X5.here hx rfl (hb hby d6_33) rfl (XS.iload X5.here hx rfl (hb hby d6_34) rfl k))) ?_
    show Comes p e below _ (T5.setTop (mkF m 36 #[.val (.ref self), .val (.long xx), .second, .val (.int (0 : Int32)), .val (.int (0 : Int32)), .unset, .unset, .unset] [(.int (0 : Int32)), (.int (0 : Int32))]))
    have hc36_17 : ¬ ((0 : Int32) < (0 : Int32)) := by decide
    refine Comes.st (fun t k => XS.icmpNo X5.here hx rfl (hb hby d6_36) rfl (flt hc36_17).2.2.1 (XS.iloadN X5.here hx rfl (hb hby d6_39) rfl (XS.iload X5.here hx rfl (hb hby d6_40) rfl (XS.iadd X5.here hx rfl (hb hby d6_42) rfl k)))) ?_
    show Comes p e below _ (T5.setTop (mkF m 43 #[.val (.ref self), .val (.long xx), .second, .val (.int (0 : Int32)), .val (.int (0 : Int32)), .unset, .unset, .unset] [(.int ((0 : Int32) + (0 : Int32)))]))
    rw [show ((0 : Int32) + (0 : Int32)) = (0 : Int32) from by decide]
    show Comes p e below _ (T5.setTop (mkF m 43 #[.val (.ref self), .val (.long xx), .second, .val (.int (0 : Int32)), .val (.int (0 : Int32)), .unset, .unset, .unset] [(.int (0 : Int32))]))
    refine Comes.st (fun t k => XS.iconst X5.here hx rfl (hb hby d6_43) (XS.iushr X5.here hx rfl (hb hby d6_44) rfl k)) ?_
    show Comes p e below _ (T5.setTop (mkF m 45 #[.val (.ref self), .val (.long xx), .second, .val (.int (0 : Int32)), .val (.int (0 : Int32)), .unset, .unset, .unset] [(.int (((0 : Int32).toUInt32 >>> ((1 : Int32) &&& 31).toUInt32).toInt32))]))
    rw [show (((0 : Int32).toUInt32 >>> ((1 : Int32) &&& 31).toUInt32).toInt32) = (0 : Int32) from by decide]
    show Comes p e below _ (T5.setTop (mkF m 45 #[.val (.ref self), .val (.long xx), .second, .val (.int (0 : Int32)), .val (.int (0 : Int32)), .unset, .unset, .unset] [(.int (0 : Int32))]))
    refine Comes.st (fun t k => XS.istore X5.here hx rfl (hb hby d6_45) rfl (l' := #[.val (.ref self), .val (.long xx), .second, .val (.int (0 : Int32)), .val (.int (0 : Int32)), .val (.int (0 : Int32)), .unset, .unset]) rfl (XS.aloadN X5.here hx rfl (hb hby d6_47) rfl rfl k)) ?_
    show Comes p e below _ (T5.setTop (mkF m 48 #[.val (.ref self), .val (.long xx), .second, .val (.int (0 : Int32)), .val (.int (0 : Int32)), .val (.int (0 : Int32)), .unset, .unset] [(.ref self)]))
    obtain ⟨T18, X18, e18, st18⟩ := getF X5 hx hZ hown (host := "") (Or.inl (hw _ (List.mem_of_getElem? (i := 10) rfl))) Via.refl hs5 G1 (g := (mkF m 48 #[.val (.ref self), .val (.long xx), .second, .val (.int (0 : Int32)), .val (.int (0 : Int32)), .val (.int (0 : Int32)), .unset, .unset] [(.ref self)])) rfl rfl (hb hby d6_48)
    refine Comes.st st18 ?_
    show Comes p e below _ (T18.setTop (mkF m 51 #[.val (.ref self), .val (.long xx), .second, .val (.int (0 : Int32)), .val (.int (0 : Int32)), .val (.int (0 : Int32)), .unset, .unset] [(.ref ta)]))
    refine Comes.st (fun t k => XS.iload X18.here hx rfl (hb hby d6_51) rfl k) ?_
    show Comes p e below _ (T18.setTop (mkF m 53 #[.val (.ref self), .val (.long xx), .second, .val (.int (0 : Int32)), .val (.int (0 : Int32)), .val (.int (0 : Int32)), .unset, .unset] [(.int (0 : Int32)), (.ref ta)]))
    obtain ⟨cl19, Ar19, q19, S19, Ng19, H19, Gf19⟩ := id G4
    have hin19 : ¬ ((0 : Int32) < 0 ∨ cl19.slots.size ≤ ((0 : Int32)).toNatClampNeg) := inb_of S19 ⟨by decide, by decide⟩
    refine Comes.st (fun t k => X18.laload hx (j := (0 : Int32)) (v := (.long x0)) (by rw [e18]; exact Ar19.1) (State.isArrayOf_alike hZ.alike Ar19.2.1) Ar19.2.2 hin19 (Has.at H19 hin19 rfl) (g := (mkF m 53 #[.val (.ref self), .val (.long xx), .second, .val (.int (0 : Int32)), .val (.int (0 : Int32)), .val (.int (0 : Int32)), .unset, .unset] [(.int (0 : Int32)), (.ref ta)])) rfl rfl (hb hby d6_53) _ (XS.lstore X18.here hx rfl (hb hby d6_54) rfl (l' := #[.val (.ref self), .val (.long xx), .second, .val (.int (0 : Int32)), .val (.int (0 : Int32)), .val (.int (0 : Int32)), .val (.long x0), .second]) rfl (XS.lload X18.here hx rfl (hb hby d6_56) rfl (XS.lloadN X18.here hx rfl (hb hby d6_58) rfl (XS.lcmp X18.here hx rfl (hb hby d6_59) rfl k))))) ?_
    show Comes p e below _ (T18.setTop (mkF m 60 #[.val (.ref self), .val (.long xx), .second, .val (.int (0 : Int32)), .val (.int (0 : Int32)), .val (.int (0 : Int32)), .val (.long x0), .second] [(.int (lcmpW x0 xx))]))
    have hc60_20 : ¬ (x0 = xx) := by assumption
    refine Comes.st (fun t k => XS.ifYes X18.here hx rfl (pc0 := 60) (pc' := 66) rfl (hb hby d6_60) rfl ((if0 _ _).trans (feq (fun q => hc60_20 ((lw_eq _ _).mp q))).2) (by decide) (by decide) (XS.aloadN X18.here hx rfl (hb hby d6_66) rfl rfl (XS.lload X18.here hx rfl (hb hby d6_67) rfl (XS.lloadN X18.here hx rfl (hb hby d6_69) rfl k)))) ?_
    show Comes p e below _ (T18.setTop (mkF m 70 #[.val (.ref self), .val (.long xx), .second, .val (.int (0 : Int32)), .val (.int (0 : Int32)), .val (.int (0 : Int32)), .val (.long x0), .second] [(.long xx), (.long x0), (.ref self)]))
    obtain ⟨cq21, q21, q21'⟩ := G0.cell
    obtain ⟨_, _, ⟨T21, L21, k21, n21⟩, -, X21, ⟨Lc21, hQ21, l21, y21, z21⟩, st21⟩ := X18.privateBack hx (y := (⟨"com/example/tenorbook/tenorbook/engine/Ladder", "worse", "(JJ)Z"⟩ : MethodName)) hown (mvT hZ (hw _ (List.mem_of_getElem? (i := 52) rfl))) (mvT hZ (hw _ (List.mem_of_getElem? (i := 53) rfl))) (mvT hZ (own_selp (y := (⟨"com/example/tenorbook/tenorbook/engine/Ladder", "worse", "(JJ)Z"⟩ : MethodName)) (hw _ (List.mem_of_getElem? (i := 1) rfl)) (hw _ (List.mem_of_getElem? (i := 54) rfl)) (hw _ (List.mem_of_getElem? (i := 53) rfl)) (by decide))) (Cond.privateMethod_at (mvP hZ (hw _ (List.mem_of_getElem? (i := 54) rfl)) (args := #[]))) (mvT hZ (hw _ (List.mem_of_getElem? (i := 55) rfl))) (by decide) (backOf (W := 0) (rm7 l Z a0 hw [] self x0 xx lbv h0 n0 (by omega)  G2) hZ (hw _ (List.mem_of_getElem? (i := 55) rfl)) (hw _ (List.mem_of_getElem? (i := 2) rfl)) (by decide) (by decide)) (g := (mkF m 70 #[.val (.ref self), .val (.long xx), .second, .val (.int (0 : Int32)), .val (.int (0 : Int32)), .val (.int (0 : Int32)), .val (.long x0), .second] [(.long xx), (.long x0), (.ref self)])) rfl (by rw [hml]; rfl) (Steps.refl _) (a := self) (by rw [e18]; exact q21) q21' (argsL := [(.long x0), (.long xx)]) (rest := []) (lenOf pd_0 rfl) rfl (by show 2 * 0 + _ ≤ _; exact Nat.le_of_eq rfl) (hb hby d6_70) (fun _ _ => ⟨rfl, e18, (by decide : 0 + 0 ≤ _), (by decide : 0 + 0 ≤ _)⟩)
    dsimp only [Pt.U, Pt.locs, Pt.cells, Pt.slots] at X21 l21 y21 z21 st21 hQ21
    subst l21 y21 z21
    obtain ⟨r22, rfl, Nq21, hs21, P21_0⟩ := hQ21
    have N21 := Fr.app N5 Nq21
    refine Comes.go st21 ?_
    show Comes p e below _ (T21.setTop (mkF m 73 #[.val (.ref self), .val (.long xx), .second, .val (.int (0 : Int32)), .val (.int (0 : Int32)), .val (.int (0 : Int32)), .val (.long x0), .second] [(.int r22)]))
    by_cases hc73_23 : r22 = (0 : Int32)
    · refine Comes.st (fun t k => XS.ifYes X21.here hx rfl (pc0 := 73) (pc' := 84) rfl (hb hby d6_73) rfl ((if0 _ _).trans (teq hc73_23).1) (by decide) (by decide) (XS.iload X21.here hx rfl (hb hby d6_84) rfl (XS.iconst X21.here hx rfl (hb hby d6_86) (XS.isub X21.here hx rfl (hb hby d6_87) rfl k)))) ?_
      show Comes p e below _ (T21.setTop (mkF m 88 #[.val (.ref self), .val (.long xx), .second, .val (.int (0 : Int32)), .val (.int (0 : Int32)), .val (.int (0 : Int32)), .val (.long x0), .second] [(.int ((0 : Int32) - (1 : Int32)))]))
      rw [show ((0 : Int32) - (1 : Int32)) = (-1 : Int32) from by decide]
      show Comes p e below _ (T21.setTop (mkF m 88 #[.val (.ref self), .val (.long xx), .second, .val (.int (0 : Int32)), .val (.int (0 : Int32)), .val (.int (0 : Int32)), .val (.long x0), .second] [(.int (-1 : Int32))]))
      refine Comes.st (fun t k => XS.istore X21.here hx rfl (hb hby d6_88) rfl (l' := #[.val (.ref self), .val (.long xx), .second, .val (.int (0 : Int32)), .val (.int (-1 : Int32)), .val (.int (0 : Int32)), .val (.long x0), .second]) rfl (XS.goto X21.here hx rfl (pc0 := 90) (pc' := 33) rfl (hb hby d6_90) (by decide) (by decide) (XS.iloadN X21.here hx rfl (hb hby d6_33) rfl (XS.iload X21.here hx rfl (hb hby d6_34) rfl k)))) ?_
      show Comes p e below _ (T21.setTop (mkF m 36 #[.val (.ref self), .val (.long xx), .second, .val (.int (0 : Int32)), .val (.int (-1 : Int32)), .val (.int (0 : Int32)), .val (.long x0), .second] [(.int (-1 : Int32)), (.int (0 : Int32))]))
      have hc36_24 : (-1 : Int32) < (0 : Int32) := by decide
      refine Comes.st (fun t k => XS.icmpYes X21.here hx rfl (pc0 := 36) (pc' := 93) rfl (hb hby d6_36) rfl (tlt hc36_24).2.2.1 (by decide) (by decide) (XS.iloadN X21.here hx rfl (hb hby d6_93) rfl (XS.ineg X21.here hx rfl (hb hby d6_94) rfl k))) ?_
      show Comes p e below _ (T21.setTop (mkF m 95 #[.val (.ref self), .val (.long xx), .second, .val (.int (0 : Int32)), .val (.int (-1 : Int32)), .val (.int (0 : Int32)), .val (.long x0), .second] [(.int (-(0 : Int32)))]))
      rw [show (-(0 : Int32)) = (0 : Int32) from by decide]
      show Comes p e below _ (T21.setTop (mkF m 95 #[.val (.ref self), .val (.long xx), .second, .val (.int (0 : Int32)), .val (.int (-1 : Int32)), .val (.int (0 : Int32)), .val (.long x0), .second] [(.int (0 : Int32))]))
      refine Comes.st (fun t k => XS.iconst X21.here hx rfl (hb hby d6_95) (XS.isub X21.here hx rfl (hb hby d6_96) rfl k)) ?_
      show Comes p e below _ (T21.setTop (mkF m 97 #[.val (.ref self), .val (.long xx), .second, .val (.int (0 : Int32)), .val (.int (-1 : Int32)), .val (.int (0 : Int32)), .val (.long x0), .second] [(.int ((0 : Int32) - (1 : Int32)))]))
      rw [show ((0 : Int32) - (1 : Int32)) = (-1 : Int32) from by decide]
      show Comes p e below _ (T21.setTop (mkF m 97 #[.val (.ref self), .val (.long xx), .second, .val (.int (0 : Int32)), .val (.int (-1 : Int32)), .val (.int (0 : Int32)), .val (.long x0), .second] [(.int (-1 : Int32))]))
      exact Comes.retV X21 hx Bd.returns rfl (Or.inl ⟨rfl, Or.inl rfl, _, rfl⟩) hlk (hb hby d6_97) hs21 ⟨(-1 : Int32), rfl, N21, rfl, (by exact (Or.inl ⟨rfl, (by have z0 := P5_0; have z1 := P21_0; have y1 := hc27_7; have y4 := hc73_23; have x3 := own_key_ne lbv hc60_20; simp only [← Int32.toInt_inj, Int32.reduceToInt] at z0 z1 y1 y4; omega)⟩))⟩ (by decide) (by decide)
    · refine Comes.st (fun t k => XS.ifNo X21.here hx rfl (hb hby d6_73) rfl ((if0 _ _).trans (feq hc73_23).1) (XS.iload X21.here hx rfl (hb hby d6_76) rfl (XS.iconst X21.here hx rfl (hb hby d6_78) (XS.iadd X21.here hx rfl (hb hby d6_79) rfl k)))) ?_
      show Comes p e below _ (T21.setTop (mkF m 80 #[.val (.ref self), .val (.long xx), .second, .val (.int (0 : Int32)), .val (.int (0 : Int32)), .val (.int (0 : Int32)), .val (.long x0), .second] [(.int ((0 : Int32) + (1 : Int32)))]))
      rw [show ((0 : Int32) + (1 : Int32)) = (1 : Int32) from by decide]
      show Comes p e below _ (T21.setTop (mkF m 80 #[.val (.ref self), .val (.long xx), .second, .val (.int (0 : Int32)), .val (.int (0 : Int32)), .val (.int (0 : Int32)), .val (.long x0), .second] [(.int (1 : Int32))]))
      refine Comes.st (fun t k => XS.istoreN X21.here hx rfl (hb hby d6_80) rfl (l' := #[.val (.ref self), .val (.long xx), .second, .val (.int (1 : Int32)), .val (.int (0 : Int32)), .val (.int (0 : Int32)), .val (.long x0), .second]) rfl (XS.goto X21.here hx rfl (pc0 := 81) (pc' := 90) rfl (hb hby d6_81) (by decide) (by decide) (XS.goto X21.here hx rfl (pc0 := 90) (pc' := 33) rfl (hb hby d6_90) (by decide) (by decide) (XS.iloadN X21.here hx rfl (hb hby d6_33) rfl (XS.iload X21.here hx rfl (hb hby d6_34) rfl k))))) ?_
      show Comes p e below _ (T21.setTop (mkF m 36 #[.val (.ref self), .val (.long xx), .second, .val (.int (1 : Int32)), .val (.int (0 : Int32)), .val (.int (0 : Int32)), .val (.long x0), .second] [(.int (0 : Int32)), (.int (1 : Int32))]))
      have hc36_25 : (0 : Int32) < (1 : Int32) := by decide
      refine Comes.st (fun t k => XS.icmpYes X21.here hx rfl (pc0 := 36) (pc' := 93) rfl (hb hby d6_36) rfl (tlt hc36_25).2.2.1 (by decide) (by decide) (XS.iloadN X21.here hx rfl (hb hby d6_93) rfl (XS.ineg X21.here hx rfl (hb hby d6_94) rfl k))) ?_
      show Comes p e below _ (T21.setTop (mkF m 95 #[.val (.ref self), .val (.long xx), .second, .val (.int (1 : Int32)), .val (.int (0 : Int32)), .val (.int (0 : Int32)), .val (.long x0), .second] [(.int (-(1 : Int32)))]))
      rw [show (-(1 : Int32)) = (-1 : Int32) from by decide]
      show Comes p e below _ (T21.setTop (mkF m 95 #[.val (.ref self), .val (.long xx), .second, .val (.int (1 : Int32)), .val (.int (0 : Int32)), .val (.int (0 : Int32)), .val (.long x0), .second] [(.int (-1 : Int32))]))
      refine Comes.st (fun t k => XS.iconst X21.here hx rfl (hb hby d6_95) (XS.isub X21.here hx rfl (hb hby d6_96) rfl k)) ?_
      show Comes p e below _ (T21.setTop (mkF m 97 #[.val (.ref self), .val (.long xx), .second, .val (.int (1 : Int32)), .val (.int (0 : Int32)), .val (.int (0 : Int32)), .val (.long x0), .second] [(.int ((-1 : Int32) - (1 : Int32)))]))
      rw [show ((-1 : Int32) - (1 : Int32)) = (-2 : Int32) from by decide]
      show Comes p e below _ (T21.setTop (mkF m 97 #[.val (.ref self), .val (.long xx), .second, .val (.int (1 : Int32)), .val (.int (0 : Int32)), .val (.int (0 : Int32)), .val (.long x0), .second] [(.int (-2 : Int32))]))
      exact Comes.retV X21 hx Bd.returns rfl (Or.inl ⟨rfl, Or.inl rfl, _, rfl⟩) hlk (hb hby d6_97) hs21 ⟨(-2 : Int32), rfl, N21, rfl, (by exact (Or.inr ⟨rfl, (by have z0 := P5_0; have z1 := P21_0; have y1 := hc27_7; have y4 := hc73_23; have x3 := own_key_ne lbv hc60_20; simp only [← Int32.toInt_inj, Int32.reduceToInt] at z0 z1 y1 y4; omega)⟩))⟩ (by decide) (by decide)
def Q_find2 (Z : State) (self : Nat) (xx : Int64) (lbv : Int32) (ta : Nat) (kt : ClassId) (x0 : Int64) (x1 : Int64) (h0 : Heap) (n0 : Nat) (v : Option Value) (h : Heap) (L : List Loc) : Prop := ∃ (r : Int32), (v = some (.int r)) ∧ (Fr n0 L) ∧ (h = h0) ∧ ((r = (-1 : Int32) ∧ own_key lbv xx < own_key lbv x0) ∨ (r = (-2 : Int32) ∧ own_key lbv x0 < own_key lbv xx ∧ own_key lbv xx < own_key lbv x1) ∨ (r = (-3 : Int32) ∧ own_key lbv x1 < own_key lbv xx))
set_option maxRecDepth 65536 in
set_option maxHeartbeats 40000000 in
theorem find2 (l : Launch) (Z : State) (a0 : Array Value) (hw : ∀ d ∈ tables_1, d.before a0 Z = true) (ws : List Jvm.Cond) (self : Nat) (xx : Int64) (lbv : Int32) (ta : Nat) (kt : ClassId) (x0 : Int64) (x1 : Int64) (h0 : Heap) (n0 : Nat) (Z0 : n0 ≤ h0.size) (G0 : Exa Z h0 self "com/example/tenorbook/tenorbook/engine/Ladder") (G1 : Fld Z h0 self "com/example/tenorbook/tenorbook/engine/Ladder" "ticks" "[J" (.ref ta)) (G2 : Fld Z h0 self "com/example/tenorbook/tenorbook/engine/Ladder" "lowestBest" "Z" (.int lbv)) (G3 : Fld Z h0 self "com/example/tenorbook/tenorbook/engine/Ladder" "count" "I" (.int (2 : Int32))) (G4 : Arv Z h0 ta kt .long (4 : Int32) [(.long x0), (.long x1), (.long (0 : Int64)), (.long (0 : Int64))] (.long (0 : Int64))) (G5 : ¬ x0 = xx) (G6 : ¬ x1 = xx) (G7 : own_key lbv x0 < own_key lbv x1) :
    MetFree l (⟨"com/example/tenorbook/tenorbook/engine/Ladder", "find", "(J)I"⟩ : MethodName) (head1 (Jvm.Cond.code (⟨"com/example/tenorbook/tenorbook/engine/Ladder", "find", "(J)I"⟩ : MethodName) prog_9_method_8_code 8 (some .int) :: ws) ({ frames := 1, cells := 0, slots := 0, locals := 16 } : Room)) (fun a U => a = #[(.ref self), (.long xx)] ∧ Z.Warmed39 U.vm ∧ U.heap = h0) (fun _ _ _ _ _ => True) (fun _ U o U' => ∃ v L, o = .returned v ∧ Q_find2 Z self xx lbv ta kt x0 x1 h0 n0 v U'.heap L ∧ FrameEnd U o U' L ({ frames := 1, cells := 0, slots := 0, locals := 16 } : Room).cells ({ frames := 1, cells := 0, slots := 0, locals := 16 } : Room).slots) := by
  refine MetFree.of_bodySF (plainFor_of_name pn_6) hisR ?_
  intro p e s m args below meth c s₁ Bd hml0 hP hK
  obtain ⟨rfl, hZ, hh⟩ := hP
  have hx := Bd.exec
  have hby := Bd.bytes
  have hml : c.maxLocals = 8 := hml0
  have hown : s.vm.findClass "com/example/tenorbook/tenorbook/engine/Ladder" = some m.cls := findClass_of_methodNamed Bd.named
  have hnm := (name_of_methodNamed Bd.named Bd.method).1
  have hlk : meth.locks = false := Bd.notSynchronized
  have X0 : Stand p l e ({ frames := 1, cells := 0, slots := 0, locals := 16 } : Room) s m #[(.ref self), (.long xx)] below meth c s₁ [] 0 0 := Stand.of_body Bd
  have e0 : s₁.heap = h0 := by rw [← hh, Bd.state]; rfl
  have N0 := Fr.nil n0
  refine Comes.out (Q := Q_find2 Z self xx lbv ta kt x0 x1 h0 n0) (kc := ({ frames := 1, cells := 0, slots := 0, locals := 16 } : Room).cells) (ks := ({ frames := 1, cells := 0, slots := 0, locals := 16 } : Room).slots) ?_
  refine Comes.cast (ef_find2 m self xx) ?_
  have lt_self : self < h0.size := G0.lt
  have lt_ta : ta < h0.size := G4.lt
  have hk0 := own_key_ne lbv G5
  have hk1 := own_key_ne lbv G6
  show Comes p e below _ (s₁.setTop (mkF m 0 #[.val (.ref self), .val (.long xx), .second, .unset, .unset, .unset, .unset, .unset] []))
  refine Comes.st (fun t k => XS.iconst X0.here hx rfl (hb hby d6_0) (XS.istoreN X0.here hx rfl (hb hby d6_1) rfl (l' := #[.val (.ref self), .val (.long xx), .second, .val (.int (0 : Int32)), .unset, .unset, .unset, .unset]) rfl (XS.aloadN X0.here hx rfl (hb hby d6_2) rfl rfl k))) ?_
  show Comes p e below _ (s₁.setTop (mkF m 3 #[.val (.ref self), .val (.long xx), .second, .val (.int (0 : Int32)), .unset, .unset, .unset, .unset] [(.ref self)]))
  obtain ⟨T1, X1, e1, st1⟩ := getF X0 hx hZ hown (host := "") (Or.inl (hw _ (List.mem_of_getElem? (i := 43) rfl))) Via.refl e0 G3 (g := (mkF m 3 #[.val (.ref self), .val (.long xx), .second, .val (.int (0 : Int32)), .unset, .unset, .unset, .unset] [(.ref self)])) rfl rfl (hb hby d6_3)
  refine Comes.st st1 ?_
  show Comes p e below _ (T1.setTop (mkF m 6 #[.val (.ref self), .val (.long xx), .second, .val (.int (0 : Int32)), .unset, .unset, .unset, .unset] [(.int (2 : Int32))]))
  refine Comes.st (fun t k => XS.iconst X1.here hx rfl (hb hby d6_6) (XS.isub X1.here hx rfl (hb hby d6_7) rfl k)) ?_
  show Comes p e below _ (T1.setTop (mkF m 8 #[.val (.ref self), .val (.long xx), .second, .val (.int (0 : Int32)), .unset, .unset, .unset, .unset] [(.int ((2 : Int32) - (1 : Int32)))]))
  rw [show ((2 : Int32) - (1 : Int32)) = (1 : Int32) from by decide]
  show Comes p e below _ (T1.setTop (mkF m 8 #[.val (.ref self), .val (.long xx), .second, .val (.int (0 : Int32)), .unset, .unset, .unset, .unset] [(.int (1 : Int32))]))
  refine Comes.st (fun t k => XS.istore X1.here hx rfl (hb hby d6_8) rfl (l' := #[.val (.ref self), .val (.long xx), .second, .val (.int (0 : Int32)), .val (.int (1 : Int32)), .unset, .unset, .unset]) rfl (XS.iload X1.here hx rfl (hb hby d6_10) rfl k)) ?_
  show Comes p e below _ (T1.setTop (mkF m 12 #[.val (.ref self), .val (.long xx), .second, .val (.int (0 : Int32)), .val (.int (1 : Int32)), .unset, .unset, .unset] [(.int (1 : Int32))]))
  have hc12_2 : ¬ ((1 : Int32) < (0 : Int32)) := by decide
  refine Comes.st (fun t k => XS.ifNo X1.here hx rfl (hb hby d6_12) rfl ((if0 _ _).trans (flt hc12_2).1) (XS.aloadN X1.here hx rfl (hb hby d6_15) rfl rfl (XS.lloadN X1.here hx rfl (hb hby d6_16) rfl (XS.aloadN X1.here hx rfl (hb hby d6_17) rfl rfl k)))) ?_
  show Comes p e below _ (T1.setTop (mkF m 18 #[.val (.ref self), .val (.long xx), .second, .val (.int (0 : Int32)), .val (.int (1 : Int32)), .unset, .unset, .unset] [(.ref self), (.long xx), (.ref self)]))
  obtain ⟨T3, X3, e3, st3⟩ := getF X1 hx hZ hown (host := "") (Or.inl (hw _ (List.mem_of_getElem? (i := 10) rfl))) Via.refl e1 G1 (g := (mkF m 18 #[.val (.ref self), .val (.long xx), .second, .val (.int (0 : Int32)), .val (.int (1 : Int32)), .unset, .unset, .unset] [(.ref self), (.long xx), (.ref self)])) rfl rfl (hb hby d6_18)
  refine Comes.st st3 ?_
  show Comes p e below _ (T3.setTop (mkF m 21 #[.val (.ref self), .val (.long xx), .second, .val (.int (0 : Int32)), .val (.int (1 : Int32)), .unset, .unset, .unset] [(.ref ta), (.long xx), (.ref self)]))
  refine Comes.st (fun t k => XS.iload X3.here hx rfl (hb hby d6_21) rfl k) ?_
  show Comes p e below _ (T3.setTop (mkF m 23 #[.val (.ref self), .val (.long xx), .second, .val (.int (0 : Int32)), .val (.int (1 : Int32)), .unset, .unset, .unset] [(.int (1 : Int32)), (.ref ta), (.long xx), (.ref self)]))
  obtain ⟨cl4, Ar4, q4, S4, Ng4, H4, Gf4⟩ := id G4
  have hin4 : ¬ ((1 : Int32) < 0 ∨ cl4.slots.size ≤ ((1 : Int32)).toNatClampNeg) := inb_of S4 ⟨by decide, by decide⟩
  refine Comes.st (fun t k => X3.laload hx (j := (1 : Int32)) (v := (.long x1)) (by rw [e3]; exact Ar4.1) (State.isArrayOf_alike hZ.alike Ar4.2.1) Ar4.2.2 hin4 (Has.at H4 hin4 rfl) (g := (mkF m 23 #[.val (.ref self), .val (.long xx), .second, .val (.int (0 : Int32)), .val (.int (1 : Int32)), .unset, .unset, .unset] [(.int (1 : Int32)), (.ref ta), (.long xx), (.ref self)])) rfl rfl (hb hby d6_23) _ k) ?_
  show Comes p e below _ (T3.setTop (mkF m 24 #[.val (.ref self), .val (.long xx), .second, .val (.int (0 : Int32)), .val (.int (1 : Int32)), .unset, .unset, .unset] [(.long x1), (.long xx), (.ref self)]))
  obtain ⟨cq5, q5, q5'⟩ := G0.cell
  obtain ⟨_, _, ⟨T5, L5, k5, n5⟩, -, X5, ⟨Lc5, hQ5, l5, y5, z5⟩, st5⟩ := X3.privateBack hx (y := (⟨"com/example/tenorbook/tenorbook/engine/Ladder", "worse", "(JJ)Z"⟩ : MethodName)) hown (mvT hZ (hw _ (List.mem_of_getElem? (i := 52) rfl))) (mvT hZ (hw _ (List.mem_of_getElem? (i := 53) rfl))) (mvT hZ (own_selp (y := (⟨"com/example/tenorbook/tenorbook/engine/Ladder", "worse", "(JJ)Z"⟩ : MethodName)) (hw _ (List.mem_of_getElem? (i := 1) rfl)) (hw _ (List.mem_of_getElem? (i := 54) rfl)) (hw _ (List.mem_of_getElem? (i := 53) rfl)) (by decide))) (Cond.privateMethod_at (mvP hZ (hw _ (List.mem_of_getElem? (i := 54) rfl)) (args := #[]))) (mvT hZ (hw _ (List.mem_of_getElem? (i := 55) rfl))) (by decide) (backOf (W := 0) (rm7 l Z a0 hw [] self xx x1 lbv h0 n0 (by omega)  G2) hZ (hw _ (List.mem_of_getElem? (i := 55) rfl)) (hw _ (List.mem_of_getElem? (i := 2) rfl)) (by decide) (by decide)) (g := (mkF m 24 #[.val (.ref self), .val (.long xx), .second, .val (.int (0 : Int32)), .val (.int (1 : Int32)), .unset, .unset, .unset] [(.long x1), (.long xx), (.ref self)])) rfl (by rw [hml]; rfl) (Steps.refl _) (a := self) (by rw [e3]; exact q5) q5' (argsL := [(.long xx), (.long x1)]) (rest := []) (lenOf pd_0 rfl) rfl (by show 2 * 0 + _ ≤ _; exact Nat.le_of_eq rfl) (hb hby d6_24) (fun _ _ => ⟨rfl, e3, (by decide : 0 + 0 ≤ _), (by decide : 0 + 0 ≤ _)⟩)
  dsimp only [Pt.U, Pt.locs, Pt.cells, Pt.slots] at X5 l5 y5 z5 st5 hQ5
  subst l5 y5 z5
  obtain ⟨r6, rfl, Nq5, hs5, P5_0⟩ := hQ5
  have N5 := Fr.app N0 Nq5
  refine Comes.go st5 ?_
  show Comes p e below _ (T5.setTop (mkF m 27 #[.val (.ref self), .val (.long xx), .second, .val (.int (0 : Int32)), .val (.int (1 : Int32)), .unset, .unset, .unset] [(.int r6)]))
  by_cases hc27_7 : r6 = (0 : Int32)
  · refine Comes.st (fun t k => XS.ifNo X5.here hx rfl (hb hby d6_27) rfl ((if0 _ _).trans (teq hc27_7).2) (XS.iload X5.here hx rfl (hb hby d6_30) rfl (XS.istoreN X5.here hx rfl (hb hby d6_32) rfl (l' := #[.val (.ref self), .val (.long xx), .second, .val (.int (1 : Int32)), .val (.int (1 : Int32)), .unset, .unset, .unset]) rfl (XS.iloadN X5.here hx rfl (hb hby d6_33) rfl (XS.iload X5.here hx rfl (hb hby d6_34) rfl k))))) ?_
    show Comes p e below _ (T5.setTop (mkF m 36 #[.val (.ref self), .val (.long xx), .second, .val (.int (1 : Int32)), .val (.int (1 : Int32)), .unset, .unset, .unset] [(.int (1 : Int32)), (.int (1 : Int32))]))
    have hc36_8 : ¬ ((1 : Int32) < (1 : Int32)) := by decide
    refine Comes.st (fun t k => XS.icmpNo X5.here hx rfl (hb hby d6_36) rfl (flt hc36_8).2.2.1 (XS.iloadN X5.here hx rfl (hb hby d6_39) rfl (XS.iload X5.here hx rfl (hb hby d6_40) rfl (XS.iadd X5.here hx rfl (hb hby d6_42) rfl k)))) ?_
    show Comes p e below _ (T5.setTop (mkF m 43 #[.val (.ref self), .val (.long xx), .second, .val (.int (1 : Int32)), .val (.int (1 : Int32)), .unset, .unset, .unset] [(.int ((1 : Int32) + (1 : Int32)))]))
    rw [show ((1 : Int32) + (1 : Int32)) = (2 : Int32) from by decide]
    show Comes p e below _ (T5.setTop (mkF m 43 #[.val (.ref self), .val (.long xx), .second, .val (.int (1 : Int32)), .val (.int (1 : Int32)), .unset, .unset, .unset] [(.int (2 : Int32))]))
    refine Comes.st (fun t k => XS.iconst X5.here hx rfl (hb hby d6_43) (XS.iushr X5.here hx rfl (hb hby d6_44) rfl k)) ?_
    show Comes p e below _ (T5.setTop (mkF m 45 #[.val (.ref self), .val (.long xx), .second, .val (.int (1 : Int32)), .val (.int (1 : Int32)), .unset, .unset, .unset] [(.int (((2 : Int32).toUInt32 >>> ((1 : Int32) &&& 31).toUInt32).toInt32))]))
    rw [show (((2 : Int32).toUInt32 >>> ((1 : Int32) &&& 31).toUInt32).toInt32) = (1 : Int32) from by decide]
    show Comes p e below _ (T5.setTop (mkF m 45 #[.val (.ref self), .val (.long xx), .second, .val (.int (1 : Int32)), .val (.int (1 : Int32)), .unset, .unset, .unset] [(.int (1 : Int32))]))
    refine Comes.st (fun t k => XS.istore X5.here hx rfl (hb hby d6_45) rfl (l' := #[.val (.ref self), .val (.long xx), .second, .val (.int (1 : Int32)), .val (.int (1 : Int32)), .val (.int (1 : Int32)), .unset, .unset]) rfl (XS.aloadN X5.here hx rfl (hb hby d6_47) rfl rfl k)) ?_
    show Comes p e below _ (T5.setTop (mkF m 48 #[.val (.ref self), .val (.long xx), .second, .val (.int (1 : Int32)), .val (.int (1 : Int32)), .val (.int (1 : Int32)), .unset, .unset] [(.ref self)]))
    obtain ⟨T9, X9, e9, st9⟩ := getF X5 hx hZ hown (host := "") (Or.inl (hw _ (List.mem_of_getElem? (i := 10) rfl))) Via.refl hs5 G1 (g := (mkF m 48 #[.val (.ref self), .val (.long xx), .second, .val (.int (1 : Int32)), .val (.int (1 : Int32)), .val (.int (1 : Int32)), .unset, .unset] [(.ref self)])) rfl rfl (hb hby d6_48)
    refine Comes.st st9 ?_
    show Comes p e below _ (T9.setTop (mkF m 51 #[.val (.ref self), .val (.long xx), .second, .val (.int (1 : Int32)), .val (.int (1 : Int32)), .val (.int (1 : Int32)), .unset, .unset] [(.ref ta)]))
    refine Comes.st (fun t k => XS.iload X9.here hx rfl (hb hby d6_51) rfl k) ?_
    show Comes p e below _ (T9.setTop (mkF m 53 #[.val (.ref self), .val (.long xx), .second, .val (.int (1 : Int32)), .val (.int (1 : Int32)), .val (.int (1 : Int32)), .unset, .unset] [(.int (1 : Int32)), (.ref ta)]))
    obtain ⟨cl10, Ar10, q10, S10, Ng10, H10, Gf10⟩ := id G4
    have hin10 : ¬ ((1 : Int32) < 0 ∨ cl10.slots.size ≤ ((1 : Int32)).toNatClampNeg) := inb_of S10 ⟨by decide, by decide⟩
    refine Comes.st (fun t k => X9.laload hx (j := (1 : Int32)) (v := (.long x1)) (by rw [e9]; exact Ar10.1) (State.isArrayOf_alike hZ.alike Ar10.2.1) Ar10.2.2 hin10 (Has.at H10 hin10 rfl) (g := (mkF m 53 #[.val (.ref self), .val (.long xx), .second, .val (.int (1 : Int32)), .val (.int (1 : Int32)), .val (.int (1 : Int32)), .unset, .unset] [(.int (1 : Int32)), (.ref ta)])) rfl rfl (hb hby d6_53) _ (XS.lstore X9.here hx rfl (hb hby d6_54) rfl (l' := #[.val (.ref self), .val (.long xx), .second, .val (.int (1 : Int32)), .val (.int (1 : Int32)), .val (.int (1 : Int32)), .val (.long x1), .second]) rfl (XS.lload X9.here hx rfl (hb hby d6_56) rfl (XS.lloadN X9.here hx rfl (hb hby d6_58) rfl (XS.lcmp X9.here hx rfl (hb hby d6_59) rfl k))))) ?_
    show Comes p e below _ (T9.setTop (mkF m 60 #[.val (.ref self), .val (.long xx), .second, .val (.int (1 : Int32)), .val (.int (1 : Int32)), .val (.int (1 : Int32)), .val (.long x1), .second] [(.int (lcmpW x1 xx))]))
    have hc60_11 : ¬ (x1 = xx) := by assumption
    refine Comes.st (fun t k => XS.ifYes X9.here hx rfl (pc0 := 60) (pc' := 66) rfl (hb hby d6_60) rfl ((if0 _ _).trans (feq (fun q => hc60_11 ((lw_eq _ _).mp q))).2) (by decide) (by decide) (XS.aloadN X9.here hx rfl (hb hby d6_66) rfl rfl (XS.lload X9.here hx rfl (hb hby d6_67) rfl (XS.lloadN X9.here hx rfl (hb hby d6_69) rfl k)))) ?_
    show Comes p e below _ (T9.setTop (mkF m 70 #[.val (.ref self), .val (.long xx), .second, .val (.int (1 : Int32)), .val (.int (1 : Int32)), .val (.int (1 : Int32)), .val (.long x1), .second] [(.long xx), (.long x1), (.ref self)]))
    obtain ⟨cq12, q12, q12'⟩ := G0.cell
    obtain ⟨_, _, ⟨T12, L12, k12, n12⟩, -, X12, ⟨Lc12, hQ12, l12, y12, z12⟩, st12⟩ := X9.privateBack hx (y := (⟨"com/example/tenorbook/tenorbook/engine/Ladder", "worse", "(JJ)Z"⟩ : MethodName)) hown (mvT hZ (hw _ (List.mem_of_getElem? (i := 52) rfl))) (mvT hZ (hw _ (List.mem_of_getElem? (i := 53) rfl))) (mvT hZ (own_selp (y := (⟨"com/example/tenorbook/tenorbook/engine/Ladder", "worse", "(JJ)Z"⟩ : MethodName)) (hw _ (List.mem_of_getElem? (i := 1) rfl)) (hw _ (List.mem_of_getElem? (i := 54) rfl)) (hw _ (List.mem_of_getElem? (i := 53) rfl)) (by decide))) (Cond.privateMethod_at (mvP hZ (hw _ (List.mem_of_getElem? (i := 54) rfl)) (args := #[]))) (mvT hZ (hw _ (List.mem_of_getElem? (i := 55) rfl))) (by decide) (backOf (W := 0) (rm7 l Z a0 hw [] self x1 xx lbv h0 n0 (by omega)  G2) hZ (hw _ (List.mem_of_getElem? (i := 55) rfl)) (hw _ (List.mem_of_getElem? (i := 2) rfl)) (by decide) (by decide)) (g := (mkF m 70 #[.val (.ref self), .val (.long xx), .second, .val (.int (1 : Int32)), .val (.int (1 : Int32)), .val (.int (1 : Int32)), .val (.long x1), .second] [(.long xx), (.long x1), (.ref self)])) rfl (by rw [hml]; rfl) (Steps.refl _) (a := self) (by rw [e9]; exact q12) q12' (argsL := [(.long x1), (.long xx)]) (rest := []) (lenOf pd_0 rfl) rfl (by show 2 * 0 + _ ≤ _; exact Nat.le_of_eq rfl) (hb hby d6_70) (fun _ _ => ⟨rfl, e9, (by decide : 0 + 0 ≤ _), (by decide : 0 + 0 ≤ _)⟩)
    dsimp only [Pt.U, Pt.locs, Pt.cells, Pt.slots] at X12 l12 y12 z12 st12 hQ12
    subst l12 y12 z12
    obtain ⟨r13, rfl, Nq12, hs12, P12_0⟩ := hQ12
    have N12 := Fr.app N5 Nq12
    refine Comes.go st12 ?_
    show Comes p e below _ (T12.setTop (mkF m 73 #[.val (.ref self), .val (.long xx), .second, .val (.int (1 : Int32)), .val (.int (1 : Int32)), .val (.int (1 : Int32)), .val (.long x1), .second] [(.int r13)]))
    by_cases hc73_14 : r13 = (0 : Int32)
    · refine Comes.st (fun t k => XS.ifYes X12.here hx rfl (pc0 := 73) (pc' := 84) rfl (hb hby d6_73) rfl ((if0 _ _).trans (teq hc73_14).1) (by decide) (by decide) (XS.iload X12.here hx rfl (hb hby d6_84) rfl (XS.iconst X12.here hx rfl (hb hby d6_86) (XS.isub X12.here hx rfl (hb hby d6_87) rfl k)))) ?_
      show Comes p e below _ (T12.setTop (mkF m 88 #[.val (.ref self), .val (.long xx), .second, .val (.int (1 : Int32)), .val (.int (1 : Int32)), .val (.int (1 : Int32)), .val (.long x1), .second] [(.int ((1 : Int32) - (1 : Int32)))]))
      rw [show ((1 : Int32) - (1 : Int32)) = (0 : Int32) from by decide]
      show Comes p e below _ (T12.setTop (mkF m 88 #[.val (.ref self), .val (.long xx), .second, .val (.int (1 : Int32)), .val (.int (1 : Int32)), .val (.int (1 : Int32)), .val (.long x1), .second] [(.int (0 : Int32))]))
      refine Comes.st (fun t k => XS.istore X12.here hx rfl (hb hby d6_88) rfl (l' := #[.val (.ref self), .val (.long xx), .second, .val (.int (1 : Int32)), .val (.int (0 : Int32)), .val (.int (1 : Int32)), .val (.long x1), .second]) rfl (XS.goto X12.here hx rfl (pc0 := 90) (pc' := 33) rfl (hb hby d6_90) (by decide) (by decide) (XS.iloadN X12.here hx rfl (hb hby d6_33) rfl (XS.iload X12.here hx rfl (hb hby d6_34) rfl k)))) ?_
      show Comes p e below _ (T12.setTop (mkF m 36 #[.val (.ref self), .val (.long xx), .second, .val (.int (1 : Int32)), .val (.int (0 : Int32)), .val (.int (1 : Int32)), .val (.long x1), .second] [(.int (0 : Int32)), (.int (1 : Int32))]))
      have hc36_15 : (0 : Int32) < (1 : Int32) := by decide
      refine Comes.st (fun t k => XS.icmpYes X12.here hx rfl (pc0 := 36) (pc' := 93) rfl (hb hby d6_36) rfl (tlt hc36_15).2.2.1 (by decide) (by decide) (XS.iloadN X12.here hx rfl (hb hby d6_93) rfl (XS.ineg X12.here hx rfl (hb hby d6_94) rfl k))) ?_
      show Comes p e below _ (T12.setTop (mkF m 95 #[.val (.ref self), .val (.long xx), .second, .val (.int (1 : Int32)), .val (.int (0 : Int32)), .val (.int (1 : Int32)), .val (.long x1), .second] [(.int (-(1 : Int32)))]))
      rw [show (-(1 : Int32)) = (-1 : Int32) from by decide]
      show Comes p e below _ (T12.setTop (mkF m 95 #[.val (.ref self), .val (.long xx), .second, .val (.int (1 : Int32)), .val (.int (0 : Int32)), .val (.int (1 : Int32)), .val (.long x1), .second] [(.int (-1 : Int32))]))
      refine Comes.st (fun t k => XS.iconst X12.here hx rfl (hb hby d6_95) (XS.isub X12.here hx rfl (hb hby d6_96) rfl k)) ?_
      show Comes p e below _ (T12.setTop (mkF m 97 #[.val (.ref self), .val (.long xx), .second, .val (.int (1 : Int32)), .val (.int (0 : Int32)), .val (.int (1 : Int32)), .val (.long x1), .second] [(.int ((-1 : Int32) - (1 : Int32)))]))
      rw [show ((-1 : Int32) - (1 : Int32)) = (-2 : Int32) from by decide]
      show Comes p e below _ (T12.setTop (mkF m 97 #[.val (.ref self), .val (.long xx), .second, .val (.int (1 : Int32)), .val (.int (0 : Int32)), .val (.int (1 : Int32)), .val (.long x1), .second] [(.int (-2 : Int32))]))
      exact Comes.retV X12 hx Bd.returns rfl (Or.inl ⟨rfl, Or.inl rfl, _, rfl⟩) hlk (hb hby d6_97) hs12 ⟨(-2 : Int32), rfl, N12, rfl, (by exact (Or.inr (Or.inl ⟨rfl, (by have z0 := P5_0; have z1 := P12_0; have y1 := hc27_7; have y4 := hc73_14; have x3 := own_key_ne lbv hc60_11; simp only [← Int32.toInt_inj, Int32.reduceToInt] at z0 z1 y1 y4; omega), (by have z0 := P5_0; have z1 := P12_0; have y1 := hc27_7; have y4 := hc73_14; have x3 := own_key_ne lbv hc60_11; simp only [← Int32.toInt_inj, Int32.reduceToInt] at z0 z1 y1 y4; omega)⟩)))⟩ (by decide) (by decide)
    · refine Comes.st (fun t k => XS.ifNo X12.here hx rfl (hb hby d6_73) rfl ((if0 _ _).trans (feq hc73_14).1) (XS.iload X12.here hx rfl (hb hby d6_76) rfl (XS.iconst X12.here hx rfl (hb hby d6_78) (XS.iadd X12.here hx rfl (hb hby d6_79) rfl k)))) ?_
      show Comes p e below _ (T12.setTop (mkF m 80 #[.val (.ref self), .val (.long xx), .second, .val (.int (1 : Int32)), .val (.int (1 : Int32)), .val (.int (1 : Int32)), .val (.long x1), .second] [(.int ((1 : Int32) + (1 : Int32)))]))
      rw [show ((1 : Int32) + (1 : Int32)) = (2 : Int32) from by decide]
      show Comes p e below _ (T12.setTop (mkF m 80 #[.val (.ref self), .val (.long xx), .second, .val (.int (1 : Int32)), .val (.int (1 : Int32)), .val (.int (1 : Int32)), .val (.long x1), .second] [(.int (2 : Int32))]))
      refine Comes.st (fun t k => XS.istoreN X12.here hx rfl (hb hby d6_80) rfl (l' := #[.val (.ref self), .val (.long xx), .second, .val (.int (2 : Int32)), .val (.int (1 : Int32)), .val (.int (1 : Int32)), .val (.long x1), .second]) rfl (XS.goto X12.here hx rfl (pc0 := 81) (pc' := 90) rfl (hb hby d6_81) (by decide) (by decide) (XS.goto X12.here hx rfl (pc0 := 90) (pc' := 33) rfl (hb hby d6_90) (by decide) (by decide) (XS.iloadN X12.here hx rfl (hb hby d6_33) rfl (XS.iload X12.here hx rfl (hb hby d6_34) rfl k))))) ?_
      show Comes p e below _ (T12.setTop (mkF m 36 #[.val (.ref self), .val (.long xx), .second, .val (.int (2 : Int32)), .val (.int (1 : Int32)), .val (.int (1 : Int32)), .val (.long x1), .second] [(.int (1 : Int32)), (.int (2 : Int32))]))
      have hc36_16 : (1 : Int32) < (2 : Int32) := by decide
      refine Comes.st (fun t k => XS.icmpYes X12.here hx rfl (pc0 := 36) (pc' := 93) rfl (hb hby d6_36) rfl (tlt hc36_16).2.2.1 (by decide) (by decide) (XS.iloadN X12.here hx rfl (hb hby d6_93) rfl (XS.ineg X12.here hx rfl (hb hby d6_94) rfl k))) ?_
      show Comes p e below _ (T12.setTop (mkF m 95 #[.val (.ref self), .val (.long xx), .second, .val (.int (2 : Int32)), .val (.int (1 : Int32)), .val (.int (1 : Int32)), .val (.long x1), .second] [(.int (-(2 : Int32)))]))
      rw [show (-(2 : Int32)) = (-2 : Int32) from by decide]
      show Comes p e below _ (T12.setTop (mkF m 95 #[.val (.ref self), .val (.long xx), .second, .val (.int (2 : Int32)), .val (.int (1 : Int32)), .val (.int (1 : Int32)), .val (.long x1), .second] [(.int (-2 : Int32))]))
      refine Comes.st (fun t k => XS.iconst X12.here hx rfl (hb hby d6_95) (XS.isub X12.here hx rfl (hb hby d6_96) rfl k)) ?_
      show Comes p e below _ (T12.setTop (mkF m 97 #[.val (.ref self), .val (.long xx), .second, .val (.int (2 : Int32)), .val (.int (1 : Int32)), .val (.int (1 : Int32)), .val (.long x1), .second] [(.int ((-2 : Int32) - (1 : Int32)))]))
      rw [show ((-2 : Int32) - (1 : Int32)) = (-3 : Int32) from by decide]
      show Comes p e below _ (T12.setTop (mkF m 97 #[.val (.ref self), .val (.long xx), .second, .val (.int (2 : Int32)), .val (.int (1 : Int32)), .val (.int (1 : Int32)), .val (.long x1), .second] [(.int (-3 : Int32))]))
      exact Comes.retV X12 hx Bd.returns rfl (Or.inl ⟨rfl, Or.inl rfl, _, rfl⟩) hlk (hb hby d6_97) hs12 ⟨(-3 : Int32), rfl, N12, rfl, (by exact (Or.inr (Or.inr ⟨rfl, (by have z0 := P5_0; have z1 := P12_0; have y1 := hc27_7; have y4 := hc73_14; have x3 := own_key_ne lbv hc60_11; simp only [← Int32.toInt_inj, Int32.reduceToInt] at z0 z1 y1 y4; omega)⟩)))⟩ (by decide) (by decide)
  · refine Comes.st (fun t k => XS.ifYes X5.here hx rfl (pc0 := 27) (pc' := 33) rfl (hb hby d6_27) rfl ((if0 _ _).trans (feq hc27_7).2) (by decide) (by decide) (XS.iloadN X5.here hx rfl (hb hby d6_33) rfl (XS.iload X5.here hx rfl (hb hby d6_34) rfl k))) ?_
    show Comes p e below _ (T5.setTop (mkF m 36 #[.val (.ref self), .val (.long xx), .second, .val (.int (0 : Int32)), .val (.int (1 : Int32)), .unset, .unset, .unset] [(.int (1 : Int32)), (.int (0 : Int32))]))
    have hc36_17 : ¬ ((1 : Int32) < (0 : Int32)) := by decide
    refine Comes.st (fun t k => XS.icmpNo X5.here hx rfl (hb hby d6_36) rfl (flt hc36_17).2.2.1 (XS.iloadN X5.here hx rfl (hb hby d6_39) rfl (XS.iload X5.here hx rfl (hb hby d6_40) rfl (XS.iadd X5.here hx rfl (hb hby d6_42) rfl k)))) ?_
    show Comes p e below _ (T5.setTop (mkF m 43 #[.val (.ref self), .val (.long xx), .second, .val (.int (0 : Int32)), .val (.int (1 : Int32)), .unset, .unset, .unset] [(.int ((0 : Int32) + (1 : Int32)))]))
    rw [show ((0 : Int32) + (1 : Int32)) = (1 : Int32) from by decide]
    show Comes p e below _ (T5.setTop (mkF m 43 #[.val (.ref self), .val (.long xx), .second, .val (.int (0 : Int32)), .val (.int (1 : Int32)), .unset, .unset, .unset] [(.int (1 : Int32))]))
    refine Comes.st (fun t k => XS.iconst X5.here hx rfl (hb hby d6_43) (XS.iushr X5.here hx rfl (hb hby d6_44) rfl k)) ?_
    show Comes p e below _ (T5.setTop (mkF m 45 #[.val (.ref self), .val (.long xx), .second, .val (.int (0 : Int32)), .val (.int (1 : Int32)), .unset, .unset, .unset] [(.int (((1 : Int32).toUInt32 >>> ((1 : Int32) &&& 31).toUInt32).toInt32))]))
    rw [show (((1 : Int32).toUInt32 >>> ((1 : Int32) &&& 31).toUInt32).toInt32) = (0 : Int32) from by decide]
    show Comes p e below _ (T5.setTop (mkF m 45 #[.val (.ref self), .val (.long xx), .second, .val (.int (0 : Int32)), .val (.int (1 : Int32)), .unset, .unset, .unset] [(.int (0 : Int32))]))
    refine Comes.st (fun t k => XS.istore X5.here hx rfl (hb hby d6_45) rfl (l' := #[.val (.ref self), .val (.long xx), .second, .val (.int (0 : Int32)), .val (.int (1 : Int32)), .val (.int (0 : Int32)), .unset, .unset]) rfl (XS.aloadN X5.here hx rfl (hb hby d6_47) rfl rfl k)) ?_
    show Comes p e below _ (T5.setTop (mkF m 48 #[.val (.ref self), .val (.long xx), .second, .val (.int (0 : Int32)), .val (.int (1 : Int32)), .val (.int (0 : Int32)), .unset, .unset] [(.ref self)]))
    obtain ⟨T18, X18, e18, st18⟩ := getF X5 hx hZ hown (host := "") (Or.inl (hw _ (List.mem_of_getElem? (i := 10) rfl))) Via.refl hs5 G1 (g := (mkF m 48 #[.val (.ref self), .val (.long xx), .second, .val (.int (0 : Int32)), .val (.int (1 : Int32)), .val (.int (0 : Int32)), .unset, .unset] [(.ref self)])) rfl rfl (hb hby d6_48)
    refine Comes.st st18 ?_
    show Comes p e below _ (T18.setTop (mkF m 51 #[.val (.ref self), .val (.long xx), .second, .val (.int (0 : Int32)), .val (.int (1 : Int32)), .val (.int (0 : Int32)), .unset, .unset] [(.ref ta)]))
    refine Comes.st (fun t k => XS.iload X18.here hx rfl (hb hby d6_51) rfl k) ?_
    show Comes p e below _ (T18.setTop (mkF m 53 #[.val (.ref self), .val (.long xx), .second, .val (.int (0 : Int32)), .val (.int (1 : Int32)), .val (.int (0 : Int32)), .unset, .unset] [(.int (0 : Int32)), (.ref ta)]))
    obtain ⟨cl19, Ar19, q19, S19, Ng19, H19, Gf19⟩ := id G4
    have hin19 : ¬ ((0 : Int32) < 0 ∨ cl19.slots.size ≤ ((0 : Int32)).toNatClampNeg) := inb_of S19 ⟨by decide, by decide⟩
    refine Comes.st (fun t k => X18.laload hx (j := (0 : Int32)) (v := (.long x0)) (by rw [e18]; exact Ar19.1) (State.isArrayOf_alike hZ.alike Ar19.2.1) Ar19.2.2 hin19 (Has.at H19 hin19 rfl) (g := (mkF m 53 #[.val (.ref self), .val (.long xx), .second, .val (.int (0 : Int32)), .val (.int (1 : Int32)), .val (.int (0 : Int32)), .unset, .unset] [(.int (0 : Int32)), (.ref ta)])) rfl rfl (hb hby d6_53) _ (XS.lstore X18.here hx rfl (hb hby d6_54) rfl (l' := #[.val (.ref self), .val (.long xx), .second, .val (.int (0 : Int32)), .val (.int (1 : Int32)), .val (.int (0 : Int32)), .val (.long x0), .second]) rfl (XS.lload X18.here hx rfl (hb hby d6_56) rfl (XS.lloadN X18.here hx rfl (hb hby d6_58) rfl (XS.lcmp X18.here hx rfl (hb hby d6_59) rfl k))))) ?_
    show Comes p e below _ (T18.setTop (mkF m 60 #[.val (.ref self), .val (.long xx), .second, .val (.int (0 : Int32)), .val (.int (1 : Int32)), .val (.int (0 : Int32)), .val (.long x0), .second] [(.int (lcmpW x0 xx))]))
    have hc60_20 : ¬ (x0 = xx) := by assumption
    refine Comes.st (fun t k => XS.ifYes X18.here hx rfl (pc0 := 60) (pc' := 66) rfl (hb hby d6_60) rfl ((if0 _ _).trans (feq (fun q => hc60_20 ((lw_eq _ _).mp q))).2) (by decide) (by decide) (XS.aloadN X18.here hx rfl (hb hby d6_66) rfl rfl (XS.lload X18.here hx rfl (hb hby d6_67) rfl (XS.lloadN X18.here hx rfl (hb hby d6_69) rfl k)))) ?_
    show Comes p e below _ (T18.setTop (mkF m 70 #[.val (.ref self), .val (.long xx), .second, .val (.int (0 : Int32)), .val (.int (1 : Int32)), .val (.int (0 : Int32)), .val (.long x0), .second] [(.long xx), (.long x0), (.ref self)]))
    obtain ⟨cq21, q21, q21'⟩ := G0.cell
    obtain ⟨_, _, ⟨T21, L21, k21, n21⟩, -, X21, ⟨Lc21, hQ21, l21, y21, z21⟩, st21⟩ := X18.privateBack hx (y := (⟨"com/example/tenorbook/tenorbook/engine/Ladder", "worse", "(JJ)Z"⟩ : MethodName)) hown (mvT hZ (hw _ (List.mem_of_getElem? (i := 52) rfl))) (mvT hZ (hw _ (List.mem_of_getElem? (i := 53) rfl))) (mvT hZ (own_selp (y := (⟨"com/example/tenorbook/tenorbook/engine/Ladder", "worse", "(JJ)Z"⟩ : MethodName)) (hw _ (List.mem_of_getElem? (i := 1) rfl)) (hw _ (List.mem_of_getElem? (i := 54) rfl)) (hw _ (List.mem_of_getElem? (i := 53) rfl)) (by decide))) (Cond.privateMethod_at (mvP hZ (hw _ (List.mem_of_getElem? (i := 54) rfl)) (args := #[]))) (mvT hZ (hw _ (List.mem_of_getElem? (i := 55) rfl))) (by decide) (backOf (W := 0) (rm7 l Z a0 hw [] self x0 xx lbv h0 n0 (by omega)  G2) hZ (hw _ (List.mem_of_getElem? (i := 55) rfl)) (hw _ (List.mem_of_getElem? (i := 2) rfl)) (by decide) (by decide)) (g := (mkF m 70 #[.val (.ref self), .val (.long xx), .second, .val (.int (0 : Int32)), .val (.int (1 : Int32)), .val (.int (0 : Int32)), .val (.long x0), .second] [(.long xx), (.long x0), (.ref self)])) rfl (by rw [hml]; rfl) (Steps.refl _) (a := self) (by rw [e18]; exact q21) q21' (argsL := [(.long x0), (.long xx)]) (rest := []) (lenOf pd_0 rfl) rfl (by show 2 * 0 + _ ≤ _; exact Nat.le_of_eq rfl) (hb hby d6_70) (fun _ _ => ⟨rfl, e18, (by decide : 0 + 0 ≤ _), (by decide : 0 + 0 ≤ _)⟩)
    dsimp only [Pt.U, Pt.locs, Pt.cells, Pt.slots] at X21 l21 y21 z21 st21 hQ21
    subst l21 y21 z21
    obtain ⟨r22, rfl, Nq21, hs21, P21_0⟩ := hQ21
    have N21 := Fr.app N5 Nq21
    refine Comes.go st21 ?_
    show Comes p e below _ (T21.setTop (mkF m 73 #[.val (.ref self), .val (.long xx), .second, .val (.int (0 : Int32)), .val (.int (1 : Int32)), .val (.int (0 : Int32)), .val (.long x0), .second] [(.int r22)]))
    by_cases hc73_23 : r22 = (0 : Int32)
    · refine Comes.st (fun t k => XS.ifYes X21.here hx rfl (pc0 := 73) (pc' := 84) rfl (hb hby d6_73) rfl ((if0 _ _).trans (teq hc73_23).1) (by decide) (by decide) (XS.iload X21.here hx rfl (hb hby d6_84) rfl (XS.iconst X21.here hx rfl (hb hby d6_86) (XS.isub X21.here hx rfl (hb hby d6_87) rfl k)))) ?_
      show Comes p e below _ (T21.setTop (mkF m 88 #[.val (.ref self), .val (.long xx), .second, .val (.int (0 : Int32)), .val (.int (1 : Int32)), .val (.int (0 : Int32)), .val (.long x0), .second] [(.int ((0 : Int32) - (1 : Int32)))]))
      rw [show ((0 : Int32) - (1 : Int32)) = (-1 : Int32) from by decide]
      show Comes p e below _ (T21.setTop (mkF m 88 #[.val (.ref self), .val (.long xx), .second, .val (.int (0 : Int32)), .val (.int (1 : Int32)), .val (.int (0 : Int32)), .val (.long x0), .second] [(.int (-1 : Int32))]))
      refine Comes.st (fun t k => XS.istore X21.here hx rfl (hb hby d6_88) rfl (l' := #[.val (.ref self), .val (.long xx), .second, .val (.int (0 : Int32)), .val (.int (-1 : Int32)), .val (.int (0 : Int32)), .val (.long x0), .second]) rfl (XS.goto X21.here hx rfl (pc0 := 90) (pc' := 33) rfl (hb hby d6_90) (by decide) (by decide) (XS.iloadN X21.here hx rfl (hb hby d6_33) rfl (XS.iload X21.here hx rfl (hb hby d6_34) rfl k)))) ?_
      show Comes p e below _ (T21.setTop (mkF m 36 #[.val (.ref self), .val (.long xx), .second, .val (.int (0 : Int32)), .val (.int (-1 : Int32)), .val (.int (0 : Int32)), .val (.long x0), .second] [(.int (-1 : Int32)), (.int (0 : Int32))]))
      have hc36_24 : (-1 : Int32) < (0 : Int32) := by decide
      refine Comes.st (fun t k => XS.icmpYes X21.here hx rfl (pc0 := 36) (pc' := 93) rfl (hb hby d6_36) rfl (tlt hc36_24).2.2.1 (by decide) (by decide) (XS.iloadN X21.here hx rfl (hb hby d6_93) rfl (XS.ineg X21.here hx rfl (hb hby d6_94) rfl k))) ?_
      show Comes p e below _ (T21.setTop (mkF m 95 #[.val (.ref self), .val (.long xx), .second, .val (.int (0 : Int32)), .val (.int (-1 : Int32)), .val (.int (0 : Int32)), .val (.long x0), .second] [(.int (-(0 : Int32)))]))
      rw [show (-(0 : Int32)) = (0 : Int32) from by decide]
      show Comes p e below _ (T21.setTop (mkF m 95 #[.val (.ref self), .val (.long xx), .second, .val (.int (0 : Int32)), .val (.int (-1 : Int32)), .val (.int (0 : Int32)), .val (.long x0), .second] [(.int (0 : Int32))]))
      refine Comes.st (fun t k => XS.iconst X21.here hx rfl (hb hby d6_95) (XS.isub X21.here hx rfl (hb hby d6_96) rfl k)) ?_
      show Comes p e below _ (T21.setTop (mkF m 97 #[.val (.ref self), .val (.long xx), .second, .val (.int (0 : Int32)), .val (.int (-1 : Int32)), .val (.int (0 : Int32)), .val (.long x0), .second] [(.int ((0 : Int32) - (1 : Int32)))]))
      rw [show ((0 : Int32) - (1 : Int32)) = (-1 : Int32) from by decide]
      show Comes p e below _ (T21.setTop (mkF m 97 #[.val (.ref self), .val (.long xx), .second, .val (.int (0 : Int32)), .val (.int (-1 : Int32)), .val (.int (0 : Int32)), .val (.long x0), .second] [(.int (-1 : Int32))]))
      exact Comes.retV X21 hx Bd.returns rfl (Or.inl ⟨rfl, Or.inl rfl, _, rfl⟩) hlk (hb hby d6_97) hs21 ⟨(-1 : Int32), rfl, N21, rfl, (by exact (Or.inl ⟨rfl, (by have z0 := P5_0; have z1 := P21_0; have y1 := hc27_7; have y4 := hc73_23; have x3 := own_key_ne lbv hc60_20; simp only [← Int32.toInt_inj, Int32.reduceToInt] at z0 z1 y1 y4; omega)⟩))⟩ (by decide) (by decide)
    · refine Comes.st (fun t k => XS.ifNo X21.here hx rfl (hb hby d6_73) rfl ((if0 _ _).trans (feq hc73_23).1) (XS.iload X21.here hx rfl (hb hby d6_76) rfl (XS.iconst X21.here hx rfl (hb hby d6_78) (XS.iadd X21.here hx rfl (hb hby d6_79) rfl k)))) ?_
      show Comes p e below _ (T21.setTop (mkF m 80 #[.val (.ref self), .val (.long xx), .second, .val (.int (0 : Int32)), .val (.int (1 : Int32)), .val (.int (0 : Int32)), .val (.long x0), .second] [(.int ((0 : Int32) + (1 : Int32)))]))
      rw [show ((0 : Int32) + (1 : Int32)) = (1 : Int32) from by decide]
      show Comes p e below _ (T21.setTop (mkF m 80 #[.val (.ref self), .val (.long xx), .second, .val (.int (0 : Int32)), .val (.int (1 : Int32)), .val (.int (0 : Int32)), .val (.long x0), .second] [(.int (1 : Int32))]))
      refine Comes.st (fun t k => XS.istoreN X21.here hx rfl (hb hby d6_80) rfl (l' := #[.val (.ref self), .val (.long xx), .second, .val (.int (1 : Int32)), .val (.int (1 : Int32)), .val (.int (0 : Int32)), .val (.long x0), .second]) rfl (XS.goto X21.here hx rfl (pc0 := 81) (pc' := 90) rfl (hb hby d6_81) (by decide) (by decide) (XS.goto X21.here hx rfl (pc0 := 90) (pc' := 33) rfl (hb hby d6_90) (by decide) (by decide) (XS.iloadN X21.here hx rfl (hb hby d6_33) rfl (XS.iload X21.here hx rfl (hb hby d6_34) rfl k))))) ?_
      show Comes p e below _ (T21.setTop (mkF m 36 #[.val (.ref self), .val (.long xx), .second, .val (.int (1 : Int32)), .val (.int (1 : Int32)), .val (.int (0 : Int32)), .val (.long x0), .second] [(.int (1 : Int32)), (.int (1 : Int32))]))
      have hc36_25 : ¬ ((1 : Int32) < (1 : Int32)) := by decide
      refine Comes.st (fun t k => XS.icmpNo X21.here hx rfl (hb hby d6_36) rfl (flt hc36_25).2.2.1 (XS.iloadN X21.here hx rfl (hb hby d6_39) rfl (XS.iload X21.here hx rfl (hb hby d6_40) rfl (XS.iadd X21.here hx rfl (hb hby d6_42) rfl k)))) ?_
      show Comes p e below _ (T21.setTop (mkF m 43 #[.val (.ref self), .val (.long xx), .second, .val (.int (1 : Int32)), .val (.int (1 : Int32)), .val (.int (0 : Int32)), .val (.long x0), .second] [(.int ((1 : Int32) + (1 : Int32)))]))
      rw [show ((1 : Int32) + (1 : Int32)) = (2 : Int32) from by decide]
      show Comes p e below _ (T21.setTop (mkF m 43 #[.val (.ref self), .val (.long xx), .second, .val (.int (1 : Int32)), .val (.int (1 : Int32)), .val (.int (0 : Int32)), .val (.long x0), .second] [(.int (2 : Int32))]))
      refine Comes.st (fun t k => XS.iconst X21.here hx rfl (hb hby d6_43) (XS.iushr X21.here hx rfl (hb hby d6_44) rfl k)) ?_
      show Comes p e below _ (T21.setTop (mkF m 45 #[.val (.ref self), .val (.long xx), .second, .val (.int (1 : Int32)), .val (.int (1 : Int32)), .val (.int (0 : Int32)), .val (.long x0), .second] [(.int (((2 : Int32).toUInt32 >>> ((1 : Int32) &&& 31).toUInt32).toInt32))]))
      rw [show (((2 : Int32).toUInt32 >>> ((1 : Int32) &&& 31).toUInt32).toInt32) = (1 : Int32) from by decide]
      show Comes p e below _ (T21.setTop (mkF m 45 #[.val (.ref self), .val (.long xx), .second, .val (.int (1 : Int32)), .val (.int (1 : Int32)), .val (.int (0 : Int32)), .val (.long x0), .second] [(.int (1 : Int32))]))
      refine Comes.st (fun t k => XS.istore X21.here hx rfl (hb hby d6_45) rfl (l' := #[.val (.ref self), .val (.long xx), .second, .val (.int (1 : Int32)), .val (.int (1 : Int32)), .val (.int (1 : Int32)), .val (.long x0), .second]) rfl (XS.aloadN X21.here hx rfl (hb hby d6_47) rfl rfl k)) ?_
      show Comes p e below _ (T21.setTop (mkF m 48 #[.val (.ref self), .val (.long xx), .second, .val (.int (1 : Int32)), .val (.int (1 : Int32)), .val (.int (1 : Int32)), .val (.long x0), .second] [(.ref self)]))
      obtain ⟨T26, X26, e26, st26⟩ := getF X21 hx hZ hown (host := "") (Or.inl (hw _ (List.mem_of_getElem? (i := 10) rfl))) Via.refl hs21 G1 (g := (mkF m 48 #[.val (.ref self), .val (.long xx), .second, .val (.int (1 : Int32)), .val (.int (1 : Int32)), .val (.int (1 : Int32)), .val (.long x0), .second] [(.ref self)])) rfl rfl (hb hby d6_48)
      refine Comes.st st26 ?_
      show Comes p e below _ (T26.setTop (mkF m 51 #[.val (.ref self), .val (.long xx), .second, .val (.int (1 : Int32)), .val (.int (1 : Int32)), .val (.int (1 : Int32)), .val (.long x0), .second] [(.ref ta)]))
      refine Comes.st (fun t k => XS.iload X26.here hx rfl (hb hby d6_51) rfl k) ?_
      show Comes p e below _ (T26.setTop (mkF m 53 #[.val (.ref self), .val (.long xx), .second, .val (.int (1 : Int32)), .val (.int (1 : Int32)), .val (.int (1 : Int32)), .val (.long x0), .second] [(.int (1 : Int32)), (.ref ta)]))
      obtain ⟨cl27, Ar27, q27, S27, Ng27, H27, Gf27⟩ := id G4
      have hin27 : ¬ ((1 : Int32) < 0 ∨ cl27.slots.size ≤ ((1 : Int32)).toNatClampNeg) := inb_of S27 ⟨by decide, by decide⟩
      refine Comes.st (fun t k => X26.laload hx (j := (1 : Int32)) (v := (.long x1)) (by rw [e26]; exact Ar27.1) (State.isArrayOf_alike hZ.alike Ar27.2.1) Ar27.2.2 hin27 (Has.at H27 hin27 rfl) (g := (mkF m 53 #[.val (.ref self), .val (.long xx), .second, .val (.int (1 : Int32)), .val (.int (1 : Int32)), .val (.int (1 : Int32)), .val (.long x0), .second] [(.int (1 : Int32)), (.ref ta)])) rfl rfl (hb hby d6_53) _ (XS.lstore X26.here hx rfl (hb hby d6_54) rfl (l' := #[.val (.ref self), .val (.long xx), .second, .val (.int (1 : Int32)), .val (.int (1 : Int32)), .val (.int (1 : Int32)), .val (.long x1), .second]) rfl (XS.lload X26.here hx rfl (hb hby d6_56) rfl (XS.lloadN X26.here hx rfl (hb hby d6_58) rfl (XS.lcmp X26.here hx rfl (hb hby d6_59) rfl k))))) ?_
      show Comes p e below _ (T26.setTop (mkF m 60 #[.val (.ref self), .val (.long xx), .second, .val (.int (1 : Int32)), .val (.int (1 : Int32)), .val (.int (1 : Int32)), .val (.long x1), .second] [(.int (lcmpW x1 xx))]))
      have hc60_28 : ¬ (x1 = xx) := by assumption
      refine Comes.st (fun t k => XS.ifYes X26.here hx rfl (pc0 := 60) (pc' := 66) rfl (hb hby d6_60) rfl ((if0 _ _).trans (feq (fun q => hc60_28 ((lw_eq _ _).mp q))).2) (by decide) (by decide) (XS.aloadN X26.here hx rfl (hb hby d6_66) rfl rfl (XS.lload X26.here hx rfl (hb hby d6_67) rfl (XS.lloadN X26.here hx rfl (hb hby d6_69) rfl k)))) ?_
      show Comes p e below _ (T26.setTop (mkF m 70 #[.val (.ref self), .val (.long xx), .second, .val (.int (1 : Int32)), .val (.int (1 : Int32)), .val (.int (1 : Int32)), .val (.long x1), .second] [(.long xx), (.long x1), (.ref self)]))
      obtain ⟨cq29, q29, q29'⟩ := G0.cell
      obtain ⟨_, _, ⟨T29, L29, k29, n29⟩, -, X29, ⟨Lc29, hQ29, l29, y29, z29⟩, st29⟩ := X26.privateBack hx (y := (⟨"com/example/tenorbook/tenorbook/engine/Ladder", "worse", "(JJ)Z"⟩ : MethodName)) hown (mvT hZ (hw _ (List.mem_of_getElem? (i := 52) rfl))) (mvT hZ (hw _ (List.mem_of_getElem? (i := 53) rfl))) (mvT hZ (own_selp (y := (⟨"com/example/tenorbook/tenorbook/engine/Ladder", "worse", "(JJ)Z"⟩ : MethodName)) (hw _ (List.mem_of_getElem? (i := 1) rfl)) (hw _ (List.mem_of_getElem? (i := 54) rfl)) (hw _ (List.mem_of_getElem? (i := 53) rfl)) (by decide))) (Cond.privateMethod_at (mvP hZ (hw _ (List.mem_of_getElem? (i := 54) rfl)) (args := #[]))) (mvT hZ (hw _ (List.mem_of_getElem? (i := 55) rfl))) (by decide) (backOf (W := 0) (rm7 l Z a0 hw [] self x1 xx lbv h0 n0 (by omega)  G2) hZ (hw _ (List.mem_of_getElem? (i := 55) rfl)) (hw _ (List.mem_of_getElem? (i := 2) rfl)) (by decide) (by decide)) (g := (mkF m 70 #[.val (.ref self), .val (.long xx), .second, .val (.int (1 : Int32)), .val (.int (1 : Int32)), .val (.int (1 : Int32)), .val (.long x1), .second] [(.long xx), (.long x1), (.ref self)])) rfl (by rw [hml]; rfl) (Steps.refl _) (a := self) (by rw [e26]; exact q29) q29' (argsL := [(.long x1), (.long xx)]) (rest := []) (lenOf pd_0 rfl) rfl (by show 2 * 0 + _ ≤ _; exact Nat.le_of_eq rfl) (hb hby d6_70) (fun _ _ => ⟨rfl, e26, (by decide : 0 + 0 ≤ _), (by decide : 0 + 0 ≤ _)⟩)
      dsimp only [Pt.U, Pt.locs, Pt.cells, Pt.slots] at X29 l29 y29 z29 st29 hQ29
      subst l29 y29 z29
      obtain ⟨r30, rfl, Nq29, hs29, P29_0⟩ := hQ29
      have N29 := Fr.app N21 Nq29
      refine Comes.go st29 ?_
      show Comes p e below _ (T29.setTop (mkF m 73 #[.val (.ref self), .val (.long xx), .second, .val (.int (1 : Int32)), .val (.int (1 : Int32)), .val (.int (1 : Int32)), .val (.long x1), .second] [(.int r30)]))
      by_cases hc73_31 : r30 = (0 : Int32)
      · refine Comes.st (fun t k => XS.ifYes X29.here hx rfl (pc0 := 73) (pc' := 84) rfl (hb hby d6_73) rfl ((if0 _ _).trans (teq hc73_31).1) (by decide) (by decide) (XS.iload X29.here hx rfl (hb hby d6_84) rfl (XS.iconst X29.here hx rfl (hb hby d6_86) (XS.isub X29.here hx rfl (hb hby d6_87) rfl k)))) ?_
        show Comes p e below _ (T29.setTop (mkF m 88 #[.val (.ref self), .val (.long xx), .second, .val (.int (1 : Int32)), .val (.int (1 : Int32)), .val (.int (1 : Int32)), .val (.long x1), .second] [(.int ((1 : Int32) - (1 : Int32)))]))
        rw [show ((1 : Int32) - (1 : Int32)) = (0 : Int32) from by decide]
        show Comes p e below _ (T29.setTop (mkF m 88 #[.val (.ref self), .val (.long xx), .second, .val (.int (1 : Int32)), .val (.int (1 : Int32)), .val (.int (1 : Int32)), .val (.long x1), .second] [(.int (0 : Int32))]))
        refine Comes.st (fun t k => XS.istore X29.here hx rfl (hb hby d6_88) rfl (l' := #[.val (.ref self), .val (.long xx), .second, .val (.int (1 : Int32)), .val (.int (0 : Int32)), .val (.int (1 : Int32)), .val (.long x1), .second]) rfl (XS.goto X29.here hx rfl (pc0 := 90) (pc' := 33) rfl (hb hby d6_90) (by decide) (by decide) (XS.iloadN X29.here hx rfl (hb hby d6_33) rfl (XS.iload X29.here hx rfl (hb hby d6_34) rfl k)))) ?_
        show Comes p e below _ (T29.setTop (mkF m 36 #[.val (.ref self), .val (.long xx), .second, .val (.int (1 : Int32)), .val (.int (0 : Int32)), .val (.int (1 : Int32)), .val (.long x1), .second] [(.int (0 : Int32)), (.int (1 : Int32))]))
        have hc36_32 : (0 : Int32) < (1 : Int32) := by decide
        refine Comes.st (fun t k => XS.icmpYes X29.here hx rfl (pc0 := 36) (pc' := 93) rfl (hb hby d6_36) rfl (tlt hc36_32).2.2.1 (by decide) (by decide) (XS.iloadN X29.here hx rfl (hb hby d6_93) rfl (XS.ineg X29.here hx rfl (hb hby d6_94) rfl k))) ?_
        show Comes p e below _ (T29.setTop (mkF m 95 #[.val (.ref self), .val (.long xx), .second, .val (.int (1 : Int32)), .val (.int (0 : Int32)), .val (.int (1 : Int32)), .val (.long x1), .second] [(.int (-(1 : Int32)))]))
        rw [show (-(1 : Int32)) = (-1 : Int32) from by decide]
        show Comes p e below _ (T29.setTop (mkF m 95 #[.val (.ref self), .val (.long xx), .second, .val (.int (1 : Int32)), .val (.int (0 : Int32)), .val (.int (1 : Int32)), .val (.long x1), .second] [(.int (-1 : Int32))]))
        refine Comes.st (fun t k => XS.iconst X29.here hx rfl (hb hby d6_95) (XS.isub X29.here hx rfl (hb hby d6_96) rfl k)) ?_
        show Comes p e below _ (T29.setTop (mkF m 97 #[.val (.ref self), .val (.long xx), .second, .val (.int (1 : Int32)), .val (.int (0 : Int32)), .val (.int (1 : Int32)), .val (.long x1), .second] [(.int ((-1 : Int32) - (1 : Int32)))]))
        rw [show ((-1 : Int32) - (1 : Int32)) = (-2 : Int32) from by decide]
        show Comes p e below _ (T29.setTop (mkF m 97 #[.val (.ref self), .val (.long xx), .second, .val (.int (1 : Int32)), .val (.int (0 : Int32)), .val (.int (1 : Int32)), .val (.long x1), .second] [(.int (-2 : Int32))]))
        exact Comes.retV X29 hx Bd.returns rfl (Or.inl ⟨rfl, Or.inl rfl, _, rfl⟩) hlk (hb hby d6_97) hs29 ⟨(-2 : Int32), rfl, N29, rfl, (by exact (Or.inr (Or.inl ⟨rfl, (by have z0 := P5_0; have z1 := P21_0; have z2 := P29_0; have y1 := hc27_7; have y4 := hc73_23; have y7 := hc73_31; have x3 := own_key_ne lbv hc60_20; have x6 := own_key_ne lbv hc60_28; simp only [← Int32.toInt_inj, Int32.reduceToInt] at z0 z1 z2 y1 y4 y7; omega), (by have z0 := P5_0; have z1 := P21_0; have z2 := P29_0; have y1 := hc27_7; have y4 := hc73_23; have y7 := hc73_31; have x3 := own_key_ne lbv hc60_20; have x6 := own_key_ne lbv hc60_28; simp only [← Int32.toInt_inj, Int32.reduceToInt] at z0 z1 z2 y1 y4 y7; omega)⟩)))⟩ (by decide) (by decide)
      · refine Comes.st (fun t k => XS.ifNo X29.here hx rfl (hb hby d6_73) rfl ((if0 _ _).trans (feq hc73_31).1) (XS.iload X29.here hx rfl (hb hby d6_76) rfl (XS.iconst X29.here hx rfl (hb hby d6_78) (XS.iadd X29.here hx rfl (hb hby d6_79) rfl k)))) ?_
        show Comes p e below _ (T29.setTop (mkF m 80 #[.val (.ref self), .val (.long xx), .second, .val (.int (1 : Int32)), .val (.int (1 : Int32)), .val (.int (1 : Int32)), .val (.long x1), .second] [(.int ((1 : Int32) + (1 : Int32)))]))
        rw [show ((1 : Int32) + (1 : Int32)) = (2 : Int32) from by decide]
        show Comes p e below _ (T29.setTop (mkF m 80 #[.val (.ref self), .val (.long xx), .second, .val (.int (1 : Int32)), .val (.int (1 : Int32)), .val (.int (1 : Int32)), .val (.long x1), .second] [(.int (2 : Int32))]))
        refine Comes.st (fun t k => XS.istoreN X29.here hx rfl (hb hby d6_80) rfl (l' := #[.val (.ref self), .val (.long xx), .second, .val (.int (2 : Int32)), .val (.int (1 : Int32)), .val (.int (1 : Int32)), .val (.long x1), .second]) rfl (XS.goto X29.here hx rfl (pc0 := 81) (pc' := 90) rfl (hb hby d6_81) (by decide) (by decide) (XS.goto X29.here hx rfl (pc0 := 90) (pc' := 33) rfl (hb hby d6_90) (by decide) (by decide) (XS.iloadN X29.here hx rfl (hb hby d6_33) rfl (XS.iload X29.here hx rfl (hb hby d6_34) rfl k))))) ?_
        show Comes p e below _ (T29.setTop (mkF m 36 #[.val (.ref self), .val (.long xx), .second, .val (.int (2 : Int32)), .val (.int (1 : Int32)), .val (.int (1 : Int32)), .val (.long x1), .second] [(.int (1 : Int32)), (.int (2 : Int32))]))
        have hc36_33 : (1 : Int32) < (2 : Int32) := by decide
        refine Comes.st (fun t k => XS.icmpYes X29.here hx rfl (pc0 := 36) (pc' := 93) rfl (hb hby d6_36) rfl (tlt hc36_33).2.2.1 (by decide) (by decide) (XS.iloadN X29.here hx rfl (hb hby d6_93) rfl (XS.ineg X29.here hx rfl (hb hby d6_94) rfl k))) ?_
        show Comes p e below _ (T29.setTop (mkF m 95 #[.val (.ref self), .val (.long xx), .second, .val (.int (2 : Int32)), .val (.int (1 : Int32)), .val (.int (1 : Int32)), .val (.long x1), .second] [(.int (-(2 : Int32)))]))
        rw [show (-(2 : Int32)) = (-2 : Int32) from by decide]
        show Comes p e below _ (T29.setTop (mkF m 95 #[.val (.ref self), .val (.long xx), .second, .val (.int (2 : Int32)), .val (.int (1 : Int32)), .val (.int (1 : Int32)), .val (.long x1), .second] [(.int (-2 : Int32))]))
        refine Comes.st (fun t k => XS.iconst X29.here hx rfl (hb hby d6_95) (XS.isub X29.here hx rfl (hb hby d6_96) rfl k)) ?_
        show Comes p e below _ (T29.setTop (mkF m 97 #[.val (.ref self), .val (.long xx), .second, .val (.int (2 : Int32)), .val (.int (1 : Int32)), .val (.int (1 : Int32)), .val (.long x1), .second] [(.int ((-2 : Int32) - (1 : Int32)))]))
        rw [show ((-2 : Int32) - (1 : Int32)) = (-3 : Int32) from by decide]
        show Comes p e below _ (T29.setTop (mkF m 97 #[.val (.ref self), .val (.long xx), .second, .val (.int (2 : Int32)), .val (.int (1 : Int32)), .val (.int (1 : Int32)), .val (.long x1), .second] [(.int (-3 : Int32))]))
        exact Comes.retV X29 hx Bd.returns rfl (Or.inl ⟨rfl, Or.inl rfl, _, rfl⟩) hlk (hb hby d6_97) hs29 ⟨(-3 : Int32), rfl, N29, rfl, (by exact (Or.inr (Or.inr ⟨rfl, (by have z0 := P5_0; have z1 := P21_0; have z2 := P29_0; have y1 := hc27_7; have y4 := hc73_23; have y7 := hc73_31; have x3 := own_key_ne lbv hc60_20; have x6 := own_key_ne lbv hc60_28; simp only [← Int32.toInt_inj, Int32.reduceToInt] at z0 z1 z2 y1 y4 y7; omega)⟩)))⟩ (by decide) (by decide)
def Q_add0 (Z : State) (self : Nat) (lev : Nat) (lbv : Int32) (ta : Nat) (la : Nat) (kt : ClassId) (kl : ClassId) (xx : Int64) (h0 : Heap) (n0 : Nat) (v : Option Value) (h : Heap) (L : List Loc) : Prop := ∃ (y0 : Int64), ∃ (z0 : Nat), (v = none) ∧ (Fr n0 L) ∧ (Keep h0 h [self, ta, la, lev]) ∧ (Exa Z h self "com/example/tenorbook/tenorbook/engine/Ladder") ∧ (Fld Z h self "com/example/tenorbook/tenorbook/engine/Ladder" "ticks" "[J" (.ref ta)) ∧ (Fld Z h self "com/example/tenorbook/tenorbook/engine/Ladder" "levels" "[Lcom/example/tenorbook/tenorbook/engine/Level;" (.ref la)) ∧ (Fld Z h self "com/example/tenorbook/tenorbook/engine/Ladder" "lowestBest" "Z" (.int lbv)) ∧ (Fld Z h self "com/example/tenorbook/tenorbook/engine/Ladder" "count" "I" (.int (1 : Int32))) ∧ (Arv Z h ta kt .long (4 : Int32) [(.long y0), (.long (0 : Int64)), (.long (0 : Int64)), (.long (0 : Int64))] (.long (0 : Int64))) ∧ (Arv Z h la kl (.object "com/example/tenorbook/tenorbook/engine/Level") (4 : Int32) [(.ref z0), .null, .null, .null] .null) ∧ (Ovr Z kl "com/example/tenorbook/tenorbook/engine/Level") ∧ (Exa Z h lev "com/example/tenorbook/tenorbook/engine/Level") ∧ (Fld Z h lev "com/example/tenorbook/tenorbook/engine/Level" "ticks" "J" (.long xx)) ∧ (Fld Z h lev "com/example/tenorbook/tenorbook/engine/Level" "ladder" "Lcom/example/tenorbook/tenorbook/engine/Ladder;" (.ref self)) ∧ (Exa Z h z0 "com/example/tenorbook/tenorbook/engine/Level") ∧ ((y0 = xx ∧ own_ad z0 = own_ad lev ∧ own_key lbv y0 = own_key lbv xx))
set_option maxRecDepth 65536 in
set_option maxHeartbeats 40000000 in
theorem add0 (l : Launch) (Z : State) (a0 : Array Value) (hw : ∀ d ∈ tables_1, d.before a0 Z = true) (ws : List Jvm.Cond) (self : Nat) (lev : Nat) (lbv : Int32) (ta : Nat) (la : Nat) (kt : ClassId) (kl : ClassId) (xx : Int64) (h0 : Heap) (n0 : Nat) (Z0 : n0 ≤ h0.size) (G0 : Exa Z h0 self "com/example/tenorbook/tenorbook/engine/Ladder") (G1 : Fld Z h0 self "com/example/tenorbook/tenorbook/engine/Ladder" "ticks" "[J" (.ref ta)) (G2 : Fld Z h0 self "com/example/tenorbook/tenorbook/engine/Ladder" "levels" "[Lcom/example/tenorbook/tenorbook/engine/Level;" (.ref la)) (G3 : Fld Z h0 self "com/example/tenorbook/tenorbook/engine/Ladder" "lowestBest" "Z" (.int lbv)) (G4 : Fld Z h0 self "com/example/tenorbook/tenorbook/engine/Ladder" "count" "I" (.int (0 : Int32))) (G5 : Arv Z h0 ta kt .long (4 : Int32) [(.long (0 : Int64)), (.long (0 : Int64)), (.long (0 : Int64)), (.long (0 : Int64))] (.long (0 : Int64))) (G6 : Arv Z h0 la kl (.object "com/example/tenorbook/tenorbook/engine/Level") (4 : Int32) [.null, .null, .null, .null] .null) (G7 : Ovr Z kl "com/example/tenorbook/tenorbook/engine/Level") (G8 : Exa Z h0 lev "com/example/tenorbook/tenorbook/engine/Level") (G9 : Fld Z h0 lev "com/example/tenorbook/tenorbook/engine/Level" "ticks" "J" (.long xx)) (G10 : Fld Z h0 lev "com/example/tenorbook/tenorbook/engine/Level" "ladder" "Lcom/example/tenorbook/tenorbook/engine/Ladder;" .null) (G11 : ta ≠ self) (G12 : la ≠ self) (G13 : la ≠ ta) (G14 : lev ≠ self) (G15 : lev ≠ ta) (G16 : lev ≠ la) (G17 : n0 ≤ self) (G18 : n0 ≤ ta) (G19 : n0 ≤ la) (G20 : n0 ≤ lev) :
    MetFree l (⟨"com/example/tenorbook/tenorbook/engine/Ladder", "add", "(Lcom/example/tenorbook/tenorbook/engine/Level;)V"⟩ : MethodName) (head1 (Jvm.Cond.code (⟨"com/example/tenorbook/tenorbook/engine/Ladder", "add", "(Lcom/example/tenorbook/tenorbook/engine/Level;)V"⟩ : MethodName) prog_9_method_6_code 3 none :: ws) ({ frames := 1, cells := 0, slots := 0, locals := 27 } : Room)) (fun a U => a = #[(.ref self), (.ref lev)] ∧ Z.Warmed39 U.vm ∧ U.heap = h0) (fun _ _ _ _ _ => True) (fun _ U o U' => ∃ v L, o = .returned v ∧ Q_add0 Z self lev lbv ta la kt kl xx h0 n0 v U'.heap L ∧ FrameEnd U o U' L ({ frames := 1, cells := 0, slots := 0, locals := 27 } : Room).cells ({ frames := 1, cells := 0, slots := 0, locals := 27 } : Room).slots) := by
  refine MetFree.of_bodySF (plainFor_of_name pn_4) hisR ?_
  intro p e s m args below meth c s₁ Bd hml0 hP hK
  obtain ⟨rfl, hZ, hh⟩ := hP
  have hx := Bd.exec
  have hby := Bd.bytes
  have hml : c.maxLocals = 3 := hml0
  have hown : s.vm.findClass "com/example/tenorbook/tenorbook/engine/Ladder" = some m.cls := findClass_of_methodNamed Bd.named
  have hnm := (name_of_methodNamed Bd.named Bd.method).1
  have hlk : meth.locks = false := Bd.notSynchronized
  have X0 : Stand p l e ({ frames := 1, cells := 0, slots := 0, locals := 27 } : Room) s m #[(.ref self), (.ref lev)] below meth c s₁ [] 0 0 := Stand.of_body Bd
  have e0 : s₁.heap = h0 := by rw [← hh, Bd.state]; rfl
  have N0 := Fr.nil n0
  have K0 := Keep.refl h0 [self, ta, la, lev]
  refine Comes.out (Q := Q_add0 Z self lev lbv ta la kt kl xx h0 n0) (kc := ({ frames := 1, cells := 0, slots := 0, locals := 27 } : Room).cells) (ks := ({ frames := 1, cells := 0, slots := 0, locals := 27 } : Room).slots) ?_
  refine Comes.cast (ef_add0 m self lev) ?_
  have lt_self : self < h0.size := G0.lt
  have lt_ta : ta < h0.size := G5.lt
  have lt_la : la < h0.size := G6.lt
  have lt_lev : lev < h0.size := G8.lt
  show Comes p e below _ (s₁.setTop (mkF m 0 #[.val (.ref self), .val (.ref lev), .unset] []))
  refine Comes.st (fun t k => XS.aloadN X0.here hx rfl (hb hby d4_0) rfl rfl (XS.aloadN X0.here hx rfl (hb hby d4_1) rfl rfl k)) ?_
  show Comes p e below _ (s₁.setTop (mkF m 2 #[.val (.ref self), .val (.ref lev), .unset] [(.ref lev), (.ref self)]))
  obtain ⟨cq1, kq1, q1a, q1b, q1c⟩ := isOf hZ e0 G8
  obtain ⟨_, _, ⟨T1, L1, k1, n1⟩, -, X1, ⟨Lc1, hQ1, l1, y1, z1⟩, st1⟩ := X0.virtualBack hx (y := (⟨"com/example/tenorbook/tenorbook/engine/Level", "ticks", "()J"⟩ : MethodName)) (z := (⟨"com/example/tenorbook/tenorbook/engine/Level", "ticks", "()J"⟩ : MethodName)) hown (mvT hZ (hw _ (List.mem_of_getElem? (i := 34) rfl))) (mvT hZ (hw _ (List.mem_of_getElem? (i := 35) rfl))) (notFace_of_selects (args := #[]) (mvT hZ (hw _ (List.mem_of_getElem? (i := 37) rfl)))) (mvT hZ (hw _ (List.mem_of_getElem? (i := 37) rfl))) (mvT hZ (hw _ (List.mem_of_getElem? (i := 36) rfl))) (by decide) (backOf (W := 1) (rm5 l Z a0 hw [] lev xx h0 n0 (by omega)  G9) hZ (hw _ (List.mem_of_getElem? (i := 38) rfl)) (hw _ (List.mem_of_getElem? (i := 20) rfl)) (by decide) (by decide)) q1a q1c (g := (mkF m 2 #[.val (.ref self), .val (.ref lev), .unset] [(.ref lev), (.ref self)])) rfl (by rw [hml]; rfl) (Steps.refl _) (argsL := []) (rest := [(.ref self)]) (lenOf pd_1 rfl) rfl (by show 2 * 0 + _ ≤ _; exact Nat.le_of_eq rfl) (hb hby d4_2) (fun _ _ => ⟨rfl, e0, (by decide : 0 + 0 ≤ _), (by decide : 0 + 0 ≤ _)⟩)
  dsimp only [Pt.U, Pt.locs, Pt.cells, Pt.slots] at X1 l1 y1 z1 st1 hQ1
  subst l1 y1 z1
  obtain ⟨rfl, Nq1, hs1⟩ := hQ1
  have N1 := Fr.app N0 Nq1
  refine Comes.go st1 ?_
  show Comes p e below _ (T1.setTop (mkF m 5 #[.val (.ref self), .val (.ref lev), .unset] [(.long xx), (.ref self)]))
  obtain ⟨cq2, q2, q2'⟩ := G0.cell
  obtain ⟨_, _, ⟨T2, L2, k2, n2⟩, -, X2, ⟨Lc2, hQ2, l2, y2, z2⟩, st2⟩ := X1.privateBack hx (y := (⟨"com/example/tenorbook/tenorbook/engine/Ladder", "find", "(J)I"⟩ : MethodName)) hown (mvT hZ (hw _ (List.mem_of_getElem? (i := 39) rfl))) (mvT hZ (hw _ (List.mem_of_getElem? (i := 40) rfl))) (mvT hZ (own_selp (y := (⟨"com/example/tenorbook/tenorbook/engine/Ladder", "find", "(J)I"⟩ : MethodName)) (hw _ (List.mem_of_getElem? (i := 1) rfl)) (hw _ (List.mem_of_getElem? (i := 41) rfl)) (hw _ (List.mem_of_getElem? (i := 40) rfl)) (by decide))) (Cond.privateMethod_at (mvP hZ (hw _ (List.mem_of_getElem? (i := 41) rfl)) (args := #[]))) (mvT hZ (hw _ (List.mem_of_getElem? (i := 42) rfl))) (by decide) (backOf (W := 0) (find0 l Z a0 hw [] self xx lbv ta kt h0 n0 (by omega)  G0 G1 G3 G4 G5) hZ (hw _ (List.mem_of_getElem? (i := 42) rfl)) (hw _ (List.mem_of_getElem? (i := 2) rfl)) (by decide) (by decide)) (g := (mkF m 5 #[.val (.ref self), .val (.ref lev), .unset] [(.long xx), (.ref self)])) rfl (by rw [hml]; rfl) (Steps.refl _) (a := self) (by rw [hs1]; exact q2) q2' (argsL := [(.long xx)]) (rest := []) (lenOf pd_2 rfl) rfl (by show 2 * 0 + _ ≤ _; exact Nat.le_of_eq rfl) (hb hby d4_5) (fun _ _ => ⟨rfl, hs1, (by decide : 0 + 0 ≤ _), (by decide : 0 + 0 ≤ _)⟩)
  dsimp only [Pt.U, Pt.locs, Pt.cells, Pt.slots] at X2 l2 y2 z2 st2 hQ2
  subst l2 y2 z2
  obtain ⟨r3, rfl, Nq2, hs2, P2_0⟩ := hQ2
  have N2 := Fr.app N1 Nq2
  refine Comes.go st2 ?_
  rcases P2_0 with rfl
  show Comes p e below _ (T2.setTop (mkF m 8 #[.val (.ref self), .val (.ref lev), .unset] [(.int (-1 : Int32))]))
  refine Comes.st (fun t k => XS.ineg X2.here hx rfl (hb hby d4_8) rfl k) ?_
  show Comes p e below _ (T2.setTop (mkF m 9 #[.val (.ref self), .val (.ref lev), .unset] [(.int (-(-1 : Int32)))]))
  rw [show (-(-1 : Int32)) = (1 : Int32) from by decide]
  show Comes p e below _ (T2.setTop (mkF m 9 #[.val (.ref self), .val (.ref lev), .unset] [(.int (1 : Int32))]))
  refine Comes.st (fun t k => XS.iconst X2.here hx rfl (hb hby d4_9) (XS.isub X2.here hx rfl (hb hby d4_10) rfl k)) ?_
  show Comes p e below _ (T2.setTop (mkF m 11 #[.val (.ref self), .val (.ref lev), .unset] [(.int ((1 : Int32) - (1 : Int32)))]))
  rw [show ((1 : Int32) - (1 : Int32)) = (0 : Int32) from by decide]
  show Comes p e below _ (T2.setTop (mkF m 11 #[.val (.ref self), .val (.ref lev), .unset] [(.int (0 : Int32))]))
  refine Comes.st (fun t k => XS.istoreN X2.here hx rfl (hb hby d4_11) rfl (l' := #[.val (.ref self), .val (.ref lev), .val (.int (0 : Int32))]) rfl (XS.aloadN X2.here hx rfl (hb hby d4_12) rfl rfl k)) ?_
  show Comes p e below _ (T2.setTop (mkF m 13 #[.val (.ref self), .val (.ref lev), .val (.int (0 : Int32))] [(.ref self)]))
  obtain ⟨T4, X4, e4, st4⟩ := getF X2 hx hZ hown (host := "") (Or.inl (hw _ (List.mem_of_getElem? (i := 43) rfl))) Via.refl hs2 G4 (g := (mkF m 13 #[.val (.ref self), .val (.ref lev), .val (.int (0 : Int32))] [(.ref self)])) rfl rfl (hb hby d4_13)
  refine Comes.st st4 ?_
  show Comes p e below _ (T4.setTop (mkF m 16 #[.val (.ref self), .val (.ref lev), .val (.int (0 : Int32))] [(.int (0 : Int32))]))
  refine Comes.st (fun t k => XS.aloadN X4.here hx rfl (hb hby d4_16) rfl rfl k) ?_
  show Comes p e below _ (T4.setTop (mkF m 17 #[.val (.ref self), .val (.ref lev), .val (.int (0 : Int32))] [(.ref self), (.int (0 : Int32))]))
  obtain ⟨T5, X5, e5, st5⟩ := getF X4 hx hZ hown (host := "") (Or.inl (hw _ (List.mem_of_getElem? (i := 14) rfl))) Via.refl e4 G2 (g := (mkF m 17 #[.val (.ref self), .val (.ref lev), .val (.int (0 : Int32))] [(.ref self), (.int (0 : Int32))])) rfl rfl (hb hby d4_17)
  refine Comes.st st5 ?_
  show Comes p e below _ (T5.setTop (mkF m 20 #[.val (.ref self), .val (.ref lev), .val (.int (0 : Int32))] [(.ref la), (.int (0 : Int32))]))
  obtain ⟨cl6, Ar6, -, S6, Ng6, -, -⟩ := id G6
  refine Comes.st (fun t k => X5.arraylength hx (by rw [e5]; exact Ar6.1) (State.isArrayOf_alike hZ.alike Ar6.2.1) (g := (mkF m 20 #[.val (.ref self), .val (.ref lev), .val (.int (0 : Int32))] [(.ref la), (.int (0 : Int32))])) rfl rfl (hb hby d4_20) _ k) ?_
  rw [len_of S6 Ng6]
  show Comes p e below _ (T5.setTop (mkF m 21 #[.val (.ref self), .val (.ref lev), .val (.int (0 : Int32))] [(.int (4 : Int32)), (.int (0 : Int32))]))
  have hc21_7 : ¬ ((0 : Int32) = (4 : Int32)) := by decide
  refine Comes.st (fun t k => XS.icmpYes X5.here hx rfl (pc0 := 21) (pc' := 61) rfl (hb hby d4_21) rfl (feq hc21_7).2 (by decide) (by decide) (XS.aloadN X5.here hx rfl (hb hby d4_61) rfl rfl k)) ?_
  show Comes p e below _ (T5.setTop (mkF m 62 #[.val (.ref self), .val (.ref lev), .val (.int (0 : Int32))] [(.ref self)]))
  obtain ⟨T8, X8, e8, st8⟩ := getF X5 hx hZ hown (host := "") (Or.inl (hw _ (List.mem_of_getElem? (i := 10) rfl))) Via.refl e5 G1 (g := (mkF m 62 #[.val (.ref self), .val (.ref lev), .val (.int (0 : Int32))] [(.ref self)])) rfl rfl (hb hby d4_62)
  refine Comes.st st8 ?_
  show Comes p e below _ (T8.setTop (mkF m 65 #[.val (.ref self), .val (.ref lev), .val (.int (0 : Int32))] [(.ref ta)]))
  refine Comes.st (fun t k => XS.iloadN X8.here hx rfl (hb hby d4_65) rfl (XS.aloadN X8.here hx rfl (hb hby d4_66) rfl rfl k)) ?_
  show Comes p e below _ (T8.setTop (mkF m 67 #[.val (.ref self), .val (.ref lev), .val (.int (0 : Int32))] [(.ref self), (.int (0 : Int32)), (.ref ta)]))
  obtain ⟨T9, X9, e9, st9⟩ := getF X8 hx hZ hown (host := "") (Or.inl (hw _ (List.mem_of_getElem? (i := 10) rfl))) Via.refl e8 G1 (g := (mkF m 67 #[.val (.ref self), .val (.ref lev), .val (.int (0 : Int32))] [(.ref self), (.int (0 : Int32)), (.ref ta)])) rfl rfl (hb hby d4_67)
  refine Comes.st st9 ?_
  show Comes p e below _ (T9.setTop (mkF m 70 #[.val (.ref self), .val (.ref lev), .val (.int (0 : Int32))] [(.ref ta), (.int (0 : Int32)), (.ref ta)]))
  refine Comes.st (fun t k => XS.iloadN X9.here hx rfl (hb hby d4_70) rfl (XS.iconst X9.here hx rfl (hb hby d4_71) (XS.iadd X9.here hx rfl (hb hby d4_72) rfl k))) ?_
  show Comes p e below _ (T9.setTop (mkF m 73 #[.val (.ref self), .val (.ref lev), .val (.int (0 : Int32))] [(.int ((0 : Int32) + (1 : Int32))), (.ref ta), (.int (0 : Int32)), (.ref ta)]))
  rw [show ((0 : Int32) + (1 : Int32)) = (1 : Int32) from by decide]
  show Comes p e below _ (T9.setTop (mkF m 73 #[.val (.ref self), .val (.ref lev), .val (.int (0 : Int32))] [(.int (1 : Int32)), (.ref ta), (.int (0 : Int32)), (.ref ta)]))
  refine Comes.st (fun t k => XS.aloadN X9.here hx rfl (hb hby d4_73) rfl rfl k) ?_
  show Comes p e below _ (T9.setTop (mkF m 74 #[.val (.ref self), .val (.ref lev), .val (.int (0 : Int32))] [(.ref self), (.int (1 : Int32)), (.ref ta), (.int (0 : Int32)), (.ref ta)]))
  obtain ⟨T10, X10, e10, st10⟩ := getF X9 hx hZ hown (host := "") (Or.inl (hw _ (List.mem_of_getElem? (i := 43) rfl))) Via.refl e9 G4 (g := (mkF m 74 #[.val (.ref self), .val (.ref lev), .val (.int (0 : Int32))] [(.ref self), (.int (1 : Int32)), (.ref ta), (.int (0 : Int32)), (.ref ta)])) rfl rfl (hb hby d4_74)
  refine Comes.st st10 ?_
  show Comes p e below _ (T10.setTop (mkF m 77 #[.val (.ref self), .val (.ref lev), .val (.int (0 : Int32))] [(.int (0 : Int32)), (.int (1 : Int32)), (.ref ta), (.int (0 : Int32)), (.ref ta)]))
  refine Comes.st (fun t k => XS.iloadN X10.here hx rfl (hb hby d4_77) rfl (XS.isub X10.here hx rfl (hb hby d4_78) rfl k)) ?_
  show Comes p e below _ (T10.setTop (mkF m 79 #[.val (.ref self), .val (.ref lev), .val (.int (0 : Int32))] [(.int ((0 : Int32) - (0 : Int32))), (.int (1 : Int32)), (.ref ta), (.int (0 : Int32)), (.ref ta)]))
  rw [show ((0 : Int32) - (0 : Int32)) = (0 : Int32) from by decide]
  show Comes p e below _ (T10.setTop (mkF m 79 #[.val (.ref self), .val (.ref lev), .val (.int (0 : Int32))] [(.int (0 : Int32)), (.int (1 : Int32)), (.ref ta), (.int (0 : Int32)), (.ref ta)]))
  obtain ⟨T11, h11, L11, X11, e11, N11, Kq11, V11, st11⟩ := cpA X10 hx hZ hown (hw _ (List.mem_of_getElem? (i := 45) rfl)) (hw _ (List.mem_of_getElem? (i := 48) rfl)) (hw _ (List.mem_of_getElem? (i := 46) rfl)) (hw _ (List.mem_of_getElem? (i := 47) rfl)) e10 (us := []) G5 G5 (Or.inl ⟨rfl, rfl⟩) (by decide) (by decide) (by decide) (by decide) (by decide) rfl (Nat.le_of_ble_eq_true rfl) N2 (by omega) (g := (mkF m 79 #[.val (.ref self), .val (.ref lev), .val (.int (0 : Int32))] [(.int (0 : Int32)), (.int (1 : Int32)), (.ref ta), (.int (0 : Int32)), (.ref ta)])) rfl (by rw [hml]; rfl) (rest := []) rfl (hb hby d4_79) (by decide) (W := 0) (by show 2 * 0 + _ ≤ _; exact Nat.le_of_eq rfl) (by decide)
  have z11 : h0.size ≤ h11.size := Kq11.1
  have K11 : Keep h0 h11 [self, ta, la, lev] := K0.trans Kq11 (allS (Or.inl (List.mem_of_getElem? (i := 1) rfl)) all0)
  have V11' : Arv Z h11 ta kt .long (4 : Int32) [(.long (0 : Int64)), (.long (0 : Int64)), (.long (0 : Int64)), (.long (0 : Int64))] (.long (0 : Int64)) := V11
  refine Comes.st st11 ?_
  show Comes p e below _ (T11.setTop (mkF m 82 #[.val (.ref self), .val (.ref lev), .val (.int (0 : Int32))] []))
  refine Comes.st (fun t k => XS.aloadN X11.here hx rfl (hb hby d4_82) rfl rfl k) ?_
  show Comes p e below _ (T11.setTop (mkF m 83 #[.val (.ref self), .val (.ref lev), .val (.int (0 : Int32))] [(.ref self)]))
  have F12 : Fld Z h11 self "com/example/tenorbook/tenorbook/engine/Ladder" "levels" "[Lcom/example/tenorbook/tenorbook/engine/Level;" (.ref la) := (G2.keep Kq11 (ninS (Ne.symm G11) nin0))
  obtain ⟨T13, X13, e13, st13⟩ := getF X11 hx hZ hown (host := "") (Or.inl (hw _ (List.mem_of_getElem? (i := 14) rfl))) Via.refl e11 F12 (g := (mkF m 83 #[.val (.ref self), .val (.ref lev), .val (.int (0 : Int32))] [(.ref self)])) rfl rfl (hb hby d4_83)
  refine Comes.st st13 ?_
  show Comes p e below _ (T13.setTop (mkF m 86 #[.val (.ref self), .val (.ref lev), .val (.int (0 : Int32))] [(.ref la)]))
  refine Comes.st (fun t k => XS.iloadN X13.here hx rfl (hb hby d4_86) rfl (XS.aloadN X13.here hx rfl (hb hby d4_87) rfl rfl k)) ?_
  show Comes p e below _ (T13.setTop (mkF m 88 #[.val (.ref self), .val (.ref lev), .val (.int (0 : Int32))] [(.ref self), (.int (0 : Int32)), (.ref la)]))
  obtain ⟨T14, X14, e14, st14⟩ := getF X13 hx hZ hown (host := "") (Or.inl (hw _ (List.mem_of_getElem? (i := 14) rfl))) Via.refl e13 F12 (g := (mkF m 88 #[.val (.ref self), .val (.ref lev), .val (.int (0 : Int32))] [(.ref self), (.int (0 : Int32)), (.ref la)])) rfl rfl (hb hby d4_88)
  refine Comes.st st14 ?_
  show Comes p e below _ (T14.setTop (mkF m 91 #[.val (.ref self), .val (.ref lev), .val (.int (0 : Int32))] [(.ref la), (.int (0 : Int32)), (.ref la)]))
  refine Comes.st (fun t k => XS.iloadN X14.here hx rfl (hb hby d4_91) rfl (XS.iconst X14.here hx rfl (hb hby d4_92) (XS.iadd X14.here hx rfl (hb hby d4_93) rfl k))) ?_
  show Comes p e below _ (T14.setTop (mkF m 94 #[.val (.ref self), .val (.ref lev), .val (.int (0 : Int32))] [(.int ((0 : Int32) + (1 : Int32))), (.ref la), (.int (0 : Int32)), (.ref la)]))
  rw [show ((0 : Int32) + (1 : Int32)) = (1 : Int32) from by decide]
  show Comes p e below _ (T14.setTop (mkF m 94 #[.val (.ref self), .val (.ref lev), .val (.int (0 : Int32))] [(.int (1 : Int32)), (.ref la), (.int (0 : Int32)), (.ref la)]))
  refine Comes.st (fun t k => XS.aloadN X14.here hx rfl (hb hby d4_94) rfl rfl k) ?_
  show Comes p e below _ (T14.setTop (mkF m 95 #[.val (.ref self), .val (.ref lev), .val (.int (0 : Int32))] [(.ref self), (.int (1 : Int32)), (.ref la), (.int (0 : Int32)), (.ref la)]))
  have F15 : Fld Z h11 self "com/example/tenorbook/tenorbook/engine/Ladder" "count" "I" (.int (0 : Int32)) := (G4.keep Kq11 (ninS (Ne.symm G11) nin0))
  obtain ⟨T16, X16, e16, st16⟩ := getF X14 hx hZ hown (host := "") (Or.inl (hw _ (List.mem_of_getElem? (i := 43) rfl))) Via.refl e14 F15 (g := (mkF m 95 #[.val (.ref self), .val (.ref lev), .val (.int (0 : Int32))] [(.ref self), (.int (1 : Int32)), (.ref la), (.int (0 : Int32)), (.ref la)])) rfl rfl (hb hby d4_95)
  refine Comes.st st16 ?_
  show Comes p e below _ (T16.setTop (mkF m 98 #[.val (.ref self), .val (.ref lev), .val (.int (0 : Int32))] [(.int (0 : Int32)), (.int (1 : Int32)), (.ref la), (.int (0 : Int32)), (.ref la)]))
  refine Comes.st (fun t k => XS.iloadN X16.here hx rfl (hb hby d4_98) rfl (XS.isub X16.here hx rfl (hb hby d4_99) rfl k)) ?_
  show Comes p e below _ (T16.setTop (mkF m 100 #[.val (.ref self), .val (.ref lev), .val (.int (0 : Int32))] [(.int ((0 : Int32) - (0 : Int32))), (.int (1 : Int32)), (.ref la), (.int (0 : Int32)), (.ref la)]))
  rw [show ((0 : Int32) - (0 : Int32)) = (0 : Int32) from by decide]
  show Comes p e below _ (T16.setTop (mkF m 100 #[.val (.ref self), .val (.ref lev), .val (.int (0 : Int32))] [(.int (0 : Int32)), (.int (1 : Int32)), (.ref la), (.int (0 : Int32)), (.ref la)]))
  have F17 : Arv Z h11 la kl (.object "com/example/tenorbook/tenorbook/engine/Level") (4 : Int32) [.null, .null, .null, .null] .null := (G6.keep Kq11 (ninS G13 nin0))
  obtain ⟨T18, h18, L18, X18, e18, N18, Kq18, V18, st18⟩ := cpA X16 hx hZ hown (hw _ (List.mem_of_getElem? (i := 45) rfl)) (hw _ (List.mem_of_getElem? (i := 48) rfl)) (hw _ (List.mem_of_getElem? (i := 46) rfl)) (hw _ (List.mem_of_getElem? (i := 47) rfl)) e16 (us := []) F17 F17 (Or.inr ⟨rfl, rfl, trivial⟩) (by decide) (by decide) (by decide) (by decide) (by decide) rfl (Nat.le_of_ble_eq_true rfl) N11 (by omega) (g := (mkF m 100 #[.val (.ref self), .val (.ref lev), .val (.int (0 : Int32))] [(.int (0 : Int32)), (.int (1 : Int32)), (.ref la), (.int (0 : Int32)), (.ref la)])) rfl (by rw [hml]; rfl) (rest := []) rfl (hb hby d4_100) (by decide) (W := 0) (by show 2 * 0 + _ ≤ _; exact Nat.le_of_eq rfl) (by decide)
  have z18 : h11.size ≤ h18.size := Kq18.1
  have K18 : Keep h0 h18 [self, ta, la, lev] := K11.trans Kq18 (allS (Or.inl (List.mem_of_getElem? (i := 2) rfl)) all0)
  have V18' : Arv Z h18 la kl (.object "com/example/tenorbook/tenorbook/engine/Level") (4 : Int32) [.null, .null, .null, .null] .null := V18
  refine Comes.st st18 ?_
  show Comes p e below _ (T18.setTop (mkF m 103 #[.val (.ref self), .val (.ref lev), .val (.int (0 : Int32))] []))
  refine Comes.st (fun t k => XS.aloadN X18.here hx rfl (hb hby d4_103) rfl rfl k) ?_
  show Comes p e below _ (T18.setTop (mkF m 104 #[.val (.ref self), .val (.ref lev), .val (.int (0 : Int32))] [(.ref self)]))
  have F19 : Fld Z h18 self "com/example/tenorbook/tenorbook/engine/Ladder" "ticks" "[J" (.ref ta) := ((G1.keep Kq11 (ninS (Ne.symm G11) nin0)).keep Kq18 (ninS (Ne.symm G12) nin0))
  obtain ⟨T20, X20, e20, st20⟩ := getF X18 hx hZ hown (host := "") (Or.inl (hw _ (List.mem_of_getElem? (i := 10) rfl))) Via.refl e18 F19 (g := (mkF m 104 #[.val (.ref self), .val (.ref lev), .val (.int (0 : Int32))] [(.ref self)])) rfl rfl (hb hby d4_104)
  refine Comes.st st20 ?_
  show Comes p e below _ (T20.setTop (mkF m 107 #[.val (.ref self), .val (.ref lev), .val (.int (0 : Int32))] [(.ref ta)]))
  refine Comes.st (fun t k => XS.iloadN X20.here hx rfl (hb hby d4_107) rfl (XS.aloadN X20.here hx rfl (hb hby d4_108) rfl rfl k)) ?_
  show Comes p e below _ (T20.setTop (mkF m 109 #[.val (.ref self), .val (.ref lev), .val (.int (0 : Int32))] [(.ref lev), (.int (0 : Int32)), (.ref ta)]))
  have F21 : Fld Z h18 lev "com/example/tenorbook/tenorbook/engine/Level" "ticks" "J" (.long xx) := ((G9.keep Kq11 (ninS G15 nin0)).keep Kq18 (ninS G16 nin0))
  have F23 : Exa Z h18 lev "com/example/tenorbook/tenorbook/engine/Level" := ((G8.keep Kq11).keep Kq18)
  obtain ⟨cq22, kq22, q22a, q22b, q22c⟩ := isOf hZ e20 F23
  obtain ⟨_, _, ⟨T22, L22, k22, n22⟩, -, X22, ⟨Lc22, hQ22, l22, y22, z22⟩, st22⟩ := X20.virtualBack hx (y := (⟨"com/example/tenorbook/tenorbook/engine/Level", "ticks", "()J"⟩ : MethodName)) (z := (⟨"com/example/tenorbook/tenorbook/engine/Level", "ticks", "()J"⟩ : MethodName)) hown (mvT hZ (hw _ (List.mem_of_getElem? (i := 34) rfl))) (mvT hZ (hw _ (List.mem_of_getElem? (i := 35) rfl))) (notFace_of_selects (args := #[]) (mvT hZ (hw _ (List.mem_of_getElem? (i := 37) rfl)))) (mvT hZ (hw _ (List.mem_of_getElem? (i := 37) rfl))) (mvT hZ (hw _ (List.mem_of_getElem? (i := 36) rfl))) (by decide) (backOf (W := 2) (rm5 l Z a0 hw [] lev xx h18 n0 (by omega)  F21) hZ (hw _ (List.mem_of_getElem? (i := 38) rfl)) (hw _ (List.mem_of_getElem? (i := 20) rfl)) (by decide) (by decide)) q22a q22c (g := (mkF m 109 #[.val (.ref self), .val (.ref lev), .val (.int (0 : Int32))] [(.ref lev), (.int (0 : Int32)), (.ref ta)])) rfl (by rw [hml]; rfl) (Steps.refl _) (argsL := []) (rest := [(.int (0 : Int32)), (.ref ta)]) (lenOf pd_1 rfl) rfl (by show 2 * 0 + _ ≤ _; exact Nat.le_of_eq rfl) (hb hby d4_109) (fun _ _ => ⟨rfl, e20, (by decide : 0 + 0 ≤ _), (by decide : 0 + 0 ≤ _)⟩)
  dsimp only [Pt.U, Pt.locs, Pt.cells, Pt.slots] at X22 l22 y22 z22 st22 hQ22
  subst l22 y22 z22
  obtain ⟨rfl, Nq22, hs22⟩ := hQ22
  have N22 := Fr.app N18 Nq22
  refine Comes.go st22 ?_
  show Comes p e below _ (T22.setTop (mkF m 112 #[.val (.ref self), .val (.ref lev), .val (.int (0 : Int32))] [(.long xx), (.int (0 : Int32)), (.ref ta)]))
  have F24 : Arv Z h18 ta kt .long (4 : Int32) [(.long (0 : Int64)), (.long (0 : Int64)), (.long (0 : Int64)), (.long (0 : Int64))] (.long (0 : Int64)) := (V11'.keep Kq18 (ninS (Ne.symm G13) nin0))
  obtain ⟨cl25, Ar25, q25, S25, Ng25, H25, Gf25⟩ := id F24
  have hin25 : ¬ ((0 : Int32) < 0 ∨ cl25.slots.size ≤ ((0 : Int32)).toNatClampNeg) := inb_of S25 ⟨by decide, by decide⟩
  obtain ⟨T25, h25, X25, e25, W25, st25⟩ := stJ X22 hx hZ hs22 Ar25 (j := (0 : Int32)) hin25 (g := (mkF m 112 #[.val (.ref self), .val (.ref lev), .val (.int (0 : Int32))] [(.long xx), (.int (0 : Int32)), (.ref ta)])) rfl rfl (hb hby d4_112)
  have V25 : Arv Z h25 ta kt .long (4 : Int32) [(.long xx), (.long (0 : Int64)), (.long (0 : Int64)), (.long (0 : Int64))] (.long (0 : Int64)) := Arv.set Ar25 q25 S25 Ng25 H25 Gf25 rfl W25 0 rfl (Nat.le_of_ble_eq_true rfl)
  have z25 : h25.size = h18.size := W25.size
  have N25 := Fr.snoc X25 N22 (by omega)
  have K25 : Keep h0 h25 [self, ta, la, lev] := K18.wr W25 (Or.inl (List.mem_of_getElem? (i := 1) rfl))
  refine Comes.st st25 ?_
  show Comes p e below _ (T25.setTop (mkF m 113 #[.val (.ref self), .val (.ref lev), .val (.int (0 : Int32))] []))
  refine Comes.st (fun t k => XS.aloadN X25.here hx rfl (hb hby d4_113) rfl rfl k) ?_
  show Comes p e below _ (T25.setTop (mkF m 114 #[.val (.ref self), .val (.ref lev), .val (.int (0 : Int32))] [(.ref self)]))
  have F26 : Fld Z h25 self "com/example/tenorbook/tenorbook/engine/Ladder" "levels" "[Lcom/example/tenorbook/tenorbook/engine/Level;" (.ref la) := ((F12.keep Kq18 (ninS (Ne.symm G12) nin0)).other W25 (Or.inl (Ne.symm G11)))
  obtain ⟨T27, X27, e27, st27⟩ := getF X25 hx hZ hown (host := "") (Or.inl (hw _ (List.mem_of_getElem? (i := 14) rfl))) Via.refl e25 F26 (g := (mkF m 114 #[.val (.ref self), .val (.ref lev), .val (.int (0 : Int32))] [(.ref self)])) rfl rfl (hb hby d4_114)
  refine Comes.st st27 ?_
  show Comes p e below _ (T27.setTop (mkF m 117 #[.val (.ref self), .val (.ref lev), .val (.int (0 : Int32))] [(.ref la)]))
  refine Comes.st (fun t k => XS.iloadN X27.here hx rfl (hb hby d4_117) rfl (XS.aloadN X27.here hx rfl (hb hby d4_118) rfl rfl k)) ?_
  show Comes p e below _ (T27.setTop (mkF m 119 #[.val (.ref self), .val (.ref lev), .val (.int (0 : Int32))] [(.ref lev), (.int (0 : Int32)), (.ref la)]))
  have F28 : Arv Z h25 la kl (.object "com/example/tenorbook/tenorbook/engine/Level") (4 : Int32) [.null, .null, .null, .null] .null := (V18'.other W25 G13)
  obtain ⟨cl29, Ar29, q29, S29, Ng29, H29, Gf29⟩ := id F28
  have hin29 : ¬ ((0 : Int32) < 0 ∨ cl29.slots.size ≤ ((0 : Int32)).toNatClampNeg) := inb_of S29 ⟨by decide, by decide⟩
  have F30 : Exa Z h25 lev "com/example/tenorbook/tenorbook/engine/Level" := (F23.wr W25)
  obtain ⟨T29, h29, X29, e29, W29, st29⟩ := stR X27 hx hZ e27 Ar29 (j := (0 : Int32)) hin29 rfl (Sto.ofV Ar29 q29 G7 (Ins.self F30)) (g := (mkF m 119 #[.val (.ref self), .val (.ref lev), .val (.int (0 : Int32))] [(.ref lev), (.int (0 : Int32)), (.ref la)])) rfl rfl (hb hby d4_119)
  have V29 : Arv Z h29 la kl (.object "com/example/tenorbook/tenorbook/engine/Level") (4 : Int32) [(.ref lev), .null, .null, .null] .null := Arv.set Ar29 q29 S29 Ng29 H29 Gf29 rfl W29 0 rfl (Nat.le_of_ble_eq_true rfl)
  have z29 : h29.size = h25.size := W29.size
  have N29 := Fr.snoc X29 N25 (by omega)
  have K29 : Keep h0 h29 [self, ta, la, lev] := K25.wr W29 (Or.inl (List.mem_of_getElem? (i := 2) rfl))
  refine Comes.st st29 ?_
  show Comes p e below _ (T29.setTop (mkF m 120 #[.val (.ref self), .val (.ref lev), .val (.int (0 : Int32))] []))
  refine Comes.st (fun t k => XS.aloadN X29.here hx rfl (hb hby d4_120) rfl rfl (XS.aloadN X29.here hx rfl (hb hby d4_121) rfl rfl k)) ?_
  show Comes p e below _ (T29.setTop (mkF m 122 #[.val (.ref self), .val (.ref lev), .val (.int (0 : Int32))] [(.ref self), (.ref lev)]))
  have F31 : Exa Z h29 lev "com/example/tenorbook/tenorbook/engine/Level" := (F30.wr W29)
  have F32 : Fld Z h29 lev "com/example/tenorbook/tenorbook/engine/Level" "ladder" "Lcom/example/tenorbook/tenorbook/engine/Ladder;" .null := ((((G10.keep Kq11 (ninS G15 nin0)).keep Kq18 (ninS G16 nin0)).other W25 (Or.inl G15)).other W29 (Or.inl G16))
  obtain ⟨T33, h33, X33, e33, W33, st33⟩ := putF X29 hx hZ hown (host := "") (Or.inl (hw _ (List.mem_of_getElem? (i := 50) rfl))) Via.refl e29 F32 F31 (Or.inl (hw _ (List.mem_of_getElem? (i := 51) rfl))) (hw _ (List.mem_of_getElem? (i := 19) rfl)) (ty := (.object "com/example/tenorbook/tenorbook/engine/Ladder")) (by decide) rfl rfl (g := (mkF m 122 #[.val (.ref self), .val (.ref lev), .val (.int (0 : Int32))] [(.ref self), (.ref lev)])) rfl rfl (hb hby d4_122)
  have Fw33 := F32.same W33
  have z33 : h33.size = h29.size := W33.size
  have N33 := Fr.snoc X33 N29 (by omega)
  have K33 : Keep h0 h33 [self, ta, la, lev] := K29.wr W33 (Or.inl (List.mem_of_getElem? (i := 3) rfl))
  refine Comes.st st33 ?_
  show Comes p e below _ (T33.setTop (mkF m 125 #[.val (.ref self), .val (.ref lev), .val (.int (0 : Int32))] []))
  refine Comes.st (fun t k => XS.aloadN X33.here hx rfl (hb hby d4_125) rfl rfl (XS.dup X33.here hx rfl (hb hby d4_126) rfl rfl k)) ?_
  show Comes p e below _ (T33.setTop (mkF m 127 #[.val (.ref self), .val (.ref lev), .val (.int (0 : Int32))] [(.ref self), (.ref self)]))
  have F34 : Fld Z h33 self "com/example/tenorbook/tenorbook/engine/Ladder" "count" "I" (.int (0 : Int32)) := ((((F15.keep Kq18 (ninS (Ne.symm G12) nin0)).other W25 (Or.inl (Ne.symm G11))).other W29 (Or.inl (Ne.symm G12))).other W33 (Or.inl (Ne.symm G14)))
  obtain ⟨T35, X35, e35, st35⟩ := getF X33 hx hZ hown (host := "") (Or.inl (hw _ (List.mem_of_getElem? (i := 43) rfl))) Via.refl e33 F34 (g := (mkF m 127 #[.val (.ref self), .val (.ref lev), .val (.int (0 : Int32))] [(.ref self), (.ref self)])) rfl rfl (hb hby d4_127)
  refine Comes.st st35 ?_
  show Comes p e below _ (T35.setTop (mkF m 130 #[.val (.ref self), .val (.ref lev), .val (.int (0 : Int32))] [(.int (0 : Int32)), (.ref self)]))
  refine Comes.st (fun t k => XS.iconst X35.here hx rfl (hb hby d4_130) (XS.iadd X35.here hx rfl (hb hby d4_131) rfl k)) ?_
  show Comes p e below _ (T35.setTop (mkF m 132 #[.val (.ref self), .val (.ref lev), .val (.int (0 : Int32))] [(.int ((0 : Int32) + (1 : Int32))), (.ref self)]))
  rw [show ((0 : Int32) + (1 : Int32)) = (1 : Int32) from by decide]
  show Comes p e below _ (T35.setTop (mkF m 132 #[.val (.ref self), .val (.ref lev), .val (.int (0 : Int32))] [(.int (1 : Int32)), (.ref self)]))
  have F36 : Exa Z h33 self "com/example/tenorbook/tenorbook/engine/Ladder" := (((((G0.keep Kq11).keep Kq18).wr W25).wr W29).wr W33)
  obtain ⟨T37, h37, X37, e37, W37, st37⟩ := putF X35 hx hZ hown (host := "") (Or.inl (hw _ (List.mem_of_getElem? (i := 43) rfl))) Via.refl e35 F34 F36 (Or.inl (hw _ (List.mem_of_getElem? (i := 44) rfl))) (hw _ (List.mem_of_getElem? (i := 1) rfl)) (ty := .int) (by decide) rfl rfl (g := (mkF m 132 #[.val (.ref self), .val (.ref lev), .val (.int (0 : Int32))] [(.int (1 : Int32)), (.ref self)])) rfl rfl (hb hby d4_132)
  have Fw37 := F34.same W37
  have z37 : h37.size = h33.size := W37.size
  have N37 := Fr.snoc X37 N33 (by omega)
  have K37 : Keep h0 h37 [self, ta, la, lev] := K33.wr W37 (Or.inl (List.mem_of_getElem? (i := 0) rfl))
  refine Comes.st st37 ?_
  show Comes p e below _ (T37.setTop (mkF m 135 #[.val (.ref self), .val (.ref lev), .val (.int (0 : Int32))] []))
  have F38 : Exa Z h37 self "com/example/tenorbook/tenorbook/engine/Ladder" := (F36.wr W37)
  have F39 : Fld Z h37 self "com/example/tenorbook/tenorbook/engine/Ladder" "ticks" "[J" (.ref ta) := ((((F19.other W25 (Or.inl (Ne.symm G11))).other W29 (Or.inl (Ne.symm G12))).other W33 (Or.inl (Ne.symm G14))).other W37 (Or.inr (slot_ne (Or.inl (hw _ (List.mem_of_getElem? (i := 11) rfl))) (Or.inl (hw _ (List.mem_of_getElem? (i := 44) rfl))) (by decide) (t := (.array .long)) (t' := .int) (by decide) (by decide))))
  have F40 : Fld Z h37 self "com/example/tenorbook/tenorbook/engine/Ladder" "levels" "[Lcom/example/tenorbook/tenorbook/engine/Level;" (.ref la) := (((F26.other W29 (Or.inl (Ne.symm G12))).other W33 (Or.inl (Ne.symm G14))).other W37 (Or.inr (slot_ne (Or.inl (hw _ (List.mem_of_getElem? (i := 15) rfl))) (Or.inl (hw _ (List.mem_of_getElem? (i := 44) rfl))) (by decide) (t := (.array (.object "com/example/tenorbook/tenorbook/engine/Level"))) (t' := .int) (by decide) (by decide))))
  have F41 : Fld Z h37 self "com/example/tenorbook/tenorbook/engine/Ladder" "lowestBest" "Z" (.int lbv) := ((((((G3.keep Kq11 (ninS (Ne.symm G11) nin0)).keep Kq18 (ninS (Ne.symm G12) nin0)).other W25 (Or.inl (Ne.symm G11))).other W29 (Or.inl (Ne.symm G12))).other W33 (Or.inl (Ne.symm G14))).other W37 (Or.inr (slot_ne (Or.inr (hw _ (List.mem_of_getElem? (i := 17) rfl))) (Or.inl (hw _ (List.mem_of_getElem? (i := 44) rfl))) (by decide) (t := .boolean) (t' := .int) (by decide) (by decide))))
  have F42 : Arv Z h37 ta kt .long (4 : Int32) [(.long xx), (.long (0 : Int64)), (.long (0 : Int64)), (.long (0 : Int64))] (.long (0 : Int64)) := (((V25.other W29 (Ne.symm G13)).other W33 (Ne.symm G15)).other W37 G11)
  have F43 : Arv Z h37 la kl (.object "com/example/tenorbook/tenorbook/engine/Level") (4 : Int32) [(.ref lev), .null, .null, .null] .null := ((V29.other W33 (Ne.symm G16)).other W37 G12)
  have F44 : Exa Z h37 lev "com/example/tenorbook/tenorbook/engine/Level" := ((F31.wr W33).wr W37)
  have F45 : Fld Z h37 lev "com/example/tenorbook/tenorbook/engine/Level" "ticks" "J" (.long xx) := ((((F21.other W25 (Or.inl G15)).other W29 (Or.inl G16)).other W33 (Or.inr (slot_ne (Or.inr (hw _ (List.mem_of_getElem? (i := 26) rfl))) (Or.inl (hw _ (List.mem_of_getElem? (i := 51) rfl))) (by decide) (t := .long) (t' := (.object "com/example/tenorbook/tenorbook/engine/Ladder")) (by decide) (by decide)))).other W37 (Or.inl G14))
  have F46 : Fld Z h37 lev "com/example/tenorbook/tenorbook/engine/Level" "ladder" "Lcom/example/tenorbook/tenorbook/engine/Ladder;" (.ref self) := (Fw33.other W37 (Or.inl G14))
  exact Comes.ret0 X37 hx Bd.returns hlk (hb hby d4_135) e37 ⟨xx, lev, rfl, N37, K37, F38, F39, F40, F41, Fw37, F42, F43, G7, F44, F45, F46, F44, (by exact ⟨rfl, rfl, rfl⟩)⟩ (by decide) (by decide)
def Q_add1 (Z : State) (self : Nat) (lev : Nat) (lbv : Int32) (ta : Nat) (la : Nat) (kt : ClassId) (kl : ClassId) (xx : Int64) (x0 : Int64) (l0 : Nat) (h0 : Heap) (n0 : Nat) (v : Option Value) (h : Heap) (L : List Loc) : Prop := ∃ (y0 : Int64), ∃ (y1 : Int64), ∃ (z0 : Nat), ∃ (z1 : Nat), (v = none) ∧ (Fr n0 L) ∧ (Keep h0 h [self, ta, la, lev]) ∧ (Exa Z h self "com/example/tenorbook/tenorbook/engine/Ladder") ∧ (Fld Z h self "com/example/tenorbook/tenorbook/engine/Ladder" "ticks" "[J" (.ref ta)) ∧ (Fld Z h self "com/example/tenorbook/tenorbook/engine/Ladder" "levels" "[Lcom/example/tenorbook/tenorbook/engine/Level;" (.ref la)) ∧ (Fld Z h self "com/example/tenorbook/tenorbook/engine/Ladder" "lowestBest" "Z" (.int lbv)) ∧ (Fld Z h self "com/example/tenorbook/tenorbook/engine/Ladder" "count" "I" (.int (2 : Int32))) ∧ (Arv Z h ta kt .long (4 : Int32) [(.long y0), (.long y1), (.long (0 : Int64)), (.long (0 : Int64))] (.long (0 : Int64))) ∧ (Arv Z h la kl (.object "com/example/tenorbook/tenorbook/engine/Level") (4 : Int32) [(.ref z0), (.ref z1), .null, .null] .null) ∧ (Ovr Z kl "com/example/tenorbook/tenorbook/engine/Level") ∧ (Exa Z h lev "com/example/tenorbook/tenorbook/engine/Level") ∧ (Fld Z h lev "com/example/tenorbook/tenorbook/engine/Level" "ticks" "J" (.long xx)) ∧ (Fld Z h lev "com/example/tenorbook/tenorbook/engine/Level" "ladder" "Lcom/example/tenorbook/tenorbook/engine/Ladder;" (.ref self)) ∧ (Exa Z h z0 "com/example/tenorbook/tenorbook/engine/Level") ∧ (Exa Z h z1 "com/example/tenorbook/tenorbook/engine/Level") ∧ ((own_key lbv xx < own_key lbv x0 ∧ y0 = xx ∧ y1 = x0 ∧ own_ad z0 = own_ad lev ∧ own_ad z1 = own_ad l0 ∧ own_key lbv y0 = own_key lbv xx ∧ own_key lbv y1 = own_key lbv x0) ∨ (own_key lbv x0 < own_key lbv xx ∧ y0 = x0 ∧ y1 = xx ∧ own_ad z0 = own_ad l0 ∧ own_ad z1 = own_ad lev ∧ own_key lbv y0 = own_key lbv x0 ∧ own_key lbv y1 = own_key lbv xx)) ∧ (own_key lbv y0 < own_key lbv y1)
set_option maxRecDepth 65536 in
set_option maxHeartbeats 40000000 in
theorem add1 (l : Launch) (Z : State) (a0 : Array Value) (hw : ∀ d ∈ tables_1, d.before a0 Z = true) (ws : List Jvm.Cond) (self : Nat) (lev : Nat) (lbv : Int32) (ta : Nat) (la : Nat) (kt : ClassId) (kl : ClassId) (xx : Int64) (x0 : Int64) (l0 : Nat) (h0 : Heap) (n0 : Nat) (Z0 : n0 ≤ h0.size) (G0 : Exa Z h0 self "com/example/tenorbook/tenorbook/engine/Ladder") (G1 : Fld Z h0 self "com/example/tenorbook/tenorbook/engine/Ladder" "ticks" "[J" (.ref ta)) (G2 : Fld Z h0 self "com/example/tenorbook/tenorbook/engine/Ladder" "levels" "[Lcom/example/tenorbook/tenorbook/engine/Level;" (.ref la)) (G3 : Fld Z h0 self "com/example/tenorbook/tenorbook/engine/Ladder" "lowestBest" "Z" (.int lbv)) (G4 : Fld Z h0 self "com/example/tenorbook/tenorbook/engine/Ladder" "count" "I" (.int (1 : Int32))) (G5 : Arv Z h0 ta kt .long (4 : Int32) [(.long x0), (.long (0 : Int64)), (.long (0 : Int64)), (.long (0 : Int64))] (.long (0 : Int64))) (G6 : Arv Z h0 la kl (.object "com/example/tenorbook/tenorbook/engine/Level") (4 : Int32) [(.ref l0), .null, .null, .null] .null) (G7 : Ovr Z kl "com/example/tenorbook/tenorbook/engine/Level") (G8 : Exa Z h0 lev "com/example/tenorbook/tenorbook/engine/Level") (G9 : Fld Z h0 lev "com/example/tenorbook/tenorbook/engine/Level" "ticks" "J" (.long xx)) (G10 : Fld Z h0 lev "com/example/tenorbook/tenorbook/engine/Level" "ladder" "Lcom/example/tenorbook/tenorbook/engine/Ladder;" .null) (G11 : Exa Z h0 l0 "com/example/tenorbook/tenorbook/engine/Level") (G12 : ¬ x0 = xx) (G13 : ta ≠ self) (G14 : la ≠ self) (G15 : la ≠ ta) (G16 : lev ≠ self) (G17 : lev ≠ ta) (G18 : lev ≠ la) (G19 : n0 ≤ self) (G20 : n0 ≤ ta) (G21 : n0 ≤ la) (G22 : n0 ≤ lev) :
    MetFree l (⟨"com/example/tenorbook/tenorbook/engine/Ladder", "add", "(Lcom/example/tenorbook/tenorbook/engine/Level;)V"⟩ : MethodName) (head1 (Jvm.Cond.code (⟨"com/example/tenorbook/tenorbook/engine/Ladder", "add", "(Lcom/example/tenorbook/tenorbook/engine/Level;)V"⟩ : MethodName) prog_9_method_6_code 3 none :: ws) ({ frames := 2, cells := 0, slots := 0, locals := 35 } : Room)) (fun a U => a = #[(.ref self), (.ref lev)] ∧ Z.Warmed39 U.vm ∧ U.heap = h0) (fun _ _ _ _ _ => True) (fun _ U o U' => ∃ v L, o = .returned v ∧ Q_add1 Z self lev lbv ta la kt kl xx x0 l0 h0 n0 v U'.heap L ∧ FrameEnd U o U' L ({ frames := 2, cells := 0, slots := 0, locals := 35 } : Room).cells ({ frames := 2, cells := 0, slots := 0, locals := 35 } : Room).slots) := by
  refine MetFree.of_bodySF (plainFor_of_name pn_4) hisR ?_
  intro p e s m args below meth c s₁ Bd hml0 hP hK
  obtain ⟨rfl, hZ, hh⟩ := hP
  have hx := Bd.exec
  have hby := Bd.bytes
  have hml : c.maxLocals = 3 := hml0
  have hown : s.vm.findClass "com/example/tenorbook/tenorbook/engine/Ladder" = some m.cls := findClass_of_methodNamed Bd.named
  have hnm := (name_of_methodNamed Bd.named Bd.method).1
  have hlk : meth.locks = false := Bd.notSynchronized
  have X0 : Stand p l e ({ frames := 2, cells := 0, slots := 0, locals := 35 } : Room) s m #[(.ref self), (.ref lev)] below meth c s₁ [] 0 0 := Stand.of_body Bd
  have e0 : s₁.heap = h0 := by rw [← hh, Bd.state]; rfl
  have N0 := Fr.nil n0
  have K0 := Keep.refl h0 [self, ta, la, lev]
  refine Comes.out (Q := Q_add1 Z self lev lbv ta la kt kl xx x0 l0 h0 n0) (kc := ({ frames := 2, cells := 0, slots := 0, locals := 35 } : Room).cells) (ks := ({ frames := 2, cells := 0, slots := 0, locals := 35 } : Room).slots) ?_
  refine Comes.cast (ef_add1 m self lev) ?_
  have lt_self : self < h0.size := G0.lt
  have lt_ta : ta < h0.size := G5.lt
  have lt_la : la < h0.size := G6.lt
  have lt_lev : lev < h0.size := G8.lt
  have lt_l0 : l0 < h0.size := G11.lt
  show Comes p e below _ (s₁.setTop (mkF m 0 #[.val (.ref self), .val (.ref lev), .unset] []))
  refine Comes.st (fun t k => XS.aloadN X0.here hx rfl (hb hby d4_0) rfl rfl (XS.aloadN X0.here hx rfl (hb hby d4_1) rfl rfl k)) ?_
  show Comes p e below _ (s₁.setTop (mkF m 2 #[.val (.ref self), .val (.ref lev), .unset] [(.ref lev), (.ref self)]))
  obtain ⟨cq1, kq1, q1a, q1b, q1c⟩ := isOf hZ e0 G8
  obtain ⟨_, _, ⟨T1, L1, k1, n1⟩, -, X1, ⟨Lc1, hQ1, l1, y1, z1⟩, st1⟩ := X0.virtualBack hx (y := (⟨"com/example/tenorbook/tenorbook/engine/Level", "ticks", "()J"⟩ : MethodName)) (z := (⟨"com/example/tenorbook/tenorbook/engine/Level", "ticks", "()J"⟩ : MethodName)) hown (mvT hZ (hw _ (List.mem_of_getElem? (i := 34) rfl))) (mvT hZ (hw _ (List.mem_of_getElem? (i := 35) rfl))) (notFace_of_selects (args := #[]) (mvT hZ (hw _ (List.mem_of_getElem? (i := 37) rfl)))) (mvT hZ (hw _ (List.mem_of_getElem? (i := 37) rfl))) (mvT hZ (hw _ (List.mem_of_getElem? (i := 36) rfl))) (by decide) (backOf (W := 1) (rm5 l Z a0 hw [] lev xx h0 n0 (by omega)  G9) hZ (hw _ (List.mem_of_getElem? (i := 38) rfl)) (hw _ (List.mem_of_getElem? (i := 20) rfl)) (by decide) (by decide)) q1a q1c (g := (mkF m 2 #[.val (.ref self), .val (.ref lev), .unset] [(.ref lev), (.ref self)])) rfl (by rw [hml]; rfl) (Steps.refl _) (argsL := []) (rest := [(.ref self)]) (lenOf pd_1 rfl) rfl (by show 2 * 0 + _ ≤ _; exact Nat.le_of_eq rfl) (hb hby d4_2) (fun _ _ => ⟨rfl, e0, (by decide : 0 + 0 ≤ _), (by decide : 0 + 0 ≤ _)⟩)
  dsimp only [Pt.U, Pt.locs, Pt.cells, Pt.slots] at X1 l1 y1 z1 st1 hQ1
  subst l1 y1 z1
  obtain ⟨rfl, Nq1, hs1⟩ := hQ1
  have N1 := Fr.app N0 Nq1
  refine Comes.go st1 ?_
  show Comes p e below _ (T1.setTop (mkF m 5 #[.val (.ref self), .val (.ref lev), .unset] [(.long xx), (.ref self)]))
  obtain ⟨cq2, q2, q2'⟩ := G0.cell
  obtain ⟨_, _, ⟨T2, L2, k2, n2⟩, -, X2, ⟨Lc2, hQ2, l2, y2, z2⟩, st2⟩ := X1.privateBack hx (y := (⟨"com/example/tenorbook/tenorbook/engine/Ladder", "find", "(J)I"⟩ : MethodName)) hown (mvT hZ (hw _ (List.mem_of_getElem? (i := 39) rfl))) (mvT hZ (hw _ (List.mem_of_getElem? (i := 40) rfl))) (mvT hZ (own_selp (y := (⟨"com/example/tenorbook/tenorbook/engine/Ladder", "find", "(J)I"⟩ : MethodName)) (hw _ (List.mem_of_getElem? (i := 1) rfl)) (hw _ (List.mem_of_getElem? (i := 41) rfl)) (hw _ (List.mem_of_getElem? (i := 40) rfl)) (by decide))) (Cond.privateMethod_at (mvP hZ (hw _ (List.mem_of_getElem? (i := 41) rfl)) (args := #[]))) (mvT hZ (hw _ (List.mem_of_getElem? (i := 42) rfl))) (by decide) (backOf (W := 0) (find1 l Z a0 hw [] self xx lbv ta kt x0 h0 n0 (by omega)  G0 G1 G3 G4 G5 (by assumption)) hZ (hw _ (List.mem_of_getElem? (i := 42) rfl)) (hw _ (List.mem_of_getElem? (i := 2) rfl)) (by decide) (by decide)) (g := (mkF m 5 #[.val (.ref self), .val (.ref lev), .unset] [(.long xx), (.ref self)])) rfl (by rw [hml]; rfl) (Steps.refl _) (a := self) (by rw [hs1]; exact q2) q2' (argsL := [(.long xx)]) (rest := []) (lenOf pd_2 rfl) rfl (by show 2 * 0 + _ ≤ _; exact Nat.le_of_eq rfl) (hb hby d4_5) (fun _ _ => ⟨rfl, hs1, (by decide : 0 + 0 ≤ _), (by decide : 0 + 0 ≤ _)⟩)
  dsimp only [Pt.U, Pt.locs, Pt.cells, Pt.slots] at X2 l2 y2 z2 st2 hQ2
  subst l2 y2 z2
  obtain ⟨r3, rfl, Nq2, hs2, P2_0⟩ := hQ2
  have N2 := Fr.app N1 Nq2
  refine Comes.go st2 ?_
  rcases P2_0 with ⟨rfl, o0⟩ | ⟨rfl, o0⟩
  · show Comes p e below _ (T2.setTop (mkF m 8 #[.val (.ref self), .val (.ref lev), .unset] [(.int (-1 : Int32))]))
    refine Comes.st (fun t k => XS.ineg X2.here hx rfl (hb hby d4_8) rfl k) ?_
    show Comes p e below _ (T2.setTop (mkF m 9 #[.val (.ref self), .val (.ref lev), .unset] [(.int (-(-1 : Int32)))]))
    rw [show (-(-1 : Int32)) = (1 : Int32) from by decide]
    show Comes p e below _ (T2.setTop (mkF m 9 #[.val (.ref self), .val (.ref lev), .unset] [(.int (1 : Int32))]))
    refine Comes.st (fun t k => XS.iconst X2.here hx rfl (hb hby d4_9) (XS.isub X2.here hx rfl (hb hby d4_10) rfl k)) ?_
    show Comes p e below _ (T2.setTop (mkF m 11 #[.val (.ref self), .val (.ref lev), .unset] [(.int ((1 : Int32) - (1 : Int32)))]))
    rw [show ((1 : Int32) - (1 : Int32)) = (0 : Int32) from by decide]
    show Comes p e below _ (T2.setTop (mkF m 11 #[.val (.ref self), .val (.ref lev), .unset] [(.int (0 : Int32))]))
    refine Comes.st (fun t k => XS.istoreN X2.here hx rfl (hb hby d4_11) rfl (l' := #[.val (.ref self), .val (.ref lev), .val (.int (0 : Int32))]) rfl (XS.aloadN X2.here hx rfl (hb hby d4_12) rfl rfl k)) ?_
    show Comes p e below _ (T2.setTop (mkF m 13 #[.val (.ref self), .val (.ref lev), .val (.int (0 : Int32))] [(.ref self)]))
    obtain ⟨T4, X4, e4, st4⟩ := getF X2 hx hZ hown (host := "") (Or.inl (hw _ (List.mem_of_getElem? (i := 43) rfl))) Via.refl hs2 G4 (g := (mkF m 13 #[.val (.ref self), .val (.ref lev), .val (.int (0 : Int32))] [(.ref self)])) rfl rfl (hb hby d4_13)
    refine Comes.st st4 ?_
    show Comes p e below _ (T4.setTop (mkF m 16 #[.val (.ref self), .val (.ref lev), .val (.int (0 : Int32))] [(.int (1 : Int32))]))
    refine Comes.st (fun t k => XS.aloadN X4.here hx rfl (hb hby d4_16) rfl rfl k) ?_
    show Comes p e below _ (T4.setTop (mkF m 17 #[.val (.ref self), .val (.ref lev), .val (.int (0 : Int32))] [(.ref self), (.int (1 : Int32))]))
    obtain ⟨T5, X5, e5, st5⟩ := getF X4 hx hZ hown (host := "") (Or.inl (hw _ (List.mem_of_getElem? (i := 14) rfl))) Via.refl e4 G2 (g := (mkF m 17 #[.val (.ref self), .val (.ref lev), .val (.int (0 : Int32))] [(.ref self), (.int (1 : Int32))])) rfl rfl (hb hby d4_17)
    refine Comes.st st5 ?_
    show Comes p e below _ (T5.setTop (mkF m 20 #[.val (.ref self), .val (.ref lev), .val (.int (0 : Int32))] [(.ref la), (.int (1 : Int32))]))
    obtain ⟨cl6, Ar6, -, S6, Ng6, -, -⟩ := id G6
    refine Comes.st (fun t k => X5.arraylength hx (by rw [e5]; exact Ar6.1) (State.isArrayOf_alike hZ.alike Ar6.2.1) (g := (mkF m 20 #[.val (.ref self), .val (.ref lev), .val (.int (0 : Int32))] [(.ref la), (.int (1 : Int32))])) rfl rfl (hb hby d4_20) _ k) ?_
    rw [len_of S6 Ng6]
    show Comes p e below _ (T5.setTop (mkF m 21 #[.val (.ref self), .val (.ref lev), .val (.int (0 : Int32))] [(.int (4 : Int32)), (.int (1 : Int32))]))
    have hc21_7 : ¬ ((1 : Int32) = (4 : Int32)) := by decide
    refine Comes.st (fun t k => XS.icmpYes X5.here hx rfl (pc0 := 21) (pc' := 61) rfl (hb hby d4_21) rfl (feq hc21_7).2 (by decide) (by decide) (XS.aloadN X5.here hx rfl (hb hby d4_61) rfl rfl k)) ?_
    show Comes p e below _ (T5.setTop (mkF m 62 #[.val (.ref self), .val (.ref lev), .val (.int (0 : Int32))] [(.ref self)]))
    obtain ⟨T8, X8, e8, st8⟩ := getF X5 hx hZ hown (host := "") (Or.inl (hw _ (List.mem_of_getElem? (i := 10) rfl))) Via.refl e5 G1 (g := (mkF m 62 #[.val (.ref self), .val (.ref lev), .val (.int (0 : Int32))] [(.ref self)])) rfl rfl (hb hby d4_62)
    refine Comes.st st8 ?_
    show Comes p e below _ (T8.setTop (mkF m 65 #[.val (.ref self), .val (.ref lev), .val (.int (0 : Int32))] [(.ref ta)]))
    refine Comes.st (fun t k => XS.iloadN X8.here hx rfl (hb hby d4_65) rfl (XS.aloadN X8.here hx rfl (hb hby d4_66) rfl rfl k)) ?_
    show Comes p e below _ (T8.setTop (mkF m 67 #[.val (.ref self), .val (.ref lev), .val (.int (0 : Int32))] [(.ref self), (.int (0 : Int32)), (.ref ta)]))
    obtain ⟨T9, X9, e9, st9⟩ := getF X8 hx hZ hown (host := "") (Or.inl (hw _ (List.mem_of_getElem? (i := 10) rfl))) Via.refl e8 G1 (g := (mkF m 67 #[.val (.ref self), .val (.ref lev), .val (.int (0 : Int32))] [(.ref self), (.int (0 : Int32)), (.ref ta)])) rfl rfl (hb hby d4_67)
    refine Comes.st st9 ?_
    show Comes p e below _ (T9.setTop (mkF m 70 #[.val (.ref self), .val (.ref lev), .val (.int (0 : Int32))] [(.ref ta), (.int (0 : Int32)), (.ref ta)]))
    refine Comes.st (fun t k => XS.iloadN X9.here hx rfl (hb hby d4_70) rfl (XS.iconst X9.here hx rfl (hb hby d4_71) (XS.iadd X9.here hx rfl (hb hby d4_72) rfl k))) ?_
    show Comes p e below _ (T9.setTop (mkF m 73 #[.val (.ref self), .val (.ref lev), .val (.int (0 : Int32))] [(.int ((0 : Int32) + (1 : Int32))), (.ref ta), (.int (0 : Int32)), (.ref ta)]))
    rw [show ((0 : Int32) + (1 : Int32)) = (1 : Int32) from by decide]
    show Comes p e below _ (T9.setTop (mkF m 73 #[.val (.ref self), .val (.ref lev), .val (.int (0 : Int32))] [(.int (1 : Int32)), (.ref ta), (.int (0 : Int32)), (.ref ta)]))
    refine Comes.st (fun t k => XS.aloadN X9.here hx rfl (hb hby d4_73) rfl rfl k) ?_
    show Comes p e below _ (T9.setTop (mkF m 74 #[.val (.ref self), .val (.ref lev), .val (.int (0 : Int32))] [(.ref self), (.int (1 : Int32)), (.ref ta), (.int (0 : Int32)), (.ref ta)]))
    obtain ⟨T10, X10, e10, st10⟩ := getF X9 hx hZ hown (host := "") (Or.inl (hw _ (List.mem_of_getElem? (i := 43) rfl))) Via.refl e9 G4 (g := (mkF m 74 #[.val (.ref self), .val (.ref lev), .val (.int (0 : Int32))] [(.ref self), (.int (1 : Int32)), (.ref ta), (.int (0 : Int32)), (.ref ta)])) rfl rfl (hb hby d4_74)
    refine Comes.st st10 ?_
    show Comes p e below _ (T10.setTop (mkF m 77 #[.val (.ref self), .val (.ref lev), .val (.int (0 : Int32))] [(.int (1 : Int32)), (.int (1 : Int32)), (.ref ta), (.int (0 : Int32)), (.ref ta)]))
    refine Comes.st (fun t k => XS.iloadN X10.here hx rfl (hb hby d4_77) rfl (XS.isub X10.here hx rfl (hb hby d4_78) rfl k)) ?_
    show Comes p e below _ (T10.setTop (mkF m 79 #[.val (.ref self), .val (.ref lev), .val (.int (0 : Int32))] [(.int ((1 : Int32) - (0 : Int32))), (.int (1 : Int32)), (.ref ta), (.int (0 : Int32)), (.ref ta)]))
    rw [show ((1 : Int32) - (0 : Int32)) = (1 : Int32) from by decide]
    show Comes p e below _ (T10.setTop (mkF m 79 #[.val (.ref self), .val (.ref lev), .val (.int (0 : Int32))] [(.int (1 : Int32)), (.int (1 : Int32)), (.ref ta), (.int (0 : Int32)), (.ref ta)]))
    obtain ⟨T11, h11, L11, X11, e11, N11, Kq11, V11, st11⟩ := cpA X10 hx hZ hown (hw _ (List.mem_of_getElem? (i := 45) rfl)) (hw _ (List.mem_of_getElem? (i := 48) rfl)) (hw _ (List.mem_of_getElem? (i := 46) rfl)) (hw _ (List.mem_of_getElem? (i := 47) rfl)) e10 (us := [(.long x0)]) G5 G5 (Or.inl ⟨rfl, rfl⟩) (by decide) (by decide) (by decide) (by decide) (by decide) rfl (Nat.le_of_ble_eq_true rfl) N2 (by omega) (g := (mkF m 79 #[.val (.ref self), .val (.ref lev), .val (.int (0 : Int32))] [(.int (1 : Int32)), (.int (1 : Int32)), (.ref ta), (.int (0 : Int32)), (.ref ta)])) rfl (by rw [hml]; rfl) (rest := []) rfl (hb hby d4_79) (by decide) (W := 0) (by show 2 * 0 + _ ≤ _; exact Nat.le_of_eq rfl) (by decide)
    have z11 : h0.size ≤ h11.size := Kq11.1
    have K11 : Keep h0 h11 [self, ta, la, lev] := K0.trans Kq11 (allS (Or.inl (List.mem_of_getElem? (i := 1) rfl)) all0)
    have V11' : Arv Z h11 ta kt .long (4 : Int32) [(.long x0), (.long x0), (.long (0 : Int64)), (.long (0 : Int64))] (.long (0 : Int64)) := V11
    refine Comes.st st11 ?_
    show Comes p e below _ (T11.setTop (mkF m 82 #[.val (.ref self), .val (.ref lev), .val (.int (0 : Int32))] []))
    refine Comes.st (fun t k => XS.aloadN X11.here hx rfl (hb hby d4_82) rfl rfl k) ?_
    show Comes p e below _ (T11.setTop (mkF m 83 #[.val (.ref self), .val (.ref lev), .val (.int (0 : Int32))] [(.ref self)]))
    have F12 : Fld Z h11 self "com/example/tenorbook/tenorbook/engine/Ladder" "levels" "[Lcom/example/tenorbook/tenorbook/engine/Level;" (.ref la) := (G2.keep Kq11 (ninS (Ne.symm G13) nin0))
    obtain ⟨T13, X13, e13, st13⟩ := getF X11 hx hZ hown (host := "") (Or.inl (hw _ (List.mem_of_getElem? (i := 14) rfl))) Via.refl e11 F12 (g := (mkF m 83 #[.val (.ref self), .val (.ref lev), .val (.int (0 : Int32))] [(.ref self)])) rfl rfl (hb hby d4_83)
    refine Comes.st st13 ?_
    show Comes p e below _ (T13.setTop (mkF m 86 #[.val (.ref self), .val (.ref lev), .val (.int (0 : Int32))] [(.ref la)]))
    refine Comes.st (fun t k => XS.iloadN X13.here hx rfl (hb hby d4_86) rfl (XS.aloadN X13.here hx rfl (hb hby d4_87) rfl rfl k)) ?_
    show Comes p e below _ (T13.setTop (mkF m 88 #[.val (.ref self), .val (.ref lev), .val (.int (0 : Int32))] [(.ref self), (.int (0 : Int32)), (.ref la)]))
    obtain ⟨T14, X14, e14, st14⟩ := getF X13 hx hZ hown (host := "") (Or.inl (hw _ (List.mem_of_getElem? (i := 14) rfl))) Via.refl e13 F12 (g := (mkF m 88 #[.val (.ref self), .val (.ref lev), .val (.int (0 : Int32))] [(.ref self), (.int (0 : Int32)), (.ref la)])) rfl rfl (hb hby d4_88)
    refine Comes.st st14 ?_
    show Comes p e below _ (T14.setTop (mkF m 91 #[.val (.ref self), .val (.ref lev), .val (.int (0 : Int32))] [(.ref la), (.int (0 : Int32)), (.ref la)]))
    refine Comes.st (fun t k => XS.iloadN X14.here hx rfl (hb hby d4_91) rfl (XS.iconst X14.here hx rfl (hb hby d4_92) (XS.iadd X14.here hx rfl (hb hby d4_93) rfl k))) ?_
    show Comes p e below _ (T14.setTop (mkF m 94 #[.val (.ref self), .val (.ref lev), .val (.int (0 : Int32))] [(.int ((0 : Int32) + (1 : Int32))), (.ref la), (.int (0 : Int32)), (.ref la)]))
    rw [show ((0 : Int32) + (1 : Int32)) = (1 : Int32) from by decide]
    show Comes p e below _ (T14.setTop (mkF m 94 #[.val (.ref self), .val (.ref lev), .val (.int (0 : Int32))] [(.int (1 : Int32)), (.ref la), (.int (0 : Int32)), (.ref la)]))
    refine Comes.st (fun t k => XS.aloadN X14.here hx rfl (hb hby d4_94) rfl rfl k) ?_
    show Comes p e below _ (T14.setTop (mkF m 95 #[.val (.ref self), .val (.ref lev), .val (.int (0 : Int32))] [(.ref self), (.int (1 : Int32)), (.ref la), (.int (0 : Int32)), (.ref la)]))
    have F15 : Fld Z h11 self "com/example/tenorbook/tenorbook/engine/Ladder" "count" "I" (.int (1 : Int32)) := (G4.keep Kq11 (ninS (Ne.symm G13) nin0))
    obtain ⟨T16, X16, e16, st16⟩ := getF X14 hx hZ hown (host := "") (Or.inl (hw _ (List.mem_of_getElem? (i := 43) rfl))) Via.refl e14 F15 (g := (mkF m 95 #[.val (.ref self), .val (.ref lev), .val (.int (0 : Int32))] [(.ref self), (.int (1 : Int32)), (.ref la), (.int (0 : Int32)), (.ref la)])) rfl rfl (hb hby d4_95)
    refine Comes.st st16 ?_
    show Comes p e below _ (T16.setTop (mkF m 98 #[.val (.ref self), .val (.ref lev), .val (.int (0 : Int32))] [(.int (1 : Int32)), (.int (1 : Int32)), (.ref la), (.int (0 : Int32)), (.ref la)]))
    refine Comes.st (fun t k => XS.iloadN X16.here hx rfl (hb hby d4_98) rfl (XS.isub X16.here hx rfl (hb hby d4_99) rfl k)) ?_
    show Comes p e below _ (T16.setTop (mkF m 100 #[.val (.ref self), .val (.ref lev), .val (.int (0 : Int32))] [(.int ((1 : Int32) - (0 : Int32))), (.int (1 : Int32)), (.ref la), (.int (0 : Int32)), (.ref la)]))
    rw [show ((1 : Int32) - (0 : Int32)) = (1 : Int32) from by decide]
    show Comes p e below _ (T16.setTop (mkF m 100 #[.val (.ref self), .val (.ref lev), .val (.int (0 : Int32))] [(.int (1 : Int32)), (.int (1 : Int32)), (.ref la), (.int (0 : Int32)), (.ref la)]))
    have F17 : Arv Z h11 la kl (.object "com/example/tenorbook/tenorbook/engine/Level") (4 : Int32) [(.ref l0), .null, .null, .null] .null := (G6.keep Kq11 (ninS G15 nin0))
    have F18 : Exa Z h11 l0 "com/example/tenorbook/tenorbook/engine/Level" := (G11.keep Kq11)
    obtain ⟨T19, h19, L19, X19, e19, N19, Kq19, V19, st19⟩ := cpA X16 hx hZ hown (hw _ (List.mem_of_getElem? (i := 45) rfl)) (hw _ (List.mem_of_getElem? (i := 48) rfl)) (hw _ (List.mem_of_getElem? (i := 46) rfl)) (hw _ (List.mem_of_getElem? (i := 47) rfl)) e16 (us := [(.ref l0)]) F17 F17 (Or.inr ⟨rfl, rfl, ⟨(by obtain ⟨c_, A_, q_, -⟩ := F17; exact Sto.ofV A_ q_ G7 (Ins.self F18)), trivial⟩⟩) (by decide) (by decide) (by decide) (by decide) (by decide) rfl (Nat.le_of_ble_eq_true rfl) N11 (by omega) (g := (mkF m 100 #[.val (.ref self), .val (.ref lev), .val (.int (0 : Int32))] [(.int (1 : Int32)), (.int (1 : Int32)), (.ref la), (.int (0 : Int32)), (.ref la)])) rfl (by rw [hml]; rfl) (rest := []) rfl (hb hby d4_100) (by decide) (W := 0) (by show 2 * 0 + _ ≤ _; exact Nat.le_of_eq rfl) (by decide)
    have z19 : h11.size ≤ h19.size := Kq19.1
    have K19 : Keep h0 h19 [self, ta, la, lev] := K11.trans Kq19 (allS (Or.inl (List.mem_of_getElem? (i := 2) rfl)) all0)
    have V19' : Arv Z h19 la kl (.object "com/example/tenorbook/tenorbook/engine/Level") (4 : Int32) [(.ref l0), (.ref l0), .null, .null] .null := V19
    refine Comes.st st19 ?_
    show Comes p e below _ (T19.setTop (mkF m 103 #[.val (.ref self), .val (.ref lev), .val (.int (0 : Int32))] []))
    refine Comes.st (fun t k => XS.aloadN X19.here hx rfl (hb hby d4_103) rfl rfl k) ?_
    show Comes p e below _ (T19.setTop (mkF m 104 #[.val (.ref self), .val (.ref lev), .val (.int (0 : Int32))] [(.ref self)]))
    have F20 : Fld Z h19 self "com/example/tenorbook/tenorbook/engine/Ladder" "ticks" "[J" (.ref ta) := ((G1.keep Kq11 (ninS (Ne.symm G13) nin0)).keep Kq19 (ninS (Ne.symm G14) nin0))
    obtain ⟨T21, X21, e21, st21⟩ := getF X19 hx hZ hown (host := "") (Or.inl (hw _ (List.mem_of_getElem? (i := 10) rfl))) Via.refl e19 F20 (g := (mkF m 104 #[.val (.ref self), .val (.ref lev), .val (.int (0 : Int32))] [(.ref self)])) rfl rfl (hb hby d4_104)
    refine Comes.st st21 ?_
    show Comes p e below _ (T21.setTop (mkF m 107 #[.val (.ref self), .val (.ref lev), .val (.int (0 : Int32))] [(.ref ta)]))
    refine Comes.st (fun t k => XS.iloadN X21.here hx rfl (hb hby d4_107) rfl (XS.aloadN X21.here hx rfl (hb hby d4_108) rfl rfl k)) ?_
    show Comes p e below _ (T21.setTop (mkF m 109 #[.val (.ref self), .val (.ref lev), .val (.int (0 : Int32))] [(.ref lev), (.int (0 : Int32)), (.ref ta)]))
    have F22 : Fld Z h19 lev "com/example/tenorbook/tenorbook/engine/Level" "ticks" "J" (.long xx) := ((G9.keep Kq11 (ninS G17 nin0)).keep Kq19 (ninS G18 nin0))
    have F24 : Exa Z h19 lev "com/example/tenorbook/tenorbook/engine/Level" := ((G8.keep Kq11).keep Kq19)
    obtain ⟨cq23, kq23, q23a, q23b, q23c⟩ := isOf hZ e21 F24
    obtain ⟨_, _, ⟨T23, L23, k23, n23⟩, -, X23, ⟨Lc23, hQ23, l23, y23, z23⟩, st23⟩ := X21.virtualBack hx (y := (⟨"com/example/tenorbook/tenorbook/engine/Level", "ticks", "()J"⟩ : MethodName)) (z := (⟨"com/example/tenorbook/tenorbook/engine/Level", "ticks", "()J"⟩ : MethodName)) hown (mvT hZ (hw _ (List.mem_of_getElem? (i := 34) rfl))) (mvT hZ (hw _ (List.mem_of_getElem? (i := 35) rfl))) (notFace_of_selects (args := #[]) (mvT hZ (hw _ (List.mem_of_getElem? (i := 37) rfl)))) (mvT hZ (hw _ (List.mem_of_getElem? (i := 37) rfl))) (mvT hZ (hw _ (List.mem_of_getElem? (i := 36) rfl))) (by decide) (backOf (W := 2) (rm5 l Z a0 hw [] lev xx h19 n0 (by omega)  F22) hZ (hw _ (List.mem_of_getElem? (i := 38) rfl)) (hw _ (List.mem_of_getElem? (i := 20) rfl)) (by decide) (by decide)) q23a q23c (g := (mkF m 109 #[.val (.ref self), .val (.ref lev), .val (.int (0 : Int32))] [(.ref lev), (.int (0 : Int32)), (.ref ta)])) rfl (by rw [hml]; rfl) (Steps.refl _) (argsL := []) (rest := [(.int (0 : Int32)), (.ref ta)]) (lenOf pd_1 rfl) rfl (by show 2 * 0 + _ ≤ _; exact Nat.le_of_eq rfl) (hb hby d4_109) (fun _ _ => ⟨rfl, e21, (by decide : 0 + 0 ≤ _), (by decide : 0 + 0 ≤ _)⟩)
    dsimp only [Pt.U, Pt.locs, Pt.cells, Pt.slots] at X23 l23 y23 z23 st23 hQ23
    subst l23 y23 z23
    obtain ⟨rfl, Nq23, hs23⟩ := hQ23
    have N23 := Fr.app N19 Nq23
    refine Comes.go st23 ?_
    show Comes p e below _ (T23.setTop (mkF m 112 #[.val (.ref self), .val (.ref lev), .val (.int (0 : Int32))] [(.long xx), (.int (0 : Int32)), (.ref ta)]))
    have F25 : Arv Z h19 ta kt .long (4 : Int32) [(.long x0), (.long x0), (.long (0 : Int64)), (.long (0 : Int64))] (.long (0 : Int64)) := (V11'.keep Kq19 (ninS (Ne.symm G15) nin0))
    obtain ⟨cl26, Ar26, q26, S26, Ng26, H26, Gf26⟩ := id F25
    have hin26 : ¬ ((0 : Int32) < 0 ∨ cl26.slots.size ≤ ((0 : Int32)).toNatClampNeg) := inb_of S26 ⟨by decide, by decide⟩
    obtain ⟨T26, h26, X26, e26, W26, st26⟩ := stJ X23 hx hZ hs23 Ar26 (j := (0 : Int32)) hin26 (g := (mkF m 112 #[.val (.ref self), .val (.ref lev), .val (.int (0 : Int32))] [(.long xx), (.int (0 : Int32)), (.ref ta)])) rfl rfl (hb hby d4_112)
    have V26 : Arv Z h26 ta kt .long (4 : Int32) [(.long xx), (.long x0), (.long (0 : Int64)), (.long (0 : Int64))] (.long (0 : Int64)) := Arv.set Ar26 q26 S26 Ng26 H26 Gf26 rfl W26 0 rfl (Nat.le_of_ble_eq_true rfl)
    have z26 : h26.size = h19.size := W26.size
    have N26 := Fr.snoc X26 N23 (by omega)
    have K26 : Keep h0 h26 [self, ta, la, lev] := K19.wr W26 (Or.inl (List.mem_of_getElem? (i := 1) rfl))
    refine Comes.st st26 ?_
    show Comes p e below _ (T26.setTop (mkF m 113 #[.val (.ref self), .val (.ref lev), .val (.int (0 : Int32))] []))
    refine Comes.st (fun t k => XS.aloadN X26.here hx rfl (hb hby d4_113) rfl rfl k) ?_
    show Comes p e below _ (T26.setTop (mkF m 114 #[.val (.ref self), .val (.ref lev), .val (.int (0 : Int32))] [(.ref self)]))
    have F27 : Fld Z h26 self "com/example/tenorbook/tenorbook/engine/Ladder" "levels" "[Lcom/example/tenorbook/tenorbook/engine/Level;" (.ref la) := ((F12.keep Kq19 (ninS (Ne.symm G14) nin0)).other W26 (Or.inl (Ne.symm G13)))
    obtain ⟨T28, X28, e28, st28⟩ := getF X26 hx hZ hown (host := "") (Or.inl (hw _ (List.mem_of_getElem? (i := 14) rfl))) Via.refl e26 F27 (g := (mkF m 114 #[.val (.ref self), .val (.ref lev), .val (.int (0 : Int32))] [(.ref self)])) rfl rfl (hb hby d4_114)
    refine Comes.st st28 ?_
    show Comes p e below _ (T28.setTop (mkF m 117 #[.val (.ref self), .val (.ref lev), .val (.int (0 : Int32))] [(.ref la)]))
    refine Comes.st (fun t k => XS.iloadN X28.here hx rfl (hb hby d4_117) rfl (XS.aloadN X28.here hx rfl (hb hby d4_118) rfl rfl k)) ?_
    show Comes p e below _ (T28.setTop (mkF m 119 #[.val (.ref self), .val (.ref lev), .val (.int (0 : Int32))] [(.ref lev), (.int (0 : Int32)), (.ref la)]))
    have F29 : Arv Z h26 la kl (.object "com/example/tenorbook/tenorbook/engine/Level") (4 : Int32) [(.ref l0), (.ref l0), .null, .null] .null := (V19'.other W26 G15)
    obtain ⟨cl30, Ar30, q30, S30, Ng30, H30, Gf30⟩ := id F29
    have hin30 : ¬ ((0 : Int32) < 0 ∨ cl30.slots.size ≤ ((0 : Int32)).toNatClampNeg) := inb_of S30 ⟨by decide, by decide⟩
    have F31 : Exa Z h26 lev "com/example/tenorbook/tenorbook/engine/Level" := (F24.wr W26)
    obtain ⟨T30, h30, X30, e30, W30, st30⟩ := stR X28 hx hZ e28 Ar30 (j := (0 : Int32)) hin30 rfl (Sto.ofV Ar30 q30 G7 (Ins.self F31)) (g := (mkF m 119 #[.val (.ref self), .val (.ref lev), .val (.int (0 : Int32))] [(.ref lev), (.int (0 : Int32)), (.ref la)])) rfl rfl (hb hby d4_119)
    have V30 : Arv Z h30 la kl (.object "com/example/tenorbook/tenorbook/engine/Level") (4 : Int32) [(.ref lev), (.ref l0), .null, .null] .null := Arv.set Ar30 q30 S30 Ng30 H30 Gf30 rfl W30 0 rfl (Nat.le_of_ble_eq_true rfl)
    have z30 : h30.size = h26.size := W30.size
    have N30 := Fr.snoc X30 N26 (by omega)
    have K30 : Keep h0 h30 [self, ta, la, lev] := K26.wr W30 (Or.inl (List.mem_of_getElem? (i := 2) rfl))
    refine Comes.st st30 ?_
    show Comes p e below _ (T30.setTop (mkF m 120 #[.val (.ref self), .val (.ref lev), .val (.int (0 : Int32))] []))
    refine Comes.st (fun t k => XS.aloadN X30.here hx rfl (hb hby d4_120) rfl rfl (XS.aloadN X30.here hx rfl (hb hby d4_121) rfl rfl k)) ?_
    show Comes p e below _ (T30.setTop (mkF m 122 #[.val (.ref self), .val (.ref lev), .val (.int (0 : Int32))] [(.ref self), (.ref lev)]))
    have F32 : Exa Z h30 lev "com/example/tenorbook/tenorbook/engine/Level" := (F31.wr W30)
    have F33 : Fld Z h30 lev "com/example/tenorbook/tenorbook/engine/Level" "ladder" "Lcom/example/tenorbook/tenorbook/engine/Ladder;" .null := ((((G10.keep Kq11 (ninS G17 nin0)).keep Kq19 (ninS G18 nin0)).other W26 (Or.inl G17)).other W30 (Or.inl G18))
    obtain ⟨T34, h34, X34, e34, W34, st34⟩ := putF X30 hx hZ hown (host := "") (Or.inl (hw _ (List.mem_of_getElem? (i := 50) rfl))) Via.refl e30 F33 F32 (Or.inl (hw _ (List.mem_of_getElem? (i := 51) rfl))) (hw _ (List.mem_of_getElem? (i := 19) rfl)) (ty := (.object "com/example/tenorbook/tenorbook/engine/Ladder")) (by decide) rfl rfl (g := (mkF m 122 #[.val (.ref self), .val (.ref lev), .val (.int (0 : Int32))] [(.ref self), (.ref lev)])) rfl rfl (hb hby d4_122)
    have Fw34 := F33.same W34
    have z34 : h34.size = h30.size := W34.size
    have N34 := Fr.snoc X34 N30 (by omega)
    have K34 : Keep h0 h34 [self, ta, la, lev] := K30.wr W34 (Or.inl (List.mem_of_getElem? (i := 3) rfl))
    refine Comes.st st34 ?_
    show Comes p e below _ (T34.setTop (mkF m 125 #[.val (.ref self), .val (.ref lev), .val (.int (0 : Int32))] []))
    refine Comes.st (fun t k => XS.aloadN X34.here hx rfl (hb hby d4_125) rfl rfl (XS.dup X34.here hx rfl (hb hby d4_126) rfl rfl k)) ?_
    show Comes p e below _ (T34.setTop (mkF m 127 #[.val (.ref self), .val (.ref lev), .val (.int (0 : Int32))] [(.ref self), (.ref self)]))
    have F35 : Fld Z h34 self "com/example/tenorbook/tenorbook/engine/Ladder" "count" "I" (.int (1 : Int32)) := ((((F15.keep Kq19 (ninS (Ne.symm G14) nin0)).other W26 (Or.inl (Ne.symm G13))).other W30 (Or.inl (Ne.symm G14))).other W34 (Or.inl (Ne.symm G16)))
    obtain ⟨T36, X36, e36, st36⟩ := getF X34 hx hZ hown (host := "") (Or.inl (hw _ (List.mem_of_getElem? (i := 43) rfl))) Via.refl e34 F35 (g := (mkF m 127 #[.val (.ref self), .val (.ref lev), .val (.int (0 : Int32))] [(.ref self), (.ref self)])) rfl rfl (hb hby d4_127)
    refine Comes.st st36 ?_
    show Comes p e below _ (T36.setTop (mkF m 130 #[.val (.ref self), .val (.ref lev), .val (.int (0 : Int32))] [(.int (1 : Int32)), (.ref self)]))
    refine Comes.st (fun t k => XS.iconst X36.here hx rfl (hb hby d4_130) (XS.iadd X36.here hx rfl (hb hby d4_131) rfl k)) ?_
    show Comes p e below _ (T36.setTop (mkF m 132 #[.val (.ref self), .val (.ref lev), .val (.int (0 : Int32))] [(.int ((1 : Int32) + (1 : Int32))), (.ref self)]))
    rw [show ((1 : Int32) + (1 : Int32)) = (2 : Int32) from by decide]
    show Comes p e below _ (T36.setTop (mkF m 132 #[.val (.ref self), .val (.ref lev), .val (.int (0 : Int32))] [(.int (2 : Int32)), (.ref self)]))
    have F37 : Exa Z h34 self "com/example/tenorbook/tenorbook/engine/Ladder" := (((((G0.keep Kq11).keep Kq19).wr W26).wr W30).wr W34)
    obtain ⟨T38, h38, X38, e38, W38, st38⟩ := putF X36 hx hZ hown (host := "") (Or.inl (hw _ (List.mem_of_getElem? (i := 43) rfl))) Via.refl e36 F35 F37 (Or.inl (hw _ (List.mem_of_getElem? (i := 44) rfl))) (hw _ (List.mem_of_getElem? (i := 1) rfl)) (ty := .int) (by decide) rfl rfl (g := (mkF m 132 #[.val (.ref self), .val (.ref lev), .val (.int (0 : Int32))] [(.int (2 : Int32)), (.ref self)])) rfl rfl (hb hby d4_132)
    have Fw38 := F35.same W38
    have z38 : h38.size = h34.size := W38.size
    have N38 := Fr.snoc X38 N34 (by omega)
    have K38 : Keep h0 h38 [self, ta, la, lev] := K34.wr W38 (Or.inl (List.mem_of_getElem? (i := 0) rfl))
    refine Comes.st st38 ?_
    show Comes p e below _ (T38.setTop (mkF m 135 #[.val (.ref self), .val (.ref lev), .val (.int (0 : Int32))] []))
    have F39 : Exa Z h38 self "com/example/tenorbook/tenorbook/engine/Ladder" := (F37.wr W38)
    have F40 : Fld Z h38 self "com/example/tenorbook/tenorbook/engine/Ladder" "ticks" "[J" (.ref ta) := ((((F20.other W26 (Or.inl (Ne.symm G13))).other W30 (Or.inl (Ne.symm G14))).other W34 (Or.inl (Ne.symm G16))).other W38 (Or.inr (slot_ne (Or.inl (hw _ (List.mem_of_getElem? (i := 11) rfl))) (Or.inl (hw _ (List.mem_of_getElem? (i := 44) rfl))) (by decide) (t := (.array .long)) (t' := .int) (by decide) (by decide))))
    have F41 : Fld Z h38 self "com/example/tenorbook/tenorbook/engine/Ladder" "levels" "[Lcom/example/tenorbook/tenorbook/engine/Level;" (.ref la) := (((F27.other W30 (Or.inl (Ne.symm G14))).other W34 (Or.inl (Ne.symm G16))).other W38 (Or.inr (slot_ne (Or.inl (hw _ (List.mem_of_getElem? (i := 15) rfl))) (Or.inl (hw _ (List.mem_of_getElem? (i := 44) rfl))) (by decide) (t := (.array (.object "com/example/tenorbook/tenorbook/engine/Level"))) (t' := .int) (by decide) (by decide))))
    have F42 : Fld Z h38 self "com/example/tenorbook/tenorbook/engine/Ladder" "lowestBest" "Z" (.int lbv) := ((((((G3.keep Kq11 (ninS (Ne.symm G13) nin0)).keep Kq19 (ninS (Ne.symm G14) nin0)).other W26 (Or.inl (Ne.symm G13))).other W30 (Or.inl (Ne.symm G14))).other W34 (Or.inl (Ne.symm G16))).other W38 (Or.inr (slot_ne (Or.inr (hw _ (List.mem_of_getElem? (i := 17) rfl))) (Or.inl (hw _ (List.mem_of_getElem? (i := 44) rfl))) (by decide) (t := .boolean) (t' := .int) (by decide) (by decide))))
    have F43 : Arv Z h38 ta kt .long (4 : Int32) [(.long xx), (.long x0), (.long (0 : Int64)), (.long (0 : Int64))] (.long (0 : Int64)) := (((V26.other W30 (Ne.symm G15)).other W34 (Ne.symm G17)).other W38 G13)
    have F44 : Arv Z h38 la kl (.object "com/example/tenorbook/tenorbook/engine/Level") (4 : Int32) [(.ref lev), (.ref l0), .null, .null] .null := ((V30.other W34 (Ne.symm G18)).other W38 G14)
    have F45 : Exa Z h38 lev "com/example/tenorbook/tenorbook/engine/Level" := ((F32.wr W34).wr W38)
    have F46 : Fld Z h38 lev "com/example/tenorbook/tenorbook/engine/Level" "ticks" "J" (.long xx) := ((((F22.other W26 (Or.inl G17)).other W30 (Or.inl G18)).other W34 (Or.inr (slot_ne (Or.inr (hw _ (List.mem_of_getElem? (i := 26) rfl))) (Or.inl (hw _ (List.mem_of_getElem? (i := 51) rfl))) (by decide) (t := .long) (t' := (.object "com/example/tenorbook/tenorbook/engine/Ladder")) (by decide) (by decide)))).other W38 (Or.inl G16))
    have F47 : Fld Z h38 lev "com/example/tenorbook/tenorbook/engine/Level" "ladder" "Lcom/example/tenorbook/tenorbook/engine/Ladder;" (.ref self) := (Fw34.other W38 (Or.inl G16))
    have F48 : Exa Z h38 l0 "com/example/tenorbook/tenorbook/engine/Level" := (((((F18.keep Kq19).wr W26).wr W30).wr W34).wr W38)
    exact Comes.ret0 X38 hx Bd.returns hlk (hb hby d4_135) e38 ⟨xx, x0, lev, l0, rfl, N38, K38, F39, F40, F41, F42, Fw38, F43, F44, G7, F45, F46, F47, F45, F48, (by exact (Or.inl ⟨(by first | assumption | omega), rfl, rfl, rfl, rfl, rfl, rfl⟩)), (by first | assumption | omega)⟩ (by decide) (by decide)
  · show Comes p e below _ (T2.setTop (mkF m 8 #[.val (.ref self), .val (.ref lev), .unset] [(.int (-2 : Int32))]))
    refine Comes.st (fun t k => XS.ineg X2.here hx rfl (hb hby d4_8) rfl k) ?_
    show Comes p e below _ (T2.setTop (mkF m 9 #[.val (.ref self), .val (.ref lev), .unset] [(.int (-(-2 : Int32)))]))
    rw [show (-(-2 : Int32)) = (2 : Int32) from by decide]
    show Comes p e below _ (T2.setTop (mkF m 9 #[.val (.ref self), .val (.ref lev), .unset] [(.int (2 : Int32))]))
    refine Comes.st (fun t k => XS.iconst X2.here hx rfl (hb hby d4_9) (XS.isub X2.here hx rfl (hb hby d4_10) rfl k)) ?_
    show Comes p e below _ (T2.setTop (mkF m 11 #[.val (.ref self), .val (.ref lev), .unset] [(.int ((2 : Int32) - (1 : Int32)))]))
    rw [show ((2 : Int32) - (1 : Int32)) = (1 : Int32) from by decide]
    show Comes p e below _ (T2.setTop (mkF m 11 #[.val (.ref self), .val (.ref lev), .unset] [(.int (1 : Int32))]))
    refine Comes.st (fun t k => XS.istoreN X2.here hx rfl (hb hby d4_11) rfl (l' := #[.val (.ref self), .val (.ref lev), .val (.int (1 : Int32))]) rfl (XS.aloadN X2.here hx rfl (hb hby d4_12) rfl rfl k)) ?_
    show Comes p e below _ (T2.setTop (mkF m 13 #[.val (.ref self), .val (.ref lev), .val (.int (1 : Int32))] [(.ref self)]))
    obtain ⟨T49, X49, e49, st49⟩ := getF X2 hx hZ hown (host := "") (Or.inl (hw _ (List.mem_of_getElem? (i := 43) rfl))) Via.refl hs2 G4 (g := (mkF m 13 #[.val (.ref self), .val (.ref lev), .val (.int (1 : Int32))] [(.ref self)])) rfl rfl (hb hby d4_13)
    refine Comes.st st49 ?_
    show Comes p e below _ (T49.setTop (mkF m 16 #[.val (.ref self), .val (.ref lev), .val (.int (1 : Int32))] [(.int (1 : Int32))]))
    refine Comes.st (fun t k => XS.aloadN X49.here hx rfl (hb hby d4_16) rfl rfl k) ?_
    show Comes p e below _ (T49.setTop (mkF m 17 #[.val (.ref self), .val (.ref lev), .val (.int (1 : Int32))] [(.ref self), (.int (1 : Int32))]))
    obtain ⟨T50, X50, e50, st50⟩ := getF X49 hx hZ hown (host := "") (Or.inl (hw _ (List.mem_of_getElem? (i := 14) rfl))) Via.refl e49 G2 (g := (mkF m 17 #[.val (.ref self), .val (.ref lev), .val (.int (1 : Int32))] [(.ref self), (.int (1 : Int32))])) rfl rfl (hb hby d4_17)
    refine Comes.st st50 ?_
    show Comes p e below _ (T50.setTop (mkF m 20 #[.val (.ref self), .val (.ref lev), .val (.int (1 : Int32))] [(.ref la), (.int (1 : Int32))]))
    obtain ⟨cl51, Ar51, -, S51, Ng51, -, -⟩ := id G6
    refine Comes.st (fun t k => X50.arraylength hx (by rw [e50]; exact Ar51.1) (State.isArrayOf_alike hZ.alike Ar51.2.1) (g := (mkF m 20 #[.val (.ref self), .val (.ref lev), .val (.int (1 : Int32))] [(.ref la), (.int (1 : Int32))])) rfl rfl (hb hby d4_20) _ k) ?_
    rw [len_of S51 Ng51]
    show Comes p e below _ (T50.setTop (mkF m 21 #[.val (.ref self), .val (.ref lev), .val (.int (1 : Int32))] [(.int (4 : Int32)), (.int (1 : Int32))]))
    have hc21_52 : ¬ ((1 : Int32) = (4 : Int32)) := by decide
    refine Comes.st (fun t k => XS.icmpYes X50.here hx rfl (pc0 := 21) (pc' := 61) rfl (hb hby d4_21) rfl (feq hc21_52).2 (by decide) (by decide) (XS.aloadN X50.here hx rfl (hb hby d4_61) rfl rfl k)) ?_
    show Comes p e below _ (T50.setTop (mkF m 62 #[.val (.ref self), .val (.ref lev), .val (.int (1 : Int32))] [(.ref self)]))
    obtain ⟨T53, X53, e53, st53⟩ := getF X50 hx hZ hown (host := "") (Or.inl (hw _ (List.mem_of_getElem? (i := 10) rfl))) Via.refl e50 G1 (g := (mkF m 62 #[.val (.ref self), .val (.ref lev), .val (.int (1 : Int32))] [(.ref self)])) rfl rfl (hb hby d4_62)
    refine Comes.st st53 ?_
    show Comes p e below _ (T53.setTop (mkF m 65 #[.val (.ref self), .val (.ref lev), .val (.int (1 : Int32))] [(.ref ta)]))
    refine Comes.st (fun t k => XS.iloadN X53.here hx rfl (hb hby d4_65) rfl (XS.aloadN X53.here hx rfl (hb hby d4_66) rfl rfl k)) ?_
    show Comes p e below _ (T53.setTop (mkF m 67 #[.val (.ref self), .val (.ref lev), .val (.int (1 : Int32))] [(.ref self), (.int (1 : Int32)), (.ref ta)]))
    obtain ⟨T54, X54, e54, st54⟩ := getF X53 hx hZ hown (host := "") (Or.inl (hw _ (List.mem_of_getElem? (i := 10) rfl))) Via.refl e53 G1 (g := (mkF m 67 #[.val (.ref self), .val (.ref lev), .val (.int (1 : Int32))] [(.ref self), (.int (1 : Int32)), (.ref ta)])) rfl rfl (hb hby d4_67)
    refine Comes.st st54 ?_
    show Comes p e below _ (T54.setTop (mkF m 70 #[.val (.ref self), .val (.ref lev), .val (.int (1 : Int32))] [(.ref ta), (.int (1 : Int32)), (.ref ta)]))
    refine Comes.st (fun t k => XS.iloadN X54.here hx rfl (hb hby d4_70) rfl (XS.iconst X54.here hx rfl (hb hby d4_71) (XS.iadd X54.here hx rfl (hb hby d4_72) rfl k))) ?_
    show Comes p e below _ (T54.setTop (mkF m 73 #[.val (.ref self), .val (.ref lev), .val (.int (1 : Int32))] [(.int ((1 : Int32) + (1 : Int32))), (.ref ta), (.int (1 : Int32)), (.ref ta)]))
    rw [show ((1 : Int32) + (1 : Int32)) = (2 : Int32) from by decide]
    show Comes p e below _ (T54.setTop (mkF m 73 #[.val (.ref self), .val (.ref lev), .val (.int (1 : Int32))] [(.int (2 : Int32)), (.ref ta), (.int (1 : Int32)), (.ref ta)]))
    refine Comes.st (fun t k => XS.aloadN X54.here hx rfl (hb hby d4_73) rfl rfl k) ?_
    show Comes p e below _ (T54.setTop (mkF m 74 #[.val (.ref self), .val (.ref lev), .val (.int (1 : Int32))] [(.ref self), (.int (2 : Int32)), (.ref ta), (.int (1 : Int32)), (.ref ta)]))
    obtain ⟨T55, X55, e55, st55⟩ := getF X54 hx hZ hown (host := "") (Or.inl (hw _ (List.mem_of_getElem? (i := 43) rfl))) Via.refl e54 G4 (g := (mkF m 74 #[.val (.ref self), .val (.ref lev), .val (.int (1 : Int32))] [(.ref self), (.int (2 : Int32)), (.ref ta), (.int (1 : Int32)), (.ref ta)])) rfl rfl (hb hby d4_74)
    refine Comes.st st55 ?_
    show Comes p e below _ (T55.setTop (mkF m 77 #[.val (.ref self), .val (.ref lev), .val (.int (1 : Int32))] [(.int (1 : Int32)), (.int (2 : Int32)), (.ref ta), (.int (1 : Int32)), (.ref ta)]))
    refine Comes.st (fun t k => XS.iloadN X55.here hx rfl (hb hby d4_77) rfl (XS.isub X55.here hx rfl (hb hby d4_78) rfl k)) ?_
    show Comes p e below _ (T55.setTop (mkF m 79 #[.val (.ref self), .val (.ref lev), .val (.int (1 : Int32))] [(.int ((1 : Int32) - (1 : Int32))), (.int (2 : Int32)), (.ref ta), (.int (1 : Int32)), (.ref ta)]))
    rw [show ((1 : Int32) - (1 : Int32)) = (0 : Int32) from by decide]
    show Comes p e below _ (T55.setTop (mkF m 79 #[.val (.ref self), .val (.ref lev), .val (.int (1 : Int32))] [(.int (0 : Int32)), (.int (2 : Int32)), (.ref ta), (.int (1 : Int32)), (.ref ta)]))
    obtain ⟨T56, h56, L56, X56, e56, N56, Kq56, V56, st56⟩ := cpA X55 hx hZ hown (hw _ (List.mem_of_getElem? (i := 45) rfl)) (hw _ (List.mem_of_getElem? (i := 48) rfl)) (hw _ (List.mem_of_getElem? (i := 46) rfl)) (hw _ (List.mem_of_getElem? (i := 47) rfl)) e55 (us := []) G5 G5 (Or.inl ⟨rfl, rfl⟩) (by decide) (by decide) (by decide) (by decide) (by decide) rfl (Nat.le_of_ble_eq_true rfl) N2 (by omega) (g := (mkF m 79 #[.val (.ref self), .val (.ref lev), .val (.int (1 : Int32))] [(.int (0 : Int32)), (.int (2 : Int32)), (.ref ta), (.int (1 : Int32)), (.ref ta)])) rfl (by rw [hml]; rfl) (rest := []) rfl (hb hby d4_79) (by decide) (W := 0) (by show 2 * 0 + _ ≤ _; exact Nat.le_of_eq rfl) (by decide)
    have z56 : h0.size ≤ h56.size := Kq56.1
    have K56 : Keep h0 h56 [self, ta, la, lev] := K0.trans Kq56 (allS (Or.inl (List.mem_of_getElem? (i := 1) rfl)) all0)
    have V56' : Arv Z h56 ta kt .long (4 : Int32) [(.long x0), (.long (0 : Int64)), (.long (0 : Int64)), (.long (0 : Int64))] (.long (0 : Int64)) := V56
    refine Comes.st st56 ?_
    show Comes p e below _ (T56.setTop (mkF m 82 #[.val (.ref self), .val (.ref lev), .val (.int (1 : Int32))] []))
    refine Comes.st (fun t k => XS.aloadN X56.here hx rfl (hb hby d4_82) rfl rfl k) ?_
    show Comes p e below _ (T56.setTop (mkF m 83 #[.val (.ref self), .val (.ref lev), .val (.int (1 : Int32))] [(.ref self)]))
    have F57 : Fld Z h56 self "com/example/tenorbook/tenorbook/engine/Ladder" "levels" "[Lcom/example/tenorbook/tenorbook/engine/Level;" (.ref la) := (G2.keep Kq56 (ninS (Ne.symm G13) nin0))
    obtain ⟨T58, X58, e58, st58⟩ := getF X56 hx hZ hown (host := "") (Or.inl (hw _ (List.mem_of_getElem? (i := 14) rfl))) Via.refl e56 F57 (g := (mkF m 83 #[.val (.ref self), .val (.ref lev), .val (.int (1 : Int32))] [(.ref self)])) rfl rfl (hb hby d4_83)
    refine Comes.st st58 ?_
    show Comes p e below _ (T58.setTop (mkF m 86 #[.val (.ref self), .val (.ref lev), .val (.int (1 : Int32))] [(.ref la)]))
    refine Comes.st (fun t k => XS.iloadN X58.here hx rfl (hb hby d4_86) rfl (XS.aloadN X58.here hx rfl (hb hby d4_87) rfl rfl k)) ?_
    show Comes p e below _ (T58.setTop (mkF m 88 #[.val (.ref self), .val (.ref lev), .val (.int (1 : Int32))] [(.ref self), (.int (1 : Int32)), (.ref la)]))
    obtain ⟨T59, X59, e59, st59⟩ := getF X58 hx hZ hown (host := "") (Or.inl (hw _ (List.mem_of_getElem? (i := 14) rfl))) Via.refl e58 F57 (g := (mkF m 88 #[.val (.ref self), .val (.ref lev), .val (.int (1 : Int32))] [(.ref self), (.int (1 : Int32)), (.ref la)])) rfl rfl (hb hby d4_88)
    refine Comes.st st59 ?_
    show Comes p e below _ (T59.setTop (mkF m 91 #[.val (.ref self), .val (.ref lev), .val (.int (1 : Int32))] [(.ref la), (.int (1 : Int32)), (.ref la)]))
    refine Comes.st (fun t k => XS.iloadN X59.here hx rfl (hb hby d4_91) rfl (XS.iconst X59.here hx rfl (hb hby d4_92) (XS.iadd X59.here hx rfl (hb hby d4_93) rfl k))) ?_
    show Comes p e below _ (T59.setTop (mkF m 94 #[.val (.ref self), .val (.ref lev), .val (.int (1 : Int32))] [(.int ((1 : Int32) + (1 : Int32))), (.ref la), (.int (1 : Int32)), (.ref la)]))
    rw [show ((1 : Int32) + (1 : Int32)) = (2 : Int32) from by decide]
    show Comes p e below _ (T59.setTop (mkF m 94 #[.val (.ref self), .val (.ref lev), .val (.int (1 : Int32))] [(.int (2 : Int32)), (.ref la), (.int (1 : Int32)), (.ref la)]))
    refine Comes.st (fun t k => XS.aloadN X59.here hx rfl (hb hby d4_94) rfl rfl k) ?_
    show Comes p e below _ (T59.setTop (mkF m 95 #[.val (.ref self), .val (.ref lev), .val (.int (1 : Int32))] [(.ref self), (.int (2 : Int32)), (.ref la), (.int (1 : Int32)), (.ref la)]))
    have F60 : Fld Z h56 self "com/example/tenorbook/tenorbook/engine/Ladder" "count" "I" (.int (1 : Int32)) := (G4.keep Kq56 (ninS (Ne.symm G13) nin0))
    obtain ⟨T61, X61, e61, st61⟩ := getF X59 hx hZ hown (host := "") (Or.inl (hw _ (List.mem_of_getElem? (i := 43) rfl))) Via.refl e59 F60 (g := (mkF m 95 #[.val (.ref self), .val (.ref lev), .val (.int (1 : Int32))] [(.ref self), (.int (2 : Int32)), (.ref la), (.int (1 : Int32)), (.ref la)])) rfl rfl (hb hby d4_95)
    refine Comes.st st61 ?_
    show Comes p e below _ (T61.setTop (mkF m 98 #[.val (.ref self), .val (.ref lev), .val (.int (1 : Int32))] [(.int (1 : Int32)), (.int (2 : Int32)), (.ref la), (.int (1 : Int32)), (.ref la)]))
    refine Comes.st (fun t k => XS.iloadN X61.here hx rfl (hb hby d4_98) rfl (XS.isub X61.here hx rfl (hb hby d4_99) rfl k)) ?_
    show Comes p e below _ (T61.setTop (mkF m 100 #[.val (.ref self), .val (.ref lev), .val (.int (1 : Int32))] [(.int ((1 : Int32) - (1 : Int32))), (.int (2 : Int32)), (.ref la), (.int (1 : Int32)), (.ref la)]))
    rw [show ((1 : Int32) - (1 : Int32)) = (0 : Int32) from by decide]
    show Comes p e below _ (T61.setTop (mkF m 100 #[.val (.ref self), .val (.ref lev), .val (.int (1 : Int32))] [(.int (0 : Int32)), (.int (2 : Int32)), (.ref la), (.int (1 : Int32)), (.ref la)]))
    have F62 : Arv Z h56 la kl (.object "com/example/tenorbook/tenorbook/engine/Level") (4 : Int32) [(.ref l0), .null, .null, .null] .null := (G6.keep Kq56 (ninS G15 nin0))
    obtain ⟨T63, h63, L63, X63, e63, N63, Kq63, V63, st63⟩ := cpA X61 hx hZ hown (hw _ (List.mem_of_getElem? (i := 45) rfl)) (hw _ (List.mem_of_getElem? (i := 48) rfl)) (hw _ (List.mem_of_getElem? (i := 46) rfl)) (hw _ (List.mem_of_getElem? (i := 47) rfl)) e61 (us := []) F62 F62 (Or.inr ⟨rfl, rfl, trivial⟩) (by decide) (by decide) (by decide) (by decide) (by decide) rfl (Nat.le_of_ble_eq_true rfl) N56 (by omega) (g := (mkF m 100 #[.val (.ref self), .val (.ref lev), .val (.int (1 : Int32))] [(.int (0 : Int32)), (.int (2 : Int32)), (.ref la), (.int (1 : Int32)), (.ref la)])) rfl (by rw [hml]; rfl) (rest := []) rfl (hb hby d4_100) (by decide) (W := 0) (by show 2 * 0 + _ ≤ _; exact Nat.le_of_eq rfl) (by decide)
    have z63 : h56.size ≤ h63.size := Kq63.1
    have K63 : Keep h0 h63 [self, ta, la, lev] := K56.trans Kq63 (allS (Or.inl (List.mem_of_getElem? (i := 2) rfl)) all0)
    have V63' : Arv Z h63 la kl (.object "com/example/tenorbook/tenorbook/engine/Level") (4 : Int32) [(.ref l0), .null, .null, .null] .null := V63
    refine Comes.st st63 ?_
    show Comes p e below _ (T63.setTop (mkF m 103 #[.val (.ref self), .val (.ref lev), .val (.int (1 : Int32))] []))
    refine Comes.st (fun t k => XS.aloadN X63.here hx rfl (hb hby d4_103) rfl rfl k) ?_
    show Comes p e below _ (T63.setTop (mkF m 104 #[.val (.ref self), .val (.ref lev), .val (.int (1 : Int32))] [(.ref self)]))
    have F64 : Fld Z h63 self "com/example/tenorbook/tenorbook/engine/Ladder" "ticks" "[J" (.ref ta) := ((G1.keep Kq56 (ninS (Ne.symm G13) nin0)).keep Kq63 (ninS (Ne.symm G14) nin0))
    obtain ⟨T65, X65, e65, st65⟩ := getF X63 hx hZ hown (host := "") (Or.inl (hw _ (List.mem_of_getElem? (i := 10) rfl))) Via.refl e63 F64 (g := (mkF m 104 #[.val (.ref self), .val (.ref lev), .val (.int (1 : Int32))] [(.ref self)])) rfl rfl (hb hby d4_104)
    refine Comes.st st65 ?_
    show Comes p e below _ (T65.setTop (mkF m 107 #[.val (.ref self), .val (.ref lev), .val (.int (1 : Int32))] [(.ref ta)]))
    refine Comes.st (fun t k => XS.iloadN X65.here hx rfl (hb hby d4_107) rfl (XS.aloadN X65.here hx rfl (hb hby d4_108) rfl rfl k)) ?_
    show Comes p e below _ (T65.setTop (mkF m 109 #[.val (.ref self), .val (.ref lev), .val (.int (1 : Int32))] [(.ref lev), (.int (1 : Int32)), (.ref ta)]))
    have F66 : Fld Z h63 lev "com/example/tenorbook/tenorbook/engine/Level" "ticks" "J" (.long xx) := ((G9.keep Kq56 (ninS G17 nin0)).keep Kq63 (ninS G18 nin0))
    have F68 : Exa Z h63 lev "com/example/tenorbook/tenorbook/engine/Level" := ((G8.keep Kq56).keep Kq63)
    obtain ⟨cq67, kq67, q67a, q67b, q67c⟩ := isOf hZ e65 F68
    obtain ⟨_, _, ⟨T67, L67, k67, n67⟩, -, X67, ⟨Lc67, hQ67, l67, y67, z67⟩, st67⟩ := X65.virtualBack hx (y := (⟨"com/example/tenorbook/tenorbook/engine/Level", "ticks", "()J"⟩ : MethodName)) (z := (⟨"com/example/tenorbook/tenorbook/engine/Level", "ticks", "()J"⟩ : MethodName)) hown (mvT hZ (hw _ (List.mem_of_getElem? (i := 34) rfl))) (mvT hZ (hw _ (List.mem_of_getElem? (i := 35) rfl))) (notFace_of_selects (args := #[]) (mvT hZ (hw _ (List.mem_of_getElem? (i := 37) rfl)))) (mvT hZ (hw _ (List.mem_of_getElem? (i := 37) rfl))) (mvT hZ (hw _ (List.mem_of_getElem? (i := 36) rfl))) (by decide) (backOf (W := 2) (rm5 l Z a0 hw [] lev xx h63 n0 (by omega)  F66) hZ (hw _ (List.mem_of_getElem? (i := 38) rfl)) (hw _ (List.mem_of_getElem? (i := 20) rfl)) (by decide) (by decide)) q67a q67c (g := (mkF m 109 #[.val (.ref self), .val (.ref lev), .val (.int (1 : Int32))] [(.ref lev), (.int (1 : Int32)), (.ref ta)])) rfl (by rw [hml]; rfl) (Steps.refl _) (argsL := []) (rest := [(.int (1 : Int32)), (.ref ta)]) (lenOf pd_1 rfl) rfl (by show 2 * 0 + _ ≤ _; exact Nat.le_of_eq rfl) (hb hby d4_109) (fun _ _ => ⟨rfl, e65, (by decide : 0 + 0 ≤ _), (by decide : 0 + 0 ≤ _)⟩)
    dsimp only [Pt.U, Pt.locs, Pt.cells, Pt.slots] at X67 l67 y67 z67 st67 hQ67
    subst l67 y67 z67
    obtain ⟨rfl, Nq67, hs67⟩ := hQ67
    have N67 := Fr.app N63 Nq67
    refine Comes.go st67 ?_
    show Comes p e below _ (T67.setTop (mkF m 112 #[.val (.ref self), .val (.ref lev), .val (.int (1 : Int32))] [(.long xx), (.int (1 : Int32)), (.ref ta)]))
    have F69 : Arv Z h63 ta kt .long (4 : Int32) [(.long x0), (.long (0 : Int64)), (.long (0 : Int64)), (.long (0 : Int64))] (.long (0 : Int64)) := (V56'.keep Kq63 (ninS (Ne.symm G15) nin0))
    obtain ⟨cl70, Ar70, q70, S70, Ng70, H70, Gf70⟩ := id F69
    have hin70 : ¬ ((1 : Int32) < 0 ∨ cl70.slots.size ≤ ((1 : Int32)).toNatClampNeg) := inb_of S70 ⟨by decide, by decide⟩
    obtain ⟨T70, h70, X70, e70, W70, st70⟩ := stJ X67 hx hZ hs67 Ar70 (j := (1 : Int32)) hin70 (g := (mkF m 112 #[.val (.ref self), .val (.ref lev), .val (.int (1 : Int32))] [(.long xx), (.int (1 : Int32)), (.ref ta)])) rfl rfl (hb hby d4_112)
    have V70 : Arv Z h70 ta kt .long (4 : Int32) [(.long x0), (.long xx), (.long (0 : Int64)), (.long (0 : Int64))] (.long (0 : Int64)) := Arv.set Ar70 q70 S70 Ng70 H70 Gf70 rfl W70 1 rfl (Nat.le_of_ble_eq_true rfl)
    have z70 : h70.size = h63.size := W70.size
    have N70 := Fr.snoc X70 N67 (by omega)
    have K70 : Keep h0 h70 [self, ta, la, lev] := K63.wr W70 (Or.inl (List.mem_of_getElem? (i := 1) rfl))
    refine Comes.st st70 ?_
    show Comes p e below _ (T70.setTop (mkF m 113 #[.val (.ref self), .val (.ref lev), .val (.int (1 : Int32))] []))
    refine Comes.st (fun t k => XS.aloadN X70.here hx rfl (hb hby d4_113) rfl rfl k) ?_
    show Comes p e below _ (T70.setTop (mkF m 114 #[.val (.ref self), .val (.ref lev), .val (.int (1 : Int32))] [(.ref self)]))
    have F71 : Fld Z h70 self "com/example/tenorbook/tenorbook/engine/Ladder" "levels" "[Lcom/example/tenorbook/tenorbook/engine/Level;" (.ref la) := ((F57.keep Kq63 (ninS (Ne.symm G14) nin0)).other W70 (Or.inl (Ne.symm G13)))
    obtain ⟨T72, X72, e72, st72⟩ := getF X70 hx hZ hown (host := "") (Or.inl (hw _ (List.mem_of_getElem? (i := 14) rfl))) Via.refl e70 F71 (g := (mkF m 114 #[.val (.ref self), .val (.ref lev), .val (.int (1 : Int32))] [(.ref self)])) rfl rfl (hb hby d4_114)
    refine Comes.st st72 ?_
    show Comes p e below _ (T72.setTop (mkF m 117 #[.val (.ref self), .val (.ref lev), .val (.int (1 : Int32))] [(.ref la)]))
    refine Comes.st (fun t k => XS.iloadN X72.here hx rfl (hb hby d4_117) rfl (XS.aloadN X72.here hx rfl (hb hby d4_118) rfl rfl k)) ?_
    show Comes p e below _ (T72.setTop (mkF m 119 #[.val (.ref self), .val (.ref lev), .val (.int (1 : Int32))] [(.ref lev), (.int (1 : Int32)), (.ref la)]))
    have F73 : Arv Z h70 la kl (.object "com/example/tenorbook/tenorbook/engine/Level") (4 : Int32) [(.ref l0), .null, .null, .null] .null := (V63'.other W70 G15)
    obtain ⟨cl74, Ar74, q74, S74, Ng74, H74, Gf74⟩ := id F73
    have hin74 : ¬ ((1 : Int32) < 0 ∨ cl74.slots.size ≤ ((1 : Int32)).toNatClampNeg) := inb_of S74 ⟨by decide, by decide⟩
    have F75 : Exa Z h70 lev "com/example/tenorbook/tenorbook/engine/Level" := (F68.wr W70)
    obtain ⟨T74, h74, X74, e74, W74, st74⟩ := stR X72 hx hZ e72 Ar74 (j := (1 : Int32)) hin74 rfl (Sto.ofV Ar74 q74 G7 (Ins.self F75)) (g := (mkF m 119 #[.val (.ref self), .val (.ref lev), .val (.int (1 : Int32))] [(.ref lev), (.int (1 : Int32)), (.ref la)])) rfl rfl (hb hby d4_119)
    have V74 : Arv Z h74 la kl (.object "com/example/tenorbook/tenorbook/engine/Level") (4 : Int32) [(.ref l0), (.ref lev), .null, .null] .null := Arv.set Ar74 q74 S74 Ng74 H74 Gf74 rfl W74 1 rfl (Nat.le_of_ble_eq_true rfl)
    have z74 : h74.size = h70.size := W74.size
    have N74 := Fr.snoc X74 N70 (by omega)
    have K74 : Keep h0 h74 [self, ta, la, lev] := K70.wr W74 (Or.inl (List.mem_of_getElem? (i := 2) rfl))
    refine Comes.st st74 ?_
    show Comes p e below _ (T74.setTop (mkF m 120 #[.val (.ref self), .val (.ref lev), .val (.int (1 : Int32))] []))
    refine Comes.st (fun t k => XS.aloadN X74.here hx rfl (hb hby d4_120) rfl rfl (XS.aloadN X74.here hx rfl (hb hby d4_121) rfl rfl k)) ?_
    show Comes p e below _ (T74.setTop (mkF m 122 #[.val (.ref self), .val (.ref lev), .val (.int (1 : Int32))] [(.ref self), (.ref lev)]))
    have F76 : Exa Z h74 lev "com/example/tenorbook/tenorbook/engine/Level" := (F75.wr W74)
    have F77 : Fld Z h74 lev "com/example/tenorbook/tenorbook/engine/Level" "ladder" "Lcom/example/tenorbook/tenorbook/engine/Ladder;" .null := ((((G10.keep Kq56 (ninS G17 nin0)).keep Kq63 (ninS G18 nin0)).other W70 (Or.inl G17)).other W74 (Or.inl G18))
    obtain ⟨T78, h78, X78, e78, W78, st78⟩ := putF X74 hx hZ hown (host := "") (Or.inl (hw _ (List.mem_of_getElem? (i := 50) rfl))) Via.refl e74 F77 F76 (Or.inl (hw _ (List.mem_of_getElem? (i := 51) rfl))) (hw _ (List.mem_of_getElem? (i := 19) rfl)) (ty := (.object "com/example/tenorbook/tenorbook/engine/Ladder")) (by decide) rfl rfl (g := (mkF m 122 #[.val (.ref self), .val (.ref lev), .val (.int (1 : Int32))] [(.ref self), (.ref lev)])) rfl rfl (hb hby d4_122)
    have Fw78 := F77.same W78
    have z78 : h78.size = h74.size := W78.size
    have N78 := Fr.snoc X78 N74 (by omega)
    have K78 : Keep h0 h78 [self, ta, la, lev] := K74.wr W78 (Or.inl (List.mem_of_getElem? (i := 3) rfl))
    refine Comes.st st78 ?_
    show Comes p e below _ (T78.setTop (mkF m 125 #[.val (.ref self), .val (.ref lev), .val (.int (1 : Int32))] []))
    refine Comes.st (fun t k => XS.aloadN X78.here hx rfl (hb hby d4_125) rfl rfl (XS.dup X78.here hx rfl (hb hby d4_126) rfl rfl k)) ?_
    show Comes p e below _ (T78.setTop (mkF m 127 #[.val (.ref self), .val (.ref lev), .val (.int (1 : Int32))] [(.ref self), (.ref self)]))
    have F79 : Fld Z h78 self "com/example/tenorbook/tenorbook/engine/Ladder" "count" "I" (.int (1 : Int32)) := ((((F60.keep Kq63 (ninS (Ne.symm G14) nin0)).other W70 (Or.inl (Ne.symm G13))).other W74 (Or.inl (Ne.symm G14))).other W78 (Or.inl (Ne.symm G16)))
    obtain ⟨T80, X80, e80, st80⟩ := getF X78 hx hZ hown (host := "") (Or.inl (hw _ (List.mem_of_getElem? (i := 43) rfl))) Via.refl e78 F79 (g := (mkF m 127 #[.val (.ref self), .val (.ref lev), .val (.int (1 : Int32))] [(.ref self), (.ref self)])) rfl rfl (hb hby d4_127)
    refine Comes.st st80 ?_
    show Comes p e below _ (T80.setTop (mkF m 130 #[.val (.ref self), .val (.ref lev), .val (.int (1 : Int32))] [(.int (1 : Int32)), (.ref self)]))
    refine Comes.st (fun t k => XS.iconst X80.here hx rfl (hb hby d4_130) (XS.iadd X80.here hx rfl (hb hby d4_131) rfl k)) ?_
    show Comes p e below _ (T80.setTop (mkF m 132 #[.val (.ref self), .val (.ref lev), .val (.int (1 : Int32))] [(.int ((1 : Int32) + (1 : Int32))), (.ref self)]))
    rw [show ((1 : Int32) + (1 : Int32)) = (2 : Int32) from by decide]
    show Comes p e below _ (T80.setTop (mkF m 132 #[.val (.ref self), .val (.ref lev), .val (.int (1 : Int32))] [(.int (2 : Int32)), (.ref self)]))
    have F81 : Exa Z h78 self "com/example/tenorbook/tenorbook/engine/Ladder" := (((((G0.keep Kq56).keep Kq63).wr W70).wr W74).wr W78)
    obtain ⟨T82, h82, X82, e82, W82, st82⟩ := putF X80 hx hZ hown (host := "") (Or.inl (hw _ (List.mem_of_getElem? (i := 43) rfl))) Via.refl e80 F79 F81 (Or.inl (hw _ (List.mem_of_getElem? (i := 44) rfl))) (hw _ (List.mem_of_getElem? (i := 1) rfl)) (ty := .int) (by decide) rfl rfl (g := (mkF m 132 #[.val (.ref self), .val (.ref lev), .val (.int (1 : Int32))] [(.int (2 : Int32)), (.ref self)])) rfl rfl (hb hby d4_132)
    have Fw82 := F79.same W82
    have z82 : h82.size = h78.size := W82.size
    have N82 := Fr.snoc X82 N78 (by omega)
    have K82 : Keep h0 h82 [self, ta, la, lev] := K78.wr W82 (Or.inl (List.mem_of_getElem? (i := 0) rfl))
    refine Comes.st st82 ?_
    show Comes p e below _ (T82.setTop (mkF m 135 #[.val (.ref self), .val (.ref lev), .val (.int (1 : Int32))] []))
    have F83 : Exa Z h82 self "com/example/tenorbook/tenorbook/engine/Ladder" := (F81.wr W82)
    have F84 : Fld Z h82 self "com/example/tenorbook/tenorbook/engine/Ladder" "ticks" "[J" (.ref ta) := ((((F64.other W70 (Or.inl (Ne.symm G13))).other W74 (Or.inl (Ne.symm G14))).other W78 (Or.inl (Ne.symm G16))).other W82 (Or.inr (slot_ne (Or.inl (hw _ (List.mem_of_getElem? (i := 11) rfl))) (Or.inl (hw _ (List.mem_of_getElem? (i := 44) rfl))) (by decide) (t := (.array .long)) (t' := .int) (by decide) (by decide))))
    have F85 : Fld Z h82 self "com/example/tenorbook/tenorbook/engine/Ladder" "levels" "[Lcom/example/tenorbook/tenorbook/engine/Level;" (.ref la) := (((F71.other W74 (Or.inl (Ne.symm G14))).other W78 (Or.inl (Ne.symm G16))).other W82 (Or.inr (slot_ne (Or.inl (hw _ (List.mem_of_getElem? (i := 15) rfl))) (Or.inl (hw _ (List.mem_of_getElem? (i := 44) rfl))) (by decide) (t := (.array (.object "com/example/tenorbook/tenorbook/engine/Level"))) (t' := .int) (by decide) (by decide))))
    have F86 : Fld Z h82 self "com/example/tenorbook/tenorbook/engine/Ladder" "lowestBest" "Z" (.int lbv) := ((((((G3.keep Kq56 (ninS (Ne.symm G13) nin0)).keep Kq63 (ninS (Ne.symm G14) nin0)).other W70 (Or.inl (Ne.symm G13))).other W74 (Or.inl (Ne.symm G14))).other W78 (Or.inl (Ne.symm G16))).other W82 (Or.inr (slot_ne (Or.inr (hw _ (List.mem_of_getElem? (i := 17) rfl))) (Or.inl (hw _ (List.mem_of_getElem? (i := 44) rfl))) (by decide) (t := .boolean) (t' := .int) (by decide) (by decide))))
    have F87 : Arv Z h82 ta kt .long (4 : Int32) [(.long x0), (.long xx), (.long (0 : Int64)), (.long (0 : Int64))] (.long (0 : Int64)) := (((V70.other W74 (Ne.symm G15)).other W78 (Ne.symm G17)).other W82 G13)
    have F88 : Arv Z h82 la kl (.object "com/example/tenorbook/tenorbook/engine/Level") (4 : Int32) [(.ref l0), (.ref lev), .null, .null] .null := ((V74.other W78 (Ne.symm G18)).other W82 G14)
    have F89 : Exa Z h82 lev "com/example/tenorbook/tenorbook/engine/Level" := ((F76.wr W78).wr W82)
    have F90 : Fld Z h82 lev "com/example/tenorbook/tenorbook/engine/Level" "ticks" "J" (.long xx) := ((((F66.other W70 (Or.inl G17)).other W74 (Or.inl G18)).other W78 (Or.inr (slot_ne (Or.inr (hw _ (List.mem_of_getElem? (i := 26) rfl))) (Or.inl (hw _ (List.mem_of_getElem? (i := 51) rfl))) (by decide) (t := .long) (t' := (.object "com/example/tenorbook/tenorbook/engine/Ladder")) (by decide) (by decide)))).other W82 (Or.inl G16))
    have F91 : Fld Z h82 lev "com/example/tenorbook/tenorbook/engine/Level" "ladder" "Lcom/example/tenorbook/tenorbook/engine/Ladder;" (.ref self) := (Fw78.other W82 (Or.inl G16))
    have F92 : Exa Z h82 l0 "com/example/tenorbook/tenorbook/engine/Level" := ((((((G11.keep Kq56).keep Kq63).wr W70).wr W74).wr W78).wr W82)
    exact Comes.ret0 X82 hx Bd.returns hlk (hb hby d4_135) e82 ⟨x0, xx, l0, lev, rfl, N82, K82, F83, F84, F85, F86, Fw82, F87, F88, G7, F89, F90, F91, F92, F89, (by exact (Or.inr ⟨(by first | assumption | omega), rfl, rfl, rfl, rfl, rfl, rfl⟩)), (by first | assumption | omega)⟩ (by decide) (by decide)
def Q_add2 (Z : State) (self : Nat) (lev : Nat) (lbv : Int32) (ta : Nat) (la : Nat) (kt : ClassId) (kl : ClassId) (xx : Int64) (x0 : Int64) (x1 : Int64) (l0 : Nat) (l1 : Nat) (h0 : Heap) (n0 : Nat) (v : Option Value) (h : Heap) (L : List Loc) : Prop := ∃ (y0 : Int64), ∃ (y1 : Int64), ∃ (y2 : Int64), ∃ (z0 : Nat), ∃ (z1 : Nat), ∃ (z2 : Nat), (v = none) ∧ (Fr n0 L) ∧ (Keep h0 h [self, ta, la, lev]) ∧ (Exa Z h self "com/example/tenorbook/tenorbook/engine/Ladder") ∧ (Fld Z h self "com/example/tenorbook/tenorbook/engine/Ladder" "ticks" "[J" (.ref ta)) ∧ (Fld Z h self "com/example/tenorbook/tenorbook/engine/Ladder" "levels" "[Lcom/example/tenorbook/tenorbook/engine/Level;" (.ref la)) ∧ (Fld Z h self "com/example/tenorbook/tenorbook/engine/Ladder" "lowestBest" "Z" (.int lbv)) ∧ (Fld Z h self "com/example/tenorbook/tenorbook/engine/Ladder" "count" "I" (.int (3 : Int32))) ∧ (Arv Z h ta kt .long (4 : Int32) [(.long y0), (.long y1), (.long y2), (.long (0 : Int64))] (.long (0 : Int64))) ∧ (Arv Z h la kl (.object "com/example/tenorbook/tenorbook/engine/Level") (4 : Int32) [(.ref z0), (.ref z1), (.ref z2), .null] .null) ∧ (Ovr Z kl "com/example/tenorbook/tenorbook/engine/Level") ∧ (Exa Z h lev "com/example/tenorbook/tenorbook/engine/Level") ∧ (Fld Z h lev "com/example/tenorbook/tenorbook/engine/Level" "ticks" "J" (.long xx)) ∧ (Fld Z h lev "com/example/tenorbook/tenorbook/engine/Level" "ladder" "Lcom/example/tenorbook/tenorbook/engine/Ladder;" (.ref self)) ∧ (Exa Z h z0 "com/example/tenorbook/tenorbook/engine/Level") ∧ (Exa Z h z1 "com/example/tenorbook/tenorbook/engine/Level") ∧ (Exa Z h z2 "com/example/tenorbook/tenorbook/engine/Level") ∧ ((own_key lbv xx < own_key lbv x0 ∧ y0 = xx ∧ y1 = x0 ∧ y2 = x1 ∧ own_ad z0 = own_ad lev ∧ own_ad z1 = own_ad l0 ∧ own_ad z2 = own_ad l1 ∧ own_key lbv y0 = own_key lbv xx ∧ own_key lbv y1 = own_key lbv x0 ∧ own_key lbv y2 = own_key lbv x1) ∨ (own_key lbv x0 < own_key lbv xx ∧ own_key lbv xx < own_key lbv x1 ∧ y0 = x0 ∧ y1 = xx ∧ y2 = x1 ∧ own_ad z0 = own_ad l0 ∧ own_ad z1 = own_ad lev ∧ own_ad z2 = own_ad l1 ∧ own_key lbv y0 = own_key lbv x0 ∧ own_key lbv y1 = own_key lbv xx ∧ own_key lbv y2 = own_key lbv x1) ∨ (own_key lbv x1 < own_key lbv xx ∧ y0 = x0 ∧ y1 = x1 ∧ y2 = xx ∧ own_ad z0 = own_ad l0 ∧ own_ad z1 = own_ad l1 ∧ own_ad z2 = own_ad lev ∧ own_key lbv y0 = own_key lbv x0 ∧ own_key lbv y1 = own_key lbv x1 ∧ own_key lbv y2 = own_key lbv xx)) ∧ (own_key lbv y0 < own_key lbv y1) ∧ (own_key lbv y1 < own_key lbv y2)
set_option maxRecDepth 65536 in
set_option maxHeartbeats 40000000 in
theorem add2 (l : Launch) (Z : State) (a0 : Array Value) (hw : ∀ d ∈ tables_1, d.before a0 Z = true) (ws : List Jvm.Cond) (self : Nat) (lev : Nat) (lbv : Int32) (ta : Nat) (la : Nat) (kt : ClassId) (kl : ClassId) (xx : Int64) (x0 : Int64) (x1 : Int64) (l0 : Nat) (l1 : Nat) (h0 : Heap) (n0 : Nat) (Z0 : n0 ≤ h0.size) (G0 : Exa Z h0 self "com/example/tenorbook/tenorbook/engine/Ladder") (G1 : Fld Z h0 self "com/example/tenorbook/tenorbook/engine/Ladder" "ticks" "[J" (.ref ta)) (G2 : Fld Z h0 self "com/example/tenorbook/tenorbook/engine/Ladder" "levels" "[Lcom/example/tenorbook/tenorbook/engine/Level;" (.ref la)) (G3 : Fld Z h0 self "com/example/tenorbook/tenorbook/engine/Ladder" "lowestBest" "Z" (.int lbv)) (G4 : Fld Z h0 self "com/example/tenorbook/tenorbook/engine/Ladder" "count" "I" (.int (2 : Int32))) (G5 : Arv Z h0 ta kt .long (4 : Int32) [(.long x0), (.long x1), (.long (0 : Int64)), (.long (0 : Int64))] (.long (0 : Int64))) (G6 : Arv Z h0 la kl (.object "com/example/tenorbook/tenorbook/engine/Level") (4 : Int32) [(.ref l0), (.ref l1), .null, .null] .null) (G7 : Ovr Z kl "com/example/tenorbook/tenorbook/engine/Level") (G8 : Exa Z h0 lev "com/example/tenorbook/tenorbook/engine/Level") (G9 : Fld Z h0 lev "com/example/tenorbook/tenorbook/engine/Level" "ticks" "J" (.long xx)) (G10 : Fld Z h0 lev "com/example/tenorbook/tenorbook/engine/Level" "ladder" "Lcom/example/tenorbook/tenorbook/engine/Ladder;" .null) (G11 : Exa Z h0 l0 "com/example/tenorbook/tenorbook/engine/Level") (G12 : Exa Z h0 l1 "com/example/tenorbook/tenorbook/engine/Level") (G13 : ¬ x0 = xx) (G14 : ¬ x1 = xx) (G15 : own_key lbv x0 < own_key lbv x1) (G16 : ta ≠ self) (G17 : la ≠ self) (G18 : la ≠ ta) (G19 : lev ≠ self) (G20 : lev ≠ ta) (G21 : lev ≠ la) (G22 : n0 ≤ self) (G23 : n0 ≤ ta) (G24 : n0 ≤ la) (G25 : n0 ≤ lev) :
    MetFree l (⟨"com/example/tenorbook/tenorbook/engine/Ladder", "add", "(Lcom/example/tenorbook/tenorbook/engine/Level;)V"⟩ : MethodName) (head1 (Jvm.Cond.code (⟨"com/example/tenorbook/tenorbook/engine/Ladder", "add", "(Lcom/example/tenorbook/tenorbook/engine/Level;)V"⟩ : MethodName) prog_9_method_6_code 3 none :: ws) ({ frames := 2, cells := 0, slots := 0, locals := 35 } : Room)) (fun a U => a = #[(.ref self), (.ref lev)] ∧ Z.Warmed39 U.vm ∧ U.heap = h0) (fun _ _ _ _ _ => True) (fun _ U o U' => ∃ v L, o = .returned v ∧ Q_add2 Z self lev lbv ta la kt kl xx x0 x1 l0 l1 h0 n0 v U'.heap L ∧ FrameEnd U o U' L ({ frames := 2, cells := 0, slots := 0, locals := 35 } : Room).cells ({ frames := 2, cells := 0, slots := 0, locals := 35 } : Room).slots) := by
  refine MetFree.of_bodySF (plainFor_of_name pn_4) hisR ?_
  intro p e s m args below meth c s₁ Bd hml0 hP hK
  obtain ⟨rfl, hZ, hh⟩ := hP
  have hx := Bd.exec
  have hby := Bd.bytes
  have hml : c.maxLocals = 3 := hml0
  have hown : s.vm.findClass "com/example/tenorbook/tenorbook/engine/Ladder" = some m.cls := findClass_of_methodNamed Bd.named
  have hnm := (name_of_methodNamed Bd.named Bd.method).1
  have hlk : meth.locks = false := Bd.notSynchronized
  have X0 : Stand p l e ({ frames := 2, cells := 0, slots := 0, locals := 35 } : Room) s m #[(.ref self), (.ref lev)] below meth c s₁ [] 0 0 := Stand.of_body Bd
  have e0 : s₁.heap = h0 := by rw [← hh, Bd.state]; rfl
  have N0 := Fr.nil n0
  have K0 := Keep.refl h0 [self, ta, la, lev]
  refine Comes.out (Q := Q_add2 Z self lev lbv ta la kt kl xx x0 x1 l0 l1 h0 n0) (kc := ({ frames := 2, cells := 0, slots := 0, locals := 35 } : Room).cells) (ks := ({ frames := 2, cells := 0, slots := 0, locals := 35 } : Room).slots) ?_
  refine Comes.cast (ef_add2 m self lev) ?_
  have lt_self : self < h0.size := G0.lt
  have lt_ta : ta < h0.size := G5.lt
  have lt_la : la < h0.size := G6.lt
  have lt_lev : lev < h0.size := G8.lt
  have lt_l0 : l0 < h0.size := G11.lt
  have lt_l1 : l1 < h0.size := G12.lt
  show Comes p e below _ (s₁.setTop (mkF m 0 #[.val (.ref self), .val (.ref lev), .unset] []))
  refine Comes.st (fun t k => XS.aloadN X0.here hx rfl (hb hby d4_0) rfl rfl (XS.aloadN X0.here hx rfl (hb hby d4_1) rfl rfl k)) ?_
  show Comes p e below _ (s₁.setTop (mkF m 2 #[.val (.ref self), .val (.ref lev), .unset] [(.ref lev), (.ref self)]))
  obtain ⟨cq1, kq1, q1a, q1b, q1c⟩ := isOf hZ e0 G8
  obtain ⟨_, _, ⟨T1, L1, k1, n1⟩, -, X1, ⟨Lc1, hQ1, l1, y1, z1⟩, st1⟩ := X0.virtualBack hx (y := (⟨"com/example/tenorbook/tenorbook/engine/Level", "ticks", "()J"⟩ : MethodName)) (z := (⟨"com/example/tenorbook/tenorbook/engine/Level", "ticks", "()J"⟩ : MethodName)) hown (mvT hZ (hw _ (List.mem_of_getElem? (i := 34) rfl))) (mvT hZ (hw _ (List.mem_of_getElem? (i := 35) rfl))) (notFace_of_selects (args := #[]) (mvT hZ (hw _ (List.mem_of_getElem? (i := 37) rfl)))) (mvT hZ (hw _ (List.mem_of_getElem? (i := 37) rfl))) (mvT hZ (hw _ (List.mem_of_getElem? (i := 36) rfl))) (by decide) (backOf (W := 1) (rm5 l Z a0 hw [] lev xx h0 n0 (by omega)  G9) hZ (hw _ (List.mem_of_getElem? (i := 38) rfl)) (hw _ (List.mem_of_getElem? (i := 20) rfl)) (by decide) (by decide)) q1a q1c (g := (mkF m 2 #[.val (.ref self), .val (.ref lev), .unset] [(.ref lev), (.ref self)])) rfl (by rw [hml]; rfl) (Steps.refl _) (argsL := []) (rest := [(.ref self)]) (lenOf pd_1 rfl) rfl (by show 2 * 0 + _ ≤ _; exact Nat.le_of_eq rfl) (hb hby d4_2) (fun _ _ => ⟨rfl, e0, (by decide : 0 + 0 ≤ _), (by decide : 0 + 0 ≤ _)⟩)
  dsimp only [Pt.U, Pt.locs, Pt.cells, Pt.slots] at X1 l1 y1 z1 st1 hQ1
  subst l1 y1 z1
  obtain ⟨rfl, Nq1, hs1⟩ := hQ1
  have N1 := Fr.app N0 Nq1
  refine Comes.go st1 ?_
  show Comes p e below _ (T1.setTop (mkF m 5 #[.val (.ref self), .val (.ref lev), .unset] [(.long xx), (.ref self)]))
  obtain ⟨cq2, q2, q2'⟩ := G0.cell
  obtain ⟨_, _, ⟨T2, L2, k2, n2⟩, -, X2, ⟨Lc2, hQ2, l2, y2, z2⟩, st2⟩ := X1.privateBack hx (y := (⟨"com/example/tenorbook/tenorbook/engine/Ladder", "find", "(J)I"⟩ : MethodName)) hown (mvT hZ (hw _ (List.mem_of_getElem? (i := 39) rfl))) (mvT hZ (hw _ (List.mem_of_getElem? (i := 40) rfl))) (mvT hZ (own_selp (y := (⟨"com/example/tenorbook/tenorbook/engine/Ladder", "find", "(J)I"⟩ : MethodName)) (hw _ (List.mem_of_getElem? (i := 1) rfl)) (hw _ (List.mem_of_getElem? (i := 41) rfl)) (hw _ (List.mem_of_getElem? (i := 40) rfl)) (by decide))) (Cond.privateMethod_at (mvP hZ (hw _ (List.mem_of_getElem? (i := 41) rfl)) (args := #[]))) (mvT hZ (hw _ (List.mem_of_getElem? (i := 42) rfl))) (by decide) (backOf (W := 0) (find2 l Z a0 hw [] self xx lbv ta kt x0 x1 h0 n0 (by omega)  G0 G1 G3 G4 G5 (by assumption) (by assumption) (by omega)) hZ (hw _ (List.mem_of_getElem? (i := 42) rfl)) (hw _ (List.mem_of_getElem? (i := 2) rfl)) (by decide) (by decide)) (g := (mkF m 5 #[.val (.ref self), .val (.ref lev), .unset] [(.long xx), (.ref self)])) rfl (by rw [hml]; rfl) (Steps.refl _) (a := self) (by rw [hs1]; exact q2) q2' (argsL := [(.long xx)]) (rest := []) (lenOf pd_2 rfl) rfl (by show 2 * 0 + _ ≤ _; exact Nat.le_of_eq rfl) (hb hby d4_5) (fun _ _ => ⟨rfl, hs1, (by decide : 0 + 0 ≤ _), (by decide : 0 + 0 ≤ _)⟩)
  dsimp only [Pt.U, Pt.locs, Pt.cells, Pt.slots] at X2 l2 y2 z2 st2 hQ2
  subst l2 y2 z2
  obtain ⟨r3, rfl, Nq2, hs2, P2_0⟩ := hQ2
  have N2 := Fr.app N1 Nq2
  refine Comes.go st2 ?_
  rcases P2_0 with ⟨rfl, o0⟩ | ⟨rfl, o0, o1⟩ | ⟨rfl, o0⟩
  · show Comes p e below _ (T2.setTop (mkF m 8 #[.val (.ref self), .val (.ref lev), .unset] [(.int (-1 : Int32))]))
    refine Comes.st (fun t k => XS.ineg X2.here hx rfl (hb hby d4_8) rfl k) ?_
    show Comes p e below _ (T2.setTop (mkF m 9 #[.val (.ref self), .val (.ref lev), .unset] [(.int (-(-1 : Int32)))]))
    rw [show (-(-1 : Int32)) = (1 : Int32) from by decide]
    show Comes p e below _ (T2.setTop (mkF m 9 #[.val (.ref self), .val (.ref lev), .unset] [(.int (1 : Int32))]))
    refine Comes.st (fun t k => XS.iconst X2.here hx rfl (hb hby d4_9) (XS.isub X2.here hx rfl (hb hby d4_10) rfl k)) ?_
    show Comes p e below _ (T2.setTop (mkF m 11 #[.val (.ref self), .val (.ref lev), .unset] [(.int ((1 : Int32) - (1 : Int32)))]))
    rw [show ((1 : Int32) - (1 : Int32)) = (0 : Int32) from by decide]
    show Comes p e below _ (T2.setTop (mkF m 11 #[.val (.ref self), .val (.ref lev), .unset] [(.int (0 : Int32))]))
    refine Comes.st (fun t k => XS.istoreN X2.here hx rfl (hb hby d4_11) rfl (l' := #[.val (.ref self), .val (.ref lev), .val (.int (0 : Int32))]) rfl (XS.aloadN X2.here hx rfl (hb hby d4_12) rfl rfl k)) ?_
    show Comes p e below _ (T2.setTop (mkF m 13 #[.val (.ref self), .val (.ref lev), .val (.int (0 : Int32))] [(.ref self)]))
    obtain ⟨T4, X4, e4, st4⟩ := getF X2 hx hZ hown (host := "") (Or.inl (hw _ (List.mem_of_getElem? (i := 43) rfl))) Via.refl hs2 G4 (g := (mkF m 13 #[.val (.ref self), .val (.ref lev), .val (.int (0 : Int32))] [(.ref self)])) rfl rfl (hb hby d4_13)
    refine Comes.st st4 ?_
    show Comes p e below _ (T4.setTop (mkF m 16 #[.val (.ref self), .val (.ref lev), .val (.int (0 : Int32))] [(.int (2 : Int32))]))
    refine Comes.st (fun t k => XS.aloadN X4.here hx rfl (hb hby d4_16) rfl rfl k) ?_
    show Comes p e below _ (T4.setTop (mkF m 17 #[.val (.ref self), .val (.ref lev), .val (.int (0 : Int32))] [(.ref self), (.int (2 : Int32))]))
    obtain ⟨T5, X5, e5, st5⟩ := getF X4 hx hZ hown (host := "") (Or.inl (hw _ (List.mem_of_getElem? (i := 14) rfl))) Via.refl e4 G2 (g := (mkF m 17 #[.val (.ref self), .val (.ref lev), .val (.int (0 : Int32))] [(.ref self), (.int (2 : Int32))])) rfl rfl (hb hby d4_17)
    refine Comes.st st5 ?_
    show Comes p e below _ (T5.setTop (mkF m 20 #[.val (.ref self), .val (.ref lev), .val (.int (0 : Int32))] [(.ref la), (.int (2 : Int32))]))
    obtain ⟨cl6, Ar6, -, S6, Ng6, -, -⟩ := id G6
    refine Comes.st (fun t k => X5.arraylength hx (by rw [e5]; exact Ar6.1) (State.isArrayOf_alike hZ.alike Ar6.2.1) (g := (mkF m 20 #[.val (.ref self), .val (.ref lev), .val (.int (0 : Int32))] [(.ref la), (.int (2 : Int32))])) rfl rfl (hb hby d4_20) _ k) ?_
    rw [len_of S6 Ng6]
    show Comes p e below _ (T5.setTop (mkF m 21 #[.val (.ref self), .val (.ref lev), .val (.int (0 : Int32))] [(.int (4 : Int32)), (.int (2 : Int32))]))
    have hc21_7 : ¬ ((2 : Int32) = (4 : Int32)) := by decide
    refine Comes.st (fun t k => XS.icmpYes X5.here hx rfl (pc0 := 21) (pc' := 61) rfl (hb hby d4_21) rfl (feq hc21_7).2 (by decide) (by decide) (XS.aloadN X5.here hx rfl (hb hby d4_61) rfl rfl k)) ?_
    show Comes p e below _ (T5.setTop (mkF m 62 #[.val (.ref self), .val (.ref lev), .val (.int (0 : Int32))] [(.ref self)]))
    obtain ⟨T8, X8, e8, st8⟩ := getF X5 hx hZ hown (host := "") (Or.inl (hw _ (List.mem_of_getElem? (i := 10) rfl))) Via.refl e5 G1 (g := (mkF m 62 #[.val (.ref self), .val (.ref lev), .val (.int (0 : Int32))] [(.ref self)])) rfl rfl (hb hby d4_62)
    refine Comes.st st8 ?_
    show Comes p e below _ (T8.setTop (mkF m 65 #[.val (.ref self), .val (.ref lev), .val (.int (0 : Int32))] [(.ref ta)]))
    refine Comes.st (fun t k => XS.iloadN X8.here hx rfl (hb hby d4_65) rfl (XS.aloadN X8.here hx rfl (hb hby d4_66) rfl rfl k)) ?_
    show Comes p e below _ (T8.setTop (mkF m 67 #[.val (.ref self), .val (.ref lev), .val (.int (0 : Int32))] [(.ref self), (.int (0 : Int32)), (.ref ta)]))
    obtain ⟨T9, X9, e9, st9⟩ := getF X8 hx hZ hown (host := "") (Or.inl (hw _ (List.mem_of_getElem? (i := 10) rfl))) Via.refl e8 G1 (g := (mkF m 67 #[.val (.ref self), .val (.ref lev), .val (.int (0 : Int32))] [(.ref self), (.int (0 : Int32)), (.ref ta)])) rfl rfl (hb hby d4_67)
    refine Comes.st st9 ?_
    show Comes p e below _ (T9.setTop (mkF m 70 #[.val (.ref self), .val (.ref lev), .val (.int (0 : Int32))] [(.ref ta), (.int (0 : Int32)), (.ref ta)]))
    refine Comes.st (fun t k => XS.iloadN X9.here hx rfl (hb hby d4_70) rfl (XS.iconst X9.here hx rfl (hb hby d4_71) (XS.iadd X9.here hx rfl (hb hby d4_72) rfl k))) ?_
    show Comes p e below _ (T9.setTop (mkF m 73 #[.val (.ref self), .val (.ref lev), .val (.int (0 : Int32))] [(.int ((0 : Int32) + (1 : Int32))), (.ref ta), (.int (0 : Int32)), (.ref ta)]))
    rw [show ((0 : Int32) + (1 : Int32)) = (1 : Int32) from by decide]
    show Comes p e below _ (T9.setTop (mkF m 73 #[.val (.ref self), .val (.ref lev), .val (.int (0 : Int32))] [(.int (1 : Int32)), (.ref ta), (.int (0 : Int32)), (.ref ta)]))
    refine Comes.st (fun t k => XS.aloadN X9.here hx rfl (hb hby d4_73) rfl rfl k) ?_
    show Comes p e below _ (T9.setTop (mkF m 74 #[.val (.ref self), .val (.ref lev), .val (.int (0 : Int32))] [(.ref self), (.int (1 : Int32)), (.ref ta), (.int (0 : Int32)), (.ref ta)]))
    obtain ⟨T10, X10, e10, st10⟩ := getF X9 hx hZ hown (host := "") (Or.inl (hw _ (List.mem_of_getElem? (i := 43) rfl))) Via.refl e9 G4 (g := (mkF m 74 #[.val (.ref self), .val (.ref lev), .val (.int (0 : Int32))] [(.ref self), (.int (1 : Int32)), (.ref ta), (.int (0 : Int32)), (.ref ta)])) rfl rfl (hb hby d4_74)
    refine Comes.st st10 ?_
    show Comes p e below _ (T10.setTop (mkF m 77 #[.val (.ref self), .val (.ref lev), .val (.int (0 : Int32))] [(.int (2 : Int32)), (.int (1 : Int32)), (.ref ta), (.int (0 : Int32)), (.ref ta)]))
    refine Comes.st (fun t k => XS.iloadN X10.here hx rfl (hb hby d4_77) rfl (XS.isub X10.here hx rfl (hb hby d4_78) rfl k)) ?_
    show Comes p e below _ (T10.setTop (mkF m 79 #[.val (.ref self), .val (.ref lev), .val (.int (0 : Int32))] [(.int ((2 : Int32) - (0 : Int32))), (.int (1 : Int32)), (.ref ta), (.int (0 : Int32)), (.ref ta)]))
    rw [show ((2 : Int32) - (0 : Int32)) = (2 : Int32) from by decide]
    show Comes p e below _ (T10.setTop (mkF m 79 #[.val (.ref self), .val (.ref lev), .val (.int (0 : Int32))] [(.int (2 : Int32)), (.int (1 : Int32)), (.ref ta), (.int (0 : Int32)), (.ref ta)]))
    obtain ⟨T11, h11, L11, X11, e11, N11, Kq11, V11, st11⟩ := cpA X10 hx hZ hown (hw _ (List.mem_of_getElem? (i := 45) rfl)) (hw _ (List.mem_of_getElem? (i := 48) rfl)) (hw _ (List.mem_of_getElem? (i := 46) rfl)) (hw _ (List.mem_of_getElem? (i := 47) rfl)) e10 (us := [(.long x0), (.long x1)]) G5 G5 (Or.inl ⟨rfl, rfl⟩) (by decide) (by decide) (by decide) (by decide) (by decide) rfl (Nat.le_of_ble_eq_true rfl) N2 (by omega) (g := (mkF m 79 #[.val (.ref self), .val (.ref lev), .val (.int (0 : Int32))] [(.int (2 : Int32)), (.int (1 : Int32)), (.ref ta), (.int (0 : Int32)), (.ref ta)])) rfl (by rw [hml]; rfl) (rest := []) rfl (hb hby d4_79) (by decide) (W := 0) (by show 2 * 0 + _ ≤ _; exact Nat.le_of_eq rfl) (by decide)
    have z11 : h0.size ≤ h11.size := Kq11.1
    have K11 : Keep h0 h11 [self, ta, la, lev] := K0.trans Kq11 (allS (Or.inl (List.mem_of_getElem? (i := 1) rfl)) all0)
    have V11' : Arv Z h11 ta kt .long (4 : Int32) [(.long x0), (.long x0), (.long x1), (.long (0 : Int64))] (.long (0 : Int64)) := V11
    refine Comes.st st11 ?_
    show Comes p e below _ (T11.setTop (mkF m 82 #[.val (.ref self), .val (.ref lev), .val (.int (0 : Int32))] []))
    refine Comes.st (fun t k => XS.aloadN X11.here hx rfl (hb hby d4_82) rfl rfl k) ?_
    show Comes p e below _ (T11.setTop (mkF m 83 #[.val (.ref self), .val (.ref lev), .val (.int (0 : Int32))] [(.ref self)]))
    have F12 : Fld Z h11 self "com/example/tenorbook/tenorbook/engine/Ladder" "levels" "[Lcom/example/tenorbook/tenorbook/engine/Level;" (.ref la) := (G2.keep Kq11 (ninS (Ne.symm G16) nin0))
    obtain ⟨T13, X13, e13, st13⟩ := getF X11 hx hZ hown (host := "") (Or.inl (hw _ (List.mem_of_getElem? (i := 14) rfl))) Via.refl e11 F12 (g := (mkF m 83 #[.val (.ref self), .val (.ref lev), .val (.int (0 : Int32))] [(.ref self)])) rfl rfl (hb hby d4_83)
    refine Comes.st st13 ?_
    show Comes p e below _ (T13.setTop (mkF m 86 #[.val (.ref self), .val (.ref lev), .val (.int (0 : Int32))] [(.ref la)]))
    refine Comes.st (fun t k => XS.iloadN X13.here hx rfl (hb hby d4_86) rfl (XS.aloadN X13.here hx rfl (hb hby d4_87) rfl rfl k)) ?_
    show Comes p e below _ (T13.setTop (mkF m 88 #[.val (.ref self), .val (.ref lev), .val (.int (0 : Int32))] [(.ref self), (.int (0 : Int32)), (.ref la)]))
    obtain ⟨T14, X14, e14, st14⟩ := getF X13 hx hZ hown (host := "") (Or.inl (hw _ (List.mem_of_getElem? (i := 14) rfl))) Via.refl e13 F12 (g := (mkF m 88 #[.val (.ref self), .val (.ref lev), .val (.int (0 : Int32))] [(.ref self), (.int (0 : Int32)), (.ref la)])) rfl rfl (hb hby d4_88)
    refine Comes.st st14 ?_
    show Comes p e below _ (T14.setTop (mkF m 91 #[.val (.ref self), .val (.ref lev), .val (.int (0 : Int32))] [(.ref la), (.int (0 : Int32)), (.ref la)]))
    refine Comes.st (fun t k => XS.iloadN X14.here hx rfl (hb hby d4_91) rfl (XS.iconst X14.here hx rfl (hb hby d4_92) (XS.iadd X14.here hx rfl (hb hby d4_93) rfl k))) ?_
    show Comes p e below _ (T14.setTop (mkF m 94 #[.val (.ref self), .val (.ref lev), .val (.int (0 : Int32))] [(.int ((0 : Int32) + (1 : Int32))), (.ref la), (.int (0 : Int32)), (.ref la)]))
    rw [show ((0 : Int32) + (1 : Int32)) = (1 : Int32) from by decide]
    show Comes p e below _ (T14.setTop (mkF m 94 #[.val (.ref self), .val (.ref lev), .val (.int (0 : Int32))] [(.int (1 : Int32)), (.ref la), (.int (0 : Int32)), (.ref la)]))
    refine Comes.st (fun t k => XS.aloadN X14.here hx rfl (hb hby d4_94) rfl rfl k) ?_
    show Comes p e below _ (T14.setTop (mkF m 95 #[.val (.ref self), .val (.ref lev), .val (.int (0 : Int32))] [(.ref self), (.int (1 : Int32)), (.ref la), (.int (0 : Int32)), (.ref la)]))
    have F15 : Fld Z h11 self "com/example/tenorbook/tenorbook/engine/Ladder" "count" "I" (.int (2 : Int32)) := (G4.keep Kq11 (ninS (Ne.symm G16) nin0))
    obtain ⟨T16, X16, e16, st16⟩ := getF X14 hx hZ hown (host := "") (Or.inl (hw _ (List.mem_of_getElem? (i := 43) rfl))) Via.refl e14 F15 (g := (mkF m 95 #[.val (.ref self), .val (.ref lev), .val (.int (0 : Int32))] [(.ref self), (.int (1 : Int32)), (.ref la), (.int (0 : Int32)), (.ref la)])) rfl rfl (hb hby d4_95)
    refine Comes.st st16 ?_
    show Comes p e below _ (T16.setTop (mkF m 98 #[.val (.ref self), .val (.ref lev), .val (.int (0 : Int32))] [(.int (2 : Int32)), (.int (1 : Int32)), (.ref la), (.int (0 : Int32)), (.ref la)]))
    refine Comes.st (fun t k => XS.iloadN X16.here hx rfl (hb hby d4_98) rfl (XS.isub X16.here hx rfl (hb hby d4_99) rfl k)) ?_
    show Comes p e below _ (T16.setTop (mkF m 100 #[.val (.ref self), .val (.ref lev), .val (.int (0 : Int32))] [(.int ((2 : Int32) - (0 : Int32))), (.int (1 : Int32)), (.ref la), (.int (0 : Int32)), (.ref la)]))
    rw [show ((2 : Int32) - (0 : Int32)) = (2 : Int32) from by decide]
    show Comes p e below _ (T16.setTop (mkF m 100 #[.val (.ref self), .val (.ref lev), .val (.int (0 : Int32))] [(.int (2 : Int32)), (.int (1 : Int32)), (.ref la), (.int (0 : Int32)), (.ref la)]))
    have F17 : Arv Z h11 la kl (.object "com/example/tenorbook/tenorbook/engine/Level") (4 : Int32) [(.ref l0), (.ref l1), .null, .null] .null := (G6.keep Kq11 (ninS G18 nin0))
    have F18 : Exa Z h11 l1 "com/example/tenorbook/tenorbook/engine/Level" := (G12.keep Kq11)
    have F19 : Exa Z h11 l0 "com/example/tenorbook/tenorbook/engine/Level" := (G11.keep Kq11)
    obtain ⟨T20, h20, L20, X20, e20, N20, Kq20, V20, st20⟩ := cpA X16 hx hZ hown (hw _ (List.mem_of_getElem? (i := 45) rfl)) (hw _ (List.mem_of_getElem? (i := 48) rfl)) (hw _ (List.mem_of_getElem? (i := 46) rfl)) (hw _ (List.mem_of_getElem? (i := 47) rfl)) e16 (us := [(.ref l0), (.ref l1)]) F17 F17 (Or.inr ⟨rfl, rfl, ⟨(by obtain ⟨c_, A_, q_, -⟩ := F17; exact Sto.ofV A_ q_ G7 (Ins.self F19)), ⟨(by obtain ⟨c_, A_, q_, -⟩ := F17; exact Sto.ofV A_ q_ G7 (Ins.self F18)), trivial⟩⟩⟩) (by decide) (by decide) (by decide) (by decide) (by decide) rfl (Nat.le_of_ble_eq_true rfl) N11 (by omega) (g := (mkF m 100 #[.val (.ref self), .val (.ref lev), .val (.int (0 : Int32))] [(.int (2 : Int32)), (.int (1 : Int32)), (.ref la), (.int (0 : Int32)), (.ref la)])) rfl (by rw [hml]; rfl) (rest := []) rfl (hb hby d4_100) (by decide) (W := 0) (by show 2 * 0 + _ ≤ _; exact Nat.le_of_eq rfl) (by decide)
    have z20 : h11.size ≤ h20.size := Kq20.1
    have K20 : Keep h0 h20 [self, ta, la, lev] := K11.trans Kq20 (allS (Or.inl (List.mem_of_getElem? (i := 2) rfl)) all0)
    have V20' : Arv Z h20 la kl (.object "com/example/tenorbook/tenorbook/engine/Level") (4 : Int32) [(.ref l0), (.ref l0), (.ref l1), .null] .null := V20
    refine Comes.st st20 ?_
    show Comes p e below _ (T20.setTop (mkF m 103 #[.val (.ref self), .val (.ref lev), .val (.int (0 : Int32))] []))
    refine Comes.st (fun t k => XS.aloadN X20.here hx rfl (hb hby d4_103) rfl rfl k) ?_
    show Comes p e below _ (T20.setTop (mkF m 104 #[.val (.ref self), .val (.ref lev), .val (.int (0 : Int32))] [(.ref self)]))
    have F21 : Fld Z h20 self "com/example/tenorbook/tenorbook/engine/Ladder" "ticks" "[J" (.ref ta) := ((G1.keep Kq11 (ninS (Ne.symm G16) nin0)).keep Kq20 (ninS (Ne.symm G17) nin0))
    obtain ⟨T22, X22, e22, st22⟩ := getF X20 hx hZ hown (host := "") (Or.inl (hw _ (List.mem_of_getElem? (i := 10) rfl))) Via.refl e20 F21 (g := (mkF m 104 #[.val (.ref self), .val (.ref lev), .val (.int (0 : Int32))] [(.ref self)])) rfl rfl (hb hby d4_104)
    refine Comes.st st22 ?_
    show Comes p e below _ (T22.setTop (mkF m 107 #[.val (.ref self), .val (.ref lev), .val (.int (0 : Int32))] [(.ref ta)]))
    refine Comes.st (fun t k => XS.iloadN X22.here hx rfl (hb hby d4_107) rfl (XS.aloadN X22.here hx rfl (hb hby d4_108) rfl rfl k)) ?_
    show Comes p e below _ (T22.setTop (mkF m 109 #[.val (.ref self), .val (.ref lev), .val (.int (0 : Int32))] [(.ref lev), (.int (0 : Int32)), (.ref ta)]))
    have F23 : Fld Z h20 lev "com/example/tenorbook/tenorbook/engine/Level" "ticks" "J" (.long xx) := ((G9.keep Kq11 (ninS G20 nin0)).keep Kq20 (ninS G21 nin0))
    have F25 : Exa Z h20 lev "com/example/tenorbook/tenorbook/engine/Level" := ((G8.keep Kq11).keep Kq20)
    obtain ⟨cq24, kq24, q24a, q24b, q24c⟩ := isOf hZ e22 F25
    obtain ⟨_, _, ⟨T24, L24, k24, n24⟩, -, X24, ⟨Lc24, hQ24, l24, y24, z24⟩, st24⟩ := X22.virtualBack hx (y := (⟨"com/example/tenorbook/tenorbook/engine/Level", "ticks", "()J"⟩ : MethodName)) (z := (⟨"com/example/tenorbook/tenorbook/engine/Level", "ticks", "()J"⟩ : MethodName)) hown (mvT hZ (hw _ (List.mem_of_getElem? (i := 34) rfl))) (mvT hZ (hw _ (List.mem_of_getElem? (i := 35) rfl))) (notFace_of_selects (args := #[]) (mvT hZ (hw _ (List.mem_of_getElem? (i := 37) rfl)))) (mvT hZ (hw _ (List.mem_of_getElem? (i := 37) rfl))) (mvT hZ (hw _ (List.mem_of_getElem? (i := 36) rfl))) (by decide) (backOf (W := 2) (rm5 l Z a0 hw [] lev xx h20 n0 (by omega)  F23) hZ (hw _ (List.mem_of_getElem? (i := 38) rfl)) (hw _ (List.mem_of_getElem? (i := 20) rfl)) (by decide) (by decide)) q24a q24c (g := (mkF m 109 #[.val (.ref self), .val (.ref lev), .val (.int (0 : Int32))] [(.ref lev), (.int (0 : Int32)), (.ref ta)])) rfl (by rw [hml]; rfl) (Steps.refl _) (argsL := []) (rest := [(.int (0 : Int32)), (.ref ta)]) (lenOf pd_1 rfl) rfl (by show 2 * 0 + _ ≤ _; exact Nat.le_of_eq rfl) (hb hby d4_109) (fun _ _ => ⟨rfl, e22, (by decide : 0 + 0 ≤ _), (by decide : 0 + 0 ≤ _)⟩)
    dsimp only [Pt.U, Pt.locs, Pt.cells, Pt.slots] at X24 l24 y24 z24 st24 hQ24
    subst l24 y24 z24
    obtain ⟨rfl, Nq24, hs24⟩ := hQ24
    have N24 := Fr.app N20 Nq24
    refine Comes.go st24 ?_
    show Comes p e below _ (T24.setTop (mkF m 112 #[.val (.ref self), .val (.ref lev), .val (.int (0 : Int32))] [(.long xx), (.int (0 : Int32)), (.ref ta)]))
    have F26 : Arv Z h20 ta kt .long (4 : Int32) [(.long x0), (.long x0), (.long x1), (.long (0 : Int64))] (.long (0 : Int64)) := (V11'.keep Kq20 (ninS (Ne.symm G18) nin0))
    obtain ⟨cl27, Ar27, q27, S27, Ng27, H27, Gf27⟩ := id F26
    have hin27 : ¬ ((0 : Int32) < 0 ∨ cl27.slots.size ≤ ((0 : Int32)).toNatClampNeg) := inb_of S27 ⟨by decide, by decide⟩
    obtain ⟨T27, h27, X27, e27, W27, st27⟩ := stJ X24 hx hZ hs24 Ar27 (j := (0 : Int32)) hin27 (g := (mkF m 112 #[.val (.ref self), .val (.ref lev), .val (.int (0 : Int32))] [(.long xx), (.int (0 : Int32)), (.ref ta)])) rfl rfl (hb hby d4_112)
    have V27 : Arv Z h27 ta kt .long (4 : Int32) [(.long xx), (.long x0), (.long x1), (.long (0 : Int64))] (.long (0 : Int64)) := Arv.set Ar27 q27 S27 Ng27 H27 Gf27 rfl W27 0 rfl (Nat.le_of_ble_eq_true rfl)
    have z27 : h27.size = h20.size := W27.size
    have N27 := Fr.snoc X27 N24 (by omega)
    have K27 : Keep h0 h27 [self, ta, la, lev] := K20.wr W27 (Or.inl (List.mem_of_getElem? (i := 1) rfl))
    refine Comes.st st27 ?_
    show Comes p e below _ (T27.setTop (mkF m 113 #[.val (.ref self), .val (.ref lev), .val (.int (0 : Int32))] []))
    refine Comes.st (fun t k => XS.aloadN X27.here hx rfl (hb hby d4_113) rfl rfl k) ?_
    show Comes p e below _ (T27.setTop (mkF m 114 #[.val (.ref self), .val (.ref lev), .val (.int (0 : Int32))] [(.ref self)]))
    have F28 : Fld Z h27 self "com/example/tenorbook/tenorbook/engine/Ladder" "levels" "[Lcom/example/tenorbook/tenorbook/engine/Level;" (.ref la) := ((F12.keep Kq20 (ninS (Ne.symm G17) nin0)).other W27 (Or.inl (Ne.symm G16)))
    obtain ⟨T29, X29, e29, st29⟩ := getF X27 hx hZ hown (host := "") (Or.inl (hw _ (List.mem_of_getElem? (i := 14) rfl))) Via.refl e27 F28 (g := (mkF m 114 #[.val (.ref self), .val (.ref lev), .val (.int (0 : Int32))] [(.ref self)])) rfl rfl (hb hby d4_114)
    refine Comes.st st29 ?_
    show Comes p e below _ (T29.setTop (mkF m 117 #[.val (.ref self), .val (.ref lev), .val (.int (0 : Int32))] [(.ref la)]))
    refine Comes.st (fun t k => XS.iloadN X29.here hx rfl (hb hby d4_117) rfl (XS.aloadN X29.here hx rfl (hb hby d4_118) rfl rfl k)) ?_
    show Comes p e below _ (T29.setTop (mkF m 119 #[.val (.ref self), .val (.ref lev), .val (.int (0 : Int32))] [(.ref lev), (.int (0 : Int32)), (.ref la)]))
    have F30 : Arv Z h27 la kl (.object "com/example/tenorbook/tenorbook/engine/Level") (4 : Int32) [(.ref l0), (.ref l0), (.ref l1), .null] .null := (V20'.other W27 G18)
    obtain ⟨cl31, Ar31, q31, S31, Ng31, H31, Gf31⟩ := id F30
    have hin31 : ¬ ((0 : Int32) < 0 ∨ cl31.slots.size ≤ ((0 : Int32)).toNatClampNeg) := inb_of S31 ⟨by decide, by decide⟩
    have F32 : Exa Z h27 lev "com/example/tenorbook/tenorbook/engine/Level" := (F25.wr W27)
    obtain ⟨T31, h31, X31, e31, W31, st31⟩ := stR X29 hx hZ e29 Ar31 (j := (0 : Int32)) hin31 rfl (Sto.ofV Ar31 q31 G7 (Ins.self F32)) (g := (mkF m 119 #[.val (.ref self), .val (.ref lev), .val (.int (0 : Int32))] [(.ref lev), (.int (0 : Int32)), (.ref la)])) rfl rfl (hb hby d4_119)
    have V31 : Arv Z h31 la kl (.object "com/example/tenorbook/tenorbook/engine/Level") (4 : Int32) [(.ref lev), (.ref l0), (.ref l1), .null] .null := Arv.set Ar31 q31 S31 Ng31 H31 Gf31 rfl W31 0 rfl (Nat.le_of_ble_eq_true rfl)
    have z31 : h31.size = h27.size := W31.size
    have N31 := Fr.snoc X31 N27 (by omega)
    have K31 : Keep h0 h31 [self, ta, la, lev] := K27.wr W31 (Or.inl (List.mem_of_getElem? (i := 2) rfl))
    refine Comes.st st31 ?_
    show Comes p e below _ (T31.setTop (mkF m 120 #[.val (.ref self), .val (.ref lev), .val (.int (0 : Int32))] []))
    refine Comes.st (fun t k => XS.aloadN X31.here hx rfl (hb hby d4_120) rfl rfl (XS.aloadN X31.here hx rfl (hb hby d4_121) rfl rfl k)) ?_
    show Comes p e below _ (T31.setTop (mkF m 122 #[.val (.ref self), .val (.ref lev), .val (.int (0 : Int32))] [(.ref self), (.ref lev)]))
    have F33 : Exa Z h31 lev "com/example/tenorbook/tenorbook/engine/Level" := (F32.wr W31)
    have F34 : Fld Z h31 lev "com/example/tenorbook/tenorbook/engine/Level" "ladder" "Lcom/example/tenorbook/tenorbook/engine/Ladder;" .null := ((((G10.keep Kq11 (ninS G20 nin0)).keep Kq20 (ninS G21 nin0)).other W27 (Or.inl G20)).other W31 (Or.inl G21))
    obtain ⟨T35, h35, X35, e35, W35, st35⟩ := putF X31 hx hZ hown (host := "") (Or.inl (hw _ (List.mem_of_getElem? (i := 50) rfl))) Via.refl e31 F34 F33 (Or.inl (hw _ (List.mem_of_getElem? (i := 51) rfl))) (hw _ (List.mem_of_getElem? (i := 19) rfl)) (ty := (.object "com/example/tenorbook/tenorbook/engine/Ladder")) (by decide) rfl rfl (g := (mkF m 122 #[.val (.ref self), .val (.ref lev), .val (.int (0 : Int32))] [(.ref self), (.ref lev)])) rfl rfl (hb hby d4_122)
    have Fw35 := F34.same W35
    have z35 : h35.size = h31.size := W35.size
    have N35 := Fr.snoc X35 N31 (by omega)
    have K35 : Keep h0 h35 [self, ta, la, lev] := K31.wr W35 (Or.inl (List.mem_of_getElem? (i := 3) rfl))
    refine Comes.st st35 ?_
    show Comes p e below _ (T35.setTop (mkF m 125 #[.val (.ref self), .val (.ref lev), .val (.int (0 : Int32))] []))
    refine Comes.st (fun t k => XS.aloadN X35.here hx rfl (hb hby d4_125) rfl rfl (XS.dup X35.here hx rfl (hb hby d4_126) rfl rfl k)) ?_
    show Comes p e below _ (T35.setTop (mkF m 127 #[.val (.ref self), .val (.ref lev), .val (.int (0 : Int32))] [(.ref self), (.ref self)]))
    have F36 : Fld Z h35 self "com/example/tenorbook/tenorbook/engine/Ladder" "count" "I" (.int (2 : Int32)) := ((((F15.keep Kq20 (ninS (Ne.symm G17) nin0)).other W27 (Or.inl (Ne.symm G16))).other W31 (Or.inl (Ne.symm G17))).other W35 (Or.inl (Ne.symm G19)))
    obtain ⟨T37, X37, e37, st37⟩ := getF X35 hx hZ hown (host := "") (Or.inl (hw _ (List.mem_of_getElem? (i := 43) rfl))) Via.refl e35 F36 (g := (mkF m 127 #[.val (.ref self), .val (.ref lev), .val (.int (0 : Int32))] [(.ref self), (.ref self)])) rfl rfl (hb hby d4_127)
    refine Comes.st st37 ?_
    show Comes p e below _ (T37.setTop (mkF m 130 #[.val (.ref self), .val (.ref lev), .val (.int (0 : Int32))] [(.int (2 : Int32)), (.ref self)]))
    refine Comes.st (fun t k => XS.iconst X37.here hx rfl (hb hby d4_130) (XS.iadd X37.here hx rfl (hb hby d4_131) rfl k)) ?_
    show Comes p e below _ (T37.setTop (mkF m 132 #[.val (.ref self), .val (.ref lev), .val (.int (0 : Int32))] [(.int ((2 : Int32) + (1 : Int32))), (.ref self)]))
    rw [show ((2 : Int32) + (1 : Int32)) = (3 : Int32) from by decide]
    show Comes p e below _ (T37.setTop (mkF m 132 #[.val (.ref self), .val (.ref lev), .val (.int (0 : Int32))] [(.int (3 : Int32)), (.ref self)]))
    have F38 : Exa Z h35 self "com/example/tenorbook/tenorbook/engine/Ladder" := (((((G0.keep Kq11).keep Kq20).wr W27).wr W31).wr W35)
    obtain ⟨T39, h39, X39, e39, W39, st39⟩ := putF X37 hx hZ hown (host := "") (Or.inl (hw _ (List.mem_of_getElem? (i := 43) rfl))) Via.refl e37 F36 F38 (Or.inl (hw _ (List.mem_of_getElem? (i := 44) rfl))) (hw _ (List.mem_of_getElem? (i := 1) rfl)) (ty := .int) (by decide) rfl rfl (g := (mkF m 132 #[.val (.ref self), .val (.ref lev), .val (.int (0 : Int32))] [(.int (3 : Int32)), (.ref self)])) rfl rfl (hb hby d4_132)
    have Fw39 := F36.same W39
    have z39 : h39.size = h35.size := W39.size
    have N39 := Fr.snoc X39 N35 (by omega)
    have K39 : Keep h0 h39 [self, ta, la, lev] := K35.wr W39 (Or.inl (List.mem_of_getElem? (i := 0) rfl))
    refine Comes.st st39 ?_
    show Comes p e below _ (T39.setTop (mkF m 135 #[.val (.ref self), .val (.ref lev), .val (.int (0 : Int32))] []))
    have F40 : Exa Z h39 self "com/example/tenorbook/tenorbook/engine/Ladder" := (F38.wr W39)
    have F41 : Fld Z h39 self "com/example/tenorbook/tenorbook/engine/Ladder" "ticks" "[J" (.ref ta) := ((((F21.other W27 (Or.inl (Ne.symm G16))).other W31 (Or.inl (Ne.symm G17))).other W35 (Or.inl (Ne.symm G19))).other W39 (Or.inr (slot_ne (Or.inl (hw _ (List.mem_of_getElem? (i := 11) rfl))) (Or.inl (hw _ (List.mem_of_getElem? (i := 44) rfl))) (by decide) (t := (.array .long)) (t' := .int) (by decide) (by decide))))
    have F42 : Fld Z h39 self "com/example/tenorbook/tenorbook/engine/Ladder" "levels" "[Lcom/example/tenorbook/tenorbook/engine/Level;" (.ref la) := (((F28.other W31 (Or.inl (Ne.symm G17))).other W35 (Or.inl (Ne.symm G19))).other W39 (Or.inr (slot_ne (Or.inl (hw _ (List.mem_of_getElem? (i := 15) rfl))) (Or.inl (hw _ (List.mem_of_getElem? (i := 44) rfl))) (by decide) (t := (.array (.object "com/example/tenorbook/tenorbook/engine/Level"))) (t' := .int) (by decide) (by decide))))
    have F43 : Fld Z h39 self "com/example/tenorbook/tenorbook/engine/Ladder" "lowestBest" "Z" (.int lbv) := ((((((G3.keep Kq11 (ninS (Ne.symm G16) nin0)).keep Kq20 (ninS (Ne.symm G17) nin0)).other W27 (Or.inl (Ne.symm G16))).other W31 (Or.inl (Ne.symm G17))).other W35 (Or.inl (Ne.symm G19))).other W39 (Or.inr (slot_ne (Or.inr (hw _ (List.mem_of_getElem? (i := 17) rfl))) (Or.inl (hw _ (List.mem_of_getElem? (i := 44) rfl))) (by decide) (t := .boolean) (t' := .int) (by decide) (by decide))))
    have F44 : Arv Z h39 ta kt .long (4 : Int32) [(.long xx), (.long x0), (.long x1), (.long (0 : Int64))] (.long (0 : Int64)) := (((V27.other W31 (Ne.symm G18)).other W35 (Ne.symm G20)).other W39 G16)
    have F45 : Arv Z h39 la kl (.object "com/example/tenorbook/tenorbook/engine/Level") (4 : Int32) [(.ref lev), (.ref l0), (.ref l1), .null] .null := ((V31.other W35 (Ne.symm G21)).other W39 G17)
    have F46 : Exa Z h39 lev "com/example/tenorbook/tenorbook/engine/Level" := ((F33.wr W35).wr W39)
    have F47 : Fld Z h39 lev "com/example/tenorbook/tenorbook/engine/Level" "ticks" "J" (.long xx) := ((((F23.other W27 (Or.inl G20)).other W31 (Or.inl G21)).other W35 (Or.inr (slot_ne (Or.inr (hw _ (List.mem_of_getElem? (i := 26) rfl))) (Or.inl (hw _ (List.mem_of_getElem? (i := 51) rfl))) (by decide) (t := .long) (t' := (.object "com/example/tenorbook/tenorbook/engine/Ladder")) (by decide) (by decide)))).other W39 (Or.inl G19))
    have F48 : Fld Z h39 lev "com/example/tenorbook/tenorbook/engine/Level" "ladder" "Lcom/example/tenorbook/tenorbook/engine/Ladder;" (.ref self) := (Fw35.other W39 (Or.inl G19))
    have F49 : Exa Z h39 l0 "com/example/tenorbook/tenorbook/engine/Level" := (((((F19.keep Kq20).wr W27).wr W31).wr W35).wr W39)
    have F50 : Exa Z h39 l1 "com/example/tenorbook/tenorbook/engine/Level" := (((((F18.keep Kq20).wr W27).wr W31).wr W35).wr W39)
    exact Comes.ret0 X39 hx Bd.returns hlk (hb hby d4_135) e39 ⟨xx, x0, x1, lev, l0, l1, rfl, N39, K39, F40, F41, F42, F43, Fw39, F44, F45, G7, F46, F47, F48, F46, F49, F50, (by exact (Or.inl ⟨(by first | assumption | omega), rfl, rfl, rfl, rfl, rfl, rfl, rfl, rfl, rfl⟩)), (by first | assumption | omega), (by first | assumption | omega)⟩ (by decide) (by decide)
  · show Comes p e below _ (T2.setTop (mkF m 8 #[.val (.ref self), .val (.ref lev), .unset] [(.int (-2 : Int32))]))
    refine Comes.st (fun t k => XS.ineg X2.here hx rfl (hb hby d4_8) rfl k) ?_
    show Comes p e below _ (T2.setTop (mkF m 9 #[.val (.ref self), .val (.ref lev), .unset] [(.int (-(-2 : Int32)))]))
    rw [show (-(-2 : Int32)) = (2 : Int32) from by decide]
    show Comes p e below _ (T2.setTop (mkF m 9 #[.val (.ref self), .val (.ref lev), .unset] [(.int (2 : Int32))]))
    refine Comes.st (fun t k => XS.iconst X2.here hx rfl (hb hby d4_9) (XS.isub X2.here hx rfl (hb hby d4_10) rfl k)) ?_
    show Comes p e below _ (T2.setTop (mkF m 11 #[.val (.ref self), .val (.ref lev), .unset] [(.int ((2 : Int32) - (1 : Int32)))]))
    rw [show ((2 : Int32) - (1 : Int32)) = (1 : Int32) from by decide]
    show Comes p e below _ (T2.setTop (mkF m 11 #[.val (.ref self), .val (.ref lev), .unset] [(.int (1 : Int32))]))
    refine Comes.st (fun t k => XS.istoreN X2.here hx rfl (hb hby d4_11) rfl (l' := #[.val (.ref self), .val (.ref lev), .val (.int (1 : Int32))]) rfl (XS.aloadN X2.here hx rfl (hb hby d4_12) rfl rfl k)) ?_
    show Comes p e below _ (T2.setTop (mkF m 13 #[.val (.ref self), .val (.ref lev), .val (.int (1 : Int32))] [(.ref self)]))
    obtain ⟨T51, X51, e51, st51⟩ := getF X2 hx hZ hown (host := "") (Or.inl (hw _ (List.mem_of_getElem? (i := 43) rfl))) Via.refl hs2 G4 (g := (mkF m 13 #[.val (.ref self), .val (.ref lev), .val (.int (1 : Int32))] [(.ref self)])) rfl rfl (hb hby d4_13)
    refine Comes.st st51 ?_
    show Comes p e below _ (T51.setTop (mkF m 16 #[.val (.ref self), .val (.ref lev), .val (.int (1 : Int32))] [(.int (2 : Int32))]))
    refine Comes.st (fun t k => XS.aloadN X51.here hx rfl (hb hby d4_16) rfl rfl k) ?_
    show Comes p e below _ (T51.setTop (mkF m 17 #[.val (.ref self), .val (.ref lev), .val (.int (1 : Int32))] [(.ref self), (.int (2 : Int32))]))
    obtain ⟨T52, X52, e52, st52⟩ := getF X51 hx hZ hown (host := "") (Or.inl (hw _ (List.mem_of_getElem? (i := 14) rfl))) Via.refl e51 G2 (g := (mkF m 17 #[.val (.ref self), .val (.ref lev), .val (.int (1 : Int32))] [(.ref self), (.int (2 : Int32))])) rfl rfl (hb hby d4_17)
    refine Comes.st st52 ?_
    show Comes p e below _ (T52.setTop (mkF m 20 #[.val (.ref self), .val (.ref lev), .val (.int (1 : Int32))] [(.ref la), (.int (2 : Int32))]))
    obtain ⟨cl53, Ar53, -, S53, Ng53, -, -⟩ := id G6
    refine Comes.st (fun t k => X52.arraylength hx (by rw [e52]; exact Ar53.1) (State.isArrayOf_alike hZ.alike Ar53.2.1) (g := (mkF m 20 #[.val (.ref self), .val (.ref lev), .val (.int (1 : Int32))] [(.ref la), (.int (2 : Int32))])) rfl rfl (hb hby d4_20) _ k) ?_
    rw [len_of S53 Ng53]
    show Comes p e below _ (T52.setTop (mkF m 21 #[.val (.ref self), .val (.ref lev), .val (.int (1 : Int32))] [(.int (4 : Int32)), (.int (2 : Int32))]))
    have hc21_54 : ¬ ((2 : Int32) = (4 : Int32)) := by decide
    refine Comes.st (fun t k => XS.icmpYes X52.here hx rfl (pc0 := 21) (pc' := 61) rfl (hb hby d4_21) rfl (feq hc21_54).2 (by decide) (by decide) (XS.aloadN X52.here hx rfl (hb hby d4_61) rfl rfl k)) ?_
    show Comes p e below _ (T52.setTop (mkF m 62 #[.val (.ref self), .val (.ref lev), .val (.int (1 : Int32))] [(.ref self)]))
    obtain ⟨T55, X55, e55, st55⟩ := getF X52 hx hZ hown (host := "") (Or.inl (hw _ (List.mem_of_getElem? (i := 10) rfl))) Via.refl e52 G1 (g := (mkF m 62 #[.val (.ref self), .val (.ref lev), .val (.int (1 : Int32))] [(.ref self)])) rfl rfl (hb hby d4_62)
    refine Comes.st st55 ?_
    show Comes p e below _ (T55.setTop (mkF m 65 #[.val (.ref self), .val (.ref lev), .val (.int (1 : Int32))] [(.ref ta)]))
    refine Comes.st (fun t k => XS.iloadN X55.here hx rfl (hb hby d4_65) rfl (XS.aloadN X55.here hx rfl (hb hby d4_66) rfl rfl k)) ?_
    show Comes p e below _ (T55.setTop (mkF m 67 #[.val (.ref self), .val (.ref lev), .val (.int (1 : Int32))] [(.ref self), (.int (1 : Int32)), (.ref ta)]))
    obtain ⟨T56, X56, e56, st56⟩ := getF X55 hx hZ hown (host := "") (Or.inl (hw _ (List.mem_of_getElem? (i := 10) rfl))) Via.refl e55 G1 (g := (mkF m 67 #[.val (.ref self), .val (.ref lev), .val (.int (1 : Int32))] [(.ref self), (.int (1 : Int32)), (.ref ta)])) rfl rfl (hb hby d4_67)
    refine Comes.st st56 ?_
    show Comes p e below _ (T56.setTop (mkF m 70 #[.val (.ref self), .val (.ref lev), .val (.int (1 : Int32))] [(.ref ta), (.int (1 : Int32)), (.ref ta)]))
    refine Comes.st (fun t k => XS.iloadN X56.here hx rfl (hb hby d4_70) rfl (XS.iconst X56.here hx rfl (hb hby d4_71) (XS.iadd X56.here hx rfl (hb hby d4_72) rfl k))) ?_
    show Comes p e below _ (T56.setTop (mkF m 73 #[.val (.ref self), .val (.ref lev), .val (.int (1 : Int32))] [(.int ((1 : Int32) + (1 : Int32))), (.ref ta), (.int (1 : Int32)), (.ref ta)]))
    rw [show ((1 : Int32) + (1 : Int32)) = (2 : Int32) from by decide]
    show Comes p e below _ (T56.setTop (mkF m 73 #[.val (.ref self), .val (.ref lev), .val (.int (1 : Int32))] [(.int (2 : Int32)), (.ref ta), (.int (1 : Int32)), (.ref ta)]))
    refine Comes.st (fun t k => XS.aloadN X56.here hx rfl (hb hby d4_73) rfl rfl k) ?_
    show Comes p e below _ (T56.setTop (mkF m 74 #[.val (.ref self), .val (.ref lev), .val (.int (1 : Int32))] [(.ref self), (.int (2 : Int32)), (.ref ta), (.int (1 : Int32)), (.ref ta)]))
    obtain ⟨T57, X57, e57, st57⟩ := getF X56 hx hZ hown (host := "") (Or.inl (hw _ (List.mem_of_getElem? (i := 43) rfl))) Via.refl e56 G4 (g := (mkF m 74 #[.val (.ref self), .val (.ref lev), .val (.int (1 : Int32))] [(.ref self), (.int (2 : Int32)), (.ref ta), (.int (1 : Int32)), (.ref ta)])) rfl rfl (hb hby d4_74)
    refine Comes.st st57 ?_
    show Comes p e below _ (T57.setTop (mkF m 77 #[.val (.ref self), .val (.ref lev), .val (.int (1 : Int32))] [(.int (2 : Int32)), (.int (2 : Int32)), (.ref ta), (.int (1 : Int32)), (.ref ta)]))
    refine Comes.st (fun t k => XS.iloadN X57.here hx rfl (hb hby d4_77) rfl (XS.isub X57.here hx rfl (hb hby d4_78) rfl k)) ?_
    show Comes p e below _ (T57.setTop (mkF m 79 #[.val (.ref self), .val (.ref lev), .val (.int (1 : Int32))] [(.int ((2 : Int32) - (1 : Int32))), (.int (2 : Int32)), (.ref ta), (.int (1 : Int32)), (.ref ta)]))
    rw [show ((2 : Int32) - (1 : Int32)) = (1 : Int32) from by decide]
    show Comes p e below _ (T57.setTop (mkF m 79 #[.val (.ref self), .val (.ref lev), .val (.int (1 : Int32))] [(.int (1 : Int32)), (.int (2 : Int32)), (.ref ta), (.int (1 : Int32)), (.ref ta)]))
    obtain ⟨T58, h58, L58, X58, e58, N58, Kq58, V58, st58⟩ := cpA X57 hx hZ hown (hw _ (List.mem_of_getElem? (i := 45) rfl)) (hw _ (List.mem_of_getElem? (i := 48) rfl)) (hw _ (List.mem_of_getElem? (i := 46) rfl)) (hw _ (List.mem_of_getElem? (i := 47) rfl)) e57 (us := [(.long x1)]) G5 G5 (Or.inl ⟨rfl, rfl⟩) (by decide) (by decide) (by decide) (by decide) (by decide) rfl (Nat.le_of_ble_eq_true rfl) N2 (by omega) (g := (mkF m 79 #[.val (.ref self), .val (.ref lev), .val (.int (1 : Int32))] [(.int (1 : Int32)), (.int (2 : Int32)), (.ref ta), (.int (1 : Int32)), (.ref ta)])) rfl (by rw [hml]; rfl) (rest := []) rfl (hb hby d4_79) (by decide) (W := 0) (by show 2 * 0 + _ ≤ _; exact Nat.le_of_eq rfl) (by decide)
    have z58 : h0.size ≤ h58.size := Kq58.1
    have K58 : Keep h0 h58 [self, ta, la, lev] := K0.trans Kq58 (allS (Or.inl (List.mem_of_getElem? (i := 1) rfl)) all0)
    have V58' : Arv Z h58 ta kt .long (4 : Int32) [(.long x0), (.long x1), (.long x1), (.long (0 : Int64))] (.long (0 : Int64)) := V58
    refine Comes.st st58 ?_
    show Comes p e below _ (T58.setTop (mkF m 82 #[.val (.ref self), .val (.ref lev), .val (.int (1 : Int32))] []))
    refine Comes.st (fun t k => XS.aloadN X58.here hx rfl (hb hby d4_82) rfl rfl k) ?_
    show Comes p e below _ (T58.setTop (mkF m 83 #[.val (.ref self), .val (.ref lev), .val (.int (1 : Int32))] [(.ref self)]))
    have F59 : Fld Z h58 self "com/example/tenorbook/tenorbook/engine/Ladder" "levels" "[Lcom/example/tenorbook/tenorbook/engine/Level;" (.ref la) := (G2.keep Kq58 (ninS (Ne.symm G16) nin0))
    obtain ⟨T60, X60, e60, st60⟩ := getF X58 hx hZ hown (host := "") (Or.inl (hw _ (List.mem_of_getElem? (i := 14) rfl))) Via.refl e58 F59 (g := (mkF m 83 #[.val (.ref self), .val (.ref lev), .val (.int (1 : Int32))] [(.ref self)])) rfl rfl (hb hby d4_83)
    refine Comes.st st60 ?_
    show Comes p e below _ (T60.setTop (mkF m 86 #[.val (.ref self), .val (.ref lev), .val (.int (1 : Int32))] [(.ref la)]))
    refine Comes.st (fun t k => XS.iloadN X60.here hx rfl (hb hby d4_86) rfl (XS.aloadN X60.here hx rfl (hb hby d4_87) rfl rfl k)) ?_
    show Comes p e below _ (T60.setTop (mkF m 88 #[.val (.ref self), .val (.ref lev), .val (.int (1 : Int32))] [(.ref self), (.int (1 : Int32)), (.ref la)]))
    obtain ⟨T61, X61, e61, st61⟩ := getF X60 hx hZ hown (host := "") (Or.inl (hw _ (List.mem_of_getElem? (i := 14) rfl))) Via.refl e60 F59 (g := (mkF m 88 #[.val (.ref self), .val (.ref lev), .val (.int (1 : Int32))] [(.ref self), (.int (1 : Int32)), (.ref la)])) rfl rfl (hb hby d4_88)
    refine Comes.st st61 ?_
    show Comes p e below _ (T61.setTop (mkF m 91 #[.val (.ref self), .val (.ref lev), .val (.int (1 : Int32))] [(.ref la), (.int (1 : Int32)), (.ref la)]))
    refine Comes.st (fun t k => XS.iloadN X61.here hx rfl (hb hby d4_91) rfl (XS.iconst X61.here hx rfl (hb hby d4_92) (XS.iadd X61.here hx rfl (hb hby d4_93) rfl k))) ?_
    show Comes p e below _ (T61.setTop (mkF m 94 #[.val (.ref self), .val (.ref lev), .val (.int (1 : Int32))] [(.int ((1 : Int32) + (1 : Int32))), (.ref la), (.int (1 : Int32)), (.ref la)]))
    rw [show ((1 : Int32) + (1 : Int32)) = (2 : Int32) from by decide]
    show Comes p e below _ (T61.setTop (mkF m 94 #[.val (.ref self), .val (.ref lev), .val (.int (1 : Int32))] [(.int (2 : Int32)), (.ref la), (.int (1 : Int32)), (.ref la)]))
    refine Comes.st (fun t k => XS.aloadN X61.here hx rfl (hb hby d4_94) rfl rfl k) ?_
    show Comes p e below _ (T61.setTop (mkF m 95 #[.val (.ref self), .val (.ref lev), .val (.int (1 : Int32))] [(.ref self), (.int (2 : Int32)), (.ref la), (.int (1 : Int32)), (.ref la)]))
    have F62 : Fld Z h58 self "com/example/tenorbook/tenorbook/engine/Ladder" "count" "I" (.int (2 : Int32)) := (G4.keep Kq58 (ninS (Ne.symm G16) nin0))
    obtain ⟨T63, X63, e63, st63⟩ := getF X61 hx hZ hown (host := "") (Or.inl (hw _ (List.mem_of_getElem? (i := 43) rfl))) Via.refl e61 F62 (g := (mkF m 95 #[.val (.ref self), .val (.ref lev), .val (.int (1 : Int32))] [(.ref self), (.int (2 : Int32)), (.ref la), (.int (1 : Int32)), (.ref la)])) rfl rfl (hb hby d4_95)
    refine Comes.st st63 ?_
    show Comes p e below _ (T63.setTop (mkF m 98 #[.val (.ref self), .val (.ref lev), .val (.int (1 : Int32))] [(.int (2 : Int32)), (.int (2 : Int32)), (.ref la), (.int (1 : Int32)), (.ref la)]))
    refine Comes.st (fun t k => XS.iloadN X63.here hx rfl (hb hby d4_98) rfl (XS.isub X63.here hx rfl (hb hby d4_99) rfl k)) ?_
    show Comes p e below _ (T63.setTop (mkF m 100 #[.val (.ref self), .val (.ref lev), .val (.int (1 : Int32))] [(.int ((2 : Int32) - (1 : Int32))), (.int (2 : Int32)), (.ref la), (.int (1 : Int32)), (.ref la)]))
    rw [show ((2 : Int32) - (1 : Int32)) = (1 : Int32) from by decide]
    show Comes p e below _ (T63.setTop (mkF m 100 #[.val (.ref self), .val (.ref lev), .val (.int (1 : Int32))] [(.int (1 : Int32)), (.int (2 : Int32)), (.ref la), (.int (1 : Int32)), (.ref la)]))
    have F64 : Arv Z h58 la kl (.object "com/example/tenorbook/tenorbook/engine/Level") (4 : Int32) [(.ref l0), (.ref l1), .null, .null] .null := (G6.keep Kq58 (ninS G18 nin0))
    have F65 : Exa Z h58 l1 "com/example/tenorbook/tenorbook/engine/Level" := (G12.keep Kq58)
    obtain ⟨T66, h66, L66, X66, e66, N66, Kq66, V66, st66⟩ := cpA X63 hx hZ hown (hw _ (List.mem_of_getElem? (i := 45) rfl)) (hw _ (List.mem_of_getElem? (i := 48) rfl)) (hw _ (List.mem_of_getElem? (i := 46) rfl)) (hw _ (List.mem_of_getElem? (i := 47) rfl)) e63 (us := [(.ref l1)]) F64 F64 (Or.inr ⟨rfl, rfl, ⟨(by obtain ⟨c_, A_, q_, -⟩ := F64; exact Sto.ofV A_ q_ G7 (Ins.self F65)), trivial⟩⟩) (by decide) (by decide) (by decide) (by decide) (by decide) rfl (Nat.le_of_ble_eq_true rfl) N58 (by omega) (g := (mkF m 100 #[.val (.ref self), .val (.ref lev), .val (.int (1 : Int32))] [(.int (1 : Int32)), (.int (2 : Int32)), (.ref la), (.int (1 : Int32)), (.ref la)])) rfl (by rw [hml]; rfl) (rest := []) rfl (hb hby d4_100) (by decide) (W := 0) (by show 2 * 0 + _ ≤ _; exact Nat.le_of_eq rfl) (by decide)
    have z66 : h58.size ≤ h66.size := Kq66.1
    have K66 : Keep h0 h66 [self, ta, la, lev] := K58.trans Kq66 (allS (Or.inl (List.mem_of_getElem? (i := 2) rfl)) all0)
    have V66' : Arv Z h66 la kl (.object "com/example/tenorbook/tenorbook/engine/Level") (4 : Int32) [(.ref l0), (.ref l1), (.ref l1), .null] .null := V66
    refine Comes.st st66 ?_
    show Comes p e below _ (T66.setTop (mkF m 103 #[.val (.ref self), .val (.ref lev), .val (.int (1 : Int32))] []))
    refine Comes.st (fun t k => XS.aloadN X66.here hx rfl (hb hby d4_103) rfl rfl k) ?_
    show Comes p e below _ (T66.setTop (mkF m 104 #[.val (.ref self), .val (.ref lev), .val (.int (1 : Int32))] [(.ref self)]))
    have F67 : Fld Z h66 self "com/example/tenorbook/tenorbook/engine/Ladder" "ticks" "[J" (.ref ta) := ((G1.keep Kq58 (ninS (Ne.symm G16) nin0)).keep Kq66 (ninS (Ne.symm G17) nin0))
    obtain ⟨T68, X68, e68, st68⟩ := getF X66 hx hZ hown (host := "") (Or.inl (hw _ (List.mem_of_getElem? (i := 10) rfl))) Via.refl e66 F67 (g := (mkF m 104 #[.val (.ref self), .val (.ref lev), .val (.int (1 : Int32))] [(.ref self)])) rfl rfl (hb hby d4_104)
    refine Comes.st st68 ?_
    show Comes p e below _ (T68.setTop (mkF m 107 #[.val (.ref self), .val (.ref lev), .val (.int (1 : Int32))] [(.ref ta)]))
    refine Comes.st (fun t k => XS.iloadN X68.here hx rfl (hb hby d4_107) rfl (XS.aloadN X68.here hx rfl (hb hby d4_108) rfl rfl k)) ?_
    show Comes p e below _ (T68.setTop (mkF m 109 #[.val (.ref self), .val (.ref lev), .val (.int (1 : Int32))] [(.ref lev), (.int (1 : Int32)), (.ref ta)]))
    have F69 : Fld Z h66 lev "com/example/tenorbook/tenorbook/engine/Level" "ticks" "J" (.long xx) := ((G9.keep Kq58 (ninS G20 nin0)).keep Kq66 (ninS G21 nin0))
    have F71 : Exa Z h66 lev "com/example/tenorbook/tenorbook/engine/Level" := ((G8.keep Kq58).keep Kq66)
    obtain ⟨cq70, kq70, q70a, q70b, q70c⟩ := isOf hZ e68 F71
    obtain ⟨_, _, ⟨T70, L70, k70, n70⟩, -, X70, ⟨Lc70, hQ70, l70, y70, z70⟩, st70⟩ := X68.virtualBack hx (y := (⟨"com/example/tenorbook/tenorbook/engine/Level", "ticks", "()J"⟩ : MethodName)) (z := (⟨"com/example/tenorbook/tenorbook/engine/Level", "ticks", "()J"⟩ : MethodName)) hown (mvT hZ (hw _ (List.mem_of_getElem? (i := 34) rfl))) (mvT hZ (hw _ (List.mem_of_getElem? (i := 35) rfl))) (notFace_of_selects (args := #[]) (mvT hZ (hw _ (List.mem_of_getElem? (i := 37) rfl)))) (mvT hZ (hw _ (List.mem_of_getElem? (i := 37) rfl))) (mvT hZ (hw _ (List.mem_of_getElem? (i := 36) rfl))) (by decide) (backOf (W := 2) (rm5 l Z a0 hw [] lev xx h66 n0 (by omega)  F69) hZ (hw _ (List.mem_of_getElem? (i := 38) rfl)) (hw _ (List.mem_of_getElem? (i := 20) rfl)) (by decide) (by decide)) q70a q70c (g := (mkF m 109 #[.val (.ref self), .val (.ref lev), .val (.int (1 : Int32))] [(.ref lev), (.int (1 : Int32)), (.ref ta)])) rfl (by rw [hml]; rfl) (Steps.refl _) (argsL := []) (rest := [(.int (1 : Int32)), (.ref ta)]) (lenOf pd_1 rfl) rfl (by show 2 * 0 + _ ≤ _; exact Nat.le_of_eq rfl) (hb hby d4_109) (fun _ _ => ⟨rfl, e68, (by decide : 0 + 0 ≤ _), (by decide : 0 + 0 ≤ _)⟩)
    dsimp only [Pt.U, Pt.locs, Pt.cells, Pt.slots] at X70 l70 y70 z70 st70 hQ70
    subst l70 y70 z70
    obtain ⟨rfl, Nq70, hs70⟩ := hQ70
    have N70 := Fr.app N66 Nq70
    refine Comes.go st70 ?_
    show Comes p e below _ (T70.setTop (mkF m 112 #[.val (.ref self), .val (.ref lev), .val (.int (1 : Int32))] [(.long xx), (.int (1 : Int32)), (.ref ta)]))
    have F72 : Arv Z h66 ta kt .long (4 : Int32) [(.long x0), (.long x1), (.long x1), (.long (0 : Int64))] (.long (0 : Int64)) := (V58'.keep Kq66 (ninS (Ne.symm G18) nin0))
    obtain ⟨cl73, Ar73, q73, S73, Ng73, H73, Gf73⟩ := id F72
    have hin73 : ¬ ((1 : Int32) < 0 ∨ cl73.slots.size ≤ ((1 : Int32)).toNatClampNeg) := inb_of S73 ⟨by decide, by decide⟩
    obtain ⟨T73, h73, X73, e73, W73, st73⟩ := stJ X70 hx hZ hs70 Ar73 (j := (1 : Int32)) hin73 (g := (mkF m 112 #[.val (.ref self), .val (.ref lev), .val (.int (1 : Int32))] [(.long xx), (.int (1 : Int32)), (.ref ta)])) rfl rfl (hb hby d4_112)
    have V73 : Arv Z h73 ta kt .long (4 : Int32) [(.long x0), (.long xx), (.long x1), (.long (0 : Int64))] (.long (0 : Int64)) := Arv.set Ar73 q73 S73 Ng73 H73 Gf73 rfl W73 1 rfl (Nat.le_of_ble_eq_true rfl)
    have z73 : h73.size = h66.size := W73.size
    have N73 := Fr.snoc X73 N70 (by omega)
    have K73 : Keep h0 h73 [self, ta, la, lev] := K66.wr W73 (Or.inl (List.mem_of_getElem? (i := 1) rfl))
    refine Comes.st st73 ?_
    show Comes p e below _ (T73.setTop (mkF m 113 #[.val (.ref self), .val (.ref lev), .val (.int (1 : Int32))] []))
    refine Comes.st (fun t k => XS.aloadN X73.here hx rfl (hb hby d4_113) rfl rfl k) ?_
    show Comes p e below _ (T73.setTop (mkF m 114 #[.val (.ref self), .val (.ref lev), .val (.int (1 : Int32))] [(.ref self)]))
    have F74 : Fld Z h73 self "com/example/tenorbook/tenorbook/engine/Ladder" "levels" "[Lcom/example/tenorbook/tenorbook/engine/Level;" (.ref la) := ((F59.keep Kq66 (ninS (Ne.symm G17) nin0)).other W73 (Or.inl (Ne.symm G16)))
    obtain ⟨T75, X75, e75, st75⟩ := getF X73 hx hZ hown (host := "") (Or.inl (hw _ (List.mem_of_getElem? (i := 14) rfl))) Via.refl e73 F74 (g := (mkF m 114 #[.val (.ref self), .val (.ref lev), .val (.int (1 : Int32))] [(.ref self)])) rfl rfl (hb hby d4_114)
    refine Comes.st st75 ?_
    show Comes p e below _ (T75.setTop (mkF m 117 #[.val (.ref self), .val (.ref lev), .val (.int (1 : Int32))] [(.ref la)]))
    refine Comes.st (fun t k => XS.iloadN X75.here hx rfl (hb hby d4_117) rfl (XS.aloadN X75.here hx rfl (hb hby d4_118) rfl rfl k)) ?_
    show Comes p e below _ (T75.setTop (mkF m 119 #[.val (.ref self), .val (.ref lev), .val (.int (1 : Int32))] [(.ref lev), (.int (1 : Int32)), (.ref la)]))
    have F76 : Arv Z h73 la kl (.object "com/example/tenorbook/tenorbook/engine/Level") (4 : Int32) [(.ref l0), (.ref l1), (.ref l1), .null] .null := (V66'.other W73 G18)
    obtain ⟨cl77, Ar77, q77, S77, Ng77, H77, Gf77⟩ := id F76
    have hin77 : ¬ ((1 : Int32) < 0 ∨ cl77.slots.size ≤ ((1 : Int32)).toNatClampNeg) := inb_of S77 ⟨by decide, by decide⟩
    have F78 : Exa Z h73 lev "com/example/tenorbook/tenorbook/engine/Level" := (F71.wr W73)
    obtain ⟨T77, h77, X77, e77, W77, st77⟩ := stR X75 hx hZ e75 Ar77 (j := (1 : Int32)) hin77 rfl (Sto.ofV Ar77 q77 G7 (Ins.self F78)) (g := (mkF m 119 #[.val (.ref self), .val (.ref lev), .val (.int (1 : Int32))] [(.ref lev), (.int (1 : Int32)), (.ref la)])) rfl rfl (hb hby d4_119)
    have V77 : Arv Z h77 la kl (.object "com/example/tenorbook/tenorbook/engine/Level") (4 : Int32) [(.ref l0), (.ref lev), (.ref l1), .null] .null := Arv.set Ar77 q77 S77 Ng77 H77 Gf77 rfl W77 1 rfl (Nat.le_of_ble_eq_true rfl)
    have z77 : h77.size = h73.size := W77.size
    have N77 := Fr.snoc X77 N73 (by omega)
    have K77 : Keep h0 h77 [self, ta, la, lev] := K73.wr W77 (Or.inl (List.mem_of_getElem? (i := 2) rfl))
    refine Comes.st st77 ?_
    show Comes p e below _ (T77.setTop (mkF m 120 #[.val (.ref self), .val (.ref lev), .val (.int (1 : Int32))] []))
    refine Comes.st (fun t k => XS.aloadN X77.here hx rfl (hb hby d4_120) rfl rfl (XS.aloadN X77.here hx rfl (hb hby d4_121) rfl rfl k)) ?_
    show Comes p e below _ (T77.setTop (mkF m 122 #[.val (.ref self), .val (.ref lev), .val (.int (1 : Int32))] [(.ref self), (.ref lev)]))
    have F79 : Exa Z h77 lev "com/example/tenorbook/tenorbook/engine/Level" := (F78.wr W77)
    have F80 : Fld Z h77 lev "com/example/tenorbook/tenorbook/engine/Level" "ladder" "Lcom/example/tenorbook/tenorbook/engine/Ladder;" .null := ((((G10.keep Kq58 (ninS G20 nin0)).keep Kq66 (ninS G21 nin0)).other W73 (Or.inl G20)).other W77 (Or.inl G21))
    obtain ⟨T81, h81, X81, e81, W81, st81⟩ := putF X77 hx hZ hown (host := "") (Or.inl (hw _ (List.mem_of_getElem? (i := 50) rfl))) Via.refl e77 F80 F79 (Or.inl (hw _ (List.mem_of_getElem? (i := 51) rfl))) (hw _ (List.mem_of_getElem? (i := 19) rfl)) (ty := (.object "com/example/tenorbook/tenorbook/engine/Ladder")) (by decide) rfl rfl (g := (mkF m 122 #[.val (.ref self), .val (.ref lev), .val (.int (1 : Int32))] [(.ref self), (.ref lev)])) rfl rfl (hb hby d4_122)
    have Fw81 := F80.same W81
    have z81 : h81.size = h77.size := W81.size
    have N81 := Fr.snoc X81 N77 (by omega)
    have K81 : Keep h0 h81 [self, ta, la, lev] := K77.wr W81 (Or.inl (List.mem_of_getElem? (i := 3) rfl))
    refine Comes.st st81 ?_
    show Comes p e below _ (T81.setTop (mkF m 125 #[.val (.ref self), .val (.ref lev), .val (.int (1 : Int32))] []))
    refine Comes.st (fun t k => XS.aloadN X81.here hx rfl (hb hby d4_125) rfl rfl (XS.dup X81.here hx rfl (hb hby d4_126) rfl rfl k)) ?_
    show Comes p e below _ (T81.setTop (mkF m 127 #[.val (.ref self), .val (.ref lev), .val (.int (1 : Int32))] [(.ref self), (.ref self)]))
    have F82 : Fld Z h81 self "com/example/tenorbook/tenorbook/engine/Ladder" "count" "I" (.int (2 : Int32)) := ((((F62.keep Kq66 (ninS (Ne.symm G17) nin0)).other W73 (Or.inl (Ne.symm G16))).other W77 (Or.inl (Ne.symm G17))).other W81 (Or.inl (Ne.symm G19)))
    obtain ⟨T83, X83, e83, st83⟩ := getF X81 hx hZ hown (host := "") (Or.inl (hw _ (List.mem_of_getElem? (i := 43) rfl))) Via.refl e81 F82 (g := (mkF m 127 #[.val (.ref self), .val (.ref lev), .val (.int (1 : Int32))] [(.ref self), (.ref self)])) rfl rfl (hb hby d4_127)
    refine Comes.st st83 ?_
    show Comes p e below _ (T83.setTop (mkF m 130 #[.val (.ref self), .val (.ref lev), .val (.int (1 : Int32))] [(.int (2 : Int32)), (.ref self)]))
    refine Comes.st (fun t k => XS.iconst X83.here hx rfl (hb hby d4_130) (XS.iadd X83.here hx rfl (hb hby d4_131) rfl k)) ?_
    show Comes p e below _ (T83.setTop (mkF m 132 #[.val (.ref self), .val (.ref lev), .val (.int (1 : Int32))] [(.int ((2 : Int32) + (1 : Int32))), (.ref self)]))
    rw [show ((2 : Int32) + (1 : Int32)) = (3 : Int32) from by decide]
    show Comes p e below _ (T83.setTop (mkF m 132 #[.val (.ref self), .val (.ref lev), .val (.int (1 : Int32))] [(.int (3 : Int32)), (.ref self)]))
    have F84 : Exa Z h81 self "com/example/tenorbook/tenorbook/engine/Ladder" := (((((G0.keep Kq58).keep Kq66).wr W73).wr W77).wr W81)
    obtain ⟨T85, h85, X85, e85, W85, st85⟩ := putF X83 hx hZ hown (host := "") (Or.inl (hw _ (List.mem_of_getElem? (i := 43) rfl))) Via.refl e83 F82 F84 (Or.inl (hw _ (List.mem_of_getElem? (i := 44) rfl))) (hw _ (List.mem_of_getElem? (i := 1) rfl)) (ty := .int) (by decide) rfl rfl (g := (mkF m 132 #[.val (.ref self), .val (.ref lev), .val (.int (1 : Int32))] [(.int (3 : Int32)), (.ref self)])) rfl rfl (hb hby d4_132)
    have Fw85 := F82.same W85
    have z85 : h85.size = h81.size := W85.size
    have N85 := Fr.snoc X85 N81 (by omega)
    have K85 : Keep h0 h85 [self, ta, la, lev] := K81.wr W85 (Or.inl (List.mem_of_getElem? (i := 0) rfl))
    refine Comes.st st85 ?_
    show Comes p e below _ (T85.setTop (mkF m 135 #[.val (.ref self), .val (.ref lev), .val (.int (1 : Int32))] []))
    have F86 : Exa Z h85 self "com/example/tenorbook/tenorbook/engine/Ladder" := (F84.wr W85)
    have F87 : Fld Z h85 self "com/example/tenorbook/tenorbook/engine/Ladder" "ticks" "[J" (.ref ta) := ((((F67.other W73 (Or.inl (Ne.symm G16))).other W77 (Or.inl (Ne.symm G17))).other W81 (Or.inl (Ne.symm G19))).other W85 (Or.inr (slot_ne (Or.inl (hw _ (List.mem_of_getElem? (i := 11) rfl))) (Or.inl (hw _ (List.mem_of_getElem? (i := 44) rfl))) (by decide) (t := (.array .long)) (t' := .int) (by decide) (by decide))))
    have F88 : Fld Z h85 self "com/example/tenorbook/tenorbook/engine/Ladder" "levels" "[Lcom/example/tenorbook/tenorbook/engine/Level;" (.ref la) := (((F74.other W77 (Or.inl (Ne.symm G17))).other W81 (Or.inl (Ne.symm G19))).other W85 (Or.inr (slot_ne (Or.inl (hw _ (List.mem_of_getElem? (i := 15) rfl))) (Or.inl (hw _ (List.mem_of_getElem? (i := 44) rfl))) (by decide) (t := (.array (.object "com/example/tenorbook/tenorbook/engine/Level"))) (t' := .int) (by decide) (by decide))))
    have F89 : Fld Z h85 self "com/example/tenorbook/tenorbook/engine/Ladder" "lowestBest" "Z" (.int lbv) := ((((((G3.keep Kq58 (ninS (Ne.symm G16) nin0)).keep Kq66 (ninS (Ne.symm G17) nin0)).other W73 (Or.inl (Ne.symm G16))).other W77 (Or.inl (Ne.symm G17))).other W81 (Or.inl (Ne.symm G19))).other W85 (Or.inr (slot_ne (Or.inr (hw _ (List.mem_of_getElem? (i := 17) rfl))) (Or.inl (hw _ (List.mem_of_getElem? (i := 44) rfl))) (by decide) (t := .boolean) (t' := .int) (by decide) (by decide))))
    have F90 : Arv Z h85 ta kt .long (4 : Int32) [(.long x0), (.long xx), (.long x1), (.long (0 : Int64))] (.long (0 : Int64)) := (((V73.other W77 (Ne.symm G18)).other W81 (Ne.symm G20)).other W85 G16)
    have F91 : Arv Z h85 la kl (.object "com/example/tenorbook/tenorbook/engine/Level") (4 : Int32) [(.ref l0), (.ref lev), (.ref l1), .null] .null := ((V77.other W81 (Ne.symm G21)).other W85 G17)
    have F92 : Exa Z h85 lev "com/example/tenorbook/tenorbook/engine/Level" := ((F79.wr W81).wr W85)
    have F93 : Fld Z h85 lev "com/example/tenorbook/tenorbook/engine/Level" "ticks" "J" (.long xx) := ((((F69.other W73 (Or.inl G20)).other W77 (Or.inl G21)).other W81 (Or.inr (slot_ne (Or.inr (hw _ (List.mem_of_getElem? (i := 26) rfl))) (Or.inl (hw _ (List.mem_of_getElem? (i := 51) rfl))) (by decide) (t := .long) (t' := (.object "com/example/tenorbook/tenorbook/engine/Ladder")) (by decide) (by decide)))).other W85 (Or.inl G19))
    have F94 : Fld Z h85 lev "com/example/tenorbook/tenorbook/engine/Level" "ladder" "Lcom/example/tenorbook/tenorbook/engine/Ladder;" (.ref self) := (Fw81.other W85 (Or.inl G19))
    have F95 : Exa Z h85 l0 "com/example/tenorbook/tenorbook/engine/Level" := ((((((G11.keep Kq58).keep Kq66).wr W73).wr W77).wr W81).wr W85)
    have F96 : Exa Z h85 l1 "com/example/tenorbook/tenorbook/engine/Level" := (((((F65.keep Kq66).wr W73).wr W77).wr W81).wr W85)
    exact Comes.ret0 X85 hx Bd.returns hlk (hb hby d4_135) e85 ⟨x0, xx, x1, l0, lev, l1, rfl, N85, K85, F86, F87, F88, F89, Fw85, F90, F91, G7, F92, F93, F94, F95, F92, F96, (by exact (Or.inr (Or.inl ⟨(by first | assumption | omega), (by first | assumption | omega), rfl, rfl, rfl, rfl, rfl, rfl, rfl, rfl, rfl⟩))), (by first | assumption | omega), (by first | assumption | omega)⟩ (by decide) (by decide)
  · show Comes p e below _ (T2.setTop (mkF m 8 #[.val (.ref self), .val (.ref lev), .unset] [(.int (-3 : Int32))]))
    refine Comes.st (fun t k => XS.ineg X2.here hx rfl (hb hby d4_8) rfl k) ?_
    show Comes p e below _ (T2.setTop (mkF m 9 #[.val (.ref self), .val (.ref lev), .unset] [(.int (-(-3 : Int32)))]))
    rw [show (-(-3 : Int32)) = (3 : Int32) from by decide]
    show Comes p e below _ (T2.setTop (mkF m 9 #[.val (.ref self), .val (.ref lev), .unset] [(.int (3 : Int32))]))
    refine Comes.st (fun t k => XS.iconst X2.here hx rfl (hb hby d4_9) (XS.isub X2.here hx rfl (hb hby d4_10) rfl k)) ?_
    show Comes p e below _ (T2.setTop (mkF m 11 #[.val (.ref self), .val (.ref lev), .unset] [(.int ((3 : Int32) - (1 : Int32)))]))
    rw [show ((3 : Int32) - (1 : Int32)) = (2 : Int32) from by decide]
    show Comes p e below _ (T2.setTop (mkF m 11 #[.val (.ref self), .val (.ref lev), .unset] [(.int (2 : Int32))]))
    refine Comes.st (fun t k => XS.istoreN X2.here hx rfl (hb hby d4_11) rfl (l' := #[.val (.ref self), .val (.ref lev), .val (.int (2 : Int32))]) rfl (XS.aloadN X2.here hx rfl (hb hby d4_12) rfl rfl k)) ?_
    show Comes p e below _ (T2.setTop (mkF m 13 #[.val (.ref self), .val (.ref lev), .val (.int (2 : Int32))] [(.ref self)]))
    obtain ⟨T97, X97, e97, st97⟩ := getF X2 hx hZ hown (host := "") (Or.inl (hw _ (List.mem_of_getElem? (i := 43) rfl))) Via.refl hs2 G4 (g := (mkF m 13 #[.val (.ref self), .val (.ref lev), .val (.int (2 : Int32))] [(.ref self)])) rfl rfl (hb hby d4_13)
    refine Comes.st st97 ?_
    show Comes p e below _ (T97.setTop (mkF m 16 #[.val (.ref self), .val (.ref lev), .val (.int (2 : Int32))] [(.int (2 : Int32))]))
    refine Comes.st (fun t k => XS.aloadN X97.here hx rfl (hb hby d4_16) rfl rfl k) ?_
    show Comes p e below _ (T97.setTop (mkF m 17 #[.val (.ref self), .val (.ref lev), .val (.int (2 : Int32))] [(.ref self), (.int (2 : Int32))]))
    obtain ⟨T98, X98, e98, st98⟩ := getF X97 hx hZ hown (host := "") (Or.inl (hw _ (List.mem_of_getElem? (i := 14) rfl))) Via.refl e97 G2 (g := (mkF m 17 #[.val (.ref self), .val (.ref lev), .val (.int (2 : Int32))] [(.ref self), (.int (2 : Int32))])) rfl rfl (hb hby d4_17)
    refine Comes.st st98 ?_
    show Comes p e below _ (T98.setTop (mkF m 20 #[.val (.ref self), .val (.ref lev), .val (.int (2 : Int32))] [(.ref la), (.int (2 : Int32))]))
    obtain ⟨cl99, Ar99, -, S99, Ng99, -, -⟩ := id G6
    refine Comes.st (fun t k => X98.arraylength hx (by rw [e98]; exact Ar99.1) (State.isArrayOf_alike hZ.alike Ar99.2.1) (g := (mkF m 20 #[.val (.ref self), .val (.ref lev), .val (.int (2 : Int32))] [(.ref la), (.int (2 : Int32))])) rfl rfl (hb hby d4_20) _ k) ?_
    rw [len_of S99 Ng99]
    show Comes p e below _ (T98.setTop (mkF m 21 #[.val (.ref self), .val (.ref lev), .val (.int (2 : Int32))] [(.int (4 : Int32)), (.int (2 : Int32))]))
    have hc21_100 : ¬ ((2 : Int32) = (4 : Int32)) := by decide
    refine Comes.st (fun t k => XS.icmpYes X98.here hx rfl (pc0 := 21) (pc' := 61) rfl (hb hby d4_21) rfl (feq hc21_100).2 (by decide) (by decide) (XS.aloadN X98.here hx rfl (hb hby d4_61) rfl rfl k)) ?_
    show Comes p e below _ (T98.setTop (mkF m 62 #[.val (.ref self), .val (.ref lev), .val (.int (2 : Int32))] [(.ref self)]))
    obtain ⟨T101, X101, e101, st101⟩ := getF X98 hx hZ hown (host := "") (Or.inl (hw _ (List.mem_of_getElem? (i := 10) rfl))) Via.refl e98 G1 (g := (mkF m 62 #[.val (.ref self), .val (.ref lev), .val (.int (2 : Int32))] [(.ref self)])) rfl rfl (hb hby d4_62)
    refine Comes.st st101 ?_
    show Comes p e below _ (T101.setTop (mkF m 65 #[.val (.ref self), .val (.ref lev), .val (.int (2 : Int32))] [(.ref ta)]))
    refine Comes.st (fun t k => XS.iloadN X101.here hx rfl (hb hby d4_65) rfl (XS.aloadN X101.here hx rfl (hb hby d4_66) rfl rfl k)) ?_
    show Comes p e below _ (T101.setTop (mkF m 67 #[.val (.ref self), .val (.ref lev), .val (.int (2 : Int32))] [(.ref self), (.int (2 : Int32)), (.ref ta)]))
    obtain ⟨T102, X102, e102, st102⟩ := getF X101 hx hZ hown (host := "") (Or.inl (hw _ (List.mem_of_getElem? (i := 10) rfl))) Via.refl e101 G1 (g := (mkF m 67 #[.val (.ref self), .val (.ref lev), .val (.int (2 : Int32))] [(.ref self), (.int (2 : Int32)), (.ref ta)])) rfl rfl (hb hby d4_67)
    refine Comes.st st102 ?_
    show Comes p e below _ (T102.setTop (mkF m 70 #[.val (.ref self), .val (.ref lev), .val (.int (2 : Int32))] [(.ref ta), (.int (2 : Int32)), (.ref ta)]))
    refine Comes.st (fun t k => XS.iloadN X102.here hx rfl (hb hby d4_70) rfl (XS.iconst X102.here hx rfl (hb hby d4_71) (XS.iadd X102.here hx rfl (hb hby d4_72) rfl k))) ?_
    show Comes p e below _ (T102.setTop (mkF m 73 #[.val (.ref self), .val (.ref lev), .val (.int (2 : Int32))] [(.int ((2 : Int32) + (1 : Int32))), (.ref ta), (.int (2 : Int32)), (.ref ta)]))
    rw [show ((2 : Int32) + (1 : Int32)) = (3 : Int32) from by decide]
    show Comes p e below _ (T102.setTop (mkF m 73 #[.val (.ref self), .val (.ref lev), .val (.int (2 : Int32))] [(.int (3 : Int32)), (.ref ta), (.int (2 : Int32)), (.ref ta)]))
    refine Comes.st (fun t k => XS.aloadN X102.here hx rfl (hb hby d4_73) rfl rfl k) ?_
    show Comes p e below _ (T102.setTop (mkF m 74 #[.val (.ref self), .val (.ref lev), .val (.int (2 : Int32))] [(.ref self), (.int (3 : Int32)), (.ref ta), (.int (2 : Int32)), (.ref ta)]))
    obtain ⟨T103, X103, e103, st103⟩ := getF X102 hx hZ hown (host := "") (Or.inl (hw _ (List.mem_of_getElem? (i := 43) rfl))) Via.refl e102 G4 (g := (mkF m 74 #[.val (.ref self), .val (.ref lev), .val (.int (2 : Int32))] [(.ref self), (.int (3 : Int32)), (.ref ta), (.int (2 : Int32)), (.ref ta)])) rfl rfl (hb hby d4_74)
    refine Comes.st st103 ?_
    show Comes p e below _ (T103.setTop (mkF m 77 #[.val (.ref self), .val (.ref lev), .val (.int (2 : Int32))] [(.int (2 : Int32)), (.int (3 : Int32)), (.ref ta), (.int (2 : Int32)), (.ref ta)]))
    refine Comes.st (fun t k => XS.iloadN X103.here hx rfl (hb hby d4_77) rfl (XS.isub X103.here hx rfl (hb hby d4_78) rfl k)) ?_
    show Comes p e below _ (T103.setTop (mkF m 79 #[.val (.ref self), .val (.ref lev), .val (.int (2 : Int32))] [(.int ((2 : Int32) - (2 : Int32))), (.int (3 : Int32)), (.ref ta), (.int (2 : Int32)), (.ref ta)]))
    rw [show ((2 : Int32) - (2 : Int32)) = (0 : Int32) from by decide]
    show Comes p e below _ (T103.setTop (mkF m 79 #[.val (.ref self), .val (.ref lev), .val (.int (2 : Int32))] [(.int (0 : Int32)), (.int (3 : Int32)), (.ref ta), (.int (2 : Int32)), (.ref ta)]))
    obtain ⟨T104, h104, L104, X104, e104, N104, Kq104, V104, st104⟩ := cpA X103 hx hZ hown (hw _ (List.mem_of_getElem? (i := 45) rfl)) (hw _ (List.mem_of_getElem? (i := 48) rfl)) (hw _ (List.mem_of_getElem? (i := 46) rfl)) (hw _ (List.mem_of_getElem? (i := 47) rfl)) e103 (us := []) G5 G5 (Or.inl ⟨rfl, rfl⟩) (by decide) (by decide) (by decide) (by decide) (by decide) rfl (Nat.le_of_ble_eq_true rfl) N2 (by omega) (g := (mkF m 79 #[.val (.ref self), .val (.ref lev), .val (.int (2 : Int32))] [(.int (0 : Int32)), (.int (3 : Int32)), (.ref ta), (.int (2 : Int32)), (.ref ta)])) rfl (by rw [hml]; rfl) (rest := []) rfl (hb hby d4_79) (by decide) (W := 0) (by show 2 * 0 + _ ≤ _; exact Nat.le_of_eq rfl) (by decide)
    have z104 : h0.size ≤ h104.size := Kq104.1
    have K104 : Keep h0 h104 [self, ta, la, lev] := K0.trans Kq104 (allS (Or.inl (List.mem_of_getElem? (i := 1) rfl)) all0)
    have V104' : Arv Z h104 ta kt .long (4 : Int32) [(.long x0), (.long x1), (.long (0 : Int64)), (.long (0 : Int64))] (.long (0 : Int64)) := V104
    refine Comes.st st104 ?_
    show Comes p e below _ (T104.setTop (mkF m 82 #[.val (.ref self), .val (.ref lev), .val (.int (2 : Int32))] []))
    refine Comes.st (fun t k => XS.aloadN X104.here hx rfl (hb hby d4_82) rfl rfl k) ?_
    show Comes p e below _ (T104.setTop (mkF m 83 #[.val (.ref self), .val (.ref lev), .val (.int (2 : Int32))] [(.ref self)]))
    have F105 : Fld Z h104 self "com/example/tenorbook/tenorbook/engine/Ladder" "levels" "[Lcom/example/tenorbook/tenorbook/engine/Level;" (.ref la) := (G2.keep Kq104 (ninS (Ne.symm G16) nin0))
    obtain ⟨T106, X106, e106, st106⟩ := getF X104 hx hZ hown (host := "") (Or.inl (hw _ (List.mem_of_getElem? (i := 14) rfl))) Via.refl e104 F105 (g := (mkF m 83 #[.val (.ref self), .val (.ref lev), .val (.int (2 : Int32))] [(.ref self)])) rfl rfl (hb hby d4_83)
    refine Comes.st st106 ?_
    show Comes p e below _ (T106.setTop (mkF m 86 #[.val (.ref self), .val (.ref lev), .val (.int (2 : Int32))] [(.ref la)]))
    refine Comes.st (fun t k => XS.iloadN X106.here hx rfl (hb hby d4_86) rfl (XS.aloadN X106.here hx rfl (hb hby d4_87) rfl rfl k)) ?_
    show Comes p e below _ (T106.setTop (mkF m 88 #[.val (.ref self), .val (.ref lev), .val (.int (2 : Int32))] [(.ref self), (.int (2 : Int32)), (.ref la)]))
    obtain ⟨T107, X107, e107, st107⟩ := getF X106 hx hZ hown (host := "") (Or.inl (hw _ (List.mem_of_getElem? (i := 14) rfl))) Via.refl e106 F105 (g := (mkF m 88 #[.val (.ref self), .val (.ref lev), .val (.int (2 : Int32))] [(.ref self), (.int (2 : Int32)), (.ref la)])) rfl rfl (hb hby d4_88)
    refine Comes.st st107 ?_
    show Comes p e below _ (T107.setTop (mkF m 91 #[.val (.ref self), .val (.ref lev), .val (.int (2 : Int32))] [(.ref la), (.int (2 : Int32)), (.ref la)]))
    refine Comes.st (fun t k => XS.iloadN X107.here hx rfl (hb hby d4_91) rfl (XS.iconst X107.here hx rfl (hb hby d4_92) (XS.iadd X107.here hx rfl (hb hby d4_93) rfl k))) ?_
    show Comes p e below _ (T107.setTop (mkF m 94 #[.val (.ref self), .val (.ref lev), .val (.int (2 : Int32))] [(.int ((2 : Int32) + (1 : Int32))), (.ref la), (.int (2 : Int32)), (.ref la)]))
    rw [show ((2 : Int32) + (1 : Int32)) = (3 : Int32) from by decide]
    show Comes p e below _ (T107.setTop (mkF m 94 #[.val (.ref self), .val (.ref lev), .val (.int (2 : Int32))] [(.int (3 : Int32)), (.ref la), (.int (2 : Int32)), (.ref la)]))
    refine Comes.st (fun t k => XS.aloadN X107.here hx rfl (hb hby d4_94) rfl rfl k) ?_
    show Comes p e below _ (T107.setTop (mkF m 95 #[.val (.ref self), .val (.ref lev), .val (.int (2 : Int32))] [(.ref self), (.int (3 : Int32)), (.ref la), (.int (2 : Int32)), (.ref la)]))
    have F108 : Fld Z h104 self "com/example/tenorbook/tenorbook/engine/Ladder" "count" "I" (.int (2 : Int32)) := (G4.keep Kq104 (ninS (Ne.symm G16) nin0))
    obtain ⟨T109, X109, e109, st109⟩ := getF X107 hx hZ hown (host := "") (Or.inl (hw _ (List.mem_of_getElem? (i := 43) rfl))) Via.refl e107 F108 (g := (mkF m 95 #[.val (.ref self), .val (.ref lev), .val (.int (2 : Int32))] [(.ref self), (.int (3 : Int32)), (.ref la), (.int (2 : Int32)), (.ref la)])) rfl rfl (hb hby d4_95)
    refine Comes.st st109 ?_
    show Comes p e below _ (T109.setTop (mkF m 98 #[.val (.ref self), .val (.ref lev), .val (.int (2 : Int32))] [(.int (2 : Int32)), (.int (3 : Int32)), (.ref la), (.int (2 : Int32)), (.ref la)]))
    refine Comes.st (fun t k => XS.iloadN X109.here hx rfl (hb hby d4_98) rfl (XS.isub X109.here hx rfl (hb hby d4_99) rfl k)) ?_
    show Comes p e below _ (T109.setTop (mkF m 100 #[.val (.ref self), .val (.ref lev), .val (.int (2 : Int32))] [(.int ((2 : Int32) - (2 : Int32))), (.int (3 : Int32)), (.ref la), (.int (2 : Int32)), (.ref la)]))
    rw [show ((2 : Int32) - (2 : Int32)) = (0 : Int32) from by decide]
    show Comes p e below _ (T109.setTop (mkF m 100 #[.val (.ref self), .val (.ref lev), .val (.int (2 : Int32))] [(.int (0 : Int32)), (.int (3 : Int32)), (.ref la), (.int (2 : Int32)), (.ref la)]))
    have F110 : Arv Z h104 la kl (.object "com/example/tenorbook/tenorbook/engine/Level") (4 : Int32) [(.ref l0), (.ref l1), .null, .null] .null := (G6.keep Kq104 (ninS G18 nin0))
    obtain ⟨T111, h111, L111, X111, e111, N111, Kq111, V111, st111⟩ := cpA X109 hx hZ hown (hw _ (List.mem_of_getElem? (i := 45) rfl)) (hw _ (List.mem_of_getElem? (i := 48) rfl)) (hw _ (List.mem_of_getElem? (i := 46) rfl)) (hw _ (List.mem_of_getElem? (i := 47) rfl)) e109 (us := []) F110 F110 (Or.inr ⟨rfl, rfl, trivial⟩) (by decide) (by decide) (by decide) (by decide) (by decide) rfl (Nat.le_of_ble_eq_true rfl) N104 (by omega) (g := (mkF m 100 #[.val (.ref self), .val (.ref lev), .val (.int (2 : Int32))] [(.int (0 : Int32)), (.int (3 : Int32)), (.ref la), (.int (2 : Int32)), (.ref la)])) rfl (by rw [hml]; rfl) (rest := []) rfl (hb hby d4_100) (by decide) (W := 0) (by show 2 * 0 + _ ≤ _; exact Nat.le_of_eq rfl) (by decide)
    have z111 : h104.size ≤ h111.size := Kq111.1
    have K111 : Keep h0 h111 [self, ta, la, lev] := K104.trans Kq111 (allS (Or.inl (List.mem_of_getElem? (i := 2) rfl)) all0)
    have V111' : Arv Z h111 la kl (.object "com/example/tenorbook/tenorbook/engine/Level") (4 : Int32) [(.ref l0), (.ref l1), .null, .null] .null := V111
    refine Comes.st st111 ?_
    show Comes p e below _ (T111.setTop (mkF m 103 #[.val (.ref self), .val (.ref lev), .val (.int (2 : Int32))] []))
    refine Comes.st (fun t k => XS.aloadN X111.here hx rfl (hb hby d4_103) rfl rfl k) ?_
    show Comes p e below _ (T111.setTop (mkF m 104 #[.val (.ref self), .val (.ref lev), .val (.int (2 : Int32))] [(.ref self)]))
    have F112 : Fld Z h111 self "com/example/tenorbook/tenorbook/engine/Ladder" "ticks" "[J" (.ref ta) := ((G1.keep Kq104 (ninS (Ne.symm G16) nin0)).keep Kq111 (ninS (Ne.symm G17) nin0))
    obtain ⟨T113, X113, e113, st113⟩ := getF X111 hx hZ hown (host := "") (Or.inl (hw _ (List.mem_of_getElem? (i := 10) rfl))) Via.refl e111 F112 (g := (mkF m 104 #[.val (.ref self), .val (.ref lev), .val (.int (2 : Int32))] [(.ref self)])) rfl rfl (hb hby d4_104)
    refine Comes.st st113 ?_
    show Comes p e below _ (T113.setTop (mkF m 107 #[.val (.ref self), .val (.ref lev), .val (.int (2 : Int32))] [(.ref ta)]))
    refine Comes.st (fun t k => XS.iloadN X113.here hx rfl (hb hby d4_107) rfl (XS.aloadN X113.here hx rfl (hb hby d4_108) rfl rfl k)) ?_
    show Comes p e below _ (T113.setTop (mkF m 109 #[.val (.ref self), .val (.ref lev), .val (.int (2 : Int32))] [(.ref lev), (.int (2 : Int32)), (.ref ta)]))
    have F114 : Fld Z h111 lev "com/example/tenorbook/tenorbook/engine/Level" "ticks" "J" (.long xx) := ((G9.keep Kq104 (ninS G20 nin0)).keep Kq111 (ninS G21 nin0))
    have F116 : Exa Z h111 lev "com/example/tenorbook/tenorbook/engine/Level" := ((G8.keep Kq104).keep Kq111)
    obtain ⟨cq115, kq115, q115a, q115b, q115c⟩ := isOf hZ e113 F116
    obtain ⟨_, _, ⟨T115, L115, k115, n115⟩, -, X115, ⟨Lc115, hQ115, l115, y115, z115⟩, st115⟩ := X113.virtualBack hx (y := (⟨"com/example/tenorbook/tenorbook/engine/Level", "ticks", "()J"⟩ : MethodName)) (z := (⟨"com/example/tenorbook/tenorbook/engine/Level", "ticks", "()J"⟩ : MethodName)) hown (mvT hZ (hw _ (List.mem_of_getElem? (i := 34) rfl))) (mvT hZ (hw _ (List.mem_of_getElem? (i := 35) rfl))) (notFace_of_selects (args := #[]) (mvT hZ (hw _ (List.mem_of_getElem? (i := 37) rfl)))) (mvT hZ (hw _ (List.mem_of_getElem? (i := 37) rfl))) (mvT hZ (hw _ (List.mem_of_getElem? (i := 36) rfl))) (by decide) (backOf (W := 2) (rm5 l Z a0 hw [] lev xx h111 n0 (by omega)  F114) hZ (hw _ (List.mem_of_getElem? (i := 38) rfl)) (hw _ (List.mem_of_getElem? (i := 20) rfl)) (by decide) (by decide)) q115a q115c (g := (mkF m 109 #[.val (.ref self), .val (.ref lev), .val (.int (2 : Int32))] [(.ref lev), (.int (2 : Int32)), (.ref ta)])) rfl (by rw [hml]; rfl) (Steps.refl _) (argsL := []) (rest := [(.int (2 : Int32)), (.ref ta)]) (lenOf pd_1 rfl) rfl (by show 2 * 0 + _ ≤ _; exact Nat.le_of_eq rfl) (hb hby d4_109) (fun _ _ => ⟨rfl, e113, (by decide : 0 + 0 ≤ _), (by decide : 0 + 0 ≤ _)⟩)
    dsimp only [Pt.U, Pt.locs, Pt.cells, Pt.slots] at X115 l115 y115 z115 st115 hQ115
    subst l115 y115 z115
    obtain ⟨rfl, Nq115, hs115⟩ := hQ115
    have N115 := Fr.app N111 Nq115
    refine Comes.go st115 ?_
    show Comes p e below _ (T115.setTop (mkF m 112 #[.val (.ref self), .val (.ref lev), .val (.int (2 : Int32))] [(.long xx), (.int (2 : Int32)), (.ref ta)]))
    have F117 : Arv Z h111 ta kt .long (4 : Int32) [(.long x0), (.long x1), (.long (0 : Int64)), (.long (0 : Int64))] (.long (0 : Int64)) := (V104'.keep Kq111 (ninS (Ne.symm G18) nin0))
    obtain ⟨cl118, Ar118, q118, S118, Ng118, H118, Gf118⟩ := id F117
    have hin118 : ¬ ((2 : Int32) < 0 ∨ cl118.slots.size ≤ ((2 : Int32)).toNatClampNeg) := inb_of S118 ⟨by decide, by decide⟩
    obtain ⟨T118, h118, X118, e118, W118, st118⟩ := stJ X115 hx hZ hs115 Ar118 (j := (2 : Int32)) hin118 (g := (mkF m 112 #[.val (.ref self), .val (.ref lev), .val (.int (2 : Int32))] [(.long xx), (.int (2 : Int32)), (.ref ta)])) rfl rfl (hb hby d4_112)
    have V118 : Arv Z h118 ta kt .long (4 : Int32) [(.long x0), (.long x1), (.long xx), (.long (0 : Int64))] (.long (0 : Int64)) := Arv.set Ar118 q118 S118 Ng118 H118 Gf118 rfl W118 2 rfl (Nat.le_of_ble_eq_true rfl)
    have z118 : h118.size = h111.size := W118.size
    have N118 := Fr.snoc X118 N115 (by omega)
    have K118 : Keep h0 h118 [self, ta, la, lev] := K111.wr W118 (Or.inl (List.mem_of_getElem? (i := 1) rfl))
    refine Comes.st st118 ?_
    show Comes p e below _ (T118.setTop (mkF m 113 #[.val (.ref self), .val (.ref lev), .val (.int (2 : Int32))] []))
    refine Comes.st (fun t k => XS.aloadN X118.here hx rfl (hb hby d4_113) rfl rfl k) ?_
    show Comes p e below _ (T118.setTop (mkF m 114 #[.val (.ref self), .val (.ref lev), .val (.int (2 : Int32))] [(.ref self)]))
    have F119 : Fld Z h118 self "com/example/tenorbook/tenorbook/engine/Ladder" "levels" "[Lcom/example/tenorbook/tenorbook/engine/Level;" (.ref la) := ((F105.keep Kq111 (ninS (Ne.symm G17) nin0)).other W118 (Or.inl (Ne.symm G16)))
    obtain ⟨T120, X120, e120, st120⟩ := getF X118 hx hZ hown (host := "") (Or.inl (hw _ (List.mem_of_getElem? (i := 14) rfl))) Via.refl e118 F119 (g := (mkF m 114 #[.val (.ref self), .val (.ref lev), .val (.int (2 : Int32))] [(.ref self)])) rfl rfl (hb hby d4_114)
    refine Comes.st st120 ?_
    show Comes p e below _ (T120.setTop (mkF m 117 #[.val (.ref self), .val (.ref lev), .val (.int (2 : Int32))] [(.ref la)]))
    refine Comes.st (fun t k => XS.iloadN X120.here hx rfl (hb hby d4_117) rfl (XS.aloadN X120.here hx rfl (hb hby d4_118) rfl rfl k)) ?_
    show Comes p e below _ (T120.setTop (mkF m 119 #[.val (.ref self), .val (.ref lev), .val (.int (2 : Int32))] [(.ref lev), (.int (2 : Int32)), (.ref la)]))
    have F121 : Arv Z h118 la kl (.object "com/example/tenorbook/tenorbook/engine/Level") (4 : Int32) [(.ref l0), (.ref l1), .null, .null] .null := (V111'.other W118 G18)
    obtain ⟨cl122, Ar122, q122, S122, Ng122, H122, Gf122⟩ := id F121
    have hin122 : ¬ ((2 : Int32) < 0 ∨ cl122.slots.size ≤ ((2 : Int32)).toNatClampNeg) := inb_of S122 ⟨by decide, by decide⟩
    have F123 : Exa Z h118 lev "com/example/tenorbook/tenorbook/engine/Level" := (F116.wr W118)
    obtain ⟨T122, h122, X122, e122, W122, st122⟩ := stR X120 hx hZ e120 Ar122 (j := (2 : Int32)) hin122 rfl (Sto.ofV Ar122 q122 G7 (Ins.self F123)) (g := (mkF m 119 #[.val (.ref self), .val (.ref lev), .val (.int (2 : Int32))] [(.ref lev), (.int (2 : Int32)), (.ref la)])) rfl rfl (hb hby d4_119)
    have V122 : Arv Z h122 la kl (.object "com/example/tenorbook/tenorbook/engine/Level") (4 : Int32) [(.ref l0), (.ref l1), (.ref lev), .null] .null := Arv.set Ar122 q122 S122 Ng122 H122 Gf122 rfl W122 2 rfl (Nat.le_of_ble_eq_true rfl)
    have z122 : h122.size = h118.size := W122.size
    have N122 := Fr.snoc X122 N118 (by omega)
    have K122 : Keep h0 h122 [self, ta, la, lev] := K118.wr W122 (Or.inl (List.mem_of_getElem? (i := 2) rfl))
    refine Comes.st st122 ?_
    show Comes p e below _ (T122.setTop (mkF m 120 #[.val (.ref self), .val (.ref lev), .val (.int (2 : Int32))] []))
    refine Comes.st (fun t k => XS.aloadN X122.here hx rfl (hb hby d4_120) rfl rfl (XS.aloadN X122.here hx rfl (hb hby d4_121) rfl rfl k)) ?_
    show Comes p e below _ (T122.setTop (mkF m 122 #[.val (.ref self), .val (.ref lev), .val (.int (2 : Int32))] [(.ref self), (.ref lev)]))
    have F124 : Exa Z h122 lev "com/example/tenorbook/tenorbook/engine/Level" := (F123.wr W122)
    have F125 : Fld Z h122 lev "com/example/tenorbook/tenorbook/engine/Level" "ladder" "Lcom/example/tenorbook/tenorbook/engine/Ladder;" .null := ((((G10.keep Kq104 (ninS G20 nin0)).keep Kq111 (ninS G21 nin0)).other W118 (Or.inl G20)).other W122 (Or.inl G21))
    obtain ⟨T126, h126, X126, e126, W126, st126⟩ := putF X122 hx hZ hown (host := "") (Or.inl (hw _ (List.mem_of_getElem? (i := 50) rfl))) Via.refl e122 F125 F124 (Or.inl (hw _ (List.mem_of_getElem? (i := 51) rfl))) (hw _ (List.mem_of_getElem? (i := 19) rfl)) (ty := (.object "com/example/tenorbook/tenorbook/engine/Ladder")) (by decide) rfl rfl (g := (mkF m 122 #[.val (.ref self), .val (.ref lev), .val (.int (2 : Int32))] [(.ref self), (.ref lev)])) rfl rfl (hb hby d4_122)
    have Fw126 := F125.same W126
    have z126 : h126.size = h122.size := W126.size
    have N126 := Fr.snoc X126 N122 (by omega)
    have K126 : Keep h0 h126 [self, ta, la, lev] := K122.wr W126 (Or.inl (List.mem_of_getElem? (i := 3) rfl))
    refine Comes.st st126 ?_
    show Comes p e below _ (T126.setTop (mkF m 125 #[.val (.ref self), .val (.ref lev), .val (.int (2 : Int32))] []))
    refine Comes.st (fun t k => XS.aloadN X126.here hx rfl (hb hby d4_125) rfl rfl (XS.dup X126.here hx rfl (hb hby d4_126) rfl rfl k)) ?_
    show Comes p e below _ (T126.setTop (mkF m 127 #[.val (.ref self), .val (.ref lev), .val (.int (2 : Int32))] [(.ref self), (.ref self)]))
    have F127 : Fld Z h126 self "com/example/tenorbook/tenorbook/engine/Ladder" "count" "I" (.int (2 : Int32)) := ((((F108.keep Kq111 (ninS (Ne.symm G17) nin0)).other W118 (Or.inl (Ne.symm G16))).other W122 (Or.inl (Ne.symm G17))).other W126 (Or.inl (Ne.symm G19)))
    obtain ⟨T128, X128, e128, st128⟩ := getF X126 hx hZ hown (host := "") (Or.inl (hw _ (List.mem_of_getElem? (i := 43) rfl))) Via.refl e126 F127 (g := (mkF m 127 #[.val (.ref self), .val (.ref lev), .val (.int (2 : Int32))] [(.ref self), (.ref self)])) rfl rfl (hb hby d4_127)
    refine Comes.st st128 ?_
    show Comes p e below _ (T128.setTop (mkF m 130 #[.val (.ref self), .val (.ref lev), .val (.int (2 : Int32))] [(.int (2 : Int32)), (.ref self)]))
    refine Comes.st (fun t k => XS.iconst X128.here hx rfl (hb hby d4_130) (XS.iadd X128.here hx rfl (hb hby d4_131) rfl k)) ?_
    show Comes p e below _ (T128.setTop (mkF m 132 #[.val (.ref self), .val (.ref lev), .val (.int (2 : Int32))] [(.int ((2 : Int32) + (1 : Int32))), (.ref self)]))
    rw [show ((2 : Int32) + (1 : Int32)) = (3 : Int32) from by decide]
    show Comes p e below _ (T128.setTop (mkF m 132 #[.val (.ref self), .val (.ref lev), .val (.int (2 : Int32))] [(.int (3 : Int32)), (.ref self)]))
    have F129 : Exa Z h126 self "com/example/tenorbook/tenorbook/engine/Ladder" := (((((G0.keep Kq104).keep Kq111).wr W118).wr W122).wr W126)
    obtain ⟨T130, h130, X130, e130, W130, st130⟩ := putF X128 hx hZ hown (host := "") (Or.inl (hw _ (List.mem_of_getElem? (i := 43) rfl))) Via.refl e128 F127 F129 (Or.inl (hw _ (List.mem_of_getElem? (i := 44) rfl))) (hw _ (List.mem_of_getElem? (i := 1) rfl)) (ty := .int) (by decide) rfl rfl (g := (mkF m 132 #[.val (.ref self), .val (.ref lev), .val (.int (2 : Int32))] [(.int (3 : Int32)), (.ref self)])) rfl rfl (hb hby d4_132)
    have Fw130 := F127.same W130
    have z130 : h130.size = h126.size := W130.size
    have N130 := Fr.snoc X130 N126 (by omega)
    have K130 : Keep h0 h130 [self, ta, la, lev] := K126.wr W130 (Or.inl (List.mem_of_getElem? (i := 0) rfl))
    refine Comes.st st130 ?_
    show Comes p e below _ (T130.setTop (mkF m 135 #[.val (.ref self), .val (.ref lev), .val (.int (2 : Int32))] []))
    have F131 : Exa Z h130 self "com/example/tenorbook/tenorbook/engine/Ladder" := (F129.wr W130)
    have F132 : Fld Z h130 self "com/example/tenorbook/tenorbook/engine/Ladder" "ticks" "[J" (.ref ta) := ((((F112.other W118 (Or.inl (Ne.symm G16))).other W122 (Or.inl (Ne.symm G17))).other W126 (Or.inl (Ne.symm G19))).other W130 (Or.inr (slot_ne (Or.inl (hw _ (List.mem_of_getElem? (i := 11) rfl))) (Or.inl (hw _ (List.mem_of_getElem? (i := 44) rfl))) (by decide) (t := (.array .long)) (t' := .int) (by decide) (by decide))))
    have F133 : Fld Z h130 self "com/example/tenorbook/tenorbook/engine/Ladder" "levels" "[Lcom/example/tenorbook/tenorbook/engine/Level;" (.ref la) := (((F119.other W122 (Or.inl (Ne.symm G17))).other W126 (Or.inl (Ne.symm G19))).other W130 (Or.inr (slot_ne (Or.inl (hw _ (List.mem_of_getElem? (i := 15) rfl))) (Or.inl (hw _ (List.mem_of_getElem? (i := 44) rfl))) (by decide) (t := (.array (.object "com/example/tenorbook/tenorbook/engine/Level"))) (t' := .int) (by decide) (by decide))))
    have F134 : Fld Z h130 self "com/example/tenorbook/tenorbook/engine/Ladder" "lowestBest" "Z" (.int lbv) := ((((((G3.keep Kq104 (ninS (Ne.symm G16) nin0)).keep Kq111 (ninS (Ne.symm G17) nin0)).other W118 (Or.inl (Ne.symm G16))).other W122 (Or.inl (Ne.symm G17))).other W126 (Or.inl (Ne.symm G19))).other W130 (Or.inr (slot_ne (Or.inr (hw _ (List.mem_of_getElem? (i := 17) rfl))) (Or.inl (hw _ (List.mem_of_getElem? (i := 44) rfl))) (by decide) (t := .boolean) (t' := .int) (by decide) (by decide))))
    have F135 : Arv Z h130 ta kt .long (4 : Int32) [(.long x0), (.long x1), (.long xx), (.long (0 : Int64))] (.long (0 : Int64)) := (((V118.other W122 (Ne.symm G18)).other W126 (Ne.symm G20)).other W130 G16)
    have F136 : Arv Z h130 la kl (.object "com/example/tenorbook/tenorbook/engine/Level") (4 : Int32) [(.ref l0), (.ref l1), (.ref lev), .null] .null := ((V122.other W126 (Ne.symm G21)).other W130 G17)
    have F137 : Exa Z h130 lev "com/example/tenorbook/tenorbook/engine/Level" := ((F124.wr W126).wr W130)
    have F138 : Fld Z h130 lev "com/example/tenorbook/tenorbook/engine/Level" "ticks" "J" (.long xx) := ((((F114.other W118 (Or.inl G20)).other W122 (Or.inl G21)).other W126 (Or.inr (slot_ne (Or.inr (hw _ (List.mem_of_getElem? (i := 26) rfl))) (Or.inl (hw _ (List.mem_of_getElem? (i := 51) rfl))) (by decide) (t := .long) (t' := (.object "com/example/tenorbook/tenorbook/engine/Ladder")) (by decide) (by decide)))).other W130 (Or.inl G19))
    have F139 : Fld Z h130 lev "com/example/tenorbook/tenorbook/engine/Level" "ladder" "Lcom/example/tenorbook/tenorbook/engine/Ladder;" (.ref self) := (Fw126.other W130 (Or.inl G19))
    have F140 : Exa Z h130 l0 "com/example/tenorbook/tenorbook/engine/Level" := ((((((G11.keep Kq104).keep Kq111).wr W118).wr W122).wr W126).wr W130)
    have F141 : Exa Z h130 l1 "com/example/tenorbook/tenorbook/engine/Level" := ((((((G12.keep Kq104).keep Kq111).wr W118).wr W122).wr W126).wr W130)
    exact Comes.ret0 X130 hx Bd.returns hlk (hb hby d4_135) e130 ⟨x0, x1, xx, l0, l1, lev, rfl, N130, K130, F131, F132, F133, F134, Fw130, F135, F136, G7, F137, F138, F139, F140, F141, F137, (by exact (Or.inr (Or.inr ⟨(by first | assumption | omega), rfl, rfl, rfl, rfl, rfl, rfl, rfl, rfl, rfl⟩))), (by first | assumption | omega), (by first | assumption | omega)⟩ (by decide) (by decide)
def Q_best1 (Z : State) (self : Nat) (rk : Int32) (la : Nat) (kl : ClassId) (l0 : Nat) (h0 : Heap) (n0 : Nat) (v : Option Value) (h : Heap) (L : List Loc) : Prop := ∃ (r : Nat), (v = some (.ref r)) ∧ (Fr n0 L) ∧ (h = h0) ∧ ((rk = (0 : Int32) ∧ own_ad r = own_ad l0))
set_option maxRecDepth 65536 in
set_option maxHeartbeats 40000000 in
theorem best1 (l : Launch) (Z : State) (a0 : Array Value) (hw : ∀ d ∈ tables_1, d.before a0 Z = true) (ws : List Jvm.Cond) (self : Nat) (rk : Int32) (la : Nat) (kl : ClassId) (l0 : Nat) (h0 : Heap) (n0 : Nat) (Z0 : n0 ≤ h0.size) (G0 : Fld Z h0 self "com/example/tenorbook/tenorbook/engine/Ladder" "levels" "[Lcom/example/tenorbook/tenorbook/engine/Level;" (.ref la)) (G1 : Fld Z h0 self "com/example/tenorbook/tenorbook/engine/Ladder" "count" "I" (.int (1 : Int32))) (G2 : Arv Z h0 la kl (.object "com/example/tenorbook/tenorbook/engine/Level") (4 : Int32) [(.ref l0), .null, .null, .null] .null) (G3 : 0 ≤ rk.toInt ∧ rk.toInt < 1) :
    MetFree l (⟨"com/example/tenorbook/tenorbook/engine/Ladder", "best", "(I)Lcom/example/tenorbook/tenorbook/engine/Level;"⟩ : MethodName) (head1 (Jvm.Cond.code (⟨"com/example/tenorbook/tenorbook/engine/Ladder", "best", "(I)Lcom/example/tenorbook/tenorbook/engine/Level;"⟩ : MethodName) prog_9_method_4_code 2 (some (.object "com/example/tenorbook/tenorbook/engine/Level")) :: ws) ({ frames := 0, cells := 0, slots := 0, locals := 0 } : Room)) (fun a U => a = #[(.ref self), (.int rk)] ∧ Z.Warmed39 U.vm ∧ U.heap = h0) (fun _ _ _ _ _ => True) (fun _ U o U' => ∃ v L, o = .returned v ∧ Q_best1 Z self rk la kl l0 h0 n0 v U'.heap L ∧ FrameEnd U o U' L ({ frames := 0, cells := 0, slots := 0, locals := 0 } : Room).cells ({ frames := 0, cells := 0, slots := 0, locals := 0 } : Room).slots) := by
  refine MetFree.of_bodySF (plainFor_of_name pn_9) hisR ?_
  intro p e s m args below meth c s₁ Bd hml0 hP hK
  obtain ⟨rfl, hZ, hh⟩ := hP
  have hx := Bd.exec
  have hby := Bd.bytes
  have hml : c.maxLocals = 2 := hml0
  have hown : s.vm.findClass "com/example/tenorbook/tenorbook/engine/Ladder" = some m.cls := findClass_of_methodNamed Bd.named
  have hnm := (name_of_methodNamed Bd.named Bd.method).1
  have hlk : meth.locks = false := Bd.notSynchronized
  have X0 : Stand p l e ({ frames := 0, cells := 0, slots := 0, locals := 0 } : Room) s m #[(.ref self), (.int rk)] below meth c s₁ [] 0 0 := Stand.of_body Bd
  have e0 : s₁.heap = h0 := by rw [← hh, Bd.state]; rfl
  have N0 := Fr.nil n0
  refine Comes.out (Q := Q_best1 Z self rk la kl l0 h0 n0) (kc := ({ frames := 0, cells := 0, slots := 0, locals := 0 } : Room).cells) (ks := ({ frames := 0, cells := 0, slots := 0, locals := 0 } : Room).slots) ?_
  refine Comes.cast (ef_best1 m self rk) ?_
  have lt_self : self < h0.size := G0.lt
  have lt_la : la < h0.size := G2.lt
  have hsp1 : rk = (0 : Int32) := by have a := G3; simp only [← Int32.toInt_inj, Int32.reduceToInt]; omega
  rcases hsp1 with rfl
  · show Comes p e below _ (s₁.setTop (mkF m 0 #[.val (.ref self), .val (.int (0 : Int32))] []))
    refine Comes.st (fun t k => XS.aloadN X0.here hx rfl (hb hby d9_0) rfl rfl k) ?_
    show Comes p e below _ (s₁.setTop (mkF m 1 #[.val (.ref self), .val (.int (0 : Int32))] [(.ref self)]))
    obtain ⟨T2, X2, e2, st2⟩ := getF X0 hx hZ hown (host := "") (Or.inl (hw _ (List.mem_of_getElem? (i := 14) rfl))) Via.refl e0 G0 (g := (mkF m 1 #[.val (.ref self), .val (.int (0 : Int32))] [(.ref self)])) rfl rfl (hb hby d9_1)
    refine Comes.st st2 ?_
    show Comes p e below _ (T2.setTop (mkF m 4 #[.val (.ref self), .val (.int (0 : Int32))] [(.ref la)]))
    refine Comes.st (fun t k => XS.aloadN X2.here hx rfl (hb hby d9_4) rfl rfl k) ?_
    show Comes p e below _ (T2.setTop (mkF m 5 #[.val (.ref self), .val (.int (0 : Int32))] [(.ref self), (.ref la)]))
    obtain ⟨T3, X3, e3, st3⟩ := getF X2 hx hZ hown (host := "") (Or.inl (hw _ (List.mem_of_getElem? (i := 43) rfl))) Via.refl e2 G1 (g := (mkF m 5 #[.val (.ref self), .val (.int (0 : Int32))] [(.ref self), (.ref la)])) rfl rfl (hb hby d9_5)
    refine Comes.st st3 ?_
    show Comes p e below _ (T3.setTop (mkF m 8 #[.val (.ref self), .val (.int (0 : Int32))] [(.int (1 : Int32)), (.ref la)]))
    refine Comes.st (fun t k => XS.iconst X3.here hx rfl (hb hby d9_8) (XS.isub X3.here hx rfl (hb hby d9_9) rfl k)) ?_
    show Comes p e below _ (T3.setTop (mkF m 10 #[.val (.ref self), .val (.int (0 : Int32))] [(.int ((1 : Int32) - (1 : Int32))), (.ref la)]))
    rw [show ((1 : Int32) - (1 : Int32)) = (0 : Int32) from by decide]
    show Comes p e below _ (T3.setTop (mkF m 10 #[.val (.ref self), .val (.int (0 : Int32))] [(.int (0 : Int32)), (.ref la)]))
    refine Comes.st (fun t k => XS.iloadN X3.here hx rfl (hb hby d9_10) rfl (XS.isub X3.here hx rfl (hb hby d9_11) rfl k)) ?_
    show Comes p e below _ (T3.setTop (mkF m 12 #[.val (.ref self), .val (.int (0 : Int32))] [(.int ((0 : Int32) - (0 : Int32))), (.ref la)]))
    rw [show ((0 : Int32) - (0 : Int32)) = (0 : Int32) from by decide]
    show Comes p e below _ (T3.setTop (mkF m 12 #[.val (.ref self), .val (.int (0 : Int32))] [(.int (0 : Int32)), (.ref la)]))
    obtain ⟨cl4, Ar4, q4, S4, Ng4, H4, Gf4⟩ := id G2
    have hin4 : ¬ ((0 : Int32) < 0 ∨ cl4.slots.size ≤ ((0 : Int32)).toNatClampNeg) := inb_of S4 ⟨by decide, by decide⟩
    refine Comes.st (fun t k => X3.aaload hx (j := (0 : Int32)) (v := (.ref l0)) (by rw [e3]; exact Ar4.1) (State.isArrayOf_alike hZ.alike Ar4.2.1) rfl Ar4.2.2 hin4 (Has.at H4 hin4 rfl) (g := (mkF m 12 #[.val (.ref self), .val (.int (0 : Int32))] [(.int (0 : Int32)), (.ref la)])) rfl rfl (hb hby d9_12) _ k) ?_
    show Comes p e below _ (T3.setTop (mkF m 13 #[.val (.ref self), .val (.int (0 : Int32))] [(.ref l0)]))
    exact Comes.retV X3 hx Bd.returns (narrow_ref rfl) (Or.inr (Or.inr (Or.inr (Or.inr ⟨rfl, rfl, rfl⟩)))) hlk (hb hby d9_13) e3 ⟨l0, rfl, N0, rfl, (by exact ⟨rfl, rfl⟩)⟩ (by decide) (by decide)
def Q_best2 (Z : State) (self : Nat) (rk : Int32) (la : Nat) (kl : ClassId) (l0 : Nat) (l1 : Nat) (h0 : Heap) (n0 : Nat) (v : Option Value) (h : Heap) (L : List Loc) : Prop := ∃ (r : Nat), (v = some (.ref r)) ∧ (Fr n0 L) ∧ (h = h0) ∧ ((rk = (0 : Int32) ∧ own_ad r = own_ad l1) ∨ (rk = (1 : Int32) ∧ own_ad r = own_ad l0))
set_option maxRecDepth 65536 in
set_option maxHeartbeats 40000000 in
theorem best2 (l : Launch) (Z : State) (a0 : Array Value) (hw : ∀ d ∈ tables_1, d.before a0 Z = true) (ws : List Jvm.Cond) (self : Nat) (rk : Int32) (la : Nat) (kl : ClassId) (l0 : Nat) (l1 : Nat) (h0 : Heap) (n0 : Nat) (Z0 : n0 ≤ h0.size) (G0 : Fld Z h0 self "com/example/tenorbook/tenorbook/engine/Ladder" "levels" "[Lcom/example/tenorbook/tenorbook/engine/Level;" (.ref la)) (G1 : Fld Z h0 self "com/example/tenorbook/tenorbook/engine/Ladder" "count" "I" (.int (2 : Int32))) (G2 : Arv Z h0 la kl (.object "com/example/tenorbook/tenorbook/engine/Level") (4 : Int32) [(.ref l0), (.ref l1), .null, .null] .null) (G3 : 0 ≤ rk.toInt ∧ rk.toInt < 2) :
    MetFree l (⟨"com/example/tenorbook/tenorbook/engine/Ladder", "best", "(I)Lcom/example/tenorbook/tenorbook/engine/Level;"⟩ : MethodName) (head1 (Jvm.Cond.code (⟨"com/example/tenorbook/tenorbook/engine/Ladder", "best", "(I)Lcom/example/tenorbook/tenorbook/engine/Level;"⟩ : MethodName) prog_9_method_4_code 2 (some (.object "com/example/tenorbook/tenorbook/engine/Level")) :: ws) ({ frames := 0, cells := 0, slots := 0, locals := 0 } : Room)) (fun a U => a = #[(.ref self), (.int rk)] ∧ Z.Warmed39 U.vm ∧ U.heap = h0) (fun _ _ _ _ _ => True) (fun _ U o U' => ∃ v L, o = .returned v ∧ Q_best2 Z self rk la kl l0 l1 h0 n0 v U'.heap L ∧ FrameEnd U o U' L ({ frames := 0, cells := 0, slots := 0, locals := 0 } : Room).cells ({ frames := 0, cells := 0, slots := 0, locals := 0 } : Room).slots) := by
  refine MetFree.of_bodySF (plainFor_of_name pn_9) hisR ?_
  intro p e s m args below meth c s₁ Bd hml0 hP hK
  obtain ⟨rfl, hZ, hh⟩ := hP
  have hx := Bd.exec
  have hby := Bd.bytes
  have hml : c.maxLocals = 2 := hml0
  have hown : s.vm.findClass "com/example/tenorbook/tenorbook/engine/Ladder" = some m.cls := findClass_of_methodNamed Bd.named
  have hnm := (name_of_methodNamed Bd.named Bd.method).1
  have hlk : meth.locks = false := Bd.notSynchronized
  have X0 : Stand p l e ({ frames := 0, cells := 0, slots := 0, locals := 0 } : Room) s m #[(.ref self), (.int rk)] below meth c s₁ [] 0 0 := Stand.of_body Bd
  have e0 : s₁.heap = h0 := by rw [← hh, Bd.state]; rfl
  have N0 := Fr.nil n0
  refine Comes.out (Q := Q_best2 Z self rk la kl l0 l1 h0 n0) (kc := ({ frames := 0, cells := 0, slots := 0, locals := 0 } : Room).cells) (ks := ({ frames := 0, cells := 0, slots := 0, locals := 0 } : Room).slots) ?_
  refine Comes.cast (ef_best2 m self rk) ?_
  have lt_self : self < h0.size := G0.lt
  have lt_la : la < h0.size := G2.lt
  have hsp1 : rk = (0 : Int32) ∨ rk = (1 : Int32) := by have a := G3; simp only [← Int32.toInt_inj, Int32.reduceToInt]; omega
  rcases hsp1 with rfl | rfl
  · show Comes p e below _ (s₁.setTop (mkF m 0 #[.val (.ref self), .val (.int (0 : Int32))] []))
    refine Comes.st (fun t k => XS.aloadN X0.here hx rfl (hb hby d9_0) rfl rfl k) ?_
    show Comes p e below _ (s₁.setTop (mkF m 1 #[.val (.ref self), .val (.int (0 : Int32))] [(.ref self)]))
    obtain ⟨T2, X2, e2, st2⟩ := getF X0 hx hZ hown (host := "") (Or.inl (hw _ (List.mem_of_getElem? (i := 14) rfl))) Via.refl e0 G0 (g := (mkF m 1 #[.val (.ref self), .val (.int (0 : Int32))] [(.ref self)])) rfl rfl (hb hby d9_1)
    refine Comes.st st2 ?_
    show Comes p e below _ (T2.setTop (mkF m 4 #[.val (.ref self), .val (.int (0 : Int32))] [(.ref la)]))
    refine Comes.st (fun t k => XS.aloadN X2.here hx rfl (hb hby d9_4) rfl rfl k) ?_
    show Comes p e below _ (T2.setTop (mkF m 5 #[.val (.ref self), .val (.int (0 : Int32))] [(.ref self), (.ref la)]))
    obtain ⟨T3, X3, e3, st3⟩ := getF X2 hx hZ hown (host := "") (Or.inl (hw _ (List.mem_of_getElem? (i := 43) rfl))) Via.refl e2 G1 (g := (mkF m 5 #[.val (.ref self), .val (.int (0 : Int32))] [(.ref self), (.ref la)])) rfl rfl (hb hby d9_5)
    refine Comes.st st3 ?_
    show Comes p e below _ (T3.setTop (mkF m 8 #[.val (.ref self), .val (.int (0 : Int32))] [(.int (2 : Int32)), (.ref la)]))
    refine Comes.st (fun t k => XS.iconst X3.here hx rfl (hb hby d9_8) (XS.isub X3.here hx rfl (hb hby d9_9) rfl k)) ?_
    show Comes p e below _ (T3.setTop (mkF m 10 #[.val (.ref self), .val (.int (0 : Int32))] [(.int ((2 : Int32) - (1 : Int32))), (.ref la)]))
    rw [show ((2 : Int32) - (1 : Int32)) = (1 : Int32) from by decide]
    show Comes p e below _ (T3.setTop (mkF m 10 #[.val (.ref self), .val (.int (0 : Int32))] [(.int (1 : Int32)), (.ref la)]))
    refine Comes.st (fun t k => XS.iloadN X3.here hx rfl (hb hby d9_10) rfl (XS.isub X3.here hx rfl (hb hby d9_11) rfl k)) ?_
    show Comes p e below _ (T3.setTop (mkF m 12 #[.val (.ref self), .val (.int (0 : Int32))] [(.int ((1 : Int32) - (0 : Int32))), (.ref la)]))
    rw [show ((1 : Int32) - (0 : Int32)) = (1 : Int32) from by decide]
    show Comes p e below _ (T3.setTop (mkF m 12 #[.val (.ref self), .val (.int (0 : Int32))] [(.int (1 : Int32)), (.ref la)]))
    obtain ⟨cl4, Ar4, q4, S4, Ng4, H4, Gf4⟩ := id G2
    have hin4 : ¬ ((1 : Int32) < 0 ∨ cl4.slots.size ≤ ((1 : Int32)).toNatClampNeg) := inb_of S4 ⟨by decide, by decide⟩
    refine Comes.st (fun t k => X3.aaload hx (j := (1 : Int32)) (v := (.ref l1)) (by rw [e3]; exact Ar4.1) (State.isArrayOf_alike hZ.alike Ar4.2.1) rfl Ar4.2.2 hin4 (Has.at H4 hin4 rfl) (g := (mkF m 12 #[.val (.ref self), .val (.int (0 : Int32))] [(.int (1 : Int32)), (.ref la)])) rfl rfl (hb hby d9_12) _ k) ?_
    show Comes p e below _ (T3.setTop (mkF m 13 #[.val (.ref self), .val (.int (0 : Int32))] [(.ref l1)]))
    exact Comes.retV X3 hx Bd.returns (narrow_ref rfl) (Or.inr (Or.inr (Or.inr (Or.inr ⟨rfl, rfl, rfl⟩)))) hlk (hb hby d9_13) e3 ⟨l1, rfl, N0, rfl, (by exact (Or.inl ⟨rfl, rfl⟩))⟩ (by decide) (by decide)
  · show Comes p e below _ (s₁.setTop (mkF m 0 #[.val (.ref self), .val (.int (1 : Int32))] []))
    refine Comes.st (fun t k => XS.aloadN X0.here hx rfl (hb hby d9_0) rfl rfl k) ?_
    show Comes p e below _ (s₁.setTop (mkF m 1 #[.val (.ref self), .val (.int (1 : Int32))] [(.ref self)]))
    obtain ⟨T5, X5, e5, st5⟩ := getF X0 hx hZ hown (host := "") (Or.inl (hw _ (List.mem_of_getElem? (i := 14) rfl))) Via.refl e0 G0 (g := (mkF m 1 #[.val (.ref self), .val (.int (1 : Int32))] [(.ref self)])) rfl rfl (hb hby d9_1)
    refine Comes.st st5 ?_
    show Comes p e below _ (T5.setTop (mkF m 4 #[.val (.ref self), .val (.int (1 : Int32))] [(.ref la)]))
    refine Comes.st (fun t k => XS.aloadN X5.here hx rfl (hb hby d9_4) rfl rfl k) ?_
    show Comes p e below _ (T5.setTop (mkF m 5 #[.val (.ref self), .val (.int (1 : Int32))] [(.ref self), (.ref la)]))
    obtain ⟨T6, X6, e6, st6⟩ := getF X5 hx hZ hown (host := "") (Or.inl (hw _ (List.mem_of_getElem? (i := 43) rfl))) Via.refl e5 G1 (g := (mkF m 5 #[.val (.ref self), .val (.int (1 : Int32))] [(.ref self), (.ref la)])) rfl rfl (hb hby d9_5)
    refine Comes.st st6 ?_
    show Comes p e below _ (T6.setTop (mkF m 8 #[.val (.ref self), .val (.int (1 : Int32))] [(.int (2 : Int32)), (.ref la)]))
    refine Comes.st (fun t k => XS.iconst X6.here hx rfl (hb hby d9_8) (XS.isub X6.here hx rfl (hb hby d9_9) rfl k)) ?_
    show Comes p e below _ (T6.setTop (mkF m 10 #[.val (.ref self), .val (.int (1 : Int32))] [(.int ((2 : Int32) - (1 : Int32))), (.ref la)]))
    rw [show ((2 : Int32) - (1 : Int32)) = (1 : Int32) from by decide]
    show Comes p e below _ (T6.setTop (mkF m 10 #[.val (.ref self), .val (.int (1 : Int32))] [(.int (1 : Int32)), (.ref la)]))
    refine Comes.st (fun t k => XS.iloadN X6.here hx rfl (hb hby d9_10) rfl (XS.isub X6.here hx rfl (hb hby d9_11) rfl k)) ?_
    show Comes p e below _ (T6.setTop (mkF m 12 #[.val (.ref self), .val (.int (1 : Int32))] [(.int ((1 : Int32) - (1 : Int32))), (.ref la)]))
    rw [show ((1 : Int32) - (1 : Int32)) = (0 : Int32) from by decide]
    show Comes p e below _ (T6.setTop (mkF m 12 #[.val (.ref self), .val (.int (1 : Int32))] [(.int (0 : Int32)), (.ref la)]))
    obtain ⟨cl7, Ar7, q7, S7, Ng7, H7, Gf7⟩ := id G2
    have hin7 : ¬ ((0 : Int32) < 0 ∨ cl7.slots.size ≤ ((0 : Int32)).toNatClampNeg) := inb_of S7 ⟨by decide, by decide⟩
    refine Comes.st (fun t k => X6.aaload hx (j := (0 : Int32)) (v := (.ref l0)) (by rw [e6]; exact Ar7.1) (State.isArrayOf_alike hZ.alike Ar7.2.1) rfl Ar7.2.2 hin7 (Has.at H7 hin7 rfl) (g := (mkF m 12 #[.val (.ref self), .val (.int (1 : Int32))] [(.int (0 : Int32)), (.ref la)])) rfl rfl (hb hby d9_12) _ k) ?_
    show Comes p e below _ (T6.setTop (mkF m 13 #[.val (.ref self), .val (.int (1 : Int32))] [(.ref l0)]))
    exact Comes.retV X6 hx Bd.returns (narrow_ref rfl) (Or.inr (Or.inr (Or.inr (Or.inr ⟨rfl, rfl, rfl⟩)))) hlk (hb hby d9_13) e6 ⟨l0, rfl, N0, rfl, (by exact (Or.inr ⟨rfl, rfl⟩))⟩ (by decide) (by decide)
def Q_best3 (Z : State) (self : Nat) (rk : Int32) (la : Nat) (kl : ClassId) (l0 : Nat) (l1 : Nat) (l2 : Nat) (h0 : Heap) (n0 : Nat) (v : Option Value) (h : Heap) (L : List Loc) : Prop := ∃ (r : Nat), (v = some (.ref r)) ∧ (Fr n0 L) ∧ (h = h0) ∧ ((rk = (0 : Int32) ∧ own_ad r = own_ad l2) ∨ (rk = (1 : Int32) ∧ own_ad r = own_ad l1) ∨ (rk = (2 : Int32) ∧ own_ad r = own_ad l0))
set_option maxRecDepth 65536 in
set_option maxHeartbeats 40000000 in
theorem best3 (l : Launch) (Z : State) (a0 : Array Value) (hw : ∀ d ∈ tables_1, d.before a0 Z = true) (ws : List Jvm.Cond) (self : Nat) (rk : Int32) (la : Nat) (kl : ClassId) (l0 : Nat) (l1 : Nat) (l2 : Nat) (h0 : Heap) (n0 : Nat) (Z0 : n0 ≤ h0.size) (G0 : Fld Z h0 self "com/example/tenorbook/tenorbook/engine/Ladder" "levels" "[Lcom/example/tenorbook/tenorbook/engine/Level;" (.ref la)) (G1 : Fld Z h0 self "com/example/tenorbook/tenorbook/engine/Ladder" "count" "I" (.int (3 : Int32))) (G2 : Arv Z h0 la kl (.object "com/example/tenorbook/tenorbook/engine/Level") (4 : Int32) [(.ref l0), (.ref l1), (.ref l2), .null] .null) (G3 : 0 ≤ rk.toInt ∧ rk.toInt < 3) :
    MetFree l (⟨"com/example/tenorbook/tenorbook/engine/Ladder", "best", "(I)Lcom/example/tenorbook/tenorbook/engine/Level;"⟩ : MethodName) (head1 (Jvm.Cond.code (⟨"com/example/tenorbook/tenorbook/engine/Ladder", "best", "(I)Lcom/example/tenorbook/tenorbook/engine/Level;"⟩ : MethodName) prog_9_method_4_code 2 (some (.object "com/example/tenorbook/tenorbook/engine/Level")) :: ws) ({ frames := 0, cells := 0, slots := 0, locals := 0 } : Room)) (fun a U => a = #[(.ref self), (.int rk)] ∧ Z.Warmed39 U.vm ∧ U.heap = h0) (fun _ _ _ _ _ => True) (fun _ U o U' => ∃ v L, o = .returned v ∧ Q_best3 Z self rk la kl l0 l1 l2 h0 n0 v U'.heap L ∧ FrameEnd U o U' L ({ frames := 0, cells := 0, slots := 0, locals := 0 } : Room).cells ({ frames := 0, cells := 0, slots := 0, locals := 0 } : Room).slots) := by
  refine MetFree.of_bodySF (plainFor_of_name pn_9) hisR ?_
  intro p e s m args below meth c s₁ Bd hml0 hP hK
  obtain ⟨rfl, hZ, hh⟩ := hP
  have hx := Bd.exec
  have hby := Bd.bytes
  have hml : c.maxLocals = 2 := hml0
  have hown : s.vm.findClass "com/example/tenorbook/tenorbook/engine/Ladder" = some m.cls := findClass_of_methodNamed Bd.named
  have hnm := (name_of_methodNamed Bd.named Bd.method).1
  have hlk : meth.locks = false := Bd.notSynchronized
  have X0 : Stand p l e ({ frames := 0, cells := 0, slots := 0, locals := 0 } : Room) s m #[(.ref self), (.int rk)] below meth c s₁ [] 0 0 := Stand.of_body Bd
  have e0 : s₁.heap = h0 := by rw [← hh, Bd.state]; rfl
  have N0 := Fr.nil n0
  refine Comes.out (Q := Q_best3 Z self rk la kl l0 l1 l2 h0 n0) (kc := ({ frames := 0, cells := 0, slots := 0, locals := 0 } : Room).cells) (ks := ({ frames := 0, cells := 0, slots := 0, locals := 0 } : Room).slots) ?_
  refine Comes.cast (ef_best3 m self rk) ?_
  have lt_self : self < h0.size := G0.lt
  have lt_la : la < h0.size := G2.lt
  have hsp1 : rk = (0 : Int32) ∨ rk = (1 : Int32) ∨ rk = (2 : Int32) := by have a := G3; simp only [← Int32.toInt_inj, Int32.reduceToInt]; omega
  rcases hsp1 with rfl | rfl | rfl
  · show Comes p e below _ (s₁.setTop (mkF m 0 #[.val (.ref self), .val (.int (0 : Int32))] []))
    refine Comes.st (fun t k => XS.aloadN X0.here hx rfl (hb hby d9_0) rfl rfl k) ?_
    show Comes p e below _ (s₁.setTop (mkF m 1 #[.val (.ref self), .val (.int (0 : Int32))] [(.ref self)]))
    obtain ⟨T2, X2, e2, st2⟩ := getF X0 hx hZ hown (host := "") (Or.inl (hw _ (List.mem_of_getElem? (i := 14) rfl))) Via.refl e0 G0 (g := (mkF m 1 #[.val (.ref self), .val (.int (0 : Int32))] [(.ref self)])) rfl rfl (hb hby d9_1)
    refine Comes.st st2 ?_
    show Comes p e below _ (T2.setTop (mkF m 4 #[.val (.ref self), .val (.int (0 : Int32))] [(.ref la)]))
    refine Comes.st (fun t k => XS.aloadN X2.here hx rfl (hb hby d9_4) rfl rfl k) ?_
    show Comes p e below _ (T2.setTop (mkF m 5 #[.val (.ref self), .val (.int (0 : Int32))] [(.ref self), (.ref la)]))
    obtain ⟨T3, X3, e3, st3⟩ := getF X2 hx hZ hown (host := "") (Or.inl (hw _ (List.mem_of_getElem? (i := 43) rfl))) Via.refl e2 G1 (g := (mkF m 5 #[.val (.ref self), .val (.int (0 : Int32))] [(.ref self), (.ref la)])) rfl rfl (hb hby d9_5)
    refine Comes.st st3 ?_
    show Comes p e below _ (T3.setTop (mkF m 8 #[.val (.ref self), .val (.int (0 : Int32))] [(.int (3 : Int32)), (.ref la)]))
    refine Comes.st (fun t k => XS.iconst X3.here hx rfl (hb hby d9_8) (XS.isub X3.here hx rfl (hb hby d9_9) rfl k)) ?_
    show Comes p e below _ (T3.setTop (mkF m 10 #[.val (.ref self), .val (.int (0 : Int32))] [(.int ((3 : Int32) - (1 : Int32))), (.ref la)]))
    rw [show ((3 : Int32) - (1 : Int32)) = (2 : Int32) from by decide]
    show Comes p e below _ (T3.setTop (mkF m 10 #[.val (.ref self), .val (.int (0 : Int32))] [(.int (2 : Int32)), (.ref la)]))
    refine Comes.st (fun t k => XS.iloadN X3.here hx rfl (hb hby d9_10) rfl (XS.isub X3.here hx rfl (hb hby d9_11) rfl k)) ?_
    show Comes p e below _ (T3.setTop (mkF m 12 #[.val (.ref self), .val (.int (0 : Int32))] [(.int ((2 : Int32) - (0 : Int32))), (.ref la)]))
    rw [show ((2 : Int32) - (0 : Int32)) = (2 : Int32) from by decide]
    show Comes p e below _ (T3.setTop (mkF m 12 #[.val (.ref self), .val (.int (0 : Int32))] [(.int (2 : Int32)), (.ref la)]))
    obtain ⟨cl4, Ar4, q4, S4, Ng4, H4, Gf4⟩ := id G2
    have hin4 : ¬ ((2 : Int32) < 0 ∨ cl4.slots.size ≤ ((2 : Int32)).toNatClampNeg) := inb_of S4 ⟨by decide, by decide⟩
    refine Comes.st (fun t k => X3.aaload hx (j := (2 : Int32)) (v := (.ref l2)) (by rw [e3]; exact Ar4.1) (State.isArrayOf_alike hZ.alike Ar4.2.1) rfl Ar4.2.2 hin4 (Has.at H4 hin4 rfl) (g := (mkF m 12 #[.val (.ref self), .val (.int (0 : Int32))] [(.int (2 : Int32)), (.ref la)])) rfl rfl (hb hby d9_12) _ k) ?_
    show Comes p e below _ (T3.setTop (mkF m 13 #[.val (.ref self), .val (.int (0 : Int32))] [(.ref l2)]))
    exact Comes.retV X3 hx Bd.returns (narrow_ref rfl) (Or.inr (Or.inr (Or.inr (Or.inr ⟨rfl, rfl, rfl⟩)))) hlk (hb hby d9_13) e3 ⟨l2, rfl, N0, rfl, (by exact (Or.inl ⟨rfl, rfl⟩))⟩ (by decide) (by decide)
  · show Comes p e below _ (s₁.setTop (mkF m 0 #[.val (.ref self), .val (.int (1 : Int32))] []))
    refine Comes.st (fun t k => XS.aloadN X0.here hx rfl (hb hby d9_0) rfl rfl k) ?_
    show Comes p e below _ (s₁.setTop (mkF m 1 #[.val (.ref self), .val (.int (1 : Int32))] [(.ref self)]))
    obtain ⟨T5, X5, e5, st5⟩ := getF X0 hx hZ hown (host := "") (Or.inl (hw _ (List.mem_of_getElem? (i := 14) rfl))) Via.refl e0 G0 (g := (mkF m 1 #[.val (.ref self), .val (.int (1 : Int32))] [(.ref self)])) rfl rfl (hb hby d9_1)
    refine Comes.st st5 ?_
    show Comes p e below _ (T5.setTop (mkF m 4 #[.val (.ref self), .val (.int (1 : Int32))] [(.ref la)]))
    refine Comes.st (fun t k => XS.aloadN X5.here hx rfl (hb hby d9_4) rfl rfl k) ?_
    show Comes p e below _ (T5.setTop (mkF m 5 #[.val (.ref self), .val (.int (1 : Int32))] [(.ref self), (.ref la)]))
    obtain ⟨T6, X6, e6, st6⟩ := getF X5 hx hZ hown (host := "") (Or.inl (hw _ (List.mem_of_getElem? (i := 43) rfl))) Via.refl e5 G1 (g := (mkF m 5 #[.val (.ref self), .val (.int (1 : Int32))] [(.ref self), (.ref la)])) rfl rfl (hb hby d9_5)
    refine Comes.st st6 ?_
    show Comes p e below _ (T6.setTop (mkF m 8 #[.val (.ref self), .val (.int (1 : Int32))] [(.int (3 : Int32)), (.ref la)]))
    refine Comes.st (fun t k => XS.iconst X6.here hx rfl (hb hby d9_8) (XS.isub X6.here hx rfl (hb hby d9_9) rfl k)) ?_
    show Comes p e below _ (T6.setTop (mkF m 10 #[.val (.ref self), .val (.int (1 : Int32))] [(.int ((3 : Int32) - (1 : Int32))), (.ref la)]))
    rw [show ((3 : Int32) - (1 : Int32)) = (2 : Int32) from by decide]
    show Comes p e below _ (T6.setTop (mkF m 10 #[.val (.ref self), .val (.int (1 : Int32))] [(.int (2 : Int32)), (.ref la)]))
    refine Comes.st (fun t k => XS.iloadN X6.here hx rfl (hb hby d9_10) rfl (XS.isub X6.here hx rfl (hb hby d9_11) rfl k)) ?_
    show Comes p e below _ (T6.setTop (mkF m 12 #[.val (.ref self), .val (.int (1 : Int32))] [(.int ((2 : Int32) - (1 : Int32))), (.ref la)]))
    rw [show ((2 : Int32) - (1 : Int32)) = (1 : Int32) from by decide]
    show Comes p e below _ (T6.setTop (mkF m 12 #[.val (.ref self), .val (.int (1 : Int32))] [(.int (1 : Int32)), (.ref la)]))
    obtain ⟨cl7, Ar7, q7, S7, Ng7, H7, Gf7⟩ := id G2
    have hin7 : ¬ ((1 : Int32) < 0 ∨ cl7.slots.size ≤ ((1 : Int32)).toNatClampNeg) := inb_of S7 ⟨by decide, by decide⟩
    refine Comes.st (fun t k => X6.aaload hx (j := (1 : Int32)) (v := (.ref l1)) (by rw [e6]; exact Ar7.1) (State.isArrayOf_alike hZ.alike Ar7.2.1) rfl Ar7.2.2 hin7 (Has.at H7 hin7 rfl) (g := (mkF m 12 #[.val (.ref self), .val (.int (1 : Int32))] [(.int (1 : Int32)), (.ref la)])) rfl rfl (hb hby d9_12) _ k) ?_
    show Comes p e below _ (T6.setTop (mkF m 13 #[.val (.ref self), .val (.int (1 : Int32))] [(.ref l1)]))
    exact Comes.retV X6 hx Bd.returns (narrow_ref rfl) (Or.inr (Or.inr (Or.inr (Or.inr ⟨rfl, rfl, rfl⟩)))) hlk (hb hby d9_13) e6 ⟨l1, rfl, N0, rfl, (by exact (Or.inr (Or.inl ⟨rfl, rfl⟩)))⟩ (by decide) (by decide)
  · show Comes p e below _ (s₁.setTop (mkF m 0 #[.val (.ref self), .val (.int (2 : Int32))] []))
    refine Comes.st (fun t k => XS.aloadN X0.here hx rfl (hb hby d9_0) rfl rfl k) ?_
    show Comes p e below _ (s₁.setTop (mkF m 1 #[.val (.ref self), .val (.int (2 : Int32))] [(.ref self)]))
    obtain ⟨T8, X8, e8, st8⟩ := getF X0 hx hZ hown (host := "") (Or.inl (hw _ (List.mem_of_getElem? (i := 14) rfl))) Via.refl e0 G0 (g := (mkF m 1 #[.val (.ref self), .val (.int (2 : Int32))] [(.ref self)])) rfl rfl (hb hby d9_1)
    refine Comes.st st8 ?_
    show Comes p e below _ (T8.setTop (mkF m 4 #[.val (.ref self), .val (.int (2 : Int32))] [(.ref la)]))
    refine Comes.st (fun t k => XS.aloadN X8.here hx rfl (hb hby d9_4) rfl rfl k) ?_
    show Comes p e below _ (T8.setTop (mkF m 5 #[.val (.ref self), .val (.int (2 : Int32))] [(.ref self), (.ref la)]))
    obtain ⟨T9, X9, e9, st9⟩ := getF X8 hx hZ hown (host := "") (Or.inl (hw _ (List.mem_of_getElem? (i := 43) rfl))) Via.refl e8 G1 (g := (mkF m 5 #[.val (.ref self), .val (.int (2 : Int32))] [(.ref self), (.ref la)])) rfl rfl (hb hby d9_5)
    refine Comes.st st9 ?_
    show Comes p e below _ (T9.setTop (mkF m 8 #[.val (.ref self), .val (.int (2 : Int32))] [(.int (3 : Int32)), (.ref la)]))
    refine Comes.st (fun t k => XS.iconst X9.here hx rfl (hb hby d9_8) (XS.isub X9.here hx rfl (hb hby d9_9) rfl k)) ?_
    show Comes p e below _ (T9.setTop (mkF m 10 #[.val (.ref self), .val (.int (2 : Int32))] [(.int ((3 : Int32) - (1 : Int32))), (.ref la)]))
    rw [show ((3 : Int32) - (1 : Int32)) = (2 : Int32) from by decide]
    show Comes p e below _ (T9.setTop (mkF m 10 #[.val (.ref self), .val (.int (2 : Int32))] [(.int (2 : Int32)), (.ref la)]))
    refine Comes.st (fun t k => XS.iloadN X9.here hx rfl (hb hby d9_10) rfl (XS.isub X9.here hx rfl (hb hby d9_11) rfl k)) ?_
    show Comes p e below _ (T9.setTop (mkF m 12 #[.val (.ref self), .val (.int (2 : Int32))] [(.int ((2 : Int32) - (2 : Int32))), (.ref la)]))
    rw [show ((2 : Int32) - (2 : Int32)) = (0 : Int32) from by decide]
    show Comes p e below _ (T9.setTop (mkF m 12 #[.val (.ref self), .val (.int (2 : Int32))] [(.int (0 : Int32)), (.ref la)]))
    obtain ⟨cl10, Ar10, q10, S10, Ng10, H10, Gf10⟩ := id G2
    have hin10 : ¬ ((0 : Int32) < 0 ∨ cl10.slots.size ≤ ((0 : Int32)).toNatClampNeg) := inb_of S10 ⟨by decide, by decide⟩
    refine Comes.st (fun t k => X9.aaload hx (j := (0 : Int32)) (v := (.ref l0)) (by rw [e9]; exact Ar10.1) (State.isArrayOf_alike hZ.alike Ar10.2.1) rfl Ar10.2.2 hin10 (Has.at H10 hin10 rfl) (g := (mkF m 12 #[.val (.ref self), .val (.int (2 : Int32))] [(.int (0 : Int32)), (.ref la)])) rfl rfl (hb hby d9_12) _ k) ?_
    show Comes p e below _ (T9.setTop (mkF m 13 #[.val (.ref self), .val (.int (2 : Int32))] [(.ref l0)]))
    exact Comes.retV X9 hx Bd.returns (narrow_ref rfl) (Or.inr (Or.inr (Or.inr (Or.inr ⟨rfl, rfl, rfl⟩)))) hlk (hb hby d9_13) e9 ⟨l0, rfl, N0, rfl, (by exact (Or.inr (Or.inr ⟨rfl, rfl⟩)))⟩ (by decide) (by decide)
def Q_rm0 (Z : State) (qa : Int64) (qb : Int64) (qc : Int64) (fl : Int32) (h0 : Heap) (n0 : Nat) (v : Option Value) (h : Heap) (L : List Loc) : Prop := (v = some (.int (1 : Int32))) ∧ (Fr n0 L)
set_option maxRecDepth 65536 in
set_option maxHeartbeats 40000000 in
theorem rm0 (l : Launch) (Z : State) (a0 : Array Value) (hw : ∀ d ∈ tables_1, d.before a0 Z = true) (ws : List Jvm.Cond) (qa : Int64) (qb : Int64) (qc : Int64) (fl : Int32) (h0 : Heap) (n0 : Nat) (Z0 : n0 ≤ h0.size) :
    MetFree l x (head1 (Jvm.Cond.code x code maxLocals ret :: ws) room_1) (fun a U => a = #[(.long qa), (.long qb), (.long qc), (.int fl)] ∧ Z.Warmed39 U.vm ∧ U.heap = h0) (fun _ _ _ _ _ => True) (fun _ U o U' => ∃ v L, o = .returned v ∧ Q_rm0 Z qa qb qc fl h0 n0 v U'.heap L ∧ FrameEnd U o U' L room_1.cells room_1.slots) := by
  refine MetFree.of_bodySF (plainFor_of_name pn_0) hisR ?_
  intro p e s m args below meth c s₁ Bd hml0 hP hK
  obtain ⟨rfl, hZ, hh⟩ := hP
  have hx := Bd.exec
  have hby := Bd.bytes
  have hml : c.maxLocals = 18 := hml0
  have hown : s.vm.findClass "com/example/tenorbook/tenorbook/engine/LadderBestPinLaw" = some m.cls := findClass_of_methodNamed Bd.named
  have hnm := (name_of_methodNamed Bd.named Bd.method).1
  have hlk : meth.locks = false := Bd.notSynchronized
  have X0 : Stand p l e room_1 s m #[(.long qa), (.long qb), (.long qc), (.int fl)] below meth c s₁ [] 0 0 := Stand.of_body Bd
  have e0 : s₁.heap = h0 := by rw [← hh, Bd.state]; rfl
  have N0 := Fr.nil n0
  refine Comes.out (Q := Q_rm0 Z qa qb qc fl h0 n0) (kc := room_1.cells) (ks := room_1.slots) ?_
  refine Comes.cast (ef_rm0 m qa qb qc fl) ?_
  show Comes p e below _ (s₁.setTop (mkF m 0 #[.val (.long qa), .second, .val (.long qb), .second, .val (.long qc), .second, .val (.int fl), .unset, .unset, .unset, .unset, .unset, .unset, .unset, .unset, .unset, .unset, .unset] []))
  refine Comes.st (fun t k => XS.iload X0.here hx rfl (hb hby at_0) rfl (XS.iconst X0.here hx rfl (hb hby at_2) (XS.iand X0.here hx rfl (hb hby at_3) rfl (XS.iconst X0.here hx rfl (hb hby at_4) k)))) ?_
  show Comes p e below _ (s₁.setTop (mkF m 5 #[.val (.long qa), .second, .val (.long qb), .second, .val (.long qc), .second, .val (.int fl), .unset, .unset, .unset, .unset, .unset, .unset, .unset, .unset, .unset, .unset, .unset] [(.int (3 : Int32)), (.int (fl &&& (3 : Int32)))]))
  have hnz1 : ¬ ((3 : Int32) = (0 : Int32)) := by decide
  refine Comes.st (fun t k => iremM X0 hx rfl (hb hby at_5) rfl hnz1 (XS.iconst X0.here hx rfl (hb hby at_6) (XS.iadd X0.here hx rfl (hb hby at_7) rfl k))) ?_
  show Comes p e below _ (s₁.setTop (mkF m 8 #[.val (.long qa), .second, .val (.long qb), .second, .val (.long qc), .second, .val (.int fl), .unset, .unset, .unset, .unset, .unset, .unset, .unset, .unset, .unset, .unset, .unset] [(.int (((fl &&& (3 : Int32)) % (3 : Int32)) + (1 : Int32)))]))
  generalize hv_v2 : (((fl &&& (3 : Int32)) % (3 : Int32)) + (1 : Int32)) = v2
  show Comes p e below _ (s₁.setTop (mkF m 8 #[.val (.long qa), .second, .val (.long qb), .second, .val (.long qc), .second, .val (.int fl), .unset, .unset, .unset, .unset, .unset, .unset, .unset, .unset, .unset, .unset, .unset] [(.int v2)]))
  refine Comes.st (fun t k => XS.istore X0.here hx rfl (hb hby at_8) rfl (l' := #[.val (.long qa), .second, .val (.long qb), .second, .val (.long qc), .second, .val (.int fl), .val (.int v2), .unset, .unset, .unset, .unset, .unset, .unset, .unset, .unset, .unset, .unset]) rfl k) ?_
  have hsp3 : v2 = (1 : Int32) ∨ v2 = (2 : Int32) ∨ v2 = (3 : Int32) := by have a_0 := c_mask fl (3 : Int32) 2 (by decide) (by decide); have a_1 := c_irem (fl &&& (3 : Int32)) (3 : Int32) 3 (by decide); have a_2 := c_iadd ((fl &&& (3 : Int32)) % (3 : Int32)) (1 : Int32); rw [hv_v2] at a_2; have a_3 := rng32 ((fl &&& (3 : Int32)) % (3 : Int32)); have a_4 := rng32 (fl &&& (3 : Int32)); have a_5 := rng32 fl; have a_6 := rng32 v2; (try simp only [Int32.lt_iff_toInt_lt, Int64.lt_iff_toInt_lt, ← Int32.toInt_inj, ← Int64.toInt_inj, Int32.reduceToInt, Int64.reduceToInt, eq_self, and_true, true_and, or_true, true_or, and_false, false_and, or_false, false_or, not_true_eq_false, not_false_eq_true] at a_0 a_1 a_2 a_3 a_4 a_5 a_6 ⊢) <;> omega
  rcases hsp3 with rfl | rfl | rfl
  · show Comes p e below _ (s₁.setTop (mkF m 10 #[.val (.long qa), .second, .val (.long qb), .second, .val (.long qc), .second, .val (.int fl), .val (.int (1 : Int32)), .unset, .unset, .unset, .unset, .unset, .unset, .unset, .unset, .unset, .unset] []))
    refine Comes.st (fun t k => XS.iload X0.here hx rfl (hb hby at_10) rfl (XS.iconst X0.here hx rfl (hb hby at_12) (XS.iand X0.here hx rfl (hb hby at_13) rfl k))) ?_
    have J4 : Comes p e below (fun S' => ∃ (T' : State), ∃ (L' : List Loc), ∃ (j6 : Int32), (S' = T'.setTop (mkF m 22 #[.val (.long qa), .second, .val (.long qb), .second, .val (.long qc), .second, .val (.int fl), .val (.int (1 : Int32)), .unset, .unset, .unset, .unset, .unset, .unset, .unset, .unset, .unset, .unset] [(.int j6)])) ∧ (Stand p l e room_1 s m #[(.long qa), (.long qb), (.long qc), (.int fl)] below meth c T' L' 0 0) ∧ (T'.heap = h0) ∧ (Fr n0 L') ∧ (j6 = (0 : Int32) ∨ j6 = (1 : Int32))) (s₁.setTop (mkF m 14 #[.val (.long qa), .second, .val (.long qb), .second, .val (.long qc), .second, .val (.int fl), .val (.int (1 : Int32)), .unset, .unset, .unset, .unset, .unset, .unset, .unset, .unset, .unset, .unset] [(.int (fl &&& (4 : Int32)))])) := by
      show Comes p e below _ (s₁.setTop (mkF m 14 #[.val (.long qa), .second, .val (.long qb), .second, .val (.long qc), .second, .val (.int fl), .val (.int (1 : Int32)), .unset, .unset, .unset, .unset, .unset, .unset, .unset, .unset, .unset, .unset] [(.int (fl &&& (4 : Int32)))]))
      by_cases hc14_5 : (fl &&& (4 : Int32)) = (0 : Int32)
      · refine Comes.st (fun t k => XS.ifYes X0.here hx rfl (pc0 := 14) (pc' := 21) rfl (hb hby at_14) rfl ((if0 _ _).trans (teq hc14_5).1) (by decide) (by decide) (XS.iconst X0.here hx rfl (hb hby at_21) k)) ?_
        show Comes p e below _ (s₁.setTop (mkF m 22 #[.val (.long qa), .second, .val (.long qb), .second, .val (.long qc), .second, .val (.int fl), .val (.int (1 : Int32)), .unset, .unset, .unset, .unset, .unset, .unset, .unset, .unset, .unset, .unset] [(.int (0 : Int32))]))
        exact Comes.here ⟨_, _, (0 : Int32), rfl, X0, e0, N0, (by first | exact Or.inl rfl | exact Or.inr rfl)⟩
      · refine Comes.st (fun t k => XS.ifNo X0.here hx rfl (hb hby at_14) rfl ((if0 _ _).trans (feq hc14_5).1) (XS.iconst X0.here hx rfl (hb hby at_17) (XS.goto X0.here hx rfl (pc0 := 18) (pc' := 22) rfl (hb hby at_18) (by decide) (by decide) k))) ?_
        show Comes p e below _ (s₁.setTop (mkF m 22 #[.val (.long qa), .second, .val (.long qb), .second, .val (.long qc), .second, .val (.int fl), .val (.int (1 : Int32)), .unset, .unset, .unset, .unset, .unset, .unset, .unset, .unset, .unset, .unset] [(.int (1 : Int32))]))
        exact Comes.here ⟨_, _, (1 : Int32), rfl, X0, e0, N0, (by first | exact Or.inl rfl | exact Or.inr rfl)⟩
    obtain ⟨_, st7, T7, L7, j6, rfl, X7, e7, N7, rel7⟩ := J4
    refine Comes.go st7 ?_
    show Comes p e below _ (T7.setTop (mkF m 22 #[.val (.long qa), .second, .val (.long qb), .second, .val (.long qc), .second, .val (.int fl), .val (.int (1 : Int32)), .unset, .unset, .unset, .unset, .unset, .unset, .unset, .unset, .unset, .unset] [(.int j6)]))
    refine Comes.st (fun t k => XS.istore X7.here hx rfl (hb hby at_22) rfl (l' := #[.val (.long qa), .second, .val (.long qb), .second, .val (.long qc), .second, .val (.int fl), .val (.int (1 : Int32)), .val (.int j6), .unset, .unset, .unset, .unset, .unset, .unset, .unset, .unset, .unset]) rfl (XS.iload X7.here hx rfl (hb hby at_24) rfl (XS.iconst X7.here hx rfl (hb hby at_26) k))) ?_
    show Comes p e below _ (T7.setTop (mkF m 27 #[.val (.long qa), .second, .val (.long qb), .second, .val (.long qc), .second, .val (.int fl), .val (.int (1 : Int32)), .val (.int j6), .unset, .unset, .unset, .unset, .unset, .unset, .unset, .unset, .unset] [(.int (2 : Int32)), (.int (1 : Int32))]))
    have hc27_8 : (1 : Int32) < (2 : Int32) := by decide
    refine Comes.st (fun t k => XS.icmpYes X7.here hx rfl (pc0 := 27) (pc' := 34) rfl (hb hby at_27) rfl (tlt hc27_8).1 (by decide) (by decide) (XS.iconst X7.here hx rfl (hb hby at_34) (XS.istore X7.here hx rfl (hb hby at_35) rfl (l' := #[.val (.long qa), .second, .val (.long qb), .second, .val (.long qc), .second, .val (.int fl), .val (.int (1 : Int32)), .val (.int j6), .val (.int (0 : Int32)), .unset, .unset, .unset, .unset, .unset, .unset, .unset, .unset]) rfl (XS.iload X7.here hx rfl (hb hby at_37) rfl (XS.iconst X7.here hx rfl (hb hby at_39) k))))) ?_
    show Comes p e below _ (T7.setTop (mkF m 40 #[.val (.long qa), .second, .val (.long qb), .second, .val (.long qc), .second, .val (.int fl), .val (.int (1 : Int32)), .val (.int j6), .val (.int (0 : Int32)), .unset, .unset, .unset, .unset, .unset, .unset, .unset, .unset] [(.int (3 : Int32)), (.int (1 : Int32))]))
    have hc40_9 : (1 : Int32) < (3 : Int32) := by decide
    refine Comes.st (fun t k => XS.icmpYes X7.here hx rfl (pc0 := 40) (pc' := 47) rfl (hb hby at_40) rfl (tlt hc40_9).1 (by decide) (by decide) (XS.iconst X7.here hx rfl (hb hby at_47) (XS.istore X7.here hx rfl (hb hby at_48) rfl (l' := #[.val (.long qa), .second, .val (.long qb), .second, .val (.long qc), .second, .val (.int fl), .val (.int (1 : Int32)), .val (.int j6), .val (.int (0 : Int32)), .val (.int (0 : Int32)), .unset, .unset, .unset, .unset, .unset, .unset, .unset]) rfl (XS.iload X7.here hx rfl (hb hby at_50) rfl k)))) ?_
    show Comes p e below _ (T7.setTop (mkF m 52 #[.val (.long qa), .second, .val (.long qb), .second, .val (.long qc), .second, .val (.int fl), .val (.int (1 : Int32)), .val (.int j6), .val (.int (0 : Int32)), .val (.int (0 : Int32)), .unset, .unset, .unset, .unset, .unset, .unset, .unset] [(.int (0 : Int32))]))
    have hc52_10 : (0 : Int32) = (0 : Int32) := by decide
    refine Comes.st (fun t k => XS.ifYes X7.here hx rfl (pc0 := 52) (pc' := 63) rfl (hb hby at_52) rfl ((if0 _ _).trans (teq hc52_10).1) (by decide) (by decide) (XS.iload X7.here hx rfl (hb hby at_63) rfl k)) ?_
    show Comes p e below _ (T7.setTop (mkF m 65 #[.val (.long qa), .second, .val (.long qb), .second, .val (.long qc), .second, .val (.int fl), .val (.int (1 : Int32)), .val (.int j6), .val (.int (0 : Int32)), .val (.int (0 : Int32)), .unset, .unset, .unset, .unset, .unset, .unset, .unset] [(.int (0 : Int32))]))
    have hc65_11 : (0 : Int32) = (0 : Int32) := by decide
    refine Comes.st (fun t k => XS.ifYes X7.here hx rfl (pc0 := 65) (pc' := 84) rfl (hb hby at_65) rfl ((if0 _ _).trans (teq hc65_11).1) (by decide) (by decide) k) ?_
    show Comes p e below _ (T7.setTop (mkF m 84 #[.val (.long qa), .second, .val (.long qb), .second, .val (.long qc), .second, .val (.int fl), .val (.int (1 : Int32)), .val (.int j6), .val (.int (0 : Int32)), .val (.int (0 : Int32)), .unset, .unset, .unset, .unset, .unset, .unset, .unset] []))
    obtain ⟨T12, h12, X12, e12, E12, A12, D12, -, st12⟩ := newO X7 hx hZ hown (hw _ (List.mem_of_getElem? (i := 0) rfl)) (hw _ (List.mem_of_getElem? (i := 1) rfl)) (hw _ (List.mem_of_getElem? (i := 2) rfl)) e7 (g := (mkF m 84 #[.val (.long qa), .second, .val (.long qb), .second, .val (.long qc), .second, .val (.int fl), .val (.int (1 : Int32)), .val (.int j6), .val (.int (0 : Int32)), .val (.int (0 : Int32)), .unset, .unset, .unset, .unset, .unset, .unset, .unset] [])) rfl (hb hby at_84) (by decide) (by decide)
    obtain ⟨b12, g12⟩ : ∃ z, z = h0.size := ⟨_, rfl⟩
    rw [← g12] at A12 D12 st12
    have z12 : h0.size ≤ h12.size := E12.1
    have lt12 : b12 < h12.size := A12.lt
    have F13 : Fld Z h12 b12 "com/example/tenorbook/tenorbook/engine/Ladder" "ticks" "[J" .null := D12 (Or.inl (hw _ (List.mem_of_getElem? (i := 11) rfl))) (ty := (.array .long)) (by decide)
    have F14 : Fld Z h12 b12 "com/example/tenorbook/tenorbook/engine/Ladder" "levels" "[Lcom/example/tenorbook/tenorbook/engine/Level;" .null := D12 (Or.inl (hw _ (List.mem_of_getElem? (i := 15) rfl))) (ty := (.array (.object "com/example/tenorbook/tenorbook/engine/Level"))) (by decide)
    have F15 : Fld Z h12 b12 "com/example/tenorbook/tenorbook/engine/Ladder" "lowestBest" "Z" (.int (0 : Int32)) := D12 (Or.inr (hw _ (List.mem_of_getElem? (i := 17) rfl))) (ty := .boolean) (by decide)
    have F16 : Fld Z h12 b12 "com/example/tenorbook/tenorbook/engine/Ladder" "count" "I" (.int (0 : Int32)) := D12 (Or.inl (hw _ (List.mem_of_getElem? (i := 44) rfl))) (ty := .int) (by decide)
    refine Comes.st st12 ?_
    show Comes p e below _ (T12.setTop (mkF m 87 #[.val (.long qa), .second, .val (.long qb), .second, .val (.long qc), .second, .val (.int fl), .val (.int (1 : Int32)), .val (.int j6), .val (.int (0 : Int32)), .val (.int (0 : Int32)), .unset, .unset, .unset, .unset, .unset, .unset, .unset] [(.ref b12)]))
    refine Comes.st (fun t k => XS.dup X12.here hx rfl (hb hby at_87) rfl rfl (XS.iload X12.here hx rfl (hb hby at_88) rfl k)) ?_
    show Comes p e below _ (T12.setTop (mkF m 90 #[.val (.long qa), .second, .val (.long qb), .second, .val (.long qc), .second, .val (.int fl), .val (.int (1 : Int32)), .val (.int j6), .val (.int (0 : Int32)), .val (.int (0 : Int32)), .unset, .unset, .unset, .unset, .unset, .unset, .unset] [(.int j6), (.ref b12), (.ref b12)]))
    obtain ⟨_, _, ⟨T17, L17, k17, n17⟩, -, X17, ⟨Lc17, hQ17, l17, y17, z17⟩, st17⟩ := X12.specialBack hx (y := (⟨"com/example/tenorbook/tenorbook/engine/Ladder", "<init>", "(Z)V"⟩ : MethodName)) rfl hown (mvT hZ (hw _ (List.mem_of_getElem? (i := 3) rfl))) (mvT hZ (hw _ (List.mem_of_getElem? (i := 4) rfl))) (mvT hZ (hw _ (List.mem_of_getElem? (i := 5) rfl))) (by decide) (backOf (W := 1) (rm1 l Z a0 hw [] b12 j6 h12 n0 (by omega)  A12 F13 F14 F15 F16 (by omega)) hZ (hw _ (List.mem_of_getElem? (i := 5) rfl)) (hw _ (List.mem_of_getElem? (i := 2) rfl)) (by decide) (by decide)) (g := (mkF m 90 #[.val (.long qa), .second, .val (.long qb), .second, .val (.long qc), .second, .val (.int fl), .val (.int (1 : Int32)), .val (.int j6), .val (.int (0 : Int32)), .val (.int (0 : Int32)), .unset, .unset, .unset, .unset, .unset, .unset, .unset] [(.int j6), (.ref b12), (.ref b12)])) rfl (by rw [hml]; rfl) (Steps.refl _) (a := b12) (argsL := [(.int j6)]) (rest := [(.ref b12)]) (lenOf pd_3 rfl) rfl (by show 2 * 0 + _ ≤ _; exact Nat.le_of_eq rfl) (hb hby at_90) (fun _ _ => ⟨rfl, e12, (by decide : 1 + 2 ≤ _), (by decide : 4 + 8 ≤ _)⟩)
    dsimp only [Pt.U, Pt.locs, Pt.cells, Pt.slots] at X17 l17 y17 z17 st17 hQ17
    subst l17 y17 z17
    obtain ⟨o18, o19, r20, r21, rfl, Nq17, Kq17, P17_0, P17_1, P17_2, P17_3, P17_4, P17_5, P17_6, P17_7, P17_8, P17_9, P17_10, P17_11, P17_12, P17_13⟩ := hQ17
    have N17 := Fr.app N7 Nq17
    have z17k : h12.size ≤ T17.heap.size := Kq17.1
    refine Comes.go st17 ?_
    have lt_22 : b12 < T17.heap.size := P17_0.lt
    have lt_23 : o18 < T17.heap.size := P17_5.lt
    have lt_24 : o19 < T17.heap.size := P17_6.lt
    have hlb : nar .boolean j6 = j6 := by rcases rel7 with q | q <;> rw [q] <;> rfl
    have F25 : Fld Z T17.heap b12 "com/example/tenorbook/tenorbook/engine/Ladder" "lowestBest" "Z" (.int j6) := by have q := P17_3; rw [hlb] at q; exact q
    show Comes p e below _ (T17.setTop (mkF m 93 #[.val (.long qa), .second, .val (.long qb), .second, .val (.long qc), .second, .val (.int fl), .val (.int (1 : Int32)), .val (.int j6), .val (.int (0 : Int32)), .val (.int (0 : Int32)), .unset, .unset, .unset, .unset, .unset, .unset, .unset] [(.ref b12)]))
    refine Comes.st (fun t k => XS.astore X17.here hx rfl (hb hby at_93) rfl rfl (l' := #[.val (.long qa), .second, .val (.long qb), .second, .val (.long qc), .second, .val (.int fl), .val (.int (1 : Int32)), .val (.int j6), .val (.int (0 : Int32)), .val (.int (0 : Int32)), .val (.ref b12), .unset, .unset, .unset, .unset, .unset, .unset]) rfl k) ?_
    show Comes p e below _ (T17.setTop (mkF m 95 #[.val (.long qa), .second, .val (.long qb), .second, .val (.long qc), .second, .val (.int fl), .val (.int (1 : Int32)), .val (.int j6), .val (.int (0 : Int32)), .val (.int (0 : Int32)), .val (.ref b12), .unset, .unset, .unset, .unset, .unset, .unset] []))
    obtain ⟨T26, h26, X26, e26, E26, A26, D26, -, st26⟩ := newO X17 hx hZ hown (hw _ (List.mem_of_getElem? (i := 18) rfl)) (hw _ (List.mem_of_getElem? (i := 19) rfl)) (hw _ (List.mem_of_getElem? (i := 20) rfl)) rfl (g := (mkF m 95 #[.val (.long qa), .second, .val (.long qb), .second, .val (.long qc), .second, .val (.int fl), .val (.int (1 : Int32)), .val (.int j6), .val (.int (0 : Int32)), .val (.int (0 : Int32)), .val (.ref b12), .unset, .unset, .unset, .unset, .unset, .unset] [])) rfl (hb hby at_95) (by decide) (by decide)
    obtain ⟨b26, g26⟩ : ∃ z, z = T17.heap.size := ⟨_, rfl⟩
    rw [← g26] at A26 D26 st26
    have z26 : T17.heap.size ≤ h26.size := E26.1
    have lt26 : b26 < h26.size := A26.lt
    have F27 : Fld Z h26 b26 "com/example/tenorbook/tenorbook/engine/Level" "ticks" "J" (.long (0 : Int64)) := D26 (Or.inr (hw _ (List.mem_of_getElem? (i := 26) rfl))) (ty := .long) (by decide)
    have F28 : Fld Z h26 b26 "com/example/tenorbook/tenorbook/engine/Level" "rate" "Ljava/math/BigDecimal;" .null := D26 (Or.inr (hw _ (List.mem_of_getElem? (i := 28) rfl))) (ty := (.object "java/math/BigDecimal")) (by decide)
    have F29 : Fld Z h26 b26 "com/example/tenorbook/tenorbook/engine/Level" "ladder" "Lcom/example/tenorbook/tenorbook/engine/Ladder;" .null := D26 (Or.inl (hw _ (List.mem_of_getElem? (i := 51) rfl))) (ty := (.object "com/example/tenorbook/tenorbook/engine/Ladder")) (by decide)
    refine Comes.st st26 ?_
    show Comes p e below _ (T26.setTop (mkF m 98 #[.val (.long qa), .second, .val (.long qb), .second, .val (.long qc), .second, .val (.int fl), .val (.int (1 : Int32)), .val (.int j6), .val (.int (0 : Int32)), .val (.int (0 : Int32)), .val (.ref b12), .unset, .unset, .unset, .unset, .unset, .unset] [(.ref b26)]))
    refine Comes.st (fun t k => XS.dup X26.here hx rfl (hb hby at_98) rfl rfl (XS.lloadN X26.here hx rfl (hb hby at_99) rfl (XS.aconstNull X26.here hx rfl (hb hby at_100) k))) ?_
    show Comes p e below _ (T26.setTop (mkF m 101 #[.val (.long qa), .second, .val (.long qb), .second, .val (.long qc), .second, .val (.int fl), .val (.int (1 : Int32)), .val (.int j6), .val (.int (0 : Int32)), .val (.int (0 : Int32)), .val (.ref b12), .unset, .unset, .unset, .unset, .unset, .unset] [.null, (.long qa), (.ref b26), (.ref b26)]))
    obtain ⟨_, _, ⟨T30, L30, k30, n30⟩, -, X30, ⟨Lc30, hQ30, l30, y30, z30⟩, st30⟩ := X26.specialBack hx (y := (⟨"com/example/tenorbook/tenorbook/engine/Level", "<init>", "(JLjava/math/BigDecimal;)V"⟩ : MethodName)) rfl hown (mvT hZ (hw _ (List.mem_of_getElem? (i := 21) rfl))) (mvT hZ (hw _ (List.mem_of_getElem? (i := 22) rfl))) (mvT hZ (hw _ (List.mem_of_getElem? (i := 23) rfl))) (by decide) (backOf (W := 1) (rm3 l Z a0 hw [] b26 qa h26 n0 (by omega)  A26 F27 F28 F29 (by omega)) hZ (hw _ (List.mem_of_getElem? (i := 23) rfl)) (hw _ (List.mem_of_getElem? (i := 20) rfl)) (by decide) (by decide)) (g := (mkF m 101 #[.val (.long qa), .second, .val (.long qb), .second, .val (.long qc), .second, .val (.int fl), .val (.int (1 : Int32)), .val (.int j6), .val (.int (0 : Int32)), .val (.int (0 : Int32)), .val (.ref b12), .unset, .unset, .unset, .unset, .unset, .unset] [.null, (.long qa), (.ref b26), (.ref b26)])) rfl (by rw [hml]; rfl) (Steps.refl _) (a := b26) (argsL := [(.long qa), .null]) (rest := [(.ref b26)]) (lenOf pd_4 rfl) rfl (by show 2 * 0 + _ ≤ _; exact Nat.le_of_eq rfl) (hb hby at_101) (fun _ _ => ⟨rfl, e26, (by decide : 4 + 0 ≤ _), (by decide : 17 + 0 ≤ _)⟩)
    dsimp only [Pt.U, Pt.locs, Pt.cells, Pt.slots] at X30 l30 y30 z30 st30 hQ30
    subst l30 y30 z30
    obtain ⟨rfl, Nq30, Kq30, P30_0, P30_1, P30_2⟩ := hQ30
    have N30 := Fr.app N17 Nq30
    have z30k : h26.size ≤ T30.heap.size := Kq30.1
    refine Comes.go st30 ?_
    have lt_31 : b26 < T30.heap.size := P30_0.lt
    show Comes p e below _ (T30.setTop (mkF m 104 #[.val (.long qa), .second, .val (.long qb), .second, .val (.long qc), .second, .val (.int fl), .val (.int (1 : Int32)), .val (.int j6), .val (.int (0 : Int32)), .val (.int (0 : Int32)), .val (.ref b12), .unset, .unset, .unset, .unset, .unset, .unset] [(.ref b26)]))
    refine Comes.st (fun t k => XS.astore X30.here hx rfl (hb hby at_104) rfl rfl (l' := #[.val (.long qa), .second, .val (.long qb), .second, .val (.long qc), .second, .val (.int fl), .val (.int (1 : Int32)), .val (.int j6), .val (.int (0 : Int32)), .val (.int (0 : Int32)), .val (.ref b12), .val (.ref b26), .unset, .unset, .unset, .unset, .unset]) rfl k) ?_
    show Comes p e below _ (T30.setTop (mkF m 106 #[.val (.long qa), .second, .val (.long qb), .second, .val (.long qc), .second, .val (.int fl), .val (.int (1 : Int32)), .val (.int j6), .val (.int (0 : Int32)), .val (.int (0 : Int32)), .val (.ref b12), .val (.ref b26), .unset, .unset, .unset, .unset, .unset] []))
    obtain ⟨T32, h32, X32, e32, E32, A32, D32, -, st32⟩ := newO X30 hx hZ hown (hw _ (List.mem_of_getElem? (i := 18) rfl)) (hw _ (List.mem_of_getElem? (i := 19) rfl)) (hw _ (List.mem_of_getElem? (i := 20) rfl)) rfl (g := (mkF m 106 #[.val (.long qa), .second, .val (.long qb), .second, .val (.long qc), .second, .val (.int fl), .val (.int (1 : Int32)), .val (.int j6), .val (.int (0 : Int32)), .val (.int (0 : Int32)), .val (.ref b12), .val (.ref b26), .unset, .unset, .unset, .unset, .unset] [])) rfl (hb hby at_106) (by decide) (by decide)
    obtain ⟨b32, g32⟩ : ∃ z, z = T30.heap.size := ⟨_, rfl⟩
    rw [← g32] at A32 D32 st32
    have z32 : T30.heap.size ≤ h32.size := E32.1
    have lt32 : b32 < h32.size := A32.lt
    have F33 : Fld Z h32 b32 "com/example/tenorbook/tenorbook/engine/Level" "ticks" "J" (.long (0 : Int64)) := D32 (Or.inr (hw _ (List.mem_of_getElem? (i := 26) rfl))) (ty := .long) (by decide)
    have F34 : Fld Z h32 b32 "com/example/tenorbook/tenorbook/engine/Level" "rate" "Ljava/math/BigDecimal;" .null := D32 (Or.inr (hw _ (List.mem_of_getElem? (i := 28) rfl))) (ty := (.object "java/math/BigDecimal")) (by decide)
    have F35 : Fld Z h32 b32 "com/example/tenorbook/tenorbook/engine/Level" "ladder" "Lcom/example/tenorbook/tenorbook/engine/Ladder;" .null := D32 (Or.inl (hw _ (List.mem_of_getElem? (i := 51) rfl))) (ty := (.object "com/example/tenorbook/tenorbook/engine/Ladder")) (by decide)
    refine Comes.st st32 ?_
    show Comes p e below _ (T32.setTop (mkF m 109 #[.val (.long qa), .second, .val (.long qb), .second, .val (.long qc), .second, .val (.int fl), .val (.int (1 : Int32)), .val (.int j6), .val (.int (0 : Int32)), .val (.int (0 : Int32)), .val (.ref b12), .val (.ref b26), .unset, .unset, .unset, .unset, .unset] [(.ref b32)]))
    refine Comes.st (fun t k => XS.dup X32.here hx rfl (hb hby at_109) rfl rfl (XS.lloadN X32.here hx rfl (hb hby at_110) rfl (XS.aconstNull X32.here hx rfl (hb hby at_111) k))) ?_
    show Comes p e below _ (T32.setTop (mkF m 112 #[.val (.long qa), .second, .val (.long qb), .second, .val (.long qc), .second, .val (.int fl), .val (.int (1 : Int32)), .val (.int j6), .val (.int (0 : Int32)), .val (.int (0 : Int32)), .val (.ref b12), .val (.ref b26), .unset, .unset, .unset, .unset, .unset] [.null, (.long qb), (.ref b32), (.ref b32)]))
    obtain ⟨_, _, ⟨T36, L36, k36, n36⟩, -, X36, ⟨Lc36, hQ36, l36, y36, z36⟩, st36⟩ := X32.specialBack hx (y := (⟨"com/example/tenorbook/tenorbook/engine/Level", "<init>", "(JLjava/math/BigDecimal;)V"⟩ : MethodName)) rfl hown (mvT hZ (hw _ (List.mem_of_getElem? (i := 21) rfl))) (mvT hZ (hw _ (List.mem_of_getElem? (i := 22) rfl))) (mvT hZ (hw _ (List.mem_of_getElem? (i := 23) rfl))) (by decide) (backOf (W := 1) (rm3 l Z a0 hw [] b32 qb h32 n0 (by omega)  A32 F33 F34 F35 (by omega)) hZ (hw _ (List.mem_of_getElem? (i := 23) rfl)) (hw _ (List.mem_of_getElem? (i := 20) rfl)) (by decide) (by decide)) (g := (mkF m 112 #[.val (.long qa), .second, .val (.long qb), .second, .val (.long qc), .second, .val (.int fl), .val (.int (1 : Int32)), .val (.int j6), .val (.int (0 : Int32)), .val (.int (0 : Int32)), .val (.ref b12), .val (.ref b26), .unset, .unset, .unset, .unset, .unset] [.null, (.long qb), (.ref b32), (.ref b32)])) rfl (by rw [hml]; rfl) (Steps.refl _) (a := b32) (argsL := [(.long qb), .null]) (rest := [(.ref b32)]) (lenOf pd_4 rfl) rfl (by show 2 * 0 + _ ≤ _; exact Nat.le_of_eq rfl) (hb hby at_112) (fun _ _ => ⟨rfl, e32, (by decide : 5 + 0 ≤ _), (by decide : 22 + 0 ≤ _)⟩)
    dsimp only [Pt.U, Pt.locs, Pt.cells, Pt.slots] at X36 l36 y36 z36 st36 hQ36
    subst l36 y36 z36
    obtain ⟨rfl, Nq36, Kq36, P36_0, P36_1, P36_2⟩ := hQ36
    have N36 := Fr.app N30 Nq36
    have z36k : h32.size ≤ T36.heap.size := Kq36.1
    refine Comes.go st36 ?_
    have lt_37 : b32 < T36.heap.size := P36_0.lt
    show Comes p e below _ (T36.setTop (mkF m 115 #[.val (.long qa), .second, .val (.long qb), .second, .val (.long qc), .second, .val (.int fl), .val (.int (1 : Int32)), .val (.int j6), .val (.int (0 : Int32)), .val (.int (0 : Int32)), .val (.ref b12), .val (.ref b26), .unset, .unset, .unset, .unset, .unset] [(.ref b32)]))
    refine Comes.st (fun t k => XS.astore X36.here hx rfl (hb hby at_115) rfl rfl (l' := #[.val (.long qa), .second, .val (.long qb), .second, .val (.long qc), .second, .val (.int fl), .val (.int (1 : Int32)), .val (.int j6), .val (.int (0 : Int32)), .val (.int (0 : Int32)), .val (.ref b12), .val (.ref b26), .val (.ref b32), .unset, .unset, .unset, .unset]) rfl k) ?_
    show Comes p e below _ (T36.setTop (mkF m 117 #[.val (.long qa), .second, .val (.long qb), .second, .val (.long qc), .second, .val (.int fl), .val (.int (1 : Int32)), .val (.int j6), .val (.int (0 : Int32)), .val (.int (0 : Int32)), .val (.ref b12), .val (.ref b26), .val (.ref b32), .unset, .unset, .unset, .unset] []))
    obtain ⟨T38, h38, X38, e38, E38, A38, D38, -, st38⟩ := newO X36 hx hZ hown (hw _ (List.mem_of_getElem? (i := 18) rfl)) (hw _ (List.mem_of_getElem? (i := 19) rfl)) (hw _ (List.mem_of_getElem? (i := 20) rfl)) rfl (g := (mkF m 117 #[.val (.long qa), .second, .val (.long qb), .second, .val (.long qc), .second, .val (.int fl), .val (.int (1 : Int32)), .val (.int j6), .val (.int (0 : Int32)), .val (.int (0 : Int32)), .val (.ref b12), .val (.ref b26), .val (.ref b32), .unset, .unset, .unset, .unset] [])) rfl (hb hby at_117) (by decide) (by decide)
    obtain ⟨b38, g38⟩ : ∃ z, z = T36.heap.size := ⟨_, rfl⟩
    rw [← g38] at A38 D38 st38
    have z38 : T36.heap.size ≤ h38.size := E38.1
    have lt38 : b38 < h38.size := A38.lt
    have F39 : Fld Z h38 b38 "com/example/tenorbook/tenorbook/engine/Level" "ticks" "J" (.long (0 : Int64)) := D38 (Or.inr (hw _ (List.mem_of_getElem? (i := 26) rfl))) (ty := .long) (by decide)
    have F40 : Fld Z h38 b38 "com/example/tenorbook/tenorbook/engine/Level" "rate" "Ljava/math/BigDecimal;" .null := D38 (Or.inr (hw _ (List.mem_of_getElem? (i := 28) rfl))) (ty := (.object "java/math/BigDecimal")) (by decide)
    have F41 : Fld Z h38 b38 "com/example/tenorbook/tenorbook/engine/Level" "ladder" "Lcom/example/tenorbook/tenorbook/engine/Ladder;" .null := D38 (Or.inl (hw _ (List.mem_of_getElem? (i := 51) rfl))) (ty := (.object "com/example/tenorbook/tenorbook/engine/Ladder")) (by decide)
    refine Comes.st st38 ?_
    show Comes p e below _ (T38.setTop (mkF m 120 #[.val (.long qa), .second, .val (.long qb), .second, .val (.long qc), .second, .val (.int fl), .val (.int (1 : Int32)), .val (.int j6), .val (.int (0 : Int32)), .val (.int (0 : Int32)), .val (.ref b12), .val (.ref b26), .val (.ref b32), .unset, .unset, .unset, .unset] [(.ref b38)]))
    refine Comes.st (fun t k => XS.dup X38.here hx rfl (hb hby at_120) rfl rfl (XS.lload X38.here hx rfl (hb hby at_121) rfl (XS.aconstNull X38.here hx rfl (hb hby at_123) k))) ?_
    show Comes p e below _ (T38.setTop (mkF m 124 #[.val (.long qa), .second, .val (.long qb), .second, .val (.long qc), .second, .val (.int fl), .val (.int (1 : Int32)), .val (.int j6), .val (.int (0 : Int32)), .val (.int (0 : Int32)), .val (.ref b12), .val (.ref b26), .val (.ref b32), .unset, .unset, .unset, .unset] [.null, (.long qc), (.ref b38), (.ref b38)]))
    obtain ⟨_, _, ⟨T42, L42, k42, n42⟩, -, X42, ⟨Lc42, hQ42, l42, y42, z42⟩, st42⟩ := X38.specialBack hx (y := (⟨"com/example/tenorbook/tenorbook/engine/Level", "<init>", "(JLjava/math/BigDecimal;)V"⟩ : MethodName)) rfl hown (mvT hZ (hw _ (List.mem_of_getElem? (i := 21) rfl))) (mvT hZ (hw _ (List.mem_of_getElem? (i := 22) rfl))) (mvT hZ (hw _ (List.mem_of_getElem? (i := 23) rfl))) (by decide) (backOf (W := 1) (rm3 l Z a0 hw [] b38 qc h38 n0 (by omega)  A38 F39 F40 F41 (by omega)) hZ (hw _ (List.mem_of_getElem? (i := 23) rfl)) (hw _ (List.mem_of_getElem? (i := 20) rfl)) (by decide) (by decide)) (g := (mkF m 124 #[.val (.long qa), .second, .val (.long qb), .second, .val (.long qc), .second, .val (.int fl), .val (.int (1 : Int32)), .val (.int j6), .val (.int (0 : Int32)), .val (.int (0 : Int32)), .val (.ref b12), .val (.ref b26), .val (.ref b32), .unset, .unset, .unset, .unset] [.null, (.long qc), (.ref b38), (.ref b38)])) rfl (by rw [hml]; rfl) (Steps.refl _) (a := b38) (argsL := [(.long qc), .null]) (rest := [(.ref b38)]) (lenOf pd_4 rfl) rfl (by show 2 * 0 + _ ≤ _; exact Nat.le_of_eq rfl) (hb hby at_124) (fun _ _ => ⟨rfl, e38, (by decide : 6 + 0 ≤ _), (by decide : 27 + 0 ≤ _)⟩)
    dsimp only [Pt.U, Pt.locs, Pt.cells, Pt.slots] at X42 l42 y42 z42 st42 hQ42
    subst l42 y42 z42
    obtain ⟨rfl, Nq42, Kq42, P42_0, P42_1, P42_2⟩ := hQ42
    have N42 := Fr.app N36 Nq42
    have z42k : h38.size ≤ T42.heap.size := Kq42.1
    refine Comes.go st42 ?_
    have lt_43 : b38 < T42.heap.size := P42_0.lt
    show Comes p e below _ (T42.setTop (mkF m 127 #[.val (.long qa), .second, .val (.long qb), .second, .val (.long qc), .second, .val (.int fl), .val (.int (1 : Int32)), .val (.int j6), .val (.int (0 : Int32)), .val (.int (0 : Int32)), .val (.ref b12), .val (.ref b26), .val (.ref b32), .unset, .unset, .unset, .unset] [(.ref b38)]))
    refine Comes.st (fun t k => XS.astore X42.here hx rfl (hb hby at_127) rfl rfl (l' := #[.val (.long qa), .second, .val (.long qb), .second, .val (.long qc), .second, .val (.int fl), .val (.int (1 : Int32)), .val (.int j6), .val (.int (0 : Int32)), .val (.int (0 : Int32)), .val (.ref b12), .val (.ref b26), .val (.ref b32), .val (.ref b38), .unset, .unset, .unset]) rfl (XS.aload X42.here hx rfl (hb hby at_129) rfl rfl (XS.aload X42.here hx rfl (hb hby at_131) rfl rfl k))) ?_
    show Comes p e below _ (T42.setTop (mkF m 133 #[.val (.long qa), .second, .val (.long qb), .second, .val (.long qc), .second, .val (.int fl), .val (.int (1 : Int32)), .val (.int j6), .val (.int (0 : Int32)), .val (.int (0 : Int32)), .val (.ref b12), .val (.ref b26), .val (.ref b32), .val (.ref b38), .unset, .unset, .unset] [(.ref b26), (.ref b12)]))
    have F44 : Exa Z T42.heap b12 "com/example/tenorbook/tenorbook/engine/Ladder" := ((((((P17_0.ext E26).keep Kq30).ext E32).keep Kq36).ext E38).keep Kq42)
    have ne45 : b12 ≠ b26 := by omega
    have ne46 : b12 ≠ b32 := by omega
    have ne47 : b12 ≠ b38 := by omega
    have F48 : Fld Z T42.heap b12 "com/example/tenorbook/tenorbook/engine/Ladder" "ticks" "[J" (.ref o18) := ((((((P17_1.ext E26).keep Kq30 (ninS ne45 nin0)).ext E32).keep Kq36 (ninS ne46 nin0)).ext E38).keep Kq42 (ninS ne47 nin0))
    have F49 : Fld Z T42.heap b12 "com/example/tenorbook/tenorbook/engine/Ladder" "levels" "[Lcom/example/tenorbook/tenorbook/engine/Level;" (.ref o19) := ((((((P17_2.ext E26).keep Kq30 (ninS ne45 nin0)).ext E32).keep Kq36 (ninS ne46 nin0)).ext E38).keep Kq42 (ninS ne47 nin0))
    have F50 : Fld Z T42.heap b12 "com/example/tenorbook/tenorbook/engine/Ladder" "lowestBest" "Z" (.int j6) := ((((((F25.ext E26).keep Kq30 (ninS ne45 nin0)).ext E32).keep Kq36 (ninS ne46 nin0)).ext E38).keep Kq42 (ninS ne47 nin0))
    have F51 : Fld Z T42.heap b12 "com/example/tenorbook/tenorbook/engine/Ladder" "count" "I" (.int (0 : Int32)) := ((((((P17_4.ext E26).keep Kq30 (ninS ne45 nin0)).ext E32).keep Kq36 (ninS ne46 nin0)).ext E38).keep Kq42 (ninS ne47 nin0))
    have ne52 : o18 ≠ b26 := by omega
    have ne53 : o18 ≠ b32 := by omega
    have ne54 : o18 ≠ b38 := by omega
    have F55 : Arv Z T42.heap o18 r20 .long (4 : Int32) [(.long (0 : Int64)), (.long (0 : Int64)), (.long (0 : Int64)), (.long (0 : Int64))] (.long (0 : Int64)) := ((((((P17_5.ext E26).keep Kq30 (ninS ne52 nin0)).ext E32).keep Kq36 (ninS ne53 nin0)).ext E38).keep Kq42 (ninS ne54 nin0))
    have ne56 : o19 ≠ b26 := by omega
    have ne57 : o19 ≠ b32 := by omega
    have ne58 : o19 ≠ b38 := by omega
    have F59 : Arv Z T42.heap o19 r21 (.object "com/example/tenorbook/tenorbook/engine/Level") (4 : Int32) [.null, .null, .null, .null] .null := ((((((P17_6.ext E26).keep Kq30 (ninS ne56 nin0)).ext E32).keep Kq36 (ninS ne57 nin0)).ext E38).keep Kq42 (ninS ne58 nin0))
    have F60 : Exa Z T42.heap b26 "com/example/tenorbook/tenorbook/engine/Level" := ((((P30_0.ext E32).keep Kq36).ext E38).keep Kq42)
    have ne61 : b26 ≠ b32 := by omega
    have ne62 : b26 ≠ b38 := by omega
    have F63 : Fld Z T42.heap b26 "com/example/tenorbook/tenorbook/engine/Level" "ticks" "J" (.long qa) := ((((P30_1.ext E32).keep Kq36 (ninS ne61 nin0)).ext E38).keep Kq42 (ninS ne62 nin0))
    have F64 : Fld Z T42.heap b26 "com/example/tenorbook/tenorbook/engine/Level" "ladder" "Lcom/example/tenorbook/tenorbook/engine/Ladder;" .null := ((((P30_2.ext E32).keep Kq36 (ninS ne61 nin0)).ext E38).keep Kq42 (ninS ne62 nin0))
    obtain ⟨cq65, kq65, q65a, q65b, q65c⟩ := isOf hZ rfl F44
    obtain ⟨_, _, ⟨T65, L65, k65, n65⟩, -, X65, ⟨Lc65, hQ65, l65, y65, z65⟩, st65⟩ := X42.virtualBack hx (y := (⟨"com/example/tenorbook/tenorbook/engine/Ladder", "add", "(Lcom/example/tenorbook/tenorbook/engine/Level;)V"⟩ : MethodName)) (z := (⟨"com/example/tenorbook/tenorbook/engine/Ladder", "add", "(Lcom/example/tenorbook/tenorbook/engine/Level;)V"⟩ : MethodName)) hown (mvT hZ (hw _ (List.mem_of_getElem? (i := 29) rfl))) (mvT hZ (hw _ (List.mem_of_getElem? (i := 30) rfl))) (notFace_of_selects (args := #[]) (mvT hZ (hw _ (List.mem_of_getElem? (i := 32) rfl)))) (mvT hZ (hw _ (List.mem_of_getElem? (i := 32) rfl))) (mvT hZ (hw _ (List.mem_of_getElem? (i := 31) rfl))) (by decide) (backOf (W := 0) (add0 l Z a0 hw [] b12 b26 j6 o18 o19 r20 r21 qa T42.heap n0 (by omega)  F44 F48 F49 F50 F51 F55 F59 P17_7 F60 F63 F64 P17_10 P17_11 P17_12 (Ne.symm ne45) (Ne.symm ne52) (Ne.symm ne56) (by omega) (by omega) (by omega) (by omega)) hZ (hw _ (List.mem_of_getElem? (i := 33) rfl)) (hw _ (List.mem_of_getElem? (i := 2) rfl)) (by decide) (by decide)) q65a q65c (g := (mkF m 133 #[.val (.long qa), .second, .val (.long qb), .second, .val (.long qc), .second, .val (.int fl), .val (.int (1 : Int32)), .val (.int j6), .val (.int (0 : Int32)), .val (.int (0 : Int32)), .val (.ref b12), .val (.ref b26), .val (.ref b32), .val (.ref b38), .unset, .unset, .unset] [(.ref b26), (.ref b12)])) rfl (by rw [hml]; rfl) (Steps.refl _) (argsL := [(.ref b26)]) (rest := []) (lenOf pd_5 rfl) rfl (by show 2 * 0 + _ ≤ _; exact Nat.le_of_eq rfl) (hb hby at_133) (fun _ _ => ⟨rfl, rfl, (by decide : 6 + 0 ≤ _), (by decide : 27 + 0 ≤ _)⟩)
    dsimp only [Pt.U, Pt.locs, Pt.cells, Pt.slots] at X65 l65 y65 z65 st65 hQ65
    subst l65 y65 z65
    obtain ⟨r66, o67, rfl, Nq65, Kq65, P65_0, P65_1, P65_2, P65_3, P65_4, P65_5, P65_6, P65_7, P65_8, P65_9, P65_10, P65_11, P65_12⟩ := hQ65
    have N65 := Fr.app N42 Nq65
    have z65k : T42.heap.size ≤ T65.heap.size := Kq65.1
    refine Comes.go st65 ?_
    have lt_68 : o67 < T65.heap.size := P65_11.lt
    show Comes p e below _ (T65.setTop (mkF m 136 #[.val (.long qa), .second, .val (.long qb), .second, .val (.long qc), .second, .val (.int fl), .val (.int (1 : Int32)), .val (.int j6), .val (.int (0 : Int32)), .val (.int (0 : Int32)), .val (.ref b12), .val (.ref b26), .val (.ref b32), .val (.ref b38), .unset, .unset, .unset] []))
    refine Comes.st (fun t k => XS.iload X65.here hx rfl (hb hby at_136) rfl k) ?_
    show Comes p e below _ (T65.setTop (mkF m 138 #[.val (.long qa), .second, .val (.long qb), .second, .val (.long qc), .second, .val (.int fl), .val (.int (1 : Int32)), .val (.int j6), .val (.int (0 : Int32)), .val (.int (0 : Int32)), .val (.ref b12), .val (.ref b26), .val (.ref b32), .val (.ref b38), .unset, .unset, .unset] [(.int (0 : Int32))]))
    have hc138_69 : (0 : Int32) = (0 : Int32) := by decide
    refine Comes.st (fun t k => XS.ifYes X65.here hx rfl (pc0 := 138) (pc' := 148) rfl (hb hby at_138) rfl ((if0 _ _).trans (teq hc138_69).1) (by decide) (by decide) (XS.iload X65.here hx rfl (hb hby at_148) rfl k)) ?_
    show Comes p e below _ (T65.setTop (mkF m 150 #[.val (.long qa), .second, .val (.long qb), .second, .val (.long qc), .second, .val (.int fl), .val (.int (1 : Int32)), .val (.int j6), .val (.int (0 : Int32)), .val (.int (0 : Int32)), .val (.ref b12), .val (.ref b26), .val (.ref b32), .val (.ref b38), .unset, .unset, .unset] [(.int (0 : Int32))]))
    have hc150_70 : (0 : Int32) = (0 : Int32) := by decide
    refine Comes.st (fun t k => XS.ifYes X65.here hx rfl (pc0 := 150) (pc' := 160) rfl (hb hby at_150) rfl ((if0 _ _).trans (teq hc150_70).1) (by decide) (by decide) (XS.iload X65.here hx rfl (hb hby at_160) rfl k)) ?_
    show Comes p e below _ (T65.setTop (mkF m 162 #[.val (.long qa), .second, .val (.long qb), .second, .val (.long qc), .second, .val (.int fl), .val (.int (1 : Int32)), .val (.int j6), .val (.int (0 : Int32)), .val (.int (0 : Int32)), .val (.ref b12), .val (.ref b26), .val (.ref b32), .val (.ref b38), .unset, .unset, .unset] [(.int (0 : Int32))]))
    have hc162_71 : (0 : Int32) = (0 : Int32) := by decide
    refine Comes.st (fun t k => XS.ifYes X65.here hx rfl (pc0 := 162) (pc' := 179) rfl (hb hby at_162) rfl ((if0 _ _).trans (teq hc162_71).1) (by decide) (by decide) (XS.iconst X65.here hx rfl (hb hby at_179) (XS.iload X65.here hx rfl (hb hby at_180) rfl k))) ?_
    show Comes p e below _ (T65.setTop (mkF m 182 #[.val (.long qa), .second, .val (.long qb), .second, .val (.long qc), .second, .val (.int fl), .val (.int (1 : Int32)), .val (.int j6), .val (.int (0 : Int32)), .val (.int (0 : Int32)), .val (.ref b12), .val (.ref b26), .val (.ref b32), .val (.ref b38), .unset, .unset, .unset] [(.int (0 : Int32)), (.int (0 : Int32))]))
    have hc182_72 : (0 : Int32) = (0 : Int32) := by decide
    refine Comes.st (fun t k => XS.ifYes X65.here hx rfl (pc0 := 182) (pc' := 200) rfl (hb hby at_182) rfl ((if0 _ _).trans (teq hc182_72).1) (by decide) (by decide) (XS.iconst X65.here hx rfl (hb hby at_200) (XS.iadd X65.here hx rfl (hb hby at_201) rfl k))) ?_
    show Comes p e below _ (T65.setTop (mkF m 202 #[.val (.long qa), .second, .val (.long qb), .second, .val (.long qc), .second, .val (.int fl), .val (.int (1 : Int32)), .val (.int j6), .val (.int (0 : Int32)), .val (.int (0 : Int32)), .val (.ref b12), .val (.ref b26), .val (.ref b32), .val (.ref b38), .unset, .unset, .unset] [(.int ((0 : Int32) + (0 : Int32)))]))
    rw [show ((0 : Int32) + (0 : Int32)) = (0 : Int32) from by decide]
    show Comes p e below _ (T65.setTop (mkF m 202 #[.val (.long qa), .second, .val (.long qb), .second, .val (.long qc), .second, .val (.int fl), .val (.int (1 : Int32)), .val (.int j6), .val (.int (0 : Int32)), .val (.int (0 : Int32)), .val (.ref b12), .val (.ref b26), .val (.ref b32), .val (.ref b38), .unset, .unset, .unset] [(.int (0 : Int32))]))
    refine Comes.st (fun t k => XS.istore X65.here hx rfl (hb hby at_202) rfl (l' := #[.val (.long qa), .second, .val (.long qb), .second, .val (.long qc), .second, .val (.int fl), .val (.int (1 : Int32)), .val (.int j6), .val (.int (0 : Int32)), .val (.int (0 : Int32)), .val (.ref b12), .val (.ref b26), .val (.ref b32), .val (.ref b38), .val (.int (0 : Int32)), .unset, .unset]) rfl (XS.aload X65.here hx rfl (hb hby at_204) rfl rfl (XS.iload X65.here hx rfl (hb hby at_206) rfl k))) ?_
    show Comes p e below _ (T65.setTop (mkF m 208 #[.val (.long qa), .second, .val (.long qb), .second, .val (.long qc), .second, .val (.int fl), .val (.int (1 : Int32)), .val (.int j6), .val (.int (0 : Int32)), .val (.int (0 : Int32)), .val (.ref b12), .val (.ref b26), .val (.ref b32), .val (.ref b38), .val (.int (0 : Int32)), .unset, .unset] [(.int (0 : Int32)), (.ref b12)]))
    obtain ⟨cq73, kq73, q73a, q73b, q73c⟩ := isOf hZ rfl P65_0
    obtain ⟨_, _, ⟨T73, L73, k73, n73⟩, -, X73, ⟨Lc73, hQ73, l73, y73, z73⟩, st73⟩ := X65.virtualBack hx (y := (⟨"com/example/tenorbook/tenorbook/engine/Ladder", "best", "(I)Lcom/example/tenorbook/tenorbook/engine/Level;"⟩ : MethodName)) (z := (⟨"com/example/tenorbook/tenorbook/engine/Ladder", "best", "(I)Lcom/example/tenorbook/tenorbook/engine/Level;"⟩ : MethodName)) hown (mvT hZ (hw _ (List.mem_of_getElem? (i := 60) rfl))) (mvT hZ (hw _ (List.mem_of_getElem? (i := 61) rfl))) (notFace_of_selects (args := #[]) (mvT hZ (hw _ (List.mem_of_getElem? (i := 63) rfl)))) (mvT hZ (hw _ (List.mem_of_getElem? (i := 63) rfl))) (mvT hZ (hw _ (List.mem_of_getElem? (i := 62) rfl))) (by decide) (backOf (W := 0) (best1 l Z a0 hw [] b12 ((0 : Int32)) o19 r21 o67 T65.heap n0 (by omega)  P65_2 P65_4 P65_6 (by have a_0 := c_mask fl (3 : Int32) 2 (by decide) (by decide); have a_1 := c_irem (fl &&& (3 : Int32)) (3 : Int32) 3 (by decide); have a_2 := c_iadd ((fl &&& (3 : Int32)) % (3 : Int32)) (1 : Int32); rw [hv_v2] at a_2; have a_3 := c_and fl (4 : Int32) (by decide); have a_4 := rng32 ((fl &&& (3 : Int32)) % (3 : Int32)); have a_5 := rng32 (1 : Int32); have a_6 := rng32 (fl &&& (3 : Int32)); have a_7 := rng32 (fl &&& (4 : Int32)); have a_8 := rng32 fl; have c_0 := hc27_8; have c_1 := hc40_9; have c_2 := hc52_10; have c_3 := hc65_11; have c_4 := hc138_69; have c_5 := hc150_70; have c_6 := hc162_71; have c_7 := hc182_72; have c_8 := rel7; have c_9 := P17_13; have c_10 := P65_12; (try simp only [Int32.lt_iff_toInt_lt, Int64.lt_iff_toInt_lt, ← Int32.toInt_inj, ← Int64.toInt_inj, Int32.reduceToInt, Int64.reduceToInt, eq_self, and_true, true_and, or_true, true_or, and_false, false_and, or_false, false_or, not_true_eq_false, not_false_eq_true] at a_0 a_1 a_2 a_3 a_4 a_5 a_6 a_7 a_8 c_0 c_1 c_2 c_3 c_4 c_5 c_6 c_7 c_8 c_9 c_10 ⊢) <;> omega)) hZ (hw _ (List.mem_of_getElem? (i := 64) rfl)) (hw _ (List.mem_of_getElem? (i := 2) rfl)) (by decide) (by decide)) q73a q73c (g := (mkF m 208 #[.val (.long qa), .second, .val (.long qb), .second, .val (.long qc), .second, .val (.int fl), .val (.int (1 : Int32)), .val (.int j6), .val (.int (0 : Int32)), .val (.int (0 : Int32)), .val (.ref b12), .val (.ref b26), .val (.ref b32), .val (.ref b38), .val (.int (0 : Int32)), .unset, .unset] [(.int (0 : Int32)), (.ref b12)])) rfl (by rw [hml]; rfl) (Steps.refl _) (argsL := [(.int (0 : Int32))]) (rest := []) (lenOf pd_6 rfl) rfl (by show 2 * 0 + _ ≤ _; exact Nat.le_of_eq rfl) (hb hby at_208) (fun _ _ => ⟨rfl, rfl, (by decide : 6 + 0 ≤ _), (by decide : 27 + 0 ≤ _)⟩)
    dsimp only [Pt.U, Pt.locs, Pt.cells, Pt.slots] at X73 l73 y73 z73 st73 hQ73
    subst l73 y73 z73
    obtain ⟨o74, rfl, Nq73, hs73, P73_0⟩ := hQ73
    have N73 := Fr.app N65 Nq73
    refine Comes.go st73 ?_
    show Comes p e below _ (T73.setTop (mkF m 211 #[.val (.long qa), .second, .val (.long qb), .second, .val (.long qc), .second, .val (.int fl), .val (.int (1 : Int32)), .val (.int j6), .val (.int (0 : Int32)), .val (.int (0 : Int32)), .val (.ref b12), .val (.ref b26), .val (.ref b32), .val (.ref b38), .val (.int (0 : Int32)), .unset, .unset] [(.ref o74)]))
    refine Comes.st (fun t k => XS.aload X73.here hx rfl (hb hby at_211) rfl rfl k) ?_
    show Comes p e below _ (T73.setTop (mkF m 213 #[.val (.long qa), .second, .val (.long qb), .second, .val (.long qc), .second, .val (.int fl), .val (.int (1 : Int32)), .val (.int j6), .val (.int (0 : Int32)), .val (.int (0 : Int32)), .val (.ref b12), .val (.ref b26), .val (.ref b32), .val (.ref b38), .val (.int (0 : Int32)), .unset, .unset] [(.ref b26), (.ref o74)]))
    have hc213_75 : o74 = b26 := by apply own_ad_inj; have a_0 := c_mask fl (3 : Int32) 2 (by decide) (by decide); have a_1 := c_irem (fl &&& (3 : Int32)) (3 : Int32) 3 (by decide); have a_2 := c_iadd ((fl &&& (3 : Int32)) % (3 : Int32)) (1 : Int32); rw [hv_v2] at a_2; have a_3 := c_and fl (4 : Int32) (by decide); have a_4 := rng32 ((fl &&& (3 : Int32)) % (3 : Int32)); have a_5 := rng32 (1 : Int32); have a_6 := rng32 (fl &&& (3 : Int32)); have a_7 := rng32 (fl &&& (4 : Int32)); have a_8 := rng32 fl; have c_0 := hc27_8; have c_1 := hc40_9; have c_2 := hc52_10; have c_3 := hc65_11; have c_4 := hc138_69; have c_5 := hc150_70; have c_6 := hc162_71; have c_7 := hc182_72; have c_8 := P17_13; have c_9 := P65_12; have c_10 := P73_0; (try simp only [Int32.lt_iff_toInt_lt, Int64.lt_iff_toInt_lt, ← Int32.toInt_inj, ← Int64.toInt_inj, Int32.reduceToInt, Int64.reduceToInt, eq_self, and_true, true_and, or_true, true_or, and_false, false_and, or_false, false_or, not_true_eq_false, not_false_eq_true] at a_0 a_1 a_2 a_3 a_4 a_5 a_6 a_7 a_8 c_0 c_1 c_2 c_3 c_4 c_5 c_6 c_7 c_8 c_9 c_10 ⊢) <;> omega
    refine Comes.st (fun t k => Jvm.RoadKit.acmp (g := (mkF m 213 #[.val (.long qa), .second, .val (.long qb), .second, .val (.long qc), .second, .val (.int fl), .val (.int (1 : Int32)), .val (.int j6), .val (.int (0 : Int32)), .val (.int (0 : Int32)), .val (.ref b12), .val (.ref b26), .val (.ref b32), .val (.ref b38), .val (.int (0 : Int32)), .unset, .unset] [(.ref b26), (.ref o74)])) X73 hx rfl rfl rfl (pc0 := 213) (pc' := 216) (same := true) rfl (hb hby at_213) rfl (decide_eq_true (congrArg Value.ref hc213_75)) (by decide) (by decide) (XS.iconst X73.here hx rfl (hb hby at_216) (XS.goto X73.here hx rfl (pc0 := 217) (pc' := 221) rfl (hb hby at_217) (by decide) (by decide) (XS.istore X73.here hx rfl (hb hby at_221) rfl (l' := #[.val (.long qa), .second, .val (.long qb), .second, .val (.long qc), .second, .val (.int fl), .val (.int (1 : Int32)), .val (.int j6), .val (.int (0 : Int32)), .val (.int (0 : Int32)), .val (.ref b12), .val (.ref b26), .val (.ref b32), .val (.ref b38), .val (.int (0 : Int32)), .val (.int (1 : Int32)), .unset]) rfl (XS.iload X73.here hx rfl (hb hby at_223) rfl k))))) ?_
    show Comes p e below _ (T73.setTop (mkF m 225 #[.val (.long qa), .second, .val (.long qb), .second, .val (.long qc), .second, .val (.int fl), .val (.int (1 : Int32)), .val (.int j6), .val (.int (0 : Int32)), .val (.int (0 : Int32)), .val (.ref b12), .val (.ref b26), .val (.ref b32), .val (.ref b38), .val (.int (0 : Int32)), .val (.int (1 : Int32)), .unset] [(.int (0 : Int32))]))
    have hc225_76 : (0 : Int32) = (0 : Int32) := by decide
    refine Comes.st (fun t k => XS.ifYes X73.here hx rfl (pc0 := 225) (pc' := 291) rfl (hb hby at_225) rfl ((if0 _ _).trans (teq hc225_76).1) (by decide) (by decide) (XS.iload X73.here hx rfl (hb hby at_291) rfl k)) ?_
    show Comes p e below _ (T73.setTop (mkF m 293 #[.val (.long qa), .second, .val (.long qb), .second, .val (.long qc), .second, .val (.int fl), .val (.int (1 : Int32)), .val (.int j6), .val (.int (0 : Int32)), .val (.int (0 : Int32)), .val (.ref b12), .val (.ref b26), .val (.ref b32), .val (.ref b38), .val (.int (0 : Int32)), .val (.int (1 : Int32)), .unset] [(.int (0 : Int32))]))
    have hc293_77 : (0 : Int32) = (0 : Int32) := by decide
    refine Comes.st (fun t k => XS.ifYes X73.here hx rfl (pc0 := 293) (pc' := 355) rfl (hb hby at_293) rfl ((if0 _ _).trans (teq hc293_77).1) (by decide) (by decide) (XS.iload X73.here hx rfl (hb hby at_355) rfl k)) ?_
    show Comes p e below _ (T73.setTop (mkF m 357 #[.val (.long qa), .second, .val (.long qb), .second, .val (.long qc), .second, .val (.int fl), .val (.int (1 : Int32)), .val (.int j6), .val (.int (0 : Int32)), .val (.int (0 : Int32)), .val (.ref b12), .val (.ref b26), .val (.ref b32), .val (.ref b38), .val (.int (0 : Int32)), .val (.int (1 : Int32)), .unset] [(.int (1 : Int32))]))
    exact Comes.retN X73 hx (t := .boolean) Bd.returns (by simp) hlk (hb hby at_357) hs73 ⟨rfl, N73⟩ (by decide) (by decide)
  · show Comes p e below _ (s₁.setTop (mkF m 10 #[.val (.long qa), .second, .val (.long qb), .second, .val (.long qc), .second, .val (.int fl), .val (.int (2 : Int32)), .unset, .unset, .unset, .unset, .unset, .unset, .unset, .unset, .unset, .unset] []))
    refine Comes.st (fun t k => XS.iload X0.here hx rfl (hb hby at_10) rfl (XS.iconst X0.here hx rfl (hb hby at_12) (XS.iand X0.here hx rfl (hb hby at_13) rfl k))) ?_
    have J78 : Comes p e below (fun S' => ∃ (T' : State), ∃ (L' : List Loc), ∃ (j80 : Int32), (S' = T'.setTop (mkF m 22 #[.val (.long qa), .second, .val (.long qb), .second, .val (.long qc), .second, .val (.int fl), .val (.int (2 : Int32)), .unset, .unset, .unset, .unset, .unset, .unset, .unset, .unset, .unset, .unset] [(.int j80)])) ∧ (Stand p l e room_1 s m #[(.long qa), (.long qb), (.long qc), (.int fl)] below meth c T' L' 0 0) ∧ (T'.heap = h0) ∧ (Fr n0 L') ∧ (j80 = (0 : Int32) ∨ j80 = (1 : Int32))) (s₁.setTop (mkF m 14 #[.val (.long qa), .second, .val (.long qb), .second, .val (.long qc), .second, .val (.int fl), .val (.int (2 : Int32)), .unset, .unset, .unset, .unset, .unset, .unset, .unset, .unset, .unset, .unset] [(.int (fl &&& (4 : Int32)))])) := by
      show Comes p e below _ (s₁.setTop (mkF m 14 #[.val (.long qa), .second, .val (.long qb), .second, .val (.long qc), .second, .val (.int fl), .val (.int (2 : Int32)), .unset, .unset, .unset, .unset, .unset, .unset, .unset, .unset, .unset, .unset] [(.int (fl &&& (4 : Int32)))]))
      by_cases hc14_79 : (fl &&& (4 : Int32)) = (0 : Int32)
      · refine Comes.st (fun t k => XS.ifYes X0.here hx rfl (pc0 := 14) (pc' := 21) rfl (hb hby at_14) rfl ((if0 _ _).trans (teq hc14_79).1) (by decide) (by decide) (XS.iconst X0.here hx rfl (hb hby at_21) k)) ?_
        show Comes p e below _ (s₁.setTop (mkF m 22 #[.val (.long qa), .second, .val (.long qb), .second, .val (.long qc), .second, .val (.int fl), .val (.int (2 : Int32)), .unset, .unset, .unset, .unset, .unset, .unset, .unset, .unset, .unset, .unset] [(.int (0 : Int32))]))
        exact Comes.here ⟨_, _, (0 : Int32), rfl, X0, e0, N0, (by first | exact Or.inl rfl | exact Or.inr rfl)⟩
      · refine Comes.st (fun t k => XS.ifNo X0.here hx rfl (hb hby at_14) rfl ((if0 _ _).trans (feq hc14_79).1) (XS.iconst X0.here hx rfl (hb hby at_17) (XS.goto X0.here hx rfl (pc0 := 18) (pc' := 22) rfl (hb hby at_18) (by decide) (by decide) k))) ?_
        show Comes p e below _ (s₁.setTop (mkF m 22 #[.val (.long qa), .second, .val (.long qb), .second, .val (.long qc), .second, .val (.int fl), .val (.int (2 : Int32)), .unset, .unset, .unset, .unset, .unset, .unset, .unset, .unset, .unset, .unset] [(.int (1 : Int32))]))
        exact Comes.here ⟨_, _, (1 : Int32), rfl, X0, e0, N0, (by first | exact Or.inl rfl | exact Or.inr rfl)⟩
    obtain ⟨_, st81, T81, L81, j80, rfl, X81, e81, N81, rel81⟩ := J78
    refine Comes.go st81 ?_
    show Comes p e below _ (T81.setTop (mkF m 22 #[.val (.long qa), .second, .val (.long qb), .second, .val (.long qc), .second, .val (.int fl), .val (.int (2 : Int32)), .unset, .unset, .unset, .unset, .unset, .unset, .unset, .unset, .unset, .unset] [(.int j80)]))
    refine Comes.st (fun t k => XS.istore X81.here hx rfl (hb hby at_22) rfl (l' := #[.val (.long qa), .second, .val (.long qb), .second, .val (.long qc), .second, .val (.int fl), .val (.int (2 : Int32)), .val (.int j80), .unset, .unset, .unset, .unset, .unset, .unset, .unset, .unset, .unset]) rfl (XS.iload X81.here hx rfl (hb hby at_24) rfl (XS.iconst X81.here hx rfl (hb hby at_26) k))) ?_
    show Comes p e below _ (T81.setTop (mkF m 27 #[.val (.long qa), .second, .val (.long qb), .second, .val (.long qc), .second, .val (.int fl), .val (.int (2 : Int32)), .val (.int j80), .unset, .unset, .unset, .unset, .unset, .unset, .unset, .unset, .unset] [(.int (2 : Int32)), (.int (2 : Int32))]))
    have hc27_82 : ¬ ((2 : Int32) < (2 : Int32)) := by decide
    refine Comes.st (fun t k => XS.icmpNo X81.here hx rfl (hb hby at_27) rfl (flt hc27_82).1 (XS.iconst X81.here hx rfl (hb hby at_30) (XS.goto X81.here hx rfl (pc0 := 31) (pc' := 35) rfl (hb hby at_31) (by decide) (by decide) (XS.istore X81.here hx rfl (hb hby at_35) rfl (l' := #[.val (.long qa), .second, .val (.long qb), .second, .val (.long qc), .second, .val (.int fl), .val (.int (2 : Int32)), .val (.int j80), .val (.int (1 : Int32)), .unset, .unset, .unset, .unset, .unset, .unset, .unset, .unset]) rfl (XS.iload X81.here hx rfl (hb hby at_37) rfl (XS.iconst X81.here hx rfl (hb hby at_39) k)))))) ?_
    show Comes p e below _ (T81.setTop (mkF m 40 #[.val (.long qa), .second, .val (.long qb), .second, .val (.long qc), .second, .val (.int fl), .val (.int (2 : Int32)), .val (.int j80), .val (.int (1 : Int32)), .unset, .unset, .unset, .unset, .unset, .unset, .unset, .unset] [(.int (3 : Int32)), (.int (2 : Int32))]))
    have hc40_83 : (2 : Int32) < (3 : Int32) := by decide
    refine Comes.st (fun t k => XS.icmpYes X81.here hx rfl (pc0 := 40) (pc' := 47) rfl (hb hby at_40) rfl (tlt hc40_83).1 (by decide) (by decide) (XS.iconst X81.here hx rfl (hb hby at_47) (XS.istore X81.here hx rfl (hb hby at_48) rfl (l' := #[.val (.long qa), .second, .val (.long qb), .second, .val (.long qc), .second, .val (.int fl), .val (.int (2 : Int32)), .val (.int j80), .val (.int (1 : Int32)), .val (.int (0 : Int32)), .unset, .unset, .unset, .unset, .unset, .unset, .unset]) rfl (XS.iload X81.here hx rfl (hb hby at_50) rfl k)))) ?_
    show Comes p e below _ (T81.setTop (mkF m 52 #[.val (.long qa), .second, .val (.long qb), .second, .val (.long qc), .second, .val (.int fl), .val (.int (2 : Int32)), .val (.int j80), .val (.int (1 : Int32)), .val (.int (0 : Int32)), .unset, .unset, .unset, .unset, .unset, .unset, .unset] [(.int (1 : Int32))]))
    have hc52_84 : ¬ ((1 : Int32) = (0 : Int32)) := by decide
    refine Comes.st (fun t k => XS.ifNo X81.here hx rfl (hb hby at_52) rfl ((if0 _ _).trans (feq hc52_84).1) (XS.lloadN X81.here hx rfl (hb hby at_55) rfl (XS.lloadN X81.here hx rfl (hb hby at_56) rfl (XS.lcmp X81.here hx rfl (hb hby at_57) rfl k)))) ?_
    show Comes p e below _ (T81.setTop (mkF m 58 #[.val (.long qa), .second, .val (.long qb), .second, .val (.long qc), .second, .val (.int fl), .val (.int (2 : Int32)), .val (.int j80), .val (.int (1 : Int32)), .val (.int (0 : Int32)), .unset, .unset, .unset, .unset, .unset, .unset, .unset] [(.int (lcmpW qa qb))]))
    by_cases hc58_85 : qa = qb
    · refine Comes.st (fun t k => XS.ifNo X81.here hx rfl (hb hby at_58) rfl ((if0 _ _).trans (teq ((lw_eq _ _).mpr hc58_85)).2) (XS.iconst X81.here hx rfl (hb hby at_61) k)) ?_
      show Comes p e below _ (T81.setTop (mkF m 62 #[.val (.long qa), .second, .val (.long qb), .second, .val (.long qc), .second, .val (.int fl), .val (.int (2 : Int32)), .val (.int j80), .val (.int (1 : Int32)), .val (.int (0 : Int32)), .unset, .unset, .unset, .unset, .unset, .unset, .unset] [(.int (1 : Int32))]))
      exact Comes.retN X81 hx (t := .boolean) Bd.returns (by simp) hlk (hb hby at_62) e81 ⟨rfl, N81⟩ (by decide) (by decide)
    · refine Comes.st (fun t k => XS.ifYes X81.here hx rfl (pc0 := 58) (pc' := 63) rfl (hb hby at_58) rfl ((if0 _ _).trans (feq (fun q => hc58_85 ((lw_eq _ _).mp q))).2) (by decide) (by decide) (XS.iload X81.here hx rfl (hb hby at_63) rfl k)) ?_
      show Comes p e below _ (T81.setTop (mkF m 65 #[.val (.long qa), .second, .val (.long qb), .second, .val (.long qc), .second, .val (.int fl), .val (.int (2 : Int32)), .val (.int j80), .val (.int (1 : Int32)), .val (.int (0 : Int32)), .unset, .unset, .unset, .unset, .unset, .unset, .unset] [(.int (0 : Int32))]))
      have hc65_86 : (0 : Int32) = (0 : Int32) := by decide
      refine Comes.st (fun t k => XS.ifYes X81.here hx rfl (pc0 := 65) (pc' := 84) rfl (hb hby at_65) rfl ((if0 _ _).trans (teq hc65_86).1) (by decide) (by decide) k) ?_
      show Comes p e below _ (T81.setTop (mkF m 84 #[.val (.long qa), .second, .val (.long qb), .second, .val (.long qc), .second, .val (.int fl), .val (.int (2 : Int32)), .val (.int j80), .val (.int (1 : Int32)), .val (.int (0 : Int32)), .unset, .unset, .unset, .unset, .unset, .unset, .unset] []))
      obtain ⟨T87, h87, X87, e87, E87, A87, D87, -, st87⟩ := newO X81 hx hZ hown (hw _ (List.mem_of_getElem? (i := 0) rfl)) (hw _ (List.mem_of_getElem? (i := 1) rfl)) (hw _ (List.mem_of_getElem? (i := 2) rfl)) e81 (g := (mkF m 84 #[.val (.long qa), .second, .val (.long qb), .second, .val (.long qc), .second, .val (.int fl), .val (.int (2 : Int32)), .val (.int j80), .val (.int (1 : Int32)), .val (.int (0 : Int32)), .unset, .unset, .unset, .unset, .unset, .unset, .unset] [])) rfl (hb hby at_84) (by decide) (by decide)
      obtain ⟨b87, g87⟩ : ∃ z, z = h0.size := ⟨_, rfl⟩
      rw [← g87] at A87 D87 st87
      have z87 : h0.size ≤ h87.size := E87.1
      have lt87 : b87 < h87.size := A87.lt
      have F88 : Fld Z h87 b87 "com/example/tenorbook/tenorbook/engine/Ladder" "ticks" "[J" .null := D87 (Or.inl (hw _ (List.mem_of_getElem? (i := 11) rfl))) (ty := (.array .long)) (by decide)
      have F89 : Fld Z h87 b87 "com/example/tenorbook/tenorbook/engine/Ladder" "levels" "[Lcom/example/tenorbook/tenorbook/engine/Level;" .null := D87 (Or.inl (hw _ (List.mem_of_getElem? (i := 15) rfl))) (ty := (.array (.object "com/example/tenorbook/tenorbook/engine/Level"))) (by decide)
      have F90 : Fld Z h87 b87 "com/example/tenorbook/tenorbook/engine/Ladder" "lowestBest" "Z" (.int (0 : Int32)) := D87 (Or.inr (hw _ (List.mem_of_getElem? (i := 17) rfl))) (ty := .boolean) (by decide)
      have F91 : Fld Z h87 b87 "com/example/tenorbook/tenorbook/engine/Ladder" "count" "I" (.int (0 : Int32)) := D87 (Or.inl (hw _ (List.mem_of_getElem? (i := 44) rfl))) (ty := .int) (by decide)
      refine Comes.st st87 ?_
      show Comes p e below _ (T87.setTop (mkF m 87 #[.val (.long qa), .second, .val (.long qb), .second, .val (.long qc), .second, .val (.int fl), .val (.int (2 : Int32)), .val (.int j80), .val (.int (1 : Int32)), .val (.int (0 : Int32)), .unset, .unset, .unset, .unset, .unset, .unset, .unset] [(.ref b87)]))
      refine Comes.st (fun t k => XS.dup X87.here hx rfl (hb hby at_87) rfl rfl (XS.iload X87.here hx rfl (hb hby at_88) rfl k)) ?_
      show Comes p e below _ (T87.setTop (mkF m 90 #[.val (.long qa), .second, .val (.long qb), .second, .val (.long qc), .second, .val (.int fl), .val (.int (2 : Int32)), .val (.int j80), .val (.int (1 : Int32)), .val (.int (0 : Int32)), .unset, .unset, .unset, .unset, .unset, .unset, .unset] [(.int j80), (.ref b87), (.ref b87)]))
      obtain ⟨_, _, ⟨T92, L92, k92, n92⟩, -, X92, ⟨Lc92, hQ92, l92, y92, z92⟩, st92⟩ := X87.specialBack hx (y := (⟨"com/example/tenorbook/tenorbook/engine/Ladder", "<init>", "(Z)V"⟩ : MethodName)) rfl hown (mvT hZ (hw _ (List.mem_of_getElem? (i := 3) rfl))) (mvT hZ (hw _ (List.mem_of_getElem? (i := 4) rfl))) (mvT hZ (hw _ (List.mem_of_getElem? (i := 5) rfl))) (by decide) (backOf (W := 1) (rm1 l Z a0 hw [] b87 j80 h87 n0 (by omega)  A87 F88 F89 F90 F91 (by omega)) hZ (hw _ (List.mem_of_getElem? (i := 5) rfl)) (hw _ (List.mem_of_getElem? (i := 2) rfl)) (by decide) (by decide)) (g := (mkF m 90 #[.val (.long qa), .second, .val (.long qb), .second, .val (.long qc), .second, .val (.int fl), .val (.int (2 : Int32)), .val (.int j80), .val (.int (1 : Int32)), .val (.int (0 : Int32)), .unset, .unset, .unset, .unset, .unset, .unset, .unset] [(.int j80), (.ref b87), (.ref b87)])) rfl (by rw [hml]; rfl) (Steps.refl _) (a := b87) (argsL := [(.int j80)]) (rest := [(.ref b87)]) (lenOf pd_3 rfl) rfl (by show 2 * 0 + _ ≤ _; exact Nat.le_of_eq rfl) (hb hby at_90) (fun _ _ => ⟨rfl, e87, (by decide : 1 + 2 ≤ _), (by decide : 4 + 8 ≤ _)⟩)
      dsimp only [Pt.U, Pt.locs, Pt.cells, Pt.slots] at X92 l92 y92 z92 st92 hQ92
      subst l92 y92 z92
      obtain ⟨o93, o94, r95, r96, rfl, Nq92, Kq92, P92_0, P92_1, P92_2, P92_3, P92_4, P92_5, P92_6, P92_7, P92_8, P92_9, P92_10, P92_11, P92_12, P92_13⟩ := hQ92
      have N92 := Fr.app N81 Nq92
      have z92k : h87.size ≤ T92.heap.size := Kq92.1
      refine Comes.go st92 ?_
      have lt_97 : b87 < T92.heap.size := P92_0.lt
      have lt_98 : o93 < T92.heap.size := P92_5.lt
      have lt_99 : o94 < T92.heap.size := P92_6.lt
      have hlb : nar .boolean j80 = j80 := by rcases rel81 with q | q <;> rw [q] <;> rfl
      have F100 : Fld Z T92.heap b87 "com/example/tenorbook/tenorbook/engine/Ladder" "lowestBest" "Z" (.int j80) := by have q := P92_3; rw [hlb] at q; exact q
      show Comes p e below _ (T92.setTop (mkF m 93 #[.val (.long qa), .second, .val (.long qb), .second, .val (.long qc), .second, .val (.int fl), .val (.int (2 : Int32)), .val (.int j80), .val (.int (1 : Int32)), .val (.int (0 : Int32)), .unset, .unset, .unset, .unset, .unset, .unset, .unset] [(.ref b87)]))
      refine Comes.st (fun t k => XS.astore X92.here hx rfl (hb hby at_93) rfl rfl (l' := #[.val (.long qa), .second, .val (.long qb), .second, .val (.long qc), .second, .val (.int fl), .val (.int (2 : Int32)), .val (.int j80), .val (.int (1 : Int32)), .val (.int (0 : Int32)), .val (.ref b87), .unset, .unset, .unset, .unset, .unset, .unset]) rfl k) ?_
      show Comes p e below _ (T92.setTop (mkF m 95 #[.val (.long qa), .second, .val (.long qb), .second, .val (.long qc), .second, .val (.int fl), .val (.int (2 : Int32)), .val (.int j80), .val (.int (1 : Int32)), .val (.int (0 : Int32)), .val (.ref b87), .unset, .unset, .unset, .unset, .unset, .unset] []))
      obtain ⟨T101, h101, X101, e101, E101, A101, D101, -, st101⟩ := newO X92 hx hZ hown (hw _ (List.mem_of_getElem? (i := 18) rfl)) (hw _ (List.mem_of_getElem? (i := 19) rfl)) (hw _ (List.mem_of_getElem? (i := 20) rfl)) rfl (g := (mkF m 95 #[.val (.long qa), .second, .val (.long qb), .second, .val (.long qc), .second, .val (.int fl), .val (.int (2 : Int32)), .val (.int j80), .val (.int (1 : Int32)), .val (.int (0 : Int32)), .val (.ref b87), .unset, .unset, .unset, .unset, .unset, .unset] [])) rfl (hb hby at_95) (by decide) (by decide)
      obtain ⟨b101, g101⟩ : ∃ z, z = T92.heap.size := ⟨_, rfl⟩
      rw [← g101] at A101 D101 st101
      have z101 : T92.heap.size ≤ h101.size := E101.1
      have lt101 : b101 < h101.size := A101.lt
      have F102 : Fld Z h101 b101 "com/example/tenorbook/tenorbook/engine/Level" "ticks" "J" (.long (0 : Int64)) := D101 (Or.inr (hw _ (List.mem_of_getElem? (i := 26) rfl))) (ty := .long) (by decide)
      have F103 : Fld Z h101 b101 "com/example/tenorbook/tenorbook/engine/Level" "rate" "Ljava/math/BigDecimal;" .null := D101 (Or.inr (hw _ (List.mem_of_getElem? (i := 28) rfl))) (ty := (.object "java/math/BigDecimal")) (by decide)
      have F104 : Fld Z h101 b101 "com/example/tenorbook/tenorbook/engine/Level" "ladder" "Lcom/example/tenorbook/tenorbook/engine/Ladder;" .null := D101 (Or.inl (hw _ (List.mem_of_getElem? (i := 51) rfl))) (ty := (.object "com/example/tenorbook/tenorbook/engine/Ladder")) (by decide)
      refine Comes.st st101 ?_
      show Comes p e below _ (T101.setTop (mkF m 98 #[.val (.long qa), .second, .val (.long qb), .second, .val (.long qc), .second, .val (.int fl), .val (.int (2 : Int32)), .val (.int j80), .val (.int (1 : Int32)), .val (.int (0 : Int32)), .val (.ref b87), .unset, .unset, .unset, .unset, .unset, .unset] [(.ref b101)]))
      refine Comes.st (fun t k => XS.dup X101.here hx rfl (hb hby at_98) rfl rfl (XS.lloadN X101.here hx rfl (hb hby at_99) rfl (XS.aconstNull X101.here hx rfl (hb hby at_100) k))) ?_
      show Comes p e below _ (T101.setTop (mkF m 101 #[.val (.long qa), .second, .val (.long qb), .second, .val (.long qc), .second, .val (.int fl), .val (.int (2 : Int32)), .val (.int j80), .val (.int (1 : Int32)), .val (.int (0 : Int32)), .val (.ref b87), .unset, .unset, .unset, .unset, .unset, .unset] [.null, (.long qa), (.ref b101), (.ref b101)]))
      obtain ⟨_, _, ⟨T105, L105, k105, n105⟩, -, X105, ⟨Lc105, hQ105, l105, y105, z105⟩, st105⟩ := X101.specialBack hx (y := (⟨"com/example/tenorbook/tenorbook/engine/Level", "<init>", "(JLjava/math/BigDecimal;)V"⟩ : MethodName)) rfl hown (mvT hZ (hw _ (List.mem_of_getElem? (i := 21) rfl))) (mvT hZ (hw _ (List.mem_of_getElem? (i := 22) rfl))) (mvT hZ (hw _ (List.mem_of_getElem? (i := 23) rfl))) (by decide) (backOf (W := 1) (rm3 l Z a0 hw [] b101 qa h101 n0 (by omega)  A101 F102 F103 F104 (by omega)) hZ (hw _ (List.mem_of_getElem? (i := 23) rfl)) (hw _ (List.mem_of_getElem? (i := 20) rfl)) (by decide) (by decide)) (g := (mkF m 101 #[.val (.long qa), .second, .val (.long qb), .second, .val (.long qc), .second, .val (.int fl), .val (.int (2 : Int32)), .val (.int j80), .val (.int (1 : Int32)), .val (.int (0 : Int32)), .val (.ref b87), .unset, .unset, .unset, .unset, .unset, .unset] [.null, (.long qa), (.ref b101), (.ref b101)])) rfl (by rw [hml]; rfl) (Steps.refl _) (a := b101) (argsL := [(.long qa), .null]) (rest := [(.ref b101)]) (lenOf pd_4 rfl) rfl (by show 2 * 0 + _ ≤ _; exact Nat.le_of_eq rfl) (hb hby at_101) (fun _ _ => ⟨rfl, e101, (by decide : 4 + 0 ≤ _), (by decide : 17 + 0 ≤ _)⟩)
      dsimp only [Pt.U, Pt.locs, Pt.cells, Pt.slots] at X105 l105 y105 z105 st105 hQ105
      subst l105 y105 z105
      obtain ⟨rfl, Nq105, Kq105, P105_0, P105_1, P105_2⟩ := hQ105
      have N105 := Fr.app N92 Nq105
      have z105k : h101.size ≤ T105.heap.size := Kq105.1
      refine Comes.go st105 ?_
      have lt_106 : b101 < T105.heap.size := P105_0.lt
      show Comes p e below _ (T105.setTop (mkF m 104 #[.val (.long qa), .second, .val (.long qb), .second, .val (.long qc), .second, .val (.int fl), .val (.int (2 : Int32)), .val (.int j80), .val (.int (1 : Int32)), .val (.int (0 : Int32)), .val (.ref b87), .unset, .unset, .unset, .unset, .unset, .unset] [(.ref b101)]))
      refine Comes.st (fun t k => XS.astore X105.here hx rfl (hb hby at_104) rfl rfl (l' := #[.val (.long qa), .second, .val (.long qb), .second, .val (.long qc), .second, .val (.int fl), .val (.int (2 : Int32)), .val (.int j80), .val (.int (1 : Int32)), .val (.int (0 : Int32)), .val (.ref b87), .val (.ref b101), .unset, .unset, .unset, .unset, .unset]) rfl k) ?_
      show Comes p e below _ (T105.setTop (mkF m 106 #[.val (.long qa), .second, .val (.long qb), .second, .val (.long qc), .second, .val (.int fl), .val (.int (2 : Int32)), .val (.int j80), .val (.int (1 : Int32)), .val (.int (0 : Int32)), .val (.ref b87), .val (.ref b101), .unset, .unset, .unset, .unset, .unset] []))
      obtain ⟨T107, h107, X107, e107, E107, A107, D107, -, st107⟩ := newO X105 hx hZ hown (hw _ (List.mem_of_getElem? (i := 18) rfl)) (hw _ (List.mem_of_getElem? (i := 19) rfl)) (hw _ (List.mem_of_getElem? (i := 20) rfl)) rfl (g := (mkF m 106 #[.val (.long qa), .second, .val (.long qb), .second, .val (.long qc), .second, .val (.int fl), .val (.int (2 : Int32)), .val (.int j80), .val (.int (1 : Int32)), .val (.int (0 : Int32)), .val (.ref b87), .val (.ref b101), .unset, .unset, .unset, .unset, .unset] [])) rfl (hb hby at_106) (by decide) (by decide)
      obtain ⟨b107, g107⟩ : ∃ z, z = T105.heap.size := ⟨_, rfl⟩
      rw [← g107] at A107 D107 st107
      have z107 : T105.heap.size ≤ h107.size := E107.1
      have lt107 : b107 < h107.size := A107.lt
      have F108 : Fld Z h107 b107 "com/example/tenorbook/tenorbook/engine/Level" "ticks" "J" (.long (0 : Int64)) := D107 (Or.inr (hw _ (List.mem_of_getElem? (i := 26) rfl))) (ty := .long) (by decide)
      have F109 : Fld Z h107 b107 "com/example/tenorbook/tenorbook/engine/Level" "rate" "Ljava/math/BigDecimal;" .null := D107 (Or.inr (hw _ (List.mem_of_getElem? (i := 28) rfl))) (ty := (.object "java/math/BigDecimal")) (by decide)
      have F110 : Fld Z h107 b107 "com/example/tenorbook/tenorbook/engine/Level" "ladder" "Lcom/example/tenorbook/tenorbook/engine/Ladder;" .null := D107 (Or.inl (hw _ (List.mem_of_getElem? (i := 51) rfl))) (ty := (.object "com/example/tenorbook/tenorbook/engine/Ladder")) (by decide)
      refine Comes.st st107 ?_
      show Comes p e below _ (T107.setTop (mkF m 109 #[.val (.long qa), .second, .val (.long qb), .second, .val (.long qc), .second, .val (.int fl), .val (.int (2 : Int32)), .val (.int j80), .val (.int (1 : Int32)), .val (.int (0 : Int32)), .val (.ref b87), .val (.ref b101), .unset, .unset, .unset, .unset, .unset] [(.ref b107)]))
      refine Comes.st (fun t k => XS.dup X107.here hx rfl (hb hby at_109) rfl rfl (XS.lloadN X107.here hx rfl (hb hby at_110) rfl (XS.aconstNull X107.here hx rfl (hb hby at_111) k))) ?_
      show Comes p e below _ (T107.setTop (mkF m 112 #[.val (.long qa), .second, .val (.long qb), .second, .val (.long qc), .second, .val (.int fl), .val (.int (2 : Int32)), .val (.int j80), .val (.int (1 : Int32)), .val (.int (0 : Int32)), .val (.ref b87), .val (.ref b101), .unset, .unset, .unset, .unset, .unset] [.null, (.long qb), (.ref b107), (.ref b107)]))
      obtain ⟨_, _, ⟨T111, L111, k111, n111⟩, -, X111, ⟨Lc111, hQ111, l111, y111, z111⟩, st111⟩ := X107.specialBack hx (y := (⟨"com/example/tenorbook/tenorbook/engine/Level", "<init>", "(JLjava/math/BigDecimal;)V"⟩ : MethodName)) rfl hown (mvT hZ (hw _ (List.mem_of_getElem? (i := 21) rfl))) (mvT hZ (hw _ (List.mem_of_getElem? (i := 22) rfl))) (mvT hZ (hw _ (List.mem_of_getElem? (i := 23) rfl))) (by decide) (backOf (W := 1) (rm3 l Z a0 hw [] b107 qb h107 n0 (by omega)  A107 F108 F109 F110 (by omega)) hZ (hw _ (List.mem_of_getElem? (i := 23) rfl)) (hw _ (List.mem_of_getElem? (i := 20) rfl)) (by decide) (by decide)) (g := (mkF m 112 #[.val (.long qa), .second, .val (.long qb), .second, .val (.long qc), .second, .val (.int fl), .val (.int (2 : Int32)), .val (.int j80), .val (.int (1 : Int32)), .val (.int (0 : Int32)), .val (.ref b87), .val (.ref b101), .unset, .unset, .unset, .unset, .unset] [.null, (.long qb), (.ref b107), (.ref b107)])) rfl (by rw [hml]; rfl) (Steps.refl _) (a := b107) (argsL := [(.long qb), .null]) (rest := [(.ref b107)]) (lenOf pd_4 rfl) rfl (by show 2 * 0 + _ ≤ _; exact Nat.le_of_eq rfl) (hb hby at_112) (fun _ _ => ⟨rfl, e107, (by decide : 5 + 0 ≤ _), (by decide : 22 + 0 ≤ _)⟩)
      dsimp only [Pt.U, Pt.locs, Pt.cells, Pt.slots] at X111 l111 y111 z111 st111 hQ111
      subst l111 y111 z111
      obtain ⟨rfl, Nq111, Kq111, P111_0, P111_1, P111_2⟩ := hQ111
      have N111 := Fr.app N105 Nq111
      have z111k : h107.size ≤ T111.heap.size := Kq111.1
      refine Comes.go st111 ?_
      have lt_112 : b107 < T111.heap.size := P111_0.lt
      show Comes p e below _ (T111.setTop (mkF m 115 #[.val (.long qa), .second, .val (.long qb), .second, .val (.long qc), .second, .val (.int fl), .val (.int (2 : Int32)), .val (.int j80), .val (.int (1 : Int32)), .val (.int (0 : Int32)), .val (.ref b87), .val (.ref b101), .unset, .unset, .unset, .unset, .unset] [(.ref b107)]))
      refine Comes.st (fun t k => XS.astore X111.here hx rfl (hb hby at_115) rfl rfl (l' := #[.val (.long qa), .second, .val (.long qb), .second, .val (.long qc), .second, .val (.int fl), .val (.int (2 : Int32)), .val (.int j80), .val (.int (1 : Int32)), .val (.int (0 : Int32)), .val (.ref b87), .val (.ref b101), .val (.ref b107), .unset, .unset, .unset, .unset]) rfl k) ?_
      show Comes p e below _ (T111.setTop (mkF m 117 #[.val (.long qa), .second, .val (.long qb), .second, .val (.long qc), .second, .val (.int fl), .val (.int (2 : Int32)), .val (.int j80), .val (.int (1 : Int32)), .val (.int (0 : Int32)), .val (.ref b87), .val (.ref b101), .val (.ref b107), .unset, .unset, .unset, .unset] []))
      obtain ⟨T113, h113, X113, e113, E113, A113, D113, -, st113⟩ := newO X111 hx hZ hown (hw _ (List.mem_of_getElem? (i := 18) rfl)) (hw _ (List.mem_of_getElem? (i := 19) rfl)) (hw _ (List.mem_of_getElem? (i := 20) rfl)) rfl (g := (mkF m 117 #[.val (.long qa), .second, .val (.long qb), .second, .val (.long qc), .second, .val (.int fl), .val (.int (2 : Int32)), .val (.int j80), .val (.int (1 : Int32)), .val (.int (0 : Int32)), .val (.ref b87), .val (.ref b101), .val (.ref b107), .unset, .unset, .unset, .unset] [])) rfl (hb hby at_117) (by decide) (by decide)
      obtain ⟨b113, g113⟩ : ∃ z, z = T111.heap.size := ⟨_, rfl⟩
      rw [← g113] at A113 D113 st113
      have z113 : T111.heap.size ≤ h113.size := E113.1
      have lt113 : b113 < h113.size := A113.lt
      have F114 : Fld Z h113 b113 "com/example/tenorbook/tenorbook/engine/Level" "ticks" "J" (.long (0 : Int64)) := D113 (Or.inr (hw _ (List.mem_of_getElem? (i := 26) rfl))) (ty := .long) (by decide)
      have F115 : Fld Z h113 b113 "com/example/tenorbook/tenorbook/engine/Level" "rate" "Ljava/math/BigDecimal;" .null := D113 (Or.inr (hw _ (List.mem_of_getElem? (i := 28) rfl))) (ty := (.object "java/math/BigDecimal")) (by decide)
      have F116 : Fld Z h113 b113 "com/example/tenorbook/tenorbook/engine/Level" "ladder" "Lcom/example/tenorbook/tenorbook/engine/Ladder;" .null := D113 (Or.inl (hw _ (List.mem_of_getElem? (i := 51) rfl))) (ty := (.object "com/example/tenorbook/tenorbook/engine/Ladder")) (by decide)
      refine Comes.st st113 ?_
      show Comes p e below _ (T113.setTop (mkF m 120 #[.val (.long qa), .second, .val (.long qb), .second, .val (.long qc), .second, .val (.int fl), .val (.int (2 : Int32)), .val (.int j80), .val (.int (1 : Int32)), .val (.int (0 : Int32)), .val (.ref b87), .val (.ref b101), .val (.ref b107), .unset, .unset, .unset, .unset] [(.ref b113)]))
      refine Comes.st (fun t k => XS.dup X113.here hx rfl (hb hby at_120) rfl rfl (XS.lload X113.here hx rfl (hb hby at_121) rfl (XS.aconstNull X113.here hx rfl (hb hby at_123) k))) ?_
      show Comes p e below _ (T113.setTop (mkF m 124 #[.val (.long qa), .second, .val (.long qb), .second, .val (.long qc), .second, .val (.int fl), .val (.int (2 : Int32)), .val (.int j80), .val (.int (1 : Int32)), .val (.int (0 : Int32)), .val (.ref b87), .val (.ref b101), .val (.ref b107), .unset, .unset, .unset, .unset] [.null, (.long qc), (.ref b113), (.ref b113)]))
      obtain ⟨_, _, ⟨T117, L117, k117, n117⟩, -, X117, ⟨Lc117, hQ117, l117, y117, z117⟩, st117⟩ := X113.specialBack hx (y := (⟨"com/example/tenorbook/tenorbook/engine/Level", "<init>", "(JLjava/math/BigDecimal;)V"⟩ : MethodName)) rfl hown (mvT hZ (hw _ (List.mem_of_getElem? (i := 21) rfl))) (mvT hZ (hw _ (List.mem_of_getElem? (i := 22) rfl))) (mvT hZ (hw _ (List.mem_of_getElem? (i := 23) rfl))) (by decide) (backOf (W := 1) (rm3 l Z a0 hw [] b113 qc h113 n0 (by omega)  A113 F114 F115 F116 (by omega)) hZ (hw _ (List.mem_of_getElem? (i := 23) rfl)) (hw _ (List.mem_of_getElem? (i := 20) rfl)) (by decide) (by decide)) (g := (mkF m 124 #[.val (.long qa), .second, .val (.long qb), .second, .val (.long qc), .second, .val (.int fl), .val (.int (2 : Int32)), .val (.int j80), .val (.int (1 : Int32)), .val (.int (0 : Int32)), .val (.ref b87), .val (.ref b101), .val (.ref b107), .unset, .unset, .unset, .unset] [.null, (.long qc), (.ref b113), (.ref b113)])) rfl (by rw [hml]; rfl) (Steps.refl _) (a := b113) (argsL := [(.long qc), .null]) (rest := [(.ref b113)]) (lenOf pd_4 rfl) rfl (by show 2 * 0 + _ ≤ _; exact Nat.le_of_eq rfl) (hb hby at_124) (fun _ _ => ⟨rfl, e113, (by decide : 6 + 0 ≤ _), (by decide : 27 + 0 ≤ _)⟩)
      dsimp only [Pt.U, Pt.locs, Pt.cells, Pt.slots] at X117 l117 y117 z117 st117 hQ117
      subst l117 y117 z117
      obtain ⟨rfl, Nq117, Kq117, P117_0, P117_1, P117_2⟩ := hQ117
      have N117 := Fr.app N111 Nq117
      have z117k : h113.size ≤ T117.heap.size := Kq117.1
      refine Comes.go st117 ?_
      have lt_118 : b113 < T117.heap.size := P117_0.lt
      show Comes p e below _ (T117.setTop (mkF m 127 #[.val (.long qa), .second, .val (.long qb), .second, .val (.long qc), .second, .val (.int fl), .val (.int (2 : Int32)), .val (.int j80), .val (.int (1 : Int32)), .val (.int (0 : Int32)), .val (.ref b87), .val (.ref b101), .val (.ref b107), .unset, .unset, .unset, .unset] [(.ref b113)]))
      refine Comes.st (fun t k => XS.astore X117.here hx rfl (hb hby at_127) rfl rfl (l' := #[.val (.long qa), .second, .val (.long qb), .second, .val (.long qc), .second, .val (.int fl), .val (.int (2 : Int32)), .val (.int j80), .val (.int (1 : Int32)), .val (.int (0 : Int32)), .val (.ref b87), .val (.ref b101), .val (.ref b107), .val (.ref b113), .unset, .unset, .unset]) rfl (XS.aload X117.here hx rfl (hb hby at_129) rfl rfl (XS.aload X117.here hx rfl (hb hby at_131) rfl rfl k))) ?_
      show Comes p e below _ (T117.setTop (mkF m 133 #[.val (.long qa), .second, .val (.long qb), .second, .val (.long qc), .second, .val (.int fl), .val (.int (2 : Int32)), .val (.int j80), .val (.int (1 : Int32)), .val (.int (0 : Int32)), .val (.ref b87), .val (.ref b101), .val (.ref b107), .val (.ref b113), .unset, .unset, .unset] [(.ref b101), (.ref b87)]))
      have F119 : Exa Z T117.heap b87 "com/example/tenorbook/tenorbook/engine/Ladder" := ((((((P92_0.ext E101).keep Kq105).ext E107).keep Kq111).ext E113).keep Kq117)
      have ne120 : b87 ≠ b101 := by omega
      have ne121 : b87 ≠ b107 := by omega
      have ne122 : b87 ≠ b113 := by omega
      have F123 : Fld Z T117.heap b87 "com/example/tenorbook/tenorbook/engine/Ladder" "ticks" "[J" (.ref o93) := ((((((P92_1.ext E101).keep Kq105 (ninS ne120 nin0)).ext E107).keep Kq111 (ninS ne121 nin0)).ext E113).keep Kq117 (ninS ne122 nin0))
      have F124 : Fld Z T117.heap b87 "com/example/tenorbook/tenorbook/engine/Ladder" "levels" "[Lcom/example/tenorbook/tenorbook/engine/Level;" (.ref o94) := ((((((P92_2.ext E101).keep Kq105 (ninS ne120 nin0)).ext E107).keep Kq111 (ninS ne121 nin0)).ext E113).keep Kq117 (ninS ne122 nin0))
      have F125 : Fld Z T117.heap b87 "com/example/tenorbook/tenorbook/engine/Ladder" "lowestBest" "Z" (.int j80) := ((((((F100.ext E101).keep Kq105 (ninS ne120 nin0)).ext E107).keep Kq111 (ninS ne121 nin0)).ext E113).keep Kq117 (ninS ne122 nin0))
      have F126 : Fld Z T117.heap b87 "com/example/tenorbook/tenorbook/engine/Ladder" "count" "I" (.int (0 : Int32)) := ((((((P92_4.ext E101).keep Kq105 (ninS ne120 nin0)).ext E107).keep Kq111 (ninS ne121 nin0)).ext E113).keep Kq117 (ninS ne122 nin0))
      have ne127 : o93 ≠ b101 := by omega
      have ne128 : o93 ≠ b107 := by omega
      have ne129 : o93 ≠ b113 := by omega
      have F130 : Arv Z T117.heap o93 r95 .long (4 : Int32) [(.long (0 : Int64)), (.long (0 : Int64)), (.long (0 : Int64)), (.long (0 : Int64))] (.long (0 : Int64)) := ((((((P92_5.ext E101).keep Kq105 (ninS ne127 nin0)).ext E107).keep Kq111 (ninS ne128 nin0)).ext E113).keep Kq117 (ninS ne129 nin0))
      have ne131 : o94 ≠ b101 := by omega
      have ne132 : o94 ≠ b107 := by omega
      have ne133 : o94 ≠ b113 := by omega
      have F134 : Arv Z T117.heap o94 r96 (.object "com/example/tenorbook/tenorbook/engine/Level") (4 : Int32) [.null, .null, .null, .null] .null := ((((((P92_6.ext E101).keep Kq105 (ninS ne131 nin0)).ext E107).keep Kq111 (ninS ne132 nin0)).ext E113).keep Kq117 (ninS ne133 nin0))
      have F135 : Exa Z T117.heap b101 "com/example/tenorbook/tenorbook/engine/Level" := ((((P105_0.ext E107).keep Kq111).ext E113).keep Kq117)
      have ne136 : b101 ≠ b107 := by omega
      have ne137 : b101 ≠ b113 := by omega
      have F138 : Fld Z T117.heap b101 "com/example/tenorbook/tenorbook/engine/Level" "ticks" "J" (.long qa) := ((((P105_1.ext E107).keep Kq111 (ninS ne136 nin0)).ext E113).keep Kq117 (ninS ne137 nin0))
      have F139 : Fld Z T117.heap b101 "com/example/tenorbook/tenorbook/engine/Level" "ladder" "Lcom/example/tenorbook/tenorbook/engine/Ladder;" .null := ((((P105_2.ext E107).keep Kq111 (ninS ne136 nin0)).ext E113).keep Kq117 (ninS ne137 nin0))
      obtain ⟨cq140, kq140, q140a, q140b, q140c⟩ := isOf hZ rfl F119
      obtain ⟨_, _, ⟨T140, L140, k140, n140⟩, -, X140, ⟨Lc140, hQ140, l140, y140, z140⟩, st140⟩ := X117.virtualBack hx (y := (⟨"com/example/tenorbook/tenorbook/engine/Ladder", "add", "(Lcom/example/tenorbook/tenorbook/engine/Level;)V"⟩ : MethodName)) (z := (⟨"com/example/tenorbook/tenorbook/engine/Ladder", "add", "(Lcom/example/tenorbook/tenorbook/engine/Level;)V"⟩ : MethodName)) hown (mvT hZ (hw _ (List.mem_of_getElem? (i := 29) rfl))) (mvT hZ (hw _ (List.mem_of_getElem? (i := 30) rfl))) (notFace_of_selects (args := #[]) (mvT hZ (hw _ (List.mem_of_getElem? (i := 32) rfl)))) (mvT hZ (hw _ (List.mem_of_getElem? (i := 32) rfl))) (mvT hZ (hw _ (List.mem_of_getElem? (i := 31) rfl))) (by decide) (backOf (W := 0) (add0 l Z a0 hw [] b87 b101 j80 o93 o94 r95 r96 qa T117.heap n0 (by omega)  F119 F123 F124 F125 F126 F130 F134 P92_7 F135 F138 F139 P92_10 P92_11 P92_12 (Ne.symm ne120) (Ne.symm ne127) (Ne.symm ne131) (by omega) (by omega) (by omega) (by omega)) hZ (hw _ (List.mem_of_getElem? (i := 33) rfl)) (hw _ (List.mem_of_getElem? (i := 2) rfl)) (by decide) (by decide)) q140a q140c (g := (mkF m 133 #[.val (.long qa), .second, .val (.long qb), .second, .val (.long qc), .second, .val (.int fl), .val (.int (2 : Int32)), .val (.int j80), .val (.int (1 : Int32)), .val (.int (0 : Int32)), .val (.ref b87), .val (.ref b101), .val (.ref b107), .val (.ref b113), .unset, .unset, .unset] [(.ref b101), (.ref b87)])) rfl (by rw [hml]; rfl) (Steps.refl _) (argsL := [(.ref b101)]) (rest := []) (lenOf pd_5 rfl) rfl (by show 2 * 0 + _ ≤ _; exact Nat.le_of_eq rfl) (hb hby at_133) (fun _ _ => ⟨rfl, rfl, (by decide : 6 + 0 ≤ _), (by decide : 27 + 0 ≤ _)⟩)
      dsimp only [Pt.U, Pt.locs, Pt.cells, Pt.slots] at X140 l140 y140 z140 st140 hQ140
      subst l140 y140 z140
      obtain ⟨r141, o142, rfl, Nq140, Kq140, P140_0, P140_1, P140_2, P140_3, P140_4, P140_5, P140_6, P140_7, P140_8, P140_9, P140_10, P140_11, P140_12⟩ := hQ140
      have N140 := Fr.app N117 Nq140
      have z140k : T117.heap.size ≤ T140.heap.size := Kq140.1
      refine Comes.go st140 ?_
      have lt_143 : o142 < T140.heap.size := P140_11.lt
      show Comes p e below _ (T140.setTop (mkF m 136 #[.val (.long qa), .second, .val (.long qb), .second, .val (.long qc), .second, .val (.int fl), .val (.int (2 : Int32)), .val (.int j80), .val (.int (1 : Int32)), .val (.int (0 : Int32)), .val (.ref b87), .val (.ref b101), .val (.ref b107), .val (.ref b113), .unset, .unset, .unset] []))
      refine Comes.st (fun t k => XS.iload X140.here hx rfl (hb hby at_136) rfl k) ?_
      show Comes p e below _ (T140.setTop (mkF m 138 #[.val (.long qa), .second, .val (.long qb), .second, .val (.long qc), .second, .val (.int fl), .val (.int (2 : Int32)), .val (.int j80), .val (.int (1 : Int32)), .val (.int (0 : Int32)), .val (.ref b87), .val (.ref b101), .val (.ref b107), .val (.ref b113), .unset, .unset, .unset] [(.int (1 : Int32))]))
      have hc138_144 : ¬ ((1 : Int32) = (0 : Int32)) := by decide
      refine Comes.st (fun t k => XS.ifNo X140.here hx rfl (hb hby at_138) rfl ((if0 _ _).trans (feq hc138_144).1) (XS.aload X140.here hx rfl (hb hby at_141) rfl rfl (XS.aload X140.here hx rfl (hb hby at_143) rfl rfl k))) ?_
      show Comes p e below _ (T140.setTop (mkF m 145 #[.val (.long qa), .second, .val (.long qb), .second, .val (.long qc), .second, .val (.int fl), .val (.int (2 : Int32)), .val (.int j80), .val (.int (1 : Int32)), .val (.int (0 : Int32)), .val (.ref b87), .val (.ref b101), .val (.ref b107), .val (.ref b113), .unset, .unset, .unset] [(.ref b107), (.ref b87)]))
      have F145 : Exa Z T140.heap b107 "com/example/tenorbook/tenorbook/engine/Level" := (((P111_0.ext E113).keep Kq117).keep Kq140)
      have ne146 : b107 ≠ b113 := by omega
      have F147 : Fld Z T140.heap b107 "com/example/tenorbook/tenorbook/engine/Level" "ticks" "J" (.long qb) := (((P111_1.ext E113).keep Kq117 (ninS ne146 nin0)).keep Kq140 (ninS (Ne.symm ne121) (ninS (Ne.symm ne128) (ninS (Ne.symm ne132) (ninS (Ne.symm ne136) nin0)))))
      have F148 : Fld Z T140.heap b107 "com/example/tenorbook/tenorbook/engine/Level" "ladder" "Lcom/example/tenorbook/tenorbook/engine/Ladder;" .null := (((P111_2.ext E113).keep Kq117 (ninS ne146 nin0)).keep Kq140 (ninS (Ne.symm ne121) (ninS (Ne.symm ne128) (ninS (Ne.symm ne132) (ninS (Ne.symm ne136) nin0)))))
      obtain ⟨cq149, kq149, q149a, q149b, q149c⟩ := isOf hZ rfl P140_0
      obtain ⟨_, _, ⟨T149, L149, k149, n149⟩, -, X149, ⟨Lc149, hQ149, l149, y149, z149⟩, st149⟩ := X140.virtualBack hx (y := (⟨"com/example/tenorbook/tenorbook/engine/Ladder", "add", "(Lcom/example/tenorbook/tenorbook/engine/Level;)V"⟩ : MethodName)) (z := (⟨"com/example/tenorbook/tenorbook/engine/Ladder", "add", "(Lcom/example/tenorbook/tenorbook/engine/Level;)V"⟩ : MethodName)) hown (mvT hZ (hw _ (List.mem_of_getElem? (i := 29) rfl))) (mvT hZ (hw _ (List.mem_of_getElem? (i := 30) rfl))) (notFace_of_selects (args := #[]) (mvT hZ (hw _ (List.mem_of_getElem? (i := 32) rfl)))) (mvT hZ (hw _ (List.mem_of_getElem? (i := 32) rfl))) (mvT hZ (hw _ (List.mem_of_getElem? (i := 31) rfl))) (by decide) (backOf (W := 0) (add1 l Z a0 hw [] b87 b107 j80 o93 o94 r95 r96 qb r141 o142 T140.heap n0 (by omega)  P140_0 P140_1 P140_2 P140_3 P140_4 P140_5 P140_6 P140_7 F145 F147 F148 P140_11 (by first | assumption | (have c_0 := hc27_82; have c_1 := hc40_83; have c_2 := hc52_84; have c_3 := hc58_85; have c_4 := hc65_86; have c_5 := hc138_144; have c_6 := P92_13; have c_7 := P140_12; (try simp only [Int32.lt_iff_toInt_lt, Int64.lt_iff_toInt_lt, ← Int32.toInt_inj, ← Int64.toInt_inj, Int32.reduceToInt, Int64.reduceToInt, eq_self, and_true, true_and, or_true, true_or, and_false, false_and, or_false, false_or, not_true_eq_false, not_false_eq_true] at c_0 c_1 c_2 c_3 c_4 c_5 c_6 c_7 ⊢) <;> omega)) P92_10 P92_11 P92_12 (Ne.symm ne121) (Ne.symm ne128) (Ne.symm ne132) (by omega) (by omega) (by omega) (by omega)) hZ (hw _ (List.mem_of_getElem? (i := 33) rfl)) (hw _ (List.mem_of_getElem? (i := 2) rfl)) (by decide) (by decide)) q149a q149c (g := (mkF m 145 #[.val (.long qa), .second, .val (.long qb), .second, .val (.long qc), .second, .val (.int fl), .val (.int (2 : Int32)), .val (.int j80), .val (.int (1 : Int32)), .val (.int (0 : Int32)), .val (.ref b87), .val (.ref b101), .val (.ref b107), .val (.ref b113), .unset, .unset, .unset] [(.ref b107), (.ref b87)])) rfl (by rw [hml]; rfl) (Steps.refl _) (argsL := [(.ref b107)]) (rest := []) (lenOf pd_5 rfl) rfl (by show 2 * 0 + _ ≤ _; exact Nat.le_of_eq rfl) (hb hby at_145) (fun _ _ => ⟨rfl, rfl, (by decide : 6 + 0 ≤ _), (by decide : 27 + 0 ≤ _)⟩)
      dsimp only [Pt.U, Pt.locs, Pt.cells, Pt.slots] at X149 l149 y149 z149 st149 hQ149
      subst l149 y149 z149
      obtain ⟨r150, r151, o152, o153, rfl, Nq149, Kq149, P149_0, P149_1, P149_2, P149_3, P149_4, P149_5, P149_6, P149_7, P149_8, P149_9, P149_10, P149_11, P149_12, P149_13, P149_14⟩ := hQ149
      have N149 := Fr.app N140 Nq149
      have z149k : T140.heap.size ≤ T149.heap.size := Kq149.1
      refine Comes.go st149 ?_
      have lt_154 : o152 < T149.heap.size := P149_11.lt
      have lt_155 : o153 < T149.heap.size := P149_12.lt
      show Comes p e below _ (T149.setTop (mkF m 148 #[.val (.long qa), .second, .val (.long qb), .second, .val (.long qc), .second, .val (.int fl), .val (.int (2 : Int32)), .val (.int j80), .val (.int (1 : Int32)), .val (.int (0 : Int32)), .val (.ref b87), .val (.ref b101), .val (.ref b107), .val (.ref b113), .unset, .unset, .unset] []))
      refine Comes.st (fun t k => XS.iload X149.here hx rfl (hb hby at_148) rfl k) ?_
      show Comes p e below _ (T149.setTop (mkF m 150 #[.val (.long qa), .second, .val (.long qb), .second, .val (.long qc), .second, .val (.int fl), .val (.int (2 : Int32)), .val (.int j80), .val (.int (1 : Int32)), .val (.int (0 : Int32)), .val (.ref b87), .val (.ref b101), .val (.ref b107), .val (.ref b113), .unset, .unset, .unset] [(.int (0 : Int32))]))
      have hc150_156 : (0 : Int32) = (0 : Int32) := by decide
      refine Comes.st (fun t k => XS.ifYes X149.here hx rfl (pc0 := 150) (pc' := 160) rfl (hb hby at_150) rfl ((if0 _ _).trans (teq hc150_156).1) (by decide) (by decide) (XS.iload X149.here hx rfl (hb hby at_160) rfl k)) ?_
      show Comes p e below _ (T149.setTop (mkF m 162 #[.val (.long qa), .second, .val (.long qb), .second, .val (.long qc), .second, .val (.int fl), .val (.int (2 : Int32)), .val (.int j80), .val (.int (1 : Int32)), .val (.int (0 : Int32)), .val (.ref b87), .val (.ref b101), .val (.ref b107), .val (.ref b113), .unset, .unset, .unset] [(.int (1 : Int32))]))
      have hc162_157 : ¬ ((1 : Int32) = (0 : Int32)) := by decide
      refine Comes.st (fun t k => XS.ifNo X149.here hx rfl (hb hby at_162) rfl ((if0 _ _).trans (feq hc162_157).1) (XS.lloadN X149.here hx rfl (hb hby at_165) rfl (XS.lloadN X149.here hx rfl (hb hby at_166) rfl (XS.iload X149.here hx rfl (hb hby at_167) rfl k)))) ?_
      show Comes p e below _ (T149.setTop (mkF m 169 #[.val (.long qa), .second, .val (.long qb), .second, .val (.long qc), .second, .val (.int fl), .val (.int (2 : Int32)), .val (.int j80), .val (.int (1 : Int32)), .val (.int (0 : Int32)), .val (.ref b87), .val (.ref b101), .val (.ref b107), .val (.ref b113), .unset, .unset, .unset] [(.int j80), (.long qa), (.long qb)]))
      obtain ⟨_, _, ⟨T158, L158, k158, n158⟩, -, X158, ⟨Lc158, hQ158, l158, y158, z158⟩, st158⟩ := Jvm.LawKit.callS X149 hx (y := (⟨"com/example/tenorbook/tenorbook/engine/LadderBestPinLaw", "better", "(JJZ)Z"⟩ : MethodName)) hown (mvT hZ (hw _ (List.mem_of_getElem? (i := 56) rfl))) (mvT hZ (hw _ (List.mem_of_getElem? (i := 57) rfl))) (mvT hZ (hw _ (List.mem_of_getElem? (i := 58) rfl))) (mvT hZ (hw _ (List.mem_of_getElem? (i := 59) rfl))) (by decide) (backOf (W := 0) (rm8 l Z a0 hw [] qb qa j80 T149.heap n0 (by omega)  ) hZ (hw _ (List.mem_of_getElem? (i := 59) rfl)) (hw _ (List.mem_of_getElem? (i := 58) rfl)) (by decide) (by decide)) (g := (mkF m 169 #[.val (.long qa), .second, .val (.long qb), .second, .val (.long qc), .second, .val (.int fl), .val (.int (2 : Int32)), .val (.int j80), .val (.int (1 : Int32)), .val (.int (0 : Int32)), .val (.ref b87), .val (.ref b101), .val (.ref b107), .val (.ref b113), .unset, .unset, .unset] [(.int j80), (.long qa), (.long qb)])) rfl (by rw [hml]; rfl) (argsL := [(.long qb), (.long qa), (.int j80)]) (rest := []) (lenOf pd_7 rfl) rfl (by show 2 * 0 + _ ≤ _; exact Nat.le_of_eq rfl) (hb hby at_169) (fun _ _ => ⟨rfl, rfl, (by decide : 6 + 0 ≤ _), (by decide : 27 + 0 ≤ _)⟩)
      dsimp only [Pt.U, Pt.locs, Pt.cells, Pt.slots] at X158 l158 y158 z158 st158 hQ158
      subst l158 y158 z158
      obtain ⟨r159, rfl, Nq158, hs158, P158_0⟩ := hQ158
      have N158 := Fr.app N149 Nq158
      refine Comes.st st158 ?_
      have J160 : Comes p e below (fun S' => ∃ (T' : State), ∃ (L' : List Loc), ∃ (j162 : Int32), (S' = T'.setTop (mkF m 180 #[.val (.long qa), .second, .val (.long qb), .second, .val (.long qc), .second, .val (.int fl), .val (.int (2 : Int32)), .val (.int j80), .val (.int (1 : Int32)), .val (.int (0 : Int32)), .val (.ref b87), .val (.ref b101), .val (.ref b107), .val (.ref b113), .unset, .unset, .unset] [(.int j162)])) ∧ (Stand p l e room_1 s m #[(.long qa), (.long qb), (.long qc), (.int fl)] below meth c T' L' 6 27) ∧ (T'.heap = T149.heap) ∧ (Fr n0 L') ∧ (((r159 = (0 : Int32)) ∧ j162 = (0 : Int32)) ∨ ((¬ (r159 = (0 : Int32))) ∧ j162 = (1 : Int32)))) (T158.setTop (mkF m 172 #[.val (.long qa), .second, .val (.long qb), .second, .val (.long qc), .second, .val (.int fl), .val (.int (2 : Int32)), .val (.int j80), .val (.int (1 : Int32)), .val (.int (0 : Int32)), .val (.ref b87), .val (.ref b101), .val (.ref b107), .val (.ref b113), .unset, .unset, .unset] [(.int r159)])) := by
        show Comes p e below _ (T158.setTop (mkF m 172 #[.val (.long qa), .second, .val (.long qb), .second, .val (.long qc), .second, .val (.int fl), .val (.int (2 : Int32)), .val (.int j80), .val (.int (1 : Int32)), .val (.int (0 : Int32)), .val (.ref b87), .val (.ref b101), .val (.ref b107), .val (.ref b113), .unset, .unset, .unset] [(.int r159)]))
        by_cases hc172_161 : r159 = (0 : Int32)
        · refine Comes.st (fun t k => XS.ifYes X158.here hx rfl (pc0 := 172) (pc' := 179) rfl (hb hby at_172) rfl ((if0 _ _).trans (teq hc172_161).1) (by decide) (by decide) (XS.iconst X158.here hx rfl (hb hby at_179) k)) ?_
          show Comes p e below _ (T158.setTop (mkF m 180 #[.val (.long qa), .second, .val (.long qb), .second, .val (.long qc), .second, .val (.int fl), .val (.int (2 : Int32)), .val (.int j80), .val (.int (1 : Int32)), .val (.int (0 : Int32)), .val (.ref b87), .val (.ref b101), .val (.ref b107), .val (.ref b113), .unset, .unset, .unset] [(.int (0 : Int32))]))
          exact Comes.here ⟨_, _, (0 : Int32), rfl, X158, hs158, N158, (Or.inl ⟨hc172_161, rfl⟩)⟩
        · refine Comes.st (fun t k => XS.ifNo X158.here hx rfl (hb hby at_172) rfl ((if0 _ _).trans (feq hc172_161).1) (XS.iconst X158.here hx rfl (hb hby at_175) (XS.goto X158.here hx rfl (pc0 := 176) (pc' := 180) rfl (hb hby at_176) (by decide) (by decide) k))) ?_
          show Comes p e below _ (T158.setTop (mkF m 180 #[.val (.long qa), .second, .val (.long qb), .second, .val (.long qc), .second, .val (.int fl), .val (.int (2 : Int32)), .val (.int j80), .val (.int (1 : Int32)), .val (.int (0 : Int32)), .val (.ref b87), .val (.ref b101), .val (.ref b107), .val (.ref b113), .unset, .unset, .unset] [(.int (1 : Int32))]))
          exact Comes.here ⟨_, _, (1 : Int32), rfl, X158, hs158, N158, (Or.inr ⟨hc172_161, rfl⟩)⟩
      obtain ⟨_, st163, T163, L163, j162, rfl, X163, e163, N163, rel163⟩ := J160
      refine Comes.go st163 ?_
      show Comes p e below _ (T163.setTop (mkF m 180 #[.val (.long qa), .second, .val (.long qb), .second, .val (.long qc), .second, .val (.int fl), .val (.int (2 : Int32)), .val (.int j80), .val (.int (1 : Int32)), .val (.int (0 : Int32)), .val (.ref b87), .val (.ref b101), .val (.ref b107), .val (.ref b113), .unset, .unset, .unset] [(.int j162)]))
      refine Comes.st (fun t k => XS.iload X163.here hx rfl (hb hby at_180) rfl k) ?_
      show Comes p e below _ (T163.setTop (mkF m 182 #[.val (.long qa), .second, .val (.long qb), .second, .val (.long qc), .second, .val (.int fl), .val (.int (2 : Int32)), .val (.int j80), .val (.int (1 : Int32)), .val (.int (0 : Int32)), .val (.ref b87), .val (.ref b101), .val (.ref b107), .val (.ref b113), .unset, .unset, .unset] [(.int (0 : Int32)), (.int j162)]))
      have hc182_164 : (0 : Int32) = (0 : Int32) := by decide
      refine Comes.st (fun t k => XS.ifYes X163.here hx rfl (pc0 := 182) (pc' := 200) rfl (hb hby at_182) rfl ((if0 _ _).trans (teq hc182_164).1) (by decide) (by decide) (XS.iconst X163.here hx rfl (hb hby at_200) (XS.iadd X163.here hx rfl (hb hby at_201) rfl k))) ?_
      show Comes p e below _ (T163.setTop (mkF m 202 #[.val (.long qa), .second, .val (.long qb), .second, .val (.long qc), .second, .val (.int fl), .val (.int (2 : Int32)), .val (.int j80), .val (.int (1 : Int32)), .val (.int (0 : Int32)), .val (.ref b87), .val (.ref b101), .val (.ref b107), .val (.ref b113), .unset, .unset, .unset] [(.int (j162 + (0 : Int32)))]))
      generalize hv_v165 : (j162 + (0 : Int32)) = v165
      show Comes p e below _ (T163.setTop (mkF m 202 #[.val (.long qa), .second, .val (.long qb), .second, .val (.long qc), .second, .val (.int fl), .val (.int (2 : Int32)), .val (.int j80), .val (.int (1 : Int32)), .val (.int (0 : Int32)), .val (.ref b87), .val (.ref b101), .val (.ref b107), .val (.ref b113), .unset, .unset, .unset] [(.int v165)]))
      refine Comes.st (fun t k => XS.istore X163.here hx rfl (hb hby at_202) rfl (l' := #[.val (.long qa), .second, .val (.long qb), .second, .val (.long qc), .second, .val (.int fl), .val (.int (2 : Int32)), .val (.int j80), .val (.int (1 : Int32)), .val (.int (0 : Int32)), .val (.ref b87), .val (.ref b101), .val (.ref b107), .val (.ref b113), .val (.int v165), .unset, .unset]) rfl (XS.aload X163.here hx rfl (hb hby at_204) rfl rfl (XS.iload X163.here hx rfl (hb hby at_206) rfl k))) ?_
      show Comes p e below _ (T163.setTop (mkF m 208 #[.val (.long qa), .second, .val (.long qb), .second, .val (.long qc), .second, .val (.int fl), .val (.int (2 : Int32)), .val (.int j80), .val (.int (1 : Int32)), .val (.int (0 : Int32)), .val (.ref b87), .val (.ref b101), .val (.ref b107), .val (.ref b113), .val (.int v165), .unset, .unset] [(.int v165), (.ref b87)]))
      obtain ⟨cq166, kq166, q166a, q166b, q166c⟩ := isOf hZ e163 P149_0
      obtain ⟨_, _, ⟨T166, L166, k166, n166⟩, -, X166, ⟨Lc166, hQ166, l166, y166, z166⟩, st166⟩ := X163.virtualBack hx (y := (⟨"com/example/tenorbook/tenorbook/engine/Ladder", "best", "(I)Lcom/example/tenorbook/tenorbook/engine/Level;"⟩ : MethodName)) (z := (⟨"com/example/tenorbook/tenorbook/engine/Ladder", "best", "(I)Lcom/example/tenorbook/tenorbook/engine/Level;"⟩ : MethodName)) hown (mvT hZ (hw _ (List.mem_of_getElem? (i := 60) rfl))) (mvT hZ (hw _ (List.mem_of_getElem? (i := 61) rfl))) (notFace_of_selects (args := #[]) (mvT hZ (hw _ (List.mem_of_getElem? (i := 63) rfl)))) (mvT hZ (hw _ (List.mem_of_getElem? (i := 63) rfl))) (mvT hZ (hw _ (List.mem_of_getElem? (i := 62) rfl))) (by decide) (backOf (W := 0) (best2 l Z a0 hw [] b87 v165 o94 r96 o152 o153 T149.heap n0 (by omega)  P149_2 P149_4 P149_6 (by have a_0 := c_mask fl (3 : Int32) 2 (by decide) (by decide); have a_1 := c_irem (fl &&& (3 : Int32)) (3 : Int32) 3 (by decide); have a_2 := c_iadd ((fl &&& (3 : Int32)) % (3 : Int32)) (1 : Int32); rw [hv_v2] at a_2; have a_3 := c_and fl (4 : Int32) (by decide); have a_4 := c_iadd j162 (0 : Int32); rw [hv_v165] at a_4; have a_5 := rng32 ((fl &&& (3 : Int32)) % (3 : Int32)); have a_6 := rng32 (2 : Int32); have a_7 := rng32 (fl &&& (3 : Int32)); have a_8 := rng32 (fl &&& (4 : Int32)); have a_9 := rng32 fl; have a_10 := rng32 j162; have a_11 := rng32 v165; have c_0 := hc27_82; have c_1 := hc40_83; have c_2 := hc52_84; have c_3 := hc58_85; have c_4 := hc65_86; have c_5 := hc138_144; have c_6 := hc150_156; have c_7 := hc162_157; have c_8 := hc182_164; have c_9 := rel81; have c_10 := P92_13; have c_11 := P140_12; have c_12 := P149_13; have c_13 := P149_14; have c_14 := P158_0; have c_15 := rel163; (try simp only [Int32.lt_iff_toInt_lt, Int64.lt_iff_toInt_lt, ← Int32.toInt_inj, ← Int64.toInt_inj, Int32.reduceToInt, Int64.reduceToInt, eq_self, and_true, true_and, or_true, true_or, and_false, false_and, or_false, false_or, not_true_eq_false, not_false_eq_true] at a_0 a_1 a_2 a_3 a_4 a_5 a_6 a_7 a_8 a_9 a_10 a_11 c_0 c_1 c_2 c_3 c_4 c_5 c_6 c_7 c_8 c_9 c_10 c_11 c_12 c_13 c_14 c_15 ⊢) <;> omega)) hZ (hw _ (List.mem_of_getElem? (i := 64) rfl)) (hw _ (List.mem_of_getElem? (i := 2) rfl)) (by decide) (by decide)) q166a q166c (g := (mkF m 208 #[.val (.long qa), .second, .val (.long qb), .second, .val (.long qc), .second, .val (.int fl), .val (.int (2 : Int32)), .val (.int j80), .val (.int (1 : Int32)), .val (.int (0 : Int32)), .val (.ref b87), .val (.ref b101), .val (.ref b107), .val (.ref b113), .val (.int v165), .unset, .unset] [(.int v165), (.ref b87)])) rfl (by rw [hml]; rfl) (Steps.refl _) (argsL := [(.int v165)]) (rest := []) (lenOf pd_6 rfl) rfl (by show 2 * 0 + _ ≤ _; exact Nat.le_of_eq rfl) (hb hby at_208) (fun _ _ => ⟨rfl, e163, (by decide : 6 + 0 ≤ _), (by decide : 27 + 0 ≤ _)⟩)
      dsimp only [Pt.U, Pt.locs, Pt.cells, Pt.slots] at X166 l166 y166 z166 st166 hQ166
      subst l166 y166 z166
      obtain ⟨o167, rfl, Nq166, hs166, P166_0⟩ := hQ166
      have N166 := Fr.app N163 Nq166
      refine Comes.go st166 ?_
      show Comes p e below _ (T166.setTop (mkF m 211 #[.val (.long qa), .second, .val (.long qb), .second, .val (.long qc), .second, .val (.int fl), .val (.int (2 : Int32)), .val (.int j80), .val (.int (1 : Int32)), .val (.int (0 : Int32)), .val (.ref b87), .val (.ref b101), .val (.ref b107), .val (.ref b113), .val (.int v165), .unset, .unset] [(.ref o167)]))
      refine Comes.st (fun t k => XS.aload X166.here hx rfl (hb hby at_211) rfl rfl k) ?_
      show Comes p e below _ (T166.setTop (mkF m 213 #[.val (.long qa), .second, .val (.long qb), .second, .val (.long qc), .second, .val (.int fl), .val (.int (2 : Int32)), .val (.int j80), .val (.int (1 : Int32)), .val (.int (0 : Int32)), .val (.ref b87), .val (.ref b101), .val (.ref b107), .val (.ref b113), .val (.int v165), .unset, .unset] [(.ref b101), (.ref o167)]))
      have hc213_168 : o167 = b101 := by apply own_ad_inj; have a_0 := c_mask fl (3 : Int32) 2 (by decide) (by decide); have a_1 := c_irem (fl &&& (3 : Int32)) (3 : Int32) 3 (by decide); have a_2 := c_iadd ((fl &&& (3 : Int32)) % (3 : Int32)) (1 : Int32); rw [hv_v2] at a_2; have a_3 := c_and fl (4 : Int32) (by decide); have a_4 := c_iadd j162 (0 : Int32); rw [hv_v165] at a_4; have a_5 := rng32 ((fl &&& (3 : Int32)) % (3 : Int32)); have a_6 := rng32 (2 : Int32); have a_7 := rng32 (fl &&& (3 : Int32)); have a_8 := rng32 (fl &&& (4 : Int32)); have a_9 := rng32 fl; have a_10 := rng32 j162; have a_11 := rng32 v165; have a_12 := own_key_ne j80 hc58_85; have c_0 := hc27_82; have c_1 := hc40_83; have c_2 := hc52_84; have c_3 := hc58_85; have c_4 := hc65_86; have c_5 := hc138_144; have c_6 := hc150_156; have c_7 := hc162_157; have c_8 := hc182_164; have c_9 := P92_13; have c_10 := P140_12; have c_11 := P149_13; have c_12 := P149_14; have c_13 := P158_0; have c_14 := rel163; have c_15 := P166_0; (try simp only [Int32.lt_iff_toInt_lt, Int64.lt_iff_toInt_lt, ← Int32.toInt_inj, ← Int64.toInt_inj, Int32.reduceToInt, Int64.reduceToInt, eq_self, and_true, true_and, or_true, true_or, and_false, false_and, or_false, false_or, not_true_eq_false, not_false_eq_true] at a_0 a_1 a_2 a_3 a_4 a_5 a_6 a_7 a_8 a_9 a_10 a_11 a_12 c_0 c_1 c_2 c_3 c_4 c_5 c_6 c_7 c_8 c_9 c_10 c_11 c_12 c_13 c_14 c_15 ⊢) <;> omega
      refine Comes.st (fun t k => Jvm.RoadKit.acmp (g := (mkF m 213 #[.val (.long qa), .second, .val (.long qb), .second, .val (.long qc), .second, .val (.int fl), .val (.int (2 : Int32)), .val (.int j80), .val (.int (1 : Int32)), .val (.int (0 : Int32)), .val (.ref b87), .val (.ref b101), .val (.ref b107), .val (.ref b113), .val (.int v165), .unset, .unset] [(.ref b101), (.ref o167)])) X166 hx rfl rfl rfl (pc0 := 213) (pc' := 216) (same := true) rfl (hb hby at_213) rfl (decide_eq_true (congrArg Value.ref hc213_168)) (by decide) (by decide) (XS.iconst X166.here hx rfl (hb hby at_216) (XS.goto X166.here hx rfl (pc0 := 217) (pc' := 221) rfl (hb hby at_217) (by decide) (by decide) (XS.istore X166.here hx rfl (hb hby at_221) rfl (l' := #[.val (.long qa), .second, .val (.long qb), .second, .val (.long qc), .second, .val (.int fl), .val (.int (2 : Int32)), .val (.int j80), .val (.int (1 : Int32)), .val (.int (0 : Int32)), .val (.ref b87), .val (.ref b101), .val (.ref b107), .val (.ref b113), .val (.int v165), .val (.int (1 : Int32)), .unset]) rfl (XS.iload X166.here hx rfl (hb hby at_223) rfl k))))) ?_
      show Comes p e below _ (T166.setTop (mkF m 225 #[.val (.long qa), .second, .val (.long qb), .second, .val (.long qc), .second, .val (.int fl), .val (.int (2 : Int32)), .val (.int j80), .val (.int (1 : Int32)), .val (.int (0 : Int32)), .val (.ref b87), .val (.ref b101), .val (.ref b107), .val (.ref b113), .val (.int v165), .val (.int (1 : Int32)), .unset] [(.int (1 : Int32))]))
      have hc225_169 : ¬ ((1 : Int32) = (0 : Int32)) := by decide
      refine Comes.st (fun t k => XS.ifNo X166.here hx rfl (hb hby at_225) rfl ((if0 _ _).trans (feq hc225_169).1) (XS.lloadN X166.here hx rfl (hb hby at_228) rfl (XS.lloadN X166.here hx rfl (hb hby at_229) rfl (XS.iload X166.here hx rfl (hb hby at_230) rfl k)))) ?_
      show Comes p e below _ (T166.setTop (mkF m 232 #[.val (.long qa), .second, .val (.long qb), .second, .val (.long qc), .second, .val (.int fl), .val (.int (2 : Int32)), .val (.int j80), .val (.int (1 : Int32)), .val (.int (0 : Int32)), .val (.ref b87), .val (.ref b101), .val (.ref b107), .val (.ref b113), .val (.int v165), .val (.int (1 : Int32)), .unset] [(.int j80), (.long qb), (.long qa)]))
      obtain ⟨_, _, ⟨T170, L170, k170, n170⟩, -, X170, ⟨Lc170, hQ170, l170, y170, z170⟩, st170⟩ := Jvm.LawKit.callS X166 hx (y := (⟨"com/example/tenorbook/tenorbook/engine/LadderBestPinLaw", "better", "(JJZ)Z"⟩ : MethodName)) hown (mvT hZ (hw _ (List.mem_of_getElem? (i := 56) rfl))) (mvT hZ (hw _ (List.mem_of_getElem? (i := 57) rfl))) (mvT hZ (hw _ (List.mem_of_getElem? (i := 58) rfl))) (mvT hZ (hw _ (List.mem_of_getElem? (i := 59) rfl))) (by decide) (backOf (W := 0) (rm8 l Z a0 hw [] qa qb j80 T149.heap n0 (by omega)  ) hZ (hw _ (List.mem_of_getElem? (i := 59) rfl)) (hw _ (List.mem_of_getElem? (i := 58) rfl)) (by decide) (by decide)) (g := (mkF m 232 #[.val (.long qa), .second, .val (.long qb), .second, .val (.long qc), .second, .val (.int fl), .val (.int (2 : Int32)), .val (.int j80), .val (.int (1 : Int32)), .val (.int (0 : Int32)), .val (.ref b87), .val (.ref b101), .val (.ref b107), .val (.ref b113), .val (.int v165), .val (.int (1 : Int32)), .unset] [(.int j80), (.long qb), (.long qa)])) rfl (by rw [hml]; rfl) (argsL := [(.long qa), (.long qb), (.int j80)]) (rest := []) (lenOf pd_7 rfl) rfl (by show 2 * 0 + _ ≤ _; exact Nat.le_of_eq rfl) (hb hby at_232) (fun _ _ => ⟨rfl, hs166, (by decide : 6 + 0 ≤ _), (by decide : 27 + 0 ≤ _)⟩)
      dsimp only [Pt.U, Pt.locs, Pt.cells, Pt.slots] at X170 l170 y170 z170 st170 hQ170
      subst l170 y170 z170
      obtain ⟨r171, rfl, Nq170, hs170, P170_0⟩ := hQ170
      have N170 := Fr.app N166 Nq170
      refine Comes.st st170 ?_
      have J172 : Comes p e below (fun S' => ∃ (T' : State), ∃ (L' : List Loc), ∃ (j174 : Int32), (S' = T'.setTop (mkF m 243 #[.val (.long qa), .second, .val (.long qb), .second, .val (.long qc), .second, .val (.int fl), .val (.int (2 : Int32)), .val (.int j80), .val (.int (1 : Int32)), .val (.int (0 : Int32)), .val (.ref b87), .val (.ref b101), .val (.ref b107), .val (.ref b113), .val (.int v165), .val (.int (1 : Int32)), .unset] [(.int j174)])) ∧ (Stand p l e room_1 s m #[(.long qa), (.long qb), (.long qc), (.int fl)] below meth c T' L' 6 27) ∧ (T'.heap = T149.heap) ∧ (Fr n0 L') ∧ (((r171 = (0 : Int32)) ∧ j174 = (0 : Int32)) ∨ ((¬ (r171 = (0 : Int32))) ∧ j174 = (1 : Int32)))) (T170.setTop (mkF m 235 #[.val (.long qa), .second, .val (.long qb), .second, .val (.long qc), .second, .val (.int fl), .val (.int (2 : Int32)), .val (.int j80), .val (.int (1 : Int32)), .val (.int (0 : Int32)), .val (.ref b87), .val (.ref b101), .val (.ref b107), .val (.ref b113), .val (.int v165), .val (.int (1 : Int32)), .unset] [(.int r171)])) := by
        show Comes p e below _ (T170.setTop (mkF m 235 #[.val (.long qa), .second, .val (.long qb), .second, .val (.long qc), .second, .val (.int fl), .val (.int (2 : Int32)), .val (.int j80), .val (.int (1 : Int32)), .val (.int (0 : Int32)), .val (.ref b87), .val (.ref b101), .val (.ref b107), .val (.ref b113), .val (.int v165), .val (.int (1 : Int32)), .unset] [(.int r171)]))
        by_cases hc235_173 : r171 = (0 : Int32)
        · refine Comes.st (fun t k => XS.ifYes X170.here hx rfl (pc0 := 235) (pc' := 242) rfl (hb hby at_235) rfl ((if0 _ _).trans (teq hc235_173).1) (by decide) (by decide) (XS.iconst X170.here hx rfl (hb hby at_242) k)) ?_
          show Comes p e below _ (T170.setTop (mkF m 243 #[.val (.long qa), .second, .val (.long qb), .second, .val (.long qc), .second, .val (.int fl), .val (.int (2 : Int32)), .val (.int j80), .val (.int (1 : Int32)), .val (.int (0 : Int32)), .val (.ref b87), .val (.ref b101), .val (.ref b107), .val (.ref b113), .val (.int v165), .val (.int (1 : Int32)), .unset] [(.int (0 : Int32))]))
          exact Comes.here ⟨_, _, (0 : Int32), rfl, X170, hs170, N170, (Or.inl ⟨hc235_173, rfl⟩)⟩
        · refine Comes.st (fun t k => XS.ifNo X170.here hx rfl (hb hby at_235) rfl ((if0 _ _).trans (feq hc235_173).1) (XS.iconst X170.here hx rfl (hb hby at_238) (XS.goto X170.here hx rfl (pc0 := 239) (pc' := 243) rfl (hb hby at_239) (by decide) (by decide) k))) ?_
          show Comes p e below _ (T170.setTop (mkF m 243 #[.val (.long qa), .second, .val (.long qb), .second, .val (.long qc), .second, .val (.int fl), .val (.int (2 : Int32)), .val (.int j80), .val (.int (1 : Int32)), .val (.int (0 : Int32)), .val (.ref b87), .val (.ref b101), .val (.ref b107), .val (.ref b113), .val (.int v165), .val (.int (1 : Int32)), .unset] [(.int (1 : Int32))]))
          exact Comes.here ⟨_, _, (1 : Int32), rfl, X170, hs170, N170, (Or.inr ⟨hc235_173, rfl⟩)⟩
      obtain ⟨_, st175, T175, L175, j174, rfl, X175, e175, N175, rel175⟩ := J172
      refine Comes.go st175 ?_
      show Comes p e below _ (T175.setTop (mkF m 243 #[.val (.long qa), .second, .val (.long qb), .second, .val (.long qc), .second, .val (.int fl), .val (.int (2 : Int32)), .val (.int j80), .val (.int (1 : Int32)), .val (.int (0 : Int32)), .val (.ref b87), .val (.ref b101), .val (.ref b107), .val (.ref b113), .val (.int v165), .val (.int (1 : Int32)), .unset] [(.int j174)]))
      refine Comes.st (fun t k => XS.iload X175.here hx rfl (hb hby at_243) rfl k) ?_
      show Comes p e below _ (T175.setTop (mkF m 245 #[.val (.long qa), .second, .val (.long qb), .second, .val (.long qc), .second, .val (.int fl), .val (.int (2 : Int32)), .val (.int j80), .val (.int (1 : Int32)), .val (.int (0 : Int32)), .val (.ref b87), .val (.ref b101), .val (.ref b107), .val (.ref b113), .val (.int v165), .val (.int (1 : Int32)), .unset] [(.int (0 : Int32)), (.int j174)]))
      have hc245_176 : (0 : Int32) = (0 : Int32) := by decide
      refine Comes.st (fun t k => XS.ifYes X175.here hx rfl (pc0 := 245) (pc' := 263) rfl (hb hby at_245) rfl ((if0 _ _).trans (teq hc245_176).1) (by decide) (by decide) (XS.iconst X175.here hx rfl (hb hby at_263) (XS.iadd X175.here hx rfl (hb hby at_264) rfl k))) ?_
      show Comes p e below _ (T175.setTop (mkF m 265 #[.val (.long qa), .second, .val (.long qb), .second, .val (.long qc), .second, .val (.int fl), .val (.int (2 : Int32)), .val (.int j80), .val (.int (1 : Int32)), .val (.int (0 : Int32)), .val (.ref b87), .val (.ref b101), .val (.ref b107), .val (.ref b113), .val (.int v165), .val (.int (1 : Int32)), .unset] [(.int (j174 + (0 : Int32)))]))
      generalize hv_v177 : (j174 + (0 : Int32)) = v177
      show Comes p e below _ (T175.setTop (mkF m 265 #[.val (.long qa), .second, .val (.long qb), .second, .val (.long qc), .second, .val (.int fl), .val (.int (2 : Int32)), .val (.int j80), .val (.int (1 : Int32)), .val (.int (0 : Int32)), .val (.ref b87), .val (.ref b101), .val (.ref b107), .val (.ref b113), .val (.int v165), .val (.int (1 : Int32)), .unset] [(.int v177)]))
      refine Comes.st (fun t k => XS.istore X175.here hx rfl (hb hby at_265) rfl (l' := #[.val (.long qa), .second, .val (.long qb), .second, .val (.long qc), .second, .val (.int fl), .val (.int (2 : Int32)), .val (.int j80), .val (.int (1 : Int32)), .val (.int (0 : Int32)), .val (.ref b87), .val (.ref b101), .val (.ref b107), .val (.ref b113), .val (.int v165), .val (.int (1 : Int32)), .val (.int v177)]) rfl (XS.iload X175.here hx rfl (hb hby at_267) rfl k)) ?_
      show Comes p e below _ (T175.setTop (mkF m 269 #[.val (.long qa), .second, .val (.long qb), .second, .val (.long qc), .second, .val (.int fl), .val (.int (2 : Int32)), .val (.int j80), .val (.int (1 : Int32)), .val (.int (0 : Int32)), .val (.ref b87), .val (.ref b101), .val (.ref b107), .val (.ref b113), .val (.int v165), .val (.int (1 : Int32)), .val (.int v177)] [(.int (1 : Int32))]))
      have hc269_178 : ¬ ((1 : Int32) = (0 : Int32)) := by decide
      refine Comes.st (fun t k => XS.ifNo X175.here hx rfl (hb hby at_269) rfl ((if0 _ _).trans (feq hc269_178).1) (XS.aload X175.here hx rfl (hb hby at_272) rfl rfl (XS.iload X175.here hx rfl (hb hby at_274) rfl k))) ?_
      show Comes p e below _ (T175.setTop (mkF m 276 #[.val (.long qa), .second, .val (.long qb), .second, .val (.long qc), .second, .val (.int fl), .val (.int (2 : Int32)), .val (.int j80), .val (.int (1 : Int32)), .val (.int (0 : Int32)), .val (.ref b87), .val (.ref b101), .val (.ref b107), .val (.ref b113), .val (.int v165), .val (.int (1 : Int32)), .val (.int v177)] [(.int v177), (.ref b87)]))
      obtain ⟨cq179, kq179, q179a, q179b, q179c⟩ := isOf hZ e175 P149_0
      obtain ⟨_, _, ⟨T179, L179, k179, n179⟩, -, X179, ⟨Lc179, hQ179, l179, y179, z179⟩, st179⟩ := X175.virtualBack hx (y := (⟨"com/example/tenorbook/tenorbook/engine/Ladder", "best", "(I)Lcom/example/tenorbook/tenorbook/engine/Level;"⟩ : MethodName)) (z := (⟨"com/example/tenorbook/tenorbook/engine/Ladder", "best", "(I)Lcom/example/tenorbook/tenorbook/engine/Level;"⟩ : MethodName)) hown (mvT hZ (hw _ (List.mem_of_getElem? (i := 60) rfl))) (mvT hZ (hw _ (List.mem_of_getElem? (i := 61) rfl))) (notFace_of_selects (args := #[]) (mvT hZ (hw _ (List.mem_of_getElem? (i := 63) rfl)))) (mvT hZ (hw _ (List.mem_of_getElem? (i := 63) rfl))) (mvT hZ (hw _ (List.mem_of_getElem? (i := 62) rfl))) (by decide) (backOf (W := 0) (best2 l Z a0 hw [] b87 v177 o94 r96 o152 o153 T149.heap n0 (by omega)  P149_2 P149_4 P149_6 (by have a_0 := c_mask fl (3 : Int32) 2 (by decide) (by decide); have a_1 := c_irem (fl &&& (3 : Int32)) (3 : Int32) 3 (by decide); have a_2 := c_iadd ((fl &&& (3 : Int32)) % (3 : Int32)) (1 : Int32); rw [hv_v2] at a_2; have a_3 := c_and fl (4 : Int32) (by decide); have a_4 := c_iadd j162 (0 : Int32); rw [hv_v165] at a_4; have a_5 := c_iadd j174 (0 : Int32); rw [hv_v177] at a_5; have a_6 := rng32 ((fl &&& (3 : Int32)) % (3 : Int32)); have a_7 := rng32 (2 : Int32); have a_8 := rng32 (fl &&& (3 : Int32)); have a_9 := rng32 (fl &&& (4 : Int32)); have a_10 := rng32 fl; have a_11 := rng32 j162; have a_12 := rng32 j174; have a_13 := rng32 v165; have a_14 := rng32 v177; have c_0 := hc27_82; have c_1 := hc40_83; have c_2 := hc52_84; have c_3 := hc58_85; have c_4 := hc65_86; have c_5 := hc138_144; have c_6 := hc150_156; have c_7 := hc162_157; have c_8 := hc182_164; have c_9 := hc213_168; have c_10 := hc225_169; have c_11 := hc245_176; have c_12 := hc269_178; have c_13 := rel81; have c_14 := P92_13; have c_15 := P140_12; have c_16 := P149_13; have c_17 := P149_14; have c_18 := P158_0; have c_19 := rel163; have c_20 := P166_0; have c_21 := P170_0; have c_22 := rel175; (try simp only [Int32.lt_iff_toInt_lt, Int64.lt_iff_toInt_lt, ← Int32.toInt_inj, ← Int64.toInt_inj, Int32.reduceToInt, Int64.reduceToInt, eq_self, and_true, true_and, or_true, true_or, and_false, false_and, or_false, false_or, not_true_eq_false, not_false_eq_true] at a_0 a_1 a_2 a_3 a_4 a_5 a_6 a_7 a_8 a_9 a_10 a_11 a_12 a_13 a_14 c_0 c_1 c_2 c_3 c_4 c_5 c_6 c_7 c_8 c_9 c_10 c_11 c_12 c_13 c_14 c_15 c_16 c_17 c_18 c_19 c_20 c_21 c_22 ⊢) <;> omega)) hZ (hw _ (List.mem_of_getElem? (i := 64) rfl)) (hw _ (List.mem_of_getElem? (i := 2) rfl)) (by decide) (by decide)) q179a q179c (g := (mkF m 276 #[.val (.long qa), .second, .val (.long qb), .second, .val (.long qc), .second, .val (.int fl), .val (.int (2 : Int32)), .val (.int j80), .val (.int (1 : Int32)), .val (.int (0 : Int32)), .val (.ref b87), .val (.ref b101), .val (.ref b107), .val (.ref b113), .val (.int v165), .val (.int (1 : Int32)), .val (.int v177)] [(.int v177), (.ref b87)])) rfl (by rw [hml]; rfl) (Steps.refl _) (argsL := [(.int v177)]) (rest := []) (lenOf pd_6 rfl) rfl (by show 2 * 0 + _ ≤ _; exact Nat.le_of_eq rfl) (hb hby at_276) (fun _ _ => ⟨rfl, e175, (by decide : 6 + 0 ≤ _), (by decide : 27 + 0 ≤ _)⟩)
      dsimp only [Pt.U, Pt.locs, Pt.cells, Pt.slots] at X179 l179 y179 z179 st179 hQ179
      subst l179 y179 z179
      obtain ⟨o180, rfl, Nq179, hs179, P179_0⟩ := hQ179
      have N179 := Fr.app N175 Nq179
      refine Comes.go st179 ?_
      show Comes p e below _ (T179.setTop (mkF m 279 #[.val (.long qa), .second, .val (.long qb), .second, .val (.long qc), .second, .val (.int fl), .val (.int (2 : Int32)), .val (.int j80), .val (.int (1 : Int32)), .val (.int (0 : Int32)), .val (.ref b87), .val (.ref b101), .val (.ref b107), .val (.ref b113), .val (.int v165), .val (.int (1 : Int32)), .val (.int v177)] [(.ref o180)]))
      refine Comes.st (fun t k => XS.aload X179.here hx rfl (hb hby at_279) rfl rfl k) ?_
      show Comes p e below _ (T179.setTop (mkF m 281 #[.val (.long qa), .second, .val (.long qb), .second, .val (.long qc), .second, .val (.int fl), .val (.int (2 : Int32)), .val (.int j80), .val (.int (1 : Int32)), .val (.int (0 : Int32)), .val (.ref b87), .val (.ref b101), .val (.ref b107), .val (.ref b113), .val (.int v165), .val (.int (1 : Int32)), .val (.int v177)] [(.ref b107), (.ref o180)]))
      have hc281_181 : o180 = b107 := by apply own_ad_inj; have a_0 := c_mask fl (3 : Int32) 2 (by decide) (by decide); have a_1 := c_irem (fl &&& (3 : Int32)) (3 : Int32) 3 (by decide); have a_2 := c_iadd ((fl &&& (3 : Int32)) % (3 : Int32)) (1 : Int32); rw [hv_v2] at a_2; have a_3 := c_and fl (4 : Int32) (by decide); have a_4 := c_iadd j162 (0 : Int32); rw [hv_v165] at a_4; have a_5 := c_iadd j174 (0 : Int32); rw [hv_v177] at a_5; have a_6 := rng32 ((fl &&& (3 : Int32)) % (3 : Int32)); have a_7 := rng32 (2 : Int32); have a_8 := rng32 (fl &&& (3 : Int32)); have a_9 := rng32 (fl &&& (4 : Int32)); have a_10 := rng32 fl; have a_11 := rng32 j162; have a_12 := rng32 j174; have a_13 := rng32 v165; have a_14 := rng32 v177; have a_15 := own_key_ne j80 hc58_85; have c_0 := hc27_82; have c_1 := hc40_83; have c_2 := hc52_84; have c_3 := hc58_85; have c_4 := hc65_86; have c_5 := hc138_144; have c_6 := hc150_156; have c_7 := hc162_157; have c_8 := hc182_164; have c_9 := hc213_168; have c_10 := hc225_169; have c_11 := hc245_176; have c_12 := hc269_178; have c_13 := P92_13; have c_14 := P140_12; have c_15 := P149_13; have c_16 := P149_14; have c_17 := P158_0; have c_18 := rel163; have c_19 := P166_0; have c_20 := P170_0; have c_21 := rel175; have c_22 := P179_0; (try simp only [Int32.lt_iff_toInt_lt, Int64.lt_iff_toInt_lt, ← Int32.toInt_inj, ← Int64.toInt_inj, Int32.reduceToInt, Int64.reduceToInt, eq_self, and_true, true_and, or_true, true_or, and_false, false_and, or_false, false_or, not_true_eq_false, not_false_eq_true] at a_0 a_1 a_2 a_3 a_4 a_5 a_6 a_7 a_8 a_9 a_10 a_11 a_12 a_13 a_14 a_15 c_0 c_1 c_2 c_3 c_4 c_5 c_6 c_7 c_8 c_9 c_10 c_11 c_12 c_13 c_14 c_15 c_16 c_17 c_18 c_19 c_20 c_21 c_22 ⊢) <;> omega
      refine Comes.st (fun t k => Jvm.RoadKit.acmp (g := (mkF m 281 #[.val (.long qa), .second, .val (.long qb), .second, .val (.long qc), .second, .val (.int fl), .val (.int (2 : Int32)), .val (.int j80), .val (.int (1 : Int32)), .val (.int (0 : Int32)), .val (.ref b87), .val (.ref b101), .val (.ref b107), .val (.ref b113), .val (.int v165), .val (.int (1 : Int32)), .val (.int v177)] [(.ref b107), (.ref o180)])) X179 hx rfl rfl rfl (pc0 := 281) (pc' := 284) (same := true) rfl (hb hby at_281) rfl (decide_eq_true (congrArg Value.ref hc281_181)) (by decide) (by decide) (XS.iconst X179.here hx rfl (hb hby at_284) (XS.goto X179.here hx rfl (pc0 := 285) (pc' := 289) rfl (hb hby at_285) (by decide) (by decide) (XS.istore X179.here hx rfl (hb hby at_289) rfl (l' := #[.val (.long qa), .second, .val (.long qb), .second, .val (.long qc), .second, .val (.int fl), .val (.int (2 : Int32)), .val (.int j80), .val (.int (1 : Int32)), .val (.int (0 : Int32)), .val (.ref b87), .val (.ref b101), .val (.ref b107), .val (.ref b113), .val (.int v165), .val (.int (1 : Int32)), .val (.int v177)]) rfl (XS.iload X179.here hx rfl (hb hby at_291) rfl k))))) ?_
      show Comes p e below _ (T179.setTop (mkF m 293 #[.val (.long qa), .second, .val (.long qb), .second, .val (.long qc), .second, .val (.int fl), .val (.int (2 : Int32)), .val (.int j80), .val (.int (1 : Int32)), .val (.int (0 : Int32)), .val (.ref b87), .val (.ref b101), .val (.ref b107), .val (.ref b113), .val (.int v165), .val (.int (1 : Int32)), .val (.int v177)] [(.int (0 : Int32))]))
      have hc293_182 : (0 : Int32) = (0 : Int32) := by decide
      refine Comes.st (fun t k => XS.ifYes X179.here hx rfl (pc0 := 293) (pc' := 355) rfl (hb hby at_293) rfl ((if0 _ _).trans (teq hc293_182).1) (by decide) (by decide) (XS.iload X179.here hx rfl (hb hby at_355) rfl k)) ?_
      show Comes p e below _ (T179.setTop (mkF m 357 #[.val (.long qa), .second, .val (.long qb), .second, .val (.long qc), .second, .val (.int fl), .val (.int (2 : Int32)), .val (.int j80), .val (.int (1 : Int32)), .val (.int (0 : Int32)), .val (.ref b87), .val (.ref b101), .val (.ref b107), .val (.ref b113), .val (.int v165), .val (.int (1 : Int32)), .val (.int v177)] [(.int (1 : Int32))]))
      exact Comes.retN X179 hx (t := .boolean) Bd.returns (by simp) hlk (hb hby at_357) hs179 ⟨rfl, N179⟩ (by decide) (by decide)
  · show Comes p e below _ (s₁.setTop (mkF m 10 #[.val (.long qa), .second, .val (.long qb), .second, .val (.long qc), .second, .val (.int fl), .val (.int (3 : Int32)), .unset, .unset, .unset, .unset, .unset, .unset, .unset, .unset, .unset, .unset] []))
    refine Comes.st (fun t k => XS.iload X0.here hx rfl (hb hby at_10) rfl (XS.iconst X0.here hx rfl (hb hby at_12) (XS.iand X0.here hx rfl (hb hby at_13) rfl k))) ?_
    have J183 : Comes p e below (fun S' => ∃ (T' : State), ∃ (L' : List Loc), ∃ (j185 : Int32), (S' = T'.setTop (mkF m 22 #[.val (.long qa), .second, .val (.long qb), .second, .val (.long qc), .second, .val (.int fl), .val (.int (3 : Int32)), .unset, .unset, .unset, .unset, .unset, .unset, .unset, .unset, .unset, .unset] [(.int j185)])) ∧ (Stand p l e room_1 s m #[(.long qa), (.long qb), (.long qc), (.int fl)] below meth c T' L' 0 0) ∧ (T'.heap = h0) ∧ (Fr n0 L') ∧ (j185 = (0 : Int32) ∨ j185 = (1 : Int32))) (s₁.setTop (mkF m 14 #[.val (.long qa), .second, .val (.long qb), .second, .val (.long qc), .second, .val (.int fl), .val (.int (3 : Int32)), .unset, .unset, .unset, .unset, .unset, .unset, .unset, .unset, .unset, .unset] [(.int (fl &&& (4 : Int32)))])) := by
      show Comes p e below _ (s₁.setTop (mkF m 14 #[.val (.long qa), .second, .val (.long qb), .second, .val (.long qc), .second, .val (.int fl), .val (.int (3 : Int32)), .unset, .unset, .unset, .unset, .unset, .unset, .unset, .unset, .unset, .unset] [(.int (fl &&& (4 : Int32)))]))
      by_cases hc14_184 : (fl &&& (4 : Int32)) = (0 : Int32)
      · refine Comes.st (fun t k => XS.ifYes X0.here hx rfl (pc0 := 14) (pc' := 21) rfl (hb hby at_14) rfl ((if0 _ _).trans (teq hc14_184).1) (by decide) (by decide) (XS.iconst X0.here hx rfl (hb hby at_21) k)) ?_
        show Comes p e below _ (s₁.setTop (mkF m 22 #[.val (.long qa), .second, .val (.long qb), .second, .val (.long qc), .second, .val (.int fl), .val (.int (3 : Int32)), .unset, .unset, .unset, .unset, .unset, .unset, .unset, .unset, .unset, .unset] [(.int (0 : Int32))]))
        exact Comes.here ⟨_, _, (0 : Int32), rfl, X0, e0, N0, (by first | exact Or.inl rfl | exact Or.inr rfl)⟩
      · refine Comes.st (fun t k => XS.ifNo X0.here hx rfl (hb hby at_14) rfl ((if0 _ _).trans (feq hc14_184).1) (XS.iconst X0.here hx rfl (hb hby at_17) (XS.goto X0.here hx rfl (pc0 := 18) (pc' := 22) rfl (hb hby at_18) (by decide) (by decide) k))) ?_
        show Comes p e below _ (s₁.setTop (mkF m 22 #[.val (.long qa), .second, .val (.long qb), .second, .val (.long qc), .second, .val (.int fl), .val (.int (3 : Int32)), .unset, .unset, .unset, .unset, .unset, .unset, .unset, .unset, .unset, .unset] [(.int (1 : Int32))]))
        exact Comes.here ⟨_, _, (1 : Int32), rfl, X0, e0, N0, (by first | exact Or.inl rfl | exact Or.inr rfl)⟩
    obtain ⟨_, st186, T186, L186, j185, rfl, X186, e186, N186, rel186⟩ := J183
    refine Comes.go st186 ?_
    show Comes p e below _ (T186.setTop (mkF m 22 #[.val (.long qa), .second, .val (.long qb), .second, .val (.long qc), .second, .val (.int fl), .val (.int (3 : Int32)), .unset, .unset, .unset, .unset, .unset, .unset, .unset, .unset, .unset, .unset] [(.int j185)]))
    refine Comes.st (fun t k => XS.istore X186.here hx rfl (hb hby at_22) rfl (l' := #[.val (.long qa), .second, .val (.long qb), .second, .val (.long qc), .second, .val (.int fl), .val (.int (3 : Int32)), .val (.int j185), .unset, .unset, .unset, .unset, .unset, .unset, .unset, .unset, .unset]) rfl (XS.iload X186.here hx rfl (hb hby at_24) rfl (XS.iconst X186.here hx rfl (hb hby at_26) k))) ?_
    show Comes p e below _ (T186.setTop (mkF m 27 #[.val (.long qa), .second, .val (.long qb), .second, .val (.long qc), .second, .val (.int fl), .val (.int (3 : Int32)), .val (.int j185), .unset, .unset, .unset, .unset, .unset, .unset, .unset, .unset, .unset] [(.int (2 : Int32)), (.int (3 : Int32))]))
    have hc27_187 : ¬ ((3 : Int32) < (2 : Int32)) := by decide
    refine Comes.st (fun t k => XS.icmpNo X186.here hx rfl (hb hby at_27) rfl (flt hc27_187).1 (XS.iconst X186.here hx rfl (hb hby at_30) (XS.goto X186.here hx rfl (pc0 := 31) (pc' := 35) rfl (hb hby at_31) (by decide) (by decide) (XS.istore X186.here hx rfl (hb hby at_35) rfl (l' := #[.val (.long qa), .second, .val (.long qb), .second, .val (.long qc), .second, .val (.int fl), .val (.int (3 : Int32)), .val (.int j185), .val (.int (1 : Int32)), .unset, .unset, .unset, .unset, .unset, .unset, .unset, .unset]) rfl (XS.iload X186.here hx rfl (hb hby at_37) rfl (XS.iconst X186.here hx rfl (hb hby at_39) k)))))) ?_
    show Comes p e below _ (T186.setTop (mkF m 40 #[.val (.long qa), .second, .val (.long qb), .second, .val (.long qc), .second, .val (.int fl), .val (.int (3 : Int32)), .val (.int j185), .val (.int (1 : Int32)), .unset, .unset, .unset, .unset, .unset, .unset, .unset, .unset] [(.int (3 : Int32)), (.int (3 : Int32))]))
    have hc40_188 : ¬ ((3 : Int32) < (3 : Int32)) := by decide
    refine Comes.st (fun t k => XS.icmpNo X186.here hx rfl (hb hby at_40) rfl (flt hc40_188).1 (XS.iconst X186.here hx rfl (hb hby at_43) (XS.goto X186.here hx rfl (pc0 := 44) (pc' := 48) rfl (hb hby at_44) (by decide) (by decide) (XS.istore X186.here hx rfl (hb hby at_48) rfl (l' := #[.val (.long qa), .second, .val (.long qb), .second, .val (.long qc), .second, .val (.int fl), .val (.int (3 : Int32)), .val (.int j185), .val (.int (1 : Int32)), .val (.int (1 : Int32)), .unset, .unset, .unset, .unset, .unset, .unset, .unset]) rfl (XS.iload X186.here hx rfl (hb hby at_50) rfl k))))) ?_
    show Comes p e below _ (T186.setTop (mkF m 52 #[.val (.long qa), .second, .val (.long qb), .second, .val (.long qc), .second, .val (.int fl), .val (.int (3 : Int32)), .val (.int j185), .val (.int (1 : Int32)), .val (.int (1 : Int32)), .unset, .unset, .unset, .unset, .unset, .unset, .unset] [(.int (1 : Int32))]))
    have hc52_189 : ¬ ((1 : Int32) = (0 : Int32)) := by decide
    refine Comes.st (fun t k => XS.ifNo X186.here hx rfl (hb hby at_52) rfl ((if0 _ _).trans (feq hc52_189).1) (XS.lloadN X186.here hx rfl (hb hby at_55) rfl (XS.lloadN X186.here hx rfl (hb hby at_56) rfl (XS.lcmp X186.here hx rfl (hb hby at_57) rfl k)))) ?_
    show Comes p e below _ (T186.setTop (mkF m 58 #[.val (.long qa), .second, .val (.long qb), .second, .val (.long qc), .second, .val (.int fl), .val (.int (3 : Int32)), .val (.int j185), .val (.int (1 : Int32)), .val (.int (1 : Int32)), .unset, .unset, .unset, .unset, .unset, .unset, .unset] [(.int (lcmpW qa qb))]))
    by_cases hc58_190 : qa = qb
    · refine Comes.st (fun t k => XS.ifNo X186.here hx rfl (hb hby at_58) rfl ((if0 _ _).trans (teq ((lw_eq _ _).mpr hc58_190)).2) (XS.iconst X186.here hx rfl (hb hby at_61) k)) ?_
      show Comes p e below _ (T186.setTop (mkF m 62 #[.val (.long qa), .second, .val (.long qb), .second, .val (.long qc), .second, .val (.int fl), .val (.int (3 : Int32)), .val (.int j185), .val (.int (1 : Int32)), .val (.int (1 : Int32)), .unset, .unset, .unset, .unset, .unset, .unset, .unset] [(.int (1 : Int32))]))
      exact Comes.retN X186 hx (t := .boolean) Bd.returns (by simp) hlk (hb hby at_62) e186 ⟨rfl, N186⟩ (by decide) (by decide)
    · refine Comes.st (fun t k => XS.ifYes X186.here hx rfl (pc0 := 58) (pc' := 63) rfl (hb hby at_58) rfl ((if0 _ _).trans (feq (fun q => hc58_190 ((lw_eq _ _).mp q))).2) (by decide) (by decide) (XS.iload X186.here hx rfl (hb hby at_63) rfl k)) ?_
      show Comes p e below _ (T186.setTop (mkF m 65 #[.val (.long qa), .second, .val (.long qb), .second, .val (.long qc), .second, .val (.int fl), .val (.int (3 : Int32)), .val (.int j185), .val (.int (1 : Int32)), .val (.int (1 : Int32)), .unset, .unset, .unset, .unset, .unset, .unset, .unset] [(.int (1 : Int32))]))
      have hc65_191 : ¬ ((1 : Int32) = (0 : Int32)) := by decide
      refine Comes.st (fun t k => XS.ifNo X186.here hx rfl (hb hby at_65) rfl ((if0 _ _).trans (feq hc65_191).1) (XS.lloadN X186.here hx rfl (hb hby at_68) rfl (XS.lload X186.here hx rfl (hb hby at_69) rfl (XS.lcmp X186.here hx rfl (hb hby at_71) rfl k)))) ?_
      show Comes p e below _ (T186.setTop (mkF m 72 #[.val (.long qa), .second, .val (.long qb), .second, .val (.long qc), .second, .val (.int fl), .val (.int (3 : Int32)), .val (.int j185), .val (.int (1 : Int32)), .val (.int (1 : Int32)), .unset, .unset, .unset, .unset, .unset, .unset, .unset] [(.int (lcmpW qa qc))]))
      by_cases hc72_192 : qa = qc
      · refine Comes.st (fun t k => XS.ifYes X186.here hx rfl (pc0 := 72) (pc' := 82) rfl (hb hby at_72) rfl ((if0 _ _).trans (teq ((lw_eq _ _).mpr hc72_192)).1) (by decide) (by decide) (XS.iconst X186.here hx rfl (hb hby at_82) k)) ?_
        show Comes p e below _ (T186.setTop (mkF m 83 #[.val (.long qa), .second, .val (.long qb), .second, .val (.long qc), .second, .val (.int fl), .val (.int (3 : Int32)), .val (.int j185), .val (.int (1 : Int32)), .val (.int (1 : Int32)), .unset, .unset, .unset, .unset, .unset, .unset, .unset] [(.int (1 : Int32))]))
        exact Comes.retN X186 hx (t := .boolean) Bd.returns (by simp) hlk (hb hby at_83) e186 ⟨rfl, N186⟩ (by decide) (by decide)
      · refine Comes.st (fun t k => XS.ifNo X186.here hx rfl (hb hby at_72) rfl ((if0 _ _).trans (feq (fun q => hc72_192 ((lw_eq _ _).mp q))).1) (XS.lloadN X186.here hx rfl (hb hby at_75) rfl (XS.lload X186.here hx rfl (hb hby at_76) rfl (XS.lcmp X186.here hx rfl (hb hby at_78) rfl k)))) ?_
        show Comes p e below _ (T186.setTop (mkF m 79 #[.val (.long qa), .second, .val (.long qb), .second, .val (.long qc), .second, .val (.int fl), .val (.int (3 : Int32)), .val (.int j185), .val (.int (1 : Int32)), .val (.int (1 : Int32)), .unset, .unset, .unset, .unset, .unset, .unset, .unset] [(.int (lcmpW qb qc))]))
        by_cases hc79_193 : qb = qc
        · refine Comes.st (fun t k => XS.ifNo X186.here hx rfl (hb hby at_79) rfl ((if0 _ _).trans (teq ((lw_eq _ _).mpr hc79_193)).2) (XS.iconst X186.here hx rfl (hb hby at_82) k)) ?_
          show Comes p e below _ (T186.setTop (mkF m 83 #[.val (.long qa), .second, .val (.long qb), .second, .val (.long qc), .second, .val (.int fl), .val (.int (3 : Int32)), .val (.int j185), .val (.int (1 : Int32)), .val (.int (1 : Int32)), .unset, .unset, .unset, .unset, .unset, .unset, .unset] [(.int (1 : Int32))]))
          exact Comes.retN X186 hx (t := .boolean) Bd.returns (by simp) hlk (hb hby at_83) e186 ⟨rfl, N186⟩ (by decide) (by decide)
        · refine Comes.st (fun t k => XS.ifYes X186.here hx rfl (pc0 := 79) (pc' := 84) rfl (hb hby at_79) rfl ((if0 _ _).trans (feq (fun q => hc79_193 ((lw_eq _ _).mp q))).2) (by decide) (by decide) k) ?_
          show Comes p e below _ (T186.setTop (mkF m 84 #[.val (.long qa), .second, .val (.long qb), .second, .val (.long qc), .second, .val (.int fl), .val (.int (3 : Int32)), .val (.int j185), .val (.int (1 : Int32)), .val (.int (1 : Int32)), .unset, .unset, .unset, .unset, .unset, .unset, .unset] []))
          obtain ⟨T194, h194, X194, e194, E194, A194, D194, -, st194⟩ := newO X186 hx hZ hown (hw _ (List.mem_of_getElem? (i := 0) rfl)) (hw _ (List.mem_of_getElem? (i := 1) rfl)) (hw _ (List.mem_of_getElem? (i := 2) rfl)) e186 (g := (mkF m 84 #[.val (.long qa), .second, .val (.long qb), .second, .val (.long qc), .second, .val (.int fl), .val (.int (3 : Int32)), .val (.int j185), .val (.int (1 : Int32)), .val (.int (1 : Int32)), .unset, .unset, .unset, .unset, .unset, .unset, .unset] [])) rfl (hb hby at_84) (by decide) (by decide)
          obtain ⟨b194, g194⟩ : ∃ z, z = h0.size := ⟨_, rfl⟩
          rw [← g194] at A194 D194 st194
          have z194 : h0.size ≤ h194.size := E194.1
          have lt194 : b194 < h194.size := A194.lt
          have F195 : Fld Z h194 b194 "com/example/tenorbook/tenorbook/engine/Ladder" "ticks" "[J" .null := D194 (Or.inl (hw _ (List.mem_of_getElem? (i := 11) rfl))) (ty := (.array .long)) (by decide)
          have F196 : Fld Z h194 b194 "com/example/tenorbook/tenorbook/engine/Ladder" "levels" "[Lcom/example/tenorbook/tenorbook/engine/Level;" .null := D194 (Or.inl (hw _ (List.mem_of_getElem? (i := 15) rfl))) (ty := (.array (.object "com/example/tenorbook/tenorbook/engine/Level"))) (by decide)
          have F197 : Fld Z h194 b194 "com/example/tenorbook/tenorbook/engine/Ladder" "lowestBest" "Z" (.int (0 : Int32)) := D194 (Or.inr (hw _ (List.mem_of_getElem? (i := 17) rfl))) (ty := .boolean) (by decide)
          have F198 : Fld Z h194 b194 "com/example/tenorbook/tenorbook/engine/Ladder" "count" "I" (.int (0 : Int32)) := D194 (Or.inl (hw _ (List.mem_of_getElem? (i := 44) rfl))) (ty := .int) (by decide)
          refine Comes.st st194 ?_
          show Comes p e below _ (T194.setTop (mkF m 87 #[.val (.long qa), .second, .val (.long qb), .second, .val (.long qc), .second, .val (.int fl), .val (.int (3 : Int32)), .val (.int j185), .val (.int (1 : Int32)), .val (.int (1 : Int32)), .unset, .unset, .unset, .unset, .unset, .unset, .unset] [(.ref b194)]))
          refine Comes.st (fun t k => XS.dup X194.here hx rfl (hb hby at_87) rfl rfl (XS.iload X194.here hx rfl (hb hby at_88) rfl k)) ?_
          show Comes p e below _ (T194.setTop (mkF m 90 #[.val (.long qa), .second, .val (.long qb), .second, .val (.long qc), .second, .val (.int fl), .val (.int (3 : Int32)), .val (.int j185), .val (.int (1 : Int32)), .val (.int (1 : Int32)), .unset, .unset, .unset, .unset, .unset, .unset, .unset] [(.int j185), (.ref b194), (.ref b194)]))
          obtain ⟨_, _, ⟨T199, L199, k199, n199⟩, -, X199, ⟨Lc199, hQ199, l199, y199, z199⟩, st199⟩ := X194.specialBack hx (y := (⟨"com/example/tenorbook/tenorbook/engine/Ladder", "<init>", "(Z)V"⟩ : MethodName)) rfl hown (mvT hZ (hw _ (List.mem_of_getElem? (i := 3) rfl))) (mvT hZ (hw _ (List.mem_of_getElem? (i := 4) rfl))) (mvT hZ (hw _ (List.mem_of_getElem? (i := 5) rfl))) (by decide) (backOf (W := 1) (rm1 l Z a0 hw [] b194 j185 h194 n0 (by omega)  A194 F195 F196 F197 F198 (by omega)) hZ (hw _ (List.mem_of_getElem? (i := 5) rfl)) (hw _ (List.mem_of_getElem? (i := 2) rfl)) (by decide) (by decide)) (g := (mkF m 90 #[.val (.long qa), .second, .val (.long qb), .second, .val (.long qc), .second, .val (.int fl), .val (.int (3 : Int32)), .val (.int j185), .val (.int (1 : Int32)), .val (.int (1 : Int32)), .unset, .unset, .unset, .unset, .unset, .unset, .unset] [(.int j185), (.ref b194), (.ref b194)])) rfl (by rw [hml]; rfl) (Steps.refl _) (a := b194) (argsL := [(.int j185)]) (rest := [(.ref b194)]) (lenOf pd_3 rfl) rfl (by show 2 * 0 + _ ≤ _; exact Nat.le_of_eq rfl) (hb hby at_90) (fun _ _ => ⟨rfl, e194, (by decide : 1 + 2 ≤ _), (by decide : 4 + 8 ≤ _)⟩)
          dsimp only [Pt.U, Pt.locs, Pt.cells, Pt.slots] at X199 l199 y199 z199 st199 hQ199
          subst l199 y199 z199
          obtain ⟨o200, o201, r202, r203, rfl, Nq199, Kq199, P199_0, P199_1, P199_2, P199_3, P199_4, P199_5, P199_6, P199_7, P199_8, P199_9, P199_10, P199_11, P199_12, P199_13⟩ := hQ199
          have N199 := Fr.app N186 Nq199
          have z199k : h194.size ≤ T199.heap.size := Kq199.1
          refine Comes.go st199 ?_
          have lt_204 : b194 < T199.heap.size := P199_0.lt
          have lt_205 : o200 < T199.heap.size := P199_5.lt
          have lt_206 : o201 < T199.heap.size := P199_6.lt
          have hlb : nar .boolean j185 = j185 := by rcases rel186 with q | q <;> rw [q] <;> rfl
          have F207 : Fld Z T199.heap b194 "com/example/tenorbook/tenorbook/engine/Ladder" "lowestBest" "Z" (.int j185) := by have q := P199_3; rw [hlb] at q; exact q
          show Comes p e below _ (T199.setTop (mkF m 93 #[.val (.long qa), .second, .val (.long qb), .second, .val (.long qc), .second, .val (.int fl), .val (.int (3 : Int32)), .val (.int j185), .val (.int (1 : Int32)), .val (.int (1 : Int32)), .unset, .unset, .unset, .unset, .unset, .unset, .unset] [(.ref b194)]))
          refine Comes.st (fun t k => XS.astore X199.here hx rfl (hb hby at_93) rfl rfl (l' := #[.val (.long qa), .second, .val (.long qb), .second, .val (.long qc), .second, .val (.int fl), .val (.int (3 : Int32)), .val (.int j185), .val (.int (1 : Int32)), .val (.int (1 : Int32)), .val (.ref b194), .unset, .unset, .unset, .unset, .unset, .unset]) rfl k) ?_
          show Comes p e below _ (T199.setTop (mkF m 95 #[.val (.long qa), .second, .val (.long qb), .second, .val (.long qc), .second, .val (.int fl), .val (.int (3 : Int32)), .val (.int j185), .val (.int (1 : Int32)), .val (.int (1 : Int32)), .val (.ref b194), .unset, .unset, .unset, .unset, .unset, .unset] []))
          obtain ⟨T208, h208, X208, e208, E208, A208, D208, -, st208⟩ := newO X199 hx hZ hown (hw _ (List.mem_of_getElem? (i := 18) rfl)) (hw _ (List.mem_of_getElem? (i := 19) rfl)) (hw _ (List.mem_of_getElem? (i := 20) rfl)) rfl (g := (mkF m 95 #[.val (.long qa), .second, .val (.long qb), .second, .val (.long qc), .second, .val (.int fl), .val (.int (3 : Int32)), .val (.int j185), .val (.int (1 : Int32)), .val (.int (1 : Int32)), .val (.ref b194), .unset, .unset, .unset, .unset, .unset, .unset] [])) rfl (hb hby at_95) (by decide) (by decide)
          obtain ⟨b208, g208⟩ : ∃ z, z = T199.heap.size := ⟨_, rfl⟩
          rw [← g208] at A208 D208 st208
          have z208 : T199.heap.size ≤ h208.size := E208.1
          have lt208 : b208 < h208.size := A208.lt
          have F209 : Fld Z h208 b208 "com/example/tenorbook/tenorbook/engine/Level" "ticks" "J" (.long (0 : Int64)) := D208 (Or.inr (hw _ (List.mem_of_getElem? (i := 26) rfl))) (ty := .long) (by decide)
          have F210 : Fld Z h208 b208 "com/example/tenorbook/tenorbook/engine/Level" "rate" "Ljava/math/BigDecimal;" .null := D208 (Or.inr (hw _ (List.mem_of_getElem? (i := 28) rfl))) (ty := (.object "java/math/BigDecimal")) (by decide)
          have F211 : Fld Z h208 b208 "com/example/tenorbook/tenorbook/engine/Level" "ladder" "Lcom/example/tenorbook/tenorbook/engine/Ladder;" .null := D208 (Or.inl (hw _ (List.mem_of_getElem? (i := 51) rfl))) (ty := (.object "com/example/tenorbook/tenorbook/engine/Ladder")) (by decide)
          refine Comes.st st208 ?_
          show Comes p e below _ (T208.setTop (mkF m 98 #[.val (.long qa), .second, .val (.long qb), .second, .val (.long qc), .second, .val (.int fl), .val (.int (3 : Int32)), .val (.int j185), .val (.int (1 : Int32)), .val (.int (1 : Int32)), .val (.ref b194), .unset, .unset, .unset, .unset, .unset, .unset] [(.ref b208)]))
          refine Comes.st (fun t k => XS.dup X208.here hx rfl (hb hby at_98) rfl rfl (XS.lloadN X208.here hx rfl (hb hby at_99) rfl (XS.aconstNull X208.here hx rfl (hb hby at_100) k))) ?_
          show Comes p e below _ (T208.setTop (mkF m 101 #[.val (.long qa), .second, .val (.long qb), .second, .val (.long qc), .second, .val (.int fl), .val (.int (3 : Int32)), .val (.int j185), .val (.int (1 : Int32)), .val (.int (1 : Int32)), .val (.ref b194), .unset, .unset, .unset, .unset, .unset, .unset] [.null, (.long qa), (.ref b208), (.ref b208)]))
          obtain ⟨_, _, ⟨T212, L212, k212, n212⟩, -, X212, ⟨Lc212, hQ212, l212, y212, z212⟩, st212⟩ := X208.specialBack hx (y := (⟨"com/example/tenorbook/tenorbook/engine/Level", "<init>", "(JLjava/math/BigDecimal;)V"⟩ : MethodName)) rfl hown (mvT hZ (hw _ (List.mem_of_getElem? (i := 21) rfl))) (mvT hZ (hw _ (List.mem_of_getElem? (i := 22) rfl))) (mvT hZ (hw _ (List.mem_of_getElem? (i := 23) rfl))) (by decide) (backOf (W := 1) (rm3 l Z a0 hw [] b208 qa h208 n0 (by omega)  A208 F209 F210 F211 (by omega)) hZ (hw _ (List.mem_of_getElem? (i := 23) rfl)) (hw _ (List.mem_of_getElem? (i := 20) rfl)) (by decide) (by decide)) (g := (mkF m 101 #[.val (.long qa), .second, .val (.long qb), .second, .val (.long qc), .second, .val (.int fl), .val (.int (3 : Int32)), .val (.int j185), .val (.int (1 : Int32)), .val (.int (1 : Int32)), .val (.ref b194), .unset, .unset, .unset, .unset, .unset, .unset] [.null, (.long qa), (.ref b208), (.ref b208)])) rfl (by rw [hml]; rfl) (Steps.refl _) (a := b208) (argsL := [(.long qa), .null]) (rest := [(.ref b208)]) (lenOf pd_4 rfl) rfl (by show 2 * 0 + _ ≤ _; exact Nat.le_of_eq rfl) (hb hby at_101) (fun _ _ => ⟨rfl, e208, (by decide : 4 + 0 ≤ _), (by decide : 17 + 0 ≤ _)⟩)
          dsimp only [Pt.U, Pt.locs, Pt.cells, Pt.slots] at X212 l212 y212 z212 st212 hQ212
          subst l212 y212 z212
          obtain ⟨rfl, Nq212, Kq212, P212_0, P212_1, P212_2⟩ := hQ212
          have N212 := Fr.app N199 Nq212
          have z212k : h208.size ≤ T212.heap.size := Kq212.1
          refine Comes.go st212 ?_
          have lt_213 : b208 < T212.heap.size := P212_0.lt
          show Comes p e below _ (T212.setTop (mkF m 104 #[.val (.long qa), .second, .val (.long qb), .second, .val (.long qc), .second, .val (.int fl), .val (.int (3 : Int32)), .val (.int j185), .val (.int (1 : Int32)), .val (.int (1 : Int32)), .val (.ref b194), .unset, .unset, .unset, .unset, .unset, .unset] [(.ref b208)]))
          refine Comes.st (fun t k => XS.astore X212.here hx rfl (hb hby at_104) rfl rfl (l' := #[.val (.long qa), .second, .val (.long qb), .second, .val (.long qc), .second, .val (.int fl), .val (.int (3 : Int32)), .val (.int j185), .val (.int (1 : Int32)), .val (.int (1 : Int32)), .val (.ref b194), .val (.ref b208), .unset, .unset, .unset, .unset, .unset]) rfl k) ?_
          show Comes p e below _ (T212.setTop (mkF m 106 #[.val (.long qa), .second, .val (.long qb), .second, .val (.long qc), .second, .val (.int fl), .val (.int (3 : Int32)), .val (.int j185), .val (.int (1 : Int32)), .val (.int (1 : Int32)), .val (.ref b194), .val (.ref b208), .unset, .unset, .unset, .unset, .unset] []))
          obtain ⟨T214, h214, X214, e214, E214, A214, D214, -, st214⟩ := newO X212 hx hZ hown (hw _ (List.mem_of_getElem? (i := 18) rfl)) (hw _ (List.mem_of_getElem? (i := 19) rfl)) (hw _ (List.mem_of_getElem? (i := 20) rfl)) rfl (g := (mkF m 106 #[.val (.long qa), .second, .val (.long qb), .second, .val (.long qc), .second, .val (.int fl), .val (.int (3 : Int32)), .val (.int j185), .val (.int (1 : Int32)), .val (.int (1 : Int32)), .val (.ref b194), .val (.ref b208), .unset, .unset, .unset, .unset, .unset] [])) rfl (hb hby at_106) (by decide) (by decide)
          obtain ⟨b214, g214⟩ : ∃ z, z = T212.heap.size := ⟨_, rfl⟩
          rw [← g214] at A214 D214 st214
          have z214 : T212.heap.size ≤ h214.size := E214.1
          have lt214 : b214 < h214.size := A214.lt
          have F215 : Fld Z h214 b214 "com/example/tenorbook/tenorbook/engine/Level" "ticks" "J" (.long (0 : Int64)) := D214 (Or.inr (hw _ (List.mem_of_getElem? (i := 26) rfl))) (ty := .long) (by decide)
          have F216 : Fld Z h214 b214 "com/example/tenorbook/tenorbook/engine/Level" "rate" "Ljava/math/BigDecimal;" .null := D214 (Or.inr (hw _ (List.mem_of_getElem? (i := 28) rfl))) (ty := (.object "java/math/BigDecimal")) (by decide)
          have F217 : Fld Z h214 b214 "com/example/tenorbook/tenorbook/engine/Level" "ladder" "Lcom/example/tenorbook/tenorbook/engine/Ladder;" .null := D214 (Or.inl (hw _ (List.mem_of_getElem? (i := 51) rfl))) (ty := (.object "com/example/tenorbook/tenorbook/engine/Ladder")) (by decide)
          refine Comes.st st214 ?_
          show Comes p e below _ (T214.setTop (mkF m 109 #[.val (.long qa), .second, .val (.long qb), .second, .val (.long qc), .second, .val (.int fl), .val (.int (3 : Int32)), .val (.int j185), .val (.int (1 : Int32)), .val (.int (1 : Int32)), .val (.ref b194), .val (.ref b208), .unset, .unset, .unset, .unset, .unset] [(.ref b214)]))
          refine Comes.st (fun t k => XS.dup X214.here hx rfl (hb hby at_109) rfl rfl (XS.lloadN X214.here hx rfl (hb hby at_110) rfl (XS.aconstNull X214.here hx rfl (hb hby at_111) k))) ?_
          show Comes p e below _ (T214.setTop (mkF m 112 #[.val (.long qa), .second, .val (.long qb), .second, .val (.long qc), .second, .val (.int fl), .val (.int (3 : Int32)), .val (.int j185), .val (.int (1 : Int32)), .val (.int (1 : Int32)), .val (.ref b194), .val (.ref b208), .unset, .unset, .unset, .unset, .unset] [.null, (.long qb), (.ref b214), (.ref b214)]))
          obtain ⟨_, _, ⟨T218, L218, k218, n218⟩, -, X218, ⟨Lc218, hQ218, l218, y218, z218⟩, st218⟩ := X214.specialBack hx (y := (⟨"com/example/tenorbook/tenorbook/engine/Level", "<init>", "(JLjava/math/BigDecimal;)V"⟩ : MethodName)) rfl hown (mvT hZ (hw _ (List.mem_of_getElem? (i := 21) rfl))) (mvT hZ (hw _ (List.mem_of_getElem? (i := 22) rfl))) (mvT hZ (hw _ (List.mem_of_getElem? (i := 23) rfl))) (by decide) (backOf (W := 1) (rm3 l Z a0 hw [] b214 qb h214 n0 (by omega)  A214 F215 F216 F217 (by omega)) hZ (hw _ (List.mem_of_getElem? (i := 23) rfl)) (hw _ (List.mem_of_getElem? (i := 20) rfl)) (by decide) (by decide)) (g := (mkF m 112 #[.val (.long qa), .second, .val (.long qb), .second, .val (.long qc), .second, .val (.int fl), .val (.int (3 : Int32)), .val (.int j185), .val (.int (1 : Int32)), .val (.int (1 : Int32)), .val (.ref b194), .val (.ref b208), .unset, .unset, .unset, .unset, .unset] [.null, (.long qb), (.ref b214), (.ref b214)])) rfl (by rw [hml]; rfl) (Steps.refl _) (a := b214) (argsL := [(.long qb), .null]) (rest := [(.ref b214)]) (lenOf pd_4 rfl) rfl (by show 2 * 0 + _ ≤ _; exact Nat.le_of_eq rfl) (hb hby at_112) (fun _ _ => ⟨rfl, e214, (by decide : 5 + 0 ≤ _), (by decide : 22 + 0 ≤ _)⟩)
          dsimp only [Pt.U, Pt.locs, Pt.cells, Pt.slots] at X218 l218 y218 z218 st218 hQ218
          subst l218 y218 z218
          obtain ⟨rfl, Nq218, Kq218, P218_0, P218_1, P218_2⟩ := hQ218
          have N218 := Fr.app N212 Nq218
          have z218k : h214.size ≤ T218.heap.size := Kq218.1
          refine Comes.go st218 ?_
          have lt_219 : b214 < T218.heap.size := P218_0.lt
          show Comes p e below _ (T218.setTop (mkF m 115 #[.val (.long qa), .second, .val (.long qb), .second, .val (.long qc), .second, .val (.int fl), .val (.int (3 : Int32)), .val (.int j185), .val (.int (1 : Int32)), .val (.int (1 : Int32)), .val (.ref b194), .val (.ref b208), .unset, .unset, .unset, .unset, .unset] [(.ref b214)]))
          refine Comes.st (fun t k => XS.astore X218.here hx rfl (hb hby at_115) rfl rfl (l' := #[.val (.long qa), .second, .val (.long qb), .second, .val (.long qc), .second, .val (.int fl), .val (.int (3 : Int32)), .val (.int j185), .val (.int (1 : Int32)), .val (.int (1 : Int32)), .val (.ref b194), .val (.ref b208), .val (.ref b214), .unset, .unset, .unset, .unset]) rfl k) ?_
          show Comes p e below _ (T218.setTop (mkF m 117 #[.val (.long qa), .second, .val (.long qb), .second, .val (.long qc), .second, .val (.int fl), .val (.int (3 : Int32)), .val (.int j185), .val (.int (1 : Int32)), .val (.int (1 : Int32)), .val (.ref b194), .val (.ref b208), .val (.ref b214), .unset, .unset, .unset, .unset] []))
          obtain ⟨T220, h220, X220, e220, E220, A220, D220, -, st220⟩ := newO X218 hx hZ hown (hw _ (List.mem_of_getElem? (i := 18) rfl)) (hw _ (List.mem_of_getElem? (i := 19) rfl)) (hw _ (List.mem_of_getElem? (i := 20) rfl)) rfl (g := (mkF m 117 #[.val (.long qa), .second, .val (.long qb), .second, .val (.long qc), .second, .val (.int fl), .val (.int (3 : Int32)), .val (.int j185), .val (.int (1 : Int32)), .val (.int (1 : Int32)), .val (.ref b194), .val (.ref b208), .val (.ref b214), .unset, .unset, .unset, .unset] [])) rfl (hb hby at_117) (by decide) (by decide)
          obtain ⟨b220, g220⟩ : ∃ z, z = T218.heap.size := ⟨_, rfl⟩
          rw [← g220] at A220 D220 st220
          have z220 : T218.heap.size ≤ h220.size := E220.1
          have lt220 : b220 < h220.size := A220.lt
          have F221 : Fld Z h220 b220 "com/example/tenorbook/tenorbook/engine/Level" "ticks" "J" (.long (0 : Int64)) := D220 (Or.inr (hw _ (List.mem_of_getElem? (i := 26) rfl))) (ty := .long) (by decide)
          have F222 : Fld Z h220 b220 "com/example/tenorbook/tenorbook/engine/Level" "rate" "Ljava/math/BigDecimal;" .null := D220 (Or.inr (hw _ (List.mem_of_getElem? (i := 28) rfl))) (ty := (.object "java/math/BigDecimal")) (by decide)
          have F223 : Fld Z h220 b220 "com/example/tenorbook/tenorbook/engine/Level" "ladder" "Lcom/example/tenorbook/tenorbook/engine/Ladder;" .null := D220 (Or.inl (hw _ (List.mem_of_getElem? (i := 51) rfl))) (ty := (.object "com/example/tenorbook/tenorbook/engine/Ladder")) (by decide)
          refine Comes.st st220 ?_
          show Comes p e below _ (T220.setTop (mkF m 120 #[.val (.long qa), .second, .val (.long qb), .second, .val (.long qc), .second, .val (.int fl), .val (.int (3 : Int32)), .val (.int j185), .val (.int (1 : Int32)), .val (.int (1 : Int32)), .val (.ref b194), .val (.ref b208), .val (.ref b214), .unset, .unset, .unset, .unset] [(.ref b220)]))
          refine Comes.st (fun t k => XS.dup X220.here hx rfl (hb hby at_120) rfl rfl (XS.lload X220.here hx rfl (hb hby at_121) rfl (XS.aconstNull X220.here hx rfl (hb hby at_123) k))) ?_
          show Comes p e below _ (T220.setTop (mkF m 124 #[.val (.long qa), .second, .val (.long qb), .second, .val (.long qc), .second, .val (.int fl), .val (.int (3 : Int32)), .val (.int j185), .val (.int (1 : Int32)), .val (.int (1 : Int32)), .val (.ref b194), .val (.ref b208), .val (.ref b214), .unset, .unset, .unset, .unset] [.null, (.long qc), (.ref b220), (.ref b220)]))
          obtain ⟨_, _, ⟨T224, L224, k224, n224⟩, -, X224, ⟨Lc224, hQ224, l224, y224, z224⟩, st224⟩ := X220.specialBack hx (y := (⟨"com/example/tenorbook/tenorbook/engine/Level", "<init>", "(JLjava/math/BigDecimal;)V"⟩ : MethodName)) rfl hown (mvT hZ (hw _ (List.mem_of_getElem? (i := 21) rfl))) (mvT hZ (hw _ (List.mem_of_getElem? (i := 22) rfl))) (mvT hZ (hw _ (List.mem_of_getElem? (i := 23) rfl))) (by decide) (backOf (W := 1) (rm3 l Z a0 hw [] b220 qc h220 n0 (by omega)  A220 F221 F222 F223 (by omega)) hZ (hw _ (List.mem_of_getElem? (i := 23) rfl)) (hw _ (List.mem_of_getElem? (i := 20) rfl)) (by decide) (by decide)) (g := (mkF m 124 #[.val (.long qa), .second, .val (.long qb), .second, .val (.long qc), .second, .val (.int fl), .val (.int (3 : Int32)), .val (.int j185), .val (.int (1 : Int32)), .val (.int (1 : Int32)), .val (.ref b194), .val (.ref b208), .val (.ref b214), .unset, .unset, .unset, .unset] [.null, (.long qc), (.ref b220), (.ref b220)])) rfl (by rw [hml]; rfl) (Steps.refl _) (a := b220) (argsL := [(.long qc), .null]) (rest := [(.ref b220)]) (lenOf pd_4 rfl) rfl (by show 2 * 0 + _ ≤ _; exact Nat.le_of_eq rfl) (hb hby at_124) (fun _ _ => ⟨rfl, e220, (by decide : 6 + 0 ≤ _), (by decide : 27 + 0 ≤ _)⟩)
          dsimp only [Pt.U, Pt.locs, Pt.cells, Pt.slots] at X224 l224 y224 z224 st224 hQ224
          subst l224 y224 z224
          obtain ⟨rfl, Nq224, Kq224, P224_0, P224_1, P224_2⟩ := hQ224
          have N224 := Fr.app N218 Nq224
          have z224k : h220.size ≤ T224.heap.size := Kq224.1
          refine Comes.go st224 ?_
          have lt_225 : b220 < T224.heap.size := P224_0.lt
          show Comes p e below _ (T224.setTop (mkF m 127 #[.val (.long qa), .second, .val (.long qb), .second, .val (.long qc), .second, .val (.int fl), .val (.int (3 : Int32)), .val (.int j185), .val (.int (1 : Int32)), .val (.int (1 : Int32)), .val (.ref b194), .val (.ref b208), .val (.ref b214), .unset, .unset, .unset, .unset] [(.ref b220)]))
          refine Comes.st (fun t k => XS.astore X224.here hx rfl (hb hby at_127) rfl rfl (l' := #[.val (.long qa), .second, .val (.long qb), .second, .val (.long qc), .second, .val (.int fl), .val (.int (3 : Int32)), .val (.int j185), .val (.int (1 : Int32)), .val (.int (1 : Int32)), .val (.ref b194), .val (.ref b208), .val (.ref b214), .val (.ref b220), .unset, .unset, .unset]) rfl (XS.aload X224.here hx rfl (hb hby at_129) rfl rfl (XS.aload X224.here hx rfl (hb hby at_131) rfl rfl k))) ?_
          show Comes p e below _ (T224.setTop (mkF m 133 #[.val (.long qa), .second, .val (.long qb), .second, .val (.long qc), .second, .val (.int fl), .val (.int (3 : Int32)), .val (.int j185), .val (.int (1 : Int32)), .val (.int (1 : Int32)), .val (.ref b194), .val (.ref b208), .val (.ref b214), .val (.ref b220), .unset, .unset, .unset] [(.ref b208), (.ref b194)]))
          have F226 : Exa Z T224.heap b194 "com/example/tenorbook/tenorbook/engine/Ladder" := ((((((P199_0.ext E208).keep Kq212).ext E214).keep Kq218).ext E220).keep Kq224)
          have ne227 : b194 ≠ b208 := by omega
          have ne228 : b194 ≠ b214 := by omega
          have ne229 : b194 ≠ b220 := by omega
          have F230 : Fld Z T224.heap b194 "com/example/tenorbook/tenorbook/engine/Ladder" "ticks" "[J" (.ref o200) := ((((((P199_1.ext E208).keep Kq212 (ninS ne227 nin0)).ext E214).keep Kq218 (ninS ne228 nin0)).ext E220).keep Kq224 (ninS ne229 nin0))
          have F231 : Fld Z T224.heap b194 "com/example/tenorbook/tenorbook/engine/Ladder" "levels" "[Lcom/example/tenorbook/tenorbook/engine/Level;" (.ref o201) := ((((((P199_2.ext E208).keep Kq212 (ninS ne227 nin0)).ext E214).keep Kq218 (ninS ne228 nin0)).ext E220).keep Kq224 (ninS ne229 nin0))
          have F232 : Fld Z T224.heap b194 "com/example/tenorbook/tenorbook/engine/Ladder" "lowestBest" "Z" (.int j185) := ((((((F207.ext E208).keep Kq212 (ninS ne227 nin0)).ext E214).keep Kq218 (ninS ne228 nin0)).ext E220).keep Kq224 (ninS ne229 nin0))
          have F233 : Fld Z T224.heap b194 "com/example/tenorbook/tenorbook/engine/Ladder" "count" "I" (.int (0 : Int32)) := ((((((P199_4.ext E208).keep Kq212 (ninS ne227 nin0)).ext E214).keep Kq218 (ninS ne228 nin0)).ext E220).keep Kq224 (ninS ne229 nin0))
          have ne234 : o200 ≠ b208 := by omega
          have ne235 : o200 ≠ b214 := by omega
          have ne236 : o200 ≠ b220 := by omega
          have F237 : Arv Z T224.heap o200 r202 .long (4 : Int32) [(.long (0 : Int64)), (.long (0 : Int64)), (.long (0 : Int64)), (.long (0 : Int64))] (.long (0 : Int64)) := ((((((P199_5.ext E208).keep Kq212 (ninS ne234 nin0)).ext E214).keep Kq218 (ninS ne235 nin0)).ext E220).keep Kq224 (ninS ne236 nin0))
          have ne238 : o201 ≠ b208 := by omega
          have ne239 : o201 ≠ b214 := by omega
          have ne240 : o201 ≠ b220 := by omega
          have F241 : Arv Z T224.heap o201 r203 (.object "com/example/tenorbook/tenorbook/engine/Level") (4 : Int32) [.null, .null, .null, .null] .null := ((((((P199_6.ext E208).keep Kq212 (ninS ne238 nin0)).ext E214).keep Kq218 (ninS ne239 nin0)).ext E220).keep Kq224 (ninS ne240 nin0))
          have F242 : Exa Z T224.heap b208 "com/example/tenorbook/tenorbook/engine/Level" := ((((P212_0.ext E214).keep Kq218).ext E220).keep Kq224)
          have ne243 : b208 ≠ b214 := by omega
          have ne244 : b208 ≠ b220 := by omega
          have F245 : Fld Z T224.heap b208 "com/example/tenorbook/tenorbook/engine/Level" "ticks" "J" (.long qa) := ((((P212_1.ext E214).keep Kq218 (ninS ne243 nin0)).ext E220).keep Kq224 (ninS ne244 nin0))
          have F246 : Fld Z T224.heap b208 "com/example/tenorbook/tenorbook/engine/Level" "ladder" "Lcom/example/tenorbook/tenorbook/engine/Ladder;" .null := ((((P212_2.ext E214).keep Kq218 (ninS ne243 nin0)).ext E220).keep Kq224 (ninS ne244 nin0))
          obtain ⟨cq247, kq247, q247a, q247b, q247c⟩ := isOf hZ rfl F226
          obtain ⟨_, _, ⟨T247, L247, k247, n247⟩, -, X247, ⟨Lc247, hQ247, l247, y247, z247⟩, st247⟩ := X224.virtualBack hx (y := (⟨"com/example/tenorbook/tenorbook/engine/Ladder", "add", "(Lcom/example/tenorbook/tenorbook/engine/Level;)V"⟩ : MethodName)) (z := (⟨"com/example/tenorbook/tenorbook/engine/Ladder", "add", "(Lcom/example/tenorbook/tenorbook/engine/Level;)V"⟩ : MethodName)) hown (mvT hZ (hw _ (List.mem_of_getElem? (i := 29) rfl))) (mvT hZ (hw _ (List.mem_of_getElem? (i := 30) rfl))) (notFace_of_selects (args := #[]) (mvT hZ (hw _ (List.mem_of_getElem? (i := 32) rfl)))) (mvT hZ (hw _ (List.mem_of_getElem? (i := 32) rfl))) (mvT hZ (hw _ (List.mem_of_getElem? (i := 31) rfl))) (by decide) (backOf (W := 0) (add0 l Z a0 hw [] b194 b208 j185 o200 o201 r202 r203 qa T224.heap n0 (by omega)  F226 F230 F231 F232 F233 F237 F241 P199_7 F242 F245 F246 P199_10 P199_11 P199_12 (Ne.symm ne227) (Ne.symm ne234) (Ne.symm ne238) (by omega) (by omega) (by omega) (by omega)) hZ (hw _ (List.mem_of_getElem? (i := 33) rfl)) (hw _ (List.mem_of_getElem? (i := 2) rfl)) (by decide) (by decide)) q247a q247c (g := (mkF m 133 #[.val (.long qa), .second, .val (.long qb), .second, .val (.long qc), .second, .val (.int fl), .val (.int (3 : Int32)), .val (.int j185), .val (.int (1 : Int32)), .val (.int (1 : Int32)), .val (.ref b194), .val (.ref b208), .val (.ref b214), .val (.ref b220), .unset, .unset, .unset] [(.ref b208), (.ref b194)])) rfl (by rw [hml]; rfl) (Steps.refl _) (argsL := [(.ref b208)]) (rest := []) (lenOf pd_5 rfl) rfl (by show 2 * 0 + _ ≤ _; exact Nat.le_of_eq rfl) (hb hby at_133) (fun _ _ => ⟨rfl, rfl, (by decide : 6 + 0 ≤ _), (by decide : 27 + 0 ≤ _)⟩)
          dsimp only [Pt.U, Pt.locs, Pt.cells, Pt.slots] at X247 l247 y247 z247 st247 hQ247
          subst l247 y247 z247
          obtain ⟨r248, o249, rfl, Nq247, Kq247, P247_0, P247_1, P247_2, P247_3, P247_4, P247_5, P247_6, P247_7, P247_8, P247_9, P247_10, P247_11, P247_12⟩ := hQ247
          have N247 := Fr.app N224 Nq247
          have z247k : T224.heap.size ≤ T247.heap.size := Kq247.1
          refine Comes.go st247 ?_
          have lt_250 : o249 < T247.heap.size := P247_11.lt
          show Comes p e below _ (T247.setTop (mkF m 136 #[.val (.long qa), .second, .val (.long qb), .second, .val (.long qc), .second, .val (.int fl), .val (.int (3 : Int32)), .val (.int j185), .val (.int (1 : Int32)), .val (.int (1 : Int32)), .val (.ref b194), .val (.ref b208), .val (.ref b214), .val (.ref b220), .unset, .unset, .unset] []))
          refine Comes.st (fun t k => XS.iload X247.here hx rfl (hb hby at_136) rfl k) ?_
          show Comes p e below _ (T247.setTop (mkF m 138 #[.val (.long qa), .second, .val (.long qb), .second, .val (.long qc), .second, .val (.int fl), .val (.int (3 : Int32)), .val (.int j185), .val (.int (1 : Int32)), .val (.int (1 : Int32)), .val (.ref b194), .val (.ref b208), .val (.ref b214), .val (.ref b220), .unset, .unset, .unset] [(.int (1 : Int32))]))
          have hc138_251 : ¬ ((1 : Int32) = (0 : Int32)) := by decide
          refine Comes.st (fun t k => XS.ifNo X247.here hx rfl (hb hby at_138) rfl ((if0 _ _).trans (feq hc138_251).1) (XS.aload X247.here hx rfl (hb hby at_141) rfl rfl (XS.aload X247.here hx rfl (hb hby at_143) rfl rfl k))) ?_
          show Comes p e below _ (T247.setTop (mkF m 145 #[.val (.long qa), .second, .val (.long qb), .second, .val (.long qc), .second, .val (.int fl), .val (.int (3 : Int32)), .val (.int j185), .val (.int (1 : Int32)), .val (.int (1 : Int32)), .val (.ref b194), .val (.ref b208), .val (.ref b214), .val (.ref b220), .unset, .unset, .unset] [(.ref b214), (.ref b194)]))
          have F252 : Exa Z T247.heap b214 "com/example/tenorbook/tenorbook/engine/Level" := (((P218_0.ext E220).keep Kq224).keep Kq247)
          have ne253 : b214 ≠ b220 := by omega
          have F254 : Fld Z T247.heap b214 "com/example/tenorbook/tenorbook/engine/Level" "ticks" "J" (.long qb) := (((P218_1.ext E220).keep Kq224 (ninS ne253 nin0)).keep Kq247 (ninS (Ne.symm ne228) (ninS (Ne.symm ne235) (ninS (Ne.symm ne239) (ninS (Ne.symm ne243) nin0)))))
          have F255 : Fld Z T247.heap b214 "com/example/tenorbook/tenorbook/engine/Level" "ladder" "Lcom/example/tenorbook/tenorbook/engine/Ladder;" .null := (((P218_2.ext E220).keep Kq224 (ninS ne253 nin0)).keep Kq247 (ninS (Ne.symm ne228) (ninS (Ne.symm ne235) (ninS (Ne.symm ne239) (ninS (Ne.symm ne243) nin0)))))
          obtain ⟨cq256, kq256, q256a, q256b, q256c⟩ := isOf hZ rfl P247_0
          obtain ⟨_, _, ⟨T256, L256, k256, n256⟩, -, X256, ⟨Lc256, hQ256, l256, y256, z256⟩, st256⟩ := X247.virtualBack hx (y := (⟨"com/example/tenorbook/tenorbook/engine/Ladder", "add", "(Lcom/example/tenorbook/tenorbook/engine/Level;)V"⟩ : MethodName)) (z := (⟨"com/example/tenorbook/tenorbook/engine/Ladder", "add", "(Lcom/example/tenorbook/tenorbook/engine/Level;)V"⟩ : MethodName)) hown (mvT hZ (hw _ (List.mem_of_getElem? (i := 29) rfl))) (mvT hZ (hw _ (List.mem_of_getElem? (i := 30) rfl))) (notFace_of_selects (args := #[]) (mvT hZ (hw _ (List.mem_of_getElem? (i := 32) rfl)))) (mvT hZ (hw _ (List.mem_of_getElem? (i := 32) rfl))) (mvT hZ (hw _ (List.mem_of_getElem? (i := 31) rfl))) (by decide) (backOf (W := 0) (add1 l Z a0 hw [] b194 b214 j185 o200 o201 r202 r203 qb r248 o249 T247.heap n0 (by omega)  P247_0 P247_1 P247_2 P247_3 P247_4 P247_5 P247_6 P247_7 F252 F254 F255 P247_11 (by first | assumption | (have c_0 := hc27_187; have c_1 := hc40_188; have c_2 := hc52_189; have c_3 := hc58_190; have c_4 := hc65_191; have c_5 := hc72_192; have c_6 := hc79_193; have c_7 := hc138_251; have c_8 := P199_13; have c_9 := P247_12; (try simp only [Int32.lt_iff_toInt_lt, Int64.lt_iff_toInt_lt, ← Int32.toInt_inj, ← Int64.toInt_inj, Int32.reduceToInt, Int64.reduceToInt, eq_self, and_true, true_and, or_true, true_or, and_false, false_and, or_false, false_or, not_true_eq_false, not_false_eq_true] at c_0 c_1 c_2 c_3 c_4 c_5 c_6 c_7 c_8 c_9 ⊢) <;> omega)) P199_10 P199_11 P199_12 (Ne.symm ne228) (Ne.symm ne235) (Ne.symm ne239) (by omega) (by omega) (by omega) (by omega)) hZ (hw _ (List.mem_of_getElem? (i := 33) rfl)) (hw _ (List.mem_of_getElem? (i := 2) rfl)) (by decide) (by decide)) q256a q256c (g := (mkF m 145 #[.val (.long qa), .second, .val (.long qb), .second, .val (.long qc), .second, .val (.int fl), .val (.int (3 : Int32)), .val (.int j185), .val (.int (1 : Int32)), .val (.int (1 : Int32)), .val (.ref b194), .val (.ref b208), .val (.ref b214), .val (.ref b220), .unset, .unset, .unset] [(.ref b214), (.ref b194)])) rfl (by rw [hml]; rfl) (Steps.refl _) (argsL := [(.ref b214)]) (rest := []) (lenOf pd_5 rfl) rfl (by show 2 * 0 + _ ≤ _; exact Nat.le_of_eq rfl) (hb hby at_145) (fun _ _ => ⟨rfl, rfl, (by decide : 6 + 0 ≤ _), (by decide : 27 + 0 ≤ _)⟩)
          dsimp only [Pt.U, Pt.locs, Pt.cells, Pt.slots] at X256 l256 y256 z256 st256 hQ256
          subst l256 y256 z256
          obtain ⟨r257, r258, o259, o260, rfl, Nq256, Kq256, P256_0, P256_1, P256_2, P256_3, P256_4, P256_5, P256_6, P256_7, P256_8, P256_9, P256_10, P256_11, P256_12, P256_13, P256_14⟩ := hQ256
          have N256 := Fr.app N247 Nq256
          have z256k : T247.heap.size ≤ T256.heap.size := Kq256.1
          refine Comes.go st256 ?_
          have lt_261 : o259 < T256.heap.size := P256_11.lt
          have lt_262 : o260 < T256.heap.size := P256_12.lt
          show Comes p e below _ (T256.setTop (mkF m 148 #[.val (.long qa), .second, .val (.long qb), .second, .val (.long qc), .second, .val (.int fl), .val (.int (3 : Int32)), .val (.int j185), .val (.int (1 : Int32)), .val (.int (1 : Int32)), .val (.ref b194), .val (.ref b208), .val (.ref b214), .val (.ref b220), .unset, .unset, .unset] []))
          refine Comes.st (fun t k => XS.iload X256.here hx rfl (hb hby at_148) rfl k) ?_
          show Comes p e below _ (T256.setTop (mkF m 150 #[.val (.long qa), .second, .val (.long qb), .second, .val (.long qc), .second, .val (.int fl), .val (.int (3 : Int32)), .val (.int j185), .val (.int (1 : Int32)), .val (.int (1 : Int32)), .val (.ref b194), .val (.ref b208), .val (.ref b214), .val (.ref b220), .unset, .unset, .unset] [(.int (1 : Int32))]))
          have hc150_263 : ¬ ((1 : Int32) = (0 : Int32)) := by decide
          refine Comes.st (fun t k => XS.ifNo X256.here hx rfl (hb hby at_150) rfl ((if0 _ _).trans (feq hc150_263).1) (XS.aload X256.here hx rfl (hb hby at_153) rfl rfl (XS.aload X256.here hx rfl (hb hby at_155) rfl rfl k))) ?_
          show Comes p e below _ (T256.setTop (mkF m 157 #[.val (.long qa), .second, .val (.long qb), .second, .val (.long qc), .second, .val (.int fl), .val (.int (3 : Int32)), .val (.int j185), .val (.int (1 : Int32)), .val (.int (1 : Int32)), .val (.ref b194), .val (.ref b208), .val (.ref b214), .val (.ref b220), .unset, .unset, .unset] [(.ref b220), (.ref b194)]))
          have F264 : Exa Z T256.heap b220 "com/example/tenorbook/tenorbook/engine/Level" := ((P224_0.keep Kq247).keep Kq256)
          have F265 : Fld Z T256.heap b220 "com/example/tenorbook/tenorbook/engine/Level" "ticks" "J" (.long qc) := ((P224_1.keep Kq247 (ninS (Ne.symm ne229) (ninS (Ne.symm ne236) (ninS (Ne.symm ne240) (ninS (Ne.symm ne244) nin0))))).keep Kq256 (ninS (Ne.symm ne229) (ninS (Ne.symm ne236) (ninS (Ne.symm ne240) (ninS (Ne.symm ne253) nin0)))))
          have F266 : Fld Z T256.heap b220 "com/example/tenorbook/tenorbook/engine/Level" "ladder" "Lcom/example/tenorbook/tenorbook/engine/Ladder;" .null := ((P224_2.keep Kq247 (ninS (Ne.symm ne229) (ninS (Ne.symm ne236) (ninS (Ne.symm ne240) (ninS (Ne.symm ne244) nin0))))).keep Kq256 (ninS (Ne.symm ne229) (ninS (Ne.symm ne236) (ninS (Ne.symm ne240) (ninS (Ne.symm ne253) nin0)))))
          obtain ⟨cq267, kq267, q267a, q267b, q267c⟩ := isOf hZ rfl P256_0
          obtain ⟨_, _, ⟨T267, L267, k267, n267⟩, -, X267, ⟨Lc267, hQ267, l267, y267, z267⟩, st267⟩ := X256.virtualBack hx (y := (⟨"com/example/tenorbook/tenorbook/engine/Ladder", "add", "(Lcom/example/tenorbook/tenorbook/engine/Level;)V"⟩ : MethodName)) (z := (⟨"com/example/tenorbook/tenorbook/engine/Ladder", "add", "(Lcom/example/tenorbook/tenorbook/engine/Level;)V"⟩ : MethodName)) hown (mvT hZ (hw _ (List.mem_of_getElem? (i := 29) rfl))) (mvT hZ (hw _ (List.mem_of_getElem? (i := 30) rfl))) (notFace_of_selects (args := #[]) (mvT hZ (hw _ (List.mem_of_getElem? (i := 32) rfl)))) (mvT hZ (hw _ (List.mem_of_getElem? (i := 32) rfl))) (mvT hZ (hw _ (List.mem_of_getElem? (i := 31) rfl))) (by decide) (backOf (W := 0) (add2 l Z a0 hw [] b194 b220 j185 o200 o201 r202 r203 qc r257 r258 o259 o260 T256.heap n0 (by omega)  P256_0 P256_1 P256_2 P256_3 P256_4 P256_5 P256_6 P256_7 F264 F265 F266 P256_11 P256_12 (by first | assumption | (have c_0 := hc27_187; have c_1 := hc40_188; have c_2 := hc52_189; have c_3 := hc58_190; have c_4 := hc65_191; have c_5 := hc72_192; have c_6 := hc79_193; have c_7 := hc138_251; have c_8 := hc150_263; have c_9 := P199_13; have c_10 := P247_12; have c_11 := P256_13; have c_12 := P256_14; (try simp only [Int32.lt_iff_toInt_lt, Int64.lt_iff_toInt_lt, ← Int32.toInt_inj, ← Int64.toInt_inj, Int32.reduceToInt, Int64.reduceToInt, eq_self, and_true, true_and, or_true, true_or, and_false, false_and, or_false, false_or, not_true_eq_false, not_false_eq_true] at c_0 c_1 c_2 c_3 c_4 c_5 c_6 c_7 c_8 c_9 c_10 c_11 c_12 ⊢) <;> omega)) (by first | assumption | (have c_0 := hc27_187; have c_1 := hc40_188; have c_2 := hc52_189; have c_3 := hc58_190; have c_4 := hc65_191; have c_5 := hc72_192; have c_6 := hc79_193; have c_7 := hc138_251; have c_8 := hc150_263; have c_9 := P199_13; have c_10 := P247_12; have c_11 := P256_13; have c_12 := P256_14; (try simp only [Int32.lt_iff_toInt_lt, Int64.lt_iff_toInt_lt, ← Int32.toInt_inj, ← Int64.toInt_inj, Int32.reduceToInt, Int64.reduceToInt, eq_self, and_true, true_and, or_true, true_or, and_false, false_and, or_false, false_or, not_true_eq_false, not_false_eq_true] at c_0 c_1 c_2 c_3 c_4 c_5 c_6 c_7 c_8 c_9 c_10 c_11 c_12 ⊢) <;> omega)) (by first | assumption | (have c_0 := hc27_187; have c_1 := hc40_188; have c_2 := hc52_189; have c_3 := hc58_190; have c_4 := hc65_191; have c_5 := hc72_192; have c_6 := hc79_193; have c_7 := hc138_251; have c_8 := hc150_263; have c_9 := P199_13; have c_10 := P247_12; have c_11 := P256_13; have c_12 := P256_14; (try simp only [Int32.lt_iff_toInt_lt, Int64.lt_iff_toInt_lt, ← Int32.toInt_inj, ← Int64.toInt_inj, Int32.reduceToInt, Int64.reduceToInt, eq_self, and_true, true_and, or_true, true_or, and_false, false_and, or_false, false_or, not_true_eq_false, not_false_eq_true] at c_0 c_1 c_2 c_3 c_4 c_5 c_6 c_7 c_8 c_9 c_10 c_11 c_12 ⊢) <;> omega)) P199_10 P199_11 P199_12 (Ne.symm ne229) (Ne.symm ne236) (Ne.symm ne240) (by omega) (by omega) (by omega) (by omega)) hZ (hw _ (List.mem_of_getElem? (i := 33) rfl)) (hw _ (List.mem_of_getElem? (i := 2) rfl)) (by decide) (by decide)) q267a q267c (g := (mkF m 157 #[.val (.long qa), .second, .val (.long qb), .second, .val (.long qc), .second, .val (.int fl), .val (.int (3 : Int32)), .val (.int j185), .val (.int (1 : Int32)), .val (.int (1 : Int32)), .val (.ref b194), .val (.ref b208), .val (.ref b214), .val (.ref b220), .unset, .unset, .unset] [(.ref b220), (.ref b194)])) rfl (by rw [hml]; rfl) (Steps.refl _) (argsL := [(.ref b220)]) (rest := []) (lenOf pd_5 rfl) rfl (by show 2 * 0 + _ ≤ _; exact Nat.le_of_eq rfl) (hb hby at_157) (fun _ _ => ⟨rfl, rfl, (by decide : 6 + 0 ≤ _), (by decide : 27 + 0 ≤ _)⟩)
          dsimp only [Pt.U, Pt.locs, Pt.cells, Pt.slots] at X267 l267 y267 z267 st267 hQ267
          subst l267 y267 z267
          obtain ⟨r268, r269, r270, o271, o272, o273, rfl, Nq267, Kq267, P267_0, P267_1, P267_2, P267_3, P267_4, P267_5, P267_6, P267_7, P267_8, P267_9, P267_10, P267_11, P267_12, P267_13, P267_14, P267_15, P267_16⟩ := hQ267
          have N267 := Fr.app N256 Nq267
          have z267k : T256.heap.size ≤ T267.heap.size := Kq267.1
          refine Comes.go st267 ?_
          have lt_274 : o271 < T267.heap.size := P267_11.lt
          have lt_275 : o272 < T267.heap.size := P267_12.lt
          have lt_276 : o273 < T267.heap.size := P267_13.lt
          show Comes p e below _ (T267.setTop (mkF m 160 #[.val (.long qa), .second, .val (.long qb), .second, .val (.long qc), .second, .val (.int fl), .val (.int (3 : Int32)), .val (.int j185), .val (.int (1 : Int32)), .val (.int (1 : Int32)), .val (.ref b194), .val (.ref b208), .val (.ref b214), .val (.ref b220), .unset, .unset, .unset] []))
          refine Comes.st (fun t k => XS.iload X267.here hx rfl (hb hby at_160) rfl k) ?_
          show Comes p e below _ (T267.setTop (mkF m 162 #[.val (.long qa), .second, .val (.long qb), .second, .val (.long qc), .second, .val (.int fl), .val (.int (3 : Int32)), .val (.int j185), .val (.int (1 : Int32)), .val (.int (1 : Int32)), .val (.ref b194), .val (.ref b208), .val (.ref b214), .val (.ref b220), .unset, .unset, .unset] [(.int (1 : Int32))]))
          have hc162_277 : ¬ ((1 : Int32) = (0 : Int32)) := by decide
          refine Comes.st (fun t k => XS.ifNo X267.here hx rfl (hb hby at_162) rfl ((if0 _ _).trans (feq hc162_277).1) (XS.lloadN X267.here hx rfl (hb hby at_165) rfl (XS.lloadN X267.here hx rfl (hb hby at_166) rfl (XS.iload X267.here hx rfl (hb hby at_167) rfl k)))) ?_
          show Comes p e below _ (T267.setTop (mkF m 169 #[.val (.long qa), .second, .val (.long qb), .second, .val (.long qc), .second, .val (.int fl), .val (.int (3 : Int32)), .val (.int j185), .val (.int (1 : Int32)), .val (.int (1 : Int32)), .val (.ref b194), .val (.ref b208), .val (.ref b214), .val (.ref b220), .unset, .unset, .unset] [(.int j185), (.long qa), (.long qb)]))
          obtain ⟨_, _, ⟨T278, L278, k278, n278⟩, -, X278, ⟨Lc278, hQ278, l278, y278, z278⟩, st278⟩ := Jvm.LawKit.callS X267 hx (y := (⟨"com/example/tenorbook/tenorbook/engine/LadderBestPinLaw", "better", "(JJZ)Z"⟩ : MethodName)) hown (mvT hZ (hw _ (List.mem_of_getElem? (i := 56) rfl))) (mvT hZ (hw _ (List.mem_of_getElem? (i := 57) rfl))) (mvT hZ (hw _ (List.mem_of_getElem? (i := 58) rfl))) (mvT hZ (hw _ (List.mem_of_getElem? (i := 59) rfl))) (by decide) (backOf (W := 0) (rm8 l Z a0 hw [] qb qa j185 T267.heap n0 (by omega)  ) hZ (hw _ (List.mem_of_getElem? (i := 59) rfl)) (hw _ (List.mem_of_getElem? (i := 58) rfl)) (by decide) (by decide)) (g := (mkF m 169 #[.val (.long qa), .second, .val (.long qb), .second, .val (.long qc), .second, .val (.int fl), .val (.int (3 : Int32)), .val (.int j185), .val (.int (1 : Int32)), .val (.int (1 : Int32)), .val (.ref b194), .val (.ref b208), .val (.ref b214), .val (.ref b220), .unset, .unset, .unset] [(.int j185), (.long qa), (.long qb)])) rfl (by rw [hml]; rfl) (argsL := [(.long qb), (.long qa), (.int j185)]) (rest := []) (lenOf pd_7 rfl) rfl (by show 2 * 0 + _ ≤ _; exact Nat.le_of_eq rfl) (hb hby at_169) (fun _ _ => ⟨rfl, rfl, (by decide : 6 + 0 ≤ _), (by decide : 27 + 0 ≤ _)⟩)
          dsimp only [Pt.U, Pt.locs, Pt.cells, Pt.slots] at X278 l278 y278 z278 st278 hQ278
          subst l278 y278 z278
          obtain ⟨r279, rfl, Nq278, hs278, P278_0⟩ := hQ278
          have N278 := Fr.app N267 Nq278
          refine Comes.st st278 ?_
          have J280 : Comes p e below (fun S' => ∃ (T' : State), ∃ (L' : List Loc), ∃ (j282 : Int32), (S' = T'.setTop (mkF m 180 #[.val (.long qa), .second, .val (.long qb), .second, .val (.long qc), .second, .val (.int fl), .val (.int (3 : Int32)), .val (.int j185), .val (.int (1 : Int32)), .val (.int (1 : Int32)), .val (.ref b194), .val (.ref b208), .val (.ref b214), .val (.ref b220), .unset, .unset, .unset] [(.int j282)])) ∧ (Stand p l e room_1 s m #[(.long qa), (.long qb), (.long qc), (.int fl)] below meth c T' L' 6 27) ∧ (T'.heap = T267.heap) ∧ (Fr n0 L') ∧ (((r279 = (0 : Int32)) ∧ j282 = (0 : Int32)) ∨ ((¬ (r279 = (0 : Int32))) ∧ j282 = (1 : Int32)))) (T278.setTop (mkF m 172 #[.val (.long qa), .second, .val (.long qb), .second, .val (.long qc), .second, .val (.int fl), .val (.int (3 : Int32)), .val (.int j185), .val (.int (1 : Int32)), .val (.int (1 : Int32)), .val (.ref b194), .val (.ref b208), .val (.ref b214), .val (.ref b220), .unset, .unset, .unset] [(.int r279)])) := by
            show Comes p e below _ (T278.setTop (mkF m 172 #[.val (.long qa), .second, .val (.long qb), .second, .val (.long qc), .second, .val (.int fl), .val (.int (3 : Int32)), .val (.int j185), .val (.int (1 : Int32)), .val (.int (1 : Int32)), .val (.ref b194), .val (.ref b208), .val (.ref b214), .val (.ref b220), .unset, .unset, .unset] [(.int r279)]))
            by_cases hc172_281 : r279 = (0 : Int32)
            · refine Comes.st (fun t k => XS.ifYes X278.here hx rfl (pc0 := 172) (pc' := 179) rfl (hb hby at_172) rfl ((if0 _ _).trans (teq hc172_281).1) (by decide) (by decide) (XS.iconst X278.here hx rfl (hb hby at_179) k)) ?_
              show Comes p e below _ (T278.setTop (mkF m 180 #[.val (.long qa), .second, .val (.long qb), .second, .val (.long qc), .second, .val (.int fl), .val (.int (3 : Int32)), .val (.int j185), .val (.int (1 : Int32)), .val (.int (1 : Int32)), .val (.ref b194), .val (.ref b208), .val (.ref b214), .val (.ref b220), .unset, .unset, .unset] [(.int (0 : Int32))]))
              exact Comes.here ⟨_, _, (0 : Int32), rfl, X278, hs278, N278, (Or.inl ⟨hc172_281, rfl⟩)⟩
            · refine Comes.st (fun t k => XS.ifNo X278.here hx rfl (hb hby at_172) rfl ((if0 _ _).trans (feq hc172_281).1) (XS.iconst X278.here hx rfl (hb hby at_175) (XS.goto X278.here hx rfl (pc0 := 176) (pc' := 180) rfl (hb hby at_176) (by decide) (by decide) k))) ?_
              show Comes p e below _ (T278.setTop (mkF m 180 #[.val (.long qa), .second, .val (.long qb), .second, .val (.long qc), .second, .val (.int fl), .val (.int (3 : Int32)), .val (.int j185), .val (.int (1 : Int32)), .val (.int (1 : Int32)), .val (.ref b194), .val (.ref b208), .val (.ref b214), .val (.ref b220), .unset, .unset, .unset] [(.int (1 : Int32))]))
              exact Comes.here ⟨_, _, (1 : Int32), rfl, X278, hs278, N278, (Or.inr ⟨hc172_281, rfl⟩)⟩
          obtain ⟨_, st283, T283, L283, j282, rfl, X283, e283, N283, rel283⟩ := J280
          refine Comes.go st283 ?_
          show Comes p e below _ (T283.setTop (mkF m 180 #[.val (.long qa), .second, .val (.long qb), .second, .val (.long qc), .second, .val (.int fl), .val (.int (3 : Int32)), .val (.int j185), .val (.int (1 : Int32)), .val (.int (1 : Int32)), .val (.ref b194), .val (.ref b208), .val (.ref b214), .val (.ref b220), .unset, .unset, .unset] [(.int j282)]))
          refine Comes.st (fun t k => XS.iload X283.here hx rfl (hb hby at_180) rfl k) ?_
          show Comes p e below _ (T283.setTop (mkF m 182 #[.val (.long qa), .second, .val (.long qb), .second, .val (.long qc), .second, .val (.int fl), .val (.int (3 : Int32)), .val (.int j185), .val (.int (1 : Int32)), .val (.int (1 : Int32)), .val (.ref b194), .val (.ref b208), .val (.ref b214), .val (.ref b220), .unset, .unset, .unset] [(.int (1 : Int32)), (.int j282)]))
          have hc182_284 : ¬ ((1 : Int32) = (0 : Int32)) := by decide
          refine Comes.st (fun t k => XS.ifNo X283.here hx rfl (hb hby at_182) rfl ((if0 _ _).trans (feq hc182_284).1) (XS.lload X283.here hx rfl (hb hby at_185) rfl (XS.lloadN X283.here hx rfl (hb hby at_187) rfl (XS.iload X283.here hx rfl (hb hby at_188) rfl k)))) ?_
          show Comes p e below _ (T283.setTop (mkF m 190 #[.val (.long qa), .second, .val (.long qb), .second, .val (.long qc), .second, .val (.int fl), .val (.int (3 : Int32)), .val (.int j185), .val (.int (1 : Int32)), .val (.int (1 : Int32)), .val (.ref b194), .val (.ref b208), .val (.ref b214), .val (.ref b220), .unset, .unset, .unset] [(.int j185), (.long qa), (.long qc), (.int j282)]))
          obtain ⟨_, _, ⟨T285, L285, k285, n285⟩, -, X285, ⟨Lc285, hQ285, l285, y285, z285⟩, st285⟩ := Jvm.LawKit.callS X283 hx (y := (⟨"com/example/tenorbook/tenorbook/engine/LadderBestPinLaw", "better", "(JJZ)Z"⟩ : MethodName)) hown (mvT hZ (hw _ (List.mem_of_getElem? (i := 56) rfl))) (mvT hZ (hw _ (List.mem_of_getElem? (i := 57) rfl))) (mvT hZ (hw _ (List.mem_of_getElem? (i := 58) rfl))) (mvT hZ (hw _ (List.mem_of_getElem? (i := 59) rfl))) (by decide) (backOf (W := 1) (rm8 l Z a0 hw [] qc qa j185 T267.heap n0 (by omega)  ) hZ (hw _ (List.mem_of_getElem? (i := 59) rfl)) (hw _ (List.mem_of_getElem? (i := 58) rfl)) (by decide) (by decide)) (g := (mkF m 190 #[.val (.long qa), .second, .val (.long qb), .second, .val (.long qc), .second, .val (.int fl), .val (.int (3 : Int32)), .val (.int j185), .val (.int (1 : Int32)), .val (.int (1 : Int32)), .val (.ref b194), .val (.ref b208), .val (.ref b214), .val (.ref b220), .unset, .unset, .unset] [(.int j185), (.long qa), (.long qc), (.int j282)])) rfl (by rw [hml]; rfl) (argsL := [(.long qc), (.long qa), (.int j185)]) (rest := [(.int j282)]) (lenOf pd_7 rfl) rfl (by show 2 * 0 + _ ≤ _; exact Nat.le_of_eq rfl) (hb hby at_190) (fun _ _ => ⟨rfl, e283, (by decide : 6 + 0 ≤ _), (by decide : 27 + 0 ≤ _)⟩)
          dsimp only [Pt.U, Pt.locs, Pt.cells, Pt.slots] at X285 l285 y285 z285 st285 hQ285
          subst l285 y285 z285
          obtain ⟨r286, rfl, Nq285, hs285, P285_0⟩ := hQ285
          have N285 := Fr.app N283 Nq285
          refine Comes.st st285 ?_
          have J287 : Comes p e below (fun S' => ∃ (T' : State), ∃ (L' : List Loc), ∃ (j289 : Int32), (S' = T'.setTop (mkF m 201 #[.val (.long qa), .second, .val (.long qb), .second, .val (.long qc), .second, .val (.int fl), .val (.int (3 : Int32)), .val (.int j185), .val (.int (1 : Int32)), .val (.int (1 : Int32)), .val (.ref b194), .val (.ref b208), .val (.ref b214), .val (.ref b220), .unset, .unset, .unset] [(.int j289), (.int j282)])) ∧ (Stand p l e room_1 s m #[(.long qa), (.long qb), (.long qc), (.int fl)] below meth c T' L' 6 27) ∧ (T'.heap = T267.heap) ∧ (Fr n0 L') ∧ (((r286 = (0 : Int32)) ∧ j289 = (0 : Int32)) ∨ ((¬ (r286 = (0 : Int32))) ∧ j289 = (1 : Int32)))) (T285.setTop (mkF m 193 #[.val (.long qa), .second, .val (.long qb), .second, .val (.long qc), .second, .val (.int fl), .val (.int (3 : Int32)), .val (.int j185), .val (.int (1 : Int32)), .val (.int (1 : Int32)), .val (.ref b194), .val (.ref b208), .val (.ref b214), .val (.ref b220), .unset, .unset, .unset] [(.int r286), (.int j282)])) := by
            show Comes p e below _ (T285.setTop (mkF m 193 #[.val (.long qa), .second, .val (.long qb), .second, .val (.long qc), .second, .val (.int fl), .val (.int (3 : Int32)), .val (.int j185), .val (.int (1 : Int32)), .val (.int (1 : Int32)), .val (.ref b194), .val (.ref b208), .val (.ref b214), .val (.ref b220), .unset, .unset, .unset] [(.int r286), (.int j282)]))
            by_cases hc193_288 : r286 = (0 : Int32)
            · refine Comes.st (fun t k => XS.ifYes X285.here hx rfl (pc0 := 193) (pc' := 200) rfl (hb hby at_193) rfl ((if0 _ _).trans (teq hc193_288).1) (by decide) (by decide) (XS.iconst X285.here hx rfl (hb hby at_200) k)) ?_
              show Comes p e below _ (T285.setTop (mkF m 201 #[.val (.long qa), .second, .val (.long qb), .second, .val (.long qc), .second, .val (.int fl), .val (.int (3 : Int32)), .val (.int j185), .val (.int (1 : Int32)), .val (.int (1 : Int32)), .val (.ref b194), .val (.ref b208), .val (.ref b214), .val (.ref b220), .unset, .unset, .unset] [(.int (0 : Int32)), (.int j282)]))
              exact Comes.here ⟨_, _, (0 : Int32), rfl, X285, hs285, N285, (Or.inl ⟨hc193_288, rfl⟩)⟩
            · refine Comes.st (fun t k => XS.ifNo X285.here hx rfl (hb hby at_193) rfl ((if0 _ _).trans (feq hc193_288).1) (XS.iconst X285.here hx rfl (hb hby at_196) (XS.goto X285.here hx rfl (pc0 := 197) (pc' := 201) rfl (hb hby at_197) (by decide) (by decide) k))) ?_
              show Comes p e below _ (T285.setTop (mkF m 201 #[.val (.long qa), .second, .val (.long qb), .second, .val (.long qc), .second, .val (.int fl), .val (.int (3 : Int32)), .val (.int j185), .val (.int (1 : Int32)), .val (.int (1 : Int32)), .val (.ref b194), .val (.ref b208), .val (.ref b214), .val (.ref b220), .unset, .unset, .unset] [(.int (1 : Int32)), (.int j282)]))
              exact Comes.here ⟨_, _, (1 : Int32), rfl, X285, hs285, N285, (Or.inr ⟨hc193_288, rfl⟩)⟩
          obtain ⟨_, st290, T290, L290, j289, rfl, X290, e290, N290, rel290⟩ := J287
          refine Comes.go st290 ?_
          show Comes p e below _ (T290.setTop (mkF m 201 #[.val (.long qa), .second, .val (.long qb), .second, .val (.long qc), .second, .val (.int fl), .val (.int (3 : Int32)), .val (.int j185), .val (.int (1 : Int32)), .val (.int (1 : Int32)), .val (.ref b194), .val (.ref b208), .val (.ref b214), .val (.ref b220), .unset, .unset, .unset] [(.int j289), (.int j282)]))
          refine Comes.st (fun t k => XS.iadd X290.here hx rfl (hb hby at_201) rfl k) ?_
          show Comes p e below _ (T290.setTop (mkF m 202 #[.val (.long qa), .second, .val (.long qb), .second, .val (.long qc), .second, .val (.int fl), .val (.int (3 : Int32)), .val (.int j185), .val (.int (1 : Int32)), .val (.int (1 : Int32)), .val (.ref b194), .val (.ref b208), .val (.ref b214), .val (.ref b220), .unset, .unset, .unset] [(.int (j282 + j289))]))
          generalize hv_v291 : (j282 + j289) = v291
          show Comes p e below _ (T290.setTop (mkF m 202 #[.val (.long qa), .second, .val (.long qb), .second, .val (.long qc), .second, .val (.int fl), .val (.int (3 : Int32)), .val (.int j185), .val (.int (1 : Int32)), .val (.int (1 : Int32)), .val (.ref b194), .val (.ref b208), .val (.ref b214), .val (.ref b220), .unset, .unset, .unset] [(.int v291)]))
          refine Comes.st (fun t k => XS.istore X290.here hx rfl (hb hby at_202) rfl (l' := #[.val (.long qa), .second, .val (.long qb), .second, .val (.long qc), .second, .val (.int fl), .val (.int (3 : Int32)), .val (.int j185), .val (.int (1 : Int32)), .val (.int (1 : Int32)), .val (.ref b194), .val (.ref b208), .val (.ref b214), .val (.ref b220), .val (.int v291), .unset, .unset]) rfl (XS.aload X290.here hx rfl (hb hby at_204) rfl rfl (XS.iload X290.here hx rfl (hb hby at_206) rfl k))) ?_
          show Comes p e below _ (T290.setTop (mkF m 208 #[.val (.long qa), .second, .val (.long qb), .second, .val (.long qc), .second, .val (.int fl), .val (.int (3 : Int32)), .val (.int j185), .val (.int (1 : Int32)), .val (.int (1 : Int32)), .val (.ref b194), .val (.ref b208), .val (.ref b214), .val (.ref b220), .val (.int v291), .unset, .unset] [(.int v291), (.ref b194)]))
          obtain ⟨cq292, kq292, q292a, q292b, q292c⟩ := isOf hZ e290 P267_0
          obtain ⟨_, _, ⟨T292, L292, k292, n292⟩, -, X292, ⟨Lc292, hQ292, l292, y292, z292⟩, st292⟩ := X290.virtualBack hx (y := (⟨"com/example/tenorbook/tenorbook/engine/Ladder", "best", "(I)Lcom/example/tenorbook/tenorbook/engine/Level;"⟩ : MethodName)) (z := (⟨"com/example/tenorbook/tenorbook/engine/Ladder", "best", "(I)Lcom/example/tenorbook/tenorbook/engine/Level;"⟩ : MethodName)) hown (mvT hZ (hw _ (List.mem_of_getElem? (i := 60) rfl))) (mvT hZ (hw _ (List.mem_of_getElem? (i := 61) rfl))) (notFace_of_selects (args := #[]) (mvT hZ (hw _ (List.mem_of_getElem? (i := 63) rfl)))) (mvT hZ (hw _ (List.mem_of_getElem? (i := 63) rfl))) (mvT hZ (hw _ (List.mem_of_getElem? (i := 62) rfl))) (by decide) (backOf (W := 0) (best3 l Z a0 hw [] b194 v291 o201 r203 o271 o272 o273 T267.heap n0 (by omega)  P267_2 P267_4 P267_6 (by have a_0 := c_mask fl (3 : Int32) 2 (by decide) (by decide); have a_1 := c_irem (fl &&& (3 : Int32)) (3 : Int32) 3 (by decide); have a_2 := c_iadd ((fl &&& (3 : Int32)) % (3 : Int32)) (1 : Int32); rw [hv_v2] at a_2; have a_3 := c_and fl (4 : Int32) (by decide); have a_4 := c_iadd j282 j289; rw [hv_v291] at a_4; have a_5 := rng32 ((fl &&& (3 : Int32)) % (3 : Int32)); have a_6 := rng32 (3 : Int32); have a_7 := rng32 (fl &&& (3 : Int32)); have a_8 := rng32 (fl &&& (4 : Int32)); have a_9 := rng32 fl; have a_10 := rng32 j282; have a_11 := rng32 j289; have a_12 := rng32 v291; have c_0 := hc27_187; have c_1 := hc40_188; have c_2 := hc52_189; have c_3 := hc58_190; have c_4 := hc65_191; have c_5 := hc72_192; have c_6 := hc79_193; have c_7 := hc138_251; have c_8 := hc150_263; have c_9 := hc162_277; have c_10 := hc182_284; have c_11 := rel186; have c_12 := P199_13; have c_13 := P247_12; have c_14 := P256_13; have c_15 := P256_14; have c_16 := P267_14; have c_17 := P267_15; have c_18 := P267_16; have c_19 := P278_0; have c_20 := rel283; have c_21 := P285_0; have c_22 := rel290; (try simp only [Int32.lt_iff_toInt_lt, Int64.lt_iff_toInt_lt, ← Int32.toInt_inj, ← Int64.toInt_inj, Int32.reduceToInt, Int64.reduceToInt, eq_self, and_true, true_and, or_true, true_or, and_false, false_and, or_false, false_or, not_true_eq_false, not_false_eq_true] at a_0 a_1 a_2 a_3 a_4 a_5 a_6 a_7 a_8 a_9 a_10 a_11 a_12 c_0 c_1 c_2 c_3 c_4 c_5 c_6 c_7 c_8 c_9 c_10 c_11 c_12 c_13 c_14 c_15 c_16 c_17 c_18 c_19 c_20 c_21 c_22 ⊢) <;> omega)) hZ (hw _ (List.mem_of_getElem? (i := 64) rfl)) (hw _ (List.mem_of_getElem? (i := 2) rfl)) (by decide) (by decide)) q292a q292c (g := (mkF m 208 #[.val (.long qa), .second, .val (.long qb), .second, .val (.long qc), .second, .val (.int fl), .val (.int (3 : Int32)), .val (.int j185), .val (.int (1 : Int32)), .val (.int (1 : Int32)), .val (.ref b194), .val (.ref b208), .val (.ref b214), .val (.ref b220), .val (.int v291), .unset, .unset] [(.int v291), (.ref b194)])) rfl (by rw [hml]; rfl) (Steps.refl _) (argsL := [(.int v291)]) (rest := []) (lenOf pd_6 rfl) rfl (by show 2 * 0 + _ ≤ _; exact Nat.le_of_eq rfl) (hb hby at_208) (fun _ _ => ⟨rfl, e290, (by decide : 6 + 0 ≤ _), (by decide : 27 + 0 ≤ _)⟩)
          dsimp only [Pt.U, Pt.locs, Pt.cells, Pt.slots] at X292 l292 y292 z292 st292 hQ292
          subst l292 y292 z292
          obtain ⟨o293, rfl, Nq292, hs292, P292_0⟩ := hQ292
          have N292 := Fr.app N290 Nq292
          refine Comes.go st292 ?_
          show Comes p e below _ (T292.setTop (mkF m 211 #[.val (.long qa), .second, .val (.long qb), .second, .val (.long qc), .second, .val (.int fl), .val (.int (3 : Int32)), .val (.int j185), .val (.int (1 : Int32)), .val (.int (1 : Int32)), .val (.ref b194), .val (.ref b208), .val (.ref b214), .val (.ref b220), .val (.int v291), .unset, .unset] [(.ref o293)]))
          refine Comes.st (fun t k => XS.aload X292.here hx rfl (hb hby at_211) rfl rfl k) ?_
          show Comes p e below _ (T292.setTop (mkF m 213 #[.val (.long qa), .second, .val (.long qb), .second, .val (.long qc), .second, .val (.int fl), .val (.int (3 : Int32)), .val (.int j185), .val (.int (1 : Int32)), .val (.int (1 : Int32)), .val (.ref b194), .val (.ref b208), .val (.ref b214), .val (.ref b220), .val (.int v291), .unset, .unset] [(.ref b208), (.ref o293)]))
          have hc213_294 : o293 = b208 := by apply own_ad_inj; have a_0 := c_mask fl (3 : Int32) 2 (by decide) (by decide); have a_1 := c_irem (fl &&& (3 : Int32)) (3 : Int32) 3 (by decide); have a_2 := c_iadd ((fl &&& (3 : Int32)) % (3 : Int32)) (1 : Int32); rw [hv_v2] at a_2; have a_3 := c_and fl (4 : Int32) (by decide); have a_4 := c_iadd j282 j289; rw [hv_v291] at a_4; have a_5 := rng32 ((fl &&& (3 : Int32)) % (3 : Int32)); have a_6 := rng32 (3 : Int32); have a_7 := rng32 (fl &&& (3 : Int32)); have a_8 := rng32 (fl &&& (4 : Int32)); have a_9 := rng32 fl; have a_10 := rng32 j282; have a_11 := rng32 j289; have a_12 := rng32 v291; have a_13 := own_key_ne j185 hc58_190; have a_14 := own_key_ne j185 hc72_192; have a_15 := own_key_ne j185 hc79_193; have c_0 := hc27_187; have c_1 := hc40_188; have c_2 := hc52_189; have c_3 := hc58_190; have c_4 := hc65_191; have c_5 := hc72_192; have c_6 := hc79_193; have c_7 := hc138_251; have c_8 := hc150_263; have c_9 := hc162_277; have c_10 := hc182_284; have c_11 := P199_13; have c_12 := P247_12; have c_13 := P256_13; have c_14 := P256_14; have c_15 := P267_14; have c_16 := P267_15; have c_17 := P267_16; have c_18 := P278_0; have c_19 := rel283; have c_20 := P285_0; have c_21 := rel290; have c_22 := P292_0; (try simp only [Int32.lt_iff_toInt_lt, Int64.lt_iff_toInt_lt, ← Int32.toInt_inj, ← Int64.toInt_inj, Int32.reduceToInt, Int64.reduceToInt, eq_self, and_true, true_and, or_true, true_or, and_false, false_and, or_false, false_or, not_true_eq_false, not_false_eq_true] at a_0 a_1 a_2 a_3 a_4 a_5 a_6 a_7 a_8 a_9 a_10 a_11 a_12 a_13 a_14 a_15 c_0 c_1 c_2 c_3 c_4 c_5 c_6 c_7 c_8 c_9 c_10 c_11 c_12 c_13 c_14 c_15 c_16 c_17 c_18 c_19 c_20 c_21 c_22 ⊢) <;> omega
          refine Comes.st (fun t k => Jvm.RoadKit.acmp (g := (mkF m 213 #[.val (.long qa), .second, .val (.long qb), .second, .val (.long qc), .second, .val (.int fl), .val (.int (3 : Int32)), .val (.int j185), .val (.int (1 : Int32)), .val (.int (1 : Int32)), .val (.ref b194), .val (.ref b208), .val (.ref b214), .val (.ref b220), .val (.int v291), .unset, .unset] [(.ref b208), (.ref o293)])) X292 hx rfl rfl rfl (pc0 := 213) (pc' := 216) (same := true) rfl (hb hby at_213) rfl (decide_eq_true (congrArg Value.ref hc213_294)) (by decide) (by decide) (XS.iconst X292.here hx rfl (hb hby at_216) (XS.goto X292.here hx rfl (pc0 := 217) (pc' := 221) rfl (hb hby at_217) (by decide) (by decide) (XS.istore X292.here hx rfl (hb hby at_221) rfl (l' := #[.val (.long qa), .second, .val (.long qb), .second, .val (.long qc), .second, .val (.int fl), .val (.int (3 : Int32)), .val (.int j185), .val (.int (1 : Int32)), .val (.int (1 : Int32)), .val (.ref b194), .val (.ref b208), .val (.ref b214), .val (.ref b220), .val (.int v291), .val (.int (1 : Int32)), .unset]) rfl (XS.iload X292.here hx rfl (hb hby at_223) rfl k))))) ?_
          show Comes p e below _ (T292.setTop (mkF m 225 #[.val (.long qa), .second, .val (.long qb), .second, .val (.long qc), .second, .val (.int fl), .val (.int (3 : Int32)), .val (.int j185), .val (.int (1 : Int32)), .val (.int (1 : Int32)), .val (.ref b194), .val (.ref b208), .val (.ref b214), .val (.ref b220), .val (.int v291), .val (.int (1 : Int32)), .unset] [(.int (1 : Int32))]))
          have hc225_295 : ¬ ((1 : Int32) = (0 : Int32)) := by decide
          refine Comes.st (fun t k => XS.ifNo X292.here hx rfl (hb hby at_225) rfl ((if0 _ _).trans (feq hc225_295).1) (XS.lloadN X292.here hx rfl (hb hby at_228) rfl (XS.lloadN X292.here hx rfl (hb hby at_229) rfl (XS.iload X292.here hx rfl (hb hby at_230) rfl k)))) ?_
          show Comes p e below _ (T292.setTop (mkF m 232 #[.val (.long qa), .second, .val (.long qb), .second, .val (.long qc), .second, .val (.int fl), .val (.int (3 : Int32)), .val (.int j185), .val (.int (1 : Int32)), .val (.int (1 : Int32)), .val (.ref b194), .val (.ref b208), .val (.ref b214), .val (.ref b220), .val (.int v291), .val (.int (1 : Int32)), .unset] [(.int j185), (.long qb), (.long qa)]))
          obtain ⟨_, _, ⟨T296, L296, k296, n296⟩, -, X296, ⟨Lc296, hQ296, l296, y296, z296⟩, st296⟩ := Jvm.LawKit.callS X292 hx (y := (⟨"com/example/tenorbook/tenorbook/engine/LadderBestPinLaw", "better", "(JJZ)Z"⟩ : MethodName)) hown (mvT hZ (hw _ (List.mem_of_getElem? (i := 56) rfl))) (mvT hZ (hw _ (List.mem_of_getElem? (i := 57) rfl))) (mvT hZ (hw _ (List.mem_of_getElem? (i := 58) rfl))) (mvT hZ (hw _ (List.mem_of_getElem? (i := 59) rfl))) (by decide) (backOf (W := 0) (rm8 l Z a0 hw [] qa qb j185 T267.heap n0 (by omega)  ) hZ (hw _ (List.mem_of_getElem? (i := 59) rfl)) (hw _ (List.mem_of_getElem? (i := 58) rfl)) (by decide) (by decide)) (g := (mkF m 232 #[.val (.long qa), .second, .val (.long qb), .second, .val (.long qc), .second, .val (.int fl), .val (.int (3 : Int32)), .val (.int j185), .val (.int (1 : Int32)), .val (.int (1 : Int32)), .val (.ref b194), .val (.ref b208), .val (.ref b214), .val (.ref b220), .val (.int v291), .val (.int (1 : Int32)), .unset] [(.int j185), (.long qb), (.long qa)])) rfl (by rw [hml]; rfl) (argsL := [(.long qa), (.long qb), (.int j185)]) (rest := []) (lenOf pd_7 rfl) rfl (by show 2 * 0 + _ ≤ _; exact Nat.le_of_eq rfl) (hb hby at_232) (fun _ _ => ⟨rfl, hs292, (by decide : 6 + 0 ≤ _), (by decide : 27 + 0 ≤ _)⟩)
          dsimp only [Pt.U, Pt.locs, Pt.cells, Pt.slots] at X296 l296 y296 z296 st296 hQ296
          subst l296 y296 z296
          obtain ⟨r297, rfl, Nq296, hs296, P296_0⟩ := hQ296
          have N296 := Fr.app N292 Nq296
          refine Comes.st st296 ?_
          have J298 : Comes p e below (fun S' => ∃ (T' : State), ∃ (L' : List Loc), ∃ (j300 : Int32), (S' = T'.setTop (mkF m 243 #[.val (.long qa), .second, .val (.long qb), .second, .val (.long qc), .second, .val (.int fl), .val (.int (3 : Int32)), .val (.int j185), .val (.int (1 : Int32)), .val (.int (1 : Int32)), .val (.ref b194), .val (.ref b208), .val (.ref b214), .val (.ref b220), .val (.int v291), .val (.int (1 : Int32)), .unset] [(.int j300)])) ∧ (Stand p l e room_1 s m #[(.long qa), (.long qb), (.long qc), (.int fl)] below meth c T' L' 6 27) ∧ (T'.heap = T267.heap) ∧ (Fr n0 L') ∧ (((r297 = (0 : Int32)) ∧ j300 = (0 : Int32)) ∨ ((¬ (r297 = (0 : Int32))) ∧ j300 = (1 : Int32)))) (T296.setTop (mkF m 235 #[.val (.long qa), .second, .val (.long qb), .second, .val (.long qc), .second, .val (.int fl), .val (.int (3 : Int32)), .val (.int j185), .val (.int (1 : Int32)), .val (.int (1 : Int32)), .val (.ref b194), .val (.ref b208), .val (.ref b214), .val (.ref b220), .val (.int v291), .val (.int (1 : Int32)), .unset] [(.int r297)])) := by
            show Comes p e below _ (T296.setTop (mkF m 235 #[.val (.long qa), .second, .val (.long qb), .second, .val (.long qc), .second, .val (.int fl), .val (.int (3 : Int32)), .val (.int j185), .val (.int (1 : Int32)), .val (.int (1 : Int32)), .val (.ref b194), .val (.ref b208), .val (.ref b214), .val (.ref b220), .val (.int v291), .val (.int (1 : Int32)), .unset] [(.int r297)]))
            by_cases hc235_299 : r297 = (0 : Int32)
            · refine Comes.st (fun t k => XS.ifYes X296.here hx rfl (pc0 := 235) (pc' := 242) rfl (hb hby at_235) rfl ((if0 _ _).trans (teq hc235_299).1) (by decide) (by decide) (XS.iconst X296.here hx rfl (hb hby at_242) k)) ?_
              show Comes p e below _ (T296.setTop (mkF m 243 #[.val (.long qa), .second, .val (.long qb), .second, .val (.long qc), .second, .val (.int fl), .val (.int (3 : Int32)), .val (.int j185), .val (.int (1 : Int32)), .val (.int (1 : Int32)), .val (.ref b194), .val (.ref b208), .val (.ref b214), .val (.ref b220), .val (.int v291), .val (.int (1 : Int32)), .unset] [(.int (0 : Int32))]))
              exact Comes.here ⟨_, _, (0 : Int32), rfl, X296, hs296, N296, (Or.inl ⟨hc235_299, rfl⟩)⟩
            · refine Comes.st (fun t k => XS.ifNo X296.here hx rfl (hb hby at_235) rfl ((if0 _ _).trans (feq hc235_299).1) (XS.iconst X296.here hx rfl (hb hby at_238) (XS.goto X296.here hx rfl (pc0 := 239) (pc' := 243) rfl (hb hby at_239) (by decide) (by decide) k))) ?_
              show Comes p e below _ (T296.setTop (mkF m 243 #[.val (.long qa), .second, .val (.long qb), .second, .val (.long qc), .second, .val (.int fl), .val (.int (3 : Int32)), .val (.int j185), .val (.int (1 : Int32)), .val (.int (1 : Int32)), .val (.ref b194), .val (.ref b208), .val (.ref b214), .val (.ref b220), .val (.int v291), .val (.int (1 : Int32)), .unset] [(.int (1 : Int32))]))
              exact Comes.here ⟨_, _, (1 : Int32), rfl, X296, hs296, N296, (Or.inr ⟨hc235_299, rfl⟩)⟩
          obtain ⟨_, st301, T301, L301, j300, rfl, X301, e301, N301, rel301⟩ := J298
          refine Comes.go st301 ?_
          show Comes p e below _ (T301.setTop (mkF m 243 #[.val (.long qa), .second, .val (.long qb), .second, .val (.long qc), .second, .val (.int fl), .val (.int (3 : Int32)), .val (.int j185), .val (.int (1 : Int32)), .val (.int (1 : Int32)), .val (.ref b194), .val (.ref b208), .val (.ref b214), .val (.ref b220), .val (.int v291), .val (.int (1 : Int32)), .unset] [(.int j300)]))
          refine Comes.st (fun t k => XS.iload X301.here hx rfl (hb hby at_243) rfl k) ?_
          show Comes p e below _ (T301.setTop (mkF m 245 #[.val (.long qa), .second, .val (.long qb), .second, .val (.long qc), .second, .val (.int fl), .val (.int (3 : Int32)), .val (.int j185), .val (.int (1 : Int32)), .val (.int (1 : Int32)), .val (.ref b194), .val (.ref b208), .val (.ref b214), .val (.ref b220), .val (.int v291), .val (.int (1 : Int32)), .unset] [(.int (1 : Int32)), (.int j300)]))
          have hc245_302 : ¬ ((1 : Int32) = (0 : Int32)) := by decide
          refine Comes.st (fun t k => XS.ifNo X301.here hx rfl (hb hby at_245) rfl ((if0 _ _).trans (feq hc245_302).1) (XS.lload X301.here hx rfl (hb hby at_248) rfl (XS.lloadN X301.here hx rfl (hb hby at_250) rfl (XS.iload X301.here hx rfl (hb hby at_251) rfl k)))) ?_
          show Comes p e below _ (T301.setTop (mkF m 253 #[.val (.long qa), .second, .val (.long qb), .second, .val (.long qc), .second, .val (.int fl), .val (.int (3 : Int32)), .val (.int j185), .val (.int (1 : Int32)), .val (.int (1 : Int32)), .val (.ref b194), .val (.ref b208), .val (.ref b214), .val (.ref b220), .val (.int v291), .val (.int (1 : Int32)), .unset] [(.int j185), (.long qb), (.long qc), (.int j300)]))
          obtain ⟨_, _, ⟨T303, L303, k303, n303⟩, -, X303, ⟨Lc303, hQ303, l303, y303, z303⟩, st303⟩ := Jvm.LawKit.callS X301 hx (y := (⟨"com/example/tenorbook/tenorbook/engine/LadderBestPinLaw", "better", "(JJZ)Z"⟩ : MethodName)) hown (mvT hZ (hw _ (List.mem_of_getElem? (i := 56) rfl))) (mvT hZ (hw _ (List.mem_of_getElem? (i := 57) rfl))) (mvT hZ (hw _ (List.mem_of_getElem? (i := 58) rfl))) (mvT hZ (hw _ (List.mem_of_getElem? (i := 59) rfl))) (by decide) (backOf (W := 1) (rm8 l Z a0 hw [] qc qb j185 T267.heap n0 (by omega)  ) hZ (hw _ (List.mem_of_getElem? (i := 59) rfl)) (hw _ (List.mem_of_getElem? (i := 58) rfl)) (by decide) (by decide)) (g := (mkF m 253 #[.val (.long qa), .second, .val (.long qb), .second, .val (.long qc), .second, .val (.int fl), .val (.int (3 : Int32)), .val (.int j185), .val (.int (1 : Int32)), .val (.int (1 : Int32)), .val (.ref b194), .val (.ref b208), .val (.ref b214), .val (.ref b220), .val (.int v291), .val (.int (1 : Int32)), .unset] [(.int j185), (.long qb), (.long qc), (.int j300)])) rfl (by rw [hml]; rfl) (argsL := [(.long qc), (.long qb), (.int j185)]) (rest := [(.int j300)]) (lenOf pd_7 rfl) rfl (by show 2 * 0 + _ ≤ _; exact Nat.le_of_eq rfl) (hb hby at_253) (fun _ _ => ⟨rfl, e301, (by decide : 6 + 0 ≤ _), (by decide : 27 + 0 ≤ _)⟩)
          dsimp only [Pt.U, Pt.locs, Pt.cells, Pt.slots] at X303 l303 y303 z303 st303 hQ303
          subst l303 y303 z303
          obtain ⟨r304, rfl, Nq303, hs303, P303_0⟩ := hQ303
          have N303 := Fr.app N301 Nq303
          refine Comes.st st303 ?_
          have J305 : Comes p e below (fun S' => ∃ (T' : State), ∃ (L' : List Loc), ∃ (j307 : Int32), (S' = T'.setTop (mkF m 264 #[.val (.long qa), .second, .val (.long qb), .second, .val (.long qc), .second, .val (.int fl), .val (.int (3 : Int32)), .val (.int j185), .val (.int (1 : Int32)), .val (.int (1 : Int32)), .val (.ref b194), .val (.ref b208), .val (.ref b214), .val (.ref b220), .val (.int v291), .val (.int (1 : Int32)), .unset] [(.int j307), (.int j300)])) ∧ (Stand p l e room_1 s m #[(.long qa), (.long qb), (.long qc), (.int fl)] below meth c T' L' 6 27) ∧ (T'.heap = T267.heap) ∧ (Fr n0 L') ∧ (((r304 = (0 : Int32)) ∧ j307 = (0 : Int32)) ∨ ((¬ (r304 = (0 : Int32))) ∧ j307 = (1 : Int32)))) (T303.setTop (mkF m 256 #[.val (.long qa), .second, .val (.long qb), .second, .val (.long qc), .second, .val (.int fl), .val (.int (3 : Int32)), .val (.int j185), .val (.int (1 : Int32)), .val (.int (1 : Int32)), .val (.ref b194), .val (.ref b208), .val (.ref b214), .val (.ref b220), .val (.int v291), .val (.int (1 : Int32)), .unset] [(.int r304), (.int j300)])) := by
            show Comes p e below _ (T303.setTop (mkF m 256 #[.val (.long qa), .second, .val (.long qb), .second, .val (.long qc), .second, .val (.int fl), .val (.int (3 : Int32)), .val (.int j185), .val (.int (1 : Int32)), .val (.int (1 : Int32)), .val (.ref b194), .val (.ref b208), .val (.ref b214), .val (.ref b220), .val (.int v291), .val (.int (1 : Int32)), .unset] [(.int r304), (.int j300)]))
            by_cases hc256_306 : r304 = (0 : Int32)
            · refine Comes.st (fun t k => XS.ifYes X303.here hx rfl (pc0 := 256) (pc' := 263) rfl (hb hby at_256) rfl ((if0 _ _).trans (teq hc256_306).1) (by decide) (by decide) (XS.iconst X303.here hx rfl (hb hby at_263) k)) ?_
              show Comes p e below _ (T303.setTop (mkF m 264 #[.val (.long qa), .second, .val (.long qb), .second, .val (.long qc), .second, .val (.int fl), .val (.int (3 : Int32)), .val (.int j185), .val (.int (1 : Int32)), .val (.int (1 : Int32)), .val (.ref b194), .val (.ref b208), .val (.ref b214), .val (.ref b220), .val (.int v291), .val (.int (1 : Int32)), .unset] [(.int (0 : Int32)), (.int j300)]))
              exact Comes.here ⟨_, _, (0 : Int32), rfl, X303, hs303, N303, (Or.inl ⟨hc256_306, rfl⟩)⟩
            · refine Comes.st (fun t k => XS.ifNo X303.here hx rfl (hb hby at_256) rfl ((if0 _ _).trans (feq hc256_306).1) (XS.iconst X303.here hx rfl (hb hby at_259) (XS.goto X303.here hx rfl (pc0 := 260) (pc' := 264) rfl (hb hby at_260) (by decide) (by decide) k))) ?_
              show Comes p e below _ (T303.setTop (mkF m 264 #[.val (.long qa), .second, .val (.long qb), .second, .val (.long qc), .second, .val (.int fl), .val (.int (3 : Int32)), .val (.int j185), .val (.int (1 : Int32)), .val (.int (1 : Int32)), .val (.ref b194), .val (.ref b208), .val (.ref b214), .val (.ref b220), .val (.int v291), .val (.int (1 : Int32)), .unset] [(.int (1 : Int32)), (.int j300)]))
              exact Comes.here ⟨_, _, (1 : Int32), rfl, X303, hs303, N303, (Or.inr ⟨hc256_306, rfl⟩)⟩
          obtain ⟨_, st308, T308, L308, j307, rfl, X308, e308, N308, rel308⟩ := J305
          refine Comes.go st308 ?_
          show Comes p e below _ (T308.setTop (mkF m 264 #[.val (.long qa), .second, .val (.long qb), .second, .val (.long qc), .second, .val (.int fl), .val (.int (3 : Int32)), .val (.int j185), .val (.int (1 : Int32)), .val (.int (1 : Int32)), .val (.ref b194), .val (.ref b208), .val (.ref b214), .val (.ref b220), .val (.int v291), .val (.int (1 : Int32)), .unset] [(.int j307), (.int j300)]))
          refine Comes.st (fun t k => XS.iadd X308.here hx rfl (hb hby at_264) rfl k) ?_
          show Comes p e below _ (T308.setTop (mkF m 265 #[.val (.long qa), .second, .val (.long qb), .second, .val (.long qc), .second, .val (.int fl), .val (.int (3 : Int32)), .val (.int j185), .val (.int (1 : Int32)), .val (.int (1 : Int32)), .val (.ref b194), .val (.ref b208), .val (.ref b214), .val (.ref b220), .val (.int v291), .val (.int (1 : Int32)), .unset] [(.int (j300 + j307))]))
          generalize hv_v309 : (j300 + j307) = v309
          show Comes p e below _ (T308.setTop (mkF m 265 #[.val (.long qa), .second, .val (.long qb), .second, .val (.long qc), .second, .val (.int fl), .val (.int (3 : Int32)), .val (.int j185), .val (.int (1 : Int32)), .val (.int (1 : Int32)), .val (.ref b194), .val (.ref b208), .val (.ref b214), .val (.ref b220), .val (.int v291), .val (.int (1 : Int32)), .unset] [(.int v309)]))
          refine Comes.st (fun t k => XS.istore X308.here hx rfl (hb hby at_265) rfl (l' := #[.val (.long qa), .second, .val (.long qb), .second, .val (.long qc), .second, .val (.int fl), .val (.int (3 : Int32)), .val (.int j185), .val (.int (1 : Int32)), .val (.int (1 : Int32)), .val (.ref b194), .val (.ref b208), .val (.ref b214), .val (.ref b220), .val (.int v291), .val (.int (1 : Int32)), .val (.int v309)]) rfl (XS.iload X308.here hx rfl (hb hby at_267) rfl k)) ?_
          show Comes p e below _ (T308.setTop (mkF m 269 #[.val (.long qa), .second, .val (.long qb), .second, .val (.long qc), .second, .val (.int fl), .val (.int (3 : Int32)), .val (.int j185), .val (.int (1 : Int32)), .val (.int (1 : Int32)), .val (.ref b194), .val (.ref b208), .val (.ref b214), .val (.ref b220), .val (.int v291), .val (.int (1 : Int32)), .val (.int v309)] [(.int (1 : Int32))]))
          have hc269_310 : ¬ ((1 : Int32) = (0 : Int32)) := by decide
          refine Comes.st (fun t k => XS.ifNo X308.here hx rfl (hb hby at_269) rfl ((if0 _ _).trans (feq hc269_310).1) (XS.aload X308.here hx rfl (hb hby at_272) rfl rfl (XS.iload X308.here hx rfl (hb hby at_274) rfl k))) ?_
          show Comes p e below _ (T308.setTop (mkF m 276 #[.val (.long qa), .second, .val (.long qb), .second, .val (.long qc), .second, .val (.int fl), .val (.int (3 : Int32)), .val (.int j185), .val (.int (1 : Int32)), .val (.int (1 : Int32)), .val (.ref b194), .val (.ref b208), .val (.ref b214), .val (.ref b220), .val (.int v291), .val (.int (1 : Int32)), .val (.int v309)] [(.int v309), (.ref b194)]))
          obtain ⟨cq311, kq311, q311a, q311b, q311c⟩ := isOf hZ e308 P267_0
          obtain ⟨_, _, ⟨T311, L311, k311, n311⟩, -, X311, ⟨Lc311, hQ311, l311, y311, z311⟩, st311⟩ := X308.virtualBack hx (y := (⟨"com/example/tenorbook/tenorbook/engine/Ladder", "best", "(I)Lcom/example/tenorbook/tenorbook/engine/Level;"⟩ : MethodName)) (z := (⟨"com/example/tenorbook/tenorbook/engine/Ladder", "best", "(I)Lcom/example/tenorbook/tenorbook/engine/Level;"⟩ : MethodName)) hown (mvT hZ (hw _ (List.mem_of_getElem? (i := 60) rfl))) (mvT hZ (hw _ (List.mem_of_getElem? (i := 61) rfl))) (notFace_of_selects (args := #[]) (mvT hZ (hw _ (List.mem_of_getElem? (i := 63) rfl)))) (mvT hZ (hw _ (List.mem_of_getElem? (i := 63) rfl))) (mvT hZ (hw _ (List.mem_of_getElem? (i := 62) rfl))) (by decide) (backOf (W := 0) (best3 l Z a0 hw [] b194 v309 o201 r203 o271 o272 o273 T267.heap n0 (by omega)  P267_2 P267_4 P267_6 (by have a_0 := c_mask fl (3 : Int32) 2 (by decide) (by decide); have a_1 := c_irem (fl &&& (3 : Int32)) (3 : Int32) 3 (by decide); have a_2 := c_iadd ((fl &&& (3 : Int32)) % (3 : Int32)) (1 : Int32); rw [hv_v2] at a_2; have a_3 := c_and fl (4 : Int32) (by decide); have a_4 := c_iadd j282 j289; rw [hv_v291] at a_4; have a_5 := c_iadd j300 j307; rw [hv_v309] at a_5; have a_6 := rng32 ((fl &&& (3 : Int32)) % (3 : Int32)); have a_7 := rng32 (3 : Int32); have a_8 := rng32 (fl &&& (3 : Int32)); have a_9 := rng32 (fl &&& (4 : Int32)); have a_10 := rng32 fl; have a_11 := rng32 j282; have a_12 := rng32 j289; have a_13 := rng32 j300; have a_14 := rng32 j307; have a_15 := rng32 v291; have a_16 := rng32 v309; have c_0 := hc27_187; have c_1 := hc40_188; have c_2 := hc52_189; have c_3 := hc58_190; have c_4 := hc65_191; have c_5 := hc72_192; have c_6 := hc79_193; have c_7 := hc138_251; have c_8 := hc150_263; have c_9 := hc162_277; have c_10 := hc182_284; have c_11 := hc213_294; have c_12 := hc225_295; have c_13 := hc245_302; have c_14 := hc269_310; have c_15 := rel186; have c_16 := P199_13; have c_17 := P247_12; have c_18 := P256_13; have c_19 := P256_14; have c_20 := P267_14; have c_21 := P267_15; have c_22 := P267_16; have c_23 := P278_0; have c_24 := rel283; have c_25 := P285_0; have c_26 := rel290; have c_27 := P292_0; have c_28 := P296_0; have c_29 := rel301; have c_30 := P303_0; have c_31 := rel308; (try simp only [Int32.lt_iff_toInt_lt, Int64.lt_iff_toInt_lt, ← Int32.toInt_inj, ← Int64.toInt_inj, Int32.reduceToInt, Int64.reduceToInt, eq_self, and_true, true_and, or_true, true_or, and_false, false_and, or_false, false_or, not_true_eq_false, not_false_eq_true] at a_0 a_1 a_2 a_3 a_4 a_5 a_6 a_7 a_8 a_9 a_10 a_11 a_12 a_13 a_14 a_15 a_16 c_0 c_1 c_2 c_3 c_4 c_5 c_6 c_7 c_8 c_9 c_10 c_11 c_12 c_13 c_14 c_15 c_16 c_17 c_18 c_19 c_20 c_21 c_22 c_23 c_24 c_25 c_26 c_27 c_28 c_29 c_30 c_31 ⊢) <;> omega)) hZ (hw _ (List.mem_of_getElem? (i := 64) rfl)) (hw _ (List.mem_of_getElem? (i := 2) rfl)) (by decide) (by decide)) q311a q311c (g := (mkF m 276 #[.val (.long qa), .second, .val (.long qb), .second, .val (.long qc), .second, .val (.int fl), .val (.int (3 : Int32)), .val (.int j185), .val (.int (1 : Int32)), .val (.int (1 : Int32)), .val (.ref b194), .val (.ref b208), .val (.ref b214), .val (.ref b220), .val (.int v291), .val (.int (1 : Int32)), .val (.int v309)] [(.int v309), (.ref b194)])) rfl (by rw [hml]; rfl) (Steps.refl _) (argsL := [(.int v309)]) (rest := []) (lenOf pd_6 rfl) rfl (by show 2 * 0 + _ ≤ _; exact Nat.le_of_eq rfl) (hb hby at_276) (fun _ _ => ⟨rfl, e308, (by decide : 6 + 0 ≤ _), (by decide : 27 + 0 ≤ _)⟩)
          dsimp only [Pt.U, Pt.locs, Pt.cells, Pt.slots] at X311 l311 y311 z311 st311 hQ311
          subst l311 y311 z311
          obtain ⟨o312, rfl, Nq311, hs311, P311_0⟩ := hQ311
          have N311 := Fr.app N308 Nq311
          refine Comes.go st311 ?_
          show Comes p e below _ (T311.setTop (mkF m 279 #[.val (.long qa), .second, .val (.long qb), .second, .val (.long qc), .second, .val (.int fl), .val (.int (3 : Int32)), .val (.int j185), .val (.int (1 : Int32)), .val (.int (1 : Int32)), .val (.ref b194), .val (.ref b208), .val (.ref b214), .val (.ref b220), .val (.int v291), .val (.int (1 : Int32)), .val (.int v309)] [(.ref o312)]))
          refine Comes.st (fun t k => XS.aload X311.here hx rfl (hb hby at_279) rfl rfl k) ?_
          show Comes p e below _ (T311.setTop (mkF m 281 #[.val (.long qa), .second, .val (.long qb), .second, .val (.long qc), .second, .val (.int fl), .val (.int (3 : Int32)), .val (.int j185), .val (.int (1 : Int32)), .val (.int (1 : Int32)), .val (.ref b194), .val (.ref b208), .val (.ref b214), .val (.ref b220), .val (.int v291), .val (.int (1 : Int32)), .val (.int v309)] [(.ref b214), (.ref o312)]))
          have hc281_313 : o312 = b214 := by apply own_ad_inj; have a_0 := c_mask fl (3 : Int32) 2 (by decide) (by decide); have a_1 := c_irem (fl &&& (3 : Int32)) (3 : Int32) 3 (by decide); have a_2 := c_iadd ((fl &&& (3 : Int32)) % (3 : Int32)) (1 : Int32); rw [hv_v2] at a_2; have a_3 := c_and fl (4 : Int32) (by decide); have a_4 := c_iadd j282 j289; rw [hv_v291] at a_4; have a_5 := c_iadd j300 j307; rw [hv_v309] at a_5; have a_6 := rng32 ((fl &&& (3 : Int32)) % (3 : Int32)); have a_7 := rng32 (3 : Int32); have a_8 := rng32 (fl &&& (3 : Int32)); have a_9 := rng32 (fl &&& (4 : Int32)); have a_10 := rng32 fl; have a_11 := rng32 j282; have a_12 := rng32 j289; have a_13 := rng32 j300; have a_14 := rng32 j307; have a_15 := rng32 v291; have a_16 := rng32 v309; have a_17 := own_key_ne j185 hc58_190; have a_18 := own_key_ne j185 hc72_192; have a_19 := own_key_ne j185 hc79_193; have c_0 := hc27_187; have c_1 := hc40_188; have c_2 := hc52_189; have c_3 := hc58_190; have c_4 := hc65_191; have c_5 := hc72_192; have c_6 := hc79_193; have c_7 := hc138_251; have c_8 := hc150_263; have c_9 := hc162_277; have c_10 := hc182_284; have c_11 := hc213_294; have c_12 := hc225_295; have c_13 := hc245_302; have c_14 := hc269_310; have c_15 := P199_13; have c_16 := P247_12; have c_17 := P256_13; have c_18 := P256_14; have c_19 := P267_14; have c_20 := P267_15; have c_21 := P267_16; have c_22 := P278_0; have c_23 := rel283; have c_24 := P285_0; have c_25 := rel290; have c_26 := P292_0; have c_27 := P296_0; have c_28 := rel301; have c_29 := P303_0; have c_30 := rel308; have c_31 := P311_0; (try simp only [Int32.lt_iff_toInt_lt, Int64.lt_iff_toInt_lt, ← Int32.toInt_inj, ← Int64.toInt_inj, Int32.reduceToInt, Int64.reduceToInt, eq_self, and_true, true_and, or_true, true_or, and_false, false_and, or_false, false_or, not_true_eq_false, not_false_eq_true] at a_0 a_1 a_2 a_3 a_4 a_5 a_6 a_7 a_8 a_9 a_10 a_11 a_12 a_13 a_14 a_15 a_16 a_17 a_18 a_19 c_0 c_1 c_2 c_3 c_4 c_5 c_6 c_7 c_8 c_9 c_10 c_11 c_12 c_13 c_14 c_15 c_16 c_17 c_18 c_19 c_20 c_21 c_22 c_23 c_24 c_25 c_26 c_27 c_28 c_29 c_30 c_31 ⊢) <;> omega
          refine Comes.st (fun t k => Jvm.RoadKit.acmp (g := (mkF m 281 #[.val (.long qa), .second, .val (.long qb), .second, .val (.long qc), .second, .val (.int fl), .val (.int (3 : Int32)), .val (.int j185), .val (.int (1 : Int32)), .val (.int (1 : Int32)), .val (.ref b194), .val (.ref b208), .val (.ref b214), .val (.ref b220), .val (.int v291), .val (.int (1 : Int32)), .val (.int v309)] [(.ref b214), (.ref o312)])) X311 hx rfl rfl rfl (pc0 := 281) (pc' := 284) (same := true) rfl (hb hby at_281) rfl (decide_eq_true (congrArg Value.ref hc281_313)) (by decide) (by decide) (XS.iconst X311.here hx rfl (hb hby at_284) (XS.goto X311.here hx rfl (pc0 := 285) (pc' := 289) rfl (hb hby at_285) (by decide) (by decide) (XS.istore X311.here hx rfl (hb hby at_289) rfl (l' := #[.val (.long qa), .second, .val (.long qb), .second, .val (.long qc), .second, .val (.int fl), .val (.int (3 : Int32)), .val (.int j185), .val (.int (1 : Int32)), .val (.int (1 : Int32)), .val (.ref b194), .val (.ref b208), .val (.ref b214), .val (.ref b220), .val (.int v291), .val (.int (1 : Int32)), .val (.int v309)]) rfl (XS.iload X311.here hx rfl (hb hby at_291) rfl k))))) ?_
          show Comes p e below _ (T311.setTop (mkF m 293 #[.val (.long qa), .second, .val (.long qb), .second, .val (.long qc), .second, .val (.int fl), .val (.int (3 : Int32)), .val (.int j185), .val (.int (1 : Int32)), .val (.int (1 : Int32)), .val (.ref b194), .val (.ref b208), .val (.ref b214), .val (.ref b220), .val (.int v291), .val (.int (1 : Int32)), .val (.int v309)] [(.int (1 : Int32))]))
          have hc293_314 : ¬ ((1 : Int32) = (0 : Int32)) := by decide
          refine Comes.st (fun t k => XS.ifNo X311.here hx rfl (hb hby at_293) rfl ((if0 _ _).trans (feq hc293_314).1) (XS.lloadN X311.here hx rfl (hb hby at_296) rfl (XS.lload X311.here hx rfl (hb hby at_297) rfl (XS.iload X311.here hx rfl (hb hby at_299) rfl k)))) ?_
          show Comes p e below _ (T311.setTop (mkF m 301 #[.val (.long qa), .second, .val (.long qb), .second, .val (.long qc), .second, .val (.int fl), .val (.int (3 : Int32)), .val (.int j185), .val (.int (1 : Int32)), .val (.int (1 : Int32)), .val (.ref b194), .val (.ref b208), .val (.ref b214), .val (.ref b220), .val (.int v291), .val (.int (1 : Int32)), .val (.int v309)] [(.int j185), (.long qc), (.long qa)]))
          obtain ⟨_, _, ⟨T315, L315, k315, n315⟩, -, X315, ⟨Lc315, hQ315, l315, y315, z315⟩, st315⟩ := Jvm.LawKit.callS X311 hx (y := (⟨"com/example/tenorbook/tenorbook/engine/LadderBestPinLaw", "better", "(JJZ)Z"⟩ : MethodName)) hown (mvT hZ (hw _ (List.mem_of_getElem? (i := 56) rfl))) (mvT hZ (hw _ (List.mem_of_getElem? (i := 57) rfl))) (mvT hZ (hw _ (List.mem_of_getElem? (i := 58) rfl))) (mvT hZ (hw _ (List.mem_of_getElem? (i := 59) rfl))) (by decide) (backOf (W := 0) (rm8 l Z a0 hw [] qa qc j185 T267.heap n0 (by omega)  ) hZ (hw _ (List.mem_of_getElem? (i := 59) rfl)) (hw _ (List.mem_of_getElem? (i := 58) rfl)) (by decide) (by decide)) (g := (mkF m 301 #[.val (.long qa), .second, .val (.long qb), .second, .val (.long qc), .second, .val (.int fl), .val (.int (3 : Int32)), .val (.int j185), .val (.int (1 : Int32)), .val (.int (1 : Int32)), .val (.ref b194), .val (.ref b208), .val (.ref b214), .val (.ref b220), .val (.int v291), .val (.int (1 : Int32)), .val (.int v309)] [(.int j185), (.long qc), (.long qa)])) rfl (by rw [hml]; rfl) (argsL := [(.long qa), (.long qc), (.int j185)]) (rest := []) (lenOf pd_7 rfl) rfl (by show 2 * 0 + _ ≤ _; exact Nat.le_of_eq rfl) (hb hby at_301) (fun _ _ => ⟨rfl, hs311, (by decide : 6 + 0 ≤ _), (by decide : 27 + 0 ≤ _)⟩)
          dsimp only [Pt.U, Pt.locs, Pt.cells, Pt.slots] at X315 l315 y315 z315 st315 hQ315
          subst l315 y315 z315
          obtain ⟨r316, rfl, Nq315, hs315, P315_0⟩ := hQ315
          have N315 := Fr.app N311 Nq315
          refine Comes.st st315 ?_
          have J317 : Comes p e below (fun S' => ∃ (T' : State), ∃ (L' : List Loc), ∃ (j319 : Int32), (S' = T'.setTop (mkF m 312 #[.val (.long qa), .second, .val (.long qb), .second, .val (.long qc), .second, .val (.int fl), .val (.int (3 : Int32)), .val (.int j185), .val (.int (1 : Int32)), .val (.int (1 : Int32)), .val (.ref b194), .val (.ref b208), .val (.ref b214), .val (.ref b220), .val (.int v291), .val (.int (1 : Int32)), .val (.int v309)] [(.int j319)])) ∧ (Stand p l e room_1 s m #[(.long qa), (.long qb), (.long qc), (.int fl)] below meth c T' L' 6 27) ∧ (T'.heap = T267.heap) ∧ (Fr n0 L') ∧ (((r316 = (0 : Int32)) ∧ j319 = (0 : Int32)) ∨ ((¬ (r316 = (0 : Int32))) ∧ j319 = (1 : Int32)))) (T315.setTop (mkF m 304 #[.val (.long qa), .second, .val (.long qb), .second, .val (.long qc), .second, .val (.int fl), .val (.int (3 : Int32)), .val (.int j185), .val (.int (1 : Int32)), .val (.int (1 : Int32)), .val (.ref b194), .val (.ref b208), .val (.ref b214), .val (.ref b220), .val (.int v291), .val (.int (1 : Int32)), .val (.int v309)] [(.int r316)])) := by
            show Comes p e below _ (T315.setTop (mkF m 304 #[.val (.long qa), .second, .val (.long qb), .second, .val (.long qc), .second, .val (.int fl), .val (.int (3 : Int32)), .val (.int j185), .val (.int (1 : Int32)), .val (.int (1 : Int32)), .val (.ref b194), .val (.ref b208), .val (.ref b214), .val (.ref b220), .val (.int v291), .val (.int (1 : Int32)), .val (.int v309)] [(.int r316)]))
            by_cases hc304_318 : r316 = (0 : Int32)
            · refine Comes.st (fun t k => XS.ifYes X315.here hx rfl (pc0 := 304) (pc' := 311) rfl (hb hby at_304) rfl ((if0 _ _).trans (teq hc304_318).1) (by decide) (by decide) (XS.iconst X315.here hx rfl (hb hby at_311) k)) ?_
              show Comes p e below _ (T315.setTop (mkF m 312 #[.val (.long qa), .second, .val (.long qb), .second, .val (.long qc), .second, .val (.int fl), .val (.int (3 : Int32)), .val (.int j185), .val (.int (1 : Int32)), .val (.int (1 : Int32)), .val (.ref b194), .val (.ref b208), .val (.ref b214), .val (.ref b220), .val (.int v291), .val (.int (1 : Int32)), .val (.int v309)] [(.int (0 : Int32))]))
              exact Comes.here ⟨_, _, (0 : Int32), rfl, X315, hs315, N315, (Or.inl ⟨hc304_318, rfl⟩)⟩
            · refine Comes.st (fun t k => XS.ifNo X315.here hx rfl (hb hby at_304) rfl ((if0 _ _).trans (feq hc304_318).1) (XS.iconst X315.here hx rfl (hb hby at_307) (XS.goto X315.here hx rfl (pc0 := 308) (pc' := 312) rfl (hb hby at_308) (by decide) (by decide) k))) ?_
              show Comes p e below _ (T315.setTop (mkF m 312 #[.val (.long qa), .second, .val (.long qb), .second, .val (.long qc), .second, .val (.int fl), .val (.int (3 : Int32)), .val (.int j185), .val (.int (1 : Int32)), .val (.int (1 : Int32)), .val (.ref b194), .val (.ref b208), .val (.ref b214), .val (.ref b220), .val (.int v291), .val (.int (1 : Int32)), .val (.int v309)] [(.int (1 : Int32))]))
              exact Comes.here ⟨_, _, (1 : Int32), rfl, X315, hs315, N315, (Or.inr ⟨hc304_318, rfl⟩)⟩
          obtain ⟨_, st320, T320, L320, j319, rfl, X320, e320, N320, rel320⟩ := J317
          refine Comes.go st320 ?_
          show Comes p e below _ (T320.setTop (mkF m 312 #[.val (.long qa), .second, .val (.long qb), .second, .val (.long qc), .second, .val (.int fl), .val (.int (3 : Int32)), .val (.int j185), .val (.int (1 : Int32)), .val (.int (1 : Int32)), .val (.ref b194), .val (.ref b208), .val (.ref b214), .val (.ref b220), .val (.int v291), .val (.int (1 : Int32)), .val (.int v309)] [(.int j319)]))
          refine Comes.st (fun t k => XS.lloadN X320.here hx rfl (hb hby at_312) rfl (XS.lload X320.here hx rfl (hb hby at_313) rfl (XS.iload X320.here hx rfl (hb hby at_315) rfl k))) ?_
          show Comes p e below _ (T320.setTop (mkF m 317 #[.val (.long qa), .second, .val (.long qb), .second, .val (.long qc), .second, .val (.int fl), .val (.int (3 : Int32)), .val (.int j185), .val (.int (1 : Int32)), .val (.int (1 : Int32)), .val (.ref b194), .val (.ref b208), .val (.ref b214), .val (.ref b220), .val (.int v291), .val (.int (1 : Int32)), .val (.int v309)] [(.int j185), (.long qc), (.long qb), (.int j319)]))
          obtain ⟨_, _, ⟨T321, L321, k321, n321⟩, -, X321, ⟨Lc321, hQ321, l321, y321, z321⟩, st321⟩ := Jvm.LawKit.callS X320 hx (y := (⟨"com/example/tenorbook/tenorbook/engine/LadderBestPinLaw", "better", "(JJZ)Z"⟩ : MethodName)) hown (mvT hZ (hw _ (List.mem_of_getElem? (i := 56) rfl))) (mvT hZ (hw _ (List.mem_of_getElem? (i := 57) rfl))) (mvT hZ (hw _ (List.mem_of_getElem? (i := 58) rfl))) (mvT hZ (hw _ (List.mem_of_getElem? (i := 59) rfl))) (by decide) (backOf (W := 1) (rm8 l Z a0 hw [] qb qc j185 T267.heap n0 (by omega)  ) hZ (hw _ (List.mem_of_getElem? (i := 59) rfl)) (hw _ (List.mem_of_getElem? (i := 58) rfl)) (by decide) (by decide)) (g := (mkF m 317 #[.val (.long qa), .second, .val (.long qb), .second, .val (.long qc), .second, .val (.int fl), .val (.int (3 : Int32)), .val (.int j185), .val (.int (1 : Int32)), .val (.int (1 : Int32)), .val (.ref b194), .val (.ref b208), .val (.ref b214), .val (.ref b220), .val (.int v291), .val (.int (1 : Int32)), .val (.int v309)] [(.int j185), (.long qc), (.long qb), (.int j319)])) rfl (by rw [hml]; rfl) (argsL := [(.long qb), (.long qc), (.int j185)]) (rest := [(.int j319)]) (lenOf pd_7 rfl) rfl (by show 2 * 0 + _ ≤ _; exact Nat.le_of_eq rfl) (hb hby at_317) (fun _ _ => ⟨rfl, e320, (by decide : 6 + 0 ≤ _), (by decide : 27 + 0 ≤ _)⟩)
          dsimp only [Pt.U, Pt.locs, Pt.cells, Pt.slots] at X321 l321 y321 z321 st321 hQ321
          subst l321 y321 z321
          obtain ⟨r322, rfl, Nq321, hs321, P321_0⟩ := hQ321
          have N321 := Fr.app N320 Nq321
          refine Comes.st st321 ?_
          have J323 : Comes p e below (fun S' => ∃ (T' : State), ∃ (L' : List Loc), ∃ (j325 : Int32), (S' = T'.setTop (mkF m 328 #[.val (.long qa), .second, .val (.long qb), .second, .val (.long qc), .second, .val (.int fl), .val (.int (3 : Int32)), .val (.int j185), .val (.int (1 : Int32)), .val (.int (1 : Int32)), .val (.ref b194), .val (.ref b208), .val (.ref b214), .val (.ref b220), .val (.int v291), .val (.int (1 : Int32)), .val (.int v309)] [(.int j325), (.int j319)])) ∧ (Stand p l e room_1 s m #[(.long qa), (.long qb), (.long qc), (.int fl)] below meth c T' L' 6 27) ∧ (T'.heap = T267.heap) ∧ (Fr n0 L') ∧ (((r322 = (0 : Int32)) ∧ j325 = (0 : Int32)) ∨ ((¬ (r322 = (0 : Int32))) ∧ j325 = (1 : Int32)))) (T321.setTop (mkF m 320 #[.val (.long qa), .second, .val (.long qb), .second, .val (.long qc), .second, .val (.int fl), .val (.int (3 : Int32)), .val (.int j185), .val (.int (1 : Int32)), .val (.int (1 : Int32)), .val (.ref b194), .val (.ref b208), .val (.ref b214), .val (.ref b220), .val (.int v291), .val (.int (1 : Int32)), .val (.int v309)] [(.int r322), (.int j319)])) := by
            show Comes p e below _ (T321.setTop (mkF m 320 #[.val (.long qa), .second, .val (.long qb), .second, .val (.long qc), .second, .val (.int fl), .val (.int (3 : Int32)), .val (.int j185), .val (.int (1 : Int32)), .val (.int (1 : Int32)), .val (.ref b194), .val (.ref b208), .val (.ref b214), .val (.ref b220), .val (.int v291), .val (.int (1 : Int32)), .val (.int v309)] [(.int r322), (.int j319)]))
            by_cases hc320_324 : r322 = (0 : Int32)
            · refine Comes.st (fun t k => XS.ifYes X321.here hx rfl (pc0 := 320) (pc' := 327) rfl (hb hby at_320) rfl ((if0 _ _).trans (teq hc320_324).1) (by decide) (by decide) (XS.iconst X321.here hx rfl (hb hby at_327) k)) ?_
              show Comes p e below _ (T321.setTop (mkF m 328 #[.val (.long qa), .second, .val (.long qb), .second, .val (.long qc), .second, .val (.int fl), .val (.int (3 : Int32)), .val (.int j185), .val (.int (1 : Int32)), .val (.int (1 : Int32)), .val (.ref b194), .val (.ref b208), .val (.ref b214), .val (.ref b220), .val (.int v291), .val (.int (1 : Int32)), .val (.int v309)] [(.int (0 : Int32)), (.int j319)]))
              exact Comes.here ⟨_, _, (0 : Int32), rfl, X321, hs321, N321, (Or.inl ⟨hc320_324, rfl⟩)⟩
            · refine Comes.st (fun t k => XS.ifNo X321.here hx rfl (hb hby at_320) rfl ((if0 _ _).trans (feq hc320_324).1) (XS.iconst X321.here hx rfl (hb hby at_323) (XS.goto X321.here hx rfl (pc0 := 324) (pc' := 328) rfl (hb hby at_324) (by decide) (by decide) k))) ?_
              show Comes p e below _ (T321.setTop (mkF m 328 #[.val (.long qa), .second, .val (.long qb), .second, .val (.long qc), .second, .val (.int fl), .val (.int (3 : Int32)), .val (.int j185), .val (.int (1 : Int32)), .val (.int (1 : Int32)), .val (.ref b194), .val (.ref b208), .val (.ref b214), .val (.ref b220), .val (.int v291), .val (.int (1 : Int32)), .val (.int v309)] [(.int (1 : Int32)), (.int j319)]))
              exact Comes.here ⟨_, _, (1 : Int32), rfl, X321, hs321, N321, (Or.inr ⟨hc320_324, rfl⟩)⟩
          obtain ⟨_, st326, T326, L326, j325, rfl, X326, e326, N326, rel326⟩ := J323
          refine Comes.go st326 ?_
          show Comes p e below _ (T326.setTop (mkF m 328 #[.val (.long qa), .second, .val (.long qb), .second, .val (.long qc), .second, .val (.int fl), .val (.int (3 : Int32)), .val (.int j185), .val (.int (1 : Int32)), .val (.int (1 : Int32)), .val (.ref b194), .val (.ref b208), .val (.ref b214), .val (.ref b220), .val (.int v291), .val (.int (1 : Int32)), .val (.int v309)] [(.int j325), (.int j319)]))
          refine Comes.st (fun t k => XS.iadd X326.here hx rfl (hb hby at_328) rfl k) ?_
          show Comes p e below _ (T326.setTop (mkF m 329 #[.val (.long qa), .second, .val (.long qb), .second, .val (.long qc), .second, .val (.int fl), .val (.int (3 : Int32)), .val (.int j185), .val (.int (1 : Int32)), .val (.int (1 : Int32)), .val (.ref b194), .val (.ref b208), .val (.ref b214), .val (.ref b220), .val (.int v291), .val (.int (1 : Int32)), .val (.int v309)] [(.int (j319 + j325))]))
          generalize hv_v327 : (j319 + j325) = v327
          show Comes p e below _ (T326.setTop (mkF m 329 #[.val (.long qa), .second, .val (.long qb), .second, .val (.long qc), .second, .val (.int fl), .val (.int (3 : Int32)), .val (.int j185), .val (.int (1 : Int32)), .val (.int (1 : Int32)), .val (.ref b194), .val (.ref b208), .val (.ref b214), .val (.ref b220), .val (.int v291), .val (.int (1 : Int32)), .val (.int v309)] [(.int v327)]))
          refine Comes.st (fun t k => XS.istore X326.here hx rfl (hb hby at_329) rfl (l' := #[.val (.long qa), .second, .val (.long qb), .second, .val (.long qc), .second, .val (.int fl), .val (.int (3 : Int32)), .val (.int j185), .val (.int (1 : Int32)), .val (.int (1 : Int32)), .val (.ref b194), .val (.ref b208), .val (.ref b214), .val (.ref b220), .val (.int v291), .val (.int (1 : Int32)), .val (.int v327)]) rfl (XS.iload X326.here hx rfl (hb hby at_331) rfl k)) ?_
          show Comes p e below _ (T326.setTop (mkF m 333 #[.val (.long qa), .second, .val (.long qb), .second, .val (.long qc), .second, .val (.int fl), .val (.int (3 : Int32)), .val (.int j185), .val (.int (1 : Int32)), .val (.int (1 : Int32)), .val (.ref b194), .val (.ref b208), .val (.ref b214), .val (.ref b220), .val (.int v291), .val (.int (1 : Int32)), .val (.int v327)] [(.int (1 : Int32))]))
          have hc333_328 : ¬ ((1 : Int32) = (0 : Int32)) := by decide
          refine Comes.st (fun t k => XS.ifNo X326.here hx rfl (hb hby at_333) rfl ((if0 _ _).trans (feq hc333_328).1) (XS.aload X326.here hx rfl (hb hby at_336) rfl rfl (XS.iload X326.here hx rfl (hb hby at_338) rfl k))) ?_
          show Comes p e below _ (T326.setTop (mkF m 340 #[.val (.long qa), .second, .val (.long qb), .second, .val (.long qc), .second, .val (.int fl), .val (.int (3 : Int32)), .val (.int j185), .val (.int (1 : Int32)), .val (.int (1 : Int32)), .val (.ref b194), .val (.ref b208), .val (.ref b214), .val (.ref b220), .val (.int v291), .val (.int (1 : Int32)), .val (.int v327)] [(.int v327), (.ref b194)]))
          obtain ⟨cq329, kq329, q329a, q329b, q329c⟩ := isOf hZ e326 P267_0
          obtain ⟨_, _, ⟨T329, L329, k329, n329⟩, -, X329, ⟨Lc329, hQ329, l329, y329, z329⟩, st329⟩ := X326.virtualBack hx (y := (⟨"com/example/tenorbook/tenorbook/engine/Ladder", "best", "(I)Lcom/example/tenorbook/tenorbook/engine/Level;"⟩ : MethodName)) (z := (⟨"com/example/tenorbook/tenorbook/engine/Ladder", "best", "(I)Lcom/example/tenorbook/tenorbook/engine/Level;"⟩ : MethodName)) hown (mvT hZ (hw _ (List.mem_of_getElem? (i := 60) rfl))) (mvT hZ (hw _ (List.mem_of_getElem? (i := 61) rfl))) (notFace_of_selects (args := #[]) (mvT hZ (hw _ (List.mem_of_getElem? (i := 63) rfl)))) (mvT hZ (hw _ (List.mem_of_getElem? (i := 63) rfl))) (mvT hZ (hw _ (List.mem_of_getElem? (i := 62) rfl))) (by decide) (backOf (W := 0) (best3 l Z a0 hw [] b194 v327 o201 r203 o271 o272 o273 T267.heap n0 (by omega)  P267_2 P267_4 P267_6 (by have a_0 := c_mask fl (3 : Int32) 2 (by decide) (by decide); have a_1 := c_irem (fl &&& (3 : Int32)) (3 : Int32) 3 (by decide); have a_2 := c_iadd ((fl &&& (3 : Int32)) % (3 : Int32)) (1 : Int32); rw [hv_v2] at a_2; have a_3 := c_and fl (4 : Int32) (by decide); have a_4 := c_iadd j282 j289; rw [hv_v291] at a_4; have a_5 := c_iadd j300 j307; rw [hv_v309] at a_5; have a_6 := c_iadd j319 j325; rw [hv_v327] at a_6; have a_7 := rng32 ((fl &&& (3 : Int32)) % (3 : Int32)); have a_8 := rng32 (3 : Int32); have a_9 := rng32 (fl &&& (3 : Int32)); have a_10 := rng32 (fl &&& (4 : Int32)); have a_11 := rng32 fl; have a_12 := rng32 j282; have a_13 := rng32 j289; have a_14 := rng32 j300; have a_15 := rng32 j307; have a_16 := rng32 j319; have a_17 := rng32 j325; have a_18 := rng32 v291; have a_19 := rng32 v309; have a_20 := rng32 v327; have c_0 := hc27_187; have c_1 := hc40_188; have c_2 := hc52_189; have c_3 := hc58_190; have c_4 := hc65_191; have c_5 := hc72_192; have c_6 := hc79_193; have c_7 := hc138_251; have c_8 := hc150_263; have c_9 := hc162_277; have c_10 := hc182_284; have c_11 := hc213_294; have c_12 := hc225_295; have c_13 := hc245_302; have c_14 := hc269_310; have c_15 := hc281_313; have c_16 := hc293_314; have c_17 := hc333_328; have c_18 := rel186; have c_19 := P199_13; have c_20 := P247_12; have c_21 := P256_13; have c_22 := P256_14; have c_23 := P267_14; have c_24 := P267_15; have c_25 := P267_16; have c_26 := P278_0; have c_27 := rel283; have c_28 := P285_0; have c_29 := rel290; have c_30 := P292_0; have c_31 := P296_0; have c_32 := rel301; have c_33 := P303_0; have c_34 := rel308; have c_35 := P311_0; have c_36 := P315_0; have c_37 := rel320; have c_38 := P321_0; have c_39 := rel326; (try simp only [Int32.lt_iff_toInt_lt, Int64.lt_iff_toInt_lt, ← Int32.toInt_inj, ← Int64.toInt_inj, Int32.reduceToInt, Int64.reduceToInt, eq_self, and_true, true_and, or_true, true_or, and_false, false_and, or_false, false_or, not_true_eq_false, not_false_eq_true] at a_0 a_1 a_2 a_3 a_4 a_5 a_6 a_7 a_8 a_9 a_10 a_11 a_12 a_13 a_14 a_15 a_16 a_17 a_18 a_19 a_20 c_0 c_1 c_2 c_3 c_4 c_5 c_6 c_7 c_8 c_9 c_10 c_11 c_12 c_13 c_14 c_15 c_16 c_17 c_18 c_19 c_20 c_21 c_22 c_23 c_24 c_25 c_26 c_27 c_28 c_29 c_30 c_31 c_32 c_33 c_34 c_35 c_36 c_37 c_38 c_39 ⊢) <;> omega)) hZ (hw _ (List.mem_of_getElem? (i := 64) rfl)) (hw _ (List.mem_of_getElem? (i := 2) rfl)) (by decide) (by decide)) q329a q329c (g := (mkF m 340 #[.val (.long qa), .second, .val (.long qb), .second, .val (.long qc), .second, .val (.int fl), .val (.int (3 : Int32)), .val (.int j185), .val (.int (1 : Int32)), .val (.int (1 : Int32)), .val (.ref b194), .val (.ref b208), .val (.ref b214), .val (.ref b220), .val (.int v291), .val (.int (1 : Int32)), .val (.int v327)] [(.int v327), (.ref b194)])) rfl (by rw [hml]; rfl) (Steps.refl _) (argsL := [(.int v327)]) (rest := []) (lenOf pd_6 rfl) rfl (by show 2 * 0 + _ ≤ _; exact Nat.le_of_eq rfl) (hb hby at_340) (fun _ _ => ⟨rfl, e326, (by decide : 6 + 0 ≤ _), (by decide : 27 + 0 ≤ _)⟩)
          dsimp only [Pt.U, Pt.locs, Pt.cells, Pt.slots] at X329 l329 y329 z329 st329 hQ329
          subst l329 y329 z329
          obtain ⟨o330, rfl, Nq329, hs329, P329_0⟩ := hQ329
          have N329 := Fr.app N326 Nq329
          refine Comes.go st329 ?_
          show Comes p e below _ (T329.setTop (mkF m 343 #[.val (.long qa), .second, .val (.long qb), .second, .val (.long qc), .second, .val (.int fl), .val (.int (3 : Int32)), .val (.int j185), .val (.int (1 : Int32)), .val (.int (1 : Int32)), .val (.ref b194), .val (.ref b208), .val (.ref b214), .val (.ref b220), .val (.int v291), .val (.int (1 : Int32)), .val (.int v327)] [(.ref o330)]))
          refine Comes.st (fun t k => XS.aload X329.here hx rfl (hb hby at_343) rfl rfl k) ?_
          show Comes p e below _ (T329.setTop (mkF m 345 #[.val (.long qa), .second, .val (.long qb), .second, .val (.long qc), .second, .val (.int fl), .val (.int (3 : Int32)), .val (.int j185), .val (.int (1 : Int32)), .val (.int (1 : Int32)), .val (.ref b194), .val (.ref b208), .val (.ref b214), .val (.ref b220), .val (.int v291), .val (.int (1 : Int32)), .val (.int v327)] [(.ref b220), (.ref o330)]))
          have hc345_331 : o330 = b220 := by apply own_ad_inj; have a_0 := c_mask fl (3 : Int32) 2 (by decide) (by decide); have a_1 := c_irem (fl &&& (3 : Int32)) (3 : Int32) 3 (by decide); have a_2 := c_iadd ((fl &&& (3 : Int32)) % (3 : Int32)) (1 : Int32); rw [hv_v2] at a_2; have a_3 := c_and fl (4 : Int32) (by decide); have a_4 := c_iadd j282 j289; rw [hv_v291] at a_4; have a_5 := c_iadd j300 j307; rw [hv_v309] at a_5; have a_6 := c_iadd j319 j325; rw [hv_v327] at a_6; have a_7 := rng32 ((fl &&& (3 : Int32)) % (3 : Int32)); have a_8 := rng32 (3 : Int32); have a_9 := rng32 (fl &&& (3 : Int32)); have a_10 := rng32 (fl &&& (4 : Int32)); have a_11 := rng32 fl; have a_12 := rng32 j282; have a_13 := rng32 j289; have a_14 := rng32 j300; have a_15 := rng32 j307; have a_16 := rng32 j319; have a_17 := rng32 j325; have a_18 := rng32 v291; have a_19 := rng32 v309; have a_20 := rng32 v327; have a_21 := own_key_ne j185 hc58_190; have a_22 := own_key_ne j185 hc72_192; have a_23 := own_key_ne j185 hc79_193; have c_0 := hc27_187; have c_1 := hc40_188; have c_2 := hc52_189; have c_3 := hc58_190; have c_4 := hc65_191; have c_5 := hc72_192; have c_6 := hc79_193; have c_7 := hc138_251; have c_8 := hc150_263; have c_9 := hc162_277; have c_10 := hc182_284; have c_11 := hc213_294; have c_12 := hc225_295; have c_13 := hc245_302; have c_14 := hc269_310; have c_15 := hc281_313; have c_16 := hc293_314; have c_17 := hc333_328; have c_18 := P199_13; have c_19 := P247_12; have c_20 := P256_13; have c_21 := P256_14; have c_22 := P267_14; have c_23 := P267_15; have c_24 := P267_16; have c_25 := P278_0; have c_26 := rel283; have c_27 := P285_0; have c_28 := rel290; have c_29 := P292_0; have c_30 := P296_0; have c_31 := rel301; have c_32 := P303_0; have c_33 := rel308; have c_34 := P311_0; have c_35 := P315_0; have c_36 := rel320; have c_37 := P321_0; have c_38 := rel326; have c_39 := P329_0; (try simp only [Int32.lt_iff_toInt_lt, Int64.lt_iff_toInt_lt, ← Int32.toInt_inj, ← Int64.toInt_inj, Int32.reduceToInt, Int64.reduceToInt, eq_self, and_true, true_and, or_true, true_or, and_false, false_and, or_false, false_or, not_true_eq_false, not_false_eq_true] at a_0 a_1 a_2 a_3 a_4 a_5 a_6 a_7 a_8 a_9 a_10 a_11 a_12 a_13 a_14 a_15 a_16 a_17 a_18 a_19 a_20 a_21 a_22 a_23 c_0 c_1 c_2 c_3 c_4 c_5 c_6 c_7 c_8 c_9 c_10 c_11 c_12 c_13 c_14 c_15 c_16 c_17 c_18 c_19 c_20 c_21 c_22 c_23 c_24 c_25 c_26 c_27 c_28 c_29 c_30 c_31 c_32 c_33 c_34 c_35 c_36 c_37 c_38 c_39 ⊢) <;> omega
          refine Comes.st (fun t k => Jvm.RoadKit.acmp (g := (mkF m 345 #[.val (.long qa), .second, .val (.long qb), .second, .val (.long qc), .second, .val (.int fl), .val (.int (3 : Int32)), .val (.int j185), .val (.int (1 : Int32)), .val (.int (1 : Int32)), .val (.ref b194), .val (.ref b208), .val (.ref b214), .val (.ref b220), .val (.int v291), .val (.int (1 : Int32)), .val (.int v327)] [(.ref b220), (.ref o330)])) X329 hx rfl rfl rfl (pc0 := 345) (pc' := 348) (same := true) rfl (hb hby at_345) rfl (decide_eq_true (congrArg Value.ref hc345_331)) (by decide) (by decide) (XS.iconst X329.here hx rfl (hb hby at_348) (XS.goto X329.here hx rfl (pc0 := 349) (pc' := 353) rfl (hb hby at_349) (by decide) (by decide) (XS.istore X329.here hx rfl (hb hby at_353) rfl (l' := #[.val (.long qa), .second, .val (.long qb), .second, .val (.long qc), .second, .val (.int fl), .val (.int (3 : Int32)), .val (.int j185), .val (.int (1 : Int32)), .val (.int (1 : Int32)), .val (.ref b194), .val (.ref b208), .val (.ref b214), .val (.ref b220), .val (.int v291), .val (.int (1 : Int32)), .val (.int v327)]) rfl (XS.iload X329.here hx rfl (hb hby at_355) rfl k))))) ?_
          show Comes p e below _ (T329.setTop (mkF m 357 #[.val (.long qa), .second, .val (.long qb), .second, .val (.long qc), .second, .val (.int fl), .val (.int (3 : Int32)), .val (.int j185), .val (.int (1 : Int32)), .val (.int (1 : Int32)), .val (.ref b194), .val (.ref b208), .val (.ref b214), .val (.ref b220), .val (.int v291), .val (.int (1 : Int32)), .val (.int v327)] [(.int (1 : Int32))]))
          exact Comes.retN X329 hx (t := .boolean) Bd.returns (by simp) hlk (hb hby at_357) hs329 ⟨rfl, N329⟩ (by decide) (by decide)
set_option maxRecDepth 65536 in
set_option maxHeartbeats 40000000 in
theorem comes_1 {Post : Tables → Env → Array Value → State → Outcome → State → Prop} (hpost : ∀ tb e args s v u, (limb_1_1.after args s (.returned v) u = true ∧ limb_1_2.after args s (.returned v) u = true ∧ True) → FrameEnd s (.returned v) u (Jvm.fieldLocs frame_1_writes args s ++ Jvm.arrayLocs frame_1_arrays args s ++ Jvm.staticLocs frame_1_statics s) 24 128 → Post tb e args s (.returned v) u) :
    ArmFor flags0 classFile x code maxLocals ret World_1 tables_1 room_1 Calls_1 rest_1 Pre_1 Post := by
  intro l hfl _ _ p e ha hc hk s m args below hf hA hF happ hP
  obtain ⟨hcalls, hrest, hpre⟩ := hP
  obtain ⟨-, -, -, hnamed, -, -, -, hat⟩ := (Spec.applies_iff hf).mp happ
  obtain ⟨hg, hn⟩ := and_e (Cond.before_iff.mp (show (Jvm.Cond.and given_1 narrow_1).before args s = true from hpre))
  obtain ⟨c0, d0⟩ := and_e hg
  obtain ⟨c1, d1⟩ := and_e d0
  obtain ⟨c2, d2⟩ := and_e d1
  obtain ⟨c3, d3⟩ := and_e d2
  obtain ⟨w0, w1, w2, w3, rfl⟩ : ∃ w0 w1 w2 w3 : Value, args = #[w0, w1, w2, w3] := by
    have hs : args.size = 4 := by simpa [Cond.value, given_1] using c0
    obtain ⟨L⟩ := args
    match L, hs with
    | [w0, w1, w2, w3], _ => exact ⟨w0, w1, w2, w3, rfl⟩
  have hw := fun d (hd : d ∈ tables_1) => atoms_spec (ws := Jvm.Cond.code x code maxLocals ret :: tables_1) hat d (List.mem_cons_of_mem _ hd)
  have hfit : Fit s := fun {y c} hc i hi => by
    obtain ⟨ha, rfl⟩ := Array.getElem?_eq_some_iff.mp hc
    have q := List.all_eq_true.mp ((Array.all_eq_true_iff_forall_mem.mp hF) _ (Array.getElem_mem ha)) i (List.mem_range.mpr hi)
    simpa [Array.getElem?_eq_getElem hi] using q
  obtain ⟨i0, ei0⟩ := isL_v c1
  obtain rfl : w0 = (.long i0) := Option.some.inj ei0
  obtain ⟨i1, ei1⟩ := isL_v c2
  obtain rfl : w1 = (.long i1) := Option.some.inj ei1
  obtain ⟨i2, ei2⟩ := isL_v c3
  obtain rfl : w2 = (.long i2) := Option.some.inj ei2
  obtain ⟨i3, ei3⟩ := is_v d3
  obtain rfl : w3 = (.int i3) := Option.some.inj ei3
  obtain ⟨n, o, h1, h2, h3, _, L, rfl, ⟨rfl, N⟩, hq⟩ := rm0 l s _ hw tables_1 i0 i1 i2 i3 s.heap s.heap.size (Nat.le_refl _)  p e ha hc hk s m _ below hf ((Spec.applies_iff_loose hf).mp happ).1 ⟨rfl, State.Warmed39.refl s, rfl⟩ trivial
  refine ⟨n, _, h1, h2, h3, hpost _ _ _ _ _ _ ⟨Cond.after_iff.mpr rfl, Cond.after_iff.mpr (eq_i res_at (Term.int_eval (1)) rfl), trivial⟩ ⟨hq.1, hq.2.1, (hq.2.2.sift fun y hy => Or.inr (N y hy)).mono (by decide) (by decide)⟩⟩
theorem main_1_1 : Claimed_1_1 := comes_1 fun _ _ _ _ _ _ h hF => ⟨h.1, hF⟩
theorem main_1_2 : Claimed_1_2 := comes_1 fun _ _ _ _ _ _ h hF => ⟨h.2.1, hF⟩
end Jvm.Pilot.@@N@@
namespace Jvm.Pilot.@@N@@
open Jvm Jvm.ClassFile Sem Op Lib Jvm.Free Jvm.Stand Jvm.Pilot.@@N@@.Jvm.D
/-! MADE BY PROGRAM (witnessworld.py) out of the Statement's table words and the real class files: 14 classes; the members and pool entries that the words name. The judged class is class 1, her method 2. -/
namespace start1
open Jvm.ClassFile
def u (s : String) : CpInfo := .utf8 (stringToUtf16 s)
/-- a pool by its gaps: so many unusable entries, then the entry; so many at the end -/
def gap : Nat → List CpInfo → List CpInfo
  | 0, r => r
  | n + 1, r => .unusable :: gap n r
def poolList (es : List (Nat × CpInfo)) (last : Nat) : List CpInfo := es.foldr (fun e r => gap e.1 (e.2 :: r)) (gap last [])
def pool (es : List (Nat × CpInfo)) (last : Nat) : Array CpInfo := ⟨poolList es last⟩
def fileOf (pool : Array CpInfo) (this : Nat) (attrs : Array Attribute := #[]) (ms : Array MethodInfo := #[]) (fl : Nat := 33) (sup : Nat := 0) (ifs : Array Nat := #[]) (fds : Array FieldInfo := #[]) : ClassFile where
  minorVersion := 0
  majorVersion := 65
  constantPool := pool
  accessFlags := fl
  thisClass := this
  superClass := sup
  interfaces := ifs
  fields := fds
  methods := ms
  attributes := attrs
def plain (name : String) (sup : Option ClassId) : Class where
  name := name
  kind := .ordinary
  loader := none
  accessFlags := 33
  super := sup
  interfaces := #[]
  cf := none
  fields := #[]
  methods := #[]
  instanceTypes := #[]
  staticTypes := #[]
  resolved := #[]
  callSites := []
  init := .initialized
  statics := none
  mirror := none

def pool0 : Array CpInfo := pool [(5, u "<init>"), (0, u "()V"), (1, .class_ 10), (1, u "java/lang/Object")] 113

def k0c0 : Code := { maxStack := 0, maxLocals := 1, code := object_method_1_code, exceptionTable := #[], attributes := #[] }
def k0m0 : Method := { name := "<init>", desc := "()V", sig := { parameters := [], returnType := none }, accessFlags := 1, code := some k0c0 }
/-- java/lang/Object -/
def k0 : Class := { plain "java/lang/Object" none with
  accessFlags := 33
  interfaces := #[]
  cf := some (fileOf pool0 8 #[] #[{ accessFlags := 1, nameIndex := 5, descriptorIndex := 6, attributes := #[] }] 33 0 #[] #[])
  fields := #[]
  methods := #[k0m0]
  instanceTypes := #[]
  staticTypes := #[]
  resolved := Array.replicate 124 none
  statics := none }

def pool1 : Array CpInfo := pool [(2, .class_ 4), (1, u "java/lang/Object"), (0, u "<init>"), (0, u "()V"), (0, .class_ 8), (0, u "com/example/tenorbook/tenorbook/engine/Ladder"), (0, .methodref 7 10), (0, .nameAndType 5 11), (0, u "(Z)V"), (0, .class_ 13), (0, u "com/example/tenorbook/tenorbook/engine/Level"), (0, .methodref 12 15), (0, .nameAndType 5 16), (0, u "(JLjava/math/BigDecimal;)V"), (0, .methodref 7 18), (0, .nameAndType 19 20), (0, u "add"), (0, u "(Lcom/example/tenorbook/tenorbook/engine/Level;)V"), (0, .methodref 22 23), (0, .class_ 24), (0, .nameAndType 25 26), (0, u "com/example/tenorbook/tenorbook/engine/LadderBestPinLaw"), (0, u "better"), (0, u "(JJZ)Z"), (0, .methodref 7 28), (0, .nameAndType 29 30), (0, u "best"), (0, u "(I)Lcom/example/tenorbook/tenorbook/engine/Level;"), (3, u "law"), (0, u "(JJJI)Z")] 2

def k1m0 : Method := { name := "<init>", desc := "()V", sig := { parameters := [], returnType := none }, accessFlags := 1, code := none }
def k1c1 : Code := { maxStack := 4, maxLocals := 5, code := method_2_code, exceptionTable := #[], attributes := #[] }
def k1m1 : Method := { name := "better", desc := "(JJZ)Z", sig := { parameters := [.long, .long, .boolean], returnType := some .boolean }, accessFlags := 10, code := some k1c1 }
def k1c2 : Code := { maxStack := 6, maxLocals := 18, code := code, exceptionTable := #[], attributes := #[] }
def k1m2 : Method := { name := "law", desc := "(JJJI)Z", sig := { parameters := [.long, .long, .long, .int], returnType := some .boolean }, accessFlags := 9, code := some k1c2 }
/-- com/example/tenorbook/tenorbook/engine/LadderBestPinLaw -/
def k1 : Class := { plain "com/example/tenorbook/tenorbook/engine/LadderBestPinLaw" (some 0) with
  accessFlags := 49
  interfaces := #[]
  cf := some (fileOf pool1 22 #[] #[{ accessFlags := 1, nameIndex := 5, descriptorIndex := 6, attributes := #[] }, { accessFlags := 10, nameIndex := 25, descriptorIndex := 26, attributes := #[] }, { accessFlags := 9, nameIndex := 34, descriptorIndex := 35, attributes := #[] }] 49 2 #[] #[])
  fields := #[]
  methods := #[k1m0, k1m1, k1m2]
  instanceTypes := #[]
  staticTypes := #[]
  resolved := Array.replicate 38 none
  statics := none }

def pool2 : Array CpInfo := pool [(1, .methodref 2 3), (0, .class_ 4), (0, .nameAndType 5 6), (0, u "java/lang/Object"), (0, u "<init>"), (0, u "()V"), (0, .class_ 8), (0, u "com/example/tenorbook/tenorbook/engine/Ladder"), (0, .fieldref 7 10), (0, .nameAndType 11 12), (0, u "ticks"), (0, u "[J"), (0, .class_ 14), (0, u "com/example/tenorbook/tenorbook/engine/Level"), (0, .fieldref 7 16), (0, .nameAndType 17 18), (0, u "levels"), (0, u "[Lcom/example/tenorbook/tenorbook/engine/Level;"), (0, .fieldref 7 20), (0, .nameAndType 21 22), (0, u "lowestBest"), (0, u "Z"), (0, .fieldref 7 24), (0, .nameAndType 25 26), (0, u "count"), (0, u "I"), (4, .methodref 7 32), (0, .nameAndType 33 34), (0, u "find"), (0, u "(J)I"), (0, .methodref 13 36), (0, .nameAndType 11 37), (0, u "()J"), (10, .methodref 49 50), (0, .class_ 51), (0, .nameAndType 52 53), (0, u "java/lang/System"), (0, u "arraycopy"), (0, u "(Ljava/lang/Object;ILjava/lang/Object;II)V"), (0, .fieldref 13 55), (0, .nameAndType 56 57), (0, u "ladder"), (0, u "Lcom/example/tenorbook/tenorbook/engine/Ladder;"), (0, .methodref 7 59), (0, .nameAndType 60 61), (0, u "worse"), (0, u "(JJ)Z"), (0, u "FIRST_CAPACITY"), (2, u "(Z)V"), (4, u "best"), (0, u "(I)Lcom/example/tenorbook/tenorbook/engine/Level;"), (3, u "add"), (0, u "(Lcom/example/tenorbook/tenorbook/engine/Level;)V")] 3

def k2c0 : Code := { maxStack := 2, maxLocals := 2, code := prog_9_method_1_code, exceptionTable := #[], attributes := #[] }
def k2m0 : Method := { name := "<init>", desc := "(Z)V", sig := { parameters := [.boolean], returnType := none }, accessFlags := 0, code := some k2c0 }
def k2c1 : Code := { maxStack := 3, maxLocals := 2, code := prog_9_method_4_code, exceptionTable := #[], attributes := #[] }
def k2m1 : Method := { name := "best", desc := "(I)Lcom/example/tenorbook/tenorbook/engine/Level;", sig := { parameters := [.int], returnType := some (.object "com/example/tenorbook/tenorbook/engine/Level") }, accessFlags := 0, code := some k2c1 }
def k2c2 : Code := { maxStack := 6, maxLocals := 3, code := prog_9_method_6_code, exceptionTable := #[], attributes := #[] }
def k2m2 : Method := { name := "add", desc := "(Lcom/example/tenorbook/tenorbook/engine/Level;)V", sig := { parameters := [(.object "com/example/tenorbook/tenorbook/engine/Level")], returnType := none }, accessFlags := 0, code := some k2c2 }
def k2c3 : Code := { maxStack := 5, maxLocals := 8, code := prog_9_method_8_code, exceptionTable := #[], attributes := #[] }
def k2m3 : Method := { name := "find", desc := "(J)I", sig := { parameters := [.long], returnType := some .int }, accessFlags := 2, code := some k2c3 }
def k2c4 : Code := { maxStack := 4, maxLocals := 5, code := prog_9_method_9_code, exceptionTable := #[], attributes := #[] }
def k2m4 : Method := { name := "worse", desc := "(JJ)Z", sig := { parameters := [.long, .long], returnType := some .boolean }, accessFlags := 2, code := some k2c4 }
/-- com/example/tenorbook/tenorbook/engine/Ladder -/
def k2 : Class := { plain "com/example/tenorbook/tenorbook/engine/Ladder" (some 0) with
  accessFlags := 48
  interfaces := #[]
  cf := some (fileOf pool2 7 #[] #[{ accessFlags := 0, nameIndex := 5, descriptorIndex := 65, attributes := #[] }, { accessFlags := 0, nameIndex := 70, descriptorIndex := 71, attributes := #[] }, { accessFlags := 0, nameIndex := 75, descriptorIndex := 76, attributes := #[] }, { accessFlags := 2, nameIndex := 33, descriptorIndex := 34, attributes := #[] }, { accessFlags := 2, nameIndex := 60, descriptorIndex := 61, attributes := #[] }] 48 2 #[] #[{ accessFlags := 26, nameIndex := 62, descriptorIndex := 26, attributes := #[] }, { accessFlags := 18, nameIndex := 21, descriptorIndex := 22, attributes := #[] }, { accessFlags := 2, nameIndex := 11, descriptorIndex := 12, attributes := #[] }, { accessFlags := 2, nameIndex := 17, descriptorIndex := 18, attributes := #[] }, { accessFlags := 2, nameIndex := 25, descriptorIndex := 26, attributes := #[] }])
  fields := #[{ name := "FIRST_CAPACITY", type := .int, accessFlags := 26, slot := 0, constantValue := 0 }, { name := "lowestBest", type := .boolean, accessFlags := 18, slot := 0, constantValue := 0 }, { name := "ticks", type := (.array .long), accessFlags := 2, slot := 1, constantValue := 0 }, { name := "levels", type := (.array (.object "com/example/tenorbook/tenorbook/engine/Level")), accessFlags := 2, slot := 2, constantValue := 0 }, { name := "count", type := .int, accessFlags := 2, slot := 3, constantValue := 0 }]
  methods := #[k2m0, k2m1, k2m2, k2m3, k2m4]
  instanceTypes := #[.boolean, (.array .long), (.array (.object "com/example/tenorbook/tenorbook/engine/Level")), .int]
  staticTypes := #[.int]
  resolved := Array.replicate 80 none
  statics := none }

def pool3 : Array CpInfo := pool [(1, .methodref 2 3), (0, .class_ 4), (0, .nameAndType 5 6), (0, u "java/lang/Object"), (0, u "<init>"), (0, u "()V"), (0, .fieldref 8 9), (0, .class_ 10), (0, .nameAndType 11 12), (0, u "com/example/tenorbook/tenorbook/engine/Level"), (0, u "ticks"), (0, u "J"), (0, .fieldref 8 14), (0, .nameAndType 15 16), (0, u "rate"), (0, u "Ljava/math/BigDecimal;"), (2, u "first"), (0, u "Lcom/example/tenorbook/tenorbook/engine/Order;"), (8, u "last"), (6, u "ladder"), (0, u "Lcom/example/tenorbook/tenorbook/engine/Ladder;"), (0, u "(JLjava/math/BigDecimal;)V"), (2, u "()J")] 10

def k3c0 : Code := { maxStack := 3, maxLocals := 4, code := prog_11_method_1_code, exceptionTable := #[], attributes := #[] }
def k3m0 : Method := { name := "<init>", desc := "(JLjava/math/BigDecimal;)V", sig := { parameters := [.long, (.object "java/math/BigDecimal")], returnType := none }, accessFlags := 0, code := some k3c0 }
def k3c1 : Code := { maxStack := 2, maxLocals := 1, code := prog_11_method_2_code, exceptionTable := #[], attributes := #[] }
def k3m1 : Method := { name := "ticks", desc := "()J", sig := { parameters := [], returnType := some .long }, accessFlags := 0, code := some k3c1 }
/-- com/example/tenorbook/tenorbook/engine/Level -/
def k3 : Class := { plain "com/example/tenorbook/tenorbook/engine/Level" (some 0) with
  accessFlags := 48
  interfaces := #[]
  cf := some (fileOf pool3 8 #[] #[{ accessFlags := 0, nameIndex := 5, descriptorIndex := 38, attributes := #[] }, { accessFlags := 0, nameIndex := 11, descriptorIndex := 41, attributes := #[] }] 48 2 #[] #[{ accessFlags := 18, nameIndex := 11, descriptorIndex := 12, attributes := #[] }, { accessFlags := 18, nameIndex := 15, descriptorIndex := 16, attributes := #[] }, { accessFlags := 2, nameIndex := 19, descriptorIndex := 20, attributes := #[] }, { accessFlags := 2, nameIndex := 29, descriptorIndex := 20, attributes := #[] }, { accessFlags := 0, nameIndex := 36, descriptorIndex := 37, attributes := #[] }])
  fields := #[{ name := "ticks", type := .long, accessFlags := 18, slot := 0, constantValue := 0 }, { name := "rate", type := (.object "java/math/BigDecimal"), accessFlags := 18, slot := 1, constantValue := 0 }, { name := "first", type := (.object "com/example/tenorbook/tenorbook/engine/Order"), accessFlags := 2, slot := 2, constantValue := 0 }, { name := "last", type := (.object "com/example/tenorbook/tenorbook/engine/Order"), accessFlags := 2, slot := 3, constantValue := 0 }, { name := "ladder", type := (.object "com/example/tenorbook/tenorbook/engine/Ladder"), accessFlags := 0, slot := 4, constantValue := 0 }]
  methods := #[k3m0, k3m1]
  instanceTypes := #[.long, (.object "java/math/BigDecimal"), (.object "com/example/tenorbook/tenorbook/engine/Order"), (.object "com/example/tenorbook/tenorbook/engine/Order"), (.object "com/example/tenorbook/tenorbook/engine/Ladder")]
  staticTypes := #[]
  resolved := Array.replicate 52 none
  statics := none }

def pool4 : Array CpInfo := pool [(2, .class_ 4), (1, u "java/lang/Object"), (0, u "<init>"), (0, u "()V"), (1, .class_ 10), (1, u "java/lang/System"), (0, u "allowSecurityManager"), (0, u "I"), (16, u "cons"), (0, u "Ljava/io/Console;"), (77, .class_ 110), (1, u "java/lang/System$CallersHolder"), (43, u "initialErrStream"), (0, u "Ljava/io/PrintStream;"), (19, u "security"), (0, u "Ljava/lang/SecurityManager;"), (31, .class_ 209), (0, u "java/lang/System$1"), (7, u "props"), (0, u "Ljava/util/Properties;"), (2, u "lineSeparator"), (0, u "Ljava/lang/String;"), (96, .class_ 321), (1, u "java/lang/System$LoggerFinder"), (5, .class_ 328), (0, u "java/lang/System$Logger"), (67, u "err"), (2, u "out"), (91, u "notSupportedJnuEncoding"), (15, u "in"), (17, u "initialIn"), (0, u "Ljava/io/InputStream;"), (35, u "bootLayer"), (0, u "Ljava/lang/ModuleLayer;"), (99, .class_ 664), (0, u "java/lang/System$2"), (9, u "NEVER"), (2, u "MAYBE"), (49, u "arraycopy"), (0, u "(Ljava/lang/Object;ILjava/lang/Object;II)V"), (72, .class_ 802), (0, u "java/lang/System$Logger$Level")] 31

def k4m0 : Method := { name := "<init>", desc := "()V", sig := { parameters := [], returnType := none }, accessFlags := 2, code := none }
def k4m1 : Method := { name := "arraycopy", desc := "(Ljava/lang/Object;ILjava/lang/Object;II)V", sig := { parameters := [(.object "java/lang/Object"), .int, (.object "java/lang/Object"), .int, .int], returnType := none }, accessFlags := 265, code := none }
/-- java/lang/System -/
def k4 : Class := { plain "java/lang/System" (some 0) with
  accessFlags := 49
  interfaces := #[]
  cf := some (fileOf pool4 8 #[.nestMembers #[319, 327, 801, 108, 663, 208]] #[{ accessFlags := 2, nameIndex := 5, descriptorIndex := 6, attributes := #[] }, { accessFlags := 265, nameIndex := 727, descriptorIndex := 728, attributes := #[] }] 49 2 #[] #[{ accessFlags := 25, nameIndex := 507, descriptorIndex := 526, attributes := #[] }, { accessFlags := 25, nameIndex := 399, descriptorIndex := 155, attributes := #[] }, { accessFlags := 25, nameIndex := 396, descriptorIndex := 155, attributes := #[] }, { accessFlags := 10, nameIndex := 525, descriptorIndex := 526, attributes := #[] }, { accessFlags := 26, nameIndex := 674, descriptorIndex := 12, attributes := #[] }, { accessFlags := 26, nameIndex := 677, descriptorIndex := 12, attributes := #[] }, { accessFlags := 10, nameIndex := 11, descriptorIndex := 12, attributes := #[] }, { accessFlags := 74, nameIndex := 175, descriptorIndex := 176, attributes := #[] }, { accessFlags := 10, nameIndex := 491, descriptorIndex := 222, attributes := #[] }, { accessFlags := 74, nameIndex := 29, descriptorIndex := 30, attributes := #[] }, { accessFlags := 74, nameIndex := 154, descriptorIndex := 155, attributes := #[] }, { accessFlags := 10, nameIndex := 217, descriptorIndex := 218, attributes := #[] }, { accessFlags := 10, nameIndex := 221, descriptorIndex := 222, attributes := #[] }, { accessFlags := 8, nameIndex := 562, descriptorIndex := 563, attributes := #[] }])
  fields := #[{ name := "in", type := (.object "java/io/InputStream"), accessFlags := 25, slot := 0, constantValue := 0 }, { name := "out", type := (.object "java/io/PrintStream"), accessFlags := 25, slot := 1, constantValue := 0 }, { name := "err", type := (.object "java/io/PrintStream"), accessFlags := 25, slot := 2, constantValue := 0 }, { name := "initialIn", type := (.object "java/io/InputStream"), accessFlags := 10, slot := 3, constantValue := 0 }, { name := "NEVER", type := .int, accessFlags := 26, slot := 4, constantValue := 0 }, { name := "MAYBE", type := .int, accessFlags := 26, slot := 5, constantValue := 0 }, { name := "allowSecurityManager", type := .int, accessFlags := 10, slot := 6, constantValue := 0 }, { name := "security", type := (.object "java/lang/SecurityManager"), accessFlags := 74, slot := 7, constantValue := 0 }, { name := "notSupportedJnuEncoding", type := (.object "java/lang/String"), accessFlags := 10, slot := 8, constantValue := 0 }, { name := "cons", type := (.object "java/io/Console"), accessFlags := 74, slot := 9, constantValue := 0 }, { name := "initialErrStream", type := (.object "java/io/PrintStream"), accessFlags := 74, slot := 10, constantValue := 0 }, { name := "props", type := (.object "java/util/Properties"), accessFlags := 10, slot := 11, constantValue := 0 }, { name := "lineSeparator", type := (.object "java/lang/String"), accessFlags := 10, slot := 12, constantValue := 0 }, { name := "bootLayer", type := (.object "java/lang/ModuleLayer"), accessFlags := 8, slot := 13, constantValue := 0 }]
  methods := #[k4m0, k4m1]
  instanceTypes := #[]
  staticTypes := #[(.object "java/io/InputStream"), (.object "java/io/PrintStream"), (.object "java/io/PrintStream"), (.object "java/io/InputStream"), .int, .int, .int, (.object "java/lang/SecurityManager"), (.object "java/lang/String"), (.object "java/io/Console"), (.object "java/io/PrintStream"), (.object "java/util/Properties"), (.object "java/lang/String"), (.object "java/lang/ModuleLayer")]
  resolved := Array.replicate 834 none
  statics := none }

def pool5 : Array CpInfo := pool [(1, u "java/lang/Cloneable"), (0, .class_ 1), (0, u "java/lang/Object"), (0, .class_ 3)] 3

/-- java/lang/Cloneable -/
def k5 : Class := { plain "java/lang/Cloneable" (some 0) with
  accessFlags := 1537
  interfaces := #[]
  cf := some (fileOf pool5 2 #[] #[] 1537 4 #[] #[])
  fields := #[]
  methods := #[]
  instanceTypes := #[]
  staticTypes := #[]
  resolved := Array.replicate 8 none
  statics := none }

def pool6 : Array CpInfo := pool [(1, u "java/io/Serializable"), (0, .class_ 1), (0, u "java/lang/Object"), (0, .class_ 3)] 3

/-- java/io/Serializable -/
def k6 : Class := { plain "java/io/Serializable" (some 0) with
  accessFlags := 1537
  interfaces := #[]
  cf := some (fileOf pool6 2 #[] #[] 1537 4 #[] #[])
  fields := #[]
  methods := #[]
  instanceTypes := #[]
  staticTypes := #[]
  resolved := Array.replicate 8 none
  statics := none }

/-- the primitive byte -/
def k7 : Class := { plain "byte" none with kind := .primitive 'B', accessFlags := 0x411 }
/-- [B -/
def k8 : Class := { plain "[B" (some 0) with kind := .array 7 .byte, interfaces := #[5, 6], accessFlags := 1041 }

/-- the primitive int -/
def k9 : Class := { plain "int" none with kind := .primitive 'I', accessFlags := 0x411 }
/-- [I -/
def k10 : Class := { plain "[I" (some 0) with kind := .array 9 .int, interfaces := #[5, 6], accessFlags := 1041 }

/-- the primitive long -/
def k11 : Class := { plain "long" none with kind := .primitive 'J', accessFlags := 0x411 }
/-- [J -/
def k12 : Class := { plain "[J" (some 0) with kind := .array 11 .long, interfaces := #[5, 6], accessFlags := 1041 }

/-- [Lcom/example/tenorbook/tenorbook/engine/Level; -/
def k13 : Class := { plain "[Lcom/example/tenorbook/tenorbook/engine/Level;" (some 0) with kind := .array 3 (.object "com/example/tenorbook/tenorbook/engine/Level"), interfaces := #[5, 6], accessFlags := 1041 }

def heap : Heap := #[]
def classes : Array Class := #[k0, k1, k2, k3, k4, k5, k6, k7, k8, k9, k10, k11, k12, k13]
def interned : List (Array UInt16 × Addr) := []
def slotsUsed : Nat := 0
def theMethod : MethodId := ⟨1, 2⟩
def args0 : Array Value := #[.long 5, .long 7, .long 9, .int 3]
def aboutOver (below : List Frame) : State where
  vm := { classes := classes, interned := interned.toArray }
  heap := heap
  slotsUsed := slotsUsed
  threads := #[{ frames := .invoking theMethod args0 :: below }]
def below0 : List Frame := [.native { method := ⟨0, 0⟩, args := #[] }]
def about1 : State := aboutOver below0
def p0 : Program := .bare "" "" ""
def e0 : Env := launch0.env 0 0 0
theorem w_frames : about1.frames = Frame.invoking theMethod args0 :: below0 := rfl
set_option maxRecDepth 65536 in
theorem w_args : argsFit about1.vm theMethod args0 = true := by decide +kernel
set_option maxRecDepth 65536 in
theorem w_heap : heapFits about1 = true := by decide +kernel
set_option maxRecDepth 65536 in
theorem w_runnable : about1.curStatus? = some .runnable := by decide +kernel
set_option maxRecDepth 65536 in
theorem w_alone : about1.alone = true := by decide +kernel
set_option maxRecDepth 65536 in
theorem w_named : about1.methodNamed? x = some theMethod := by decide +kernel
set_option maxRecDepth 65536 in
theorem w_hears : about1.hears theMethod below0 = true := by decide +kernel
set_option maxRecDepth 65536 in
theorem w_ripe : about1.ripe theMethod args0 below0 = true := by decide +kernel
theorem w_running : about1.status = .running := rfl
set_option maxRecDepth 65536 in
theorem w_room : about1.hasRoom e0.platform room_1 = true :=
  launch0.hasRoom_least _ room_1 (by decide +kernel) (by decide +kernel) (by decide +kernel) (by decide +kernel) (by decide +kernel) (by decide +kernel)
theorem allAtoms_all (ts : List Jvm.Cond) (a : Array Jvm.Value) (st : Jvm.State) : (allAtoms ts).before a st = ts.all (fun c => c.before a st) := by
  induction ts with
  | nil => rfl
  | cons c t ih =>
    show (Jvm.Cond.and c (allAtoms t)).before a st = _
    rw [Jvm.Cond.before_and, ih, List.all_cons]
def words1 : List Jvm.Cond := Jvm.Cond.code x code maxLocals ret :: tables_1
/-- a 'code' word, met by the world's own term for the bytes: nothing is compared byte by byte -/
theorem code_word {y : MethodName} {bytes : ByteArray} {mx : Nat} {rt : Option FieldType} {a : Array Value} {s : State} {m : MethodId} {meth : Method} {c : Code} (h1 : s.methodNamed? y = some m) (h2 : s.vm.method? m = some meth) (h3 : meth.code = some c) (h4 : c.code = bytes)
    (h5 : (c.maxLocals == mx && c.exceptionTable.isEmpty && decide (c.maxStack ≤ mostOperands) && decide (meth.sig.returnType = rt) && !meth.locks && decide (parseMethodDescriptor y.desc = some meth.sig)) = true) : (Jvm.Cond.code y bytes mx rt).before a s = true := by
  simp only [Bool.and_eq_true, beq_iff_eq, Bool.not_eq_true', decide_eq_true_eq] at h5
  obtain ⟨⟨⟨⟨⟨g1, g2⟩, g3⟩, g4⟩, g5⟩, g6⟩ := h5
  simp [Cond.before, Cond.holds, Cond.value, h1, h2, h3, h4, g1, g2, g3, g4, g5, g6]
def isCode : Jvm.Cond → Bool
  | .code _ _ _ _ => true
  | _ => false
theorem all_split {L : List Jvm.Cond} {P : Jvm.Cond → Bool} (h1 : L.all (fun c => isCode c || P c) = true) (h2 : ∀ c ∈ L.filter isCode, P c = true) : L.all P = true := by
  refine List.all_eq_true.mpr fun c hc => ?_
  have h := List.all_eq_true.mp h1 c hc
  rcases Bool.eq_false_or_eq_true (isCode c) with hi | hi
  · exact h2 c (List.mem_filter.mpr ⟨hc, hi⟩)
  · simpa [hi] using h
set_option maxRecDepth 65536 in
theorem w_c0 : (Jvm.Cond.code x code maxLocals ret).before args0 about1 = true := code_word (m := ⟨1, 2⟩) (meth := k1m2) (c := k1c2) (by decide +kernel) rfl rfl rfl (by decide +kernel)
set_option maxRecDepth 65536 in
theorem w_c1 : (Jvm.Cond.code ({ cls := "com/example/tenorbook/tenorbook/engine/Ladder", name := "<init>", desc := "(Z)V" } : Jvm.MethodName) prog_9_method_1_code (2 : Nat) (Option.none : Option Jvm.ClassFile.FieldType)).before args0 about1 = true := code_word (m := ⟨2, 0⟩) (meth := k2m0) (c := k2c0) (by decide +kernel) rfl rfl rfl (by decide +kernel)
set_option maxRecDepth 65536 in
theorem w_c2 : (Jvm.Cond.code ({ cls := "java/lang/Object", name := "<init>", desc := "()V" } : Jvm.MethodName) object_method_1_code (1 : Nat) (Option.none : Option Jvm.ClassFile.FieldType)).before args0 about1 = true := code_word (m := ⟨0, 0⟩) (meth := k0m0) (c := k0c0) (by decide +kernel) rfl rfl rfl (by decide +kernel)
set_option maxRecDepth 65536 in
theorem w_c3 : (Jvm.Cond.code ({ cls := "com/example/tenorbook/tenorbook/engine/Level", name := "<init>", desc := "(JLjava/math/BigDecimal;)V" } : Jvm.MethodName) prog_11_method_1_code (4 : Nat) (Option.none : Option Jvm.ClassFile.FieldType)).before args0 about1 = true := code_word (m := ⟨3, 0⟩) (meth := k3m0) (c := k3c0) (by decide +kernel) rfl rfl rfl (by decide +kernel)
set_option maxRecDepth 65536 in
theorem w_c4 : (Jvm.Cond.code ({ cls := "com/example/tenorbook/tenorbook/engine/Ladder", name := "add", desc := "(Lcom/example/tenorbook/tenorbook/engine/Level;)V" } : Jvm.MethodName) prog_9_method_6_code (3 : Nat) (Option.none : Option Jvm.ClassFile.FieldType)).before args0 about1 = true := code_word (m := ⟨2, 2⟩) (meth := k2m2) (c := k2c2) (by decide +kernel) rfl rfl rfl (by decide +kernel)
set_option maxRecDepth 65536 in
theorem w_c5 : (Jvm.Cond.code ({ cls := "com/example/tenorbook/tenorbook/engine/Level", name := "ticks", desc := "()J" } : Jvm.MethodName) prog_11_method_2_code (1 : Nat) (Option.some Jvm.ClassFile.FieldType.long)).before args0 about1 = true := code_word (m := ⟨3, 1⟩) (meth := k3m1) (c := k3c1) (by decide +kernel) rfl rfl rfl (by decide +kernel)
set_option maxRecDepth 65536 in
theorem w_c6 : (Jvm.Cond.code ({ cls := "com/example/tenorbook/tenorbook/engine/Ladder", name := "find", desc := "(J)I" } : Jvm.MethodName) prog_9_method_8_code (8 : Nat) (Option.some Jvm.ClassFile.FieldType.int)).before args0 about1 = true := code_word (m := ⟨2, 3⟩) (meth := k2m3) (c := k2c3) (by decide +kernel) rfl rfl rfl (by decide +kernel)
set_option maxRecDepth 65536 in
theorem w_c7 : (Jvm.Cond.code ({ cls := "com/example/tenorbook/tenorbook/engine/Ladder", name := "worse", desc := "(JJ)Z" } : Jvm.MethodName) prog_9_method_9_code (5 : Nat) (Option.some Jvm.ClassFile.FieldType.boolean)).before args0 about1 = true := code_word (m := ⟨2, 4⟩) (meth := k2m4) (c := k2c4) (by decide +kernel) rfl rfl rfl (by decide +kernel)
set_option maxRecDepth 65536 in
theorem w_c8 : (Jvm.Cond.code ({ cls := "com/example/tenorbook/tenorbook/engine/LadderBestPinLaw", name := "better", desc := "(JJZ)Z" } : Jvm.MethodName) method_2_code (5 : Nat) (Option.some Jvm.ClassFile.FieldType.boolean)).before args0 about1 = true := code_word (m := ⟨1, 1⟩) (meth := k1m1) (c := k1c1) (by decide +kernel) rfl rfl rfl (by decide +kernel)
set_option maxRecDepth 65536 in
theorem w_c9 : (Jvm.Cond.code ({ cls := "com/example/tenorbook/tenorbook/engine/Ladder", name := "best", desc := "(I)Lcom/example/tenorbook/tenorbook/engine/Level;" } : Jvm.MethodName) prog_9_method_4_code (2 : Nat) (Option.some (Jvm.ClassFile.FieldType.object "com/example/tenorbook/tenorbook/engine/Level"))).before args0 about1 = true := code_word (m := ⟨2, 1⟩) (meth := k2m1) (c := k2c1) (by decide +kernel) rfl rfl rfl (by decide +kernel)
def codes1 : List Jvm.Cond := [Jvm.Cond.code x code maxLocals ret, Jvm.Cond.code ({ cls := "com/example/tenorbook/tenorbook/engine/Ladder", name := "<init>", desc := "(Z)V" } : Jvm.MethodName) prog_9_method_1_code (2 : Nat) (Option.none : Option Jvm.ClassFile.FieldType), Jvm.Cond.code ({ cls := "java/lang/Object", name := "<init>", desc := "()V" } : Jvm.MethodName) object_method_1_code (1 : Nat) (Option.none : Option Jvm.ClassFile.FieldType), Jvm.Cond.code ({ cls := "com/example/tenorbook/tenorbook/engine/Level", name := "<init>", desc := "(JLjava/math/BigDecimal;)V" } : Jvm.MethodName) prog_11_method_1_code (4 : Nat) (Option.none : Option Jvm.ClassFile.FieldType), Jvm.Cond.code ({ cls := "com/example/tenorbook/tenorbook/engine/Ladder", name := "add", desc := "(Lcom/example/tenorbook/tenorbook/engine/Level;)V" } : Jvm.MethodName) prog_9_method_6_code (3 : Nat) (Option.none : Option Jvm.ClassFile.FieldType), Jvm.Cond.code ({ cls := "com/example/tenorbook/tenorbook/engine/Level", name := "ticks", desc := "()J" } : Jvm.MethodName) prog_11_method_2_code (1 : Nat) (Option.some Jvm.ClassFile.FieldType.long), Jvm.Cond.code ({ cls := "com/example/tenorbook/tenorbook/engine/Ladder", name := "find", desc := "(J)I" } : Jvm.MethodName) prog_9_method_8_code (8 : Nat) (Option.some Jvm.ClassFile.FieldType.int), Jvm.Cond.code ({ cls := "com/example/tenorbook/tenorbook/engine/Ladder", name := "worse", desc := "(JJ)Z" } : Jvm.MethodName) prog_9_method_9_code (5 : Nat) (Option.some Jvm.ClassFile.FieldType.boolean), Jvm.Cond.code ({ cls := "com/example/tenorbook/tenorbook/engine/LadderBestPinLaw", name := "better", desc := "(JJZ)Z" } : Jvm.MethodName) method_2_code (5 : Nat) (Option.some Jvm.ClassFile.FieldType.boolean), Jvm.Cond.code ({ cls := "com/example/tenorbook/tenorbook/engine/Ladder", name := "best", desc := "(I)Lcom/example/tenorbook/tenorbook/engine/Level;" } : Jvm.MethodName) prog_9_method_4_code (2 : Nat) (Option.some (Jvm.ClassFile.FieldType.object "com/example/tenorbook/tenorbook/engine/Level"))]
set_option maxRecDepth 65536 in
theorem codes_eq : words1.filter isCode = codes1 := rfl
theorem w_codes : ∀ c ∈ words1.filter isCode, c.before args0 about1 = true := by
  rw [codes_eq]
  intro c hc
  simp only [codes1, List.mem_cons, List.not_mem_nil, or_false] at hc
  rcases hc with rfl | rfl | rfl | rfl | rfl | rfl | rfl | rfl | rfl | rfl
  · exact w_c0
  · exact w_c1
  · exact w_c2
  · exact w_c3
  · exact w_c4
  · exact w_c5
  · exact w_c6
  · exact w_c7
  · exact w_c8
  · exact w_c9
set_option maxRecDepth 65536 in
theorem w_t1 : (words1.take 24).all (fun c => isCode c || c.before args0 about1) = true := by decide +kernel
set_option maxRecDepth 65536 in
theorem w_t2 : ((words1.drop 24).take 24).all (fun c => isCode c || c.before args0 about1) = true := by decide +kernel
set_option maxRecDepth 65536 in
theorem w_t3 : ((words1.drop 24).drop 24).all (fun c => isCode c || c.before args0 about1) = true := by decide +kernel
theorem w_tables : (allAtoms (Jvm.Cond.code x code maxLocals ret :: tables_1)).before args0 about1 = true := by
  rw [allAtoms_all]
  show words1.all (fun c => c.before args0 about1) = true
  refine all_split ?_ w_codes
  rw [← List.take_append_drop 24 words1, List.all_append, w_t1, ← List.take_append_drop 24 (words1.drop 24), List.all_append, w_t2, w_t3]
  rfl
set_option maxRecDepth 65536 in
theorem w_case : (Jvm.Cond.and given_1 narrow_1).before args0 about1 = true := by decide +kernel
theorem w_applies : (headSpec (Jvm.Cond.code x code maxLocals ret :: tables_1) room_1).applies x e0.platform about1 = true :=
  (Spec.applies_iff w_frames).mpr ⟨w_running, w_runnable, w_alone, w_named, w_hears, w_ripe, w_room, w_tables⟩
theorem atStart : AtStart classFile x code maxLocals ret World_1 tables_1 room_1 Calls_1 rest_1 Pre_1 launch0 p0 e0 about1 theMethod args0 below0 :=
  ⟨lists_1, trivial, launch0.admits_env _ _ _, launch0.least_env, fairChoices_fair.cas, fairChoices_fair.clock, w_frames, w_args, w_heap, w_applies, trivial, trivial, w_case⟩
end start1
theorem witness_1 : WitnessClaimed_1 := ⟨start1.p0, start1.e0, start1.about1, start1.theMethod, start1.args0, start1.below0, start1.atStart⟩
end Jvm.Pilot.@@N@@
