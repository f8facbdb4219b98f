import JvmDerived
import JvmDerived.Pilot.@@N@@Statement
import JvmDerived.Pilot.@@N@@Code
set_option linter.unusedVariables false
set_option linter.unusedSimpArgs false
namespace Jvm.Pilot.@@N@@
open Jvm Jvm.ClassFile Sem Op Lib Jvm.Free Jvm.Stand Jvm.LawKit Jvm.RoadKit Bundle Jvm.Pilot.@@N@@.Jvm.D
/-- from S the run comes to a state that P allows -/
def Comes (p : Program) (e : Env) (below : List Frame) (P : State → Prop) (S : State) : Prop := ∃ S', Steps p.tables e below S S' ∧ P S'
/-- how a body ends that Q allows -/
def EndsAt (below : List Frame) (s : State) (Q : Option Value → Heap → List Loc → Prop) (kc ks : Nat) (s₂ : State) : Prop := ∃ o, s₂.status = .running ∧ Ended s₂ below o ∧ ∃ v L, o = .returned v ∧ Q v s₂.heap L ∧ FrameEnd s o s₂ L kc ks
section Own
variable {p : Program} {l : Launch} {e : Env} {R : Room} {s : State} {m : MethodId} {args : Array Value} {below : List Frame} {meth : Method} {c : Code} {T : State} {locs : List Loc} {cells slots : Nat} {Q : Option Value → Heap → List Loc → Prop} {kc ks : Nat} {P : State → Prop} {S S' : State} {h : Heap}
theorem Comes.here (q : P S) : Comes p e below P S := ⟨S, Steps.refl _, q⟩
theorem Comes.st (f : ∀ t, Steps p.tables e below S' t → Steps p.tables e below S t) (g : Comes p e below P S') : Comes p e below P S := by
  obtain ⟨s₂, h1, r⟩ := g; exact ⟨s₂, f _ h1, r⟩
theorem Comes.go (f : Steps p.tables e below S S') (g : Comes p e below P S') : Comes p e below P S := by
  obtain ⟨s₂, h1, r⟩ := g; exact ⟨s₂, f.trans h1, r⟩
theorem Comes.cast {g g' : JFrame} (q : g = g') (k : Comes p e below P (T.setTop g')) : Comes p e below P (T.setTop g) := q ▸ k
theorem Comes.out (h : Comes p e below (EndsAt below s Q kc ks) S) : ∃ s₂ o, Steps p.tables e below S s₂ ∧ s₂.status = .running ∧ Ended s₂ below o ∧ ∃ v L, o = .returned v ∧ Q v s₂.heap L ∧ FrameEnd s o s₂ L kc ks := by
  obtain ⟨s₂, h1, o, r⟩ := h; exact ⟨s₂, o, h1, r⟩
theorem Comes.fin (X : Stand p l e R s m args below meth c T locs cells slots) {v : Option Value} (hv : meth.sig.returnType = none → v = none) (hlk : meth.locks = false)
    (hs : ∀ fs, (∀ (f : JFrame) (acts : List Action), f.method = m → f.locked = none → f.entered = [] → (doReturn e (T.setTop f) acts v).1 = T.setFrames fs) → Steps p.tables e below S (T.setFrames fs))
    (eT : T.heap = h) (hq : Q v h locs) (hc : cells ≤ kc) (hl : slots ≤ ks) : Comes p e below (EndsAt below s Q kc ks) S := by
  obtain ⟨fs, hr, hrun, hended, hW, hsame⟩ := X.leave (v := v) hv hlk
  exact ⟨_, hs fs hr, _, hrun, hended, _, _, rfl, (show Q v T.heap locs from by rw [eT]; exact hq), ⟨_, rfl⟩, hW, hsame.mono hc hl⟩
theorem Comes.ret0 (X : Stand p l e R s m args below meth c T locs cells slots) (hx : p.tables.exec = Jvm.exec) {pc : Nat} {Ls : Array Slot} (hret : meth.sig.returnType = none) (hlk : meth.locks = false) (hd : decode c.code pc = .ok (.return_, 1))
    (eT : T.heap = h) (hq : Q none h locs) (hc : cells ≤ kc) (hl : slots ≤ ks) : Comes p e below (EndsAt below s Q kc ks) (T.setTop (mkF m pc Ls [])) :=
  Comes.fin X (fun _ => rfl) hlk (fun _ hr => X.returnOut hx hret hd hr) eT hq hc hl
theorem Comes.retN (X : Stand p l e R s m args below meth c T locs cells slots) (hx : p.tables.exec = Jvm.exec) {pc : Nat} {Ls : Array Slot} {z : Int32} {t : FieldType} {rest : List Value} (hret : meth.sig.returnType = some t) (ht : t = .boolean ∨ t = .byte ∨ t = .char ∨ t = .short) (hlk : meth.locks = false) (hd : decode c.code pc = .ok (.ireturn, 1))
    (eT : T.heap = h) (hq : Q (some (.int (nar t z))) h locs) (hc : cells ≤ kc) (hl : slots ≤ ks) : Comes p e below (EndsAt below s Q kc ks) (T.setTop (mkF m pc Ls (.int z :: rest))) :=
  Comes.fin X (fun q => by rw [hret] at q; cases q) hlk (fun _ hr => Jvm.RoadKit.retN X hx hret ht hd hr) eT hq hc hl
theorem Comes.retV (X : Stand p l e R s m args below meth c T locs cells slots) (hx : p.tables.exec = Jvm.exec) {pc : Nat} {Ls : Array Slot} {w : Value} {t : FieldType} {i : Instr} {rest : List Value} (hret : meth.sig.returnType = some t) (hn : narrow t w = w)
    (hi : (i = .ireturn ∧ (t = .int ∨ t = .boolean ∨ t = .byte ∨ t = .char ∨ t = .short) ∧ ∃ z, w = .int z) ∨ (i = .lreturn ∧ t = .long ∧ ∃ z, w = .long z) ∨ (i = .dreturn ∧ t = .double ∧ ∃ z, w = .double z) ∨ (i = .freturn ∧ t = .float ∧ ∃ z, w = .float z) ∨ (i = .areturn ∧ t.isReference = true ∧ w.isRef = true))
    (hlk : meth.locks = false) (hd : decode c.code pc = .ok (i, 1))
    (eT : T.heap = h) (hq : Q (some w) h locs) (hc : cells ≤ kc) (hl : slots ≤ ks) : Comes p e below (EndsAt below s Q kc ks) (T.setTop (mkF m pc Ls (w :: rest))) :=
  Comes.fin X (fun q => by rw [hret] at q; cases q) hlk (fun _ hr => retOut X hx hret hn hi hd hr) eT hq hc hl
theorem narrow_ref {t : FieldType} {w : Value} (h : w.isRef = true) : narrow t w = w := by rcases ref_cases h with rfl | ⟨y, rfl⟩ <;> cases t <;> rfl
theorem lremM {g : JFrame} {target : State} (X : Stand p l e R s m args below meth c T locs cells slots) (hx : p.tables.exec = Jvm.exec) (hg : g.method = m) {x y : Int64} {rest : List Value} (hd : decode c.code g.pc = .ok (.lrem, 1)) (hs : g.stack = .long y :: .long x :: rest) (hy : ¬ y = 0)
    (hr : Steps p.tables e below (T.setTop { g with pc := g.pc + 1, stack := .long (x % y) :: rest }) target) : Steps p.tables e below (T.setTop g) target := by
  have q : x - x / y * y = x % y := lrem_mod x y
  exact XT.lrem X.here hx hg hd hs hy (by rw [q]; exact hr)
theorem own_lrem (x y : Int64) (d : Int) (hy : y.toInt = d) : (0 ≤ x.toInt → (x % y).toInt = x.toInt % d) ∧ (x.toInt < 0 → (x % y).toInt = -((-x.toInt) % d)) := by rw [Int64.toInt_mod, hy]; exact tr _ _
theorem own_lremV (x y : Int64) : 0 ≤ x.toInt → 0 < y.toInt → 0 ≤ (x % y).toInt ∧ (x % y).toInt < y.toInt := by
  intro h1 h2
  rw [Int64.toInt_mod, Int.tmod_eq_emod_of_nonneg h1]
  exact ⟨Int.emod_nonneg _ (by omega), Int.emod_lt_of_pos _ h2⟩
theorem own_eqi {a0 : Array Value} {Z : State} {t : Term} {k : Int32} {idx : List Nat} (h : (Jvm.Cond.eq t (Term.int k)).value a0 Z none Z idx = some true) : t.eval a0 Z none idx Z = some (.int k) := by
  obtain ⟨x, y, e1, e2, k1, k2⟩ := cmp_v (Or.inl h)
  simp only [Term.eval, Option.some.injEq] at e2
  subst e2
  obtain ⟨z, rfl⟩ := k2
  simp [Cond.value, e1, Term.eval] at h
  rw [e1, h]
theorem own_selp {a0 : Array Value} {Z : State} {y : MethodName} {n : Nat} (wi : (Jvm.Cond.instantiable y.cls n).before a0 Z = true) (wp : (Jvm.Cond.privateMethod y).before a0 Z = true) (wm : (Jvm.Cond.instanceMethod y).before a0 Z = true) (hy : y.cls ≠ "java/lang/invoke/MethodHandle" ∧ y.cls ≠ "java/lang/invoke/VarHandle") : (Jvm.Cond.selects y.cls y y).before a0 Z = true := by
  obtain ⟨c, k, h1, h2, h3, h4, -⟩ := Cond.instantiable_spec wi
  exact Jvm.Stand.selects_self_of_private h1 h2 (by simp only [Bool.or_eq_false_iff] at h4; exact h4.1) (Cond.privateMethod_at wp) wm hy
theorem own_eqr {a0 : Array Value} {Z : State} {t u : Term} {y : Value} {idx : List Nat} (h : (Jvm.Cond.eq t u).value a0 Z none Z idx = some true) (hu : u.eval a0 Z none idx Z = some y) (hy : y.isRef = true) : t.eval a0 Z none idx Z = some y := by
  obtain ⟨x, y', e1, e2, k1, k2⟩ := cmp_v (Or.inl h)
  cases hu.symm.trans e2
  have hx : x.isRef = true := by
    rcases ref_cases hy with rfl | ⟨z, rfl⟩ <;> cases x <;> simp_all [Kin, Value.isRef]
  rw [e1, gotT (eq_R e1 hu hx hy) h]
theorem own_len {a0 : Array Value} {Z : State} {t : Term} {a : Addr} {cl : Cell} {ty : FieldType} {k : Int32} (ht : t.eval a0 Z none [] Z = some (.ref a)) (A : Arr Z Z.heap a cl ty) (h : (Jvm.Cond.eq (Term.length t) (Term.int k)).value a0 Z none Z [] = some true) : cl.slots.size < 2 ^ 31 ∧ cl.slots.size.toInt32 = k := by
  have e := own_eqi h
  have e2 := A.fin (Vm.Alike.refl _)
  simp [Term.eval, ht, e2] at e
  exact ⟨by omega, e.2⟩
theorem own_elem {a0 : Array Value} {Z : State} {t u : Term} {a : Addr} {cl : Cell} {j : Int32} {y : Value} (ht : t.eval a0 Z none [] Z = some (.ref a)) (hc : Z.heap[a]? = some cl) (h : (Jvm.Cond.eq (Term.elem t (Term.int j)) u).value a0 Z none Z [] = some true) (hu : u.eval a0 Z none [] Z = some y) (hy : y.isRef = true) : cl.slots[j.toNatClampNeg]? = some y := (elem_in (own_eqr h hu hy) ht (by rfl) hc).2
theorem own_fldi {a0 : Array Value} {Z : State} {t : Term} {k : Int32} {a : Addr} {C n d : String} (ht : t.eval a0 Z none [] Z = some (.ref a)) (h : (Jvm.Cond.eq (Term.field t C n d) (Term.int k)).value a0 Z none Z [] = some true) : Fld Z Z.heap a C n d (.int k) := Fld.start ((fld_at ht).symm.trans (own_eqi h))
end Own
theorem d1_0 : decode prog_55_method_13_code 0 = .ok (.aload_n 0, 1) := by decide +kernel
theorem d1_1 : decode prog_55_method_13_code 1 = .ok (.iload_n 1, 1) := by decide +kernel
theorem d1_2 : decode prog_55_method_13_code 2 = .ok (.baload, 1) := by decide +kernel
theorem d1_3 : decode prog_55_method_13_code 3 = .ok (.sipush 255, 3) := by decide +kernel
theorem d1_6 : decode prog_55_method_13_code 6 = .ok (.iand, 1) := by decide +kernel
theorem d1_7 : decode prog_55_method_13_code 7 = .ok (.bipush 8, 2) := by decide +kernel
theorem d1_9 : decode prog_55_method_13_code 9 = .ok (.ishl, 1) := by decide +kernel
theorem d1_10 : decode prog_55_method_13_code 10 = .ok (.aload_n 0, 1) := by decide +kernel
theorem d1_11 : decode prog_55_method_13_code 11 = .ok (.iload_n 1, 1) := by decide +kernel
theorem d1_12 : decode prog_55_method_13_code 12 = .ok (.iconst 1, 1) := by decide +kernel
theorem d1_13 : decode prog_55_method_13_code 13 = .ok (.iadd, 1) := by decide +kernel
theorem d1_14 : decode prog_55_method_13_code 14 = .ok (.baload, 1) := by decide +kernel
theorem d1_15 : decode prog_55_method_13_code 15 = .ok (.sipush 255, 3) := by decide +kernel
theorem d1_18 : decode prog_55_method_13_code 18 = .ok (.iand, 1) := by decide +kernel
theorem d1_19 : decode prog_55_method_13_code 19 = .ok (.ior, 1) := by decide +kernel
theorem d1_20 : decode prog_55_method_13_code 20 = .ok (.ireturn, 1) := by decide +kernel
theorem pd_0 : parseMethodDescriptor "([BI)I" = some ⟨[(.array .byte), .int], some .int⟩ := by decide +kernel
theorem pn_1 : plainName "com/example/typeflow/typeflow/classfile/ClassFileInput" = true := by first | (simp [plainName, overriddenIn]; done) | decide +kernel
theorem pn_0 : plainName "com/example/typeflow/typeflow/classfile/ClassFileInputU2PinLaw" = true := by first | (simp [plainName, overriddenIn]; done) | decide +kernel
theorem ef_rm1_0 (m : MethodId) (x0 : Addr) : entryFrame m #[(.ref x0), (.int (0 : Int32))] 2 = mkF m 0 #[.val (.ref x0), .val (.int (0 : Int32))] [] := by first | (simp [entryFrame, mkF, argsToLocals, Value.category]; done) | rfl
theorem ef_rm1_1 (m : MethodId) (x0 : Addr) : entryFrame m #[(.ref x0), (.int (1 : Int32))] 2 = mkF m 0 #[.val (.ref x0), .val (.int (1 : Int32))] [] := by first | (simp [entryFrame, mkF, argsToLocals, Value.category]; done) | rfl
theorem ef_rm1_2 (m : MethodId) (x0 : Addr) : entryFrame m #[(.ref x0), (.int (2 : Int32))] 2 = mkF m 0 #[.val (.ref x0), .val (.int (2 : Int32))] [] := by first | (simp [entryFrame, mkF, argsToLocals, Value.category]; done) | rfl
theorem ef_rm0 (m : MethodId) (x0 : Int32) (x1 : Int32) (x2 : Int32) (x3 : Int32) (x4 : Int32) : entryFrame m #[(.int x0), (.int x1), (.int x2), (.int x3), (.int x4)] maxLocals = mkF m 0 #[.val (.int x0), .val (.int x1), .val (.int x2), .val (.int x3), .val (.int x4), .unset, .unset, .unset, .unset, .unset] [] := by first | (simp [entryFrame, mkF, argsToLocals, Value.category, maxLocals]; done) | rfl
theorem own_u2 (a b : Int32) : ((((nar .byte a.toInt8.toInt32) &&& (255 : Int32)) <<< ((8 : Int32) &&& 31)) ||| ((nar .byte b.toInt8.toInt32) &&& (255 : Int32))).toInt = (a.toInt % 256) * 256 + b.toInt % 256 := by
  have n1 : ∀ z : Int32, nar .byte z = z.toInt8.toInt32 := fun _ => rfl
  rw [n1, n1]
  have e1 := c_mask a.toInt8.toInt32.toInt8.toInt32 255 8 (by decide) (by decide)
  have e2 := c_mask b.toInt8.toInt32.toInt8.toInt32 255 8 (by decide) (by decide)
  have e3 := c_i2b a; have e4 := c_i2b a.toInt8.toInt32
  have e5 := c_i2b b; have e6 := c_i2b b.toInt8.toInt32
  have e7 := c_ishl (a.toInt8.toInt32.toInt8.toInt32 &&& 255) 8 8 (by decide)
  have e8 := rng32 ((a.toInt8.toInt32.toInt8.toInt32 &&& 255) <<< ((8 : Int32) &&& 31))
  generalize a.toInt8.toInt32.toInt8.toInt32 &&& 255 = p at *
  generalize b.toInt8.toInt32.toInt8.toInt32 &&& 255 = q at *
  generalize p <<< ((8 : Int32) &&& 31) = r at *
  have e9 := c_or r q 8 (by decide) 256 (by decide)
  have e10 := rng32 (r ||| q)
  omega
def Q_rm1_0 (Z : State) (arr : Addr) (kb : ClassId) (y0 : Int32) (y1 : Int32) (y2 : Int32) (y3 : Int32) (h0 : Heap) (n0 : Nat) (v : Option Value) (h : Heap) (L : List Loc) : Prop := ∃ (r : Int32), (v = some (.int r)) ∧ (Fr n0 L) ∧ (h = h0) ∧ (r = (((y0 &&& (255 : Int32)) <<< ((8 : Int32) &&& 31)) ||| (y1 &&& (255 : Int32))))
set_option maxRecDepth 65536 in
set_option maxHeartbeats 40000000 in
theorem rm1_0 (l : Launch) (Z : State) (a0 : Array Value) (hw : ∀ d ∈ tables_1, d.before a0 Z = true) (ws : List Jvm.Cond) (arr : Addr) (kb : ClassId) (y0 : Int32) (y1 : Int32) (y2 : Int32) (y3 : Int32) (h0 : Heap) (n0 : Nat) (Z0 : n0 ≤ h0.size) (G0 : Arv Z h0 arr kb .byte (4 : Int32) [(.int y0), (.int y1), (.int y2), (.int y3)] (.int (0 : Int32))) :
    MetFree l (⟨"com/example/typeflow/typeflow/classfile/ClassFileInput", "u2", "([BI)I"⟩ : MethodName) (head1 (Jvm.Cond.code (⟨"com/example/typeflow/typeflow/classfile/ClassFileInput", "u2", "([BI)I"⟩ : MethodName) prog_55_method_13_code 2 (some .int) :: ws) ({ frames := 0, cells := 0, slots := 0, locals := 0 } : Room)) (fun a U => a = #[(.ref arr), (.int (0 : Int32))] ∧ Z.Warmed39 U.vm ∧ U.heap = h0) (fun _ _ _ _ _ => True) (fun _ U o U' => ∃ v L, o = .returned v ∧ Q_rm1_0 Z arr kb y0 y1 y2 y3 h0 n0 v U'.heap L ∧ FrameEnd U o U' L ({ frames := 0, cells := 0, slots := 0, locals := 0 } : Room).cells ({ frames := 0, cells := 0, slots := 0, locals := 0 } : Room).slots) := by
  refine MetFree.of_bodySF (plainFor_of_name pn_1) hisR ?_
  intro p e s m args below meth c s₁ Bd hml0 hP hK
  obtain ⟨rfl, hZ, hh⟩ := hP
  have hx := Bd.exec
  have hby := Bd.bytes
  have hml : c.maxLocals = 2 := hml0
  have hown : s.vm.findClass "com/example/typeflow/typeflow/classfile/ClassFileInput" = some m.cls := findClass_of_methodNamed Bd.named
  have hnm := (name_of_methodNamed Bd.named Bd.method).1
  have hlk : meth.locks = false := Bd.notSynchronized
  have X0 : Stand p l e ({ frames := 0, cells := 0, slots := 0, locals := 0 } : Room) s m #[(.ref arr), (.int (0 : Int32))] below meth c s₁ [] 0 0 := Stand.of_body Bd
  have e0 : s₁.heap = h0 := by rw [← hh, Bd.state]; rfl
  have N0 := Fr.nil n0
  refine Comes.out (Q := Q_rm1_0 Z arr kb y0 y1 y2 y3 h0 n0) (kc := ({ frames := 0, cells := 0, slots := 0, locals := 0 } : Room).cells) (ks := ({ frames := 0, cells := 0, slots := 0, locals := 0 } : Room).slots) ?_
  refine Comes.cast (ef_rm1_0 m arr) ?_
  have lt_arr : arr < h0.size := G0.lt
  show Comes p e below _ (s₁.setTop (mkF m 0 #[.val (.ref arr), .val (.int (0 : Int32))] []))
  refine Comes.st (fun t k => XS.aloadN X0.here hx rfl (hb hby d1_0) rfl rfl (XS.iloadN X0.here hx rfl (hb hby d1_1) rfl k)) ?_
  show Comes p e below _ (s₁.setTop (mkF m 2 #[.val (.ref arr), .val (.int (0 : Int32))] [(.int (0 : Int32)), (.ref arr)]))
  obtain ⟨cl1, Ar1, q1, S1, Ng1, H1, Gf1⟩ := id G0
  have hin1 : ¬ ((0 : Int32) < 0 ∨ cl1.slots.size ≤ ((0 : Int32)).toNatClampNeg) := inb_of S1 ⟨by decide, by decide⟩
  refine Comes.st (fun t k => X0.baloadBytes hx (j := (0 : Int32)) (v := (.int y0)) (by rw [e0]; exact Ar1.1) (State.isArrayOf_alike hZ.alike Ar1.2.1) Ar1.2.2 hin1 (Has.at H1 hin1 rfl) (g := (mkF m 2 #[.val (.ref arr), .val (.int (0 : Int32))] [(.int (0 : Int32)), (.ref arr)])) rfl rfl (hb hby d1_2) _ (XS.sipush X0.here hx rfl (hb hby d1_3) (XS.iand X0.here hx rfl (hb hby d1_6) rfl (XS.bipush X0.here hx rfl (hb hby d1_7) (XS.ishl X0.here hx rfl (hb hby d1_9) rfl (XS.aloadN X0.here hx rfl (hb hby d1_10) rfl rfl k)))))) ?_
  show Comes p e below _ (s₁.setTop (mkF m 11 #[.val (.ref arr), .val (.int (0 : Int32))] [(.ref arr), (.int ((y0 &&& (255 : Int32)) <<< ((8 : Int32) &&& 31)))]))
  refine Comes.st (fun t k => XS.iloadN X0.here hx rfl (hb hby d1_11) rfl (XS.iconst X0.here hx rfl (hb hby d1_12) (XS.iadd X0.here hx rfl (hb hby d1_13) rfl k))) ?_
  show Comes p e below _ (s₁.setTop (mkF m 14 #[.val (.ref arr), .val (.int (0 : Int32))] [(.int ((0 : Int32) + (1 : Int32))), (.ref arr), (.int ((y0 &&& (255 : Int32)) <<< ((8 : Int32) &&& 31)))]))
  rw [show ((0 : Int32) + (1 : Int32)) = (1 : Int32) from by decide]
  show Comes p e below _ (s₁.setTop (mkF m 14 #[.val (.ref arr), .val (.int (0 : Int32))] [(.int (1 : Int32)), (.ref arr), (.int ((y0 &&& (255 : Int32)) <<< ((8 : Int32) &&& 31)))]))
  obtain ⟨cl2, Ar2, q2, S2, Ng2, H2, Gf2⟩ := id G0
  have hin2 : ¬ ((1 : Int32) < 0 ∨ cl2.slots.size ≤ ((1 : Int32)).toNatClampNeg) := inb_of S2 ⟨by decide, by decide⟩
  refine Comes.st (fun t k => X0.baloadBytes hx (j := (1 : Int32)) (v := (.int y1)) (by rw [e0]; exact Ar2.1) (State.isArrayOf_alike hZ.alike Ar2.2.1) Ar2.2.2 hin2 (Has.at H2 hin2 rfl) (g := (mkF m 14 #[.val (.ref arr), .val (.int (0 : Int32))] [(.int (1 : Int32)), (.ref arr), (.int ((y0 &&& (255 : Int32)) <<< ((8 : Int32) &&& 31)))])) rfl rfl (hb hby d1_14) _ (XS.sipush X0.here hx rfl (hb hby d1_15) (XS.iand X0.here hx rfl (hb hby d1_18) rfl (XS.ior X0.here hx rfl (hb hby d1_19) rfl k)))) ?_
  show Comes p e below _ (s₁.setTop (mkF m 20 #[.val (.ref arr), .val (.int (0 : Int32))] [(.int (((y0 &&& (255 : Int32)) <<< ((8 : Int32) &&& 31)) ||| (y1 &&& (255 : Int32))))]))
  exact Comes.retV X0 hx Bd.returns rfl (Or.inl ⟨rfl, Or.inl rfl, _, rfl⟩) hlk (hb hby d1_20) e0 ⟨(((y0 &&& (255 : Int32)) <<< ((8 : Int32) &&& 31)) ||| (y1 &&& (255 : Int32))), rfl, N0, rfl, (by rfl)⟩ (by decide) (by decide)
def Q_rm1_1 (Z : State) (arr : Addr) (kb : ClassId) (y0 : Int32) (y1 : Int32) (y2 : Int32) (y3 : Int32) (h0 : Heap) (n0 : Nat) (v : Option Value) (h : Heap) (L : List Loc) : Prop := ∃ (r : Int32), (v = some (.int r)) ∧ (Fr n0 L) ∧ (h = h0) ∧ (r = (((y1 &&& (255 : Int32)) <<< ((8 : Int32) &&& 31)) ||| (y2 &&& (255 : Int32))))
set_option maxRecDepth 65536 in
set_option maxHeartbeats 40000000 in
theorem rm1_1 (l : Launch) (Z : State) (a0 : Array Value) (hw : ∀ d ∈ tables_1, d.before a0 Z = true) (ws : List Jvm.Cond) (arr : Addr) (kb : ClassId) (y0 : Int32) (y1 : Int32) (y2 : Int32) (y3 : Int32) (h0 : Heap) (n0 : Nat) (Z0 : n0 ≤ h0.size) (G0 : Arv Z h0 arr kb .byte (4 : Int32) [(.int y0), (.int y1), (.int y2), (.int y3)] (.int (0 : Int32))) :
    MetFree l (⟨"com/example/typeflow/typeflow/classfile/ClassFileInput", "u2", "([BI)I"⟩ : MethodName) (head1 (Jvm.Cond.code (⟨"com/example/typeflow/typeflow/classfile/ClassFileInput", "u2", "([BI)I"⟩ : MethodName) prog_55_method_13_code 2 (some .int) :: ws) ({ frames := 0, cells := 0, slots := 0, locals := 0 } : Room)) (fun a U => a = #[(.ref arr), (.int (1 : Int32))] ∧ Z.Warmed39 U.vm ∧ U.heap = h0) (fun _ _ _ _ _ => True) (fun _ U o U' => ∃ v L, o = .returned v ∧ Q_rm1_1 Z arr kb y0 y1 y2 y3 h0 n0 v U'.heap L ∧ FrameEnd U o U' L ({ frames := 0, cells := 0, slots := 0, locals := 0 } : Room).cells ({ frames := 0, cells := 0, slots := 0, locals := 0 } : Room).slots) := by
  refine MetFree.of_bodySF (plainFor_of_name pn_1) hisR ?_
  intro p e s m args below meth c s₁ Bd hml0 hP hK
  obtain ⟨rfl, hZ, hh⟩ := hP
  have hx := Bd.exec
  have hby := Bd.bytes
  have hml : c.maxLocals = 2 := hml0
  have hown : s.vm.findClass "com/example/typeflow/typeflow/classfile/ClassFileInput" = some m.cls := findClass_of_methodNamed Bd.named
  have hnm := (name_of_methodNamed Bd.named Bd.method).1
  have hlk : meth.locks = false := Bd.notSynchronized
  have X0 : Stand p l e ({ frames := 0, cells := 0, slots := 0, locals := 0 } : Room) s m #[(.ref arr), (.int (1 : Int32))] below meth c s₁ [] 0 0 := Stand.of_body Bd
  have e0 : s₁.heap = h0 := by rw [← hh, Bd.state]; rfl
  have N0 := Fr.nil n0
  refine Comes.out (Q := Q_rm1_1 Z arr kb y0 y1 y2 y3 h0 n0) (kc := ({ frames := 0, cells := 0, slots := 0, locals := 0 } : Room).cells) (ks := ({ frames := 0, cells := 0, slots := 0, locals := 0 } : Room).slots) ?_
  refine Comes.cast (ef_rm1_1 m arr) ?_
  have lt_arr : arr < h0.size := G0.lt
  show Comes p e below _ (s₁.setTop (mkF m 0 #[.val (.ref arr), .val (.int (1 : Int32))] []))
  refine Comes.st (fun t k => XS.aloadN X0.here hx rfl (hb hby d1_0) rfl rfl (XS.iloadN X0.here hx rfl (hb hby d1_1) rfl k)) ?_
  show Comes p e below _ (s₁.setTop (mkF m 2 #[.val (.ref arr), .val (.int (1 : Int32))] [(.int (1 : Int32)), (.ref arr)]))
  obtain ⟨cl1, Ar1, q1, S1, Ng1, H1, Gf1⟩ := id G0
  have hin1 : ¬ ((1 : Int32) < 0 ∨ cl1.slots.size ≤ ((1 : Int32)).toNatClampNeg) := inb_of S1 ⟨by decide, by decide⟩
  refine Comes.st (fun t k => X0.baloadBytes hx (j := (1 : Int32)) (v := (.int y1)) (by rw [e0]; exact Ar1.1) (State.isArrayOf_alike hZ.alike Ar1.2.1) Ar1.2.2 hin1 (Has.at H1 hin1 rfl) (g := (mkF m 2 #[.val (.ref arr), .val (.int (1 : Int32))] [(.int (1 : Int32)), (.ref arr)])) rfl rfl (hb hby d1_2) _ (XS.sipush X0.here hx rfl (hb hby d1_3) (XS.iand X0.here hx rfl (hb hby d1_6) rfl (XS.bipush X0.here hx rfl (hb hby d1_7) (XS.ishl X0.here hx rfl (hb hby d1_9) rfl (XS.aloadN X0.here hx rfl (hb hby d1_10) rfl rfl k)))))) ?_
  show Comes p e below _ (s₁.setTop (mkF m 11 #[.val (.ref arr), .val (.int (1 : Int32))] [(.ref arr), (.int ((y1 &&& (255 : Int32)) <<< ((8 : Int32) &&& 31)))]))
  refine Comes.st (fun t k => XS.iloadN X0.here hx rfl (hb hby d1_11) rfl (XS.iconst X0.here hx rfl (hb hby d1_12) (XS.iadd X0.here hx rfl (hb hby d1_13) rfl k))) ?_
  show Comes p e below _ (s₁.setTop (mkF m 14 #[.val (.ref arr), .val (.int (1 : Int32))] [(.int ((1 : Int32) + (1 : Int32))), (.ref arr), (.int ((y1 &&& (255 : Int32)) <<< ((8 : Int32) &&& 31)))]))
  rw [show ((1 : Int32) + (1 : Int32)) = (2 : Int32) from by decide]
  show Comes p e below _ (s₁.setTop (mkF m 14 #[.val (.ref arr), .val (.int (1 : Int32))] [(.int (2 : Int32)), (.ref arr), (.int ((y1 &&& (255 : Int32)) <<< ((8 : Int32) &&& 31)))]))
  obtain ⟨cl2, Ar2, q2, S2, Ng2, H2, Gf2⟩ := id G0
  have hin2 : ¬ ((2 : Int32) < 0 ∨ cl2.slots.size ≤ ((2 : Int32)).toNatClampNeg) := inb_of S2 ⟨by decide, by decide⟩
  refine Comes.st (fun t k => X0.baloadBytes hx (j := (2 : Int32)) (v := (.int y2)) (by rw [e0]; exact Ar2.1) (State.isArrayOf_alike hZ.alike Ar2.2.1) Ar2.2.2 hin2 (Has.at H2 hin2 rfl) (g := (mkF m 14 #[.val (.ref arr), .val (.int (1 : Int32))] [(.int (2 : Int32)), (.ref arr), (.int ((y1 &&& (255 : Int32)) <<< ((8 : Int32) &&& 31)))])) rfl rfl (hb hby d1_14) _ (XS.sipush X0.here hx rfl (hb hby d1_15) (XS.iand X0.here hx rfl (hb hby d1_18) rfl (XS.ior X0.here hx rfl (hb hby d1_19) rfl k)))) ?_
  show Comes p e below _ (s₁.setTop (mkF m 20 #[.val (.ref arr), .val (.int (1 : Int32))] [(.int (((y1 &&& (255 : Int32)) <<< ((8 : Int32) &&& 31)) ||| (y2 &&& (255 : Int32))))]))
  exact Comes.retV X0 hx Bd.returns rfl (Or.inl ⟨rfl, Or.inl rfl, _, rfl⟩) hlk (hb hby d1_20) e0 ⟨(((y1 &&& (255 : Int32)) <<< ((8 : Int32) &&& 31)) ||| (y2 &&& (255 : Int32))), rfl, N0, rfl, (by rfl)⟩ (by decide) (by decide)
def Q_rm1_2 (Z : State) (arr : Addr) (kb : ClassId) (y0 : Int32) (y1 : Int32) (y2 : Int32) (y3 : Int32) (h0 : Heap) (n0 : Nat) (v : Option Value) (h : Heap) (L : List Loc) : Prop := ∃ (r : Int32), (v = some (.int r)) ∧ (Fr n0 L) ∧ (h = h0) ∧ (r = (((y2 &&& (255 : Int32)) <<< ((8 : Int32) &&& 31)) ||| (y3 &&& (255 : Int32))))
set_option maxRecDepth 65536 in
set_option maxHeartbeats 40000000 in
theorem rm1_2 (l : Launch) (Z : State) (a0 : Array Value) (hw : ∀ d ∈ tables_1, d.before a0 Z = true) (ws : List Jvm.Cond) (arr : Addr) (kb : ClassId) (y0 : Int32) (y1 : Int32) (y2 : Int32) (y3 : Int32) (h0 : Heap) (n0 : Nat) (Z0 : n0 ≤ h0.size) (G0 : Arv Z h0 arr kb .byte (4 : Int32) [(.int y0), (.int y1), (.int y2), (.int y3)] (.int (0 : Int32))) :
    MetFree l (⟨"com/example/typeflow/typeflow/classfile/ClassFileInput", "u2", "([BI)I"⟩ : MethodName) (head1 (Jvm.Cond.code (⟨"com/example/typeflow/typeflow/classfile/ClassFileInput", "u2", "([BI)I"⟩ : MethodName) prog_55_method_13_code 2 (some .int) :: ws) ({ frames := 0, cells := 0, slots := 0, locals := 0 } : Room)) (fun a U => a = #[(.ref arr), (.int (2 : Int32))] ∧ Z.Warmed39 U.vm ∧ U.heap = h0) (fun _ _ _ _ _ => True) (fun _ U o U' => ∃ v L, o = .returned v ∧ Q_rm1_2 Z arr kb y0 y1 y2 y3 h0 n0 v U'.heap L ∧ FrameEnd U o U' L ({ frames := 0, cells := 0, slots := 0, locals := 0 } : Room).cells ({ frames := 0, cells := 0, slots := 0, locals := 0 } : Room).slots) := by
  refine MetFree.of_bodySF (plainFor_of_name pn_1) hisR ?_
  intro p e s m args below meth c s₁ Bd hml0 hP hK
  obtain ⟨rfl, hZ, hh⟩ := hP
  have hx := Bd.exec
  have hby := Bd.bytes
  have hml : c.maxLocals = 2 := hml0
  have hown : s.vm.findClass "com/example/typeflow/typeflow/classfile/ClassFileInput" = some m.cls := findClass_of_methodNamed Bd.named
  have hnm := (name_of_methodNamed Bd.named Bd.method).1
  have hlk : meth.locks = false := Bd.notSynchronized
  have X0 : Stand p l e ({ frames := 0, cells := 0, slots := 0, locals := 0 } : Room) s m #[(.ref arr), (.int (2 : Int32))] below meth c s₁ [] 0 0 := Stand.of_body Bd
  have e0 : s₁.heap = h0 := by rw [← hh, Bd.state]; rfl
  have N0 := Fr.nil n0
  refine Comes.out (Q := Q_rm1_2 Z arr kb y0 y1 y2 y3 h0 n0) (kc := ({ frames := 0, cells := 0, slots := 0, locals := 0 } : Room).cells) (ks := ({ frames := 0, cells := 0, slots := 0, locals := 0 } : Room).slots) ?_
  refine Comes.cast (ef_rm1_2 m arr) ?_
  have lt_arr : arr < h0.size := G0.lt
  show Comes p e below _ (s₁.setTop (mkF m 0 #[.val (.ref arr), .val (.int (2 : Int32))] []))
  refine Comes.st (fun t k => XS.aloadN X0.here hx rfl (hb hby d1_0) rfl rfl (XS.iloadN X0.here hx rfl (hb hby d1_1) rfl k)) ?_
  show Comes p e below _ (s₁.setTop (mkF m 2 #[.val (.ref arr), .val (.int (2 : Int32))] [(.int (2 : Int32)), (.ref arr)]))
  obtain ⟨cl1, Ar1, q1, S1, Ng1, H1, Gf1⟩ := id G0
  have hin1 : ¬ ((2 : Int32) < 0 ∨ cl1.slots.size ≤ ((2 : Int32)).toNatClampNeg) := inb_of S1 ⟨by decide, by decide⟩
  refine Comes.st (fun t k => X0.baloadBytes hx (j := (2 : Int32)) (v := (.int y2)) (by rw [e0]; exact Ar1.1) (State.isArrayOf_alike hZ.alike Ar1.2.1) Ar1.2.2 hin1 (Has.at H1 hin1 rfl) (g := (mkF m 2 #[.val (.ref arr), .val (.int (2 : Int32))] [(.int (2 : Int32)), (.ref arr)])) rfl rfl (hb hby d1_2) _ (XS.sipush X0.here hx rfl (hb hby d1_3) (XS.iand X0.here hx rfl (hb hby d1_6) rfl (XS.bipush X0.here hx rfl (hb hby d1_7) (XS.ishl X0.here hx rfl (hb hby d1_9) rfl (XS.aloadN X0.here hx rfl (hb hby d1_10) rfl rfl k)))))) ?_
  show Comes p e below _ (s₁.setTop (mkF m 11 #[.val (.ref arr), .val (.int (2 : Int32))] [(.ref arr), (.int ((y2 &&& (255 : Int32)) <<< ((8 : Int32) &&& 31)))]))
  refine Comes.st (fun t k => XS.iloadN X0.here hx rfl (hb hby d1_11) rfl (XS.iconst X0.here hx rfl (hb hby d1_12) (XS.iadd X0.here hx rfl (hb hby d1_13) rfl k))) ?_
  show Comes p e below _ (s₁.setTop (mkF m 14 #[.val (.ref arr), .val (.int (2 : Int32))] [(.int ((2 : Int32) + (1 : Int32))), (.ref arr), (.int ((y2 &&& (255 : Int32)) <<< ((8 : Int32) &&& 31)))]))
  rw [show ((2 : Int32) + (1 : Int32)) = (3 : Int32) from by decide]
  show Comes p e below _ (s₁.setTop (mkF m 14 #[.val (.ref arr), .val (.int (2 : Int32))] [(.int (3 : Int32)), (.ref arr), (.int ((y2 &&& (255 : Int32)) <<< ((8 : Int32) &&& 31)))]))
  obtain ⟨cl2, Ar2, q2, S2, Ng2, H2, Gf2⟩ := id G0
  have hin2 : ¬ ((3 : Int32) < 0 ∨ cl2.slots.size ≤ ((3 : Int32)).toNatClampNeg) := inb_of S2 ⟨by decide, by decide⟩
  refine Comes.st (fun t k => X0.baloadBytes hx (j := (3 : Int32)) (v := (.int y3)) (by rw [e0]; exact Ar2.1) (State.isArrayOf_alike hZ.alike Ar2.2.1) Ar2.2.2 hin2 (Has.at H2 hin2 rfl) (g := (mkF m 14 #[.val (.ref arr), .val (.int (2 : Int32))] [(.int (3 : Int32)), (.ref arr), (.int ((y2 &&& (255 : Int32)) <<< ((8 : Int32) &&& 31)))])) rfl rfl (hb hby d1_14) _ (XS.sipush X0.here hx rfl (hb hby d1_15) (XS.iand X0.here hx rfl (hb hby d1_18) rfl (XS.ior X0.here hx rfl (hb hby d1_19) rfl k)))) ?_
  show Comes p e below _ (s₁.setTop (mkF m 20 #[.val (.ref arr), .val (.int (2 : Int32))] [(.int (((y2 &&& (255 : Int32)) <<< ((8 : Int32) &&& 31)) ||| (y3 &&& (255 : Int32))))]))
  exact Comes.retV X0 hx Bd.returns rfl (Or.inl ⟨rfl, Or.inl rfl, _, rfl⟩) hlk (hb hby d1_20) e0 ⟨(((y2 &&& (255 : Int32)) <<< ((8 : Int32) &&& 31)) ||| (y3 &&& (255 : Int32))), rfl, N0, rfl, (by rfl)⟩ (by decide) (by decide)
def Q_rm0 (Z : State) (ia0 : Int32) (ia1 : Int32) (ia2 : Int32) (ia3 : Int32) (off : Int32) (h0 : Heap) (n0 : Nat) (v : Option Value) (h : Heap) (L : List Loc) : Prop := (v = some (.int (1 : Int32))) ∧ (Fr n0 L)
set_option maxRecDepth 65536 in
set_option maxHeartbeats 40000000 in
theorem rm0 (l : Launch) (Z : State) (a0 : Array Value) (hw : ∀ d ∈ tables_1, d.before a0 Z = true) (ws : List Jvm.Cond) (ia0 : Int32) (ia1 : Int32) (ia2 : Int32) (ia3 : Int32) (off : Int32) (h0 : Heap) (n0 : Nat) (Z0 : n0 ≤ h0.size) :
    MetFree l x (head1 (Jvm.Cond.code x code maxLocals ret :: ws) room_1) (fun a U => a = #[(.int ia0), (.int ia1), (.int ia2), (.int ia3), (.int off)] ∧ Z.Warmed39 U.vm ∧ U.heap = h0) (fun _ _ _ _ _ => True) (fun _ U o U' => ∃ v L, o = .returned v ∧ Q_rm0 Z ia0 ia1 ia2 ia3 off h0 n0 v U'.heap L ∧ FrameEnd U o U' L room_1.cells room_1.slots) := by
  refine MetFree.of_bodySF (plainFor_of_name pn_0) hisR ?_
  intro p e s m args below meth c s₁ Bd hml0 hP hK
  obtain ⟨rfl, hZ, hh⟩ := hP
  have hx := Bd.exec
  have hby := Bd.bytes
  have hml : c.maxLocals = 10 := hml0
  have hown : s.vm.findClass "com/example/typeflow/typeflow/classfile/ClassFileInputU2PinLaw" = some m.cls := findClass_of_methodNamed Bd.named
  have hnm := (name_of_methodNamed Bd.named Bd.method).1
  have hlk : meth.locks = false := Bd.notSynchronized
  have X0 : Stand p l e room_1 s m #[(.int ia0), (.int ia1), (.int ia2), (.int ia3), (.int off)] below meth c s₁ [] 0 0 := Stand.of_body Bd
  have e0 : s₁.heap = h0 := by rw [← hh, Bd.state]; rfl
  have N0 := Fr.nil n0
  refine Comes.out (Q := Q_rm0 Z ia0 ia1 ia2 ia3 off h0 n0) (kc := room_1.cells) (ks := room_1.slots) ?_
  refine Comes.cast (ef_rm0 m ia0 ia1 ia2 ia3 off) ?_
  show Comes p e below _ (s₁.setTop (mkF m 0 #[.val (.int ia0), .val (.int ia1), .val (.int ia2), .val (.int ia3), .val (.int off), .unset, .unset, .unset, .unset, .unset] []))
  refine Comes.st (fun t k => XS.iconst X0.here hx rfl (hb hby at_0) k) ?_
  show Comes p e below _ (s₁.setTop (mkF m 1 #[.val (.int ia0), .val (.int ia1), .val (.int ia2), .val (.int ia3), .val (.int off), .unset, .unset, .unset, .unset, .unset] [(.int (4 : Int32))]))
  obtain ⟨T1, h1, k1, X1, e1, E1, A1, st1⟩ := newP X0 hx hZ (hw _ (List.mem_of_getElem? (i := 0) rfl)) e0 (g := (mkF m 1 #[.val (.int ia0), .val (.int ia1), .val (.int ia2), .val (.int ia3), .val (.int off), .unset, .unset, .unset, .unset, .unset] [(.int (4 : Int32))])) rfl (hb hby at_1) rfl (by decide) (cap := 4) (by decide) (by decide) (by decide) (by decide)
  obtain ⟨b1, g1⟩ : ∃ z, z = h0.size := ⟨_, rfl⟩
  rw [← g1] at A1 st1
  have z1 : h0.size ≤ h1.size := E1.1
  have lt1 : b1 < h1.size := A1.lt
  have V1 : Arv Z h1 b1 k1 .byte (4 : Int32) [(.int (0 : Int32)), (.int (0 : Int32)), (.int (0 : Int32)), (.int (0 : Int32))] (.int (0 : Int32)) := (Arv.new A1 (by decide)).pad (pad_rep [] (.int (0 : Int32)) 4)
  refine Comes.st st1 ?_
  show Comes p e below _ (T1.setTop (mkF m 3 #[.val (.int ia0), .val (.int ia1), .val (.int ia2), .val (.int ia3), .val (.int off), .unset, .unset, .unset, .unset, .unset] [(.ref b1)]))
  refine Comes.st (fun t k => XS.dup X1.here hx rfl (hb hby at_3) rfl rfl (XS.iconst X1.here hx rfl (hb hby at_4) (XS.iloadN X1.here hx rfl (hb hby at_5) rfl (XS.i2b X1.here hx rfl (hb hby at_6) rfl k)))) ?_
  show Comes p e below _ (T1.setTop (mkF m 7 #[.val (.int ia0), .val (.int ia1), .val (.int ia2), .val (.int ia3), .val (.int off), .unset, .unset, .unset, .unset, .unset] [(.int (ia0.toInt8.toInt32)), (.int (0 : Int32)), (.ref b1), (.ref b1)]))
  obtain ⟨cl2, Ar2, q2, S2, Ng2, H2, Gf2⟩ := id V1
  have hin2 : ¬ ((0 : Int32) < 0 ∨ cl2.slots.size ≤ ((0 : Int32)).toNatClampNeg) := inb_of S2 ⟨by decide, by decide⟩
  obtain ⟨T2, h2, X2, e2, W2, st2⟩ := stB X1 hx hZ e1 Ar2 (j := (0 : Int32)) hin2 (g := (mkF m 7 #[.val (.int ia0), .val (.int ia1), .val (.int ia2), .val (.int ia3), .val (.int off), .unset, .unset, .unset, .unset, .unset] [(.int (ia0.toInt8.toInt32)), (.int (0 : Int32)), (.ref b1), (.ref b1)])) rfl rfl (hb hby at_7)
  have V2 : Arv Z h2 b1 k1 .byte (4 : Int32) [(.int (nar .byte (ia0.toInt8.toInt32))), (.int (0 : Int32)), (.int (0 : Int32)), (.int (0 : Int32))] (.int (0 : Int32)) := Arv.set Ar2 q2 S2 Ng2 H2 Gf2 (fits_nar_byte _) W2 0 rfl (Nat.le_of_ble_eq_true rfl)
  have z2 : h2.size = h1.size := W2.size
  have N2 := Fr.snoc X2 N0 (by omega)
  refine Comes.st st2 ?_
  show Comes p e below _ (T2.setTop (mkF m 8 #[.val (.int ia0), .val (.int ia1), .val (.int ia2), .val (.int ia3), .val (.int off), .unset, .unset, .unset, .unset, .unset] [(.ref b1)]))
  refine Comes.st (fun t k => XS.dup X2.here hx rfl (hb hby at_8) rfl rfl (XS.iconst X2.here hx rfl (hb hby at_9) (XS.iloadN X2.here hx rfl (hb hby at_10) rfl (XS.i2b X2.here hx rfl (hb hby at_11) rfl k)))) ?_
  show Comes p e below _ (T2.setTop (mkF m 12 #[.val (.int ia0), .val (.int ia1), .val (.int ia2), .val (.int ia3), .val (.int off), .unset, .unset, .unset, .unset, .unset] [(.int (ia1.toInt8.toInt32)), (.int (1 : Int32)), (.ref b1), (.ref b1)]))
  obtain ⟨cl3, Ar3, q3, S3, Ng3, H3, Gf3⟩ := id V2
  have hin3 : ¬ ((1 : Int32) < 0 ∨ cl3.slots.size ≤ ((1 : Int32)).toNatClampNeg) := inb_of S3 ⟨by decide, by decide⟩
  obtain ⟨T3, h3, X3, e3, W3, st3⟩ := stB X2 hx hZ e2 Ar3 (j := (1 : Int32)) hin3 (g := (mkF m 12 #[.val (.int ia0), .val (.int ia1), .val (.int ia2), .val (.int ia3), .val (.int off), .unset, .unset, .unset, .unset, .unset] [(.int (ia1.toInt8.toInt32)), (.int (1 : Int32)), (.ref b1), (.ref b1)])) rfl rfl (hb hby at_12)
  have V3 : Arv Z h3 b1 k1 .byte (4 : Int32) [(.int (nar .byte (ia0.toInt8.toInt32))), (.int (nar .byte (ia1.toInt8.toInt32))), (.int (0 : Int32)), (.int (0 : Int32))] (.int (0 : Int32)) := Arv.set Ar3 q3 S3 Ng3 H3 Gf3 (fits_nar_byte _) W3 1 rfl (Nat.le_of_ble_eq_true rfl)
  have z3 : h3.size = h2.size := W3.size
  have N3 := Fr.snoc X3 N2 (by omega)
  refine Comes.st st3 ?_
  show Comes p e below _ (T3.setTop (mkF m 13 #[.val (.int ia0), .val (.int ia1), .val (.int ia2), .val (.int ia3), .val (.int off), .unset, .unset, .unset, .unset, .unset] [(.ref b1)]))
  refine Comes.st (fun t k => XS.dup X3.here hx rfl (hb hby at_13) rfl rfl (XS.iconst X3.here hx rfl (hb hby at_14) (XS.iloadN X3.here hx rfl (hb hby at_15) rfl (XS.i2b X3.here hx rfl (hb hby at_16) rfl k)))) ?_
  show Comes p e below _ (T3.setTop (mkF m 17 #[.val (.int ia0), .val (.int ia1), .val (.int ia2), .val (.int ia3), .val (.int off), .unset, .unset, .unset, .unset, .unset] [(.int (ia2.toInt8.toInt32)), (.int (2 : Int32)), (.ref b1), (.ref b1)]))
  obtain ⟨cl4, Ar4, q4, S4, Ng4, H4, Gf4⟩ := id V3
  have hin4 : ¬ ((2 : Int32) < 0 ∨ cl4.slots.size ≤ ((2 : Int32)).toNatClampNeg) := inb_of S4 ⟨by decide, by decide⟩
  obtain ⟨T4, h4, X4, e4, W4, st4⟩ := stB X3 hx hZ e3 Ar4 (j := (2 : Int32)) hin4 (g := (mkF m 17 #[.val (.int ia0), .val (.int ia1), .val (.int ia2), .val (.int ia3), .val (.int off), .unset, .unset, .unset, .unset, .unset] [(.int (ia2.toInt8.toInt32)), (.int (2 : Int32)), (.ref b1), (.ref b1)])) rfl rfl (hb hby at_17)
  have V4 : Arv Z h4 b1 k1 .byte (4 : Int32) [(.int (nar .byte (ia0.toInt8.toInt32))), (.int (nar .byte (ia1.toInt8.toInt32))), (.int (nar .byte (ia2.toInt8.toInt32))), (.int (0 : Int32))] (.int (0 : Int32)) := Arv.set Ar4 q4 S4 Ng4 H4 Gf4 (fits_nar_byte _) W4 2 rfl (Nat.le_of_ble_eq_true rfl)
  have z4 : h4.size = h3.size := W4.size
  have N4 := Fr.snoc X4 N3 (by omega)
  refine Comes.st st4 ?_
  show Comes p e below _ (T4.setTop (mkF m 18 #[.val (.int ia0), .val (.int ia1), .val (.int ia2), .val (.int ia3), .val (.int off), .unset, .unset, .unset, .unset, .unset] [(.ref b1)]))
  refine Comes.st (fun t k => XS.dup X4.here hx rfl (hb hby at_18) rfl rfl (XS.iconst X4.here hx rfl (hb hby at_19) (XS.iloadN X4.here hx rfl (hb hby at_20) rfl (XS.i2b X4.here hx rfl (hb hby at_21) rfl k)))) ?_
  show Comes p e below _ (T4.setTop (mkF m 22 #[.val (.int ia0), .val (.int ia1), .val (.int ia2), .val (.int ia3), .val (.int off), .unset, .unset, .unset, .unset, .unset] [(.int (ia3.toInt8.toInt32)), (.int (3 : Int32)), (.ref b1), (.ref b1)]))
  obtain ⟨cl5, Ar5, q5, S5, Ng5, H5, Gf5⟩ := id V4
  have hin5 : ¬ ((3 : Int32) < 0 ∨ cl5.slots.size ≤ ((3 : Int32)).toNatClampNeg) := inb_of S5 ⟨by decide, by decide⟩
  obtain ⟨T5, h5, X5, e5, W5, st5⟩ := stB X4 hx hZ e4 Ar5 (j := (3 : Int32)) hin5 (g := (mkF m 22 #[.val (.int ia0), .val (.int ia1), .val (.int ia2), .val (.int ia3), .val (.int off), .unset, .unset, .unset, .unset, .unset] [(.int (ia3.toInt8.toInt32)), (.int (3 : Int32)), (.ref b1), (.ref b1)])) rfl rfl (hb hby at_22)
  have V5 : Arv Z h5 b1 k1 .byte (4 : Int32) [(.int (nar .byte (ia0.toInt8.toInt32))), (.int (nar .byte (ia1.toInt8.toInt32))), (.int (nar .byte (ia2.toInt8.toInt32))), (.int (nar .byte (ia3.toInt8.toInt32)))] (.int (0 : Int32)) := Arv.set Ar5 q5 S5 Ng5 H5 Gf5 (fits_nar_byte _) W5 3 rfl (Nat.le_of_ble_eq_true rfl)
  have z5 : h5.size = h4.size := W5.size
  have N5 := Fr.snoc X5 N4 (by omega)
  refine Comes.st st5 ?_
  show Comes p e below _ (T5.setTop (mkF m 23 #[.val (.int ia0), .val (.int ia1), .val (.int ia2), .val (.int ia3), .val (.int off), .unset, .unset, .unset, .unset, .unset] [(.ref b1)]))
  refine Comes.st (fun t k => XS.astore X5.here hx rfl (hb hby at_23) rfl rfl (l' := #[.val (.int ia0), .val (.int ia1), .val (.int ia2), .val (.int ia3), .val (.int off), .val (.ref b1), .unset, .unset, .unset, .unset]) rfl (XS.iconst X5.here hx rfl (hb hby at_25) k)) ?_
  show Comes p e below _ (T5.setTop (mkF m 26 #[.val (.int ia0), .val (.int ia1), .val (.int ia2), .val (.int ia3), .val (.int off), .val (.ref b1), .unset, .unset, .unset, .unset] [(.int (4 : Int32))]))
  obtain ⟨T6, h6, k6, X6, e6, E6, A6, st6⟩ := newP X5 hx hZ (hw _ (List.mem_of_getElem? (i := 1) rfl)) e5 (g := (mkF m 26 #[.val (.int ia0), .val (.int ia1), .val (.int ia2), .val (.int ia3), .val (.int off), .val (.ref b1), .unset, .unset, .unset, .unset] [(.int (4 : Int32))])) rfl (hb hby at_26) rfl (by decide) (cap := 4) (by decide) (by decide) (by decide) (by decide)
  obtain ⟨b6, g6⟩ : ∃ z, z = h5.size := ⟨_, rfl⟩
  rw [← g6] at A6 st6
  have z6 : h5.size ≤ h6.size := E6.1
  have lt6 : b6 < h6.size := A6.lt
  have V6 : Arv Z h6 b6 k6 .int (4 : Int32) [(.int (0 : Int32)), (.int (0 : Int32)), (.int (0 : Int32)), (.int (0 : Int32))] (.int (0 : Int32)) := (Arv.new A6 (by decide)).pad (pad_rep [] (.int (0 : Int32)) 4)
  refine Comes.st st6 ?_
  show Comes p e below _ (T6.setTop (mkF m 28 #[.val (.int ia0), .val (.int ia1), .val (.int ia2), .val (.int ia3), .val (.int off), .val (.ref b1), .unset, .unset, .unset, .unset] [(.ref b6)]))
  refine Comes.st (fun t k => XS.dup X6.here hx rfl (hb hby at_28) rfl rfl (XS.iconst X6.here hx rfl (hb hby at_29) (XS.iloadN X6.here hx rfl (hb hby at_30) rfl (XS.sipush X6.here hx rfl (hb hby at_31) (XS.iand X6.here hx rfl (hb hby at_34) rfl k))))) ?_
  show Comes p e below _ (T6.setTop (mkF m 35 #[.val (.int ia0), .val (.int ia1), .val (.int ia2), .val (.int ia3), .val (.int off), .val (.ref b1), .unset, .unset, .unset, .unset] [(.int (ia0 &&& (255 : Int32))), (.int (0 : Int32)), (.ref b6), (.ref b6)]))
  generalize hv_v7 : (ia0 &&& (255 : Int32)) = v7
  show Comes p e below _ (T6.setTop (mkF m 35 #[.val (.int ia0), .val (.int ia1), .val (.int ia2), .val (.int ia3), .val (.int off), .val (.ref b1), .unset, .unset, .unset, .unset] [(.int v7), (.int (0 : Int32)), (.ref b6), (.ref b6)]))
  obtain ⟨cl8, Ar8, q8, S8, Ng8, H8, Gf8⟩ := id V6
  have hin8 : ¬ ((0 : Int32) < 0 ∨ cl8.slots.size ≤ ((0 : Int32)).toNatClampNeg) := inb_of S8 ⟨by decide, by decide⟩
  obtain ⟨T8, h8, X8, e8, W8, st8⟩ := stI X6 hx hZ e6 Ar8 (j := (0 : Int32)) hin8 (g := (mkF m 35 #[.val (.int ia0), .val (.int ia1), .val (.int ia2), .val (.int ia3), .val (.int off), .val (.ref b1), .unset, .unset, .unset, .unset] [(.int v7), (.int (0 : Int32)), (.ref b6), (.ref b6)])) rfl rfl (hb hby at_35)
  have V8 : Arv Z h8 b6 k6 .int (4 : Int32) [(.int v7), (.int (0 : Int32)), (.int (0 : Int32)), (.int (0 : Int32))] (.int (0 : Int32)) := Arv.set Ar8 q8 S8 Ng8 H8 Gf8 rfl W8 0 rfl (Nat.le_of_ble_eq_true rfl)
  have z8 : h8.size = h6.size := W8.size
  have N8 := Fr.snoc X8 N5 (by omega)
  refine Comes.st st8 ?_
  show Comes p e below _ (T8.setTop (mkF m 36 #[.val (.int ia0), .val (.int ia1), .val (.int ia2), .val (.int ia3), .val (.int off), .val (.ref b1), .unset, .unset, .unset, .unset] [(.ref b6)]))
  refine Comes.st (fun t k => XS.dup X8.here hx rfl (hb hby at_36) rfl rfl (XS.iconst X8.here hx rfl (hb hby at_37) (XS.iloadN X8.here hx rfl (hb hby at_38) rfl (XS.sipush X8.here hx rfl (hb hby at_39) (XS.iand X8.here hx rfl (hb hby at_42) rfl k))))) ?_
  show Comes p e below _ (T8.setTop (mkF m 43 #[.val (.int ia0), .val (.int ia1), .val (.int ia2), .val (.int ia3), .val (.int off), .val (.ref b1), .unset, .unset, .unset, .unset] [(.int (ia1 &&& (255 : Int32))), (.int (1 : Int32)), (.ref b6), (.ref b6)]))
  generalize hv_v9 : (ia1 &&& (255 : Int32)) = v9
  show Comes p e below _ (T8.setTop (mkF m 43 #[.val (.int ia0), .val (.int ia1), .val (.int ia2), .val (.int ia3), .val (.int off), .val (.ref b1), .unset, .unset, .unset, .unset] [(.int v9), (.int (1 : Int32)), (.ref b6), (.ref b6)]))
  obtain ⟨cl10, Ar10, q10, S10, Ng10, H10, Gf10⟩ := id V8
  have hin10 : ¬ ((1 : Int32) < 0 ∨ cl10.slots.size ≤ ((1 : Int32)).toNatClampNeg) := inb_of S10 ⟨by decide, by decide⟩
  obtain ⟨T10, h10, X10, e10, W10, st10⟩ := stI X8 hx hZ e8 Ar10 (j := (1 : Int32)) hin10 (g := (mkF m 43 #[.val (.int ia0), .val (.int ia1), .val (.int ia2), .val (.int ia3), .val (.int off), .val (.ref b1), .unset, .unset, .unset, .unset] [(.int v9), (.int (1 : Int32)), (.ref b6), (.ref b6)])) rfl rfl (hb hby at_43)
  have V10 : Arv Z h10 b6 k6 .int (4 : Int32) [(.int v7), (.int v9), (.int (0 : Int32)), (.int (0 : Int32))] (.int (0 : Int32)) := Arv.set Ar10 q10 S10 Ng10 H10 Gf10 rfl W10 1 rfl (Nat.le_of_ble_eq_true rfl)
  have z10 : h10.size = h8.size := W10.size
  have N10 := Fr.snoc X10 N8 (by omega)
  refine Comes.st st10 ?_
  show Comes p e below _ (T10.setTop (mkF m 44 #[.val (.int ia0), .val (.int ia1), .val (.int ia2), .val (.int ia3), .val (.int off), .val (.ref b1), .unset, .unset, .unset, .unset] [(.ref b6)]))
  refine Comes.st (fun t k => XS.dup X10.here hx rfl (hb hby at_44) rfl rfl (XS.iconst X10.here hx rfl (hb hby at_45) (XS.iloadN X10.here hx rfl (hb hby at_46) rfl (XS.sipush X10.here hx rfl (hb hby at_47) (XS.iand X10.here hx rfl (hb hby at_50) rfl k))))) ?_
  show Comes p e below _ (T10.setTop (mkF m 51 #[.val (.int ia0), .val (.int ia1), .val (.int ia2), .val (.int ia3), .val (.int off), .val (.ref b1), .unset, .unset, .unset, .unset] [(.int (ia2 &&& (255 : Int32))), (.int (2 : Int32)), (.ref b6), (.ref b6)]))
  generalize hv_v11 : (ia2 &&& (255 : Int32)) = v11
  show Comes p e below _ (T10.setTop (mkF m 51 #[.val (.int ia0), .val (.int ia1), .val (.int ia2), .val (.int ia3), .val (.int off), .val (.ref b1), .unset, .unset, .unset, .unset] [(.int v11), (.int (2 : Int32)), (.ref b6), (.ref b6)]))
  obtain ⟨cl12, Ar12, q12, S12, Ng12, H12, Gf12⟩ := id V10
  have hin12 : ¬ ((2 : Int32) < 0 ∨ cl12.slots.size ≤ ((2 : Int32)).toNatClampNeg) := inb_of S12 ⟨by decide, by decide⟩
  obtain ⟨T12, h12, X12, e12, W12, st12⟩ := stI X10 hx hZ e10 Ar12 (j := (2 : Int32)) hin12 (g := (mkF m 51 #[.val (.int ia0), .val (.int ia1), .val (.int ia2), .val (.int ia3), .val (.int off), .val (.ref b1), .unset, .unset, .unset, .unset] [(.int v11), (.int (2 : Int32)), (.ref b6), (.ref b6)])) rfl rfl (hb hby at_51)
  have V12 : Arv Z h12 b6 k6 .int (4 : Int32) [(.int v7), (.int v9), (.int v11), (.int (0 : Int32))] (.int (0 : Int32)) := Arv.set Ar12 q12 S12 Ng12 H12 Gf12 rfl W12 2 rfl (Nat.le_of_ble_eq_true rfl)
  have z12 : h12.size = h10.size := W12.size
  have N12 := Fr.snoc X12 N10 (by omega)
  refine Comes.st st12 ?_
  show Comes p e below _ (T12.setTop (mkF m 52 #[.val (.int ia0), .val (.int ia1), .val (.int ia2), .val (.int ia3), .val (.int off), .val (.ref b1), .unset, .unset, .unset, .unset] [(.ref b6)]))
  refine Comes.st (fun t k => XS.dup X12.here hx rfl (hb hby at_52) rfl rfl (XS.iconst X12.here hx rfl (hb hby at_53) (XS.iloadN X12.here hx rfl (hb hby at_54) rfl (XS.sipush X12.here hx rfl (hb hby at_55) (XS.iand X12.here hx rfl (hb hby at_58) rfl k))))) ?_
  show Comes p e below _ (T12.setTop (mkF m 59 #[.val (.int ia0), .val (.int ia1), .val (.int ia2), .val (.int ia3), .val (.int off), .val (.ref b1), .unset, .unset, .unset, .unset] [(.int (ia3 &&& (255 : Int32))), (.int (3 : Int32)), (.ref b6), (.ref b6)]))
  generalize hv_v13 : (ia3 &&& (255 : Int32)) = v13
  show Comes p e below _ (T12.setTop (mkF m 59 #[.val (.int ia0), .val (.int ia1), .val (.int ia2), .val (.int ia3), .val (.int off), .val (.ref b1), .unset, .unset, .unset, .unset] [(.int v13), (.int (3 : Int32)), (.ref b6), (.ref b6)]))
  obtain ⟨cl14, Ar14, q14, S14, Ng14, H14, Gf14⟩ := id V12
  have hin14 : ¬ ((3 : Int32) < 0 ∨ cl14.slots.size ≤ ((3 : Int32)).toNatClampNeg) := inb_of S14 ⟨by decide, by decide⟩
  obtain ⟨T14, h14, X14, e14, W14, st14⟩ := stI X12 hx hZ e12 Ar14 (j := (3 : Int32)) hin14 (g := (mkF m 59 #[.val (.int ia0), .val (.int ia1), .val (.int ia2), .val (.int ia3), .val (.int off), .val (.ref b1), .unset, .unset, .unset, .unset] [(.int v13), (.int (3 : Int32)), (.ref b6), (.ref b6)])) rfl rfl (hb hby at_59)
  have V14 : Arv Z h14 b6 k6 .int (4 : Int32) [(.int v7), (.int v9), (.int v11), (.int v13)] (.int (0 : Int32)) := Arv.set Ar14 q14 S14 Ng14 H14 Gf14 rfl W14 3 rfl (Nat.le_of_ble_eq_true rfl)
  have z14 : h14.size = h12.size := W14.size
  have N14 := Fr.snoc X14 N12 (by omega)
  refine Comes.st st14 ?_
  show Comes p e below _ (T14.setTop (mkF m 60 #[.val (.int ia0), .val (.int ia1), .val (.int ia2), .val (.int ia3), .val (.int off), .val (.ref b1), .unset, .unset, .unset, .unset] [(.ref b6)]))
  refine Comes.st (fun t k => XS.astore X14.here hx rfl (hb hby at_60) rfl rfl (l' := #[.val (.int ia0), .val (.int ia1), .val (.int ia2), .val (.int ia3), .val (.int off), .val (.ref b1), .val (.ref b6), .unset, .unset, .unset]) rfl (XS.iload X14.here hx rfl (hb hby at_62) rfl (X14.ldcInt hx hown (mvT hZ (hw _ (List.mem_of_getElem? (i := 2) rfl))) (g := (mkF m 64 #[.val (.int ia0), .val (.int ia1), .val (.int ia2), .val (.int ia3), .val (.int off), .val (.ref b1), .val (.ref b6), .unset, .unset, .unset] [(.int off)])) rfl (hb hby at_64) _ (XS.iand X14.here hx rfl (hb hby at_66) rfl (XS.iconst X14.here hx rfl (hb hby at_67) k))))) ?_
  show Comes p e below _ (T14.setTop (mkF m 68 #[.val (.int ia0), .val (.int ia1), .val (.int ia2), .val (.int ia3), .val (.int off), .val (.ref b1), .val (.ref b6), .unset, .unset, .unset] [(.int (3 : Int32)), (.int (off &&& (2147483647 : Int32)))]))
  have hnz15 : ¬ ((3 : Int32) = (0 : Int32)) := by decide
  refine Comes.st (fun t k => iremM X14 hx rfl (hb hby at_68) rfl hnz15 k) ?_
  show Comes p e below _ (T14.setTop (mkF m 69 #[.val (.int ia0), .val (.int ia1), .val (.int ia2), .val (.int ia3), .val (.int off), .val (.ref b1), .val (.ref b6), .unset, .unset, .unset] [(.int ((off &&& (2147483647 : Int32)) % (3 : Int32)))]))
  generalize hv_v16 : ((off &&& (2147483647 : Int32)) % (3 : Int32)) = v16
  show Comes p e below _ (T14.setTop (mkF m 69 #[.val (.int ia0), .val (.int ia1), .val (.int ia2), .val (.int ia3), .val (.int off), .val (.ref b1), .val (.ref b6), .unset, .unset, .unset] [(.int v16)]))
  refine Comes.st (fun t k => XS.istore X14.here hx rfl (hb hby at_69) rfl (l' := #[.val (.int ia0), .val (.int ia1), .val (.int ia2), .val (.int ia3), .val (.int off), .val (.ref b1), .val (.ref b6), .val (.int v16), .unset, .unset]) rfl k) ?_
  have hsp17 : v16 = (0 : Int32) ∨ v16 = (1 : Int32) ∨ v16 = (2 : Int32) := by have a_0 := c_i2b ia0; have a_1 := c_i2b ia1; have a_2 := c_i2b ia2; have a_3 := c_i2b ia3; have a_4 := c_mask ia0 (255 : Int32) 8 (by decide) (by decide); rw [hv_v7] at a_4; have a_5 := c_mask ia1 (255 : Int32) 8 (by decide) (by decide); rw [hv_v9] at a_5; have a_6 := c_mask ia2 (255 : Int32) 8 (by decide) (by decide); rw [hv_v11] at a_6; have a_7 := c_mask ia3 (255 : Int32) 8 (by decide) (by decide); rw [hv_v13] at a_7; have a_8 := c_mask off (2147483647 : Int32) 31 (by decide) (by decide); have a_9 := c_irem (off &&& (2147483647 : Int32)) (3 : Int32) 3 (by decide); rw [hv_v16] at a_9; have a_10 := rng32 (ia0.toInt8.toInt32); have a_11 := rng32 (ia1.toInt8.toInt32); have a_12 := rng32 (ia2.toInt8.toInt32); have a_13 := rng32 (ia3.toInt8.toInt32); have a_14 := rng32 (off &&& (2147483647 : Int32)); have a_15 := rng32 ia0; have a_16 := rng32 ia1; have a_17 := rng32 ia2; have a_18 := rng32 ia3; have a_19 := rng32 off; have a_20 := rng32 v11; have a_21 := rng32 v13; have a_22 := rng32 v16; have a_23 := rng32 v7; have a_24 := rng32 v9; (simp only [Int32.lt_iff_toInt_lt, Int64.lt_iff_toInt_lt, ← Int32.toInt_inj, ← Int64.toInt_inj, Int32.reduceToInt, Int64.reduceToInt] at a_0 a_1 a_2 a_3 a_4 a_5 a_6 a_7 a_8 a_9 a_10 a_11 a_12 a_13 a_14 a_15 a_16 a_17 a_18 a_19 a_20 a_21 a_22 a_23 a_24 ⊢) <;> omega
  rcases hsp17 with rfl | rfl | rfl
  · show Comes p e below _ (T14.setTop (mkF m 71 #[.val (.int ia0), .val (.int ia1), .val (.int ia2), .val (.int ia3), .val (.int off), .val (.ref b1), .val (.ref b6), .val (.int (0 : Int32)), .unset, .unset] []))
    refine Comes.st (fun t k => XS.aload X14.here hx rfl (hb hby at_71) rfl rfl (XS.iload X14.here hx rfl (hb hby at_73) rfl k)) ?_
    show Comes p e below _ (T14.setTop (mkF m 75 #[.val (.int ia0), .val (.int ia1), .val (.int ia2), .val (.int ia3), .val (.int off), .val (.ref b1), .val (.ref b6), .val (.int (0 : Int32)), .unset, .unset] [(.int (0 : Int32)), (.ref b6)]))
    obtain ⟨cl18, Ar18, q18, S18, Ng18, H18, Gf18⟩ := id V14
    have hin18 : ¬ ((0 : Int32) < 0 ∨ cl18.slots.size ≤ ((0 : Int32)).toNatClampNeg) := inb_of S18 ⟨by decide, by decide⟩
    refine Comes.st (fun t k => X14.iaload hx (j := (0 : Int32)) (v := (.int v7)) (by rw [e14]; exact Ar18.1) (State.isArrayOf_alike hZ.alike Ar18.2.1) Ar18.2.2 hin18 (Has.at H18 hin18 rfl) (g := (mkF m 75 #[.val (.int ia0), .val (.int ia1), .val (.int ia2), .val (.int ia3), .val (.int off), .val (.ref b1), .val (.ref b6), .val (.int (0 : Int32)), .unset, .unset] [(.int (0 : Int32)), (.ref b6)])) rfl rfl (hb hby at_75) _ (XS.sipush X14.here hx rfl (hb hby at_76) (XS.imul X14.here hx rfl (hb hby at_79) rfl (XS.aload X14.here hx rfl (hb hby at_80) rfl rfl (XS.iload X14.here hx rfl (hb hby at_82) rfl (XS.iconst X14.here hx rfl (hb hby at_84) k)))))) ?_
    show Comes p e below _ (T14.setTop (mkF m 85 #[.val (.int ia0), .val (.int ia1), .val (.int ia2), .val (.int ia3), .val (.int off), .val (.ref b1), .val (.ref b6), .val (.int (0 : Int32)), .unset, .unset] [(.int (1 : Int32)), (.int (0 : Int32)), (.ref b6), (.int (v7 * (256 : Int32)))]))
    refine Comes.st (fun t k => XS.iadd X14.here hx rfl (hb hby at_85) rfl k) ?_
    show Comes p e below _ (T14.setTop (mkF m 86 #[.val (.int ia0), .val (.int ia1), .val (.int ia2), .val (.int ia3), .val (.int off), .val (.ref b1), .val (.ref b6), .val (.int (0 : Int32)), .unset, .unset] [(.int ((0 : Int32) + (1 : Int32))), (.ref b6), (.int (v7 * (256 : Int32)))]))
    rw [show ((0 : Int32) + (1 : Int32)) = (1 : Int32) from by decide]
    show Comes p e below _ (T14.setTop (mkF m 86 #[.val (.int ia0), .val (.int ia1), .val (.int ia2), .val (.int ia3), .val (.int off), .val (.ref b1), .val (.ref b6), .val (.int (0 : Int32)), .unset, .unset] [(.int (1 : Int32)), (.ref b6), (.int (v7 * (256 : Int32)))]))
    obtain ⟨cl19, Ar19, q19, S19, Ng19, H19, Gf19⟩ := id V14
    have hin19 : ¬ ((1 : Int32) < 0 ∨ cl19.slots.size ≤ ((1 : Int32)).toNatClampNeg) := inb_of S19 ⟨by decide, by decide⟩
    refine Comes.st (fun t k => X14.iaload hx (j := (1 : Int32)) (v := (.int v9)) (by rw [e14]; exact Ar19.1) (State.isArrayOf_alike hZ.alike Ar19.2.1) Ar19.2.2 hin19 (Has.at H19 hin19 rfl) (g := (mkF m 86 #[.val (.int ia0), .val (.int ia1), .val (.int ia2), .val (.int ia3), .val (.int off), .val (.ref b1), .val (.ref b6), .val (.int (0 : Int32)), .unset, .unset] [(.int (1 : Int32)), (.ref b6), (.int (v7 * (256 : Int32)))])) rfl rfl (hb hby at_86) _ (XS.iadd X14.here hx rfl (hb hby at_87) rfl k)) ?_
    show Comes p e below _ (T14.setTop (mkF m 88 #[.val (.int ia0), .val (.int ia1), .val (.int ia2), .val (.int ia3), .val (.int off), .val (.ref b1), .val (.ref b6), .val (.int (0 : Int32)), .unset, .unset] [(.int ((v7 * (256 : Int32)) + v9))]))
    generalize hv_v20 : ((v7 * (256 : Int32)) + v9) = v20
    show Comes p e below _ (T14.setTop (mkF m 88 #[.val (.int ia0), .val (.int ia1), .val (.int ia2), .val (.int ia3), .val (.int off), .val (.ref b1), .val (.ref b6), .val (.int (0 : Int32)), .unset, .unset] [(.int v20)]))
    refine Comes.st (fun t k => XS.istore X14.here hx rfl (hb hby at_88) rfl (l' := #[.val (.int ia0), .val (.int ia1), .val (.int ia2), .val (.int ia3), .val (.int off), .val (.ref b1), .val (.ref b6), .val (.int (0 : Int32)), .val (.int v20), .unset]) rfl (XS.aload X14.here hx rfl (hb hby at_90) rfl rfl (XS.iload X14.here hx rfl (hb hby at_92) rfl k))) ?_
    show Comes p e below _ (T14.setTop (mkF m 94 #[.val (.int ia0), .val (.int ia1), .val (.int ia2), .val (.int ia3), .val (.int off), .val (.ref b1), .val (.ref b6), .val (.int (0 : Int32)), .val (.int v20), .unset] [(.int (0 : Int32)), (.ref b1)]))
    have ne21 : b1 ≠ b6 := by omega
    have F22 : Arv Z h14 b1 k1 .byte (4 : Int32) [(.int (nar .byte (ia0.toInt8.toInt32))), (.int (nar .byte (ia1.toInt8.toInt32))), (.int (nar .byte (ia2.toInt8.toInt32))), (.int (nar .byte (ia3.toInt8.toInt32)))] (.int (0 : Int32)) := (((((V5.ext E6).other W8 ne21).other W10 ne21).other W12 ne21).other W14 ne21)
    obtain ⟨_, _, ⟨T23, L23, k23, n23⟩, -, X23, ⟨Lc23, hQ23, l23, y23, z23⟩, st23⟩ := Jvm.LawKit.callS X14 hx (y := (⟨"com/example/typeflow/typeflow/classfile/ClassFileInput", "u2", "([BI)I"⟩ : MethodName)) hown (mvT hZ (hw _ (List.mem_of_getElem? (i := 3) rfl))) (mvT hZ (hw _ (List.mem_of_getElem? (i := 4) rfl))) (mvT hZ (hw _ (List.mem_of_getElem? (i := 5) rfl))) (mvT hZ (hw _ (List.mem_of_getElem? (i := 6) rfl))) (by decide) (backOf (W := 0) (rm1_0 l Z a0 hw [] b1 k1 ((nar .byte (ia0.toInt8.toInt32))) ((nar .byte (ia1.toInt8.toInt32))) ((nar .byte (ia2.toInt8.toInt32))) ((nar .byte (ia3.toInt8.toInt32))) h14 n0 (by omega)  F22) hZ (hw _ (List.mem_of_getElem? (i := 6) rfl)) (hw _ (List.mem_of_getElem? (i := 5) rfl)) (by decide) (by decide)) (g := (mkF m 94 #[.val (.int ia0), .val (.int ia1), .val (.int ia2), .val (.int ia3), .val (.int off), .val (.ref b1), .val (.ref b6), .val (.int (0 : Int32)), .val (.int v20), .unset] [(.int (0 : Int32)), (.ref b1)])) rfl (by rw [hml]; rfl) (argsL := [(.ref b1), (.int (0 : Int32))]) (rest := []) (lenOf pd_0 rfl) rfl (by show 2 * 0 + _ ≤ _; exact Nat.le_of_eq rfl) (hb hby at_94) (fun _ _ => ⟨rfl, e14, (by decide : 2 + 0 ≤ _), (by decide : 8 + 0 ≤ _)⟩)
    dsimp only [Pt.U, Pt.locs, Pt.cells, Pt.slots] at X23 l23 y23 z23 st23 hQ23
    subst l23 y23 z23
    obtain ⟨r24, rfl, Nq23, hs23, P23_0⟩ := hQ23
    have N23 := Fr.app N14 Nq23
    refine Comes.st st23 ?_
    show Comes p e below _ (T23.setTop (mkF m 97 #[.val (.int ia0), .val (.int ia1), .val (.int ia2), .val (.int ia3), .val (.int off), .val (.ref b1), .val (.ref b6), .val (.int (0 : Int32)), .val (.int v20), .unset] [(.int r24)]))
    refine Comes.st (fun t k => XS.istore X23.here hx rfl (hb hby at_97) rfl (l' := #[.val (.int ia0), .val (.int ia1), .val (.int ia2), .val (.int ia3), .val (.int off), .val (.ref b1), .val (.ref b6), .val (.int (0 : Int32)), .val (.int v20), .val (.int r24)]) rfl (XS.iload X23.here hx rfl (hb hby at_99) rfl (XS.iload X23.here hx rfl (hb hby at_101) rfl k))) ?_
    show Comes p e below _ (T23.setTop (mkF m 103 #[.val (.int ia0), .val (.int ia1), .val (.int ia2), .val (.int ia3), .val (.int off), .val (.ref b1), .val (.ref b6), .val (.int (0 : Int32)), .val (.int v20), .val (.int r24)] [(.int v20), (.int r24)]))
    have hc103_25 : r24 = v20 := by have u := own_u2 ia0 ia1; rw [← P23_0] at u; have a_0 := c_i2b ia0; have a_1 := c_i2b ia1; have a_2 := c_i2b ia2; have a_3 := c_i2b ia3; have a_4 := c_mask ia0 (255 : Int32) 8 (by decide) (by decide); rw [hv_v7] at a_4; have a_5 := c_mask ia1 (255 : Int32) 8 (by decide) (by decide); rw [hv_v9] at a_5; have a_6 := c_mask ia2 (255 : Int32) 8 (by decide) (by decide); rw [hv_v11] at a_6; have a_7 := c_mask ia3 (255 : Int32) 8 (by decide) (by decide); rw [hv_v13] at a_7; have a_8 := c_mask off (2147483647 : Int32) 31 (by decide) (by decide); have a_9 := c_irem (off &&& (2147483647 : Int32)) (3 : Int32) 3 (by decide); rw [hv_v16] at a_9; have a_10 := c_imul v7 (256 : Int32); have a_11 := c_iadd (v7 * (256 : Int32)) v9; rw [hv_v20] at a_11; have a_12 := rng32 (0 : Int32); have a_13 := rng32 (ia0.toInt8.toInt32); have a_14 := rng32 (ia1.toInt8.toInt32); have a_15 := rng32 (ia2.toInt8.toInt32); have a_16 := rng32 (ia3.toInt8.toInt32); have a_17 := rng32 (off &&& (2147483647 : Int32)); have a_18 := rng32 (v7 * (256 : Int32)); have a_19 := rng32 ia0; have a_20 := rng32 ia1; have a_21 := rng32 ia2; have a_22 := rng32 ia3; have a_23 := rng32 off; have a_24 := rng32 v11; have a_25 := rng32 v13; have a_26 := rng32 v20; have a_27 := rng32 v7; have a_28 := rng32 v9; have a_29 := u; (simp only [Int32.lt_iff_toInt_lt, Int64.lt_iff_toInt_lt, ← Int32.toInt_inj, ← Int64.toInt_inj, Int32.reduceToInt, Int64.reduceToInt] at a_0 a_1 a_2 a_3 a_4 a_5 a_6 a_7 a_8 a_9 a_10 a_11 a_12 a_13 a_14 a_15 a_16 a_17 a_18 a_19 a_20 a_21 a_22 a_23 a_24 a_25 a_26 a_27 a_28 a_29 ⊢) <;> omega
    refine Comes.st (fun t k => XS.icmpNo X23.here hx rfl (hb hby at_103) rfl (teq hc103_25).2 (XS.iload X23.here hx rfl (hb hby at_106) rfl k)) ?_
    show Comes p e below _ (T23.setTop (mkF m 108 #[.val (.int ia0), .val (.int ia1), .val (.int ia2), .val (.int ia3), .val (.int off), .val (.ref b1), .val (.ref b6), .val (.int (0 : Int32)), .val (.int v20), .val (.int r24)] [(.int r24)]))
    have hc108_26 : ¬ (r24 < (0 : Int32)) := by have u := own_u2 ia0 ia1; rw [← P23_0] at u; have a_0 := c_i2b ia0; have a_1 := c_i2b ia1; have a_2 := c_i2b ia2; have a_3 := c_i2b ia3; have a_4 := c_mask ia0 (255 : Int32) 8 (by decide) (by decide); rw [hv_v7] at a_4; have a_5 := c_mask ia1 (255 : Int32) 8 (by decide) (by decide); rw [hv_v9] at a_5; have a_6 := c_mask ia2 (255 : Int32) 8 (by decide) (by decide); rw [hv_v11] at a_6; have a_7 := c_mask ia3 (255 : Int32) 8 (by decide) (by decide); rw [hv_v13] at a_7; have a_8 := c_mask off (2147483647 : Int32) 31 (by decide) (by decide); have a_9 := c_irem (off &&& (2147483647 : Int32)) (3 : Int32) 3 (by decide); rw [hv_v16] at a_9; have a_10 := c_imul v7 (256 : Int32); have a_11 := c_iadd (v7 * (256 : Int32)) v9; rw [hv_v20] at a_11; have a_12 := rng32 (0 : Int32); have a_13 := rng32 (ia0.toInt8.toInt32); have a_14 := rng32 (ia1.toInt8.toInt32); have a_15 := rng32 (ia2.toInt8.toInt32); have a_16 := rng32 (ia3.toInt8.toInt32); have a_17 := rng32 (off &&& (2147483647 : Int32)); have a_18 := rng32 (v7 * (256 : Int32)); have a_19 := rng32 ia0; have a_20 := rng32 ia1; have a_21 := rng32 ia2; have a_22 := rng32 ia3; have a_23 := rng32 off; have a_24 := rng32 v11; have a_25 := rng32 v13; have a_26 := rng32 v20; have a_27 := rng32 v7; have a_28 := rng32 v9; have a_29 := u; have c_0 := hc103_25; (simp only [Int32.lt_iff_toInt_lt, Int64.lt_iff_toInt_lt, ← Int32.toInt_inj, ← Int64.toInt_inj, Int32.reduceToInt, Int64.reduceToInt] at a_0 a_1 a_2 a_3 a_4 a_5 a_6 a_7 a_8 a_9 a_10 a_11 a_12 a_13 a_14 a_15 a_16 a_17 a_18 a_19 a_20 a_21 a_22 a_23 a_24 a_25 a_26 a_27 a_28 a_29 c_0 ⊢) <;> omega
    refine Comes.st (fun t k => XS.ifNo X23.here hx rfl (hb hby at_108) rfl ((if0 _ _).trans (flt hc108_26).1) (XS.iload X23.here hx rfl (hb hby at_111) rfl (X23.ldcInt hx hown (mvT hZ (hw _ (List.mem_of_getElem? (i := 7) rfl))) (g := (mkF m 113 #[.val (.int ia0), .val (.int ia1), .val (.int ia2), .val (.int ia3), .val (.int off), .val (.ref b1), .val (.ref b6), .val (.int (0 : Int32)), .val (.int v20), .val (.int r24)] [(.int r24)])) rfl (hb hby at_113) _ k))) ?_
    show Comes p e below _ (T23.setTop (mkF m 115 #[.val (.int ia0), .val (.int ia1), .val (.int ia2), .val (.int ia3), .val (.int off), .val (.ref b1), .val (.ref b6), .val (.int (0 : Int32)), .val (.int v20), .val (.int r24)] [(.int (65535 : Int32)), (.int r24)]))
    have hc115_27 : ¬ ((65535 : Int32) < r24) := by have u := own_u2 ia0 ia1; rw [← P23_0] at u; have a_0 := c_i2b ia0; have a_1 := c_i2b ia1; have a_2 := c_i2b ia2; have a_3 := c_i2b ia3; have a_4 := c_mask ia0 (255 : Int32) 8 (by decide) (by decide); rw [hv_v7] at a_4; have a_5 := c_mask ia1 (255 : Int32) 8 (by decide) (by decide); rw [hv_v9] at a_5; have a_6 := c_mask ia2 (255 : Int32) 8 (by decide) (by decide); rw [hv_v11] at a_6; have a_7 := c_mask ia3 (255 : Int32) 8 (by decide) (by decide); rw [hv_v13] at a_7; have a_8 := c_mask off (2147483647 : Int32) 31 (by decide) (by decide); have a_9 := c_irem (off &&& (2147483647 : Int32)) (3 : Int32) 3 (by decide); rw [hv_v16] at a_9; have a_10 := c_imul v7 (256 : Int32); have a_11 := c_iadd (v7 * (256 : Int32)) v9; rw [hv_v20] at a_11; have a_12 := rng32 (0 : Int32); have a_13 := rng32 (ia0.toInt8.toInt32); have a_14 := rng32 (ia1.toInt8.toInt32); have a_15 := rng32 (ia2.toInt8.toInt32); have a_16 := rng32 (ia3.toInt8.toInt32); have a_17 := rng32 (off &&& (2147483647 : Int32)); have a_18 := rng32 (v7 * (256 : Int32)); have a_19 := rng32 ia0; have a_20 := rng32 ia1; have a_21 := rng32 ia2; have a_22 := rng32 ia3; have a_23 := rng32 off; have a_24 := rng32 v11; have a_25 := rng32 v13; have a_26 := rng32 v20; have a_27 := rng32 v7; have a_28 := rng32 v9; have a_29 := u; have c_0 := hc103_25; have c_1 := hc108_26; (simp only [Int32.lt_iff_toInt_lt, Int64.lt_iff_toInt_lt, ← Int32.toInt_inj, ← Int64.toInt_inj, Int32.reduceToInt, Int64.reduceToInt] at a_0 a_1 a_2 a_3 a_4 a_5 a_6 a_7 a_8 a_9 a_10 a_11 a_12 a_13 a_14 a_15 a_16 a_17 a_18 a_19 a_20 a_21 a_22 a_23 a_24 a_25 a_26 a_27 a_28 a_29 c_0 c_1 ⊢) <;> omega
    refine Comes.st (fun t k => XS.icmpNo X23.here hx rfl (hb hby at_115) rfl (flt hc115_27).2.2.1 (XS.iconst X23.here hx rfl (hb hby at_118) (XS.goto X23.here hx rfl (pc0 := 119) (pc' := 123) rfl (hb hby at_119) (by decide) (by decide) k))) ?_
    show Comes p e below _ (T23.setTop (mkF m 123 #[.val (.int ia0), .val (.int ia1), .val (.int ia2), .val (.int ia3), .val (.int off), .val (.ref b1), .val (.ref b6), .val (.int (0 : Int32)), .val (.int v20), .val (.int r24)] [(.int (1 : Int32))]))
    exact Comes.retN X23 hx (t := .boolean) Bd.returns (by simp) hlk (hb hby at_123) hs23 ⟨rfl, N23⟩ (by decide) (by decide)
  · show Comes p e below _ (T14.setTop (mkF m 71 #[.val (.int ia0), .val (.int ia1), .val (.int ia2), .val (.int ia3), .val (.int off), .val (.ref b1), .val (.ref b6), .val (.int (1 : Int32)), .unset, .unset] []))
    refine Comes.st (fun t k => XS.aload X14.here hx rfl (hb hby at_71) rfl rfl (XS.iload X14.here hx rfl (hb hby at_73) rfl k)) ?_
    show Comes p e below _ (T14.setTop (mkF m 75 #[.val (.int ia0), .val (.int ia1), .val (.int ia2), .val (.int ia3), .val (.int off), .val (.ref b1), .val (.ref b6), .val (.int (1 : Int32)), .unset, .unset] [(.int (1 : Int32)), (.ref b6)]))
    obtain ⟨cl28, Ar28, q28, S28, Ng28, H28, Gf28⟩ := id V14
    have hin28 : ¬ ((1 : Int32) < 0 ∨ cl28.slots.size ≤ ((1 : Int32)).toNatClampNeg) := inb_of S28 ⟨by decide, by decide⟩
    refine Comes.st (fun t k => X14.iaload hx (j := (1 : Int32)) (v := (.int v9)) (by rw [e14]; exact Ar28.1) (State.isArrayOf_alike hZ.alike Ar28.2.1) Ar28.2.2 hin28 (Has.at H28 hin28 rfl) (g := (mkF m 75 #[.val (.int ia0), .val (.int ia1), .val (.int ia2), .val (.int ia3), .val (.int off), .val (.ref b1), .val (.ref b6), .val (.int (1 : Int32)), .unset, .unset] [(.int (1 : Int32)), (.ref b6)])) rfl rfl (hb hby at_75) _ (XS.sipush X14.here hx rfl (hb hby at_76) (XS.imul X14.here hx rfl (hb hby at_79) rfl (XS.aload X14.here hx rfl (hb hby at_80) rfl rfl (XS.iload X14.here hx rfl (hb hby at_82) rfl (XS.iconst X14.here hx rfl (hb hby at_84) k)))))) ?_
    show Comes p e below _ (T14.setTop (mkF m 85 #[.val (.int ia0), .val (.int ia1), .val (.int ia2), .val (.int ia3), .val (.int off), .val (.ref b1), .val (.ref b6), .val (.int (1 : Int32)), .unset, .unset] [(.int (1 : Int32)), (.int (1 : Int32)), (.ref b6), (.int (v9 * (256 : Int32)))]))
    refine Comes.st (fun t k => XS.iadd X14.here hx rfl (hb hby at_85) rfl k) ?_
    show Comes p e below _ (T14.setTop (mkF m 86 #[.val (.int ia0), .val (.int ia1), .val (.int ia2), .val (.int ia3), .val (.int off), .val (.ref b1), .val (.ref b6), .val (.int (1 : Int32)), .unset, .unset] [(.int ((1 : Int32) + (1 : Int32))), (.ref b6), (.int (v9 * (256 : Int32)))]))
    rw [show ((1 : Int32) + (1 : Int32)) = (2 : Int32) from by decide]
    show Comes p e below _ (T14.setTop (mkF m 86 #[.val (.int ia0), .val (.int ia1), .val (.int ia2), .val (.int ia3), .val (.int off), .val (.ref b1), .val (.ref b6), .val (.int (1 : Int32)), .unset, .unset] [(.int (2 : Int32)), (.ref b6), (.int (v9 * (256 : Int32)))]))
    obtain ⟨cl29, Ar29, q29, S29, Ng29, H29, Gf29⟩ := id V14
    have hin29 : ¬ ((2 : Int32) < 0 ∨ cl29.slots.size ≤ ((2 : Int32)).toNatClampNeg) := inb_of S29 ⟨by decide, by decide⟩
    refine Comes.st (fun t k => X14.iaload hx (j := (2 : Int32)) (v := (.int v11)) (by rw [e14]; exact Ar29.1) (State.isArrayOf_alike hZ.alike Ar29.2.1) Ar29.2.2 hin29 (Has.at H29 hin29 rfl) (g := (mkF m 86 #[.val (.int ia0), .val (.int ia1), .val (.int ia2), .val (.int ia3), .val (.int off), .val (.ref b1), .val (.ref b6), .val (.int (1 : Int32)), .unset, .unset] [(.int (2 : Int32)), (.ref b6), (.int (v9 * (256 : Int32)))])) rfl rfl (hb hby at_86) _ (XS.iadd X14.here hx rfl (hb hby at_87) rfl k)) ?_
    show Comes p e below _ (T14.setTop (mkF m 88 #[.val (.int ia0), .val (.int ia1), .val (.int ia2), .val (.int ia3), .val (.int off), .val (.ref b1), .val (.ref b6), .val (.int (1 : Int32)), .unset, .unset] [(.int ((v9 * (256 : Int32)) + v11))]))
    generalize hv_v30 : ((v9 * (256 : Int32)) + v11) = v30
    show Comes p e below _ (T14.setTop (mkF m 88 #[.val (.int ia0), .val (.int ia1), .val (.int ia2), .val (.int ia3), .val (.int off), .val (.ref b1), .val (.ref b6), .val (.int (1 : Int32)), .unset, .unset] [(.int v30)]))
    refine Comes.st (fun t k => XS.istore X14.here hx rfl (hb hby at_88) rfl (l' := #[.val (.int ia0), .val (.int ia1), .val (.int ia2), .val (.int ia3), .val (.int off), .val (.ref b1), .val (.ref b6), .val (.int (1 : Int32)), .val (.int v30), .unset]) rfl (XS.aload X14.here hx rfl (hb hby at_90) rfl rfl (XS.iload X14.here hx rfl (hb hby at_92) rfl k))) ?_
    show Comes p e below _ (T14.setTop (mkF m 94 #[.val (.int ia0), .val (.int ia1), .val (.int ia2), .val (.int ia3), .val (.int off), .val (.ref b1), .val (.ref b6), .val (.int (1 : Int32)), .val (.int v30), .unset] [(.int (1 : Int32)), (.ref b1)]))
    have ne31 : b1 ≠ b6 := by omega
    have F32 : Arv Z h14 b1 k1 .byte (4 : Int32) [(.int (nar .byte (ia0.toInt8.toInt32))), (.int (nar .byte (ia1.toInt8.toInt32))), (.int (nar .byte (ia2.toInt8.toInt32))), (.int (nar .byte (ia3.toInt8.toInt32)))] (.int (0 : Int32)) := (((((V5.ext E6).other W8 ne31).other W10 ne31).other W12 ne31).other W14 ne31)
    obtain ⟨_, _, ⟨T33, L33, k33, n33⟩, -, X33, ⟨Lc33, hQ33, l33, y33, z33⟩, st33⟩ := Jvm.LawKit.callS X14 hx (y := (⟨"com/example/typeflow/typeflow/classfile/ClassFileInput", "u2", "([BI)I"⟩ : MethodName)) hown (mvT hZ (hw _ (List.mem_of_getElem? (i := 3) rfl))) (mvT hZ (hw _ (List.mem_of_getElem? (i := 4) rfl))) (mvT hZ (hw _ (List.mem_of_getElem? (i := 5) rfl))) (mvT hZ (hw _ (List.mem_of_getElem? (i := 6) rfl))) (by decide) (backOf (W := 0) (rm1_1 l Z a0 hw [] b1 k1 ((nar .byte (ia0.toInt8.toInt32))) ((nar .byte (ia1.toInt8.toInt32))) ((nar .byte (ia2.toInt8.toInt32))) ((nar .byte (ia3.toInt8.toInt32))) h14 n0 (by omega)  F32) hZ (hw _ (List.mem_of_getElem? (i := 6) rfl)) (hw _ (List.mem_of_getElem? (i := 5) rfl)) (by decide) (by decide)) (g := (mkF m 94 #[.val (.int ia0), .val (.int ia1), .val (.int ia2), .val (.int ia3), .val (.int off), .val (.ref b1), .val (.ref b6), .val (.int (1 : Int32)), .val (.int v30), .unset] [(.int (1 : Int32)), (.ref b1)])) rfl (by rw [hml]; rfl) (argsL := [(.ref b1), (.int (1 : Int32))]) (rest := []) (lenOf pd_0 rfl) rfl (by show 2 * 0 + _ ≤ _; exact Nat.le_of_eq rfl) (hb hby at_94) (fun _ _ => ⟨rfl, e14, (by decide : 2 + 0 ≤ _), (by decide : 8 + 0 ≤ _)⟩)
    dsimp only [Pt.U, Pt.locs, Pt.cells, Pt.slots] at X33 l33 y33 z33 st33 hQ33
    subst l33 y33 z33
    obtain ⟨r34, rfl, Nq33, hs33, P33_0⟩ := hQ33
    have N33 := Fr.app N14 Nq33
    refine Comes.st st33 ?_
    show Comes p e below _ (T33.setTop (mkF m 97 #[.val (.int ia0), .val (.int ia1), .val (.int ia2), .val (.int ia3), .val (.int off), .val (.ref b1), .val (.ref b6), .val (.int (1 : Int32)), .val (.int v30), .unset] [(.int r34)]))
    refine Comes.st (fun t k => XS.istore X33.here hx rfl (hb hby at_97) rfl (l' := #[.val (.int ia0), .val (.int ia1), .val (.int ia2), .val (.int ia3), .val (.int off), .val (.ref b1), .val (.ref b6), .val (.int (1 : Int32)), .val (.int v30), .val (.int r34)]) rfl (XS.iload X33.here hx rfl (hb hby at_99) rfl (XS.iload X33.here hx rfl (hb hby at_101) rfl k))) ?_
    show Comes p e below _ (T33.setTop (mkF m 103 #[.val (.int ia0), .val (.int ia1), .val (.int ia2), .val (.int ia3), .val (.int off), .val (.ref b1), .val (.ref b6), .val (.int (1 : Int32)), .val (.int v30), .val (.int r34)] [(.int v30), (.int r34)]))
    have hc103_35 : r34 = v30 := by have u := own_u2 ia1 ia2; rw [← P33_0] at u; have a_0 := c_i2b ia0; have a_1 := c_i2b ia1; have a_2 := c_i2b ia2; have a_3 := c_i2b ia3; have a_4 := c_mask ia0 (255 : Int32) 8 (by decide) (by decide); rw [hv_v7] at a_4; have a_5 := c_mask ia1 (255 : Int32) 8 (by decide) (by decide); rw [hv_v9] at a_5; have a_6 := c_mask ia2 (255 : Int32) 8 (by decide) (by decide); rw [hv_v11] at a_6; have a_7 := c_mask ia3 (255 : Int32) 8 (by decide) (by decide); rw [hv_v13] at a_7; have a_8 := c_mask off (2147483647 : Int32) 31 (by decide) (by decide); have a_9 := c_irem (off &&& (2147483647 : Int32)) (3 : Int32) 3 (by decide); rw [hv_v16] at a_9; have a_10 := c_imul v9 (256 : Int32); have a_11 := c_iadd (v9 * (256 : Int32)) v11; rw [hv_v30] at a_11; have a_12 := rng32 (1 : Int32); have a_13 := rng32 (ia0.toInt8.toInt32); have a_14 := rng32 (ia1.toInt8.toInt32); have a_15 := rng32 (ia2.toInt8.toInt32); have a_16 := rng32 (ia3.toInt8.toInt32); have a_17 := rng32 (off &&& (2147483647 : Int32)); have a_18 := rng32 (v9 * (256 : Int32)); have a_19 := rng32 ia0; have a_20 := rng32 ia1; have a_21 := rng32 ia2; have a_22 := rng32 ia3; have a_23 := rng32 off; have a_24 := rng32 v11; have a_25 := rng32 v13; have a_26 := rng32 v30; have a_27 := rng32 v7; have a_28 := rng32 v9; have a_29 := u; (simp only [Int32.lt_iff_toInt_lt, Int64.lt_iff_toInt_lt, ← Int32.toInt_inj, ← Int64.toInt_inj, Int32.reduceToInt, Int64.reduceToInt] at a_0 a_1 a_2 a_3 a_4 a_5 a_6 a_7 a_8 a_9 a_10 a_11 a_12 a_13 a_14 a_15 a_16 a_17 a_18 a_19 a_20 a_21 a_22 a_23 a_24 a_25 a_26 a_27 a_28 a_29 ⊢) <;> omega
    refine Comes.st (fun t k => XS.icmpNo X33.here hx rfl (hb hby at_103) rfl (teq hc103_35).2 (XS.iload X33.here hx rfl (hb hby at_106) rfl k)) ?_
    show Comes p e below _ (T33.setTop (mkF m 108 #[.val (.int ia0), .val (.int ia1), .val (.int ia2), .val (.int ia3), .val (.int off), .val (.ref b1), .val (.ref b6), .val (.int (1 : Int32)), .val (.int v30), .val (.int r34)] [(.int r34)]))
    have hc108_36 : ¬ (r34 < (0 : Int32)) := by have u := own_u2 ia1 ia2; rw [← P33_0] at u; have a_0 := c_i2b ia0; have a_1 := c_i2b ia1; have a_2 := c_i2b ia2; have a_3 := c_i2b ia3; have a_4 := c_mask ia0 (255 : Int32) 8 (by decide) (by decide); rw [hv_v7] at a_4; have a_5 := c_mask ia1 (255 : Int32) 8 (by decide) (by decide); rw [hv_v9] at a_5; have a_6 := c_mask ia2 (255 : Int32) 8 (by decide) (by decide); rw [hv_v11] at a_6; have a_7 := c_mask ia3 (255 : Int32) 8 (by decide) (by decide); rw [hv_v13] at a_7; have a_8 := c_mask off (2147483647 : Int32) 31 (by decide) (by decide); have a_9 := c_irem (off &&& (2147483647 : Int32)) (3 : Int32) 3 (by decide); rw [hv_v16] at a_9; have a_10 := c_imul v9 (256 : Int32); have a_11 := c_iadd (v9 * (256 : Int32)) v11; rw [hv_v30] at a_11; have a_12 := rng32 (1 : Int32); have a_13 := rng32 (ia0.toInt8.toInt32); have a_14 := rng32 (ia1.toInt8.toInt32); have a_15 := rng32 (ia2.toInt8.toInt32); have a_16 := rng32 (ia3.toInt8.toInt32); have a_17 := rng32 (off &&& (2147483647 : Int32)); have a_18 := rng32 (v9 * (256 : Int32)); have a_19 := rng32 ia0; have a_20 := rng32 ia1; have a_21 := rng32 ia2; have a_22 := rng32 ia3; have a_23 := rng32 off; have a_24 := rng32 v11; have a_25 := rng32 v13; have a_26 := rng32 v30; have a_27 := rng32 v7; have a_28 := rng32 v9; have a_29 := u; have c_0 := hc103_35; (simp only [Int32.lt_iff_toInt_lt, Int64.lt_iff_toInt_lt, ← Int32.toInt_inj, ← Int64.toInt_inj, Int32.reduceToInt, Int64.reduceToInt] at a_0 a_1 a_2 a_3 a_4 a_5 a_6 a_7 a_8 a_9 a_10 a_11 a_12 a_13 a_14 a_15 a_16 a_17 a_18 a_19 a_20 a_21 a_22 a_23 a_24 a_25 a_26 a_27 a_28 a_29 c_0 ⊢) <;> omega
    refine Comes.st (fun t k => XS.ifNo X33.here hx rfl (hb hby at_108) rfl ((if0 _ _).trans (flt hc108_36).1) (XS.iload X33.here hx rfl (hb hby at_111) rfl (X33.ldcInt hx hown (mvT hZ (hw _ (List.mem_of_getElem? (i := 7) rfl))) (g := (mkF m 113 #[.val (.int ia0), .val (.int ia1), .val (.int ia2), .val (.int ia3), .val (.int off), .val (.ref b1), .val (.ref b6), .val (.int (1 : Int32)), .val (.int v30), .val (.int r34)] [(.int r34)])) rfl (hb hby at_113) _ k))) ?_
    show Comes p e below _ (T33.setTop (mkF m 115 #[.val (.int ia0), .val (.int ia1), .val (.int ia2), .val (.int ia3), .val (.int off), .val (.ref b1), .val (.ref b6), .val (.int (1 : Int32)), .val (.int v30), .val (.int r34)] [(.int (65535 : Int32)), (.int r34)]))
    have hc115_37 : ¬ ((65535 : Int32) < r34) := by have u := own_u2 ia1 ia2; rw [← P33_0] at u; have a_0 := c_i2b ia0; have a_1 := c_i2b ia1; have a_2 := c_i2b ia2; have a_3 := c_i2b ia3; have a_4 := c_mask ia0 (255 : Int32) 8 (by decide) (by decide); rw [hv_v7] at a_4; have a_5 := c_mask ia1 (255 : Int32) 8 (by decide) (by decide); rw [hv_v9] at a_5; have a_6 := c_mask ia2 (255 : Int32) 8 (by decide) (by decide); rw [hv_v11] at a_6; have a_7 := c_mask ia3 (255 : Int32) 8 (by decide) (by decide); rw [hv_v13] at a_7; have a_8 := c_mask off (2147483647 : Int32) 31 (by decide) (by decide); have a_9 := c_irem (off &&& (2147483647 : Int32)) (3 : Int32) 3 (by decide); rw [hv_v16] at a_9; have a_10 := c_imul v9 (256 : Int32); have a_11 := c_iadd (v9 * (256 : Int32)) v11; rw [hv_v30] at a_11; have a_12 := rng32 (1 : Int32); have a_13 := rng32 (ia0.toInt8.toInt32); have a_14 := rng32 (ia1.toInt8.toInt32); have a_15 := rng32 (ia2.toInt8.toInt32); have a_16 := rng32 (ia3.toInt8.toInt32); have a_17 := rng32 (off &&& (2147483647 : Int32)); have a_18 := rng32 (v9 * (256 : Int32)); have a_19 := rng32 ia0; have a_20 := rng32 ia1; have a_21 := rng32 ia2; have a_22 := rng32 ia3; have a_23 := rng32 off; have a_24 := rng32 v11; have a_25 := rng32 v13; have a_26 := rng32 v30; have a_27 := rng32 v7; have a_28 := rng32 v9; have a_29 := u; have c_0 := hc103_35; have c_1 := hc108_36; (simp only [Int32.lt_iff_toInt_lt, Int64.lt_iff_toInt_lt, ← Int32.toInt_inj, ← Int64.toInt_inj, Int32.reduceToInt, Int64.reduceToInt] at a_0 a_1 a_2 a_3 a_4 a_5 a_6 a_7 a_8 a_9 a_10 a_11 a_12 a_13 a_14 a_15 a_16 a_17 a_18 a_19 a_20 a_21 a_22 a_23 a_24 a_25 a_26 a_27 a_28 a_29 c_0 c_1 ⊢) <;> omega
    refine Comes.st (fun t k => XS.icmpNo X33.here hx rfl (hb hby at_115) rfl (flt hc115_37).2.2.1 (XS.iconst X33.here hx rfl (hb hby at_118) (XS.goto X33.here hx rfl (pc0 := 119) (pc' := 123) rfl (hb hby at_119) (by decide) (by decide) k))) ?_
    show Comes p e below _ (T33.setTop (mkF m 123 #[.val (.int ia0), .val (.int ia1), .val (.int ia2), .val (.int ia3), .val (.int off), .val (.ref b1), .val (.ref b6), .val (.int (1 : Int32)), .val (.int v30), .val (.int r34)] [(.int (1 : Int32))]))
    exact Comes.retN X33 hx (t := .boolean) Bd.returns (by simp) hlk (hb hby at_123) hs33 ⟨rfl, N33⟩ (by decide) (by decide)
  · show Comes p e below _ (T14.setTop (mkF m 71 #[.val (.int ia0), .val (.int ia1), .val (.int ia2), .val (.int ia3), .val (.int off), .val (.ref b1), .val (.ref b6), .val (.int (2 : Int32)), .unset, .unset] []))
    refine Comes.st (fun t k => XS.aload X14.here hx rfl (hb hby at_71) rfl rfl (XS.iload X14.here hx rfl (hb hby at_73) rfl k)) ?_
    show Comes p e below _ (T14.setTop (mkF m 75 #[.val (.int ia0), .val (.int ia1), .val (.int ia2), .val (.int ia3), .val (.int off), .val (.ref b1), .val (.ref b6), .val (.int (2 : Int32)), .unset, .unset] [(.int (2 : Int32)), (.ref b6)]))
    obtain ⟨cl38, Ar38, q38, S38, Ng38, H38, Gf38⟩ := id V14
    have hin38 : ¬ ((2 : Int32) < 0 ∨ cl38.slots.size ≤ ((2 : Int32)).toNatClampNeg) := inb_of S38 ⟨by decide, by decide⟩
    refine Comes.st (fun t k => X14.iaload hx (j := (2 : Int32)) (v := (.int v11)) (by rw [e14]; exact Ar38.1) (State.isArrayOf_alike hZ.alike Ar38.2.1) Ar38.2.2 hin38 (Has.at H38 hin38 rfl) (g := (mkF m 75 #[.val (.int ia0), .val (.int ia1), .val (.int ia2), .val (.int ia3), .val (.int off), .val (.ref b1), .val (.ref b6), .val (.int (2 : Int32)), .unset, .unset] [(.int (2 : Int32)), (.ref b6)])) rfl rfl (hb hby at_75) _ (XS.sipush X14.here hx rfl (hb hby at_76) (XS.imul X14.here hx rfl (hb hby at_79) rfl (XS.aload X14.here hx rfl (hb hby at_80) rfl rfl (XS.iload X14.here hx rfl (hb hby at_82) rfl (XS.iconst X14.here hx rfl (hb hby at_84) k)))))) ?_
    show Comes p e below _ (T14.setTop (mkF m 85 #[.val (.int ia0), .val (.int ia1), .val (.int ia2), .val (.int ia3), .val (.int off), .val (.ref b1), .val (.ref b6), .val (.int (2 : Int32)), .unset, .unset] [(.int (1 : Int32)), (.int (2 : Int32)), (.ref b6), (.int (v11 * (256 : Int32)))]))
    refine Comes.st (fun t k => XS.iadd X14.here hx rfl (hb hby at_85) rfl k) ?_
    show Comes p e below _ (T14.setTop (mkF m 86 #[.val (.int ia0), .val (.int ia1), .val (.int ia2), .val (.int ia3), .val (.int off), .val (.ref b1), .val (.ref b6), .val (.int (2 : Int32)), .unset, .unset] [(.int ((2 : Int32) + (1 : Int32))), (.ref b6), (.int (v11 * (256 : Int32)))]))
    rw [show ((2 : Int32) + (1 : Int32)) = (3 : Int32) from by decide]
    show Comes p e below _ (T14.setTop (mkF m 86 #[.val (.int ia0), .val (.int ia1), .val (.int ia2), .val (.int ia3), .val (.int off), .val (.ref b1), .val (.ref b6), .val (.int (2 : Int32)), .unset, .unset] [(.int (3 : Int32)), (.ref b6), (.int (v11 * (256 : Int32)))]))
    obtain ⟨cl39, Ar39, q39, S39, Ng39, H39, Gf39⟩ := id V14
    have hin39 : ¬ ((3 : Int32) < 0 ∨ cl39.slots.size ≤ ((3 : Int32)).toNatClampNeg) := inb_of S39 ⟨by decide, by decide⟩
    refine Comes.st (fun t k => X14.iaload hx (j := (3 : Int32)) (v := (.int v13)) (by rw [e14]; exact Ar39.1) (State.isArrayOf_alike hZ.alike Ar39.2.1) Ar39.2.2 hin39 (Has.at H39 hin39 rfl) (g := (mkF m 86 #[.val (.int ia0), .val (.int ia1), .val (.int ia2), .val (.int ia3), .val (.int off), .val (.ref b1), .val (.ref b6), .val (.int (2 : Int32)), .unset, .unset] [(.int (3 : Int32)), (.ref b6), (.int (v11 * (256 : Int32)))])) rfl rfl (hb hby at_86) _ (XS.iadd X14.here hx rfl (hb hby at_87) rfl k)) ?_
    show Comes p e below _ (T14.setTop (mkF m 88 #[.val (.int ia0), .val (.int ia1), .val (.int ia2), .val (.int ia3), .val (.int off), .val (.ref b1), .val (.ref b6), .val (.int (2 : Int32)), .unset, .unset] [(.int ((v11 * (256 : Int32)) + v13))]))
    generalize hv_v40 : ((v11 * (256 : Int32)) + v13) = v40
    show Comes p e below _ (T14.setTop (mkF m 88 #[.val (.int ia0), .val (.int ia1), .val (.int ia2), .val (.int ia3), .val (.int off), .val (.ref b1), .val (.ref b6), .val (.int (2 : Int32)), .unset, .unset] [(.int v40)]))
    refine Comes.st (fun t k => XS.istore X14.here hx rfl (hb hby at_88) rfl (l' := #[.val (.int ia0), .val (.int ia1), .val (.int ia2), .val (.int ia3), .val (.int off), .val (.ref b1), .val (.ref b6), .val (.int (2 : Int32)), .val (.int v40), .unset]) rfl (XS.aload X14.here hx rfl (hb hby at_90) rfl rfl (XS.iload X14.here hx rfl (hb hby at_92) rfl k))) ?_
    show Comes p e below _ (T14.setTop (mkF m 94 #[.val (.int ia0), .val (.int ia1), .val (.int ia2), .val (.int ia3), .val (.int off), .val (.ref b1), .val (.ref b6), .val (.int (2 : Int32)), .val (.int v40), .unset] [(.int (2 : Int32)), (.ref b1)]))
    have ne41 : b1 ≠ b6 := by omega
    have F42 : Arv Z h14 b1 k1 .byte (4 : Int32) [(.int (nar .byte (ia0.toInt8.toInt32))), (.int (nar .byte (ia1.toInt8.toInt32))), (.int (nar .byte (ia2.toInt8.toInt32))), (.int (nar .byte (ia3.toInt8.toInt32)))] (.int (0 : Int32)) := (((((V5.ext E6).other W8 ne41).other W10 ne41).other W12 ne41).other W14 ne41)
    obtain ⟨_, _, ⟨T43, L43, k43, n43⟩, -, X43, ⟨Lc43, hQ43, l43, y43, z43⟩, st43⟩ := Jvm.LawKit.callS X14 hx (y := (⟨"com/example/typeflow/typeflow/classfile/ClassFileInput", "u2", "([BI)I"⟩ : MethodName)) hown (mvT hZ (hw _ (List.mem_of_getElem? (i := 3) rfl))) (mvT hZ (hw _ (List.mem_of_getElem? (i := 4) rfl))) (mvT hZ (hw _ (List.mem_of_getElem? (i := 5) rfl))) (mvT hZ (hw _ (List.mem_of_getElem? (i := 6) rfl))) (by decide) (backOf (W := 0) (rm1_2 l Z a0 hw [] b1 k1 ((nar .byte (ia0.toInt8.toInt32))) ((nar .byte (ia1.toInt8.toInt32))) ((nar .byte (ia2.toInt8.toInt32))) ((nar .byte (ia3.toInt8.toInt32))) h14 n0 (by omega)  F42) hZ (hw _ (List.mem_of_getElem? (i := 6) rfl)) (hw _ (List.mem_of_getElem? (i := 5) rfl)) (by decide) (by decide)) (g := (mkF m 94 #[.val (.int ia0), .val (.int ia1), .val (.int ia2), .val (.int ia3), .val (.int off), .val (.ref b1), .val (.ref b6), .val (.int (2 : Int32)), .val (.int v40), .unset] [(.int (2 : Int32)), (.ref b1)])) rfl (by rw [hml]; rfl) (argsL := [(.ref b1), (.int (2 : Int32))]) (rest := []) (lenOf pd_0 rfl) rfl (by show 2 * 0 + _ ≤ _; exact Nat.le_of_eq rfl) (hb hby at_94) (fun _ _ => ⟨rfl, e14, (by decide : 2 + 0 ≤ _), (by decide : 8 + 0 ≤ _)⟩)
    dsimp only [Pt.U, Pt.locs, Pt.cells, Pt.slots] at X43 l43 y43 z43 st43 hQ43
    subst l43 y43 z43
    obtain ⟨r44, rfl, Nq43, hs43, P43_0⟩ := hQ43
    have N43 := Fr.app N14 Nq43
    refine Comes.st st43 ?_
    show Comes p e below _ (T43.setTop (mkF m 97 #[.val (.int ia0), .val (.int ia1), .val (.int ia2), .val (.int ia3), .val (.int off), .val (.ref b1), .val (.ref b6), .val (.int (2 : Int32)), .val (.int v40), .unset] [(.int r44)]))
    refine Comes.st (fun t k => XS.istore X43.here hx rfl (hb hby at_97) rfl (l' := #[.val (.int ia0), .val (.int ia1), .val (.int ia2), .val (.int ia3), .val (.int off), .val (.ref b1), .val (.ref b6), .val (.int (2 : Int32)), .val (.int v40), .val (.int r44)]) rfl (XS.iload X43.here hx rfl (hb hby at_99) rfl (XS.iload X43.here hx rfl (hb hby at_101) rfl k))) ?_
    show Comes p e below _ (T43.setTop (mkF m 103 #[.val (.int ia0), .val (.int ia1), .val (.int ia2), .val (.int ia3), .val (.int off), .val (.ref b1), .val (.ref b6), .val (.int (2 : Int32)), .val (.int v40), .val (.int r44)] [(.int v40), (.int r44)]))
    have hc103_45 : r44 = v40 := by have u := own_u2 ia2 ia3; rw [← P43_0] at u; have a_0 := c_i2b ia0; have a_1 := c_i2b ia1; have a_2 := c_i2b ia2; have a_3 := c_i2b ia3; have a_4 := c_mask ia0 (255 : Int32) 8 (by decide) (by decide); rw [hv_v7] at a_4; have a_5 := c_mask ia1 (255 : Int32) 8 (by decide) (by decide); rw [hv_v9] at a_5; have a_6 := c_mask ia2 (255 : Int32) 8 (by decide) (by decide); rw [hv_v11] at a_6; have a_7 := c_mask ia3 (255 : Int32) 8 (by decide) (by decide); rw [hv_v13] at a_7; have a_8 := c_mask off (2147483647 : Int32) 31 (by decide) (by decide); have a_9 := c_irem (off &&& (2147483647 : Int32)) (3 : Int32) 3 (by decide); rw [hv_v16] at a_9; have a_10 := c_imul v11 (256 : Int32); have a_11 := c_iadd (v11 * (256 : Int32)) v13; rw [hv_v40] at a_11; have a_12 := rng32 (2 : Int32); have a_13 := rng32 (ia0.toInt8.toInt32); have a_14 := rng32 (ia1.toInt8.toInt32); have a_15 := rng32 (ia2.toInt8.toInt32); have a_16 := rng32 (ia3.toInt8.toInt32); have a_17 := rng32 (off &&& (2147483647 : Int32)); have a_18 := rng32 (v11 * (256 : Int32)); have a_19 := rng32 ia0; have a_20 := rng32 ia1; have a_21 := rng32 ia2; have a_22 := rng32 ia3; have a_23 := rng32 off; have a_24 := rng32 v11; have a_25 := rng32 v13; have a_26 := rng32 v40; have a_27 := rng32 v7; have a_28 := rng32 v9; have a_29 := u; (simp only [Int32.lt_iff_toInt_lt, Int64.lt_iff_toInt_lt, ← Int32.toInt_inj, ← Int64.toInt_inj, Int32.reduceToInt, Int64.reduceToInt] at a_0 a_1 a_2 a_3 a_4 a_5 a_6 a_7 a_8 a_9 a_10 a_11 a_12 a_13 a_14 a_15 a_16 a_17 a_18 a_19 a_20 a_21 a_22 a_23 a_24 a_25 a_26 a_27 a_28 a_29 ⊢) <;> omega
    refine Comes.st (fun t k => XS.icmpNo X43.here hx rfl (hb hby at_103) rfl (teq hc103_45).2 (XS.iload X43.here hx rfl (hb hby at_106) rfl k)) ?_
    show Comes p e below _ (T43.setTop (mkF m 108 #[.val (.int ia0), .val (.int ia1), .val (.int ia2), .val (.int ia3), .val (.int off), .val (.ref b1), .val (.ref b6), .val (.int (2 : Int32)), .val (.int v40), .val (.int r44)] [(.int r44)]))
    have hc108_46 : ¬ (r44 < (0 : Int32)) := by have u := own_u2 ia2 ia3; rw [← P43_0] at u; have a_0 := c_i2b ia0; have a_1 := c_i2b ia1; have a_2 := c_i2b ia2; have a_3 := c_i2b ia3; have a_4 := c_mask ia0 (255 : Int32) 8 (by decide) (by decide); rw [hv_v7] at a_4; have a_5 := c_mask ia1 (255 : Int32) 8 (by decide) (by decide); rw [hv_v9] at a_5; have a_6 := c_mask ia2 (255 : Int32) 8 (by decide) (by decide); rw [hv_v11] at a_6; have a_7 := c_mask ia3 (255 : Int32) 8 (by decide) (by decide); rw [hv_v13] at a_7; have a_8 := c_mask off (2147483647 : Int32) 31 (by decide) (by decide); have a_9 := c_irem (off &&& (2147483647 : Int32)) (3 : Int32) 3 (by decide); rw [hv_v16] at a_9; have a_10 := c_imul v11 (256 : Int32); have a_11 := c_iadd (v11 * (256 : Int32)) v13; rw [hv_v40] at a_11; have a_12 := rng32 (2 : Int32); have a_13 := rng32 (ia0.toInt8.toInt32); have a_14 := rng32 (ia1.toInt8.toInt32); have a_15 := rng32 (ia2.toInt8.toInt32); have a_16 := rng32 (ia3.toInt8.toInt32); have a_17 := rng32 (off &&& (2147483647 : Int32)); have a_18 := rng32 (v11 * (256 : Int32)); have a_19 := rng32 ia0; have a_20 := rng32 ia1; have a_21 := rng32 ia2; have a_22 := rng32 ia3; have a_23 := rng32 off; have a_24 := rng32 v11; have a_25 := rng32 v13; have a_26 := rng32 v40; have a_27 := rng32 v7; have a_28 := rng32 v9; have a_29 := u; have c_0 := hc103_45; (simp only [Int32.lt_iff_toInt_lt, Int64.lt_iff_toInt_lt, ← Int32.toInt_inj, ← Int64.toInt_inj, Int32.reduceToInt, Int64.reduceToInt] at a_0 a_1 a_2 a_3 a_4 a_5 a_6 a_7 a_8 a_9 a_10 a_11 a_12 a_13 a_14 a_15 a_16 a_17 a_18 a_19 a_20 a_21 a_22 a_23 a_24 a_25 a_26 a_27 a_28 a_29 c_0 ⊢) <;> omega
    refine Comes.st (fun t k => XS.ifNo X43.here hx rfl (hb hby at_108) rfl ((if0 _ _).trans (flt hc108_46).1) (XS.iload X43.here hx rfl (hb hby at_111) rfl (X43.ldcInt hx hown (mvT hZ (hw _ (List.mem_of_getElem? (i := 7) rfl))) (g := (mkF m 113 #[.val (.int ia0), .val (.int ia1), .val (.int ia2), .val (.int ia3), .val (.int off), .val (.ref b1), .val (.ref b6), .val (.int (2 : Int32)), .val (.int v40), .val (.int r44)] [(.int r44)])) rfl (hb hby at_113) _ k))) ?_
    show Comes p e below _ (T43.setTop (mkF m 115 #[.val (.int ia0), .val (.int ia1), .val (.int ia2), .val (.int ia3), .val (.int off), .val (.ref b1), .val (.ref b6), .val (.int (2 : Int32)), .val (.int v40), .val (.int r44)] [(.int (65535 : Int32)), (.int r44)]))
    have hc115_47 : ¬ ((65535 : Int32) < r44) := by have u := own_u2 ia2 ia3; rw [← P43_0] at u; have a_0 := c_i2b ia0; have a_1 := c_i2b ia1; have a_2 := c_i2b ia2; have a_3 := c_i2b ia3; have a_4 := c_mask ia0 (255 : Int32) 8 (by decide) (by decide); rw [hv_v7] at a_4; have a_5 := c_mask ia1 (255 : Int32) 8 (by decide) (by decide); rw [hv_v9] at a_5; have a_6 := c_mask ia2 (255 : Int32) 8 (by decide) (by decide); rw [hv_v11] at a_6; have a_7 := c_mask ia3 (255 : Int32) 8 (by decide) (by decide); rw [hv_v13] at a_7; have a_8 := c_mask off (2147483647 : Int32) 31 (by decide) (by decide); have a_9 := c_irem (off &&& (2147483647 : Int32)) (3 : Int32) 3 (by decide); rw [hv_v16] at a_9; have a_10 := c_imul v11 (256 : Int32); have a_11 := c_iadd (v11 * (256 : Int32)) v13; rw [hv_v40] at a_11; have a_12 := rng32 (2 : Int32); have a_13 := rng32 (ia0.toInt8.toInt32); have a_14 := rng32 (ia1.toInt8.toInt32); have a_15 := rng32 (ia2.toInt8.toInt32); have a_16 := rng32 (ia3.toInt8.toInt32); have a_17 := rng32 (off &&& (2147483647 : Int32)); have a_18 := rng32 (v11 * (256 : Int32)); have a_19 := rng32 ia0; have a_20 := rng32 ia1; have a_21 := rng32 ia2; have a_22 := rng32 ia3; have a_23 := rng32 off; have a_24 := rng32 v11; have a_25 := rng32 v13; have a_26 := rng32 v40; have a_27 := rng32 v7; have a_28 := rng32 v9; have a_29 := u; have c_0 := hc103_45; have c_1 := hc108_46; (simp only [Int32.lt_iff_toInt_lt, Int64.lt_iff_toInt_lt, ← Int32.toInt_inj, ← Int64.toInt_inj, Int32.reduceToInt, Int64.reduceToInt] at a_0 a_1 a_2 a_3 a_4 a_5 a_6 a_7 a_8 a_9 a_10 a_11 a_12 a_13 a_14 a_15 a_16 a_17 a_18 a_19 a_20 a_21 a_22 a_23 a_24 a_25 a_26 a_27 a_28 a_29 c_0 c_1 ⊢) <;> omega
    refine Comes.st (fun t k => XS.icmpNo X43.here hx rfl (hb hby at_115) rfl (flt hc115_47).2.2.1 (XS.iconst X43.here hx rfl (hb hby at_118) (XS.goto X43.here hx rfl (pc0 := 119) (pc' := 123) rfl (hb hby at_119) (by decide) (by decide) k))) ?_
    show Comes p e below _ (T43.setTop (mkF m 123 #[.val (.int ia0), .val (.int ia1), .val (.int ia2), .val (.int ia3), .val (.int off), .val (.ref b1), .val (.ref b6), .val (.int (2 : Int32)), .val (.int v40), .val (.int r44)] [(.int (1 : Int32))]))
    exact Comes.retN X43 hx (t := .boolean) Bd.returns (by simp) hlk (hb hby at_123) hs43 ⟨rfl, N43⟩ (by decide) (by decide)
set_option maxRecDepth 65536 in
set_option maxHeartbeats 40000000 in
theorem comes_1 {Post : Tables → Env → Array Value → State → Outcome → State → Prop} (hpost : ∀ tb e args s v u, (limb_1_1.after args s (.returned v) u = true ∧ limb_1_2.after args s (.returned v) u = true ∧ True) → FrameEnd s (.returned v) u (Jvm.fieldLocs frame_1_writes args s ++ Jvm.arrayLocs frame_1_arrays args s ++ Jvm.staticLocs frame_1_statics s) 16 128 → Post tb e args s (.returned v) u) :
    ArmFor flags0 classFile x code maxLocals ret World_1 tables_1 room_1 Calls_1 rest_1 Pre_1 Post := by
  intro l hfl _ _ p e ha hc hk s m args below hf hA hF happ hP
  obtain ⟨hcalls, hrest, hpre⟩ := hP
  obtain ⟨-, -, -, hnamed, -, -, -, hat⟩ := (Spec.applies_iff hf).mp happ
  obtain ⟨hg, hn⟩ := and_e (Cond.before_iff.mp (show (Jvm.Cond.and given_1 narrow_1).before args s = true from hpre))
  obtain ⟨c0, d0⟩ := and_e hg
  obtain ⟨c1, d1⟩ := and_e d0
  obtain ⟨c2, d2⟩ := and_e d1
  obtain ⟨c3, d3⟩ := and_e d2
  obtain ⟨c4, d4⟩ := and_e d3
  obtain ⟨w0, w1, w2, w3, w4, rfl⟩ : ∃ w0 w1 w2 w3 w4 : Value, args = #[w0, w1, w2, w3, w4] := by
    have hs : args.size = 5 := by simpa [Cond.value, given_1] using c0
    obtain ⟨L⟩ := args
    match L, hs with
    | [w0, w1, w2, w3, w4], _ => exact ⟨w0, w1, w2, w3, w4, rfl⟩
  have hw := fun d (hd : d ∈ tables_1) => atoms_spec (ws := Jvm.Cond.code x code maxLocals ret :: tables_1) hat d (List.mem_cons_of_mem _ hd)
  have hfit : Fit s := fun {y c} hc i hi => by
    obtain ⟨ha, rfl⟩ := Array.getElem?_eq_some_iff.mp hc
    have q := List.all_eq_true.mp ((Array.all_eq_true_iff_forall_mem.mp hF) _ (Array.getElem_mem ha)) i (List.mem_range.mpr hi)
    simpa [Array.getElem?_eq_getElem hi] using q
  obtain ⟨i0, ei0⟩ := is_v c1
  obtain rfl : w0 = (.int i0) := Option.some.inj ei0
  obtain ⟨i1, ei1⟩ := is_v c2
  obtain rfl : w1 = (.int i1) := Option.some.inj ei1
  obtain ⟨i2, ei2⟩ := is_v c3
  obtain rfl : w2 = (.int i2) := Option.some.inj ei2
  obtain ⟨i3, ei3⟩ := is_v c4
  obtain rfl : w3 = (.int i3) := Option.some.inj ei3
  obtain ⟨i4, ei4⟩ := is_v d4
  obtain rfl : w4 = (.int i4) := Option.some.inj ei4
  obtain ⟨n, o, h1, h2, h3, _, L, rfl, ⟨rfl, N⟩, hq⟩ := rm0 l s _ hw tables_1 i0 i1 i2 i3 i4 s.heap s.heap.size (Nat.le_refl _)  p e ha hc hk s m _ below hf ((Spec.applies_iff_loose hf).mp happ).1 ⟨rfl, State.Warmed39.refl s, rfl⟩ trivial
  refine ⟨n, _, h1, h2, h3, hpost _ _ _ _ _ _ ⟨Cond.after_iff.mpr rfl, Cond.after_iff.mpr (eq_i res_at (Term.int_eval (1)) rfl), trivial⟩ ⟨hq.1, hq.2.1, (hq.2.2.sift fun y hy => Or.inr (N y hy)).mono (by decide) (by decide)⟩⟩
theorem main_1_1 : Claimed_1_1 := comes_1 fun _ _ _ _ _ _ h hF => ⟨h.1, hF⟩
theorem main_1_2 : Claimed_1_2 := comes_1 fun _ _ _ _ _ _ h hF => ⟨h.2.1, hF⟩
end Jvm.Pilot.@@N@@
namespace Jvm.Pilot.@@N@@
open Jvm Jvm.ClassFile Sem Op Lib Jvm.Free Jvm.Stand Jvm.Pilot.@@N@@.Jvm.D
/-! MADE BY PROGRAM (witnessworld.py) out of the Statement's table words and the real class files: 9 classes; the members and pool entries that the words name. The judged class is class 1, her method 1. -/
namespace start1
open Jvm.ClassFile
def u (s : String) : CpInfo := .utf8 (stringToUtf16 s)
/-- a pool by its gaps: so many unusable entries, then the entry; so many at the end -/
def gap : Nat → List CpInfo → List CpInfo
  | 0, r => r
  | n + 1, r => .unusable :: gap n r
def poolList (es : List (Nat × CpInfo)) (last : Nat) : List CpInfo := es.foldr (fun e r => gap e.1 (e.2 :: r)) (gap last [])
def pool (es : List (Nat × CpInfo)) (last : Nat) : Array CpInfo := ⟨poolList es last⟩
def fileOf (pool : Array CpInfo) (this : Nat) (attrs : Array Attribute := #[]) (ms : Array MethodInfo := #[]) (fl : Nat := 33) (sup : Nat := 0) (ifs : Array Nat := #[]) (fds : Array FieldInfo := #[]) : ClassFile where
  minorVersion := 0
  majorVersion := 65
  constantPool := pool
  accessFlags := fl
  thisClass := this
  superClass := sup
  interfaces := ifs
  fields := fds
  methods := ms
  attributes := attrs
def plain (name : String) (sup : Option ClassId) : Class where
  name := name
  kind := .ordinary
  loader := none
  accessFlags := 33
  super := sup
  interfaces := #[]
  cf := none
  fields := #[]
  methods := #[]
  instanceTypes := #[]
  staticTypes := #[]
  resolved := #[]
  callSites := []
  init := .initialized
  statics := none
  mirror := none

def pool0 : Array CpInfo := pool [(5, u "<init>"), (0, u "()V"), (1, .class_ 10), (1, u "java/lang/Object")] 113

def k0m0 : Method := { name := "<init>", desc := "()V", sig := { parameters := [], returnType := none }, accessFlags := 1, code := none }
/-- java/lang/Object -/
def k0 : Class := { plain "java/lang/Object" none with
  accessFlags := 33
  interfaces := #[]
  cf := some (fileOf pool0 8 #[] #[{ accessFlags := 1, nameIndex := 5, descriptorIndex := 6, attributes := #[] }] 33 0 #[] #[])
  fields := #[]
  methods := #[k0m0]
  instanceTypes := #[]
  staticTypes := #[]
  resolved := Array.replicate 124 none
  statics := none }

def pool1 : Array CpInfo := pool [(2, .class_ 4), (1, u "java/lang/Object"), (0, u "<init>"), (0, u "()V"), (0, .integer 2147483647), (0, .methodref 9 10), (0, .class_ 11), (0, .nameAndType 12 13), (0, u "com/example/typeflow/typeflow/classfile/ClassFileInput"), (0, u "u2"), (0, u "([BI)I"), (0, .integer 65535), (0, .class_ 16), (0, u "com/example/typeflow/typeflow/classfile/ClassFileInputU2PinLaw"), (2, u "law"), (0, u "(IIIII)Z")] 7

def k1m0 : Method := { name := "<init>", desc := "()V", sig := { parameters := [], returnType := none }, accessFlags := 1, code := none }
def k1c1 : Code := { maxStack := 5, maxLocals := 10, code := code, exceptionTable := #[], attributes := #[] }
def k1m1 : Method := { name := "law", desc := "(IIIII)Z", sig := { parameters := [.int, .int, .int, .int, .int], returnType := some .boolean }, accessFlags := 9, code := some k1c1 }
/-- com/example/typeflow/typeflow/classfile/ClassFileInputU2PinLaw -/
def k1 : Class := { plain "com/example/typeflow/typeflow/classfile/ClassFileInputU2PinLaw" (some 0) with
  accessFlags := 49
  interfaces := #[]
  cf := some (fileOf pool1 15 #[] #[{ accessFlags := 1, nameIndex := 5, descriptorIndex := 6, attributes := #[] }, { accessFlags := 9, nameIndex := 19, descriptorIndex := 20, attributes := #[] }] 49 2 #[] #[])
  fields := #[]
  methods := #[k1m0, k1m1]
  instanceTypes := #[]
  staticTypes := #[]
  resolved := Array.replicate 28 none
  statics := none }

def pool2 : Array CpInfo := pool [(2, .class_ 4), (1, u "java/lang/Object"), (5, .class_ 12), (1, u "com/example/typeflow/typeflow/classfile/ClassFileInput"), (0, u "part"), (0, u "Ljava/lang/String;"), (2, u "bytes"), (0, u "[B"), (2, u "position"), (0, u "I"), (8, u "u2"), (0, u "([BI)I")] 52

def k2c0 : Code := { maxStack := 4, maxLocals := 2, code := prog_55_method_13_code, exceptionTable := #[], attributes := #[] }
def k2m0 : Method := { name := "u2", desc := "([BI)I", sig := { parameters := [(.array .byte), .int], returnType := some .int }, accessFlags := 8, code := some k2c0 }
/-- com/example/typeflow/typeflow/classfile/ClassFileInput -/
def k2 : Class := { plain "com/example/typeflow/typeflow/classfile/ClassFileInput" (some 0) with
  accessFlags := 48
  interfaces := #[]
  cf := some (fileOf pool2 10 #[] #[{ accessFlags := 8, nameIndex := 31, descriptorIndex := 32, attributes := #[] }] 48 2 #[] #[{ accessFlags := 18, nameIndex := 17, descriptorIndex := 18, attributes := #[] }, { accessFlags := 2, nameIndex := 21, descriptorIndex := 22, attributes := #[] }, { accessFlags := 2, nameIndex := 13, descriptorIndex := 14, attributes := #[] }])
  fields := #[{ name := "bytes", type := (.array .byte), accessFlags := 18, slot := 0, constantValue := 0 }, { name := "position", type := .int, accessFlags := 2, slot := 1, constantValue := 0 }, { name := "part", type := (.object "java/lang/String"), accessFlags := 2, slot := 2, constantValue := 0 }]
  methods := #[k2m0]
  instanceTypes := #[(.array .byte), .int, (.object "java/lang/String")]
  staticTypes := #[]
  resolved := Array.replicate 85 none
  statics := none }

def pool3 : Array CpInfo := pool [(1, u "java/lang/Cloneable"), (0, .class_ 1), (0, u "java/lang/Object"), (0, .class_ 3)] 3

/-- java/lang/Cloneable -/
def k3 : Class := { plain "java/lang/Cloneable" (some 0) with
  accessFlags := 1537
  interfaces := #[]
  cf := some (fileOf pool3 2 #[] #[] 1537 4 #[] #[])
  fields := #[]
  methods := #[]
  instanceTypes := #[]
  staticTypes := #[]
  resolved := Array.replicate 8 none
  statics := none }

def pool4 : Array CpInfo := pool [(1, u "java/io/Serializable"), (0, .class_ 1), (0, u "java/lang/Object"), (0, .class_ 3)] 3

/-- java/io/Serializable -/
def k4 : Class := { plain "java/io/Serializable" (some 0) with
  accessFlags := 1537
  interfaces := #[]
  cf := some (fileOf pool4 2 #[] #[] 1537 4 #[] #[])
  fields := #[]
  methods := #[]
  instanceTypes := #[]
  staticTypes := #[]
  resolved := Array.replicate 8 none
  statics := none }

/-- the primitive byte -/
def k5 : Class := { plain "byte" none with kind := .primitive 'B', accessFlags := 0x411 }
/-- [B -/
def k6 : Class := { plain "[B" (some 0) with kind := .array 5 .byte, interfaces := #[3, 4], accessFlags := 1041 }

/-- the primitive int -/
def k7 : Class := { plain "int" none with kind := .primitive 'I', accessFlags := 0x411 }
/-- [I -/
def k8 : Class := { plain "[I" (some 0) with kind := .array 7 .int, interfaces := #[3, 4], accessFlags := 1041 }

def heap : Heap := #[]
def classes : Array Class := #[k0, k1, k2, k3, k4, k5, k6, k7, k8]
def interned : List (Array UInt16 × Addr) := []
def slotsUsed : Nat := 0
def theMethod : MethodId := ⟨1, 1⟩
def args0 : Array Value := #[.int 5, .int 300, .int 7, .int 9, .int 1]
def aboutOver (below : List Frame) : State where
  vm := { classes := classes, interned := interned.toArray }
  heap := heap
  slotsUsed := slotsUsed
  threads := #[{ frames := .invoking theMethod args0 :: below }]
def below0 : List Frame := [.native { method := ⟨0, 0⟩, args := #[] }]
def about1 : State := aboutOver below0
def p0 : Program := .bare "" "" ""
def e0 : Env := launch0.env 0 0 0
theorem w_frames : about1.frames = Frame.invoking theMethod args0 :: below0 := rfl
set_option maxRecDepth 65536 in
theorem w_args : argsFit about1.vm theMethod args0 = true := by decide +kernel
set_option maxRecDepth 65536 in
theorem w_heap : heapFits about1 = true := by decide +kernel
set_option maxRecDepth 65536 in
theorem w_runnable : about1.curStatus? = some .runnable := by decide +kernel
set_option maxRecDepth 65536 in
theorem w_alone : about1.alone = true := by decide +kernel
set_option maxRecDepth 65536 in
theorem w_named : about1.methodNamed? x = some theMethod := by decide +kernel
set_option maxRecDepth 65536 in
theorem w_hears : about1.hears theMethod below0 = true := by decide +kernel
set_option maxRecDepth 65536 in
theorem w_ripe : about1.ripe theMethod args0 below0 = true := by decide +kernel
theorem w_running : about1.status = .running := rfl
set_option maxRecDepth 65536 in
theorem w_room : about1.hasRoom e0.platform room_1 = true :=
  launch0.hasRoom_least _ room_1 (by decide +kernel) (by decide +kernel) (by decide +kernel) (by decide +kernel) (by decide +kernel) (by decide +kernel)
theorem allAtoms_all (ts : List Jvm.Cond) (a : Array Jvm.Value) (st : Jvm.State) : (allAtoms ts).before a st = ts.all (fun c => c.before a st) := by
  induction ts with
  | nil => rfl
  | cons c t ih =>
    show (Jvm.Cond.and c (allAtoms t)).before a st = _
    rw [Jvm.Cond.before_and, ih, List.all_cons]
def words1 : List Jvm.Cond := Jvm.Cond.code x code maxLocals ret :: tables_1
/-- a 'code' word, met by the world's own term for the bytes: nothing is compared byte by byte -/
theorem code_word {y : MethodName} {bytes : ByteArray} {mx : Nat} {rt : Option FieldType} {a : Array Value} {s : State} {m : MethodId} {meth : Method} {c : Code} (h1 : s.methodNamed? y = some m) (h2 : s.vm.method? m = some meth) (h3 : meth.code = some c) (h4 : c.code = bytes)
    (h5 : (c.maxLocals == mx && c.exceptionTable.isEmpty && decide (c.maxStack ≤ mostOperands) && decide (meth.sig.returnType = rt) && !meth.locks && decide (parseMethodDescriptor y.desc = some meth.sig)) = true) : (Jvm.Cond.code y bytes mx rt).before a s = true := by
  simp only [Bool.and_eq_true, beq_iff_eq, Bool.not_eq_true', decide_eq_true_eq] at h5
  obtain ⟨⟨⟨⟨⟨g1, g2⟩, g3⟩, g4⟩, g5⟩, g6⟩ := h5
  simp [Cond.before, Cond.holds, Cond.value, h1, h2, h3, h4, g1, g2, g3, g4, g5, g6]
def isCode : Jvm.Cond → Bool
  | .code _ _ _ _ => true
  | _ => false
theorem all_split {L : List Jvm.Cond} {P : Jvm.Cond → Bool} (h1 : L.all (fun c => isCode c || P c) = true) (h2 : ∀ c ∈ L.filter isCode, P c = true) : L.all P = true := by
  refine List.all_eq_true.mpr fun c hc => ?_
  have h := List.all_eq_true.mp h1 c hc
  rcases Bool.eq_false_or_eq_true (isCode c) with hi | hi
  · exact h2 c (List.mem_filter.mpr ⟨hc, hi⟩)
  · simpa [hi] using h
set_option maxRecDepth 65536 in
theorem w_c0 : (Jvm.Cond.code x code maxLocals ret).before args0 about1 = true := code_word (m := ⟨1, 1⟩) (meth := k1m1) (c := k1c1) (by decide +kernel) rfl rfl rfl (by decide +kernel)
set_option maxRecDepth 65536 in
theorem w_c1 : (Jvm.Cond.code ({ cls := "com/example/typeflow/typeflow/classfile/ClassFileInput", name := "u2", desc := "([BI)I" } : Jvm.MethodName) prog_55_method_13_code (2 : Nat) (Option.some Jvm.ClassFile.FieldType.int)).before args0 about1 = true := code_word (m := ⟨2, 0⟩) (meth := k2m0) (c := k2c0) (by decide +kernel) rfl rfl rfl (by decide +kernel)
def codes1 : List Jvm.Cond := [Jvm.Cond.code x code maxLocals ret, Jvm.Cond.code ({ cls := "com/example/typeflow/typeflow/classfile/ClassFileInput", name := "u2", desc := "([BI)I" } : Jvm.MethodName) prog_55_method_13_code (2 : Nat) (Option.some Jvm.ClassFile.FieldType.int)]
set_option maxRecDepth 65536 in
theorem codes_eq : words1.filter isCode = codes1 := rfl
theorem w_codes : ∀ c ∈ words1.filter isCode, c.before args0 about1 = true := by
  rw [codes_eq]
  intro c hc
  simp only [codes1, List.mem_cons, List.not_mem_nil, or_false] at hc
  rcases hc with rfl | rfl
  · exact w_c0
  · exact w_c1
set_option maxRecDepth 65536 in
theorem w_t1 : words1.all (fun c => isCode c || c.before args0 about1) = true := by decide +kernel
theorem w_tables : (allAtoms (Jvm.Cond.code x code maxLocals ret :: tables_1)).before args0 about1 = true := by
  rw [allAtoms_all]
  show words1.all (fun c => c.before args0 about1) = true
  refine all_split ?_ w_codes
  rw [w_t1]
set_option maxRecDepth 65536 in
theorem w_case : (Jvm.Cond.and given_1 narrow_1).before args0 about1 = true := by decide +kernel
theorem w_applies : (headSpec (Jvm.Cond.code x code maxLocals ret :: tables_1) room_1).applies x e0.platform about1 = true :=
  (Spec.applies_iff w_frames).mpr ⟨w_running, w_runnable, w_alone, w_named, w_hears, w_ripe, w_room, w_tables⟩
theorem atStart : AtStart classFile x code maxLocals ret World_1 tables_1 room_1 Calls_1 rest_1 Pre_1 launch0 p0 e0 about1 theMethod args0 below0 :=
  ⟨lists_1, trivial, launch0.admits_env _ _ _, launch0.least_env, fairChoices_fair.cas, fairChoices_fair.clock, w_frames, w_args, w_heap, w_applies, trivial, trivial, w_case⟩
end start1
theorem witness_1 : WitnessClaimed_1 := ⟨start1.p0, start1.e0, start1.about1, start1.theMethod, start1.args0, start1.below0, start1.atStart⟩
end Jvm.Pilot.@@N@@
