import JvmDerived
import JvmDerived.Pilot.@@N@@Statement
import JvmDerived.Pilot.@@N@@Code
set_option linter.unusedVariables false
set_option linter.unusedSimpArgs false
namespace Jvm.Pilot.@@N@@
open Jvm Jvm.ClassFile Sem Op Lib Jvm.Free Jvm.Stand Jvm.LawKit Jvm.RoadKit Bundle Jvm.Pilot.@@N@@.Jvm.D
/-- from S the run comes to a state that P allows -/
def Comes (p : Program) (e : Env) (below : List Frame) (P : State → Prop) (S : State) : Prop := ∃ S', Steps p.tables e below S S' ∧ P S'
/-- how a body ends that Q allows -/
def EndsAt (below : List Frame) (s : State) (Q : Option Value → Heap → List Loc → Prop) (kc ks : Nat) (s₂ : State) : Prop := ∃ o, s₂.status = .running ∧ Ended s₂ below o ∧ ∃ v L, o = .returned v ∧ Q v s₂.heap L ∧ FrameEnd s o s₂ L kc ks
section Own
variable {p : Program} {l : Launch} {e : Env} {R : Room} {s : State} {m : MethodId} {args : Array Value} {below : List Frame} {meth : Method} {c : Code} {T : State} {locs : List Loc} {cells slots : Nat} {Q : Option Value → Heap → List Loc → Prop} {kc ks : Nat} {P : State → Prop} {S S' : State} {h : Heap}
theorem Comes.here (q : P S) : Comes p e below P S := ⟨S, Steps.refl _, q⟩
theorem Comes.st (f : ∀ t, Steps p.tables e below S' t → Steps p.tables e below S t) (g : Comes p e below P S') : Comes p e below P S := by
  obtain ⟨s₂, h1, r⟩ := g; exact ⟨s₂, f _ h1, r⟩
theorem Comes.go (f : Steps p.tables e below S S') (g : Comes p e below P S') : Comes p e below P S := by
  obtain ⟨s₂, h1, r⟩ := g; exact ⟨s₂, f.trans h1, r⟩
theorem Comes.cast {g g' : JFrame} (q : g = g') (k : Comes p e below P (T.setTop g')) : Comes p e below P (T.setTop g) := q ▸ k
theorem Comes.out (h : Comes p e below (EndsAt below s Q kc ks) S) : ∃ s₂ o, Steps p.tables e below S s₂ ∧ s₂.status = .running ∧ Ended s₂ below o ∧ ∃ v L, o = .returned v ∧ Q v s₂.heap L ∧ FrameEnd s o s₂ L kc ks := by
  obtain ⟨s₂, h1, o, r⟩ := h; exact ⟨s₂, o, h1, r⟩
theorem Comes.fin (X : Stand p l e R s m args below meth c T locs cells slots) {v : Option Value} (hv : meth.sig.returnType = none → v = none) (hlk : meth.locks = false)
    (hs : ∀ fs, (∀ (f : JFrame) (acts : List Action), f.method = m → f.locked = none → f.entered = [] → (doReturn e (T.setTop f) acts v).1 = T.setFrames fs) → Steps p.tables e below S (T.setFrames fs))
    (eT : T.heap = h) (hq : Q v h locs) (hc : cells ≤ kc) (hl : slots ≤ ks) : Comes p e below (EndsAt below s Q kc ks) S := by
  obtain ⟨fs, hr, hrun, hended, hW, hsame⟩ := X.leave (v := v) hv hlk
  exact ⟨_, hs fs hr, _, hrun, hended, _, _, rfl, (show Q v T.heap locs from by rw [eT]; exact hq), ⟨_, rfl⟩, hW, hsame.mono hc hl⟩
theorem Comes.ret0 (X : Stand p l e R s m args below meth c T locs cells slots) (hx : p.tables.exec = Jvm.exec) {pc : Nat} {Ls : Array Slot} (hret : meth.sig.returnType = none) (hlk : meth.locks = false) (hd : decode c.code pc = .ok (.return_, 1))
    (eT : T.heap = h) (hq : Q none h locs) (hc : cells ≤ kc) (hl : slots ≤ ks) : Comes p e below (EndsAt below s Q kc ks) (T.setTop (mkF m pc Ls [])) :=
  Comes.fin X (fun _ => rfl) hlk (fun _ hr => X.returnOut hx hret hd hr) eT hq hc hl
theorem Comes.retN (X : Stand p l e R s m args below meth c T locs cells slots) (hx : p.tables.exec = Jvm.exec) {pc : Nat} {Ls : Array Slot} {z : Int32} {t : FieldType} {rest : List Value} (hret : meth.sig.returnType = some t) (ht : t = .boolean ∨ t = .byte ∨ t = .char ∨ t = .short) (hlk : meth.locks = false) (hd : decode c.code pc = .ok (.ireturn, 1))
    (eT : T.heap = h) (hq : Q (some (.int (nar t z))) h locs) (hc : cells ≤ kc) (hl : slots ≤ ks) : Comes p e below (EndsAt below s Q kc ks) (T.setTop (mkF m pc Ls (.int z :: rest))) :=
  Comes.fin X (fun q => by rw [hret] at q; cases q) hlk (fun _ hr => Jvm.RoadKit.retN X hx hret ht hd hr) eT hq hc hl
theorem Comes.retV (X : Stand p l e R s m args below meth c T locs cells slots) (hx : p.tables.exec = Jvm.exec) {pc : Nat} {Ls : Array Slot} {w : Value} {t : FieldType} {i : Instr} {rest : List Value} (hret : meth.sig.returnType = some t) (hn : narrow t w = w)
    (hi : (i = .ireturn ∧ (t = .int ∨ t = .boolean ∨ t = .byte ∨ t = .char ∨ t = .short) ∧ ∃ z, w = .int z) ∨ (i = .lreturn ∧ t = .long ∧ ∃ z, w = .long z) ∨ (i = .dreturn ∧ t = .double ∧ ∃ z, w = .double z) ∨ (i = .freturn ∧ t = .float ∧ ∃ z, w = .float z) ∨ (i = .areturn ∧ t.isReference = true ∧ w.isRef = true))
    (hlk : meth.locks = false) (hd : decode c.code pc = .ok (i, 1))
    (eT : T.heap = h) (hq : Q (some w) h locs) (hc : cells ≤ kc) (hl : slots ≤ ks) : Comes p e below (EndsAt below s Q kc ks) (T.setTop (mkF m pc Ls (w :: rest))) :=
  Comes.fin X (fun q => by rw [hret] at q; cases q) hlk (fun _ hr => retOut X hx hret hn hi hd hr) eT hq hc hl
theorem narrow_ref {t : FieldType} {w : Value} (h : w.isRef = true) : narrow t w = w := by rcases ref_cases h with rfl | ⟨y, rfl⟩ <;> cases t <;> rfl
theorem lremM {g : JFrame} {target : State} (X : Stand p l e R s m args below meth c T locs cells slots) (hx : p.tables.exec = Jvm.exec) (hg : g.method = m) {x y : Int64} {rest : List Value} (hd : decode c.code g.pc = .ok (.lrem, 1)) (hs : g.stack = .long y :: .long x :: rest) (hy : ¬ y = 0)
    (hr : Steps p.tables e below (T.setTop { g with pc := g.pc + 1, stack := .long (x % y) :: rest }) target) : Steps p.tables e below (T.setTop g) target := by
  have q : x - x / y * y = x % y := lrem_mod x y
  exact XT.lrem X.here hx hg hd hs hy (by rw [q]; exact hr)
theorem own_lrem (x y : Int64) (d : Int) (hy : y.toInt = d) : (0 ≤ x.toInt → (x % y).toInt = x.toInt % d) ∧ (x.toInt < 0 → (x % y).toInt = -((-x.toInt) % d)) := by rw [Int64.toInt_mod, hy]; exact tr _ _
theorem own_lremV (x y : Int64) : 0 ≤ x.toInt → 0 < y.toInt → 0 ≤ (x % y).toInt ∧ (x % y).toInt < y.toInt := by
  intro h1 h2
  rw [Int64.toInt_mod, Int.tmod_eq_emod_of_nonneg h1]
  exact ⟨Int.emod_nonneg _ (by omega), Int.emod_lt_of_pos _ h2⟩
theorem own_eqi {a0 : Array Value} {Z : State} {t : Term} {k : Int32} {idx : List Nat} (h : (Jvm.Cond.eq t (Term.int k)).value a0 Z none Z idx = some true) : t.eval a0 Z none idx Z = some (.int k) := by
  obtain ⟨x, y, e1, e2, k1, k2⟩ := cmp_v (Or.inl h)
  simp only [Term.eval, Option.some.injEq] at e2
  subst e2
  obtain ⟨z, rfl⟩ := k2
  simp [Cond.value, e1, Term.eval] at h
  rw [e1, h]
theorem own_selp {a0 : Array Value} {Z : State} {y : MethodName} {n : Nat} (wi : (Jvm.Cond.instantiable y.cls n).before a0 Z = true) (wp : (Jvm.Cond.privateMethod y).before a0 Z = true) (wm : (Jvm.Cond.instanceMethod y).before a0 Z = true) (hy : y.cls ≠ "java/lang/invoke/MethodHandle" ∧ y.cls ≠ "java/lang/invoke/VarHandle") : (Jvm.Cond.selects y.cls y y).before a0 Z = true := by
  obtain ⟨c, k, h1, h2, h3, h4, -⟩ := Cond.instantiable_spec wi
  exact Jvm.Stand.selects_self_of_private h1 h2 (by simp only [Bool.or_eq_false_iff] at h4; exact h4.1) (Cond.privateMethod_at wp) wm hy
theorem own_eqr {a0 : Array Value} {Z : State} {t u : Term} {y : Value} {idx : List Nat} (h : (Jvm.Cond.eq t u).value a0 Z none Z idx = some true) (hu : u.eval a0 Z none idx Z = some y) (hy : y.isRef = true) : t.eval a0 Z none idx Z = some y := by
  obtain ⟨x, y', e1, e2, k1, k2⟩ := cmp_v (Or.inl h)
  cases hu.symm.trans e2
  have hx : x.isRef = true := by
    rcases ref_cases hy with rfl | ⟨z, rfl⟩ <;> cases x <;> simp_all [Kin, Value.isRef]
  rw [e1, gotT (eq_R e1 hu hx hy) h]
theorem own_len {a0 : Array Value} {Z : State} {t : Term} {a : Addr} {cl : Cell} {ty : FieldType} {k : Int32} (ht : t.eval a0 Z none [] Z = some (.ref a)) (A : Arr Z Z.heap a cl ty) (h : (Jvm.Cond.eq (Term.length t) (Term.int k)).value a0 Z none Z [] = some true) : cl.slots.size < 2 ^ 31 ∧ cl.slots.size.toInt32 = k := by
  have e := own_eqi h
  have e2 := A.fin (Vm.Alike.refl _)
  simp [Term.eval, ht, e2] at e
  exact ⟨by omega, e.2⟩
theorem own_elem {a0 : Array Value} {Z : State} {t u : Term} {a : Addr} {cl : Cell} {j : Int32} {y : Value} (ht : t.eval a0 Z none [] Z = some (.ref a)) (hc : Z.heap[a]? = some cl) (h : (Jvm.Cond.eq (Term.elem t (Term.int j)) u).value a0 Z none Z [] = some true) (hu : u.eval a0 Z none [] Z = some y) (hy : y.isRef = true) : cl.slots[j.toNatClampNeg]? = some y := (elem_in (own_eqr h hu hy) ht (by rfl) hc).2
theorem own_fldi {a0 : Array Value} {Z : State} {t : Term} {k : Int32} {a : Addr} {C n d : String} (ht : t.eval a0 Z none [] Z = some (.ref a)) (h : (Jvm.Cond.eq (Term.field t C n d) (Term.int k)).value a0 Z none Z [] = some true) : Fld Z Z.heap a C n d (.int k) := Fld.start ((fld_at ht).symm.trans (own_eqi h))
end Own
theorem d2_0 : decode jdk_29_method_66_code 0 = .ok (.lload_n 0, 1) := by decide +kernel
theorem d2_1 : decode jdk_29_method_66_code 1 = .ok (.lload_n 2, 1) := by decide +kernel
theorem d2_2 : decode jdk_29_method_66_code 2 = .ok (.lcmp, 1) := by decide +kernel
theorem d2_3 : decode jdk_29_method_66_code 3 = .ok (.ifCond .lt 7, 3) := by decide +kernel
theorem d2_10 : decode jdk_29_method_66_code 10 = .ok (.lload_n 2, 1) := by decide +kernel
theorem d2_11 : decode jdk_29_method_66_code 11 = .ok (.lreturn, 1) := by decide +kernel
theorem d2_6 : decode jdk_29_method_66_code 6 = .ok (.lload_n 0, 1) := by decide +kernel
theorem d2_7 : decode jdk_29_method_66_code 7 = .ok (.goto 4, 3) := by decide +kernel
theorem d3_0 : decode jdk_29_method_70_code 0 = .ok (.lload_n 0, 1) := by decide +kernel
theorem d3_1 : decode jdk_29_method_70_code 1 = .ok (.lload_n 2, 1) := by decide +kernel
theorem d3_2 : decode jdk_29_method_70_code 2 = .ok (.lcmp, 1) := by decide +kernel
theorem d3_3 : decode jdk_29_method_70_code 3 = .ok (.ifCond .gt 7, 3) := by decide +kernel
theorem d3_10 : decode jdk_29_method_70_code 10 = .ok (.lload_n 2, 1) := by decide +kernel
theorem d3_11 : decode jdk_29_method_70_code 11 = .ok (.lreturn, 1) := by decide +kernel
theorem d3_6 : decode jdk_29_method_70_code 6 = .ok (.lload_n 0, 1) := by decide +kernel
theorem d3_7 : decode jdk_29_method_70_code 7 = .ok (.goto 4, 3) := by decide +kernel
theorem d1_0 : decode prog_1_method_2_code 0 = .ok (.lload_n 1, 1) := by decide +kernel
theorem d1_1 : decode prog_1_method_2_code 1 = .ok (.ldc2_w 11, 3) := by decide +kernel
theorem d1_4 : decode prog_1_method_2_code 4 = .ok (.lcmp, 1) := by decide +kernel
theorem d1_5 : decode prog_1_method_2_code 5 = .ok (.ifCond .le 17, 3) := by decide +kernel
theorem d1_22 : decode prog_1_method_2_code 22 = .ok (.ldc2_w 11, 3) := by decide +kernel
theorem d1_25 : decode prog_1_method_2_code 25 = .ok (.lload_n 1, 1) := by decide +kernel
theorem d1_26 : decode prog_1_method_2_code 26 = .ok (.ldc2_w 22, 3) := by decide +kernel
theorem d1_29 : decode prog_1_method_2_code 29 = .ok (.iload_n 0, 1) := by decide +kernel
theorem d1_30 : decode prog_1_method_2_code 30 = .ok (.i2l, 1) := by decide +kernel
theorem d1_31 : decode prog_1_method_2_code 31 = .ok (.lmul, 1) := by decide +kernel
theorem d1_32 : decode prog_1_method_2_code 32 = .ok (.invokestatic 24, 3) := by decide +kernel
theorem d1_35 : decode prog_1_method_2_code 35 = .ok (.invokestatic 30, 3) := by decide +kernel
theorem d1_38 : decode prog_1_method_2_code 38 = .ok (.l2i, 1) := by decide +kernel
theorem d1_39 : decode prog_1_method_2_code 39 = .ok (.ireturn, 1) := by decide +kernel
theorem pd_0 : parseMethodDescriptor "(JJ)J" = some ⟨[.long, .long], some .long⟩ := by decide +kernel
theorem pd_1 : parseMethodDescriptor "(IJ)I" = some ⟨[.int, .long], some .int⟩ := by decide +kernel
theorem pn_2 : plainFor (⟨"java/lang/Math", "max", "(JJ)J"⟩ : MethodName) = true := by decide +kernel
theorem pn_3 : plainFor (⟨"java/lang/Math", "min", "(JJ)J"⟩ : MethodName) = true := by decide +kernel
theorem pn_1 : plainName "com/example/hopwise/hopwise/ArrayLengths" = true := by first | (simp [plainName, overriddenIn]; done) | decide +kernel
theorem pn_0 : plainName "com/example/hopwise/hopwise/ArrayLengthsGrownPinLaw" = true := by first | (simp [plainName, overriddenIn]; done) | decide +kernel
theorem ef_rm2 (m : MethodId) (x0 : Int64) (x1 : Int64) : entryFrame m #[(.long x0), (.long x1)] 4 = mkF m 0 #[.val (.long x0), .second, .val (.long x1), .second] [] := by first | (simp [entryFrame, mkF, argsToLocals, Value.category]; done) | rfl
theorem ef_rm3 (m : MethodId) (x0 : Int64) (x1 : Int64) : entryFrame m #[(.long x0), (.long x1)] 4 = mkF m 0 #[.val (.long x0), .second, .val (.long x1), .second] [] := by first | (simp [entryFrame, mkF, argsToLocals, Value.category]; done) | rfl
theorem ef_rm1 (m : MethodId) (x0 : Int32) (x1 : Int64) : entryFrame m #[(.int x0), (.long x1)] 3 = mkF m 0 #[.val (.int x0), .val (.long x1), .second] [] := by first | (simp [entryFrame, mkF, argsToLocals, Value.category]; done) | rfl
theorem ef_rm0 (m : MethodId) (x0 : Int32) (x1 : Int64) (x2 : Int32) : entryFrame m #[(.int x0), (.long x1), (.int x2)] maxLocals = mkF m 0 #[.val (.int x0), .val (.long x1), .second, .val (.int x2), .unset, .unset, .unset, .unset, .unset, .unset] [] := by first | (simp [entryFrame, mkF, argsToLocals, Value.category, maxLocals]; done) | rfl
def Q_rm2 (Z : State) (xa : Int64) (xb : Int64) (h0 : Heap) (n0 : Nat) (v : Option Value) (h : Heap) (L : List Loc) : Prop := ∃ (r : Int64), (v = some (.long r)) ∧ (Fr n0 L) ∧ (h = h0) ∧ ((xa < xb ∧ r = xb) ∨ (¬ (xa < xb) ∧ r = xa))
set_option maxRecDepth 65536 in
set_option maxHeartbeats 40000000 in
theorem rm2 (l : Launch) (Z : State) (a0 : Array Value) (hw : ∀ d ∈ tables_1, d.before a0 Z = true) (ws : List Jvm.Cond) (xa : Int64) (xb : Int64) (h0 : Heap) (n0 : Nat) (Z0 : n0 ≤ h0.size) :
    MetFree l (⟨"java/lang/Math", "max", "(JJ)J"⟩ : MethodName) (head1 (Jvm.Cond.code (⟨"java/lang/Math", "max", "(JJ)J"⟩ : MethodName) jdk_29_method_66_code 4 (some .long) :: ws) ({ frames := 0, cells := 0, slots := 0, locals := 0 } : Room)) (fun a U => a = #[(.long xa), (.long xb)] ∧ Z.Warmed39 U.vm ∧ U.heap = h0) (fun _ _ _ _ _ => True) (fun _ U o U' => ∃ v L, o = .returned v ∧ Q_rm2 Z xa xb h0 n0 v U'.heap L ∧ FrameEnd U o U' L ({ frames := 0, cells := 0, slots := 0, locals := 0 } : Room).cells ({ frames := 0, cells := 0, slots := 0, locals := 0 } : Room).slots) := by
  refine MetFree.of_bodySF pn_2 hisR ?_
  intro p e s m args below meth c s₁ Bd hml0 hP hK
  obtain ⟨rfl, hZ, hh⟩ := hP
  have hx := Bd.exec
  have hby := Bd.bytes
  have hml : c.maxLocals = 4 := hml0
  have hown : s.vm.findClass "java/lang/Math" = some m.cls := findClass_of_methodNamed Bd.named
  have hnm := (name_of_methodNamed Bd.named Bd.method).1
  have hlk : meth.locks = false := Bd.notSynchronized
  have X0 : Stand p l e ({ frames := 0, cells := 0, slots := 0, locals := 0 } : Room) s m #[(.long xa), (.long xb)] below meth c s₁ [] 0 0 := Stand.of_body Bd
  have e0 : s₁.heap = h0 := by rw [← hh, Bd.state]; rfl
  have N0 := Fr.nil n0
  refine Comes.out (Q := Q_rm2 Z xa xb h0 n0) (kc := ({ frames := 0, cells := 0, slots := 0, locals := 0 } : Room).cells) (ks := ({ frames := 0, cells := 0, slots := 0, locals := 0 } : Room).slots) ?_
  refine Comes.cast (ef_rm2 m xa xb) ?_
  show Comes p e below _ (s₁.setTop (mkF m 0 #[.val (.long xa), .second, .val (.long xb), .second] []))
  refine Comes.st (fun t k => XS.lloadN X0.here hx rfl (hb hby d2_0) rfl (XS.lloadN X0.here hx rfl (hb hby d2_1) rfl (XS.lcmp X0.here hx rfl (hb hby d2_2) rfl k))) ?_
  show Comes p e below _ (s₁.setTop (mkF m 3 #[.val (.long xa), .second, .val (.long xb), .second] [(.int (lcmpW xa xb))]))
  by_cases hc3_1 : xa < xb
  · refine Comes.st (fun t k => XS.ifYes X0.here hx rfl (pc0 := 3) (pc' := 10) rfl (hb hby d2_3) rfl ((if0 _ _).trans (tlt ((lw_lt _ _).mpr hc3_1)).1) (by decide) (by decide) (XS.lloadN X0.here hx rfl (hb hby d2_10) rfl k)) ?_
    show Comes p e below _ (s₁.setTop (mkF m 11 #[.val (.long xa), .second, .val (.long xb), .second] [(.long xb)]))
    exact Comes.retV X0 hx Bd.returns rfl (Or.inr (Or.inl ⟨rfl, rfl, _, rfl⟩)) hlk (hb hby d2_11) e0 ⟨xb, rfl, N0, rfl, (by first | exact Or.inl ⟨by assumption, rfl⟩ | exact Or.inr ⟨by assumption, rfl⟩)⟩ (by decide) (by decide)
  · refine Comes.st (fun t k => XS.ifNo X0.here hx rfl (hb hby d2_3) rfl ((if0 _ _).trans (flt (fun q => hc3_1 ((lw_lt _ _).mp q))).1) (XS.lloadN X0.here hx rfl (hb hby d2_6) rfl (XS.goto X0.here hx rfl (pc0 := 7) (pc' := 11) rfl (hb hby d2_7) (by decide) (by decide) k))) ?_
    show Comes p e below _ (s₁.setTop (mkF m 11 #[.val (.long xa), .second, .val (.long xb), .second] [(.long xa)]))
    exact Comes.retV X0 hx Bd.returns rfl (Or.inr (Or.inl ⟨rfl, rfl, _, rfl⟩)) hlk (hb hby d2_11) e0 ⟨xa, rfl, N0, rfl, (by first | exact Or.inl ⟨by assumption, rfl⟩ | exact Or.inr ⟨by assumption, rfl⟩)⟩ (by decide) (by decide)
def Q_rm3 (Z : State) (xa : Int64) (xb : Int64) (h0 : Heap) (n0 : Nat) (v : Option Value) (h : Heap) (L : List Loc) : Prop := ∃ (r : Int64), (v = some (.long r)) ∧ (Fr n0 L) ∧ (h = h0) ∧ ((xb < xa ∧ r = xb) ∨ (¬ (xb < xa) ∧ r = xa))
set_option maxRecDepth 65536 in
set_option maxHeartbeats 40000000 in
theorem rm3 (l : Launch) (Z : State) (a0 : Array Value) (hw : ∀ d ∈ tables_1, d.before a0 Z = true) (ws : List Jvm.Cond) (xa : Int64) (xb : Int64) (h0 : Heap) (n0 : Nat) (Z0 : n0 ≤ h0.size) :
    MetFree l (⟨"java/lang/Math", "min", "(JJ)J"⟩ : MethodName) (head1 (Jvm.Cond.code (⟨"java/lang/Math", "min", "(JJ)J"⟩ : MethodName) jdk_29_method_70_code 4 (some .long) :: ws) ({ frames := 0, cells := 0, slots := 0, locals := 0 } : Room)) (fun a U => a = #[(.long xa), (.long xb)] ∧ Z.Warmed39 U.vm ∧ U.heap = h0) (fun _ _ _ _ _ => True) (fun _ U o U' => ∃ v L, o = .returned v ∧ Q_rm3 Z xa xb h0 n0 v U'.heap L ∧ FrameEnd U o U' L ({ frames := 0, cells := 0, slots := 0, locals := 0 } : Room).cells ({ frames := 0, cells := 0, slots := 0, locals := 0 } : Room).slots) := by
  refine MetFree.of_bodySF pn_3 hisR ?_
  intro p e s m args below meth c s₁ Bd hml0 hP hK
  obtain ⟨rfl, hZ, hh⟩ := hP
  have hx := Bd.exec
  have hby := Bd.bytes
  have hml : c.maxLocals = 4 := hml0
  have hown : s.vm.findClass "java/lang/Math" = some m.cls := findClass_of_methodNamed Bd.named
  have hnm := (name_of_methodNamed Bd.named Bd.method).1
  have hlk : meth.locks = false := Bd.notSynchronized
  have X0 : Stand p l e ({ frames := 0, cells := 0, slots := 0, locals := 0 } : Room) s m #[(.long xa), (.long xb)] below meth c s₁ [] 0 0 := Stand.of_body Bd
  have e0 : s₁.heap = h0 := by rw [← hh, Bd.state]; rfl
  have N0 := Fr.nil n0
  refine Comes.out (Q := Q_rm3 Z xa xb h0 n0) (kc := ({ frames := 0, cells := 0, slots := 0, locals := 0 } : Room).cells) (ks := ({ frames := 0, cells := 0, slots := 0, locals := 0 } : Room).slots) ?_
  refine Comes.cast (ef_rm3 m xa xb) ?_
  show Comes p e below _ (s₁.setTop (mkF m 0 #[.val (.long xa), .second, .val (.long xb), .second] []))
  refine Comes.st (fun t k => XS.lloadN X0.here hx rfl (hb hby d3_0) rfl (XS.lloadN X0.here hx rfl (hb hby d3_1) rfl (XS.lcmp X0.here hx rfl (hb hby d3_2) rfl k))) ?_
  show Comes p e below _ (s₁.setTop (mkF m 3 #[.val (.long xa), .second, .val (.long xb), .second] [(.int (lcmpW xa xb))]))
  by_cases hc3_1 : xb < xa
  · refine Comes.st (fun t k => XS.ifYes X0.here hx rfl (pc0 := 3) (pc' := 10) rfl (hb hby d3_3) rfl ((if0 _ _).trans (tlt ((lw_gt _ _).mpr hc3_1)).2.2.1) (by decide) (by decide) (XS.lloadN X0.here hx rfl (hb hby d3_10) rfl k)) ?_
    show Comes p e below _ (s₁.setTop (mkF m 11 #[.val (.long xa), .second, .val (.long xb), .second] [(.long xb)]))
    exact Comes.retV X0 hx Bd.returns rfl (Or.inr (Or.inl ⟨rfl, rfl, _, rfl⟩)) hlk (hb hby d3_11) e0 ⟨xb, rfl, N0, rfl, (by first | exact Or.inl ⟨by assumption, rfl⟩ | exact Or.inr ⟨by assumption, rfl⟩)⟩ (by decide) (by decide)
  · refine Comes.st (fun t k => XS.ifNo X0.here hx rfl (hb hby d3_3) rfl ((if0 _ _).trans (flt (fun q => hc3_1 ((lw_gt _ _).mp q))).2.2.1) (XS.lloadN X0.here hx rfl (hb hby d3_6) rfl (XS.goto X0.here hx rfl (pc0 := 7) (pc' := 11) rfl (hb hby d3_7) (by decide) (by decide) k))) ?_
    show Comes p e below _ (s₁.setTop (mkF m 11 #[.val (.long xa), .second, .val (.long xb), .second] [(.long xa)]))
    exact Comes.retV X0 hx Bd.returns rfl (Or.inr (Or.inl ⟨rfl, rfl, _, rfl⟩)) hlk (hb hby d3_11) e0 ⟨xa, rfl, N0, rfl, (by first | exact Or.inl ⟨by assumption, rfl⟩ | exact Or.inr ⟨by assumption, rfl⟩)⟩ (by decide) (by decide)
def Q_rm1 (Z : State) (len : Int32) (need : Int64) (h0 : Heap) (n0 : Nat) (v : Option Value) (h : Heap) (L : List Loc) : Prop := ∃ (r : Int32), (v = some (.int r)) ∧ (Fr n0 L) ∧ (h = h0) ∧ ((r.toInt = 2147483639 ∧ 2147483639 ≤ 2 * len.toInt) ∨ (r.toInt = 2 * len.toInt ∧ need.toInt ≤ 2 * len.toInt ∧ 2 * len.toInt ≤ 2147483639) ∨ (r.toInt = need.toInt ∧ 2 * len.toInt ≤ need.toInt))
set_option maxRecDepth 65536 in
set_option maxHeartbeats 40000000 in
theorem rm1 (l : Launch) (Z : State) (a0 : Array Value) (hw : ∀ d ∈ tables_1, d.before a0 Z = true) (ws : List Jvm.Cond) (len : Int32) (need : Int64) (h0 : Heap) (n0 : Nat) (Z0 : n0 ≤ h0.size) (G0 : ¬ ((2147483639 : Int64) < need)) (G1 : ¬ (len < (0 : Int32))) :
    MetFree l (⟨"com/example/hopwise/hopwise/ArrayLengths", "grown", "(IJ)I"⟩ : MethodName) (head1 (Jvm.Cond.code (⟨"com/example/hopwise/hopwise/ArrayLengths", "grown", "(IJ)I"⟩ : MethodName) prog_1_method_2_code 3 (some .int) :: ws) ({ frames := 1, cells := 0, slots := 0, locals := 17 } : Room)) (fun a U => a = #[(.int len), (.long need)] ∧ Z.Warmed39 U.vm ∧ U.heap = h0) (fun _ _ _ _ _ => True) (fun _ U o U' => ∃ v L, o = .returned v ∧ Q_rm1 Z len need h0 n0 v U'.heap L ∧ FrameEnd U o U' L ({ frames := 1, cells := 0, slots := 0, locals := 17 } : Room).cells ({ frames := 1, cells := 0, slots := 0, locals := 17 } : Room).slots) := by
  refine MetFree.of_bodySF (plainFor_of_name pn_1) hisR ?_
  intro p e s m args below meth c s₁ Bd hml0 hP hK
  obtain ⟨rfl, hZ, hh⟩ := hP
  have hx := Bd.exec
  have hby := Bd.bytes
  have hml : c.maxLocals = 3 := hml0
  have hown : s.vm.findClass "com/example/hopwise/hopwise/ArrayLengths" = some m.cls := findClass_of_methodNamed Bd.named
  have hnm := (name_of_methodNamed Bd.named Bd.method).1
  have hlk : meth.locks = false := Bd.notSynchronized
  have X0 : Stand p l e ({ frames := 1, cells := 0, slots := 0, locals := 17 } : Room) s m #[(.int len), (.long need)] below meth c s₁ [] 0 0 := Stand.of_body Bd
  have e0 : s₁.heap = h0 := by rw [← hh, Bd.state]; rfl
  have N0 := Fr.nil n0
  refine Comes.out (Q := Q_rm1 Z len need h0 n0) (kc := ({ frames := 1, cells := 0, slots := 0, locals := 17 } : Room).cells) (ks := ({ frames := 1, cells := 0, slots := 0, locals := 17 } : Room).slots) ?_
  refine Comes.cast (ef_rm1 m len need) ?_
  show Comes p e below _ (s₁.setTop (mkF m 0 #[.val (.int len), .val (.long need), .second] []))
  refine Comes.st (fun t k => XS.lloadN X0.here hx rfl (hb hby d1_0) rfl (X0.ldc2Long hx hown (mvT hZ (hw _ (List.mem_of_getElem? (i := 7) rfl))) (g := (mkF m 1 #[.val (.int len), .val (.long need), .second] [(.long need)])) rfl (hb hby d1_1) _ (XS.lcmp X0.here hx rfl (hb hby d1_4) rfl k))) ?_
  show Comes p e below _ (s₁.setTop (mkF m 5 #[.val (.int len), .val (.long need), .second] [(.int (lcmpW need (2147483639 : Int64)))]))
  have hc5_1 : ¬ ((2147483639 : Int64) < need) := by exact G0
  refine Comes.st (fun t k => XS.ifYes X0.here hx rfl (pc0 := 5) (pc' := 22) rfl (hb hby d1_5) rfl ((if0 _ _).trans (flt (fun q => hc5_1 ((lw_gt _ _).mp q))).2.2.2) (by decide) (by decide) (X0.ldc2Long hx hown (mvT hZ (hw _ (List.mem_of_getElem? (i := 7) rfl))) (g := (mkF m 22 #[.val (.int len), .val (.long need), .second] [])) rfl (hb hby d1_22) _ (XS.lloadN X0.here hx rfl (hb hby d1_25) rfl (X0.ldc2Long hx hown (mvT hZ (hw _ (List.mem_of_getElem? (i := 8) rfl))) (g := (mkF m 26 #[.val (.int len), .val (.long need), .second] [(.long need), (.long (2147483639 : Int64))])) rfl (hb hby d1_26) _ (XS.iloadN X0.here hx rfl (hb hby d1_29) rfl (XS.i2l X0.here hx rfl (hb hby d1_30) rfl k)))))) ?_
  show Comes p e below _ (s₁.setTop (mkF m 31 #[.val (.int len), .val (.long need), .second] [(.long (len.toInt64)), (.long (2 : Int64)), (.long need), (.long (2147483639 : Int64))]))
  refine Comes.st (fun t k => XS.lmul X0.here hx rfl (hb hby d1_31) rfl k) ?_
  show Comes p e below _ (s₁.setTop (mkF m 32 #[.val (.int len), .val (.long need), .second] [(.long ((2 : Int64) * (len.toInt64))), (.long need), (.long (2147483639 : Int64))]))
  generalize hv_v2 : ((2 : Int64) * (len.toInt64)) = v2
  show Comes p e below _ (s₁.setTop (mkF m 32 #[.val (.int len), .val (.long need), .second] [(.long v2), (.long need), (.long (2147483639 : Int64))]))
  obtain ⟨_, _, ⟨T3, L3, k3, n3⟩, -, X3, ⟨Lc3, hQ3, l3, y3, z3⟩, st3⟩ := Jvm.LawKit.callS X0 hx (y := (⟨"java/lang/Math", "max", "(JJ)J"⟩ : MethodName)) hown (mvT hZ (hw _ (List.mem_of_getElem? (i := 9) rfl))) (mvT hZ (hw _ (List.mem_of_getElem? (i := 10) rfl))) (mvT hZ (hw _ (List.mem_of_getElem? (i := 11) rfl))) (mvT hZ (hw _ (List.mem_of_getElem? (i := 12) rfl))) (by decide) (backOf (W := 2) (rm2 l Z a0 hw [] need v2 h0 n0 (by omega)  ) hZ (hw _ (List.mem_of_getElem? (i := 12) rfl)) (hw _ (List.mem_of_getElem? (i := 11) rfl)) (by decide) (by decide)) (g := (mkF m 32 #[.val (.int len), .val (.long need), .second] [(.long v2), (.long need), (.long (2147483639 : Int64))])) rfl (by rw [hml]; rfl) (argsL := [(.long need), (.long v2)]) (rest := [(.long (2147483639 : Int64))]) (lenOf pd_0 rfl) rfl (by show 2 * 0 + _ ≤ _; exact Nat.le_of_eq rfl) (hb hby d1_32) (fun _ _ => ⟨rfl, e0, (by decide : 0 + 0 ≤ _), (by decide : 0 + 0 ≤ _)⟩)
  dsimp only [Pt.U, Pt.locs, Pt.cells, Pt.slots] at X3 l3 y3 z3 st3 hQ3
  subst l3 y3 z3
  obtain ⟨r4, rfl, Nq3, hs3, P3_0⟩ := hQ3
  have N3 := Fr.app N0 Nq3
  refine Comes.st st3 ?_
  show Comes p e below _ (T3.setTop (mkF m 35 #[.val (.int len), .val (.long need), .second] [(.long r4), (.long (2147483639 : Int64))]))
  obtain ⟨_, _, ⟨T5, L5, k5, n5⟩, -, X5, ⟨Lc5, hQ5, l5, y5, z5⟩, st5⟩ := Jvm.LawKit.callS X3 hx (y := (⟨"java/lang/Math", "min", "(JJ)J"⟩ : MethodName)) hown (mvT hZ (hw _ (List.mem_of_getElem? (i := 13) rfl))) (mvT hZ (hw _ (List.mem_of_getElem? (i := 14) rfl))) (mvT hZ (hw _ (List.mem_of_getElem? (i := 11) rfl))) (mvT hZ (hw _ (List.mem_of_getElem? (i := 15) rfl))) (by decide) (backOf (W := 0) (rm3 l Z a0 hw [] ((2147483639 : Int64)) r4 h0 n0 (by omega)  ) hZ (hw _ (List.mem_of_getElem? (i := 15) rfl)) (hw _ (List.mem_of_getElem? (i := 11) rfl)) (by decide) (by decide)) (g := (mkF m 35 #[.val (.int len), .val (.long need), .second] [(.long r4), (.long (2147483639 : Int64))])) rfl (by rw [hml]; rfl) (argsL := [(.long (2147483639 : Int64)), (.long r4)]) (rest := []) (lenOf pd_0 rfl) rfl (by show 2 * 0 + _ ≤ _; exact Nat.le_of_eq rfl) (hb hby d1_35) (fun _ _ => ⟨rfl, hs3, (by decide : 0 + 0 ≤ _), (by decide : 0 + 0 ≤ _)⟩)
  dsimp only [Pt.U, Pt.locs, Pt.cells, Pt.slots] at X5 l5 y5 z5 st5 hQ5
  subst l5 y5 z5
  obtain ⟨r6, rfl, Nq5, hs5, P5_0⟩ := hQ5
  have N5 := Fr.app N3 Nq5
  refine Comes.st st5 ?_
  show Comes p e below _ (T5.setTop (mkF m 38 #[.val (.int len), .val (.long need), .second] [(.long r6)]))
  refine Comes.st (fun t k => XS.l2i X5.here hx rfl (hb hby d1_38) rfl k) ?_
  show Comes p e below _ (T5.setTop (mkF m 39 #[.val (.int len), .val (.long need), .second] [(.int (r6.toInt32))]))
  exact Comes.retV X5 hx Bd.returns rfl (Or.inl ⟨rfl, Or.inl rfl, _, rfl⟩) hlk (hb hby d1_39) hs5 ⟨(r6.toInt32), rfl, N5, rfl, (by have a_0 := c_i2l len; have a_1 := c_lmul (2 : Int64) (len.toInt64); rw [hv_v2] at a_1; have a_2 := c_l2i r6; have a_3 := rng64 (len.toInt64); have a_4 := rng32 (r6.toInt32); have a_5 := rng32 len; have a_6 := rng64 r6; have a_7 := rng64 v2; have a_8 := G0; have a_9 := G1; have a_10 := rng32 len; have c_0 := hc5_1; have c_1 := P3_0; have c_2 := P5_0; (simp only [Int32.lt_iff_toInt_lt, Int64.lt_iff_toInt_lt, ← Int32.toInt_inj, ← Int64.toInt_inj, Int32.reduceToInt, Int64.reduceToInt] at a_0 a_1 a_2 a_3 a_4 a_5 a_6 a_7 a_8 a_9 a_10 c_0 c_1 c_2 ⊢) <;> omega)⟩ (by decide) (by decide)
def Q_rm0 (Z : State) (l0 : Int32) (n0_ : Int64) (k0 : Int32) (h0 : Heap) (n0 : Nat) (v : Option Value) (h : Heap) (L : List Loc) : Prop := (v = some (.int (1 : Int32))) ∧ (Fr n0 L)
set_option maxRecDepth 65536 in
set_option maxHeartbeats 40000000 in
theorem rm0 (l : Launch) (Z : State) (a0 : Array Value) (hw : ∀ d ∈ tables_1, d.before a0 Z = true) (ws : List Jvm.Cond) (l0 : Int32) (n0_ : Int64) (k0 : Int32) (h0 : Heap) (n0 : Nat) (Z0 : n0 ≤ h0.size) :
    MetFree l x (head1 (Jvm.Cond.code x code maxLocals ret :: ws) room_1) (fun a U => a = #[(.int l0), (.long n0_), (.int k0)] ∧ Z.Warmed39 U.vm ∧ U.heap = h0) (fun _ _ _ _ _ => True) (fun _ U o U' => ∃ v L, o = .returned v ∧ Q_rm0 Z l0 n0_ k0 h0 n0 v U'.heap L ∧ FrameEnd U o U' L room_1.cells room_1.slots) := by
  refine MetFree.of_bodySF (plainFor_of_name pn_0) hisR ?_
  intro p e s m args below meth c s₁ Bd hml0 hP hK
  obtain ⟨rfl, hZ, hh⟩ := hP
  have hx := Bd.exec
  have hby := Bd.bytes
  have hml : c.maxLocals = 10 := hml0
  have hown : s.vm.findClass "com/example/hopwise/hopwise/ArrayLengthsGrownPinLaw" = some m.cls := findClass_of_methodNamed Bd.named
  have hnm := (name_of_methodNamed Bd.named Bd.method).1
  have hlk : meth.locks = false := Bd.notSynchronized
  have X0 : Stand p l e room_1 s m #[(.int l0), (.long n0_), (.int k0)] below meth c s₁ [] 0 0 := Stand.of_body Bd
  have e0 : s₁.heap = h0 := by rw [← hh, Bd.state]; rfl
  have N0 := Fr.nil n0
  refine Comes.out (Q := Q_rm0 Z l0 n0_ k0 h0 n0) (kc := room_1.cells) (ks := room_1.slots) ?_
  refine Comes.cast (ef_rm0 m l0 n0_ k0) ?_
  show Comes p e below _ (s₁.setTop (mkF m 0 #[.val (.int l0), .val (.long n0_), .second, .val (.int k0), .unset, .unset, .unset, .unset, .unset, .unset] []))
  refine Comes.st (fun t k => XS.iloadN X0.here hx rfl (hb hby at_0) rfl (XS.iconst X0.here hx rfl (hb hby at_1) (XS.iand X0.here hx rfl (hb hby at_2) rfl k))) ?_
  show Comes p e below _ (s₁.setTop (mkF m 3 #[.val (.int l0), .val (.long n0_), .second, .val (.int k0), .unset, .unset, .unset, .unset, .unset, .unset] [(.int (k0 &&& (2 : Int32)))]))
  by_cases hc3_1 : (k0 &&& (2 : Int32)) = (0 : Int32)
  · refine Comes.st (fun t k => XS.ifYes X0.here hx rfl (pc0 := 3) (pc' := 17) rfl (hb hby at_3) rfl ((if0 _ _).trans (teq hc3_1).1) (by decide) (by decide) (XS.iloadN X0.here hx rfl (hb hby at_17) rfl (X0.ldcInt hx hown (mvT hZ (hw _ (List.mem_of_getElem? (i := 0) rfl))) (g := (mkF m 18 #[.val (.int l0), .val (.long n0_), .second, .val (.int k0), .unset, .unset, .unset, .unset, .unset, .unset] [(.int l0)])) rfl (hb hby at_18) _ (XS.iand X0.here hx rfl (hb hby at_20) rfl k)))) ?_
    show Comes p e below _ (s₁.setTop (mkF m 21 #[.val (.int l0), .val (.long n0_), .second, .val (.int k0), .unset, .unset, .unset, .unset, .unset, .unset] [(.int (l0 &&& (2147483647 : Int32)))]))
    generalize hv_v2 : (l0 &&& (2147483647 : Int32)) = v2
    show Comes p e below _ (s₁.setTop (mkF m 21 #[.val (.int l0), .val (.long n0_), .second, .val (.int k0), .unset, .unset, .unset, .unset, .unset, .unset] [(.int v2)]))
    refine Comes.st (fun t k => XS.istore X0.here hx rfl (hb hby at_21) rfl (l' := #[.val (.int l0), .val (.long n0_), .second, .val (.int k0), .val (.int v2), .unset, .unset, .unset, .unset, .unset]) rfl (XS.iloadN X0.here hx rfl (hb hby at_23) rfl (XS.iconst X0.here hx rfl (hb hby at_24) (XS.iand X0.here hx rfl (hb hby at_25) rfl k)))) ?_
    show Comes p e below _ (s₁.setTop (mkF m 26 #[.val (.int l0), .val (.long n0_), .second, .val (.int k0), .val (.int v2), .unset, .unset, .unset, .unset, .unset] [(.int (k0 &&& (1 : Int32)))]))
    by_cases hc26_3 : (k0 &&& (1 : Int32)) = (0 : Int32)
    · refine Comes.st (fun t k => XS.ifYes X0.here hx rfl (pc0 := 26) (pc' := 43) rfl (hb hby at_26) rfl ((if0 _ _).trans (teq hc26_3).1) (by decide) (by decide) (XS.lloadN X0.here hx rfl (hb hby at_43) rfl (X0.ldc2Long hx hown (mvT hZ (hw _ (List.mem_of_getElem? (i := 18) rfl))) (g := (mkF m 44 #[.val (.int l0), .val (.long n0_), .second, .val (.int k0), .val (.int v2), .unset, .unset, .unset, .unset, .unset] [(.long n0_)])) rfl (hb hby at_44) _ k))) ?_
      show Comes p e below _ (s₁.setTop (mkF m 47 #[.val (.int l0), .val (.long n0_), .second, .val (.int k0), .val (.int v2), .unset, .unset, .unset, .unset, .unset] [(.long (2147483640 : Int64)), (.long n0_)]))
      have hnz4 : ¬ ((2147483640 : Int64) = (0 : Int64)) := by decide
      refine Comes.st (fun t k => lremM X0 hx rfl (hb hby at_47) rfl hnz4 k) ?_
      show Comes p e below _ (s₁.setTop (mkF m 48 #[.val (.int l0), .val (.long n0_), .second, .val (.int k0), .val (.int v2), .unset, .unset, .unset, .unset, .unset] [(.long (n0_ % (2147483640 : Int64)))]))
      generalize hv_v5 : (n0_ % (2147483640 : Int64)) = v5
      show Comes p e below _ (s₁.setTop (mkF m 48 #[.val (.int l0), .val (.long n0_), .second, .val (.int k0), .val (.int v2), .unset, .unset, .unset, .unset, .unset] [(.long v5)]))
      refine Comes.st (fun t k => XS.lstore X0.here hx rfl (hb hby at_48) rfl (l' := #[.val (.int l0), .val (.long n0_), .second, .val (.int k0), .val (.int v2), .val (.long v5), .second, .unset, .unset, .unset]) rfl (XS.iload X0.here hx rfl (hb hby at_50) rfl (XS.lload X0.here hx rfl (hb hby at_52) rfl k))) ?_
      show Comes p e below _ (s₁.setTop (mkF m 54 #[.val (.int l0), .val (.long n0_), .second, .val (.int k0), .val (.int v2), .val (.long v5), .second, .unset, .unset, .unset] [(.long v5), (.int v2)]))
      obtain ⟨_, _, ⟨T6, L6, k6, n6⟩, -, X6, ⟨Lc6, hQ6, l6, y6, z6⟩, st6⟩ := Jvm.LawKit.callS X0 hx (y := (⟨"com/example/hopwise/hopwise/ArrayLengths", "grown", "(IJ)I"⟩ : MethodName)) hown (mvT hZ (hw _ (List.mem_of_getElem? (i := 3) rfl))) (mvT hZ (hw _ (List.mem_of_getElem? (i := 4) rfl))) (mvT hZ (hw _ (List.mem_of_getElem? (i := 5) rfl))) (mvT hZ (hw _ (List.mem_of_getElem? (i := 6) rfl))) (by decide) (backOf (W := 0) (rm1 l Z a0 hw [] v2 v5 h0 n0 (by omega)  (by have a_0 := c_and k0 (2 : Int32) (by decide); have a_1 := c_mask l0 (2147483647 : Int32) 31 (by decide) (by decide); rw [hv_v2] at a_1; have a_2 := c_mask k0 (1 : Int32) 1 (by decide) (by decide); have a_3 := own_lrem n0_ (2147483640 : Int64) 2147483640 (by decide); rw [hv_v5] at a_3; have a_4 := rng32 (k0 &&& (1 : Int32)); have a_5 := rng32 (k0 &&& (2 : Int32)); have a_6 := rng32 k0; have a_7 := rng32 l0; have a_8 := rng64 n0_; have a_9 := rng32 v2; have a_10 := rng64 v5; have c_0 := hc3_1; have c_1 := hc26_3; (simp only [Int32.lt_iff_toInt_lt, Int64.lt_iff_toInt_lt, ← Int32.toInt_inj, ← Int64.toInt_inj, Int32.reduceToInt, Int64.reduceToInt] at a_0 a_1 a_2 a_3 a_4 a_5 a_6 a_7 a_8 a_9 a_10 c_0 c_1 ⊢) <;> omega) (by have a_0 := c_and k0 (2 : Int32) (by decide); have a_1 := c_mask l0 (2147483647 : Int32) 31 (by decide) (by decide); rw [hv_v2] at a_1; have a_2 := c_mask k0 (1 : Int32) 1 (by decide) (by decide); have a_3 := own_lrem n0_ (2147483640 : Int64) 2147483640 (by decide); rw [hv_v5] at a_3; have a_4 := rng32 (k0 &&& (1 : Int32)); have a_5 := rng32 (k0 &&& (2 : Int32)); have a_6 := rng32 k0; have a_7 := rng32 l0; have a_8 := rng64 n0_; have a_9 := rng32 v2; have a_10 := rng64 v5; have c_0 := hc3_1; have c_1 := hc26_3; (simp only [Int32.lt_iff_toInt_lt, Int64.lt_iff_toInt_lt, ← Int32.toInt_inj, ← Int64.toInt_inj, Int32.reduceToInt, Int64.reduceToInt] at a_0 a_1 a_2 a_3 a_4 a_5 a_6 a_7 a_8 a_9 a_10 c_0 c_1 ⊢) <;> omega)) hZ (hw _ (List.mem_of_getElem? (i := 6) rfl)) (hw _ (List.mem_of_getElem? (i := 5) rfl)) (by decide) (by decide)) (g := (mkF m 54 #[.val (.int l0), .val (.long n0_), .second, .val (.int k0), .val (.int v2), .val (.long v5), .second, .unset, .unset, .unset] [(.long v5), (.int v2)])) rfl (by rw [hml]; rfl) (argsL := [(.int v2), (.long v5)]) (rest := []) (lenOf pd_1 rfl) rfl (by show 2 * 0 + _ ≤ _; exact Nat.le_of_eq rfl) (hb hby at_54) (fun _ _ => ⟨rfl, e0, (by decide : 0 + 0 ≤ _), (by decide : 0 + 0 ≤ _)⟩)
      dsimp only [Pt.U, Pt.locs, Pt.cells, Pt.slots] at X6 l6 y6 z6 st6 hQ6
      subst l6 y6 z6
      obtain ⟨r7, rfl, Nq6, hs6, P6_0⟩ := hQ6
      have N6 := Fr.app N0 Nq6
      refine Comes.st st6 ?_
      show Comes p e below _ (T6.setTop (mkF m 57 #[.val (.int l0), .val (.long n0_), .second, .val (.int k0), .val (.int v2), .val (.long v5), .second, .unset, .unset, .unset] [(.int r7)]))
      refine Comes.st (fun t k => XS.istore X6.here hx rfl (hb hby at_57) rfl (l' := #[.val (.int l0), .val (.long n0_), .second, .val (.int k0), .val (.int v2), .val (.long v5), .second, .val (.int r7), .unset, .unset]) rfl (XS.iload X6.here hx rfl (hb hby at_59) rfl (X6.ldcInt hx hown (mvT hZ (hw _ (List.mem_of_getElem? (i := 16) rfl))) (g := (mkF m 61 #[.val (.int l0), .val (.long n0_), .second, .val (.int k0), .val (.int v2), .val (.long v5), .second, .val (.int r7), .unset, .unset] [(.int v2)])) rfl (hb hby at_61) _ k))) ?_
      show Comes p e below _ (T6.setTop (mkF m 63 #[.val (.int l0), .val (.long n0_), .second, .val (.int k0), .val (.int v2), .val (.long v5), .second, .val (.int r7), .unset, .unset] [(.int (1073741819 : Int32)), (.int v2)]))
      by_cases hc63_8 : (1073741819 : Int32) < v2
      · refine Comes.st (fun t k => XS.icmpNo X6.here hx rfl (hb hby at_63) rfl (tlt hc63_8).2.2.2 (X6.ldcInt hx hown (mvT hZ (hw _ (List.mem_of_getElem? (i := 19) rfl))) (g := (mkF m 66 #[.val (.int l0), .val (.long n0_), .second, .val (.int k0), .val (.int v2), .val (.long v5), .second, .val (.int r7), .unset, .unset] [])) rfl (hb hby at_66) _ (XS.istore X6.here hx rfl (hb hby at_68) rfl (l' := #[.val (.int l0), .val (.long n0_), .second, .val (.int k0), .val (.int v2), .val (.long v5), .second, .val (.int r7), .val (.int (2147483639 : Int32)), .unset]) rfl (XS.goto X6.here hx rfl (pc0 := 70) (pc' := 101) rfl (hb hby at_70) (by decide) (by decide) (XS.iload X6.here hx rfl (hb hby at_101) rfl (XS.iload X6.here hx rfl (hb hby at_103) rfl k)))))) ?_
        show Comes p e below _ (T6.setTop (mkF m 105 #[.val (.int l0), .val (.long n0_), .second, .val (.int k0), .val (.int v2), .val (.long v5), .second, .val (.int r7), .val (.int (2147483639 : Int32)), .unset] [(.int (2147483639 : Int32)), (.int r7)]))
        have hc105_9 : r7 = (2147483639 : Int32) := by have a_0 := c_and k0 (2 : Int32) (by decide); have a_1 := c_mask l0 (2147483647 : Int32) 31 (by decide) (by decide); rw [hv_v2] at a_1; have a_2 := c_mask k0 (1 : Int32) 1 (by decide) (by decide); have a_3 := own_lrem n0_ (2147483640 : Int64) 2147483640 (by decide); rw [hv_v5] at a_3; have a_4 := rng32 (k0 &&& (1 : Int32)); have a_5 := rng32 (k0 &&& (2 : Int32)); have a_6 := rng32 k0; have a_7 := rng32 l0; have a_8 := rng64 n0_; have a_9 := rng32 v2; have a_10 := rng64 v5; have c_0 := hc3_1; have c_1 := hc26_3; have c_2 := hc63_8; have c_3 := P6_0; (simp only [Int32.lt_iff_toInt_lt, Int64.lt_iff_toInt_lt, ← Int32.toInt_inj, ← Int64.toInt_inj, Int32.reduceToInt, Int64.reduceToInt] at a_0 a_1 a_2 a_3 a_4 a_5 a_6 a_7 a_8 a_9 a_10 c_0 c_1 c_2 c_3 ⊢) <;> omega
        refine Comes.st (fun t k => XS.icmpNo X6.here hx rfl (hb hby at_105) rfl (teq hc105_9).2 (XS.iconst X6.here hx rfl (hb hby at_108) (XS.goto X6.here hx rfl (pc0 := 109) (pc' := 113) rfl (hb hby at_109) (by decide) (by decide) k))) ?_
        show Comes p e below _ (T6.setTop (mkF m 113 #[.val (.int l0), .val (.long n0_), .second, .val (.int k0), .val (.int v2), .val (.long v5), .second, .val (.int r7), .val (.int (2147483639 : Int32)), .unset] [(.int (1 : Int32))]))
        exact Comes.retN X6 hx (t := .boolean) Bd.returns (by simp) hlk (hb hby at_113) hs6 ⟨rfl, N6⟩ (by decide) (by decide)
      · refine Comes.st (fun t k => XS.icmpYes X6.here hx rfl (pc0 := 63) (pc' := 73) rfl (hb hby at_63) rfl (flt hc63_8).2.2.2 (by decide) (by decide) (XS.iload X6.here hx rfl (hb hby at_73) rfl (XS.iload X6.here hx rfl (hb hby at_75) rfl (XS.iadd X6.here hx rfl (hb hby at_77) rfl k)))) ?_
        show Comes p e below _ (T6.setTop (mkF m 78 #[.val (.int l0), .val (.long n0_), .second, .val (.int k0), .val (.int v2), .val (.long v5), .second, .val (.int r7), .unset, .unset] [(.int (v2 + v2))]))
        generalize hv_v10 : (v2 + v2) = v10
        show Comes p e below _ (T6.setTop (mkF m 78 #[.val (.int l0), .val (.long n0_), .second, .val (.int k0), .val (.int v2), .val (.long v5), .second, .val (.int r7), .unset, .unset] [(.int v10)]))
        refine Comes.st (fun t k => XS.istore X6.here hx rfl (hb hby at_78) rfl (l' := #[.val (.int l0), .val (.long n0_), .second, .val (.int k0), .val (.int v2), .val (.long v5), .second, .val (.int r7), .unset, .val (.int v10)]) rfl (XS.lload X6.here hx rfl (hb hby at_80) rfl (XS.iload X6.here hx rfl (hb hby at_82) rfl (XS.i2l X6.here hx rfl (hb hby at_84) rfl (XS.lcmp X6.here hx rfl (hb hby at_85) rfl k))))) ?_
        show Comes p e below _ (T6.setTop (mkF m 86 #[.val (.int l0), .val (.long n0_), .second, .val (.int k0), .val (.int v2), .val (.long v5), .second, .val (.int r7), .unset, .val (.int v10)] [(.int (lcmpW v5 (v10.toInt64)))]))
        by_cases hc86_11 : (v10.toInt64) < v5
        · refine Comes.st (fun t k => XS.ifNo X6.here hx rfl (hb hby at_86) rfl ((if0 _ _).trans (tlt ((lw_gt _ _).mpr hc86_11)).2.2.2) (XS.lload X6.here hx rfl (hb hby at_89) rfl (XS.l2i X6.here hx rfl (hb hby at_91) rfl k))) ?_
          show Comes p e below _ (T6.setTop (mkF m 92 #[.val (.int l0), .val (.long n0_), .second, .val (.int k0), .val (.int v2), .val (.long v5), .second, .val (.int r7), .unset, .val (.int v10)] [(.int (v5.toInt32))]))
          generalize hv_v12 : (v5.toInt32) = v12
          show Comes p e below _ (T6.setTop (mkF m 92 #[.val (.int l0), .val (.long n0_), .second, .val (.int k0), .val (.int v2), .val (.long v5), .second, .val (.int r7), .unset, .val (.int v10)] [(.int v12)]))
          refine Comes.st (fun t k => XS.istore X6.here hx rfl (hb hby at_92) rfl (l' := #[.val (.int l0), .val (.long n0_), .second, .val (.int k0), .val (.int v2), .val (.long v5), .second, .val (.int r7), .val (.int v12), .val (.int v10)]) rfl (XS.goto X6.here hx rfl (pc0 := 94) (pc' := 101) rfl (hb hby at_94) (by decide) (by decide) (XS.iload X6.here hx rfl (hb hby at_101) rfl (XS.iload X6.here hx rfl (hb hby at_103) rfl k)))) ?_
          show Comes p e below _ (T6.setTop (mkF m 105 #[.val (.int l0), .val (.long n0_), .second, .val (.int k0), .val (.int v2), .val (.long v5), .second, .val (.int r7), .val (.int v12), .val (.int v10)] [(.int v12), (.int r7)]))
          have hc105_13 : r7 = v12 := by have a_0 := c_and k0 (2 : Int32) (by decide); have a_1 := c_mask l0 (2147483647 : Int32) 31 (by decide) (by decide); rw [hv_v2] at a_1; have a_2 := c_mask k0 (1 : Int32) 1 (by decide) (by decide); have a_3 := own_lrem n0_ (2147483640 : Int64) 2147483640 (by decide); rw [hv_v5] at a_3; have a_4 := c_iadd v2 v2; rw [hv_v10] at a_4; have a_5 := c_i2l v10; have a_6 := c_l2i v5; rw [hv_v12] at a_6; have a_7 := rng32 (k0 &&& (1 : Int32)); have a_8 := rng32 (k0 &&& (2 : Int32)); have a_9 := rng64 (v10.toInt64); have a_10 := rng32 k0; have a_11 := rng32 l0; have a_12 := rng64 n0_; have a_13 := rng32 v10; have a_14 := rng32 v12; have a_15 := rng32 v2; have a_16 := rng64 v5; have c_0 := hc3_1; have c_1 := hc26_3; have c_2 := hc63_8; have c_3 := hc86_11; have c_4 := P6_0; (simp only [Int32.lt_iff_toInt_lt, Int64.lt_iff_toInt_lt, ← Int32.toInt_inj, ← Int64.toInt_inj, Int32.reduceToInt, Int64.reduceToInt] at a_0 a_1 a_2 a_3 a_4 a_5 a_6 a_7 a_8 a_9 a_10 a_11 a_12 a_13 a_14 a_15 a_16 c_0 c_1 c_2 c_3 c_4 ⊢) <;> omega
          refine Comes.st (fun t k => XS.icmpNo X6.here hx rfl (hb hby at_105) rfl (teq hc105_13).2 (XS.iconst X6.here hx rfl (hb hby at_108) (XS.goto X6.here hx rfl (pc0 := 109) (pc' := 113) rfl (hb hby at_109) (by decide) (by decide) k))) ?_
          show Comes p e below _ (T6.setTop (mkF m 113 #[.val (.int l0), .val (.long n0_), .second, .val (.int k0), .val (.int v2), .val (.long v5), .second, .val (.int r7), .val (.int v12), .val (.int v10)] [(.int (1 : Int32))]))
          exact Comes.retN X6 hx (t := .boolean) Bd.returns (by simp) hlk (hb hby at_113) hs6 ⟨rfl, N6⟩ (by decide) (by decide)
        · refine Comes.st (fun t k => XS.ifYes X6.here hx rfl (pc0 := 86) (pc' := 97) rfl (hb hby at_86) rfl ((if0 _ _).trans (flt (fun q => hc86_11 ((lw_gt _ _).mp q))).2.2.2) (by decide) (by decide) (XS.iload X6.here hx rfl (hb hby at_97) rfl (XS.istore X6.here hx rfl (hb hby at_99) rfl (l' := #[.val (.int l0), .val (.long n0_), .second, .val (.int k0), .val (.int v2), .val (.long v5), .second, .val (.int r7), .val (.int v10), .val (.int v10)]) rfl (XS.iload X6.here hx rfl (hb hby at_101) rfl (XS.iload X6.here hx rfl (hb hby at_103) rfl k))))) ?_
          show Comes p e below _ (T6.setTop (mkF m 105 #[.val (.int l0), .val (.long n0_), .second, .val (.int k0), .val (.int v2), .val (.long v5), .second, .val (.int r7), .val (.int v10), .val (.int v10)] [(.int v10), (.int r7)]))
          have hc105_14 : r7 = v10 := by have a_0 := c_and k0 (2 : Int32) (by decide); have a_1 := c_mask l0 (2147483647 : Int32) 31 (by decide) (by decide); rw [hv_v2] at a_1; have a_2 := c_mask k0 (1 : Int32) 1 (by decide) (by decide); have a_3 := own_lrem n0_ (2147483640 : Int64) 2147483640 (by decide); rw [hv_v5] at a_3; have a_4 := c_iadd v2 v2; rw [hv_v10] at a_4; have a_5 := c_i2l v10; have a_6 := rng32 (k0 &&& (1 : Int32)); have a_7 := rng32 (k0 &&& (2 : Int32)); have a_8 := rng64 (v10.toInt64); have a_9 := rng32 k0; have a_10 := rng32 l0; have a_11 := rng64 n0_; have a_12 := rng32 v10; have a_13 := rng32 v2; have a_14 := rng64 v5; have c_0 := hc3_1; have c_1 := hc26_3; have c_2 := hc63_8; have c_3 := hc86_11; have c_4 := P6_0; (simp only [Int32.lt_iff_toInt_lt, Int64.lt_iff_toInt_lt, ← Int32.toInt_inj, ← Int64.toInt_inj, Int32.reduceToInt, Int64.reduceToInt] at a_0 a_1 a_2 a_3 a_4 a_5 a_6 a_7 a_8 a_9 a_10 a_11 a_12 a_13 a_14 c_0 c_1 c_2 c_3 c_4 ⊢) <;> omega
          refine Comes.st (fun t k => XS.icmpNo X6.here hx rfl (hb hby at_105) rfl (teq hc105_14).2 (XS.iconst X6.here hx rfl (hb hby at_108) (XS.goto X6.here hx rfl (pc0 := 109) (pc' := 113) rfl (hb hby at_109) (by decide) (by decide) k))) ?_
          show Comes p e below _ (T6.setTop (mkF m 113 #[.val (.int l0), .val (.long n0_), .second, .val (.int k0), .val (.int v2), .val (.long v5), .second, .val (.int r7), .val (.int v10), .val (.int v10)] [(.int (1 : Int32))]))
          exact Comes.retN X6 hx (t := .boolean) Bd.returns (by simp) hlk (hb hby at_113) hs6 ⟨rfl, N6⟩ (by decide) (by decide)
    · refine Comes.st (fun t k => XS.ifNo X0.here hx rfl (hb hby at_26) rfl ((if0 _ _).trans (feq hc26_3).1) (X0.ldc2Long hx hown (mvT hZ (hw _ (List.mem_of_getElem? (i := 1) rfl))) (g := (mkF m 29 #[.val (.int l0), .val (.long n0_), .second, .val (.int k0), .val (.int v2), .unset, .unset, .unset, .unset, .unset] [])) rfl (hb hby at_29) _ (XS.lloadN X0.here hx rfl (hb hby at_32) rfl (X0.ldc2Long hx hown (mvT hZ (hw _ (List.mem_of_getElem? (i := 2) rfl))) (g := (mkF m 33 #[.val (.int l0), .val (.long n0_), .second, .val (.int k0), .val (.int v2), .unset, .unset, .unset, .unset, .unset] [(.long n0_), (.long (2147483639 : Int64))])) rfl (hb hby at_33) _ (XS.land X0.here hx rfl (hb hby at_36) rfl (XS.lsub X0.here hx rfl (hb hby at_37) rfl k)))))) ?_
      show Comes p e below _ (s₁.setTop (mkF m 38 #[.val (.int l0), .val (.long n0_), .second, .val (.int k0), .val (.int v2), .unset, .unset, .unset, .unset, .unset] [(.long ((2147483639 : Int64) - (n0_ &&& (15 : Int64))))]))
      generalize hv_v15 : ((2147483639 : Int64) - (n0_ &&& (15 : Int64))) = v15
      show Comes p e below _ (s₁.setTop (mkF m 38 #[.val (.int l0), .val (.long n0_), .second, .val (.int k0), .val (.int v2), .unset, .unset, .unset, .unset, .unset] [(.long v15)]))
      refine Comes.st (fun t k => XS.lstore X0.here hx rfl (hb hby at_38) rfl (l' := #[.val (.int l0), .val (.long n0_), .second, .val (.int k0), .val (.int v2), .val (.long v15), .second, .unset, .unset, .unset]) rfl (XS.goto X0.here hx rfl (pc0 := 40) (pc' := 50) rfl (hb hby at_40) (by decide) (by decide) (XS.iload X0.here hx rfl (hb hby at_50) rfl (XS.lload X0.here hx rfl (hb hby at_52) rfl k)))) ?_
      show Comes p e below _ (s₁.setTop (mkF m 54 #[.val (.int l0), .val (.long n0_), .second, .val (.int k0), .val (.int v2), .val (.long v15), .second, .unset, .unset, .unset] [(.long v15), (.int v2)]))
      obtain ⟨_, _, ⟨T16, L16, k16, n16⟩, -, X16, ⟨Lc16, hQ16, l16, y16, z16⟩, st16⟩ := Jvm.LawKit.callS X0 hx (y := (⟨"com/example/hopwise/hopwise/ArrayLengths", "grown", "(IJ)I"⟩ : MethodName)) hown (mvT hZ (hw _ (List.mem_of_getElem? (i := 3) rfl))) (mvT hZ (hw _ (List.mem_of_getElem? (i := 4) rfl))) (mvT hZ (hw _ (List.mem_of_getElem? (i := 5) rfl))) (mvT hZ (hw _ (List.mem_of_getElem? (i := 6) rfl))) (by decide) (backOf (W := 0) (rm1 l Z a0 hw [] v2 v15 h0 n0 (by omega)  (by have a_0 := c_and k0 (2 : Int32) (by decide); have a_1 := c_mask l0 (2147483647 : Int32) 31 (by decide) (by decide); rw [hv_v2] at a_1; have a_2 := c_mask k0 (1 : Int32) 1 (by decide) (by decide); have a_3 := c_maskL n0_ (15 : Int64) 4 (by decide) (by decide); have a_4 := c_lsub (2147483639 : Int64) (n0_ &&& (15 : Int64)); rw [hv_v15] at a_4; have a_5 := rng32 (k0 &&& (1 : Int32)); have a_6 := rng32 (k0 &&& (2 : Int32)); have a_7 := rng64 (n0_ &&& (15 : Int64)); have a_8 := rng32 k0; have a_9 := rng32 l0; have a_10 := rng64 n0_; have a_11 := rng64 v15; have a_12 := rng32 v2; have c_0 := hc3_1; have c_1 := hc26_3; (simp only [Int32.lt_iff_toInt_lt, Int64.lt_iff_toInt_lt, ← Int32.toInt_inj, ← Int64.toInt_inj, Int32.reduceToInt, Int64.reduceToInt] at a_0 a_1 a_2 a_3 a_4 a_5 a_6 a_7 a_8 a_9 a_10 a_11 a_12 c_0 c_1 ⊢) <;> omega) (by have a_0 := c_and k0 (2 : Int32) (by decide); have a_1 := c_mask l0 (2147483647 : Int32) 31 (by decide) (by decide); rw [hv_v2] at a_1; have a_2 := c_mask k0 (1 : Int32) 1 (by decide) (by decide); have a_3 := c_maskL n0_ (15 : Int64) 4 (by decide) (by decide); have a_4 := c_lsub (2147483639 : Int64) (n0_ &&& (15 : Int64)); rw [hv_v15] at a_4; have a_5 := rng32 (k0 &&& (1 : Int32)); have a_6 := rng32 (k0 &&& (2 : Int32)); have a_7 := rng64 (n0_ &&& (15 : Int64)); have a_8 := rng32 k0; have a_9 := rng32 l0; have a_10 := rng64 n0_; have a_11 := rng64 v15; have a_12 := rng32 v2; have c_0 := hc3_1; have c_1 := hc26_3; (simp only [Int32.lt_iff_toInt_lt, Int64.lt_iff_toInt_lt, ← Int32.toInt_inj, ← Int64.toInt_inj, Int32.reduceToInt, Int64.reduceToInt] at a_0 a_1 a_2 a_3 a_4 a_5 a_6 a_7 a_8 a_9 a_10 a_11 a_12 c_0 c_1 ⊢) <;> omega)) hZ (hw _ (List.mem_of_getElem? (i := 6) rfl)) (hw _ (List.mem_of_getElem? (i := 5) rfl)) (by decide) (by decide)) (g := (mkF m 54 #[.val (.int l0), .val (.long n0_), .second, .val (.int k0), .val (.int v2), .val (.long v15), .second, .unset, .unset, .unset] [(.long v15), (.int v2)])) rfl (by rw [hml]; rfl) (argsL := [(.int v2), (.long v15)]) (rest := []) (lenOf pd_1 rfl) rfl (by show 2 * 0 + _ ≤ _; exact Nat.le_of_eq rfl) (hb hby at_54) (fun _ _ => ⟨rfl, e0, (by decide : 0 + 0 ≤ _), (by decide : 0 + 0 ≤ _)⟩)
      dsimp only [Pt.U, Pt.locs, Pt.cells, Pt.slots] at X16 l16 y16 z16 st16 hQ16
      subst l16 y16 z16
      obtain ⟨r17, rfl, Nq16, hs16, P16_0⟩ := hQ16
      have N16 := Fr.app N0 Nq16
      refine Comes.st st16 ?_
      show Comes p e below _ (T16.setTop (mkF m 57 #[.val (.int l0), .val (.long n0_), .second, .val (.int k0), .val (.int v2), .val (.long v15), .second, .unset, .unset, .unset] [(.int r17)]))
      refine Comes.st (fun t k => XS.istore X16.here hx rfl (hb hby at_57) rfl (l' := #[.val (.int l0), .val (.long n0_), .second, .val (.int k0), .val (.int v2), .val (.long v15), .second, .val (.int r17), .unset, .unset]) rfl (XS.iload X16.here hx rfl (hb hby at_59) rfl (X16.ldcInt hx hown (mvT hZ (hw _ (List.mem_of_getElem? (i := 16) rfl))) (g := (mkF m 61 #[.val (.int l0), .val (.long n0_), .second, .val (.int k0), .val (.int v2), .val (.long v15), .second, .val (.int r17), .unset, .unset] [(.int v2)])) rfl (hb hby at_61) _ k))) ?_
      show Comes p e below _ (T16.setTop (mkF m 63 #[.val (.int l0), .val (.long n0_), .second, .val (.int k0), .val (.int v2), .val (.long v15), .second, .val (.int r17), .unset, .unset] [(.int (1073741819 : Int32)), (.int v2)]))
      by_cases hc63_18 : (1073741819 : Int32) < v2
      · refine Comes.st (fun t k => XS.icmpNo X16.here hx rfl (hb hby at_63) rfl (tlt hc63_18).2.2.2 (X16.ldcInt hx hown (mvT hZ (hw _ (List.mem_of_getElem? (i := 19) rfl))) (g := (mkF m 66 #[.val (.int l0), .val (.long n0_), .second, .val (.int k0), .val (.int v2), .val (.long v15), .second, .val (.int r17), .unset, .unset] [])) rfl (hb hby at_66) _ (XS.istore X16.here hx rfl (hb hby at_68) rfl (l' := #[.val (.int l0), .val (.long n0_), .second, .val (.int k0), .val (.int v2), .val (.long v15), .second, .val (.int r17), .val (.int (2147483639 : Int32)), .unset]) rfl (XS.goto X16.here hx rfl (pc0 := 70) (pc' := 101) rfl (hb hby at_70) (by decide) (by decide) (XS.iload X16.here hx rfl (hb hby at_101) rfl (XS.iload X16.here hx rfl (hb hby at_103) rfl k)))))) ?_
        show Comes p e below _ (T16.setTop (mkF m 105 #[.val (.int l0), .val (.long n0_), .second, .val (.int k0), .val (.int v2), .val (.long v15), .second, .val (.int r17), .val (.int (2147483639 : Int32)), .unset] [(.int (2147483639 : Int32)), (.int r17)]))
        have hc105_19 : r17 = (2147483639 : Int32) := by have a_0 := c_and k0 (2 : Int32) (by decide); have a_1 := c_mask l0 (2147483647 : Int32) 31 (by decide) (by decide); rw [hv_v2] at a_1; have a_2 := c_mask k0 (1 : Int32) 1 (by decide) (by decide); have a_3 := c_maskL n0_ (15 : Int64) 4 (by decide) (by decide); have a_4 := c_lsub (2147483639 : Int64) (n0_ &&& (15 : Int64)); rw [hv_v15] at a_4; have a_5 := rng32 (k0 &&& (1 : Int32)); have a_6 := rng32 (k0 &&& (2 : Int32)); have a_7 := rng64 (n0_ &&& (15 : Int64)); have a_8 := rng32 k0; have a_9 := rng32 l0; have a_10 := rng64 n0_; have a_11 := rng64 v15; have a_12 := rng32 v2; have c_0 := hc3_1; have c_1 := hc26_3; have c_2 := hc63_18; have c_3 := P16_0; (simp only [Int32.lt_iff_toInt_lt, Int64.lt_iff_toInt_lt, ← Int32.toInt_inj, ← Int64.toInt_inj, Int32.reduceToInt, Int64.reduceToInt] at a_0 a_1 a_2 a_3 a_4 a_5 a_6 a_7 a_8 a_9 a_10 a_11 a_12 c_0 c_1 c_2 c_3 ⊢) <;> omega
        refine Comes.st (fun t k => XS.icmpNo X16.here hx rfl (hb hby at_105) rfl (teq hc105_19).2 (XS.iconst X16.here hx rfl (hb hby at_108) (XS.goto X16.here hx rfl (pc0 := 109) (pc' := 113) rfl (hb hby at_109) (by decide) (by decide) k))) ?_
        show Comes p e below _ (T16.setTop (mkF m 113 #[.val (.int l0), .val (.long n0_), .second, .val (.int k0), .val (.int v2), .val (.long v15), .second, .val (.int r17), .val (.int (2147483639 : Int32)), .unset] [(.int (1 : Int32))]))
        exact Comes.retN X16 hx (t := .boolean) Bd.returns (by simp) hlk (hb hby at_113) hs16 ⟨rfl, N16⟩ (by decide) (by decide)
      · refine Comes.st (fun t k => XS.icmpYes X16.here hx rfl (pc0 := 63) (pc' := 73) rfl (hb hby at_63) rfl (flt hc63_18).2.2.2 (by decide) (by decide) (XS.iload X16.here hx rfl (hb hby at_73) rfl (XS.iload X16.here hx rfl (hb hby at_75) rfl (XS.iadd X16.here hx rfl (hb hby at_77) rfl k)))) ?_
        show Comes p e below _ (T16.setTop (mkF m 78 #[.val (.int l0), .val (.long n0_), .second, .val (.int k0), .val (.int v2), .val (.long v15), .second, .val (.int r17), .unset, .unset] [(.int (v2 + v2))]))
        generalize hv_v20 : (v2 + v2) = v20
        show Comes p e below _ (T16.setTop (mkF m 78 #[.val (.int l0), .val (.long n0_), .second, .val (.int k0), .val (.int v2), .val (.long v15), .second, .val (.int r17), .unset, .unset] [(.int v20)]))
        refine Comes.st (fun t k => XS.istore X16.here hx rfl (hb hby at_78) rfl (l' := #[.val (.int l0), .val (.long n0_), .second, .val (.int k0), .val (.int v2), .val (.long v15), .second, .val (.int r17), .unset, .val (.int v20)]) rfl (XS.lload X16.here hx rfl (hb hby at_80) rfl (XS.iload X16.here hx rfl (hb hby at_82) rfl (XS.i2l X16.here hx rfl (hb hby at_84) rfl (XS.lcmp X16.here hx rfl (hb hby at_85) rfl k))))) ?_
        show Comes p e below _ (T16.setTop (mkF m 86 #[.val (.int l0), .val (.long n0_), .second, .val (.int k0), .val (.int v2), .val (.long v15), .second, .val (.int r17), .unset, .val (.int v20)] [(.int (lcmpW v15 (v20.toInt64)))]))
        by_cases hc86_21 : (v20.toInt64) < v15
        · refine Comes.st (fun t k => XS.ifNo X16.here hx rfl (hb hby at_86) rfl ((if0 _ _).trans (tlt ((lw_gt _ _).mpr hc86_21)).2.2.2) (XS.lload X16.here hx rfl (hb hby at_89) rfl (XS.l2i X16.here hx rfl (hb hby at_91) rfl k))) ?_
          show Comes p e below _ (T16.setTop (mkF m 92 #[.val (.int l0), .val (.long n0_), .second, .val (.int k0), .val (.int v2), .val (.long v15), .second, .val (.int r17), .unset, .val (.int v20)] [(.int (v15.toInt32))]))
          generalize hv_v22 : (v15.toInt32) = v22
          show Comes p e below _ (T16.setTop (mkF m 92 #[.val (.int l0), .val (.long n0_), .second, .val (.int k0), .val (.int v2), .val (.long v15), .second, .val (.int r17), .unset, .val (.int v20)] [(.int v22)]))
          refine Comes.st (fun t k => XS.istore X16.here hx rfl (hb hby at_92) rfl (l' := #[.val (.int l0), .val (.long n0_), .second, .val (.int k0), .val (.int v2), .val (.long v15), .second, .val (.int r17), .val (.int v22), .val (.int v20)]) rfl (XS.goto X16.here hx rfl (pc0 := 94) (pc' := 101) rfl (hb hby at_94) (by decide) (by decide) (XS.iload X16.here hx rfl (hb hby at_101) rfl (XS.iload X16.here hx rfl (hb hby at_103) rfl k)))) ?_
          show Comes p e below _ (T16.setTop (mkF m 105 #[.val (.int l0), .val (.long n0_), .second, .val (.int k0), .val (.int v2), .val (.long v15), .second, .val (.int r17), .val (.int v22), .val (.int v20)] [(.int v22), (.int r17)]))
          have hc105_23 : r17 = v22 := by have a_0 := c_and k0 (2 : Int32) (by decide); have a_1 := c_mask l0 (2147483647 : Int32) 31 (by decide) (by decide); rw [hv_v2] at a_1; have a_2 := c_mask k0 (1 : Int32) 1 (by decide) (by decide); have a_3 := c_maskL n0_ (15 : Int64) 4 (by decide) (by decide); have a_4 := c_lsub (2147483639 : Int64) (n0_ &&& (15 : Int64)); rw [hv_v15] at a_4; have a_5 := c_iadd v2 v2; rw [hv_v20] at a_5; have a_6 := c_i2l v20; have a_7 := c_l2i v15; rw [hv_v22] at a_7; have a_8 := rng32 (k0 &&& (1 : Int32)); have a_9 := rng32 (k0 &&& (2 : Int32)); have a_10 := rng64 (n0_ &&& (15 : Int64)); have a_11 := rng64 (v20.toInt64); have a_12 := rng32 k0; have a_13 := rng32 l0; have a_14 := rng64 n0_; have a_15 := rng64 v15; have a_16 := rng32 v2; have a_17 := rng32 v20; have a_18 := rng32 v22; have c_0 := hc3_1; have c_1 := hc26_3; have c_2 := hc63_18; have c_3 := hc86_21; have c_4 := P16_0; (simp only [Int32.lt_iff_toInt_lt, Int64.lt_iff_toInt_lt, ← Int32.toInt_inj, ← Int64.toInt_inj, Int32.reduceToInt, Int64.reduceToInt] at a_0 a_1 a_2 a_3 a_4 a_5 a_6 a_7 a_8 a_9 a_10 a_11 a_12 a_13 a_14 a_15 a_16 a_17 a_18 c_0 c_1 c_2 c_3 c_4 ⊢) <;> omega
          refine Comes.st (fun t k => XS.icmpNo X16.here hx rfl (hb hby at_105) rfl (teq hc105_23).2 (XS.iconst X16.here hx rfl (hb hby at_108) (XS.goto X16.here hx rfl (pc0 := 109) (pc' := 113) rfl (hb hby at_109) (by decide) (by decide) k))) ?_
          show Comes p e below _ (T16.setTop (mkF m 113 #[.val (.int l0), .val (.long n0_), .second, .val (.int k0), .val (.int v2), .val (.long v15), .second, .val (.int r17), .val (.int v22), .val (.int v20)] [(.int (1 : Int32))]))
          exact Comes.retN X16 hx (t := .boolean) Bd.returns (by simp) hlk (hb hby at_113) hs16 ⟨rfl, N16⟩ (by decide) (by decide)
        · refine Comes.st (fun t k => XS.ifYes X16.here hx rfl (pc0 := 86) (pc' := 97) rfl (hb hby at_86) rfl ((if0 _ _).trans (flt (fun q => hc86_21 ((lw_gt _ _).mp q))).2.2.2) (by decide) (by decide) (XS.iload X16.here hx rfl (hb hby at_97) rfl (XS.istore X16.here hx rfl (hb hby at_99) rfl (l' := #[.val (.int l0), .val (.long n0_), .second, .val (.int k0), .val (.int v2), .val (.long v15), .second, .val (.int r17), .val (.int v20), .val (.int v20)]) rfl (XS.iload X16.here hx rfl (hb hby at_101) rfl (XS.iload X16.here hx rfl (hb hby at_103) rfl k))))) ?_
          show Comes p e below _ (T16.setTop (mkF m 105 #[.val (.int l0), .val (.long n0_), .second, .val (.int k0), .val (.int v2), .val (.long v15), .second, .val (.int r17), .val (.int v20), .val (.int v20)] [(.int v20), (.int r17)]))
          have hc105_24 : r17 = v20 := by have a_0 := c_and k0 (2 : Int32) (by decide); have a_1 := c_mask l0 (2147483647 : Int32) 31 (by decide) (by decide); rw [hv_v2] at a_1; have a_2 := c_mask k0 (1 : Int32) 1 (by decide) (by decide); have a_3 := c_maskL n0_ (15 : Int64) 4 (by decide) (by decide); have a_4 := c_lsub (2147483639 : Int64) (n0_ &&& (15 : Int64)); rw [hv_v15] at a_4; have a_5 := c_iadd v2 v2; rw [hv_v20] at a_5; have a_6 := c_i2l v20; have a_7 := rng32 (k0 &&& (1 : Int32)); have a_8 := rng32 (k0 &&& (2 : Int32)); have a_9 := rng64 (n0_ &&& (15 : Int64)); have a_10 := rng64 (v20.toInt64); have a_11 := rng32 k0; have a_12 := rng32 l0; have a_13 := rng64 n0_; have a_14 := rng64 v15; have a_15 := rng32 v2; have a_16 := rng32 v20; have c_0 := hc3_1; have c_1 := hc26_3; have c_2 := hc63_18; have c_3 := hc86_21; have c_4 := P16_0; (simp only [Int32.lt_iff_toInt_lt, Int64.lt_iff_toInt_lt, ← Int32.toInt_inj, ← Int64.toInt_inj, Int32.reduceToInt, Int64.reduceToInt] at a_0 a_1 a_2 a_3 a_4 a_5 a_6 a_7 a_8 a_9 a_10 a_11 a_12 a_13 a_14 a_15 a_16 c_0 c_1 c_2 c_3 c_4 ⊢) <;> omega
          refine Comes.st (fun t k => XS.icmpNo X16.here hx rfl (hb hby at_105) rfl (teq hc105_24).2 (XS.iconst X16.here hx rfl (hb hby at_108) (XS.goto X16.here hx rfl (pc0 := 109) (pc' := 113) rfl (hb hby at_109) (by decide) (by decide) k))) ?_
          show Comes p e below _ (T16.setTop (mkF m 113 #[.val (.int l0), .val (.long n0_), .second, .val (.int k0), .val (.int v2), .val (.long v15), .second, .val (.int r17), .val (.int v20), .val (.int v20)] [(.int (1 : Int32))]))
          exact Comes.retN X16 hx (t := .boolean) Bd.returns (by simp) hlk (hb hby at_113) hs16 ⟨rfl, N16⟩ (by decide) (by decide)
  · refine Comes.st (fun t k => XS.ifNo X0.here hx rfl (hb hby at_3) rfl ((if0 _ _).trans (feq hc3_1).1) (X0.ldcInt hx hown (mvT hZ (hw _ (List.mem_of_getElem? (i := 17) rfl))) (g := (mkF m 6 #[.val (.int l0), .val (.long n0_), .second, .val (.int k0), .unset, .unset, .unset, .unset, .unset, .unset] [])) rfl (hb hby at_6) _ (XS.iloadN X0.here hx rfl (hb hby at_8) rfl (XS.iconst X0.here hx rfl (hb hby at_9) (XS.iand X0.here hx rfl (hb hby at_10) rfl (XS.iadd X0.here hx rfl (hb hby at_11) rfl k)))))) ?_
    show Comes p e below _ (s₁.setTop (mkF m 12 #[.val (.int l0), .val (.long n0_), .second, .val (.int k0), .unset, .unset, .unset, .unset, .unset, .unset] [(.int ((1073741818 : Int32) + (l0 &&& (3 : Int32))))]))
    generalize hv_v25 : ((1073741818 : Int32) + (l0 &&& (3 : Int32))) = v25
    show Comes p e below _ (s₁.setTop (mkF m 12 #[.val (.int l0), .val (.long n0_), .second, .val (.int k0), .unset, .unset, .unset, .unset, .unset, .unset] [(.int v25)]))
    refine Comes.st (fun t k => XS.istore X0.here hx rfl (hb hby at_12) rfl (l' := #[.val (.int l0), .val (.long n0_), .second, .val (.int k0), .val (.int v25), .unset, .unset, .unset, .unset, .unset]) rfl (XS.goto X0.here hx rfl (pc0 := 14) (pc' := 23) rfl (hb hby at_14) (by decide) (by decide) (XS.iloadN X0.here hx rfl (hb hby at_23) rfl (XS.iconst X0.here hx rfl (hb hby at_24) (XS.iand X0.here hx rfl (hb hby at_25) rfl k))))) ?_
    show Comes p e below _ (s₁.setTop (mkF m 26 #[.val (.int l0), .val (.long n0_), .second, .val (.int k0), .val (.int v25), .unset, .unset, .unset, .unset, .unset] [(.int (k0 &&& (1 : Int32)))]))
    by_cases hc26_26 : (k0 &&& (1 : Int32)) = (0 : Int32)
    · refine Comes.st (fun t k => XS.ifYes X0.here hx rfl (pc0 := 26) (pc' := 43) rfl (hb hby at_26) rfl ((if0 _ _).trans (teq hc26_26).1) (by decide) (by decide) (XS.lloadN X0.here hx rfl (hb hby at_43) rfl (X0.ldc2Long hx hown (mvT hZ (hw _ (List.mem_of_getElem? (i := 18) rfl))) (g := (mkF m 44 #[.val (.int l0), .val (.long n0_), .second, .val (.int k0), .val (.int v25), .unset, .unset, .unset, .unset, .unset] [(.long n0_)])) rfl (hb hby at_44) _ k))) ?_
      show Comes p e below _ (s₁.setTop (mkF m 47 #[.val (.int l0), .val (.long n0_), .second, .val (.int k0), .val (.int v25), .unset, .unset, .unset, .unset, .unset] [(.long (2147483640 : Int64)), (.long n0_)]))
      have hnz27 : ¬ ((2147483640 : Int64) = (0 : Int64)) := by decide
      refine Comes.st (fun t k => lremM X0 hx rfl (hb hby at_47) rfl hnz27 k) ?_
      show Comes p e below _ (s₁.setTop (mkF m 48 #[.val (.int l0), .val (.long n0_), .second, .val (.int k0), .val (.int v25), .unset, .unset, .unset, .unset, .unset] [(.long (n0_ % (2147483640 : Int64)))]))
      generalize hv_v28 : (n0_ % (2147483640 : Int64)) = v28
      show Comes p e below _ (s₁.setTop (mkF m 48 #[.val (.int l0), .val (.long n0_), .second, .val (.int k0), .val (.int v25), .unset, .unset, .unset, .unset, .unset] [(.long v28)]))
      refine Comes.st (fun t k => XS.lstore X0.here hx rfl (hb hby at_48) rfl (l' := #[.val (.int l0), .val (.long n0_), .second, .val (.int k0), .val (.int v25), .val (.long v28), .second, .unset, .unset, .unset]) rfl (XS.iload X0.here hx rfl (hb hby at_50) rfl (XS.lload X0.here hx rfl (hb hby at_52) rfl k))) ?_
      show Comes p e below _ (s₁.setTop (mkF m 54 #[.val (.int l0), .val (.long n0_), .second, .val (.int k0), .val (.int v25), .val (.long v28), .second, .unset, .unset, .unset] [(.long v28), (.int v25)]))
      obtain ⟨_, _, ⟨T29, L29, k29, n29⟩, -, X29, ⟨Lc29, hQ29, l29, y29, z29⟩, st29⟩ := Jvm.LawKit.callS X0 hx (y := (⟨"com/example/hopwise/hopwise/ArrayLengths", "grown", "(IJ)I"⟩ : MethodName)) hown (mvT hZ (hw _ (List.mem_of_getElem? (i := 3) rfl))) (mvT hZ (hw _ (List.mem_of_getElem? (i := 4) rfl))) (mvT hZ (hw _ (List.mem_of_getElem? (i := 5) rfl))) (mvT hZ (hw _ (List.mem_of_getElem? (i := 6) rfl))) (by decide) (backOf (W := 0) (rm1 l Z a0 hw [] v25 v28 h0 n0 (by omega)  (by have a_0 := c_and k0 (2 : Int32) (by decide); have a_1 := c_mask l0 (3 : Int32) 2 (by decide) (by decide); have a_2 := c_iadd (1073741818 : Int32) (l0 &&& (3 : Int32)); rw [hv_v25] at a_2; have a_3 := c_mask k0 (1 : Int32) 1 (by decide) (by decide); have a_4 := own_lrem n0_ (2147483640 : Int64) 2147483640 (by decide); rw [hv_v28] at a_4; have a_5 := rng32 (k0 &&& (1 : Int32)); have a_6 := rng32 (k0 &&& (2 : Int32)); have a_7 := rng32 (l0 &&& (3 : Int32)); have a_8 := rng32 k0; have a_9 := rng32 l0; have a_10 := rng64 n0_; have a_11 := rng32 v25; have a_12 := rng64 v28; have c_0 := hc3_1; have c_1 := hc26_26; (simp only [Int32.lt_iff_toInt_lt, Int64.lt_iff_toInt_lt, ← Int32.toInt_inj, ← Int64.toInt_inj, Int32.reduceToInt, Int64.reduceToInt] at a_0 a_1 a_2 a_3 a_4 a_5 a_6 a_7 a_8 a_9 a_10 a_11 a_12 c_0 c_1 ⊢) <;> omega) (by have a_0 := c_and k0 (2 : Int32) (by decide); have a_1 := c_mask l0 (3 : Int32) 2 (by decide) (by decide); have a_2 := c_iadd (1073741818 : Int32) (l0 &&& (3 : Int32)); rw [hv_v25] at a_2; have a_3 := c_mask k0 (1 : Int32) 1 (by decide) (by decide); have a_4 := own_lrem n0_ (2147483640 : Int64) 2147483640 (by decide); rw [hv_v28] at a_4; have a_5 := rng32 (k0 &&& (1 : Int32)); have a_6 := rng32 (k0 &&& (2 : Int32)); have a_7 := rng32 (l0 &&& (3 : Int32)); have a_8 := rng32 k0; have a_9 := rng32 l0; have a_10 := rng64 n0_; have a_11 := rng32 v25; have a_12 := rng64 v28; have c_0 := hc3_1; have c_1 := hc26_26; (simp only [Int32.lt_iff_toInt_lt, Int64.lt_iff_toInt_lt, ← Int32.toInt_inj, ← Int64.toInt_inj, Int32.reduceToInt, Int64.reduceToInt] at a_0 a_1 a_2 a_3 a_4 a_5 a_6 a_7 a_8 a_9 a_10 a_11 a_12 c_0 c_1 ⊢) <;> omega)) hZ (hw _ (List.mem_of_getElem? (i := 6) rfl)) (hw _ (List.mem_of_getElem? (i := 5) rfl)) (by decide) (by decide)) (g := (mkF m 54 #[.val (.int l0), .val (.long n0_), .second, .val (.int k0), .val (.int v25), .val (.long v28), .second, .unset, .unset, .unset] [(.long v28), (.int v25)])) rfl (by rw [hml]; rfl) (argsL := [(.int v25), (.long v28)]) (rest := []) (lenOf pd_1 rfl) rfl (by show 2 * 0 + _ ≤ _; exact Nat.le_of_eq rfl) (hb hby at_54) (fun _ _ => ⟨rfl, e0, (by decide : 0 + 0 ≤ _), (by decide : 0 + 0 ≤ _)⟩)
      dsimp only [Pt.U, Pt.locs, Pt.cells, Pt.slots] at X29 l29 y29 z29 st29 hQ29
      subst l29 y29 z29
      obtain ⟨r30, rfl, Nq29, hs29, P29_0⟩ := hQ29
      have N29 := Fr.app N0 Nq29
      refine Comes.st st29 ?_
      show Comes p e below _ (T29.setTop (mkF m 57 #[.val (.int l0), .val (.long n0_), .second, .val (.int k0), .val (.int v25), .val (.long v28), .second, .unset, .unset, .unset] [(.int r30)]))
      refine Comes.st (fun t k => XS.istore X29.here hx rfl (hb hby at_57) rfl (l' := #[.val (.int l0), .val (.long n0_), .second, .val (.int k0), .val (.int v25), .val (.long v28), .second, .val (.int r30), .unset, .unset]) rfl (XS.iload X29.here hx rfl (hb hby at_59) rfl (X29.ldcInt hx hown (mvT hZ (hw _ (List.mem_of_getElem? (i := 16) rfl))) (g := (mkF m 61 #[.val (.int l0), .val (.long n0_), .second, .val (.int k0), .val (.int v25), .val (.long v28), .second, .val (.int r30), .unset, .unset] [(.int v25)])) rfl (hb hby at_61) _ k))) ?_
      show Comes p e below _ (T29.setTop (mkF m 63 #[.val (.int l0), .val (.long n0_), .second, .val (.int k0), .val (.int v25), .val (.long v28), .second, .val (.int r30), .unset, .unset] [(.int (1073741819 : Int32)), (.int v25)]))
      by_cases hc63_31 : (1073741819 : Int32) < v25
      · refine Comes.st (fun t k => XS.icmpNo X29.here hx rfl (hb hby at_63) rfl (tlt hc63_31).2.2.2 (X29.ldcInt hx hown (mvT hZ (hw _ (List.mem_of_getElem? (i := 19) rfl))) (g := (mkF m 66 #[.val (.int l0), .val (.long n0_), .second, .val (.int k0), .val (.int v25), .val (.long v28), .second, .val (.int r30), .unset, .unset] [])) rfl (hb hby at_66) _ (XS.istore X29.here hx rfl (hb hby at_68) rfl (l' := #[.val (.int l0), .val (.long n0_), .second, .val (.int k0), .val (.int v25), .val (.long v28), .second, .val (.int r30), .val (.int (2147483639 : Int32)), .unset]) rfl (XS.goto X29.here hx rfl (pc0 := 70) (pc' := 101) rfl (hb hby at_70) (by decide) (by decide) (XS.iload X29.here hx rfl (hb hby at_101) rfl (XS.iload X29.here hx rfl (hb hby at_103) rfl k)))))) ?_
        show Comes p e below _ (T29.setTop (mkF m 105 #[.val (.int l0), .val (.long n0_), .second, .val (.int k0), .val (.int v25), .val (.long v28), .second, .val (.int r30), .val (.int (2147483639 : Int32)), .unset] [(.int (2147483639 : Int32)), (.int r30)]))
        have hc105_32 : r30 = (2147483639 : Int32) := by have a_0 := c_and k0 (2 : Int32) (by decide); have a_1 := c_mask l0 (3 : Int32) 2 (by decide) (by decide); have a_2 := c_iadd (1073741818 : Int32) (l0 &&& (3 : Int32)); rw [hv_v25] at a_2; have a_3 := c_mask k0 (1 : Int32) 1 (by decide) (by decide); have a_4 := own_lrem n0_ (2147483640 : Int64) 2147483640 (by decide); rw [hv_v28] at a_4; have a_5 := rng32 (k0 &&& (1 : Int32)); have a_6 := rng32 (k0 &&& (2 : Int32)); have a_7 := rng32 (l0 &&& (3 : Int32)); have a_8 := rng32 k0; have a_9 := rng32 l0; have a_10 := rng64 n0_; have a_11 := rng32 v25; have a_12 := rng64 v28; have c_0 := hc3_1; have c_1 := hc26_26; have c_2 := hc63_31; have c_3 := P29_0; (simp only [Int32.lt_iff_toInt_lt, Int64.lt_iff_toInt_lt, ← Int32.toInt_inj, ← Int64.toInt_inj, Int32.reduceToInt, Int64.reduceToInt] at a_0 a_1 a_2 a_3 a_4 a_5 a_6 a_7 a_8 a_9 a_10 a_11 a_12 c_0 c_1 c_2 c_3 ⊢) <;> omega
        refine Comes.st (fun t k => XS.icmpNo X29.here hx rfl (hb hby at_105) rfl (teq hc105_32).2 (XS.iconst X29.here hx rfl (hb hby at_108) (XS.goto X29.here hx rfl (pc0 := 109) (pc' := 113) rfl (hb hby at_109) (by decide) (by decide) k))) ?_
        show Comes p e below _ (T29.setTop (mkF m 113 #[.val (.int l0), .val (.long n0_), .second, .val (.int k0), .val (.int v25), .val (.long v28), .second, .val (.int r30), .val (.int (2147483639 : Int32)), .unset] [(.int (1 : Int32))]))
        exact Comes.retN X29 hx (t := .boolean) Bd.returns (by simp) hlk (hb hby at_113) hs29 ⟨rfl, N29⟩ (by decide) (by decide)
      · refine Comes.st (fun t k => XS.icmpYes X29.here hx rfl (pc0 := 63) (pc' := 73) rfl (hb hby at_63) rfl (flt hc63_31).2.2.2 (by decide) (by decide) (XS.iload X29.here hx rfl (hb hby at_73) rfl (XS.iload X29.here hx rfl (hb hby at_75) rfl (XS.iadd X29.here hx rfl (hb hby at_77) rfl k)))) ?_
        show Comes p e below _ (T29.setTop (mkF m 78 #[.val (.int l0), .val (.long n0_), .second, .val (.int k0), .val (.int v25), .val (.long v28), .second, .val (.int r30), .unset, .unset] [(.int (v25 + v25))]))
        generalize hv_v33 : (v25 + v25) = v33
        show Comes p e below _ (T29.setTop (mkF m 78 #[.val (.int l0), .val (.long n0_), .second, .val (.int k0), .val (.int v25), .val (.long v28), .second, .val (.int r30), .unset, .unset] [(.int v33)]))
        refine Comes.st (fun t k => XS.istore X29.here hx rfl (hb hby at_78) rfl (l' := #[.val (.int l0), .val (.long n0_), .second, .val (.int k0), .val (.int v25), .val (.long v28), .second, .val (.int r30), .unset, .val (.int v33)]) rfl (XS.lload X29.here hx rfl (hb hby at_80) rfl (XS.iload X29.here hx rfl (hb hby at_82) rfl (XS.i2l X29.here hx rfl (hb hby at_84) rfl (XS.lcmp X29.here hx rfl (hb hby at_85) rfl k))))) ?_
        show Comes p e below _ (T29.setTop (mkF m 86 #[.val (.int l0), .val (.long n0_), .second, .val (.int k0), .val (.int v25), .val (.long v28), .second, .val (.int r30), .unset, .val (.int v33)] [(.int (lcmpW v28 (v33.toInt64)))]))
        by_cases hc86_34 : (v33.toInt64) < v28
        · refine Comes.st (fun t k => XS.ifNo X29.here hx rfl (hb hby at_86) rfl ((if0 _ _).trans (tlt ((lw_gt _ _).mpr hc86_34)).2.2.2) (XS.lload X29.here hx rfl (hb hby at_89) rfl (XS.l2i X29.here hx rfl (hb hby at_91) rfl k))) ?_
          show Comes p e below _ (T29.setTop (mkF m 92 #[.val (.int l0), .val (.long n0_), .second, .val (.int k0), .val (.int v25), .val (.long v28), .second, .val (.int r30), .unset, .val (.int v33)] [(.int (v28.toInt32))]))
          generalize hv_v35 : (v28.toInt32) = v35
          show Comes p e below _ (T29.setTop (mkF m 92 #[.val (.int l0), .val (.long n0_), .second, .val (.int k0), .val (.int v25), .val (.long v28), .second, .val (.int r30), .unset, .val (.int v33)] [(.int v35)]))
          refine Comes.st (fun t k => XS.istore X29.here hx rfl (hb hby at_92) rfl (l' := #[.val (.int l0), .val (.long n0_), .second, .val (.int k0), .val (.int v25), .val (.long v28), .second, .val (.int r30), .val (.int v35), .val (.int v33)]) rfl (XS.goto X29.here hx rfl (pc0 := 94) (pc' := 101) rfl (hb hby at_94) (by decide) (by decide) (XS.iload X29.here hx rfl (hb hby at_101) rfl (XS.iload X29.here hx rfl (hb hby at_103) rfl k)))) ?_
          show Comes p e below _ (T29.setTop (mkF m 105 #[.val (.int l0), .val (.long n0_), .second, .val (.int k0), .val (.int v25), .val (.long v28), .second, .val (.int r30), .val (.int v35), .val (.int v33)] [(.int v35), (.int r30)]))
          have hc105_36 : r30 = v35 := by have a_0 := c_and k0 (2 : Int32) (by decide); have a_1 := c_mask l0 (3 : Int32) 2 (by decide) (by decide); have a_2 := c_iadd (1073741818 : Int32) (l0 &&& (3 : Int32)); rw [hv_v25] at a_2; have a_3 := c_mask k0 (1 : Int32) 1 (by decide) (by decide); have a_4 := own_lrem n0_ (2147483640 : Int64) 2147483640 (by decide); rw [hv_v28] at a_4; have a_5 := c_iadd v25 v25; rw [hv_v33] at a_5; have a_6 := c_i2l v33; have a_7 := c_l2i v28; rw [hv_v35] at a_7; have a_8 := rng32 (k0 &&& (1 : Int32)); have a_9 := rng32 (k0 &&& (2 : Int32)); have a_10 := rng32 (l0 &&& (3 : Int32)); have a_11 := rng64 (v33.toInt64); have a_12 := rng32 k0; have a_13 := rng32 l0; have a_14 := rng64 n0_; have a_15 := rng32 v25; have a_16 := rng64 v28; have a_17 := rng32 v33; have a_18 := rng32 v35; have c_0 := hc3_1; have c_1 := hc26_26; have c_2 := hc63_31; have c_3 := hc86_34; have c_4 := P29_0; (simp only [Int32.lt_iff_toInt_lt, Int64.lt_iff_toInt_lt, ← Int32.toInt_inj, ← Int64.toInt_inj, Int32.reduceToInt, Int64.reduceToInt] at a_0 a_1 a_2 a_3 a_4 a_5 a_6 a_7 a_8 a_9 a_10 a_11 a_12 a_13 a_14 a_15 a_16 a_17 a_18 c_0 c_1 c_2 c_3 c_4 ⊢) <;> omega
          refine Comes.st (fun t k => XS.icmpNo X29.here hx rfl (hb hby at_105) rfl (teq hc105_36).2 (XS.iconst X29.here hx rfl (hb hby at_108) (XS.goto X29.here hx rfl (pc0 := 109) (pc' := 113) rfl (hb hby at_109) (by decide) (by decide) k))) ?_
          show Comes p e below _ (T29.setTop (mkF m 113 #[.val (.int l0), .val (.long n0_), .second, .val (.int k0), .val (.int v25), .val (.long v28), .second, .val (.int r30), .val (.int v35), .val (.int v33)] [(.int (1 : Int32))]))
          exact Comes.retN X29 hx (t := .boolean) Bd.returns (by simp) hlk (hb hby at_113) hs29 ⟨rfl, N29⟩ (by decide) (by decide)
        · refine Comes.st (fun t k => XS.ifYes X29.here hx rfl (pc0 := 86) (pc' := 97) rfl (hb hby at_86) rfl ((if0 _ _).trans (flt (fun q => hc86_34 ((lw_gt _ _).mp q))).2.2.2) (by decide) (by decide) (XS.iload X29.here hx rfl (hb hby at_97) rfl (XS.istore X29.here hx rfl (hb hby at_99) rfl (l' := #[.val (.int l0), .val (.long n0_), .second, .val (.int k0), .val (.int v25), .val (.long v28), .second, .val (.int r30), .val (.int v33), .val (.int v33)]) rfl (XS.iload X29.here hx rfl (hb hby at_101) rfl (XS.iload X29.here hx rfl (hb hby at_103) rfl k))))) ?_
          show Comes p e below _ (T29.setTop (mkF m 105 #[.val (.int l0), .val (.long n0_), .second, .val (.int k0), .val (.int v25), .val (.long v28), .second, .val (.int r30), .val (.int v33), .val (.int v33)] [(.int v33), (.int r30)]))
          have hc105_37 : r30 = v33 := by have a_0 := c_and k0 (2 : Int32) (by decide); have a_1 := c_mask l0 (3 : Int32) 2 (by decide) (by decide); have a_2 := c_iadd (1073741818 : Int32) (l0 &&& (3 : Int32)); rw [hv_v25] at a_2; have a_3 := c_mask k0 (1 : Int32) 1 (by decide) (by decide); have a_4 := own_lrem n0_ (2147483640 : Int64) 2147483640 (by decide); rw [hv_v28] at a_4; have a_5 := c_iadd v25 v25; rw [hv_v33] at a_5; have a_6 := c_i2l v33; have a_7 := rng32 (k0 &&& (1 : Int32)); have a_8 := rng32 (k0 &&& (2 : Int32)); have a_9 := rng32 (l0 &&& (3 : Int32)); have a_10 := rng64 (v33.toInt64); have a_11 := rng32 k0; have a_12 := rng32 l0; have a_13 := rng64 n0_; have a_14 := rng32 v25; have a_15 := rng64 v28; have a_16 := rng32 v33; have c_0 := hc3_1; have c_1 := hc26_26; have c_2 := hc63_31; have c_3 := hc86_34; have c_4 := P29_0; (simp only [Int32.lt_iff_toInt_lt, Int64.lt_iff_toInt_lt, ← Int32.toInt_inj, ← Int64.toInt_inj, Int32.reduceToInt, Int64.reduceToInt] at a_0 a_1 a_2 a_3 a_4 a_5 a_6 a_7 a_8 a_9 a_10 a_11 a_12 a_13 a_14 a_15 a_16 c_0 c_1 c_2 c_3 c_4 ⊢) <;> omega
          refine Comes.st (fun t k => XS.icmpNo X29.here hx rfl (hb hby at_105) rfl (teq hc105_37).2 (XS.iconst X29.here hx rfl (hb hby at_108) (XS.goto X29.here hx rfl (pc0 := 109) (pc' := 113) rfl (hb hby at_109) (by decide) (by decide) k))) ?_
          show Comes p e below _ (T29.setTop (mkF m 113 #[.val (.int l0), .val (.long n0_), .second, .val (.int k0), .val (.int v25), .val (.long v28), .second, .val (.int r30), .val (.int v33), .val (.int v33)] [(.int (1 : Int32))]))
          exact Comes.retN X29 hx (t := .boolean) Bd.returns (by simp) hlk (hb hby at_113) hs29 ⟨rfl, N29⟩ (by decide) (by decide)
    · refine Comes.st (fun t k => XS.ifNo X0.here hx rfl (hb hby at_26) rfl ((if0 _ _).trans (feq hc26_26).1) (X0.ldc2Long hx hown (mvT hZ (hw _ (List.mem_of_getElem? (i := 1) rfl))) (g := (mkF m 29 #[.val (.int l0), .val (.long n0_), .second, .val (.int k0), .val (.int v25), .unset, .unset, .unset, .unset, .unset] [])) rfl (hb hby at_29) _ (XS.lloadN X0.here hx rfl (hb hby at_32) rfl (X0.ldc2Long hx hown (mvT hZ (hw _ (List.mem_of_getElem? (i := 2) rfl))) (g := (mkF m 33 #[.val (.int l0), .val (.long n0_), .second, .val (.int k0), .val (.int v25), .unset, .unset, .unset, .unset, .unset] [(.long n0_), (.long (2147483639 : Int64))])) rfl (hb hby at_33) _ (XS.land X0.here hx rfl (hb hby at_36) rfl (XS.lsub X0.here hx rfl (hb hby at_37) rfl k)))))) ?_
      show Comes p e below _ (s₁.setTop (mkF m 38 #[.val (.int l0), .val (.long n0_), .second, .val (.int k0), .val (.int v25), .unset, .unset, .unset, .unset, .unset] [(.long ((2147483639 : Int64) - (n0_ &&& (15 : Int64))))]))
      generalize hv_v38 : ((2147483639 : Int64) - (n0_ &&& (15 : Int64))) = v38
      show Comes p e below _ (s₁.setTop (mkF m 38 #[.val (.int l0), .val (.long n0_), .second, .val (.int k0), .val (.int v25), .unset, .unset, .unset, .unset, .unset] [(.long v38)]))
      refine Comes.st (fun t k => XS.lstore X0.here hx rfl (hb hby at_38) rfl (l' := #[.val (.int l0), .val (.long n0_), .second, .val (.int k0), .val (.int v25), .val (.long v38), .second, .unset, .unset, .unset]) rfl (XS.goto X0.here hx rfl (pc0 := 40) (pc' := 50) rfl (hb hby at_40) (by decide) (by decide) (XS.iload X0.here hx rfl (hb hby at_50) rfl (XS.lload X0.here hx rfl (hb hby at_52) rfl k)))) ?_
      show Comes p e below _ (s₁.setTop (mkF m 54 #[.val (.int l0), .val (.long n0_), .second, .val (.int k0), .val (.int v25), .val (.long v38), .second, .unset, .unset, .unset] [(.long v38), (.int v25)]))
      obtain ⟨_, _, ⟨T39, L39, k39, n39⟩, -, X39, ⟨Lc39, hQ39, l39, y39, z39⟩, st39⟩ := Jvm.LawKit.callS X0 hx (y := (⟨"com/example/hopwise/hopwise/ArrayLengths", "grown", "(IJ)I"⟩ : MethodName)) hown (mvT hZ (hw _ (List.mem_of_getElem? (i := 3) rfl))) (mvT hZ (hw _ (List.mem_of_getElem? (i := 4) rfl))) (mvT hZ (hw _ (List.mem_of_getElem? (i := 5) rfl))) (mvT hZ (hw _ (List.mem_of_getElem? (i := 6) rfl))) (by decide) (backOf (W := 0) (rm1 l Z a0 hw [] v25 v38 h0 n0 (by omega)  (by have a_0 := c_and k0 (2 : Int32) (by decide); have a_1 := c_mask l0 (3 : Int32) 2 (by decide) (by decide); have a_2 := c_iadd (1073741818 : Int32) (l0 &&& (3 : Int32)); rw [hv_v25] at a_2; have a_3 := c_mask k0 (1 : Int32) 1 (by decide) (by decide); have a_4 := c_maskL n0_ (15 : Int64) 4 (by decide) (by decide); have a_5 := c_lsub (2147483639 : Int64) (n0_ &&& (15 : Int64)); rw [hv_v38] at a_5; have a_6 := rng32 (k0 &&& (1 : Int32)); have a_7 := rng32 (k0 &&& (2 : Int32)); have a_8 := rng32 (l0 &&& (3 : Int32)); have a_9 := rng64 (n0_ &&& (15 : Int64)); have a_10 := rng32 k0; have a_11 := rng32 l0; have a_12 := rng64 n0_; have a_13 := rng32 v25; have a_14 := rng64 v38; have c_0 := hc3_1; have c_1 := hc26_26; (simp only [Int32.lt_iff_toInt_lt, Int64.lt_iff_toInt_lt, ← Int32.toInt_inj, ← Int64.toInt_inj, Int32.reduceToInt, Int64.reduceToInt] at a_0 a_1 a_2 a_3 a_4 a_5 a_6 a_7 a_8 a_9 a_10 a_11 a_12 a_13 a_14 c_0 c_1 ⊢) <;> omega) (by have a_0 := c_and k0 (2 : Int32) (by decide); have a_1 := c_mask l0 (3 : Int32) 2 (by decide) (by decide); have a_2 := c_iadd (1073741818 : Int32) (l0 &&& (3 : Int32)); rw [hv_v25] at a_2; have a_3 := c_mask k0 (1 : Int32) 1 (by decide) (by decide); have a_4 := c_maskL n0_ (15 : Int64) 4 (by decide) (by decide); have a_5 := c_lsub (2147483639 : Int64) (n0_ &&& (15 : Int64)); rw [hv_v38] at a_5; have a_6 := rng32 (k0 &&& (1 : Int32)); have a_7 := rng32 (k0 &&& (2 : Int32)); have a_8 := rng32 (l0 &&& (3 : Int32)); have a_9 := rng64 (n0_ &&& (15 : Int64)); have a_10 := rng32 k0; have a_11 := rng32 l0; have a_12 := rng64 n0_; have a_13 := rng32 v25; have a_14 := rng64 v38; have c_0 := hc3_1; have c_1 := hc26_26; (simp only [Int32.lt_iff_toInt_lt, Int64.lt_iff_toInt_lt, ← Int32.toInt_inj, ← Int64.toInt_inj, Int32.reduceToInt, Int64.reduceToInt] at a_0 a_1 a_2 a_3 a_4 a_5 a_6 a_7 a_8 a_9 a_10 a_11 a_12 a_13 a_14 c_0 c_1 ⊢) <;> omega)) hZ (hw _ (List.mem_of_getElem? (i := 6) rfl)) (hw _ (List.mem_of_getElem? (i := 5) rfl)) (by decide) (by decide)) (g := (mkF m 54 #[.val (.int l0), .val (.long n0_), .second, .val (.int k0), .val (.int v25), .val (.long v38), .second, .unset, .unset, .unset] [(.long v38), (.int v25)])) rfl (by rw [hml]; rfl) (argsL := [(.int v25), (.long v38)]) (rest := []) (lenOf pd_1 rfl) rfl (by show 2 * 0 + _ ≤ _; exact Nat.le_of_eq rfl) (hb hby at_54) (fun _ _ => ⟨rfl, e0, (by decide : 0 + 0 ≤ _), (by decide : 0 + 0 ≤ _)⟩)
      dsimp only [Pt.U, Pt.locs, Pt.cells, Pt.slots] at X39 l39 y39 z39 st39 hQ39
      subst l39 y39 z39
      obtain ⟨r40, rfl, Nq39, hs39, P39_0⟩ := hQ39
      have N39 := Fr.app N0 Nq39
      refine Comes.st st39 ?_
      show Comes p e below _ (T39.setTop (mkF m 57 #[.val (.int l0), .val (.long n0_), .second, .val (.int k0), .val (.int v25), .val (.long v38), .second, .unset, .unset, .unset] [(.int r40)]))
      refine Comes.st (fun t k => XS.istore X39.here hx rfl (hb hby at_57) rfl (l' := #[.val (.int l0), .val (.long n0_), .second, .val (.int k0), .val (.int v25), .val (.long v38), .second, .val (.int r40), .unset, .unset]) rfl (XS.iload X39.here hx rfl (hb hby at_59) rfl (X39.ldcInt hx hown (mvT hZ (hw _ (List.mem_of_getElem? (i := 16) rfl))) (g := (mkF m 61 #[.val (.int l0), .val (.long n0_), .second, .val (.int k0), .val (.int v25), .val (.long v38), .second, .val (.int r40), .unset, .unset] [(.int v25)])) rfl (hb hby at_61) _ k))) ?_
      show Comes p e below _ (T39.setTop (mkF m 63 #[.val (.int l0), .val (.long n0_), .second, .val (.int k0), .val (.int v25), .val (.long v38), .second, .val (.int r40), .unset, .unset] [(.int (1073741819 : Int32)), (.int v25)]))
      by_cases hc63_41 : (1073741819 : Int32) < v25
      · refine Comes.st (fun t k => XS.icmpNo X39.here hx rfl (hb hby at_63) rfl (tlt hc63_41).2.2.2 (X39.ldcInt hx hown (mvT hZ (hw _ (List.mem_of_getElem? (i := 19) rfl))) (g := (mkF m 66 #[.val (.int l0), .val (.long n0_), .second, .val (.int k0), .val (.int v25), .val (.long v38), .second, .val (.int r40), .unset, .unset] [])) rfl (hb hby at_66) _ (XS.istore X39.here hx rfl (hb hby at_68) rfl (l' := #[.val (.int l0), .val (.long n0_), .second, .val (.int k0), .val (.int v25), .val (.long v38), .second, .val (.int r40), .val (.int (2147483639 : Int32)), .unset]) rfl (XS.goto X39.here hx rfl (pc0 := 70) (pc' := 101) rfl (hb hby at_70) (by decide) (by decide) (XS.iload X39.here hx rfl (hb hby at_101) rfl (XS.iload X39.here hx rfl (hb hby at_103) rfl k)))))) ?_
        show Comes p e below _ (T39.setTop (mkF m 105 #[.val (.int l0), .val (.long n0_), .second, .val (.int k0), .val (.int v25), .val (.long v38), .second, .val (.int r40), .val (.int (2147483639 : Int32)), .unset] [(.int (2147483639 : Int32)), (.int r40)]))
        have hc105_42 : r40 = (2147483639 : Int32) := by have a_0 := c_and k0 (2 : Int32) (by decide); have a_1 := c_mask l0 (3 : Int32) 2 (by decide) (by decide); have a_2 := c_iadd (1073741818 : Int32) (l0 &&& (3 : Int32)); rw [hv_v25] at a_2; have a_3 := c_mask k0 (1 : Int32) 1 (by decide) (by decide); have a_4 := c_maskL n0_ (15 : Int64) 4 (by decide) (by decide); have a_5 := c_lsub (2147483639 : Int64) (n0_ &&& (15 : Int64)); rw [hv_v38] at a_5; have a_6 := rng32 (k0 &&& (1 : Int32)); have a_7 := rng32 (k0 &&& (2 : Int32)); have a_8 := rng32 (l0 &&& (3 : Int32)); have a_9 := rng64 (n0_ &&& (15 : Int64)); have a_10 := rng32 k0; have a_11 := rng32 l0; have a_12 := rng64 n0_; have a_13 := rng32 v25; have a_14 := rng64 v38; have c_0 := hc3_1; have c_1 := hc26_26; have c_2 := hc63_41; have c_3 := P39_0; (simp only [Int32.lt_iff_toInt_lt, Int64.lt_iff_toInt_lt, ← Int32.toInt_inj, ← Int64.toInt_inj, Int32.reduceToInt, Int64.reduceToInt] at a_0 a_1 a_2 a_3 a_4 a_5 a_6 a_7 a_8 a_9 a_10 a_11 a_12 a_13 a_14 c_0 c_1 c_2 c_3 ⊢) <;> omega
        refine Comes.st (fun t k => XS.icmpNo X39.here hx rfl (hb hby at_105) rfl (teq hc105_42).2 (XS.iconst X39.here hx rfl (hb hby at_108) (XS.goto X39.here hx rfl (pc0 := 109) (pc' := 113) rfl (hb hby at_109) (by decide) (by decide) k))) ?_
        show Comes p e below _ (T39.setTop (mkF m 113 #[.val (.int l0), .val (.long n0_), .second, .val (.int k0), .val (.int v25), .val (.long v38), .second, .val (.int r40), .val (.int (2147483639 : Int32)), .unset] [(.int (1 : Int32))]))
        exact Comes.retN X39 hx (t := .boolean) Bd.returns (by simp) hlk (hb hby at_113) hs39 ⟨rfl, N39⟩ (by decide) (by decide)
      · refine Comes.st (fun t k => XS.icmpYes X39.here hx rfl (pc0 := 63) (pc' := 73) rfl (hb hby at_63) rfl (flt hc63_41).2.2.2 (by decide) (by decide) (XS.iload X39.here hx rfl (hb hby at_73) rfl (XS.iload X39.here hx rfl (hb hby at_75) rfl (XS.iadd X39.here hx rfl (hb hby at_77) rfl k)))) ?_
        show Comes p e below _ (T39.setTop (mkF m 78 #[.val (.int l0), .val (.long n0_), .second, .val (.int k0), .val (.int v25), .val (.long v38), .second, .val (.int r40), .unset, .unset] [(.int (v25 + v25))]))
        generalize hv_v43 : (v25 + v25) = v43
        show Comes p e below _ (T39.setTop (mkF m 78 #[.val (.int l0), .val (.long n0_), .second, .val (.int k0), .val (.int v25), .val (.long v38), .second, .val (.int r40), .unset, .unset] [(.int v43)]))
        refine Comes.st (fun t k => XS.istore X39.here hx rfl (hb hby at_78) rfl (l' := #[.val (.int l0), .val (.long n0_), .second, .val (.int k0), .val (.int v25), .val (.long v38), .second, .val (.int r40), .unset, .val (.int v43)]) rfl (XS.lload X39.here hx rfl (hb hby at_80) rfl (XS.iload X39.here hx rfl (hb hby at_82) rfl (XS.i2l X39.here hx rfl (hb hby at_84) rfl (XS.lcmp X39.here hx rfl (hb hby at_85) rfl k))))) ?_
        show Comes p e below _ (T39.setTop (mkF m 86 #[.val (.int l0), .val (.long n0_), .second, .val (.int k0), .val (.int v25), .val (.long v38), .second, .val (.int r40), .unset, .val (.int v43)] [(.int (lcmpW v38 (v43.toInt64)))]))
        by_cases hc86_44 : (v43.toInt64) < v38
        · refine Comes.st (fun t k => XS.ifNo X39.here hx rfl (hb hby at_86) rfl ((if0 _ _).trans (tlt ((lw_gt _ _).mpr hc86_44)).2.2.2) (XS.lload X39.here hx rfl (hb hby at_89) rfl (XS.l2i X39.here hx rfl (hb hby at_91) rfl k))) ?_
          show Comes p e below _ (T39.setTop (mkF m 92 #[.val (.int l0), .val (.long n0_), .second, .val (.int k0), .val (.int v25), .val (.long v38), .second, .val (.int r40), .unset, .val (.int v43)] [(.int (v38.toInt32))]))
          generalize hv_v45 : (v38.toInt32) = v45
          show Comes p e below _ (T39.setTop (mkF m 92 #[.val (.int l0), .val (.long n0_), .second, .val (.int k0), .val (.int v25), .val (.long v38), .second, .val (.int r40), .unset, .val (.int v43)] [(.int v45)]))
          refine Comes.st (fun t k => XS.istore X39.here hx rfl (hb hby at_92) rfl (l' := #[.val (.int l0), .val (.long n0_), .second, .val (.int k0), .val (.int v25), .val (.long v38), .second, .val (.int r40), .val (.int v45), .val (.int v43)]) rfl (XS.goto X39.here hx rfl (pc0 := 94) (pc' := 101) rfl (hb hby at_94) (by decide) (by decide) (XS.iload X39.here hx rfl (hb hby at_101) rfl (XS.iload X39.here hx rfl (hb hby at_103) rfl k)))) ?_
          show Comes p e below _ (T39.setTop (mkF m 105 #[.val (.int l0), .val (.long n0_), .second, .val (.int k0), .val (.int v25), .val (.long v38), .second, .val (.int r40), .val (.int v45), .val (.int v43)] [(.int v45), (.int r40)]))
          have hc105_46 : r40 = v45 := by have a_0 := c_and k0 (2 : Int32) (by decide); have a_1 := c_mask l0 (3 : Int32) 2 (by decide) (by decide); have a_2 := c_iadd (1073741818 : Int32) (l0 &&& (3 : Int32)); rw [hv_v25] at a_2; have a_3 := c_mask k0 (1 : Int32) 1 (by decide) (by decide); have a_4 := c_maskL n0_ (15 : Int64) 4 (by decide) (by decide); have a_5 := c_lsub (2147483639 : Int64) (n0_ &&& (15 : Int64)); rw [hv_v38] at a_5; have a_6 := c_iadd v25 v25; rw [hv_v43] at a_6; have a_7 := c_i2l v43; have a_8 := c_l2i v38; rw [hv_v45] at a_8; have a_9 := rng32 (k0 &&& (1 : Int32)); have a_10 := rng32 (k0 &&& (2 : Int32)); have a_11 := rng32 (l0 &&& (3 : Int32)); have a_12 := rng64 (n0_ &&& (15 : Int64)); have a_13 := rng64 (v43.toInt64); have a_14 := rng32 k0; have a_15 := rng32 l0; have a_16 := rng64 n0_; have a_17 := rng32 v25; have a_18 := rng64 v38; have a_19 := rng32 v43; have a_20 := rng32 v45; have c_0 := hc3_1; have c_1 := hc26_26; have c_2 := hc63_41; have c_3 := hc86_44; have c_4 := P39_0; (simp only [Int32.lt_iff_toInt_lt, Int64.lt_iff_toInt_lt, ← Int32.toInt_inj, ← Int64.toInt_inj, Int32.reduceToInt, Int64.reduceToInt] at a_0 a_1 a_2 a_3 a_4 a_5 a_6 a_7 a_8 a_9 a_10 a_11 a_12 a_13 a_14 a_15 a_16 a_17 a_18 a_19 a_20 c_0 c_1 c_2 c_3 c_4 ⊢) <;> omega
          refine Comes.st (fun t k => XS.icmpNo X39.here hx rfl (hb hby at_105) rfl (teq hc105_46).2 (XS.iconst X39.here hx rfl (hb hby at_108) (XS.goto X39.here hx rfl (pc0 := 109) (pc' := 113) rfl (hb hby at_109) (by decide) (by decide) k))) ?_
          show Comes p e below _ (T39.setTop (mkF m 113 #[.val (.int l0), .val (.long n0_), .second, .val (.int k0), .val (.int v25), .val (.long v38), .second, .val (.int r40), .val (.int v45), .val (.int v43)] [(.int (1 : Int32))]))
          exact Comes.retN X39 hx (t := .boolean) Bd.returns (by simp) hlk (hb hby at_113) hs39 ⟨rfl, N39⟩ (by decide) (by decide)
        · refine Comes.st (fun t k => XS.ifYes X39.here hx rfl (pc0 := 86) (pc' := 97) rfl (hb hby at_86) rfl ((if0 _ _).trans (flt (fun q => hc86_44 ((lw_gt _ _).mp q))).2.2.2) (by decide) (by decide) (XS.iload X39.here hx rfl (hb hby at_97) rfl (XS.istore X39.here hx rfl (hb hby at_99) rfl (l' := #[.val (.int l0), .val (.long n0_), .second, .val (.int k0), .val (.int v25), .val (.long v38), .second, .val (.int r40), .val (.int v43), .val (.int v43)]) rfl (XS.iload X39.here hx rfl (hb hby at_101) rfl (XS.iload X39.here hx rfl (hb hby at_103) rfl k))))) ?_
          show Comes p e below _ (T39.setTop (mkF m 105 #[.val (.int l0), .val (.long n0_), .second, .val (.int k0), .val (.int v25), .val (.long v38), .second, .val (.int r40), .val (.int v43), .val (.int v43)] [(.int v43), (.int r40)]))
          have hc105_47 : r40 = v43 := by have a_0 := c_and k0 (2 : Int32) (by decide); have a_1 := c_mask l0 (3 : Int32) 2 (by decide) (by decide); have a_2 := c_iadd (1073741818 : Int32) (l0 &&& (3 : Int32)); rw [hv_v25] at a_2; have a_3 := c_mask k0 (1 : Int32) 1 (by decide) (by decide); have a_4 := c_maskL n0_ (15 : Int64) 4 (by decide) (by decide); have a_5 := c_lsub (2147483639 : Int64) (n0_ &&& (15 : Int64)); rw [hv_v38] at a_5; have a_6 := c_iadd v25 v25; rw [hv_v43] at a_6; have a_7 := c_i2l v43; have a_8 := rng32 (k0 &&& (1 : Int32)); have a_9 := rng32 (k0 &&& (2 : Int32)); have a_10 := rng32 (l0 &&& (3 : Int32)); have a_11 := rng64 (n0_ &&& (15 : Int64)); have a_12 := rng64 (v43.toInt64); have a_13 := rng32 k0; have a_14 := rng32 l0; have a_15 := rng64 n0_; have a_16 := rng32 v25; have a_17 := rng64 v38; have a_18 := rng32 v43; have c_0 := hc3_1; have c_1 := hc26_26; have c_2 := hc63_41; have c_3 := hc86_44; have c_4 := P39_0; (simp only [Int32.lt_iff_toInt_lt, Int64.lt_iff_toInt_lt, ← Int32.toInt_inj, ← Int64.toInt_inj, Int32.reduceToInt, Int64.reduceToInt] at a_0 a_1 a_2 a_3 a_4 a_5 a_6 a_7 a_8 a_9 a_10 a_11 a_12 a_13 a_14 a_15 a_16 a_17 a_18 c_0 c_1 c_2 c_3 c_4 ⊢) <;> omega
          refine Comes.st (fun t k => XS.icmpNo X39.here hx rfl (hb hby at_105) rfl (teq hc105_47).2 (XS.iconst X39.here hx rfl (hb hby at_108) (XS.goto X39.here hx rfl (pc0 := 109) (pc' := 113) rfl (hb hby at_109) (by decide) (by decide) k))) ?_
          show Comes p e below _ (T39.setTop (mkF m 113 #[.val (.int l0), .val (.long n0_), .second, .val (.int k0), .val (.int v25), .val (.long v38), .second, .val (.int r40), .val (.int v43), .val (.int v43)] [(.int (1 : Int32))]))
          exact Comes.retN X39 hx (t := .boolean) Bd.returns (by simp) hlk (hb hby at_113) hs39 ⟨rfl, N39⟩ (by decide) (by decide)
set_option maxRecDepth 65536 in
set_option maxHeartbeats 40000000 in
theorem comes_1 {Post : Tables → Env → Array Value → State → Outcome → State → Prop} (hpost : ∀ tb e args s v u, (limb_1_1.after args s (.returned v) u = true ∧ limb_1_2.after args s (.returned v) u = true ∧ True) → FrameEnd s (.returned v) u (Jvm.fieldLocs frame_1_writes args s ++ Jvm.arrayLocs frame_1_arrays args s ++ Jvm.staticLocs frame_1_statics s) 0 0 → Post tb e args s (.returned v) u) :
    ArmFor flags0 classFile x code maxLocals ret World_1 tables_1 room_1 Calls_1 rest_1 Pre_1 Post := by
  intro l hfl _ _ p e ha hc hk s m args below hf hA hF happ hP
  obtain ⟨hcalls, hrest, hpre⟩ := hP
  obtain ⟨-, -, -, hnamed, -, -, -, hat⟩ := (Spec.applies_iff hf).mp happ
  obtain ⟨hg, hn⟩ := and_e (Cond.before_iff.mp (show (Jvm.Cond.and given_1 narrow_1).before args s = true from hpre))
  obtain ⟨c0, d0⟩ := and_e hg
  obtain ⟨c1, d1⟩ := and_e d0
  obtain ⟨c2, d2⟩ := and_e d1
  obtain ⟨w0, w1, w2, rfl⟩ : ∃ w0 w1 w2 : Value, args = #[w0, w1, w2] := by
    have hs : args.size = 3 := by simpa [Cond.value, given_1] using c0
    obtain ⟨L⟩ := args
    match L, hs with
    | [w0, w1, w2], _ => exact ⟨w0, w1, w2, rfl⟩
  have hw := fun d (hd : d ∈ tables_1) => atoms_spec (ws := Jvm.Cond.code x code maxLocals ret :: tables_1) hat d (List.mem_cons_of_mem _ hd)
  have hfit : Fit s := fun {y c} hc i hi => by
    obtain ⟨ha, rfl⟩ := Array.getElem?_eq_some_iff.mp hc
    have q := List.all_eq_true.mp ((Array.all_eq_true_iff_forall_mem.mp hF) _ (Array.getElem_mem ha)) i (List.mem_range.mpr hi)
    simpa [Array.getElem?_eq_getElem hi] using q
  obtain ⟨i0, ei0⟩ := is_v c1
  obtain rfl : w0 = (.int i0) := Option.some.inj ei0
  obtain ⟨i1, ei1⟩ := isL_v c2
  obtain rfl : w1 = (.long i1) := Option.some.inj ei1
  obtain ⟨i2, ei2⟩ := is_v d2
  obtain rfl : w2 = (.int i2) := Option.some.inj ei2
  obtain ⟨n, o, h1, h2, h3, _, L, rfl, ⟨rfl, N⟩, hq⟩ := rm0 l s _ hw tables_1 i0 i1 i2 s.heap s.heap.size (Nat.le_refl _)  p e ha hc hk s m _ below hf ((Spec.applies_iff_loose hf).mp happ).1 ⟨rfl, State.Warmed39.refl s, rfl⟩ trivial
  refine ⟨n, _, h1, h2, h3, hpost _ _ _ _ _ _ ⟨Cond.after_iff.mpr rfl, Cond.after_iff.mpr (eq_i res_at (Term.int_eval (1)) rfl), trivial⟩ ⟨hq.1, hq.2.1, (hq.2.2.sift fun y hy => Or.inr (N y hy)).mono (by decide) (by decide)⟩⟩
theorem main_1_1 : Claimed_1_1 := comes_1 fun _ _ _ _ _ _ h hF => ⟨h.1, hF⟩
theorem main_1_2 : Claimed_1_2 := comes_1 fun _ _ _ _ _ _ h hF => ⟨h.2.1, hF⟩
end Jvm.Pilot.@@N@@
namespace Jvm.Pilot.@@N@@
open Jvm Jvm.ClassFile Sem Op Lib Jvm.Free Jvm.Stand Jvm.Pilot.@@N@@.Jvm.D
/-! MADE BY PROGRAM (witnessworld.py) out of the Statement's table words and the real class files: 10 classes; the members and pool entries that the words name. The judged class is class 1, her method 1. -/
namespace start1
open Jvm.ClassFile
def u (s : String) : CpInfo := .utf8 (stringToUtf16 s)
/-- a pool by its gaps: so many unusable entries, then the entry; so many at the end -/
def gap : Nat → List CpInfo → List CpInfo
  | 0, r => r
  | n + 1, r => .unusable :: gap n r
def poolList (es : List (Nat × CpInfo)) (last : Nat) : List CpInfo := es.foldr (fun e r => gap e.1 (e.2 :: r)) (gap last [])
def pool (es : List (Nat × CpInfo)) (last : Nat) : Array CpInfo := ⟨poolList es last⟩
def fileOf (pool : Array CpInfo) (this : Nat) (attrs : Array Attribute := #[]) (ms : Array MethodInfo := #[]) (fl : Nat := 33) (sup : Nat := 0) (ifs : Array Nat := #[]) (fds : Array FieldInfo := #[]) : ClassFile where
  minorVersion := 0
  majorVersion := 65
  constantPool := pool
  accessFlags := fl
  thisClass := this
  superClass := sup
  interfaces := ifs
  fields := fds
  methods := ms
  attributes := attrs
def plain (name : String) (sup : Option ClassId) : Class where
  name := name
  kind := .ordinary
  loader := none
  accessFlags := 33
  super := sup
  interfaces := #[]
  cf := none
  fields := #[]
  methods := #[]
  instanceTypes := #[]
  staticTypes := #[]
  resolved := #[]
  callSites := []
  init := .initialized
  statics := none
  mirror := none

def pool0 : Array CpInfo := pool [(5, u "<init>"), (0, u "()V"), (1, .class_ 10), (1, u "java/lang/Object")] 113

def k0m0 : Method := { name := "<init>", desc := "()V", sig := { parameters := [], returnType := none }, accessFlags := 1, code := none }
/-- java/lang/Object -/
def k0 : Class := { plain "java/lang/Object" none with
  accessFlags := 33
  interfaces := #[]
  cf := some (fileOf pool0 8 #[] #[{ accessFlags := 1, nameIndex := 5, descriptorIndex := 6, attributes := #[] }] 33 0 #[] #[])
  fields := #[]
  methods := #[k0m0]
  instanceTypes := #[]
  staticTypes := #[]
  resolved := Array.replicate 124 none
  statics := none }

def pool1 : Array CpInfo := pool [(2, .class_ 4), (1, u "java/lang/Object"), (0, u "<init>"), (0, u "()V"), (0, .integer 1073741818), (0, .integer 2147483647), (0, .long 2147483639), (1, .long 15), (1, .long 2147483640), (1, .methodref 16 17), (0, .class_ 18), (0, .nameAndType 19 20), (0, u "com/example/hopwise/hopwise/ArrayLengths"), (0, u "grown"), (0, u "(IJ)I"), (0, .integer 1073741819), (0, .integer 2147483639), (0, .class_ 24), (0, u "com/example/hopwise/hopwise/ArrayLengthsGrownPinLaw"), (2, u "law"), (0, u "(IJI)Z")] 3

def k1m0 : Method := { name := "<init>", desc := "()V", sig := { parameters := [], returnType := none }, accessFlags := 1, code := none }
def k1c1 : Code := { maxStack := 6, maxLocals := 10, code := code, exceptionTable := #[], attributes := #[] }
def k1m1 : Method := { name := "law", desc := "(IJI)Z", sig := { parameters := [.int, .long, .int], returnType := some .boolean }, accessFlags := 9, code := some k1c1 }
/-- com/example/hopwise/hopwise/ArrayLengthsGrownPinLaw -/
def k1 : Class := { plain "com/example/hopwise/hopwise/ArrayLengthsGrownPinLaw" (some 0) with
  accessFlags := 49
  interfaces := #[]
  cf := some (fileOf pool1 23 #[] #[{ accessFlags := 1, nameIndex := 5, descriptorIndex := 6, attributes := #[] }, { accessFlags := 9, nameIndex := 27, descriptorIndex := 28, attributes := #[] }] 49 2 #[] #[])
  fields := #[]
  methods := #[k1m0, k1m1]
  instanceTypes := #[]
  staticTypes := #[]
  resolved := Array.replicate 32 none
  statics := none }

def pool2 : Array CpInfo := pool [(4, .class_ 6), (1, u "java/lang/Object"), (0, u "<init>"), (0, u "()V"), (0, .class_ 10), (0, u "com/example/hopwise/hopwise/ArrayLengths"), (0, .long 2147483639), (10, .long 2), (1, .methodref 25 26), (0, .class_ 27), (0, .nameAndType 28 29), (0, u "java/lang/Math"), (0, u "max"), (0, u "(JJ)J"), (0, .methodref 25 31), (0, .nameAndType 32 29), (0, u "min"), (0, u "MAX"), (0, u "I"), (4, u "grown"), (0, u "(IJ)I")] 18

def k2m0 : Method := { name := "<init>", desc := "()V", sig := { parameters := [], returnType := none }, accessFlags := 2, code := none }
def k2c1 : Code := { maxStack := 8, maxLocals := 3, code := prog_1_method_2_code, exceptionTable := #[], attributes := #[] }
def k2m1 : Method := { name := "grown", desc := "(IJ)I", sig := { parameters := [.int, .long], returnType := some .int }, accessFlags := 8, code := some k2c1 }
/-- com/example/hopwise/hopwise/ArrayLengths -/
def k2 : Class := { plain "com/example/hopwise/hopwise/ArrayLengths" (some 0) with
  accessFlags := 48
  interfaces := #[]
  cf := some (fileOf pool2 9 #[] #[{ accessFlags := 2, nameIndex := 7, descriptorIndex := 8, attributes := #[] }, { accessFlags := 8, nameIndex := 39, descriptorIndex := 40, attributes := #[] }] 48 4 #[] #[{ accessFlags := 24, nameIndex := 33, descriptorIndex := 34, attributes := #[] }])
  fields := #[{ name := "MAX", type := .int, accessFlags := 24, slot := 0, constantValue := 0 }]
  methods := #[k2m0, k2m1]
  instanceTypes := #[]
  staticTypes := #[.int]
  resolved := Array.replicate 59 none
  statics := none }

def pool3 : Array CpInfo := pool [(1, .class_ 2), (0, u "java/lang/Math"), (1, .class_ 6), (1, u "java/lang/Object"), (0, u "<init>"), (0, u "()V"), (89, .class_ 100), (1, u "java/lang/Math$RandomNumberGeneratorHolder"), (20, u "(JJ)J"), (50, u "negativeZeroFloatBits"), (0, u "J"), (2, u "negativeZeroDoubleBits"), (21, u "max"), (2, u "min"), (43, u "$assertionsDisabled"), (0, u "Z"), (91, u "twoToTheDoubleScaleDown"), (0, u "D"), (4, u "twoToTheDoubleScaleUp"), (9, u "E"), (3, u "PI"), (2, u "TAU"), (2, u "DEGREES_TO_RADIANS"), (0, u "RADIANS_TO_DEGREES")] 94

def k3m0 : Method := { name := "<init>", desc := "()V", sig := { parameters := [], returnType := none }, accessFlags := 2, code := none }
def k3c1 : Code := { maxStack := 4, maxLocals := 4, code := jdk_29_method_66_code, exceptionTable := #[], attributes := #[] }
def k3m1 : Method := { name := "max", desc := "(JJ)J", sig := { parameters := [.long, .long], returnType := some .long }, accessFlags := 9, code := some k3c1 }
def k3c2 : Code := { maxStack := 4, maxLocals := 4, code := jdk_29_method_70_code, exceptionTable := #[], attributes := #[] }
def k3m2 : Method := { name := "min", desc := "(JJ)J", sig := { parameters := [.long, .long], returnType := some .long }, accessFlags := 9, code := some k3c2 }
/-- java/lang/Math -/
def k3 : Class := { plain "java/lang/Math" (some 0) with
  accessFlags := 49
  interfaces := #[]
  cf := some (fileOf pool3 1 #[.nestMembers #[98]] #[{ accessFlags := 2, nameIndex := 7, descriptorIndex := 8, attributes := #[] }, { accessFlags := 9, nameIndex := 198, descriptorIndex := 121, attributes := #[] }, { accessFlags := 9, nameIndex := 201, descriptorIndex := 121, attributes := #[] }] 49 4 #[] #[{ accessFlags := 25, nameIndex := 354, descriptorIndex := 339, attributes := #[] }, { accessFlags := 25, nameIndex := 358, descriptorIndex := 339, attributes := #[] }, { accessFlags := 25, nameIndex := 361, descriptorIndex := 339, attributes := #[] }, { accessFlags := 26, nameIndex := 364, descriptorIndex := 339, attributes := #[] }, { accessFlags := 26, nameIndex := 365, descriptorIndex := 339, attributes := #[] }, { accessFlags := 26, nameIndex := 172, descriptorIndex := 173, attributes := #[] }, { accessFlags := 26, nameIndex := 176, descriptorIndex := 173, attributes := #[] }, { accessFlags := 8, nameIndex := 344, descriptorIndex := 339, attributes := #[] }, { accessFlags := 8, nameIndex := 338, descriptorIndex := 339, attributes := #[] }, { accessFlags := 4120, nameIndex := 245, descriptorIndex := 246, attributes := #[] }])
  fields := #[{ name := "E", type := .double, accessFlags := 25, slot := 0, constantValue := 0 }, { name := "PI", type := .double, accessFlags := 25, slot := 1, constantValue := 0 }, { name := "TAU", type := .double, accessFlags := 25, slot := 2, constantValue := 0 }, { name := "DEGREES_TO_RADIANS", type := .double, accessFlags := 26, slot := 3, constantValue := 0 }, { name := "RADIANS_TO_DEGREES", type := .double, accessFlags := 26, slot := 4, constantValue := 0 }, { name := "negativeZeroFloatBits", type := .long, accessFlags := 26, slot := 5, constantValue := 0 }, { name := "negativeZeroDoubleBits", type := .long, accessFlags := 26, slot := 6, constantValue := 0 }, { name := "twoToTheDoubleScaleUp", type := .double, accessFlags := 8, slot := 7, constantValue := 0 }, { name := "twoToTheDoubleScaleDown", type := .double, accessFlags := 8, slot := 8, constantValue := 0 }, { name := "$assertionsDisabled", type := .boolean, accessFlags := 4120, slot := 9, constantValue := 0 }]
  methods := #[k3m0, k3m1, k3m2]
  instanceTypes := #[]
  staticTypes := #[.double, .double, .double, .double, .double, .long, .long, .double, .double, .boolean]
  resolved := Array.replicate 460 none
  statics := none }

def pool4 : Array CpInfo := pool [(1, u "java/lang/Cloneable"), (0, .class_ 1), (0, u "java/lang/Object"), (0, .class_ 3)] 3

/-- java/lang/Cloneable -/
def k4 : Class := { plain "java/lang/Cloneable" (some 0) with
  accessFlags := 1537
  interfaces := #[]
  cf := some (fileOf pool4 2 #[] #[] 1537 4 #[] #[])
  fields := #[]
  methods := #[]
  instanceTypes := #[]
  staticTypes := #[]
  resolved := Array.replicate 8 none
  statics := none }

def pool5 : Array CpInfo := pool [(1, u "java/io/Serializable"), (0, .class_ 1), (0, u "java/lang/Object"), (0, .class_ 3)] 3

/-- java/io/Serializable -/
def k5 : Class := { plain "java/io/Serializable" (some 0) with
  accessFlags := 1537
  interfaces := #[]
  cf := some (fileOf pool5 2 #[] #[] 1537 4 #[] #[])
  fields := #[]
  methods := #[]
  instanceTypes := #[]
  staticTypes := #[]
  resolved := Array.replicate 8 none
  statics := none }

/-- the primitive byte -/
def k6 : Class := { plain "byte" none with kind := .primitive 'B', accessFlags := 0x411 }
/-- [B -/
def k7 : Class := { plain "[B" (some 0) with kind := .array 6 .byte, interfaces := #[4, 5], accessFlags := 1041 }

/-- the primitive int -/
def k8 : Class := { plain "int" none with kind := .primitive 'I', accessFlags := 0x411 }
/-- [I -/
def k9 : Class := { plain "[I" (some 0) with kind := .array 8 .int, interfaces := #[4, 5], accessFlags := 1041 }

def heap : Heap := #[]
def classes : Array Class := #[k0, k1, k2, k3, k4, k5, k6, k7, k8, k9]
def interned : List (Array UInt16 × Addr) := []
def slotsUsed : Nat := 0
def theMethod : MethodId := ⟨1, 1⟩
def args0 : Array Value := #[.int 5, .long 7, .int 3]
def aboutOver (below : List Frame) : State where
  vm := { classes := classes, interned := interned.toArray }
  heap := heap
  slotsUsed := slotsUsed
  threads := #[{ frames := .invoking theMethod args0 :: below }]
def below0 : List Frame := [.native { method := ⟨0, 0⟩, args := #[] }]
def about1 : State := aboutOver below0
def p0 : Program := .bare "" "" ""
def e0 : Env := launch0.env 0 0 0
theorem w_frames : about1.frames = Frame.invoking theMethod args0 :: below0 := rfl
set_option maxRecDepth 65536 in
theorem w_args : argsFit about1.vm theMethod args0 = true := by decide +kernel
set_option maxRecDepth 65536 in
theorem w_heap : heapFits about1 = true := by decide +kernel
set_option maxRecDepth 65536 in
theorem w_runnable : about1.curStatus? = some .runnable := by decide +kernel
set_option maxRecDepth 65536 in
theorem w_alone : about1.alone = true := by decide +kernel
set_option maxRecDepth 65536 in
theorem w_named : about1.methodNamed? x = some theMethod := by decide +kernel
set_option maxRecDepth 65536 in
theorem w_hears : about1.hears theMethod below0 = true := by decide +kernel
set_option maxRecDepth 65536 in
theorem w_ripe : about1.ripe theMethod args0 below0 = true := by decide +kernel
theorem w_running : about1.status = .running := rfl
set_option maxRecDepth 65536 in
theorem w_room : about1.hasRoom e0.platform room_1 = true :=
  launch0.hasRoom_least _ room_1 (by decide +kernel) (by decide +kernel) (by decide +kernel) (by decide +kernel) (by decide +kernel) (by decide +kernel)
theorem allAtoms_all (ts : List Jvm.Cond) (a : Array Jvm.Value) (st : Jvm.State) : (allAtoms ts).before a st = ts.all (fun c => c.before a st) := by
  induction ts with
  | nil => rfl
  | cons c t ih =>
    show (Jvm.Cond.and c (allAtoms t)).before a st = _
    rw [Jvm.Cond.before_and, ih, List.all_cons]
def words1 : List Jvm.Cond := Jvm.Cond.code x code maxLocals ret :: tables_1
/-- a 'code' word, met by the world's own term for the bytes: nothing is compared byte by byte -/
theorem code_word {y : MethodName} {bytes : ByteArray} {mx : Nat} {rt : Option FieldType} {a : Array Value} {s : State} {m : MethodId} {meth : Method} {c : Code} (h1 : s.methodNamed? y = some m) (h2 : s.vm.method? m = some meth) (h3 : meth.code = some c) (h4 : c.code = bytes)
    (h5 : (c.maxLocals == mx && c.exceptionTable.isEmpty && decide (c.maxStack ≤ mostOperands) && decide (meth.sig.returnType = rt) && !meth.locks && decide (parseMethodDescriptor y.desc = some meth.sig)) = true) : (Jvm.Cond.code y bytes mx rt).before a s = true := by
  simp only [Bool.and_eq_true, beq_iff_eq, Bool.not_eq_true', decide_eq_true_eq] at h5
  obtain ⟨⟨⟨⟨⟨g1, g2⟩, g3⟩, g4⟩, g5⟩, g6⟩ := h5
  simp [Cond.before, Cond.holds, Cond.value, h1, h2, h3, h4, g1, g2, g3, g4, g5, g6]
def isCode : Jvm.Cond → Bool
  | .code _ _ _ _ => true
  | _ => false
theorem all_split {L : List Jvm.Cond} {P : Jvm.Cond → Bool} (h1 : L.all (fun c => isCode c || P c) = true) (h2 : ∀ c ∈ L.filter isCode, P c = true) : L.all P = true := by
  refine List.all_eq_true.mpr fun c hc => ?_
  have h := List.all_eq_true.mp h1 c hc
  rcases Bool.eq_false_or_eq_true (isCode c) with hi | hi
  · exact h2 c (List.mem_filter.mpr ⟨hc, hi⟩)
  · simpa [hi] using h
set_option maxRecDepth 65536 in
theorem w_c0 : (Jvm.Cond.code x code maxLocals ret).before args0 about1 = true := code_word (m := ⟨1, 1⟩) (meth := k1m1) (c := k1c1) (by decide +kernel) rfl rfl rfl (by decide +kernel)
set_option maxRecDepth 65536 in
theorem w_c1 : (Jvm.Cond.code ({ cls := "com/example/hopwise/hopwise/ArrayLengths", name := "grown", desc := "(IJ)I" } : Jvm.MethodName) prog_1_method_2_code (3 : Nat) (Option.some Jvm.ClassFile.FieldType.int)).before args0 about1 = true := code_word (m := ⟨2, 1⟩) (meth := k2m1) (c := k2c1) (by decide +kernel) rfl rfl rfl (by decide +kernel)
set_option maxRecDepth 65536 in
theorem w_c2 : (Jvm.Cond.code ({ cls := "java/lang/Math", name := "max", desc := "(JJ)J" } : Jvm.MethodName) jdk_29_method_66_code (4 : Nat) (Option.some Jvm.ClassFile.FieldType.long)).before args0 about1 = true := code_word (m := ⟨3, 1⟩) (meth := k3m1) (c := k3c1) (by decide +kernel) rfl rfl rfl (by decide +kernel)
set_option maxRecDepth 65536 in
theorem w_c3 : (Jvm.Cond.code ({ cls := "java/lang/Math", name := "min", desc := "(JJ)J" } : Jvm.MethodName) jdk_29_method_70_code (4 : Nat) (Option.some Jvm.ClassFile.FieldType.long)).before args0 about1 = true := code_word (m := ⟨3, 2⟩) (meth := k3m2) (c := k3c2) (by decide +kernel) rfl rfl rfl (by decide +kernel)
def codes1 : List Jvm.Cond := [Jvm.Cond.code x code maxLocals ret, Jvm.Cond.code ({ cls := "com/example/hopwise/hopwise/ArrayLengths", name := "grown", desc := "(IJ)I" } : Jvm.MethodName) prog_1_method_2_code (3 : Nat) (Option.some Jvm.ClassFile.FieldType.int), Jvm.Cond.code ({ cls := "java/lang/Math", name := "max", desc := "(JJ)J" } : Jvm.MethodName) jdk_29_method_66_code (4 : Nat) (Option.some Jvm.ClassFile.FieldType.long), Jvm.Cond.code ({ cls := "java/lang/Math", name := "min", desc := "(JJ)J" } : Jvm.MethodName) jdk_29_method_70_code (4 : Nat) (Option.some Jvm.ClassFile.FieldType.long)]
set_option maxRecDepth 65536 in
theorem codes_eq : words1.filter isCode = codes1 := rfl
theorem w_codes : ∀ c ∈ words1.filter isCode, c.before args0 about1 = true := by
  rw [codes_eq]
  intro c hc
  simp only [codes1, List.mem_cons, List.not_mem_nil, or_false] at hc
  rcases hc with rfl | rfl | rfl | rfl
  · exact w_c0
  · exact w_c1
  · exact w_c2
  · exact w_c3
set_option maxRecDepth 65536 in
theorem w_t1 : words1.all (fun c => isCode c || c.before args0 about1) = true := by decide +kernel
theorem w_tables : (allAtoms (Jvm.Cond.code x code maxLocals ret :: tables_1)).before args0 about1 = true := by
  rw [allAtoms_all]
  show words1.all (fun c => c.before args0 about1) = true
  refine all_split ?_ w_codes
  rw [w_t1]
set_option maxRecDepth 65536 in
theorem w_case : (Jvm.Cond.and given_1 narrow_1).before args0 about1 = true := by decide +kernel
theorem w_applies : (headSpec (Jvm.Cond.code x code maxLocals ret :: tables_1) room_1).applies x e0.platform about1 = true :=
  (Spec.applies_iff w_frames).mpr ⟨w_running, w_runnable, w_alone, w_named, w_hears, w_ripe, w_room, w_tables⟩
theorem atStart : AtStart classFile x code maxLocals ret World_1 tables_1 room_1 Calls_1 rest_1 Pre_1 launch0 p0 e0 about1 theMethod args0 below0 :=
  ⟨lists_1, trivial, launch0.admits_env _ _ _, launch0.least_env, fairChoices_fair.cas, fairChoices_fair.clock, w_frames, w_args, w_heap, w_applies, trivial, trivial, w_case⟩
end start1
theorem witness_1 : WitnessClaimed_1 := ⟨start1.p0, start1.e0, start1.about1, start1.theMethod, start1.args0, start1.below0, start1.atStart⟩
end Jvm.Pilot.@@N@@
