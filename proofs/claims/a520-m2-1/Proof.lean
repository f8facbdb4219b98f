import JvmDerived
import JvmDerived.Pilot.@@N@@Statement
import JvmDerived.Pilot.@@N@@Code
set_option linter.unusedVariables false
set_option linter.unusedSimpArgs false
namespace Jvm.Pilot.@@N@@
open Jvm Jvm.ClassFile Sem Op Lib Jvm.Free Jvm.Stand Jvm.LawKit Jvm.RoadKit Bundle Jvm.Pilot.@@N@@.Jvm.D
/-- from S the run comes to a state that P allows -/
def Comes (p : Program) (e : Env) (below : List Frame) (P : State → Prop) (S : State) : Prop := ∃ S', Steps p.tables e below S S' ∧ P S'
/-- how a body ends that Q allows -/
def EndsAt (below : List Frame) (s : State) (Q : Option Value → Heap → List Loc → Prop) (kc ks : Nat) (s₂ : State) : Prop := ∃ o, s₂.status = .running ∧ Ended s₂ below o ∧ ∃ v L, o = .returned v ∧ Q v s₂.heap L ∧ FrameEnd s o s₂ L kc ks
section Own
variable {p : Program} {l : Launch} {e : Env} {R : Room} {s : State} {m : MethodId} {args : Array Value} {below : List Frame} {meth : Method} {c : Code} {T : State} {locs : List Loc} {cells slots : Nat} {Q : Option Value → Heap → List Loc → Prop} {kc ks : Nat} {P : State → Prop} {S S' : State} {h : Heap}
theorem Comes.here (q : P S) : Comes p e below P S := ⟨S, Steps.refl _, q⟩
theorem Comes.st (f : ∀ t, Steps p.tables e below S' t → Steps p.tables e below S t) (g : Comes p e below P S') : Comes p e below P S := by
  obtain ⟨s₂, h1, r⟩ := g; exact ⟨s₂, f _ h1, r⟩
theorem Comes.go (f : Steps p.tables e below S S') (g : Comes p e below P S') : Comes p e below P S := by
  obtain ⟨s₂, h1, r⟩ := g; exact ⟨s₂, f.trans h1, r⟩
theorem Comes.cast {g g' : JFrame} (q : g = g') (k : Comes p e below P (T.setTop g')) : Comes p e below P (T.setTop g) := q ▸ k
theorem Comes.out (h : Comes p e below (EndsAt below s Q kc ks) S) : ∃ s₂ o, Steps p.tables e below S s₂ ∧ s₂.status = .running ∧ Ended s₂ below o ∧ ∃ v L, o = .returned v ∧ Q v s₂.heap L ∧ FrameEnd s o s₂ L kc ks := by
  obtain ⟨s₂, h1, o, r⟩ := h; exact ⟨s₂, o, h1, r⟩
theorem Comes.fin (X : Stand p l e R s m args below meth c T locs cells slots) {v : Option Value} (hv : meth.sig.returnType = none → v = none) (hlk : meth.locks = false)
    (hs : ∀ fs, (∀ (f : JFrame) (acts : List Action), f.method = m → f.locked = none → f.entered = [] → (doReturn e (T.setTop f) acts v).1 = T.setFrames fs) → Steps p.tables e below S (T.setFrames fs))
    (eT : T.heap = h) (hq : Q v h locs) (hc : cells ≤ kc) (hl : slots ≤ ks) : Comes p e below (EndsAt below s Q kc ks) S := by
  obtain ⟨fs, hr, hrun, hended, hW, hsame⟩ := X.leave (v := v) hv hlk
  exact ⟨_, hs fs hr, _, hrun, hended, _, _, rfl, (show Q v T.heap locs from by rw [eT]; exact hq), ⟨_, rfl⟩, hW, hsame.mono hc hl⟩
theorem Comes.ret0 (X : Stand p l e R s m args below meth c T locs cells slots) (hx : p.tables.exec = Jvm.exec) {pc : Nat} {Ls : Array Slot} (hret : meth.sig.returnType = none) (hlk : meth.locks = false) (hd : decode c.code pc = .ok (.return_, 1))
    (eT : T.heap = h) (hq : Q none h locs) (hc : cells ≤ kc) (hl : slots ≤ ks) : Comes p e below (EndsAt below s Q kc ks) (T.setTop (mkF m pc Ls [])) :=
  Comes.fin X (fun _ => rfl) hlk (fun _ hr => X.returnOut hx hret hd hr) eT hq hc hl
theorem Comes.retN (X : Stand p l e R s m args below meth c T locs cells slots) (hx : p.tables.exec = Jvm.exec) {pc : Nat} {Ls : Array Slot} {z : Int32} {t : FieldType} {rest : List Value} (hret : meth.sig.returnType = some t) (ht : t = .boolean ∨ t = .byte ∨ t = .char ∨ t = .short) (hlk : meth.locks = false) (hd : decode c.code pc = .ok (.ireturn, 1))
    (eT : T.heap = h) (hq : Q (some (.int (nar t z))) h locs) (hc : cells ≤ kc) (hl : slots ≤ ks) : Comes p e below (EndsAt below s Q kc ks) (T.setTop (mkF m pc Ls (.int z :: rest))) :=
  Comes.fin X (fun q => by rw [hret] at q; cases q) hlk (fun _ hr => Jvm.RoadKit.retN X hx hret ht hd hr) eT hq hc hl
theorem Comes.retV (X : Stand p l e R s m args below meth c T locs cells slots) (hx : p.tables.exec = Jvm.exec) {pc : Nat} {Ls : Array Slot} {w : Value} {t : FieldType} {i : Instr} {rest : List Value} (hret : meth.sig.returnType = some t) (hn : narrow t w = w)
    (hi : (i = .ireturn ∧ (t = .int ∨ t = .boolean ∨ t = .byte ∨ t = .char ∨ t = .short) ∧ ∃ z, w = .int z) ∨ (i = .lreturn ∧ t = .long ∧ ∃ z, w = .long z) ∨ (i = .dreturn ∧ t = .double ∧ ∃ z, w = .double z) ∨ (i = .freturn ∧ t = .float ∧ ∃ z, w = .float z) ∨ (i = .areturn ∧ t.isReference = true ∧ w.isRef = true))
    (hlk : meth.locks = false) (hd : decode c.code pc = .ok (i, 1))
    (eT : T.heap = h) (hq : Q (some w) h locs) (hc : cells ≤ kc) (hl : slots ≤ ks) : Comes p e below (EndsAt below s Q kc ks) (T.setTop (mkF m pc Ls (w :: rest))) :=
  Comes.fin X (fun q => by rw [hret] at q; cases q) hlk (fun _ hr => retOut X hx hret hn hi hd hr) eT hq hc hl
theorem narrow_ref {t : FieldType} {w : Value} (h : w.isRef = true) : narrow t w = w := by rcases ref_cases h with rfl | ⟨y, rfl⟩ <;> cases t <;> rfl
theorem lremM {g : JFrame} {target : State} (X : Stand p l e R s m args below meth c T locs cells slots) (hx : p.tables.exec = Jvm.exec) (hg : g.method = m) {x y : Int64} {rest : List Value} (hd : decode c.code g.pc = .ok (.lrem, 1)) (hs : g.stack = .long y :: .long x :: rest) (hy : ¬ y = 0)
    (hr : Steps p.tables e below (T.setTop { g with pc := g.pc + 1, stack := .long (x % y) :: rest }) target) : Steps p.tables e below (T.setTop g) target := by
  have q : x - x / y * y = x % y := lrem_mod x y
  exact XT.lrem X.here hx hg hd hs hy (by rw [q]; exact hr)
theorem own_lrem (x y : Int64) (d : Int) (hy : y.toInt = d) : (0 ≤ x.toInt → (x % y).toInt = x.toInt % d) ∧ (x.toInt < 0 → (x % y).toInt = -((-x.toInt) % d)) := by rw [Int64.toInt_mod, hy]; exact tr _ _
theorem own_lremV (x y : Int64) : 0 ≤ x.toInt → 0 < y.toInt → 0 ≤ (x % y).toInt ∧ (x % y).toInt < y.toInt := by
  intro h1 h2
  rw [Int64.toInt_mod, Int.tmod_eq_emod_of_nonneg h1]
  exact ⟨Int.emod_nonneg _ (by omega), Int.emod_lt_of_pos _ h2⟩
theorem own_eqi {a0 : Array Value} {Z : State} {t : Term} {k : Int32} {idx : List Nat} (h : (Jvm.Cond.eq t (Term.int k)).value a0 Z none Z idx = some true) : t.eval a0 Z none idx Z = some (.int k) := by
  obtain ⟨x, y, e1, e2, k1, k2⟩ := cmp_v (Or.inl h)
  simp only [Term.eval, Option.some.injEq] at e2
  subst e2
  obtain ⟨z, rfl⟩ := k2
  simp [Cond.value, e1, Term.eval] at h
  rw [e1, h]
theorem own_selp {a0 : Array Value} {Z : State} {y : MethodName} {n : Nat} (wi : (Jvm.Cond.instantiable y.cls n).before a0 Z = true) (wp : (Jvm.Cond.privateMethod y).before a0 Z = true) (wm : (Jvm.Cond.instanceMethod y).before a0 Z = true) (hy : y.cls ≠ "java/lang/invoke/MethodHandle" ∧ y.cls ≠ "java/lang/invoke/VarHandle") : (Jvm.Cond.selects y.cls y y).before a0 Z = true := by
  obtain ⟨c, k, h1, h2, h3, h4, -⟩ := Cond.instantiable_spec wi
  exact Jvm.Stand.selects_self_of_private h1 h2 (by simp only [Bool.or_eq_false_iff] at h4; exact h4.1) (Cond.privateMethod_at wp) wm hy
theorem own_eqr {a0 : Array Value} {Z : State} {t u : Term} {y : Value} {idx : List Nat} (h : (Jvm.Cond.eq t u).value a0 Z none Z idx = some true) (hu : u.eval a0 Z none idx Z = some y) (hy : y.isRef = true) : t.eval a0 Z none idx Z = some y := by
  obtain ⟨x, y', e1, e2, k1, k2⟩ := cmp_v (Or.inl h)
  cases hu.symm.trans e2
  have hx : x.isRef = true := by
    rcases ref_cases hy with rfl | ⟨z, rfl⟩ <;> cases x <;> simp_all [Kin, Value.isRef]
  rw [e1, gotT (eq_R e1 hu hx hy) h]
theorem own_len {a0 : Array Value} {Z : State} {t : Term} {a : Addr} {cl : Cell} {ty : FieldType} {k : Int32} (ht : t.eval a0 Z none [] Z = some (.ref a)) (A : Arr Z Z.heap a cl ty) (h : (Jvm.Cond.eq (Term.length t) (Term.int k)).value a0 Z none Z [] = some true) : cl.slots.size < 2 ^ 31 ∧ cl.slots.size.toInt32 = k := by
  have e := own_eqi h
  have e2 := A.fin (Vm.Alike.refl _)
  simp [Term.eval, ht, e2] at e
  exact ⟨by omega, e.2⟩
theorem own_elem {a0 : Array Value} {Z : State} {t u : Term} {a : Addr} {cl : Cell} {j : Int32} {y : Value} (ht : t.eval a0 Z none [] Z = some (.ref a)) (hc : Z.heap[a]? = some cl) (h : (Jvm.Cond.eq (Term.elem t (Term.int j)) u).value a0 Z none Z [] = some true) (hu : u.eval a0 Z none [] Z = some y) (hy : y.isRef = true) : cl.slots[j.toNatClampNeg]? = some y := (elem_in (own_eqr h hu hy) ht (by rfl) hc).2
theorem own_fldi {a0 : Array Value} {Z : State} {t : Term} {k : Int32} {a : Addr} {C n d : String} (ht : t.eval a0 Z none [] Z = some (.ref a)) (h : (Jvm.Cond.eq (Term.field t C n d) (Term.int k)).value a0 Z none Z [] = some true) : Fld Z Z.heap a C n d (.int k) := Fld.start ((fld_at ht).symm.trans (own_eqi h))
end Own
theorem d1_0 : decode prog_4_method_4_code 0 = .ok (.lload_n 0, 1) := by decide +kernel
theorem d1_1 : decode prog_4_method_4_code 1 = .ok (.lconst 1, 1) := by decide +kernel
theorem d1_2 : decode prog_4_method_4_code 2 = .ok (.lcmp, 1) := by decide +kernel
theorem d1_3 : decode prog_4_method_4_code 3 = .ok (.ifCond .lt 11, 3) := by decide +kernel
theorem d1_6 : decode prog_4_method_4_code 6 = .ok (.lload_n 0, 1) := by decide +kernel
theorem d1_7 : decode prog_4_method_4_code 7 = .ok (.ldc2_w 77, 3) := by decide +kernel
theorem d1_10 : decode prog_4_method_4_code 10 = .ok (.lcmp, 1) := by decide +kernel
theorem d1_11 : decode prog_4_method_4_code 11 = .ok (.ifCond .le 17, 3) := by decide +kernel
theorem d1_28 : decode prog_4_method_4_code 28 = .ok (.return_, 1) := by decide +kernel
theorem pd_0 : parseMethodDescriptor "(J)V" = some ⟨[.long], none⟩ := by decide +kernel
theorem pn_1 : plainName "com/example/soft_throttle/softthrottle/TokenBucket" = true := by first | (simp [plainName, overriddenIn]; done) | decide +kernel
theorem pn_0 : plainName "com/example/soft_throttle/softthrottle/TokenBucketCheckBurstSizePinLaw" = true := by first | (simp [plainName, overriddenIn]; done) | decide +kernel
theorem ef_rm1 (m : MethodId) (x0 : Int64) : entryFrame m #[(.long x0)] 2 = mkF m 0 #[.val (.long x0), .second] [] := by first | (simp [entryFrame, mkF, argsToLocals, Value.category]; done) | rfl
theorem ef_rm0 (m : MethodId) (x0 : Int64) : entryFrame m #[(.long x0)] maxLocals = mkF m 0 #[.val (.long x0), .second, .unset, .unset] [] := by first | (simp [entryFrame, mkF, argsToLocals, Value.category, maxLocals]; done) | rfl
theorem own_1 (x : Int64) : ¬ ((x &&& (4611686018427387903 : Int64)) + (1 : Int64) < (1 : Int64)) ∧ ¬ ((4611686018427387904 : Int64) < (x &&& (4611686018427387903 : Int64)) + (1 : Int64)) := by
  have e1 := c_maskL x 4611686018427387903 62 (by decide) (by decide)
  have e2 := c_ladd (x &&& (4611686018427387903 : Int64)) 1
  have e3 := rng64 ((x &&& (4611686018427387903 : Int64)) + 1)
  have e4 : (1 : Int64).toInt = 1 := by decide
  have e5 : (4611686018427387904 : Int64).toInt = 4611686018427387904 := by decide
  rw [Int64.lt_iff_toInt_lt, Int64.lt_iff_toInt_lt]
  omega
def Q_rm1 (Z : State) (q : Int64) (h0 : Heap) (n0 : Nat) (v : Option Value) (h : Heap) (L : List Loc) : Prop := (v = none) ∧ (Fr n0 L) ∧ (h = h0)
set_option maxRecDepth 65536 in
set_option maxHeartbeats 40000000 in
theorem rm1 (l : Launch) (Z : State) (a0 : Array Value) (hw : ∀ d ∈ tables_1, d.before a0 Z = true) (ws : List Jvm.Cond) (q : Int64) (h0 : Heap) (n0 : Nat) (Z0 : n0 ≤ h0.size) (G0 : ¬ (q < (1 : Int64))) (G1 : ¬ ((4611686018427387904 : Int64) < q)) :
    MetFree l (⟨"com/example/soft_throttle/softthrottle/TokenBucket", "checkBurstSize", "(J)V"⟩ : MethodName) (head1 (Jvm.Cond.code (⟨"com/example/soft_throttle/softthrottle/TokenBucket", "checkBurstSize", "(J)V"⟩ : MethodName) prog_4_method_4_code 2 none :: ws) ({ frames := 0, cells := 0, slots := 0, locals := 0 } : Room)) (fun a U => a = #[(.long q)] ∧ Z.Warmed39 U.vm ∧ U.heap = h0) (fun _ _ _ _ _ => True) (fun _ U o U' => ∃ v L, o = .returned v ∧ Q_rm1 Z q h0 n0 v U'.heap L ∧ FrameEnd U o U' L ({ frames := 0, cells := 0, slots := 0, locals := 0 } : Room).cells ({ frames := 0, cells := 0, slots := 0, locals := 0 } : Room).slots) := by
  refine MetFree.of_bodySF (plainFor_of_name pn_1) hisR ?_
  intro p e s m args below meth c s₁ Bd hml0 hP hK
  obtain ⟨rfl, hZ, hh⟩ := hP
  have hx := Bd.exec
  have hby := Bd.bytes
  have hml : c.maxLocals = 2 := hml0
  have hown : s.vm.findClass "com/example/soft_throttle/softthrottle/TokenBucket" = some m.cls := findClass_of_methodNamed Bd.named
  have hnm := (name_of_methodNamed Bd.named Bd.method).1
  have hlk : meth.locks = false := Bd.notSynchronized
  have X0 : Stand p l e ({ frames := 0, cells := 0, slots := 0, locals := 0 } : Room) s m #[(.long q)] below meth c s₁ [] 0 0 := Stand.of_body Bd
  have e0 : s₁.heap = h0 := by rw [← hh, Bd.state]; rfl
  have N0 := Fr.nil n0
  refine Comes.out (Q := Q_rm1 Z q h0 n0) (kc := ({ frames := 0, cells := 0, slots := 0, locals := 0 } : Room).cells) (ks := ({ frames := 0, cells := 0, slots := 0, locals := 0 } : Room).slots) ?_
  refine Comes.cast (ef_rm1 m q) ?_
  show Comes p e below _ (s₁.setTop (mkF m 0 #[.val (.long q), .second] []))
  refine Comes.st (fun t k => XS.lloadN X0.here hx rfl (hb hby d1_0) rfl (XS.lconst X0.here hx rfl (hb hby d1_1) (XS.lcmp X0.here hx rfl (hb hby d1_2) rfl k))) ?_
  show Comes p e below _ (s₁.setTop (mkF m 3 #[.val (.long q), .second] [(.int (lcmpW q (1 : Int64)))]))
  have hc3_1 : ¬ (q < (1 : Int64)) := by exact G0
  refine Comes.st (fun t k => XS.ifNo X0.here hx rfl (hb hby d1_3) rfl ((if0 _ _).trans (flt (fun q => hc3_1 ((lw_lt _ _).mp q))).1) (XS.lloadN X0.here hx rfl (hb hby d1_6) rfl (X0.ldc2Long hx hown (mvT hZ (hw _ (List.mem_of_getElem? (i := 5) rfl))) (g := (mkF m 7 #[.val (.long q), .second] [(.long q)])) rfl (hb hby d1_7) _ (XS.lcmp X0.here hx rfl (hb hby d1_10) rfl k)))) ?_
  show Comes p e below _ (s₁.setTop (mkF m 11 #[.val (.long q), .second] [(.int (lcmpW q (4611686018427387904 : Int64)))]))
  have hc11_2 : ¬ ((4611686018427387904 : Int64) < q) := by exact G1
  refine Comes.st (fun t k => XS.ifYes X0.here hx rfl (pc0 := 11) (pc' := 28) rfl (hb hby d1_11) rfl ((if0 _ _).trans (flt (fun q => hc11_2 ((lw_gt _ _).mp q))).2.2.2) (by decide) (by decide) k) ?_
  show Comes p e below _ (s₁.setTop (mkF m 28 #[.val (.long q), .second] []))
  exact Comes.ret0 X0 hx Bd.returns hlk (hb hby d1_28) e0 ⟨rfl, N0, rfl⟩ (by decide) (by decide)
def Q_rm0 (Z : State) (q : Int64) (h0 : Heap) (n0 : Nat) (v : Option Value) (h : Heap) (L : List Loc) : Prop := (v = some (.int (1 : Int32))) ∧ (Fr n0 L)
set_option maxRecDepth 65536 in
set_option maxHeartbeats 40000000 in
theorem rm0 (l : Launch) (Z : State) (a0 : Array Value) (hw : ∀ d ∈ tables_1, d.before a0 Z = true) (ws : List Jvm.Cond) (q : Int64) (h0 : Heap) (n0 : Nat) (Z0 : n0 ≤ h0.size) :
    MetFree l x (head1 (Jvm.Cond.code x code maxLocals ret :: ws) room_1) (fun a U => a = #[(.long q)] ∧ Z.Warmed39 U.vm ∧ U.heap = h0) (fun _ _ _ _ _ => True) (fun _ U o U' => ∃ v L, o = .returned v ∧ Q_rm0 Z q h0 n0 v U'.heap L ∧ FrameEnd U o U' L room_1.cells room_1.slots) := by
  refine MetFree.of_bodySF (plainFor_of_name pn_0) hisR ?_
  intro p e s m args below meth c s₁ Bd hml0 hP hK
  obtain ⟨rfl, hZ, hh⟩ := hP
  have hx := Bd.exec
  have hby := Bd.bytes
  have hml : c.maxLocals = 4 := hml0
  have hown : s.vm.findClass "com/example/soft_throttle/softthrottle/TokenBucketCheckBurstSizePinLaw" = some m.cls := findClass_of_methodNamed Bd.named
  have hnm := (name_of_methodNamed Bd.named Bd.method).1
  have hlk : meth.locks = false := Bd.notSynchronized
  have X0 : Stand p l e room_1 s m #[(.long q)] below meth c s₁ [] 0 0 := Stand.of_body Bd
  have e0 : s₁.heap = h0 := by rw [← hh, Bd.state]; rfl
  have N0 := Fr.nil n0
  refine Comes.out (Q := Q_rm0 Z q h0 n0) (kc := room_1.cells) (ks := room_1.slots) ?_
  refine Comes.cast (ef_rm0 m q) ?_
  show Comes p e below _ (s₁.setTop (mkF m 0 #[.val (.long q), .second, .unset, .unset] []))
  refine Comes.st (fun t k => XS.lloadN X0.here hx rfl (hb hby at_0) rfl (X0.ldc2Long hx hown (mvT hZ (hw _ (List.mem_of_getElem? (i := 0) rfl))) (g := (mkF m 1 #[.val (.long q), .second, .unset, .unset] [(.long q)])) rfl (hb hby at_1) _ (XS.land X0.here hx rfl (hb hby at_4) rfl (XS.lconst X0.here hx rfl (hb hby at_5) (XS.ladd X0.here hx rfl (hb hby at_6) rfl (XS.lstoreN X0.here hx rfl (hb hby at_7) rfl (l' := #[.val (.long q), .second, .val (.long ((q &&& (4611686018427387903 : Int64)) + (1 : Int64))), .second]) rfl k)))))) ?_
  show Comes p e below _ (s₁.setTop (mkF m 8 #[.val (.long q), .second, .val (.long ((q &&& (4611686018427387903 : Int64)) + (1 : Int64))), .second] []))
  refine Comes.st (fun t k => XS.lloadN X0.here hx rfl (hb hby at_8) rfl k) ?_
  show Comes p e below _ (s₁.setTop (mkF m 9 #[.val (.long q), .second, .val (.long ((q &&& (4611686018427387903 : Int64)) + (1 : Int64))), .second] [(.long ((q &&& (4611686018427387903 : Int64)) + (1 : Int64)))]))
  obtain ⟨_, _, ⟨T1, L1, k1, n1⟩, -, X1, ⟨Lc1, hQ1, l1, y1, z1⟩, st1⟩ := Jvm.LawKit.callS X0 hx (y := (⟨"com/example/soft_throttle/softthrottle/TokenBucket", "checkBurstSize", "(J)V"⟩ : MethodName)) hown (mvT hZ (hw _ (List.mem_of_getElem? (i := 1) rfl))) (mvT hZ (hw _ (List.mem_of_getElem? (i := 2) rfl))) (mvT hZ (hw _ (List.mem_of_getElem? (i := 3) rfl))) (mvT hZ (hw _ (List.mem_of_getElem? (i := 4) rfl))) (by decide) (backOf (W := 0) (rm1 l Z a0 hw [] (((q &&& (4611686018427387903 : Int64)) + (1 : Int64))) h0 n0 (by omega)  (by exact (own_1 _).1) (by exact (own_1 _).2)) hZ (hw _ (List.mem_of_getElem? (i := 4) rfl)) (hw _ (List.mem_of_getElem? (i := 3) rfl)) (by decide) (by decide)) (g := (mkF m 9 #[.val (.long q), .second, .val (.long ((q &&& (4611686018427387903 : Int64)) + (1 : Int64))), .second] [(.long ((q &&& (4611686018427387903 : Int64)) + (1 : Int64)))])) rfl (by rw [hml]; rfl) (argsL := [(.long ((q &&& (4611686018427387903 : Int64)) + (1 : Int64)))]) (rest := []) (lenOf pd_0 rfl) rfl (by show 2 * 0 + _ ≤ _; exact Nat.le_of_eq rfl) (hb hby at_9) (fun _ _ => ⟨rfl, e0, (by decide : 0 + 0 ≤ _), (by decide : 0 + 0 ≤ _)⟩)
  dsimp only [Pt.U, Pt.locs, Pt.cells, Pt.slots] at X1 l1 y1 z1 st1 hQ1
  subst l1 y1 z1
  obtain ⟨rfl, Nq1, hs1⟩ := hQ1
  have N1 := Fr.app N0 Nq1
  refine Comes.st st1 ?_
  show Comes p e below _ (T1.setTop (mkF m 12 #[.val (.long q), .second, .val (.long ((q &&& (4611686018427387903 : Int64)) + (1 : Int64))), .second] []))
  refine Comes.st (fun t k => XS.lloadN X1.here hx rfl (hb hby at_12) rfl (XS.lconst X1.here hx rfl (hb hby at_13) (XS.lcmp X1.here hx rfl (hb hby at_14) rfl k))) ?_
  show Comes p e below _ (T1.setTop (mkF m 15 #[.val (.long q), .second, .val (.long ((q &&& (4611686018427387903 : Int64)) + (1 : Int64))), .second] [(.int (lcmpW ((q &&& (4611686018427387903 : Int64)) + (1 : Int64)) (1 : Int64)))]))
  have hc15_2 : ¬ (((q &&& (4611686018427387903 : Int64)) + (1 : Int64)) < (1 : Int64)) := by exact (own_1 _).1
  refine Comes.st (fun t k => XS.ifNo X1.here hx rfl (hb hby at_15) rfl ((if0 _ _).trans (flt (fun q => hc15_2 ((lw_lt _ _).mp q))).1) (XS.lloadN X1.here hx rfl (hb hby at_18) rfl (X1.ldc2Long hx hown (mvT hZ (hw _ (List.mem_of_getElem? (i := 6) rfl))) (g := (mkF m 19 #[.val (.long q), .second, .val (.long ((q &&& (4611686018427387903 : Int64)) + (1 : Int64))), .second] [(.long ((q &&& (4611686018427387903 : Int64)) + (1 : Int64)))])) rfl (hb hby at_19) _ (XS.lcmp X1.here hx rfl (hb hby at_22) rfl k)))) ?_
  show Comes p e below _ (T1.setTop (mkF m 23 #[.val (.long q), .second, .val (.long ((q &&& (4611686018427387903 : Int64)) + (1 : Int64))), .second] [(.int (lcmpW ((q &&& (4611686018427387903 : Int64)) + (1 : Int64)) (4611686018427387904 : Int64)))]))
  have hc23_3 : ¬ ((4611686018427387904 : Int64) < ((q &&& (4611686018427387903 : Int64)) + (1 : Int64))) := by exact (own_1 _).2
  refine Comes.st (fun t k => XS.ifNo X1.here hx rfl (hb hby at_23) rfl ((if0 _ _).trans (flt (fun q => hc23_3 ((lw_gt _ _).mp q))).2.2.1) (XS.iconst X1.here hx rfl (hb hby at_26) (XS.goto X1.here hx rfl (pc0 := 27) (pc' := 31) rfl (hb hby at_27) (by decide) (by decide) k))) ?_
  show Comes p e below _ (T1.setTop (mkF m 31 #[.val (.long q), .second, .val (.long ((q &&& (4611686018427387903 : Int64)) + (1 : Int64))), .second] [(.int (1 : Int32))]))
  exact Comes.retN X1 hx (t := .boolean) Bd.returns (by simp) hlk (hb hby at_31) hs1 ⟨rfl, N1⟩ (by decide) (by decide)
set_option maxRecDepth 65536 in
set_option maxHeartbeats 40000000 in
theorem comes_1 {Post : Tables → Env → Array Value → State → Outcome → State → Prop} (hpost : ∀ tb e args s v u, (limb_1_1.after args s (.returned v) u = true ∧ limb_1_2.after args s (.returned v) u = true ∧ True) → FrameEnd s (.returned v) u (Jvm.fieldLocs frame_1_writes args s ++ Jvm.arrayLocs frame_1_arrays args s ++ Jvm.staticLocs frame_1_statics s) 0 0 → Post tb e args s (.returned v) u) :
    ArmFor flags0 classFile x code maxLocals ret World_1 tables_1 room_1 Calls_1 rest_1 Pre_1 Post := by
  intro l hfl _ _ p e ha hc hk s m args below hf hA hF happ hP
  obtain ⟨hcalls, hrest, hpre⟩ := hP
  obtain ⟨-, -, -, hnamed, -, -, -, hat⟩ := (Spec.applies_iff hf).mp happ
  obtain ⟨hg, hn⟩ := and_e (Cond.before_iff.mp (show (Jvm.Cond.and given_1 narrow_1).before args s = true from hpre))
  obtain ⟨c0, d0⟩ := and_e hg
  obtain ⟨w0, rfl⟩ : ∃ w0 : Value, args = #[w0] := by
    have hs : args.size = 1 := by simpa [Cond.value, given_1] using c0
    obtain ⟨L⟩ := args
    match L, hs with
    | [w0], _ => exact ⟨w0, rfl⟩
  have hw := fun d (hd : d ∈ tables_1) => atoms_spec (ws := Jvm.Cond.code x code maxLocals ret :: tables_1) hat d (List.mem_cons_of_mem _ hd)
  have hfit : Fit s := fun {y c} hc i hi => by
    obtain ⟨ha, rfl⟩ := Array.getElem?_eq_some_iff.mp hc
    have q := List.all_eq_true.mp ((Array.all_eq_true_iff_forall_mem.mp hF) _ (Array.getElem_mem ha)) i (List.mem_range.mpr hi)
    simpa [Array.getElem?_eq_getElem hi] using q
  obtain ⟨i0, ei0⟩ := isL_v d0
  obtain rfl : w0 = (.long i0) := Option.some.inj ei0
  obtain ⟨n, o, h1, h2, h3, _, L, rfl, ⟨rfl, N⟩, hq⟩ := rm0 l s _ hw tables_1 i0 s.heap s.heap.size (Nat.le_refl _)  p e ha hc hk s m _ below hf ((Spec.applies_iff_loose hf).mp happ).1 ⟨rfl, State.Warmed39.refl s, rfl⟩ trivial
  refine ⟨n, _, h1, h2, h3, hpost _ _ _ _ _ _ ⟨Cond.after_iff.mpr rfl, Cond.after_iff.mpr (eq_i res_at (Term.int_eval (1)) rfl), trivial⟩ ⟨hq.1, hq.2.1, (hq.2.2.sift fun y hy => Or.inr (N y hy)).mono (by decide) (by decide)⟩⟩
theorem main_1_1 : Claimed_1_1 := comes_1 fun _ _ _ _ _ _ h hF => ⟨h.1, hF⟩
theorem main_1_2 : Claimed_1_2 := comes_1 fun _ _ _ _ _ _ h hF => ⟨h.2.1, hF⟩
end Jvm.Pilot.@@N@@
namespace Jvm.Pilot.@@N@@
open Jvm Jvm.ClassFile Sem Op Lib Jvm.Free Jvm.Stand Jvm.Pilot.@@N@@.Jvm.D
/-! MADE BY PROGRAM (witnessworld.py) out of the Statement's table words and the real class files: 9 classes; the members and pool entries that the words name. The judged class is class 1, her method 1. -/
namespace start1
open Jvm.ClassFile
def u (s : String) : CpInfo := .utf8 (stringToUtf16 s)
/-- a pool by its gaps: so many unusable entries, then the entry; so many at the end -/
def gap : Nat → List CpInfo → List CpInfo
  | 0, r => r
  | n + 1, r => .unusable :: gap n r
def poolList (es : List (Nat × CpInfo)) (last : Nat) : List CpInfo := es.foldr (fun e r => gap e.1 (e.2 :: r)) (gap last [])
def pool (es : List (Nat × CpInfo)) (last : Nat) : Array CpInfo := ⟨poolList es last⟩
def fileOf (pool : Array CpInfo) (this : Nat) (attrs : Array Attribute := #[]) (ms : Array MethodInfo := #[]) (fl : Nat := 33) (sup : Nat := 0) (ifs : Array Nat := #[]) (fds : Array FieldInfo := #[]) : ClassFile where
  minorVersion := 0
  majorVersion := 65
  constantPool := pool
  accessFlags := fl
  thisClass := this
  superClass := sup
  interfaces := ifs
  fields := fds
  methods := ms
  attributes := attrs
def plain (name : String) (sup : Option ClassId) : Class where
  name := name
  kind := .ordinary
  loader := none
  accessFlags := 33
  super := sup
  interfaces := #[]
  cf := none
  fields := #[]
  methods := #[]
  instanceTypes := #[]
  staticTypes := #[]
  resolved := #[]
  callSites := []
  init := .initialized
  statics := none
  mirror := none

def pool0 : Array CpInfo := pool [(5, u "<init>"), (0, u "()V"), (1, .class_ 10), (1, u "java/lang/Object")] 113

def k0m0 : Method := { name := "<init>", desc := "()V", sig := { parameters := [], returnType := none }, accessFlags := 1, code := none }
/-- java/lang/Object -/
def k0 : Class := { plain "java/lang/Object" none with
  accessFlags := 33
  interfaces := #[]
  cf := some (fileOf pool0 8 #[] #[{ accessFlags := 1, nameIndex := 5, descriptorIndex := 6, attributes := #[] }] 33 0 #[] #[])
  fields := #[]
  methods := #[k0m0]
  instanceTypes := #[]
  staticTypes := #[]
  resolved := Array.replicate 124 none
  statics := none }

def pool1 : Array CpInfo := pool [(2, .class_ 4), (1, u "java/lang/Object"), (0, u "<init>"), (0, u "()V"), (0, .class_ 8), (0, u "com/example/soft_throttle/softthrottle/TokenBucket"), (0, .long 4611686018427387903), (1, .methodref 7 12), (0, .nameAndType 13 14), (0, u "checkBurstSize"), (0, u "(J)V"), (0, .long 4611686018427387904), (1, .class_ 18), (0, u "com/example/soft_throttle/softthrottle/TokenBucketCheckBurstSizePinLaw"), (2, u "law"), (0, u "(J)Z")] 3

def k1m0 : Method := { name := "<init>", desc := "()V", sig := { parameters := [], returnType := none }, accessFlags := 1, code := none }
def k1c1 : Code := { maxStack := 4, maxLocals := 4, code := code, exceptionTable := #[], attributes := #[] }
def k1m1 : Method := { name := "law", desc := "(J)Z", sig := { parameters := [.long], returnType := some .boolean }, accessFlags := 9, code := some k1c1 }
/-- com/example/soft_throttle/softthrottle/TokenBucketCheckBurstSizePinLaw -/
def k1 : Class := { plain "com/example/soft_throttle/softthrottle/TokenBucketCheckBurstSizePinLaw" (some 0) with
  accessFlags := 49
  interfaces := #[]
  cf := some (fileOf pool1 17 #[] #[{ accessFlags := 1, nameIndex := 5, descriptorIndex := 6, attributes := #[] }, { accessFlags := 9, nameIndex := 21, descriptorIndex := 22, attributes := #[] }] 49 2 #[] #[])
  fields := #[]
  methods := #[k1m0, k1m1]
  instanceTypes := #[]
  staticTypes := #[]
  resolved := Array.replicate 26 none
  statics := none }

def pool2 : Array CpInfo := pool [(6, u "Lcom/example/soft_throttle/softthrottle/TimeSource;"), (1, .class_ 10), (1, u "com/example/soft_throttle/softthrottle/TokenBucket"), (3, .class_ 16), (1, u "java/lang/Object"), (6, u "waiters"), (0, u "Ljava/util/Set;"), (2, u "checkBurstSize"), (0, u "(J)V"), (1, u "fillRate"), (7, u "timeSource"), (8, u "balance"), (0, u "J"), (6, u "refilledAt"), (2, u "grantedAt"), (2, u "burstSize"), (2, u "Lcom/example/soft_throttle/softthrottle/FillRate;"), (4, u "unitsPerToken"), (4, u "unitsPerNanosecond"), (2, .long 4611686018427387904), (15, u "units"), (10, .class_ 105), (0, u "com/example/soft_throttle/softthrottle/TokenBucket$Snapshot"), (2, u "owed"), (37, u "lifted"), (0, u "Z"), (16, u "wakeup"), (0, u "Ljava/util/concurrent/ScheduledFuture;"), (41, .class_ 208), (0, u "com/example/soft_throttle/softthrottle/TokenBucket$Waiter"), (56, u "LONGEST_WAIT"), (0, u "Ljava/time/Duration;"), (51, .class_ 319), (0, u "com/example/soft_throttle/softthrottle/TokenBucket$WakeupThread"), (67, .class_ 389), (1, u "com/example/soft_throttle/softthrottle/TokenBucket$Wakeups"), (72, u "MAX_BURST_SIZE")] 78

def k2c0 : Code := { maxStack := 4, maxLocals := 2, code := prog_4_method_4_code, exceptionTable := #[], attributes := #[] }
def k2m0 : Method := { name := "checkBurstSize", desc := "(J)V", sig := { parameters := [.long], returnType := none }, accessFlags := 8, code := some k2c0 }
/-- com/example/soft_throttle/softthrottle/TokenBucket -/
def k2 : Class := { plain "com/example/soft_throttle/softthrottle/TokenBucket" (some 0) with
  accessFlags := 49
  interfaces := #[]
  cf := some (fileOf pool2 8 #[.nestMembers #[318, 387, 207, 104]] #[{ accessFlags := 8, nameIndex := 27, descriptorIndex := 28, attributes := #[] }] 49 14 #[] #[{ accessFlags := 25, nameIndex := 462, descriptorIndex := 48, attributes := #[] }, { accessFlags := 26, nameIndex := 265, descriptorIndex := 266, attributes := #[] }, { accessFlags := 18, nameIndex := 38, descriptorIndex := 6, attributes := #[] }, { accessFlags := 2, nameIndex := 61, descriptorIndex := 48, attributes := #[] }, { accessFlags := 2, nameIndex := 30, descriptorIndex := 64, attributes := #[] }, { accessFlags := 2, nameIndex := 69, descriptorIndex := 48, attributes := #[] }, { accessFlags := 2, nameIndex := 74, descriptorIndex := 48, attributes := #[] }, { accessFlags := 2, nameIndex := 146, descriptorIndex := 147, attributes := #[] }, { accessFlags := 2, nameIndex := 47, descriptorIndex := 48, attributes := #[] }, { accessFlags := 2, nameIndex := 108, descriptorIndex := 48, attributes := #[] }, { accessFlags := 2, nameIndex := 93, descriptorIndex := 48, attributes := #[] }, { accessFlags := 2, nameIndex := 55, descriptorIndex := 48, attributes := #[] }, { accessFlags := 2, nameIndex := 58, descriptorIndex := 48, attributes := #[] }, { accessFlags := 18, nameIndex := 23, descriptorIndex := 24, attributes := #[] }, { accessFlags := 2, nameIndex := 164, descriptorIndex := 165, attributes := #[] }])
  fields := #[{ name := "MAX_BURST_SIZE", type := .long, accessFlags := 25, slot := 0, constantValue := 0 }, { name := "LONGEST_WAIT", type := (.object "java/time/Duration"), accessFlags := 26, slot := 1, constantValue := 0 }, { name := "timeSource", type := (.object "com/example/soft_throttle/softthrottle/TimeSource"), accessFlags := 18, slot := 0, constantValue := 0 }, { name := "burstSize", type := .long, accessFlags := 2, slot := 1, constantValue := 0 }, { name := "fillRate", type := (.object "com/example/soft_throttle/softthrottle/FillRate"), accessFlags := 2, slot := 2, constantValue := 0 }, { name := "unitsPerToken", type := .long, accessFlags := 2, slot := 3, constantValue := 0 }, { name := "unitsPerNanosecond", type := .long, accessFlags := 2, slot := 4, constantValue := 0 }, { name := "lifted", type := .boolean, accessFlags := 2, slot := 5, constantValue := 0 }, { name := "balance", type := .long, accessFlags := 2, slot := 6, constantValue := 0 }, { name := "owed", type := .long, accessFlags := 2, slot := 7, constantValue := 0 }, { name := "units", type := .long, accessFlags := 2, slot := 8, constantValue := 0 }, { name := "refilledAt", type := .long, accessFlags := 2, slot := 9, constantValue := 0 }, { name := "grantedAt", type := .long, accessFlags := 2, slot := 10, constantValue := 0 }, { name := "waiters", type := (.object "java/util/Set"), accessFlags := 18, slot := 11, constantValue := 0 }, { name := "wakeup", type := (.object "java/util/concurrent/ScheduledFuture"), accessFlags := 2, slot := 12, constantValue := 0 }]
  methods := #[k2m0]
  instanceTypes := #[(.object "com/example/soft_throttle/softthrottle/TimeSource"), .long, (.object "com/example/soft_throttle/softthrottle/FillRate"), .long, .long, .boolean, .long, .long, .long, .long, .long, (.object "java/util/Set"), (.object "java/util/concurrent/ScheduledFuture")]
  staticTypes := #[.long, (.object "java/time/Duration")]
  resolved := Array.replicate 541 none
  statics := none }

def pool3 : Array CpInfo := pool [(1, u "java/lang/Cloneable"), (0, .class_ 1), (0, u "java/lang/Object"), (0, .class_ 3)] 3

/-- java/lang/Cloneable -/
def k3 : Class := { plain "java/lang/Cloneable" (some 0) with
  accessFlags := 1537
  interfaces := #[]
  cf := some (fileOf pool3 2 #[] #[] 1537 4 #[] #[])
  fields := #[]
  methods := #[]
  instanceTypes := #[]
  staticTypes := #[]
  resolved := Array.replicate 8 none
  statics := none }

def pool4 : Array CpInfo := pool [(1, u "java/io/Serializable"), (0, .class_ 1), (0, u "java/lang/Object"), (0, .class_ 3)] 3

/-- java/io/Serializable -/
def k4 : Class := { plain "java/io/Serializable" (some 0) with
  accessFlags := 1537
  interfaces := #[]
  cf := some (fileOf pool4 2 #[] #[] 1537 4 #[] #[])
  fields := #[]
  methods := #[]
  instanceTypes := #[]
  staticTypes := #[]
  resolved := Array.replicate 8 none
  statics := none }

/-- the primitive byte -/
def k5 : Class := { plain "byte" none with kind := .primitive 'B', accessFlags := 0x411 }
/-- [B -/
def k6 : Class := { plain "[B" (some 0) with kind := .array 5 .byte, interfaces := #[3, 4], accessFlags := 1041 }

/-- the primitive int -/
def k7 : Class := { plain "int" none with kind := .primitive 'I', accessFlags := 0x411 }
/-- [I -/
def k8 : Class := { plain "[I" (some 0) with kind := .array 7 .int, interfaces := #[3, 4], accessFlags := 1041 }

def heap : Heap := #[]
def classes : Array Class := #[k0, k1, k2, k3, k4, k5, k6, k7, k8]
def interned : List (Array UInt16 × Addr) := []
def slotsUsed : Nat := 0
def theMethod : MethodId := ⟨1, 1⟩
def args0 : Array Value := #[.long 5]
def aboutOver (below : List Frame) : State where
  vm := { classes := classes, interned := interned.toArray }
  heap := heap
  slotsUsed := slotsUsed
  threads := #[{ frames := .invoking theMethod args0 :: below }]
def below0 : List Frame := [.native { method := ⟨0, 0⟩, args := #[] }]
def about1 : State := aboutOver below0
def p0 : Program := .bare "" "" ""
def e0 : Env := launch0.env 0 0 0
theorem w_frames : about1.frames = Frame.invoking theMethod args0 :: below0 := rfl
set_option maxRecDepth 65536 in
theorem w_args : argsFit about1.vm theMethod args0 = true := by decide +kernel
set_option maxRecDepth 65536 in
theorem w_heap : heapFits about1 = true := by decide +kernel
set_option maxRecDepth 65536 in
theorem w_runnable : about1.curStatus? = some .runnable := by decide +kernel
set_option maxRecDepth 65536 in
theorem w_alone : about1.alone = true := by decide +kernel
set_option maxRecDepth 65536 in
theorem w_named : about1.methodNamed? x = some theMethod := by decide +kernel
set_option maxRecDepth 65536 in
theorem w_hears : about1.hears theMethod below0 = true := by decide +kernel
set_option maxRecDepth 65536 in
theorem w_ripe : about1.ripe theMethod args0 below0 = true := by decide +kernel
theorem w_running : about1.status = .running := rfl
set_option maxRecDepth 65536 in
theorem w_room : about1.hasRoom e0.platform room_1 = true :=
  launch0.hasRoom_least _ room_1 (by decide +kernel) (by decide +kernel) (by decide +kernel) (by decide +kernel) (by decide +kernel) (by decide +kernel)
theorem allAtoms_all (ts : List Jvm.Cond) (a : Array Jvm.Value) (st : Jvm.State) : (allAtoms ts).before a st = ts.all (fun c => c.before a st) := by
  induction ts with
  | nil => rfl
  | cons c t ih =>
    show (Jvm.Cond.and c (allAtoms t)).before a st = _
    rw [Jvm.Cond.before_and, ih, List.all_cons]
def words1 : List Jvm.Cond := Jvm.Cond.code x code maxLocals ret :: tables_1
/-- a 'code' word, met by the world's own term for the bytes: nothing is compared byte by byte -/
theorem code_word {y : MethodName} {bytes : ByteArray} {mx : Nat} {rt : Option FieldType} {a : Array Value} {s : State} {m : MethodId} {meth : Method} {c : Code} (h1 : s.methodNamed? y = some m) (h2 : s.vm.method? m = some meth) (h3 : meth.code = some c) (h4 : c.code = bytes)
    (h5 : (c.maxLocals == mx && c.exceptionTable.isEmpty && decide (c.maxStack ≤ mostOperands) && decide (meth.sig.returnType = rt) && !meth.locks && decide (parseMethodDescriptor y.desc = some meth.sig)) = true) : (Jvm.Cond.code y bytes mx rt).before a s = true := by
  simp only [Bool.and_eq_true, beq_iff_eq, Bool.not_eq_true', decide_eq_true_eq] at h5
  obtain ⟨⟨⟨⟨⟨g1, g2⟩, g3⟩, g4⟩, g5⟩, g6⟩ := h5
  simp [Cond.before, Cond.holds, Cond.value, h1, h2, h3, h4, g1, g2, g3, g4, g5, g6]
def isCode : Jvm.Cond → Bool
  | .code _ _ _ _ => true
  | _ => false
theorem all_split {L : List Jvm.Cond} {P : Jvm.Cond → Bool} (h1 : L.all (fun c => isCode c || P c) = true) (h2 : ∀ c ∈ L.filter isCode, P c = true) : L.all P = true := by
  refine List.all_eq_true.mpr fun c hc => ?_
  have h := List.all_eq_true.mp h1 c hc
  rcases Bool.eq_false_or_eq_true (isCode c) with hi | hi
  · exact h2 c (List.mem_filter.mpr ⟨hc, hi⟩)
  · simpa [hi] using h
set_option maxRecDepth 65536 in
theorem w_c0 : (Jvm.Cond.code x code maxLocals ret).before args0 about1 = true := code_word (m := ⟨1, 1⟩) (meth := k1m1) (c := k1c1) (by decide +kernel) rfl rfl rfl (by decide +kernel)
set_option maxRecDepth 65536 in
theorem w_c1 : (Jvm.Cond.code ({ cls := "com/example/soft_throttle/softthrottle/TokenBucket", name := "checkBurstSize", desc := "(J)V" } : Jvm.MethodName) prog_4_method_4_code (2 : Nat) (Option.none : Option Jvm.ClassFile.FieldType)).before args0 about1 = true := code_word (m := ⟨2, 0⟩) (meth := k2m0) (c := k2c0) (by decide +kernel) rfl rfl rfl (by decide +kernel)
def codes1 : List Jvm.Cond := [Jvm.Cond.code x code maxLocals ret, Jvm.Cond.code ({ cls := "com/example/soft_throttle/softthrottle/TokenBucket", name := "checkBurstSize", desc := "(J)V" } : Jvm.MethodName) prog_4_method_4_code (2 : Nat) (Option.none : Option Jvm.ClassFile.FieldType)]
set_option maxRecDepth 65536 in
theorem codes_eq : words1.filter isCode = codes1 := rfl
theorem w_codes : ∀ c ∈ words1.filter isCode, c.before args0 about1 = true := by
  rw [codes_eq]
  intro c hc
  simp only [codes1, List.mem_cons, List.not_mem_nil, or_false] at hc
  rcases hc with rfl | rfl
  · exact w_c0
  · exact w_c1
set_option maxRecDepth 65536 in
theorem w_t1 : words1.all (fun c => isCode c || c.before args0 about1) = true := by decide +kernel
theorem w_tables : (allAtoms (Jvm.Cond.code x code maxLocals ret :: tables_1)).before args0 about1 = true := by
  rw [allAtoms_all]
  show words1.all (fun c => c.before args0 about1) = true
  refine all_split ?_ w_codes
  rw [w_t1]
set_option maxRecDepth 65536 in
theorem w_case : (Jvm.Cond.and given_1 narrow_1).before args0 about1 = true := by decide +kernel
theorem w_applies : (headSpec (Jvm.Cond.code x code maxLocals ret :: tables_1) room_1).applies x e0.platform about1 = true :=
  (Spec.applies_iff w_frames).mpr ⟨w_running, w_runnable, w_alone, w_named, w_hears, w_ripe, w_room, w_tables⟩
theorem atStart : AtStart classFile x code maxLocals ret World_1 tables_1 room_1 Calls_1 rest_1 Pre_1 launch0 p0 e0 about1 theMethod args0 below0 :=
  ⟨lists_1, trivial, launch0.admits_env _ _ _, launch0.least_env, fairChoices_fair.cas, fairChoices_fair.clock, w_frames, w_args, w_heap, w_applies, trivial, trivial, w_case⟩
end start1
theorem witness_1 : WitnessClaimed_1 := ⟨start1.p0, start1.e0, start1.about1, start1.theMethod, start1.args0, start1.below0, start1.atStart⟩
end Jvm.Pilot.@@N@@
