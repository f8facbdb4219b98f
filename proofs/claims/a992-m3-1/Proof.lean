import JvmDerived
import JvmDerived.Pilot.@@N@@Statement
import JvmDerived.Pilot.@@N@@Code
set_option linter.unusedVariables false
set_option linter.unusedSimpArgs false
namespace Jvm.Pilot.@@N@@
open Jvm Jvm.ClassFile Sem Op Lib Jvm.Free Jvm.Stand Jvm.LawKit Jvm.RoadKit Bundle Jvm.Pilot.@@N@@.Jvm.D
/-- from S the run comes to a state that P allows -/
def Comes (p : Program) (e : Env) (below : List Frame) (P : State → Prop) (S : State) : Prop := ∃ S', Steps p.tables e below S S' ∧ P S'
/-- how a body ends that Q allows -/
def EndsAt (below : List Frame) (s : State) (Q : Option Value → Heap → List Loc → Prop) (kc ks : Nat) (s₂ : State) : Prop := ∃ o, s₂.status = .running ∧ Ended s₂ below o ∧ ∃ v L, o = .returned v ∧ Q v s₂.heap L ∧ FrameEnd s o s₂ L kc ks
section Own
variable {p : Program} {l : Launch} {e : Env} {R : Room} {s : State} {m : MethodId} {args : Array Value} {below : List Frame} {meth : Method} {c : Code} {T : State} {locs : List Loc} {cells slots : Nat} {Q : Option Value → Heap → List Loc → Prop} {kc ks : Nat} {P : State → Prop} {S S' : State} {h : Heap}
theorem Comes.here (q : P S) : Comes p e below P S := ⟨S, Steps.refl _, q⟩
theorem Comes.st (f : ∀ t, Steps p.tables e below S' t → Steps p.tables e below S t) (g : Comes p e below P S') : Comes p e below P S := by
  obtain ⟨s₂, h1, r⟩ := g; exact ⟨s₂, f _ h1, r⟩
theorem Comes.go (f : Steps p.tables e below S S') (g : Comes p e below P S') : Comes p e below P S := by
  obtain ⟨s₂, h1, r⟩ := g; exact ⟨s₂, f.trans h1, r⟩
theorem Comes.cast {g g' : JFrame} (q : g = g') (k : Comes p e below P (T.setTop g')) : Comes p e below P (T.setTop g) := q ▸ k
theorem Comes.out (h : Comes p e below (EndsAt below s Q kc ks) S) : ∃ s₂ o, Steps p.tables e below S s₂ ∧ s₂.status = .running ∧ Ended s₂ below o ∧ ∃ v L, o = .returned v ∧ Q v s₂.heap L ∧ FrameEnd s o s₂ L kc ks := by
  obtain ⟨s₂, h1, o, r⟩ := h; exact ⟨s₂, o, h1, r⟩
theorem Comes.fin (X : Stand p l e R s m args below meth c T locs cells slots) {v : Option Value} (hv : meth.sig.returnType = none → v = none) (hlk : meth.locks = false)
    (hs : ∀ fs, (∀ (f : JFrame) (acts : List Action), f.method = m → f.locked = none → f.entered = [] → (doReturn e (T.setTop f) acts v).1 = T.setFrames fs) → Steps p.tables e below S (T.setFrames fs))
    (eT : T.heap = h) (hq : Q v h locs) (hc : cells ≤ kc) (hl : slots ≤ ks) : Comes p e below (EndsAt below s Q kc ks) S := by
  obtain ⟨fs, hr, hrun, hended, hW, hsame⟩ := X.leave (v := v) hv hlk
  exact ⟨_, hs fs hr, _, hrun, hended, _, _, rfl, (show Q v T.heap locs from by rw [eT]; exact hq), ⟨_, rfl⟩, hW, hsame.mono hc hl⟩
theorem Comes.ret0 (X : Stand p l e R s m args below meth c T locs cells slots) (hx : p.tables.exec = Jvm.exec) {pc : Nat} {Ls : Array Slot} (hret : meth.sig.returnType = none) (hlk : meth.locks = false) (hd : decode c.code pc = .ok (.return_, 1))
    (eT : T.heap = h) (hq : Q none h locs) (hc : cells ≤ kc) (hl : slots ≤ ks) : Comes p e below (EndsAt below s Q kc ks) (T.setTop (mkF m pc Ls [])) :=
  Comes.fin X (fun _ => rfl) hlk (fun _ hr => X.returnOut hx hret hd hr) eT hq hc hl
theorem Comes.retN (X : Stand p l e R s m args below meth c T locs cells slots) (hx : p.tables.exec = Jvm.exec) {pc : Nat} {Ls : Array Slot} {z : Int32} {t : FieldType} {rest : List Value} (hret : meth.sig.returnType = some t) (ht : t = .boolean ∨ t = .byte ∨ t = .char ∨ t = .short) (hlk : meth.locks = false) (hd : decode c.code pc = .ok (.ireturn, 1))
    (eT : T.heap = h) (hq : Q (some (.int (nar t z))) h locs) (hc : cells ≤ kc) (hl : slots ≤ ks) : Comes p e below (EndsAt below s Q kc ks) (T.setTop (mkF m pc Ls (.int z :: rest))) :=
  Comes.fin X (fun q => by rw [hret] at q; cases q) hlk (fun _ hr => Jvm.RoadKit.retN X hx hret ht hd hr) eT hq hc hl
theorem Comes.retV (X : Stand p l e R s m args below meth c T locs cells slots) (hx : p.tables.exec = Jvm.exec) {pc : Nat} {Ls : Array Slot} {w : Value} {t : FieldType} {i : Instr} {rest : List Value} (hret : meth.sig.returnType = some t) (hn : narrow t w = w)
    (hi : (i = .ireturn ∧ (t = .int ∨ t = .boolean ∨ t = .byte ∨ t = .char ∨ t = .short) ∧ ∃ z, w = .int z) ∨ (i = .lreturn ∧ t = .long ∧ ∃ z, w = .long z) ∨ (i = .dreturn ∧ t = .double ∧ ∃ z, w = .double z) ∨ (i = .freturn ∧ t = .float ∧ ∃ z, w = .float z) ∨ (i = .areturn ∧ t.isReference = true ∧ w.isRef = true))
    (hlk : meth.locks = false) (hd : decode c.code pc = .ok (i, 1))
    (eT : T.heap = h) (hq : Q (some w) h locs) (hc : cells ≤ kc) (hl : slots ≤ ks) : Comes p e below (EndsAt below s Q kc ks) (T.setTop (mkF m pc Ls (w :: rest))) :=
  Comes.fin X (fun q => by rw [hret] at q; cases q) hlk (fun _ hr => retOut X hx hret hn hi hd hr) eT hq hc hl
theorem narrow_ref {t : FieldType} {w : Value} (h : w.isRef = true) : narrow t w = w := by rcases ref_cases h with rfl | ⟨y, rfl⟩ <;> cases t <;> rfl
theorem lremM {g : JFrame} {target : State} (X : Stand p l e R s m args below meth c T locs cells slots) (hx : p.tables.exec = Jvm.exec) (hg : g.method = m) {x y : Int64} {rest : List Value} (hd : decode c.code g.pc = .ok (.lrem, 1)) (hs : g.stack = .long y :: .long x :: rest) (hy : ¬ y = 0)
    (hr : Steps p.tables e below (T.setTop { g with pc := g.pc + 1, stack := .long (x % y) :: rest }) target) : Steps p.tables e below (T.setTop g) target := by
  have q : x - x / y * y = x % y := lrem_mod x y
  exact XT.lrem X.here hx hg hd hs hy (by rw [q]; exact hr)
theorem own_lrem (x y : Int64) (d : Int) (hy : y.toInt = d) : (0 ≤ x.toInt → (x % y).toInt = x.toInt % d) ∧ (x.toInt < 0 → (x % y).toInt = -((-x.toInt) % d)) := by rw [Int64.toInt_mod, hy]; exact tr _ _
theorem own_lremV (x y : Int64) : 0 ≤ x.toInt → 0 < y.toInt → 0 ≤ (x % y).toInt ∧ (x % y).toInt < y.toInt := by
  intro h1 h2
  rw [Int64.toInt_mod, Int.tmod_eq_emod_of_nonneg h1]
  exact ⟨Int.emod_nonneg _ (by omega), Int.emod_lt_of_pos _ h2⟩
theorem own_eqi {a0 : Array Value} {Z : State} {t : Term} {k : Int32} {idx : List Nat} (h : (Jvm.Cond.eq t (Term.int k)).value a0 Z none Z idx = some true) : t.eval a0 Z none idx Z = some (.int k) := by
  obtain ⟨x, y, e1, e2, k1, k2⟩ := cmp_v (Or.inl h)
  simp only [Term.eval, Option.some.injEq] at e2
  subst e2
  obtain ⟨z, rfl⟩ := k2
  simp [Cond.value, e1, Term.eval] at h
  rw [e1, h]
theorem own_selp {a0 : Array Value} {Z : State} {y : MethodName} {n : Nat} (wi : (Jvm.Cond.instantiable y.cls n).before a0 Z = true) (wp : (Jvm.Cond.privateMethod y).before a0 Z = true) (wm : (Jvm.Cond.instanceMethod y).before a0 Z = true) (hy : y.cls ≠ "java/lang/invoke/MethodHandle" ∧ y.cls ≠ "java/lang/invoke/VarHandle") : (Jvm.Cond.selects y.cls y y).before a0 Z = true := by
  obtain ⟨c, k, h1, h2, h3, h4, -⟩ := Cond.instantiable_spec wi
  exact Jvm.Stand.selects_self_of_private h1 h2 (by simp only [Bool.or_eq_false_iff] at h4; exact h4.1) (Cond.privateMethod_at wp) wm hy
theorem own_eqr {a0 : Array Value} {Z : State} {t u : Term} {y : Value} {idx : List Nat} (h : (Jvm.Cond.eq t u).value a0 Z none Z idx = some true) (hu : u.eval a0 Z none idx Z = some y) (hy : y.isRef = true) : t.eval a0 Z none idx Z = some y := by
  obtain ⟨x, y', e1, e2, k1, k2⟩ := cmp_v (Or.inl h)
  cases hu.symm.trans e2
  have hx : x.isRef = true := by
    rcases ref_cases hy with rfl | ⟨z, rfl⟩ <;> cases x <;> simp_all [Kin, Value.isRef]
  rw [e1, gotT (eq_R e1 hu hx hy) h]
theorem own_len {a0 : Array Value} {Z : State} {t : Term} {a : Addr} {cl : Cell} {ty : FieldType} {k : Int32} (ht : t.eval a0 Z none [] Z = some (.ref a)) (A : Arr Z Z.heap a cl ty) (h : (Jvm.Cond.eq (Term.length t) (Term.int k)).value a0 Z none Z [] = some true) : cl.slots.size < 2 ^ 31 ∧ cl.slots.size.toInt32 = k := by
  have e := own_eqi h
  have e2 := A.fin (Vm.Alike.refl _)
  simp [Term.eval, ht, e2] at e
  exact ⟨by omega, e.2⟩
theorem own_elem {a0 : Array Value} {Z : State} {t u : Term} {a : Addr} {cl : Cell} {j : Int32} {y : Value} (ht : t.eval a0 Z none [] Z = some (.ref a)) (hc : Z.heap[a]? = some cl) (h : (Jvm.Cond.eq (Term.elem t (Term.int j)) u).value a0 Z none Z [] = some true) (hu : u.eval a0 Z none [] Z = some y) (hy : y.isRef = true) : cl.slots[j.toNatClampNeg]? = some y := (elem_in (own_eqr h hu hy) ht (by rfl) hc).2
theorem own_fldi {a0 : Array Value} {Z : State} {t : Term} {k : Int32} {a : Addr} {C n d : String} (ht : t.eval a0 Z none [] Z = some (.ref a)) (h : (Jvm.Cond.eq (Term.field t C n d) (Term.int k)).value a0 Z none Z [] = some true) : Fld Z Z.heap a C n d (.int k) := Fld.start ((fld_at ht).symm.trans (own_eqi h))
end Own
theorem d1_0 : decode prog_47_method_1_code 0 = .ok (.aload_n 0, 1) := by decide +kernel
theorem d1_1 : decode prog_47_method_1_code 1 = .ok (.invokespecial 1, 3) := by decide +kernel
theorem d1_4 : decode prog_47_method_1_code 4 = .ok (.aload_n 0, 1) := by decide +kernel
theorem d1_5 : decode prog_47_method_1_code 5 = .ok (.aload_n 1, 1) := by decide +kernel
theorem d1_6 : decode prog_47_method_1_code 6 = .ok (.putfield 7, 3) := by decide +kernel
theorem d1_9 : decode prog_47_method_1_code 9 = .ok (.aload_n 0, 1) := by decide +kernel
theorem d1_10 : decode prog_47_method_1_code 10 = .ok (.lload_n 2, 1) := by decide +kernel
theorem d1_11 : decode prog_47_method_1_code 11 = .ok (.putfield 13, 3) := by decide +kernel
theorem d1_14 : decode prog_47_method_1_code 14 = .ok (.return_, 1) := by decide +kernel
theorem d3_0 : decode prog_47_method_4_code 0 = .ok (.aload_n 0, 1) := by decide +kernel
theorem d3_1 : decode prog_47_method_4_code 1 = .ok (.dup, 1) := by decide +kernel
theorem d3_2 : decode prog_47_method_4_code 2 = .ok (.getfield 21, 3) := by decide +kernel
theorem d3_5 : decode prog_47_method_4_code 5 = .ok (.lload_n 1, 1) := by decide +kernel
theorem d3_6 : decode prog_47_method_4_code 6 = .ok (.ladd, 1) := by decide +kernel
theorem d3_7 : decode prog_47_method_4_code 7 = .ok (.putfield 21, 3) := by decide +kernel
theorem d3_10 : decode prog_47_method_4_code 10 = .ok (.return_, 1) := by decide +kernel
theorem d4_0 : decode prog_47_method_5_code 0 = .ok (.aload_n 0, 1) := by decide +kernel
theorem d4_1 : decode prog_47_method_5_code 1 = .ok (.dup, 1) := by decide +kernel
theorem d4_2 : decode prog_47_method_5_code 2 = .ok (.getfield 21, 3) := by decide +kernel
theorem d4_5 : decode prog_47_method_5_code 5 = .ok (.lload_n 1, 1) := by decide +kernel
theorem d4_6 : decode prog_47_method_5_code 6 = .ok (.lsub, 1) := by decide +kernel
theorem d4_7 : decode prog_47_method_5_code 7 = .ok (.putfield 21, 3) := by decide +kernel
theorem d4_10 : decode prog_47_method_5_code 10 = .ok (.return_, 1) := by decide +kernel
theorem d5_0 : decode prog_47_method_3_code 0 = .ok (.lload_n 1, 1) := by decide +kernel
theorem d5_1 : decode prog_47_method_3_code 1 = .ok (.aload_n 0, 1) := by decide +kernel
theorem d5_2 : decode prog_47_method_3_code 2 = .ok (.getfield 13, 3) := by decide +kernel
theorem d5_5 : decode prog_47_method_3_code 5 = .ok (.aload_n 0, 1) := by decide +kernel
theorem d5_6 : decode prog_47_method_3_code 6 = .ok (.getfield 21, 3) := by decide +kernel
theorem d5_9 : decode prog_47_method_3_code 9 = .ok (.lsub, 1) := by decide +kernel
theorem d5_10 : decode prog_47_method_3_code 10 = .ok (.lcmp, 1) := by decide +kernel
theorem d5_11 : decode prog_47_method_3_code 11 = .ok (.ifCond .gt 7, 3) := by decide +kernel
theorem d5_18 : decode prog_47_method_3_code 18 = .ok (.iconst 0, 1) := by decide +kernel
theorem d5_19 : decode prog_47_method_3_code 19 = .ok (.ireturn, 1) := by decide +kernel
theorem d5_14 : decode prog_47_method_3_code 14 = .ok (.iconst 1, 1) := by decide +kernel
theorem d5_15 : decode prog_47_method_3_code 15 = .ok (.goto 4, 3) := by decide +kernel
theorem pd_0 : parseMethodDescriptor "(Lcom/example/ferry2/ferry2/util/HeapShare;J)V" = some ⟨[(.object "com/example/ferry2/ferry2/util/HeapShare"), .long], none⟩ := by decide +kernel
theorem pd_1 : parseMethodDescriptor "(J)V" = some ⟨[.long], none⟩ := by decide +kernel
theorem pd_2 : parseMethodDescriptor "(J)Z" = some ⟨[.long], some .boolean⟩ := by decide +kernel
theorem pn_1 : plainName "com/example/ferry2/ferry2/util/MemoryBudget" = true := by first | (simp [plainName, overriddenIn]; done) | decide +kernel
theorem pn_3 : plainName "com/example/ferry2/ferry2/util/MemoryBudget" = true := by first | (simp [plainName, overriddenIn]; done) | decide +kernel
theorem pn_4 : plainName "com/example/ferry2/ferry2/util/MemoryBudget" = true := by first | (simp [plainName, overriddenIn]; done) | decide +kernel
theorem pn_5 : plainName "com/example/ferry2/ferry2/util/MemoryBudget" = true := by first | (simp [plainName, overriddenIn]; done) | decide +kernel
theorem pn_0 : plainName "com/example/ferry2/ferry2/util/MemoryBudgetHasRoomPinLaw" = true := by first | (simp [plainName, overriddenIn]; done) | decide +kernel
theorem ef_rm1 (m : MethodId) (x0 : Addr) (x1 : Addr) (x2 : Int64) : entryFrame m #[(.ref x0), (.ref x1), (.long x2)] 4 = mkF m 0 #[.val (.ref x0), .val (.ref x1), .val (.long x2), .second] [] := by first | (simp [entryFrame, mkF, argsToLocals, Value.category]; done) | rfl
theorem ef_rm3 (m : MethodId) (x0 : Addr) (x1 : Int64) : entryFrame m #[(.ref x0), (.long x1)] 3 = mkF m 0 #[.val (.ref x0), .val (.long x1), .second] [] := by first | (simp [entryFrame, mkF, argsToLocals, Value.category]; done) | rfl
theorem ef_rm4 (m : MethodId) (x0 : Addr) (x1 : Int64) : entryFrame m #[(.ref x0), (.long x1)] 3 = mkF m 0 #[.val (.ref x0), .val (.long x1), .second] [] := by first | (simp [entryFrame, mkF, argsToLocals, Value.category]; done) | rfl
theorem ef_rm5 (m : MethodId) (x0 : Addr) (x1 : Int64) : entryFrame m #[(.ref x0), (.long x1)] 3 = mkF m 0 #[.val (.ref x0), .val (.long x1), .second] [] := by first | (simp [entryFrame, mkF, argsToLocals, Value.category]; done) | rfl
theorem ef_rm0 (m : MethodId) (x0 : Int64) (x1 : Int64) (x2 : Int64) (x3 : Int64) : entryFrame m #[(.long x0), (.long x1), (.long x2), (.long x3)] maxLocals = mkF m 0 #[.val (.long x0), .second, .val (.long x1), .second, .val (.long x2), .second, .val (.long x3), .second, .unset, .unset, .unset, .unset, .unset, .unset, .unset, .unset, .unset, .unset, .unset, .unset, .unset, .unset] [] := by first | (simp [entryFrame, mkF, argsToLocals, Value.category, maxLocals]; done) | rfl
def Q_rm1 (Z : State) (self : Addr) (sh : Addr) (lim : Int64) (h0 : Heap) (n0 : Nat) (v : Option Value) (h : Heap) (L : List Loc) : Prop := (v = none) ∧ (Fr n0 L) ∧ (Keep h0 h [self]) ∧ (Exa Z h self "com/example/ferry2/ferry2/util/MemoryBudget") ∧ (Fld Z h self "com/example/ferry2/ferry2/util/MemoryBudget" "limit" "J" (.long lim)) ∧ (Fld Z h self "com/example/ferry2/ferry2/util/MemoryBudget" "reserved" "J" (.long (0 : Int64)))
set_option maxRecDepth 65536 in
set_option maxHeartbeats 40000000 in
theorem rm1 (l : Launch) (Z : State) (a0 : Array Value) (hw : ∀ d ∈ tables_1, d.before a0 Z = true) (ws : List Jvm.Cond) (self : Addr) (sh : Addr) (lim : Int64) (h0 : Heap) (n0 : Nat) (Z0 : n0 ≤ h0.size) (G0 : Exa Z h0 self "com/example/ferry2/ferry2/util/MemoryBudget") (G1 : Fld Z h0 self "com/example/ferry2/ferry2/util/MemoryBudget" "share" "Lcom/example/ferry2/ferry2/util/HeapShare;" .null) (G2 : Fld Z h0 self "com/example/ferry2/ferry2/util/MemoryBudget" "limit" "J" (.long (0 : Int64))) (G3 : Fld Z h0 self "com/example/ferry2/ferry2/util/MemoryBudget" "reserved" "J" (.long (0 : Int64))) (G4 : n0 ≤ self) :
    MetFree l (⟨"com/example/ferry2/ferry2/util/MemoryBudget", "<init>", "(Lcom/example/ferry2/ferry2/util/HeapShare;J)V"⟩ : MethodName) (head1 (Jvm.Cond.code (⟨"com/example/ferry2/ferry2/util/MemoryBudget", "<init>", "(Lcom/example/ferry2/ferry2/util/HeapShare;J)V"⟩ : MethodName) prog_47_method_1_code 4 none :: ws) ({ frames := 1, cells := 0, slots := 0, locals := 12 } : Room)) (fun a U => a = #[(.ref self), (.ref sh), (.long lim)] ∧ Z.Warmed39 U.vm ∧ U.heap = h0) (fun _ _ _ _ _ => True) (fun _ U o U' => ∃ v L, o = .returned v ∧ Q_rm1 Z self sh lim h0 n0 v U'.heap L ∧ FrameEnd U o U' L ({ frames := 1, cells := 0, slots := 0, locals := 12 } : Room).cells ({ frames := 1, cells := 0, slots := 0, locals := 12 } : Room).slots) := by
  refine MetFree.of_bodySF (plainFor_of_name pn_1) hisR ?_
  intro p e s m args below meth c s₁ Bd hml0 hP hK
  obtain ⟨rfl, hZ, hh⟩ := hP
  have hx := Bd.exec
  have hby := Bd.bytes
  have hml : c.maxLocals = 4 := hml0
  have hown : s.vm.findClass "com/example/ferry2/ferry2/util/MemoryBudget" = some m.cls := findClass_of_methodNamed Bd.named
  have hnm := (name_of_methodNamed Bd.named Bd.method).1
  have hlk : meth.locks = false := Bd.notSynchronized
  have X0 : Stand p l e ({ frames := 1, cells := 0, slots := 0, locals := 12 } : Room) s m #[(.ref self), (.ref sh), (.long lim)] below meth c s₁ [] 0 0 := Stand.of_body Bd
  have e0 : s₁.heap = h0 := by rw [← hh, Bd.state]; rfl
  have N0 := Fr.nil n0
  have K0 := Keep.refl h0 [self]
  refine Comes.out (Q := Q_rm1 Z self sh lim h0 n0) (kc := ({ frames := 1, cells := 0, slots := 0, locals := 12 } : Room).cells) (ks := ({ frames := 1, cells := 0, slots := 0, locals := 12 } : Room).slots) ?_
  refine Comes.cast (ef_rm1 m self sh lim) ?_
  have lt_self : self < h0.size := G0.lt
  show Comes p e below _ (s₁.setTop (mkF m 0 #[.val (.ref self), .val (.ref sh), .val (.long lim), .second] []))
  refine Comes.st (fun t k => XS.aloadN X0.here hx rfl (hb hby d1_0) rfl rfl k) ?_
  show Comes p e below _ (s₁.setTop (mkF m 1 #[.val (.ref self), .val (.ref sh), .val (.long lim), .second] [(.ref self)]))
  obtain ⟨T1, X1, e1, st1⟩ := initO X0 hx hZ hown (hw _ (List.mem_of_getElem? (i := 10) rfl)) (hw _ (List.mem_of_getElem? (i := 11) rfl)) (hw _ (List.mem_of_getElem? (i := 12) rfl)) e0 (g := (mkF m 1 #[.val (.ref self), .val (.ref sh), .val (.long lim), .second] [(.ref self)])) rfl (by rw [hml]; rfl) rfl (hb hby d1_1) (by decide) (W := 0) (by show 2 * 0 + _ ≤ _; exact Nat.le_of_eq rfl) (by decide)
  refine Comes.st st1 ?_
  show Comes p e below _ (T1.setTop (mkF m 4 #[.val (.ref self), .val (.ref sh), .val (.long lim), .second] []))
  refine Comes.st (fun t k => XS.aloadN X1.here hx rfl (hb hby d1_4) rfl rfl (XS.aloadN X1.here hx rfl (hb hby d1_5) rfl rfl k)) ?_
  show Comes p e below _ (T1.setTop (mkF m 6 #[.val (.ref self), .val (.ref sh), .val (.long lim), .second] [(.ref sh), (.ref self)]))
  obtain ⟨T2, h2, X2, e2, W2, st2⟩ := putF X1 hx hZ hown (host := "") (Or.inl (hw _ (List.mem_of_getElem? (i := 13) rfl))) Via.refl e1 G1 G0 (Or.inr ⟨(hw _ (List.mem_of_getElem? (i := 14) rfl)), rfl, hnm⟩) (hw _ (List.mem_of_getElem? (i := 2) rfl)) (ty := (.object "com/example/ferry2/ferry2/util/HeapShare")) (by decide) rfl rfl (g := (mkF m 6 #[.val (.ref self), .val (.ref sh), .val (.long lim), .second] [(.ref sh), (.ref self)])) rfl rfl (hb hby d1_6)
  have Fw2 := G1.same W2
  have z2 : h2.size = h0.size := W2.size
  have N2 := Fr.snoc X2 N0 (by omega)
  have K2 : Keep h0 h2 [self] := K0.wr W2 (Or.inl (List.mem_of_getElem? (i := 0) rfl))
  refine Comes.st st2 ?_
  show Comes p e below _ (T2.setTop (mkF m 9 #[.val (.ref self), .val (.ref sh), .val (.long lim), .second] []))
  refine Comes.st (fun t k => XS.aloadN X2.here hx rfl (hb hby d1_9) rfl rfl (XS.lloadN X2.here hx rfl (hb hby d1_10) rfl k)) ?_
  show Comes p e below _ (T2.setTop (mkF m 11 #[.val (.ref self), .val (.ref sh), .val (.long lim), .second] [(.long lim), (.ref self)]))
  have F3 : Exa Z h2 self "com/example/ferry2/ferry2/util/MemoryBudget" := (G0.wr W2)
  have F4 : Fld Z h2 self "com/example/ferry2/ferry2/util/MemoryBudget" "limit" "J" (.long (0 : Int64)) := (G2.other W2 (Or.inr (slot_ne (Or.inr (hw _ (List.mem_of_getElem? (i := 16) rfl))) (Or.inr (hw _ (List.mem_of_getElem? (i := 14) rfl))) (by decide) (t := .long) (t' := (.object "com/example/ferry2/ferry2/util/HeapShare")) (by decide) (by decide))))
  obtain ⟨T5, h5, X5, e5, W5, st5⟩ := putF X2 hx hZ hown (host := "") (Or.inl (hw _ (List.mem_of_getElem? (i := 15) rfl))) Via.refl e2 F4 F3 (Or.inr ⟨(hw _ (List.mem_of_getElem? (i := 16) rfl)), rfl, hnm⟩) (hw _ (List.mem_of_getElem? (i := 2) rfl)) (ty := .long) (by decide) rfl rfl (g := (mkF m 11 #[.val (.ref self), .val (.ref sh), .val (.long lim), .second] [(.long lim), (.ref self)])) rfl rfl (hb hby d1_11)
  have Fw5 := F4.same W5
  have z5 : h5.size = h2.size := W5.size
  have N5 := Fr.snoc X5 N2 (by omega)
  have K5 : Keep h0 h5 [self] := K2.wr W5 (Or.inl (List.mem_of_getElem? (i := 0) rfl))
  refine Comes.st st5 ?_
  show Comes p e below _ (T5.setTop (mkF m 14 #[.val (.ref self), .val (.ref sh), .val (.long lim), .second] []))
  have F6 : Exa Z h5 self "com/example/ferry2/ferry2/util/MemoryBudget" := (F3.wr W5)
  have F7 : Fld Z h5 self "com/example/ferry2/ferry2/util/MemoryBudget" "reserved" "J" (.long (0 : Int64)) := ((G3.other W2 (Or.inr (slot_ne (Or.inl (hw _ (List.mem_of_getElem? (i := 23) rfl))) (Or.inr (hw _ (List.mem_of_getElem? (i := 14) rfl))) (by decide) (t := .long) (t' := (.object "com/example/ferry2/ferry2/util/HeapShare")) (by decide) (by decide)))).other W5 (Or.inr (slot_ne (Or.inl (hw _ (List.mem_of_getElem? (i := 23) rfl))) (Or.inr (hw _ (List.mem_of_getElem? (i := 16) rfl))) (by decide) (t := .long) (t' := .long) (by decide) (by decide))))
  exact Comes.ret0 X5 hx Bd.returns hlk (hb hby d1_14) e5 ⟨rfl, N5, K5, F6, Fw5, F7⟩ (by decide) (by decide)
def Q_rm3 (Z : State) (self : Addr) (amt : Int64) (lim : Int64) (rsv : Int64) (h0 : Heap) (n0 : Nat) (v : Option Value) (h : Heap) (L : List Loc) : Prop := (v = none) ∧ (Fr n0 L) ∧ (Keep h0 h [self]) ∧ (Exa Z h self "com/example/ferry2/ferry2/util/MemoryBudget") ∧ (Fld Z h self "com/example/ferry2/ferry2/util/MemoryBudget" "limit" "J" (.long lim)) ∧ (Fld Z h self "com/example/ferry2/ferry2/util/MemoryBudget" "reserved" "J" (.long (rsv + amt)))
set_option maxRecDepth 65536 in
set_option maxHeartbeats 40000000 in
theorem rm3 (l : Launch) (Z : State) (a0 : Array Value) (hw : ∀ d ∈ tables_1, d.before a0 Z = true) (ws : List Jvm.Cond) (self : Addr) (amt : Int64) (lim : Int64) (rsv : Int64) (h0 : Heap) (n0 : Nat) (Z0 : n0 ≤ h0.size) (G0 : Exa Z h0 self "com/example/ferry2/ferry2/util/MemoryBudget") (G1 : Fld Z h0 self "com/example/ferry2/ferry2/util/MemoryBudget" "limit" "J" (.long lim)) (G2 : Fld Z h0 self "com/example/ferry2/ferry2/util/MemoryBudget" "reserved" "J" (.long rsv)) (G3 : n0 ≤ self) :
    MetFree l (⟨"com/example/ferry2/ferry2/util/MemoryBudget", "reserveAnyway", "(J)V"⟩ : MethodName) (head1 (Jvm.Cond.code (⟨"com/example/ferry2/ferry2/util/MemoryBudget", "reserveAnyway", "(J)V"⟩ : MethodName) prog_47_method_4_code 3 none :: ws) ({ frames := 0, cells := 0, slots := 0, locals := 0 } : Room)) (fun a U => a = #[(.ref self), (.long amt)] ∧ Z.Warmed39 U.vm ∧ U.heap = h0) (fun _ _ _ _ _ => True) (fun _ U o U' => ∃ v L, o = .returned v ∧ Q_rm3 Z self amt lim rsv h0 n0 v U'.heap L ∧ FrameEnd U o U' L ({ frames := 0, cells := 0, slots := 0, locals := 0 } : Room).cells ({ frames := 0, cells := 0, slots := 0, locals := 0 } : Room).slots) := by
  refine MetFree.of_bodySF (plainFor_of_name pn_3) hisR ?_
  intro p e s m args below meth c s₁ Bd hml0 hP hK
  obtain ⟨rfl, hZ, hh⟩ := hP
  have hx := Bd.exec
  have hby := Bd.bytes
  have hml : c.maxLocals = 3 := hml0
  have hown : s.vm.findClass "com/example/ferry2/ferry2/util/MemoryBudget" = some m.cls := findClass_of_methodNamed Bd.named
  have hnm := (name_of_methodNamed Bd.named Bd.method).1
  have hlk : meth.locks = false := Bd.notSynchronized
  have X0 : Stand p l e ({ frames := 0, cells := 0, slots := 0, locals := 0 } : Room) s m #[(.ref self), (.long amt)] below meth c s₁ [] 0 0 := Stand.of_body Bd
  have e0 : s₁.heap = h0 := by rw [← hh, Bd.state]; rfl
  have N0 := Fr.nil n0
  have K0 := Keep.refl h0 [self]
  refine Comes.out (Q := Q_rm3 Z self amt lim rsv h0 n0) (kc := ({ frames := 0, cells := 0, slots := 0, locals := 0 } : Room).cells) (ks := ({ frames := 0, cells := 0, slots := 0, locals := 0 } : Room).slots) ?_
  refine Comes.cast (ef_rm3 m self amt) ?_
  have lt_self : self < h0.size := G0.lt
  show Comes p e below _ (s₁.setTop (mkF m 0 #[.val (.ref self), .val (.long amt), .second] []))
  refine Comes.st (fun t k => XS.aloadN X0.here hx rfl (hb hby d3_0) rfl rfl (XS.dup X0.here hx rfl (hb hby d3_1) rfl rfl k)) ?_
  show Comes p e below _ (s₁.setTop (mkF m 2 #[.val (.ref self), .val (.long amt), .second] [(.ref self), (.ref self)]))
  obtain ⟨T1, X1, e1, st1⟩ := getF X0 hx hZ hown (host := "") (Or.inl (hw _ (List.mem_of_getElem? (i := 22) rfl))) Via.refl e0 G2 (g := (mkF m 2 #[.val (.ref self), .val (.long amt), .second] [(.ref self), (.ref self)])) rfl rfl (hb hby d3_2)
  refine Comes.st st1 ?_
  show Comes p e below _ (T1.setTop (mkF m 5 #[.val (.ref self), .val (.long amt), .second] [(.long rsv), (.ref self)]))
  refine Comes.st (fun t k => XS.lloadN X1.here hx rfl (hb hby d3_5) rfl (XS.ladd X1.here hx rfl (hb hby d3_6) rfl k)) ?_
  show Comes p e below _ (T1.setTop (mkF m 7 #[.val (.ref self), .val (.long amt), .second] [(.long (rsv + amt)), (.ref self)]))
  obtain ⟨T2, h2, X2, e2, W2, st2⟩ := putF X1 hx hZ hown (host := "") (Or.inl (hw _ (List.mem_of_getElem? (i := 22) rfl))) Via.refl e1 G2 G0 (Or.inl (hw _ (List.mem_of_getElem? (i := 23) rfl))) (hw _ (List.mem_of_getElem? (i := 2) rfl)) (ty := .long) (by decide) rfl rfl (g := (mkF m 7 #[.val (.ref self), .val (.long amt), .second] [(.long (rsv + amt)), (.ref self)])) rfl rfl (hb hby d3_7)
  have Fw2 := G2.same W2
  have z2 : h2.size = h0.size := W2.size
  have N2 := Fr.snoc X2 N0 (by omega)
  have K2 : Keep h0 h2 [self] := K0.wr W2 (Or.inl (List.mem_of_getElem? (i := 0) rfl))
  refine Comes.st st2 ?_
  show Comes p e below _ (T2.setTop (mkF m 10 #[.val (.ref self), .val (.long amt), .second] []))
  have F3 : Exa Z h2 self "com/example/ferry2/ferry2/util/MemoryBudget" := (G0.wr W2)
  have F4 : Fld Z h2 self "com/example/ferry2/ferry2/util/MemoryBudget" "limit" "J" (.long lim) := (G1.other W2 (Or.inr (slot_ne (Or.inr (hw _ (List.mem_of_getElem? (i := 16) rfl))) (Or.inl (hw _ (List.mem_of_getElem? (i := 23) rfl))) (by decide) (t := .long) (t' := .long) (by decide) (by decide))))
  exact Comes.ret0 X2 hx Bd.returns hlk (hb hby d3_10) e2 ⟨rfl, N2, K2, F3, F4, Fw2⟩ (by decide) (by decide)
def Q_rm4 (Z : State) (self : Addr) (amt : Int64) (lim : Int64) (rsv : Int64) (h0 : Heap) (n0 : Nat) (v : Option Value) (h : Heap) (L : List Loc) : Prop := (v = none) ∧ (Fr n0 L) ∧ (Keep h0 h [self]) ∧ (Exa Z h self "com/example/ferry2/ferry2/util/MemoryBudget") ∧ (Fld Z h self "com/example/ferry2/ferry2/util/MemoryBudget" "limit" "J" (.long lim)) ∧ (Fld Z h self "com/example/ferry2/ferry2/util/MemoryBudget" "reserved" "J" (.long (rsv - amt)))
set_option maxRecDepth 65536 in
set_option maxHeartbeats 40000000 in
theorem rm4 (l : Launch) (Z : State) (a0 : Array Value) (hw : ∀ d ∈ tables_1, d.before a0 Z = true) (ws : List Jvm.Cond) (self : Addr) (amt : Int64) (lim : Int64) (rsv : Int64) (h0 : Heap) (n0 : Nat) (Z0 : n0 ≤ h0.size) (G0 : Exa Z h0 self "com/example/ferry2/ferry2/util/MemoryBudget") (G1 : Fld Z h0 self "com/example/ferry2/ferry2/util/MemoryBudget" "limit" "J" (.long lim)) (G2 : Fld Z h0 self "com/example/ferry2/ferry2/util/MemoryBudget" "reserved" "J" (.long rsv)) (G3 : n0 ≤ self) :
    MetFree l (⟨"com/example/ferry2/ferry2/util/MemoryBudget", "release", "(J)V"⟩ : MethodName) (head1 (Jvm.Cond.code (⟨"com/example/ferry2/ferry2/util/MemoryBudget", "release", "(J)V"⟩ : MethodName) prog_47_method_5_code 3 none :: ws) ({ frames := 0, cells := 0, slots := 0, locals := 0 } : Room)) (fun a U => a = #[(.ref self), (.long amt)] ∧ Z.Warmed39 U.vm ∧ U.heap = h0) (fun _ _ _ _ _ => True) (fun _ U o U' => ∃ v L, o = .returned v ∧ Q_rm4 Z self amt lim rsv h0 n0 v U'.heap L ∧ FrameEnd U o U' L ({ frames := 0, cells := 0, slots := 0, locals := 0 } : Room).cells ({ frames := 0, cells := 0, slots := 0, locals := 0 } : Room).slots) := by
  refine MetFree.of_bodySF (plainFor_of_name pn_4) hisR ?_
  intro p e s m args below meth c s₁ Bd hml0 hP hK
  obtain ⟨rfl, hZ, hh⟩ := hP
  have hx := Bd.exec
  have hby := Bd.bytes
  have hml : c.maxLocals = 3 := hml0
  have hown : s.vm.findClass "com/example/ferry2/ferry2/util/MemoryBudget" = some m.cls := findClass_of_methodNamed Bd.named
  have hnm := (name_of_methodNamed Bd.named Bd.method).1
  have hlk : meth.locks = false := Bd.notSynchronized
  have X0 : Stand p l e ({ frames := 0, cells := 0, slots := 0, locals := 0 } : Room) s m #[(.ref self), (.long amt)] below meth c s₁ [] 0 0 := Stand.of_body Bd
  have e0 : s₁.heap = h0 := by rw [← hh, Bd.state]; rfl
  have N0 := Fr.nil n0
  have K0 := Keep.refl h0 [self]
  refine Comes.out (Q := Q_rm4 Z self amt lim rsv h0 n0) (kc := ({ frames := 0, cells := 0, slots := 0, locals := 0 } : Room).cells) (ks := ({ frames := 0, cells := 0, slots := 0, locals := 0 } : Room).slots) ?_
  refine Comes.cast (ef_rm4 m self amt) ?_
  have lt_self : self < h0.size := G0.lt
  show Comes p e below _ (s₁.setTop (mkF m 0 #[.val (.ref self), .val (.long amt), .second] []))
  refine Comes.st (fun t k => XS.aloadN X0.here hx rfl (hb hby d4_0) rfl rfl (XS.dup X0.here hx rfl (hb hby d4_1) rfl rfl k)) ?_
  show Comes p e below _ (s₁.setTop (mkF m 2 #[.val (.ref self), .val (.long amt), .second] [(.ref self), (.ref self)]))
  obtain ⟨T1, X1, e1, st1⟩ := getF X0 hx hZ hown (host := "") (Or.inl (hw _ (List.mem_of_getElem? (i := 22) rfl))) Via.refl e0 G2 (g := (mkF m 2 #[.val (.ref self), .val (.long amt), .second] [(.ref self), (.ref self)])) rfl rfl (hb hby d4_2)
  refine Comes.st st1 ?_
  show Comes p e below _ (T1.setTop (mkF m 5 #[.val (.ref self), .val (.long amt), .second] [(.long rsv), (.ref self)]))
  refine Comes.st (fun t k => XS.lloadN X1.here hx rfl (hb hby d4_5) rfl (XS.lsub X1.here hx rfl (hb hby d4_6) rfl k)) ?_
  show Comes p e below _ (T1.setTop (mkF m 7 #[.val (.ref self), .val (.long amt), .second] [(.long (rsv - amt)), (.ref self)]))
  obtain ⟨T2, h2, X2, e2, W2, st2⟩ := putF X1 hx hZ hown (host := "") (Or.inl (hw _ (List.mem_of_getElem? (i := 22) rfl))) Via.refl e1 G2 G0 (Or.inl (hw _ (List.mem_of_getElem? (i := 23) rfl))) (hw _ (List.mem_of_getElem? (i := 2) rfl)) (ty := .long) (by decide) rfl rfl (g := (mkF m 7 #[.val (.ref self), .val (.long amt), .second] [(.long (rsv - amt)), (.ref self)])) rfl rfl (hb hby d4_7)
  have Fw2 := G2.same W2
  have z2 : h2.size = h0.size := W2.size
  have N2 := Fr.snoc X2 N0 (by omega)
  have K2 : Keep h0 h2 [self] := K0.wr W2 (Or.inl (List.mem_of_getElem? (i := 0) rfl))
  refine Comes.st st2 ?_
  show Comes p e below _ (T2.setTop (mkF m 10 #[.val (.ref self), .val (.long amt), .second] []))
  have F3 : Exa Z h2 self "com/example/ferry2/ferry2/util/MemoryBudget" := (G0.wr W2)
  have F4 : Fld Z h2 self "com/example/ferry2/ferry2/util/MemoryBudget" "limit" "J" (.long lim) := (G1.other W2 (Or.inr (slot_ne (Or.inr (hw _ (List.mem_of_getElem? (i := 16) rfl))) (Or.inl (hw _ (List.mem_of_getElem? (i := 23) rfl))) (by decide) (t := .long) (t' := .long) (by decide) (by decide))))
  exact Comes.ret0 X2 hx Bd.returns hlk (hb hby d4_10) e2 ⟨rfl, N2, K2, F3, F4, Fw2⟩ (by decide) (by decide)
def Q_rm5 (Z : State) (self : Addr) (amt : Int64) (lim : Int64) (rsv : Int64) (h0 : Heap) (n0 : Nat) (v : Option Value) (h : Heap) (L : List Loc) : Prop := ∃ (r : Int32), (v = some (.int r)) ∧ (Fr n0 L) ∧ (h = h0) ∧ (((lim - rsv) < amt ∧ r = (0 : Int32)) ∨ (¬ ((lim - rsv) < amt) ∧ r = (1 : Int32)))
set_option maxRecDepth 65536 in
set_option maxHeartbeats 40000000 in
theorem rm5 (l : Launch) (Z : State) (a0 : Array Value) (hw : ∀ d ∈ tables_1, d.before a0 Z = true) (ws : List Jvm.Cond) (self : Addr) (amt : Int64) (lim : Int64) (rsv : Int64) (h0 : Heap) (n0 : Nat) (Z0 : n0 ≤ h0.size) (G0 : Fld Z h0 self "com/example/ferry2/ferry2/util/MemoryBudget" "limit" "J" (.long lim)) (G1 : Fld Z h0 self "com/example/ferry2/ferry2/util/MemoryBudget" "reserved" "J" (.long rsv)) :
    MetFree l (⟨"com/example/ferry2/ferry2/util/MemoryBudget", "hasRoom", "(J)Z"⟩ : MethodName) (head1 (Jvm.Cond.code (⟨"com/example/ferry2/ferry2/util/MemoryBudget", "hasRoom", "(J)Z"⟩ : MethodName) prog_47_method_3_code 3 (some .boolean) :: ws) ({ frames := 0, cells := 0, slots := 0, locals := 0 } : Room)) (fun a U => a = #[(.ref self), (.long amt)] ∧ Z.Warmed39 U.vm ∧ U.heap = h0) (fun _ _ _ _ _ => True) (fun _ U o U' => ∃ v L, o = .returned v ∧ Q_rm5 Z self amt lim rsv h0 n0 v U'.heap L ∧ FrameEnd U o U' L ({ frames := 0, cells := 0, slots := 0, locals := 0 } : Room).cells ({ frames := 0, cells := 0, slots := 0, locals := 0 } : Room).slots) := by
  refine MetFree.of_bodySF (plainFor_of_name pn_5) hisR ?_
  intro p e s m args below meth c s₁ Bd hml0 hP hK
  obtain ⟨rfl, hZ, hh⟩ := hP
  have hx := Bd.exec
  have hby := Bd.bytes
  have hml : c.maxLocals = 3 := hml0
  have hown : s.vm.findClass "com/example/ferry2/ferry2/util/MemoryBudget" = some m.cls := findClass_of_methodNamed Bd.named
  have hnm := (name_of_methodNamed Bd.named Bd.method).1
  have hlk : meth.locks = false := Bd.notSynchronized
  have X0 : Stand p l e ({ frames := 0, cells := 0, slots := 0, locals := 0 } : Room) s m #[(.ref self), (.long amt)] below meth c s₁ [] 0 0 := Stand.of_body Bd
  have e0 : s₁.heap = h0 := by rw [← hh, Bd.state]; rfl
  have N0 := Fr.nil n0
  refine Comes.out (Q := Q_rm5 Z self amt lim rsv h0 n0) (kc := ({ frames := 0, cells := 0, slots := 0, locals := 0 } : Room).cells) (ks := ({ frames := 0, cells := 0, slots := 0, locals := 0 } : Room).slots) ?_
  refine Comes.cast (ef_rm5 m self amt) ?_
  have lt_self : self < h0.size := G0.lt
  show Comes p e below _ (s₁.setTop (mkF m 0 #[.val (.ref self), .val (.long amt), .second] []))
  refine Comes.st (fun t k => XS.lloadN X0.here hx rfl (hb hby d5_0) rfl (XS.aloadN X0.here hx rfl (hb hby d5_1) rfl rfl k)) ?_
  show Comes p e below _ (s₁.setTop (mkF m 2 #[.val (.ref self), .val (.long amt), .second] [(.ref self), (.long amt)]))
  obtain ⟨T1, X1, e1, st1⟩ := getF X0 hx hZ hown (host := "") (Or.inl (hw _ (List.mem_of_getElem? (i := 15) rfl))) Via.refl e0 G0 (g := (mkF m 2 #[.val (.ref self), .val (.long amt), .second] [(.ref self), (.long amt)])) rfl rfl (hb hby d5_2)
  refine Comes.st st1 ?_
  show Comes p e below _ (T1.setTop (mkF m 5 #[.val (.ref self), .val (.long amt), .second] [(.long lim), (.long amt)]))
  refine Comes.st (fun t k => XS.aloadN X1.here hx rfl (hb hby d5_5) rfl rfl k) ?_
  show Comes p e below _ (T1.setTop (mkF m 6 #[.val (.ref self), .val (.long amt), .second] [(.ref self), (.long lim), (.long amt)]))
  obtain ⟨T2, X2, e2, st2⟩ := getF X1 hx hZ hown (host := "") (Or.inl (hw _ (List.mem_of_getElem? (i := 22) rfl))) Via.refl e1 G1 (g := (mkF m 6 #[.val (.ref self), .val (.long amt), .second] [(.ref self), (.long lim), (.long amt)])) rfl rfl (hb hby d5_6)
  refine Comes.st st2 ?_
  show Comes p e below _ (T2.setTop (mkF m 9 #[.val (.ref self), .val (.long amt), .second] [(.long rsv), (.long lim), (.long amt)]))
  refine Comes.st (fun t k => XS.lsub X2.here hx rfl (hb hby d5_9) rfl (XS.lcmp X2.here hx rfl (hb hby d5_10) rfl k)) ?_
  show Comes p e below _ (T2.setTop (mkF m 11 #[.val (.ref self), .val (.long amt), .second] [(.int (lcmpW amt (lim - rsv)))]))
  by_cases hc11_3 : (lim - rsv) < amt
  · refine Comes.st (fun t k => XS.ifYes X2.here hx rfl (pc0 := 11) (pc' := 18) rfl (hb hby d5_11) rfl ((if0 _ _).trans (tlt ((lw_gt _ _).mpr hc11_3)).2.2.1) (by decide) (by decide) (XS.iconst X2.here hx rfl (hb hby d5_18) k)) ?_
    show Comes p e below _ (T2.setTop (mkF m 19 #[.val (.ref self), .val (.long amt), .second] [(.int (0 : Int32))]))
    exact Comes.retN X2 hx (t := .boolean) Bd.returns (by simp) hlk (hb hby d5_19) e2 ⟨(0 : Int32), rfl, N0, rfl, (by first | exact Or.inl ⟨by assumption, rfl⟩ | exact Or.inr ⟨by assumption, rfl⟩)⟩ (by decide) (by decide)
  · refine Comes.st (fun t k => XS.ifNo X2.here hx rfl (hb hby d5_11) rfl ((if0 _ _).trans (flt (fun q => hc11_3 ((lw_gt _ _).mp q))).2.2.1) (XS.iconst X2.here hx rfl (hb hby d5_14) (XS.goto X2.here hx rfl (pc0 := 15) (pc' := 19) rfl (hb hby d5_15) (by decide) (by decide) k))) ?_
    show Comes p e below _ (T2.setTop (mkF m 19 #[.val (.ref self), .val (.long amt), .second] [(.int (1 : Int32))]))
    exact Comes.retN X2 hx (t := .boolean) Bd.returns (by simp) hlk (hb hby d5_19) e2 ⟨(1 : Int32), rfl, N0, rfl, (by first | exact Or.inl ⟨by assumption, rfl⟩ | exact Or.inr ⟨by assumption, rfl⟩)⟩ (by decide) (by decide)
def Q_rm0 (Z : State) (la : Int64) (lb : Int64) (lc_ : Int64) (ld : Int64) (sh : Addr) (h0 : Heap) (n0 : Nat) (v : Option Value) (h : Heap) (L : List Loc) : Prop := (v = some (.int (1 : Int32))) ∧ (Fr n0 L)
set_option maxRecDepth 65536 in
set_option maxHeartbeats 40000000 in
theorem rm0 (l : Launch) (Z : State) (a0 : Array Value) (hw : ∀ d ∈ tables_1, d.before a0 Z = true) (ws : List Jvm.Cond) (la : Int64) (lb : Int64) (lc_ : Int64) (ld : Int64) (sh : Addr) (h0 : Heap) (n0 : Nat) (Z0 : n0 ≤ h0.size) (G0 : Sta Z Z.heap "com/example/ferry2/ferry2/util/HeapShare" "RETAINED" "Lcom/example/ferry2/ferry2/util/HeapShare;" (.ref sh)) (G1 : Old Z n0 h0) :
    MetFree l x (head1 (Jvm.Cond.code x code maxLocals ret :: ws) room_1) (fun a U => a = #[(.long la), (.long lb), (.long lc_), (.long ld)] ∧ Z.Warmed39 U.vm ∧ U.heap = h0) (fun _ _ _ _ _ => True) (fun _ U o U' => ∃ v L, o = .returned v ∧ Q_rm0 Z la lb lc_ ld sh h0 n0 v U'.heap L ∧ FrameEnd U o U' L room_1.cells room_1.slots) := by
  refine MetFree.of_bodySF (plainFor_of_name pn_0) hisR ?_
  intro p e s m args below meth c s₁ Bd hml0 hP hK
  obtain ⟨rfl, hZ, hh⟩ := hP
  have hx := Bd.exec
  have hby := Bd.bytes
  have hml : c.maxLocals = 22 := hml0
  have hown : s.vm.findClass "com/example/ferry2/ferry2/util/MemoryBudgetHasRoomPinLaw" = some m.cls := findClass_of_methodNamed Bd.named
  have hnm := (name_of_methodNamed Bd.named Bd.method).1
  have hlk : meth.locks = false := Bd.notSynchronized
  have X0 : Stand p l e room_1 s m #[(.long la), (.long lb), (.long lc_), (.long ld)] below meth c s₁ [] 0 0 := Stand.of_body Bd
  have e0 : s₁.heap = h0 := by rw [← hh, Bd.state]; rfl
  have N0 := Fr.nil n0
  refine Comes.out (Q := Q_rm0 Z la lb lc_ ld sh h0 n0) (kc := room_1.cells) (ks := room_1.slots) ?_
  refine Comes.cast (ef_rm0 m la lb lc_ ld) ?_
  show Comes p e below _ (s₁.setTop (mkF m 0 #[.val (.long la), .second, .val (.long lb), .second, .val (.long lc_), .second, .val (.long ld), .second, .unset, .unset, .unset, .unset, .unset, .unset, .unset, .unset, .unset, .unset, .unset, .unset, .unset, .unset] []))
  refine Comes.st (fun t k => XS.lloadN X0.here hx rfl (hb hby at_0) rfl (X0.ldc2Long hx hown (mvT hZ (hw _ (List.mem_of_getElem? (i := 0) rfl))) (g := (mkF m 1 #[.val (.long la), .second, .val (.long lb), .second, .val (.long lc_), .second, .val (.long ld), .second, .unset, .unset, .unset, .unset, .unset, .unset, .unset, .unset, .unset, .unset, .unset, .unset, .unset, .unset] [(.long la)])) rfl (hb hby at_1) _ (XS.land X0.here hx rfl (hb hby at_4) rfl k))) ?_
  show Comes p e below _ (s₁.setTop (mkF m 5 #[.val (.long la), .second, .val (.long lb), .second, .val (.long lc_), .second, .val (.long ld), .second, .unset, .unset, .unset, .unset, .unset, .unset, .unset, .unset, .unset, .unset, .unset, .unset, .unset, .unset] [(.long (la &&& (4611686018427387903 : Int64)))]))
  generalize hv_v1 : (la &&& (4611686018427387903 : Int64)) = v1
  show Comes p e below _ (s₁.setTop (mkF m 5 #[.val (.long la), .second, .val (.long lb), .second, .val (.long lc_), .second, .val (.long ld), .second, .unset, .unset, .unset, .unset, .unset, .unset, .unset, .unset, .unset, .unset, .unset, .unset, .unset, .unset] [(.long v1)]))
  refine Comes.st (fun t k => XS.lstore X0.here hx rfl (hb hby at_5) rfl (l' := #[.val (.long la), .second, .val (.long lb), .second, .val (.long lc_), .second, .val (.long ld), .second, .val (.long v1), .second, .unset, .unset, .unset, .unset, .unset, .unset, .unset, .unset, .unset, .unset, .unset, .unset]) rfl (XS.lloadN X0.here hx rfl (hb hby at_7) rfl (X0.ldc2Long hx hown (mvT hZ (hw _ (List.mem_of_getElem? (i := 0) rfl))) (g := (mkF m 8 #[.val (.long la), .second, .val (.long lb), .second, .val (.long lc_), .second, .val (.long ld), .second, .val (.long v1), .second, .unset, .unset, .unset, .unset, .unset, .unset, .unset, .unset, .unset, .unset, .unset, .unset] [(.long lb)])) rfl (hb hby at_8) _ (XS.land X0.here hx rfl (hb hby at_11) rfl k)))) ?_
  show Comes p e below _ (s₁.setTop (mkF m 12 #[.val (.long la), .second, .val (.long lb), .second, .val (.long lc_), .second, .val (.long ld), .second, .val (.long v1), .second, .unset, .unset, .unset, .unset, .unset, .unset, .unset, .unset, .unset, .unset, .unset, .unset] [(.long (lb &&& (4611686018427387903 : Int64)))]))
  generalize hv_v2 : (lb &&& (4611686018427387903 : Int64)) = v2
  show Comes p e below _ (s₁.setTop (mkF m 12 #[.val (.long la), .second, .val (.long lb), .second, .val (.long lc_), .second, .val (.long ld), .second, .val (.long v1), .second, .unset, .unset, .unset, .unset, .unset, .unset, .unset, .unset, .unset, .unset, .unset, .unset] [(.long v2)]))
  refine Comes.st (fun t k => XS.lstore X0.here hx rfl (hb hby at_12) rfl (l' := #[.val (.long la), .second, .val (.long lb), .second, .val (.long lc_), .second, .val (.long ld), .second, .val (.long v1), .second, .val (.long v2), .second, .unset, .unset, .unset, .unset, .unset, .unset, .unset, .unset, .unset, .unset]) rfl (XS.lload X0.here hx rfl (hb hby at_14) rfl (X0.ldc2Long hx hown (mvT hZ (hw _ (List.mem_of_getElem? (i := 0) rfl))) (g := (mkF m 16 #[.val (.long la), .second, .val (.long lb), .second, .val (.long lc_), .second, .val (.long ld), .second, .val (.long v1), .second, .val (.long v2), .second, .unset, .unset, .unset, .unset, .unset, .unset, .unset, .unset, .unset, .unset] [(.long lc_)])) rfl (hb hby at_16) _ (XS.land X0.here hx rfl (hb hby at_19) rfl (XS.lload X0.here hx rfl (hb hby at_20) rfl (XS.lconst X0.here hx rfl (hb hby at_22) k)))))) ?_
  show Comes p e below _ (s₁.setTop (mkF m 23 #[.val (.long la), .second, .val (.long lb), .second, .val (.long lc_), .second, .val (.long ld), .second, .val (.long v1), .second, .val (.long v2), .second, .unset, .unset, .unset, .unset, .unset, .unset, .unset, .unset, .unset, .unset] [(.long (1 : Int64)), (.long v2), (.long (lc_ &&& (4611686018427387903 : Int64)))]))
  refine Comes.st (fun t k => XS.ladd X0.here hx rfl (hb hby at_23) rfl k) ?_
  show Comes p e below _ (s₁.setTop (mkF m 24 #[.val (.long la), .second, .val (.long lb), .second, .val (.long lc_), .second, .val (.long ld), .second, .val (.long v1), .second, .val (.long v2), .second, .unset, .unset, .unset, .unset, .unset, .unset, .unset, .unset, .unset, .unset] [(.long (v2 + (1 : Int64))), (.long (lc_ &&& (4611686018427387903 : Int64)))]))
  have hnz3 : ¬ ((v2 + (1 : Int64)) = (0 : Int64)) := by have a_0 := c_maskL la (4611686018427387903 : Int64) 62 (by decide) (by decide); rw [hv_v1] at a_0; have a_1 := c_maskL lb (4611686018427387903 : Int64) 62 (by decide) (by decide); rw [hv_v2] at a_1; have a_2 := c_maskL lc_ (4611686018427387903 : Int64) 62 (by decide) (by decide); have a_3 := c_ladd v2 (1 : Int64); have a_4 := rng64 (lc_ &&& (4611686018427387903 : Int64)); have a_5 := rng64 (v2 + (1 : Int64)); have a_6 := rng64 la; have a_7 := rng64 lb; have a_8 := rng64 lc_; have a_9 := rng64 v1; have a_10 := rng64 v2; (simp only [Int32.lt_iff_toInt_lt, Int64.lt_iff_toInt_lt, ← Int32.toInt_inj, ← Int64.toInt_inj, Int32.reduceToInt, Int64.reduceToInt] at a_0 a_1 a_2 a_3 a_4 a_5 a_6 a_7 a_8 a_9 a_10 ⊢) <;> omega
  refine Comes.st (fun t k => lremM X0 hx rfl (hb hby at_24) rfl hnz3 k) ?_
  show Comes p e below _ (s₁.setTop (mkF m 25 #[.val (.long la), .second, .val (.long lb), .second, .val (.long lc_), .second, .val (.long ld), .second, .val (.long v1), .second, .val (.long v2), .second, .unset, .unset, .unset, .unset, .unset, .unset, .unset, .unset, .unset, .unset] [(.long ((lc_ &&& (4611686018427387903 : Int64)) % (v2 + (1 : Int64))))]))
  generalize hv_v4 : ((lc_ &&& (4611686018427387903 : Int64)) % (v2 + (1 : Int64))) = v4
  show Comes p e below _ (s₁.setTop (mkF m 25 #[.val (.long la), .second, .val (.long lb), .second, .val (.long lc_), .second, .val (.long ld), .second, .val (.long v1), .second, .val (.long v2), .second, .unset, .unset, .unset, .unset, .unset, .unset, .unset, .unset, .unset, .unset] [(.long v4)]))
  refine Comes.st (fun t k => XS.lstore X0.here hx rfl (hb hby at_25) rfl (l' := #[.val (.long la), .second, .val (.long lb), .second, .val (.long lc_), .second, .val (.long ld), .second, .val (.long v1), .second, .val (.long v2), .second, .val (.long v4), .second, .unset, .unset, .unset, .unset, .unset, .unset, .unset, .unset]) rfl (XS.lload X0.here hx rfl (hb hby at_27) rfl (X0.ldc2Long hx hown (mvT hZ (hw _ (List.mem_of_getElem? (i := 0) rfl))) (g := (mkF m 29 #[.val (.long la), .second, .val (.long lb), .second, .val (.long lc_), .second, .val (.long ld), .second, .val (.long v1), .second, .val (.long v2), .second, .val (.long v4), .second, .unset, .unset, .unset, .unset, .unset, .unset, .unset, .unset] [(.long ld)])) rfl (hb hby at_29) _ (XS.land X0.here hx rfl (hb hby at_32) rfl k)))) ?_
  show Comes p e below _ (s₁.setTop (mkF m 33 #[.val (.long la), .second, .val (.long lb), .second, .val (.long lc_), .second, .val (.long ld), .second, .val (.long v1), .second, .val (.long v2), .second, .val (.long v4), .second, .unset, .unset, .unset, .unset, .unset, .unset, .unset, .unset] [(.long (ld &&& (4611686018427387903 : Int64)))]))
  generalize hv_v5 : (ld &&& (4611686018427387903 : Int64)) = v5
  show Comes p e below _ (s₁.setTop (mkF m 33 #[.val (.long la), .second, .val (.long lb), .second, .val (.long lc_), .second, .val (.long ld), .second, .val (.long v1), .second, .val (.long v2), .second, .val (.long v4), .second, .unset, .unset, .unset, .unset, .unset, .unset, .unset, .unset] [(.long v5)]))
  refine Comes.st (fun t k => XS.lstore X0.here hx rfl (hb hby at_33) rfl (l' := #[.val (.long la), .second, .val (.long lb), .second, .val (.long lc_), .second, .val (.long ld), .second, .val (.long v1), .second, .val (.long v2), .second, .val (.long v4), .second, .val (.long v5), .second, .unset, .unset, .unset, .unset, .unset, .unset]) rfl k) ?_
  show Comes p e below _ (s₁.setTop (mkF m 35 #[.val (.long la), .second, .val (.long lb), .second, .val (.long lc_), .second, .val (.long ld), .second, .val (.long v1), .second, .val (.long v2), .second, .val (.long v4), .second, .val (.long v5), .second, .unset, .unset, .unset, .unset, .unset, .unset] []))
  obtain ⟨T6, h6, X6, e6, E6, A6, D6, -, st6⟩ := newO X0 hx hZ hown (hw _ (List.mem_of_getElem? (i := 1) rfl)) (hw _ (List.mem_of_getElem? (i := 2) rfl)) (hw _ (List.mem_of_getElem? (i := 3) rfl)) e0 (g := (mkF m 35 #[.val (.long la), .second, .val (.long lb), .second, .val (.long lc_), .second, .val (.long ld), .second, .val (.long v1), .second, .val (.long v2), .second, .val (.long v4), .second, .val (.long v5), .second, .unset, .unset, .unset, .unset, .unset, .unset] [])) rfl (hb hby at_35) (by decide) (by decide)
  obtain ⟨b6, g6⟩ : ∃ z, z = h0.size := ⟨_, rfl⟩
  rw [← g6] at A6 D6 st6
  have z6 : h0.size ≤ h6.size := E6.1
  have lt6 : b6 < h6.size := A6.lt
  have F7 : Fld Z h6 b6 "com/example/ferry2/ferry2/util/MemoryBudget" "share" "Lcom/example/ferry2/ferry2/util/HeapShare;" .null := D6 (Or.inr (hw _ (List.mem_of_getElem? (i := 14) rfl))) (ty := (.object "com/example/ferry2/ferry2/util/HeapShare")) (by decide)
  have F8 : Fld Z h6 b6 "com/example/ferry2/ferry2/util/MemoryBudget" "limit" "J" (.long (0 : Int64)) := D6 (Or.inr (hw _ (List.mem_of_getElem? (i := 16) rfl))) (ty := .long) (by decide)
  have F9 : Fld Z h6 b6 "com/example/ferry2/ferry2/util/MemoryBudget" "reserved" "J" (.long (0 : Int64)) := D6 (Or.inl (hw _ (List.mem_of_getElem? (i := 23) rfl))) (ty := .long) (by decide)
  refine Comes.st st6 ?_
  show Comes p e below _ (T6.setTop (mkF m 38 #[.val (.long la), .second, .val (.long lb), .second, .val (.long lc_), .second, .val (.long ld), .second, .val (.long v1), .second, .val (.long v2), .second, .val (.long v4), .second, .val (.long v5), .second, .unset, .unset, .unset, .unset, .unset, .unset] [(.ref b6)]))
  refine Comes.st (fun t k => XS.dup X6.here hx rfl (hb hby at_38) rfl rfl k) ?_
  show Comes p e below _ (T6.setTop (mkF m 39 #[.val (.long la), .second, .val (.long lb), .second, .val (.long lc_), .second, .val (.long ld), .second, .val (.long v1), .second, .val (.long v2), .second, .val (.long v4), .second, .val (.long v5), .second, .unset, .unset, .unset, .unset, .unset, .unset] [(.ref b6), (.ref b6)]))
  have Od10 : Old Z n0 h6 := (G1.ext E6)
  obtain ⟨T11, X11, e11, st11⟩ := getS2 X6 hx hZ hown (host := "") (Or.inl (hw _ (List.mem_of_getElem? (i := 4) rfl))) Via.refl e6 (G0.ext Od10.2) (g := (mkF m 39 #[.val (.long la), .second, .val (.long lb), .second, .val (.long lc_), .second, .val (.long ld), .second, .val (.long v1), .second, .val (.long v2), .second, .val (.long v4), .second, .val (.long v5), .second, .unset, .unset, .unset, .unset, .unset, .unset] [(.ref b6), (.ref b6)])) rfl (hb hby at_39)
  refine Comes.st st11 ?_
  show Comes p e below _ (T11.setTop (mkF m 42 #[.val (.long la), .second, .val (.long lb), .second, .val (.long lc_), .second, .val (.long ld), .second, .val (.long v1), .second, .val (.long v2), .second, .val (.long v4), .second, .val (.long v5), .second, .unset, .unset, .unset, .unset, .unset, .unset] [(.ref sh), (.ref b6), (.ref b6)]))
  refine Comes.st (fun t k => XS.lload X11.here hx rfl (hb hby at_42) rfl k) ?_
  show Comes p e below _ (T11.setTop (mkF m 44 #[.val (.long la), .second, .val (.long lb), .second, .val (.long lc_), .second, .val (.long ld), .second, .val (.long v1), .second, .val (.long v2), .second, .val (.long v4), .second, .val (.long v5), .second, .unset, .unset, .unset, .unset, .unset, .unset] [(.long v1), (.ref sh), (.ref b6), (.ref b6)]))
  obtain ⟨_, _, ⟨T12, L12, k12, n12⟩, -, X12, ⟨Lc12, hQ12, l12, y12, z12⟩, st12⟩ := X11.specialBack hx (y := (⟨"com/example/ferry2/ferry2/util/MemoryBudget", "<init>", "(Lcom/example/ferry2/ferry2/util/HeapShare;J)V"⟩ : MethodName)) rfl hown (mvT hZ (hw _ (List.mem_of_getElem? (i := 7) rfl))) (mvT hZ (hw _ (List.mem_of_getElem? (i := 8) rfl))) (mvT hZ (hw _ (List.mem_of_getElem? (i := 9) rfl))) (by decide) (backOf (W := 1) (rm1 l Z a0 hw [] b6 sh v1 h6 n0 (by omega)  A6 F7 F8 F9 (by omega)) hZ (hw _ (List.mem_of_getElem? (i := 9) rfl)) (hw _ (List.mem_of_getElem? (i := 3) rfl)) (by decide) (by decide)) (g := (mkF m 44 #[.val (.long la), .second, .val (.long lb), .second, .val (.long lc_), .second, .val (.long ld), .second, .val (.long v1), .second, .val (.long v2), .second, .val (.long v4), .second, .val (.long v5), .second, .unset, .unset, .unset, .unset, .unset, .unset] [(.long v1), (.ref sh), (.ref b6), (.ref b6)])) rfl (by rw [hml]; rfl) (Steps.refl _) (a := b6) (argsL := [(.ref sh), (.long v1)]) (rest := [(.ref b6)]) (lenOf pd_0 rfl) rfl (by show 2 * 0 + _ ≤ _; exact Nat.le_of_eq rfl) (hb hby at_44) (fun _ _ => ⟨rfl, e11, (by decide : 1 + 0 ≤ _), (by decide : 3 + 0 ≤ _)⟩)
  dsimp only [Pt.U, Pt.locs, Pt.cells, Pt.slots] at X12 l12 y12 z12 st12 hQ12
  subst l12 y12 z12
  obtain ⟨rfl, Nq12, Kq12, P12_0, P12_1, P12_2⟩ := hQ12
  have N12 := Fr.app N0 Nq12
  have z12k : h6.size ≤ T12.heap.size := Kq12.1
  refine Comes.go st12 ?_
  have lt_13 : b6 < T12.heap.size := P12_0.lt
  show Comes p e below _ (T12.setTop (mkF m 47 #[.val (.long la), .second, .val (.long lb), .second, .val (.long lc_), .second, .val (.long ld), .second, .val (.long v1), .second, .val (.long v2), .second, .val (.long v4), .second, .val (.long v5), .second, .unset, .unset, .unset, .unset, .unset, .unset] [(.ref b6)]))
  refine Comes.st (fun t k => XS.astore X12.here hx rfl (hb hby at_47) rfl rfl (l' := #[.val (.long la), .second, .val (.long lb), .second, .val (.long lc_), .second, .val (.long ld), .second, .val (.long v1), .second, .val (.long v2), .second, .val (.long v4), .second, .val (.long v5), .second, .val (.ref b6), .unset, .unset, .unset, .unset, .unset]) rfl (XS.aload X12.here hx rfl (hb hby at_49) rfl rfl (XS.lload X12.here hx rfl (hb hby at_51) rfl k))) ?_
  show Comes p e below _ (T12.setTop (mkF m 53 #[.val (.long la), .second, .val (.long lb), .second, .val (.long lc_), .second, .val (.long ld), .second, .val (.long v1), .second, .val (.long v2), .second, .val (.long v4), .second, .val (.long v5), .second, .val (.ref b6), .unset, .unset, .unset, .unset, .unset] [(.long v2), (.ref b6)]))
  obtain ⟨cq14, kq14, q14a, q14b, q14c⟩ := isOf hZ rfl P12_0
  obtain ⟨_, _, ⟨T14, L14, k14, n14⟩, -, X14, ⟨Lc14, hQ14, l14, y14, z14⟩, st14⟩ := X12.virtualBack hx (y := (⟨"com/example/ferry2/ferry2/util/MemoryBudget", "reserveAnyway", "(J)V"⟩ : MethodName)) (z := (⟨"com/example/ferry2/ferry2/util/MemoryBudget", "reserveAnyway", "(J)V"⟩ : MethodName)) hown (mvT hZ (hw _ (List.mem_of_getElem? (i := 17) rfl))) (mvT hZ (hw _ (List.mem_of_getElem? (i := 18) rfl))) (notFace_of_selects (args := #[]) (mvT hZ (hw _ (List.mem_of_getElem? (i := 20) rfl)))) (mvT hZ (hw _ (List.mem_of_getElem? (i := 20) rfl))) (mvT hZ (hw _ (List.mem_of_getElem? (i := 19) rfl))) (by decide) (backOf (W := 0) (rm3 l Z a0 hw [] b6 v2 v1 ((0 : Int64)) T12.heap n0 (by omega)  P12_0 P12_1 P12_2 (by omega)) hZ (hw _ (List.mem_of_getElem? (i := 21) rfl)) (hw _ (List.mem_of_getElem? (i := 3) rfl)) (by decide) (by decide)) q14a q14c (g := (mkF m 53 #[.val (.long la), .second, .val (.long lb), .second, .val (.long lc_), .second, .val (.long ld), .second, .val (.long v1), .second, .val (.long v2), .second, .val (.long v4), .second, .val (.long v5), .second, .val (.ref b6), .unset, .unset, .unset, .unset, .unset] [(.long v2), (.ref b6)])) rfl (by rw [hml]; rfl) (Steps.refl _) (argsL := [(.long v2)]) (rest := []) (lenOf pd_1 rfl) rfl (by show 2 * 0 + _ ≤ _; exact Nat.le_of_eq rfl) (hb hby at_53) (fun _ _ => ⟨rfl, rfl, (by decide : 1 + 0 ≤ _), (by decide : 3 + 0 ≤ _)⟩)
  dsimp only [Pt.U, Pt.locs, Pt.cells, Pt.slots] at X14 l14 y14 z14 st14 hQ14
  subst l14 y14 z14
  obtain ⟨rfl, Nq14, Kq14, P14_0, P14_1, P14_2⟩ := hQ14
  have N14 := Fr.app N12 Nq14
  have z14k : T12.heap.size ≤ T14.heap.size := Kq14.1
  refine Comes.go st14 ?_
  show Comes p e below _ (T14.setTop (mkF m 56 #[.val (.long la), .second, .val (.long lb), .second, .val (.long lc_), .second, .val (.long ld), .second, .val (.long v1), .second, .val (.long v2), .second, .val (.long v4), .second, .val (.long v5), .second, .val (.ref b6), .unset, .unset, .unset, .unset, .unset] []))
  refine Comes.st (fun t k => XS.aload X14.here hx rfl (hb hby at_56) rfl rfl (XS.lload X14.here hx rfl (hb hby at_58) rfl k)) ?_
  show Comes p e below _ (T14.setTop (mkF m 60 #[.val (.long la), .second, .val (.long lb), .second, .val (.long lc_), .second, .val (.long ld), .second, .val (.long v1), .second, .val (.long v2), .second, .val (.long v4), .second, .val (.long v5), .second, .val (.ref b6), .unset, .unset, .unset, .unset, .unset] [(.long v4), (.ref b6)]))
  obtain ⟨cq15, kq15, q15a, q15b, q15c⟩ := isOf hZ rfl P14_0
  obtain ⟨_, _, ⟨T15, L15, k15, n15⟩, -, X15, ⟨Lc15, hQ15, l15, y15, z15⟩, st15⟩ := X14.virtualBack hx (y := (⟨"com/example/ferry2/ferry2/util/MemoryBudget", "release", "(J)V"⟩ : MethodName)) (z := (⟨"com/example/ferry2/ferry2/util/MemoryBudget", "release", "(J)V"⟩ : MethodName)) hown (mvT hZ (hw _ (List.mem_of_getElem? (i := 24) rfl))) (mvT hZ (hw _ (List.mem_of_getElem? (i := 25) rfl))) (notFace_of_selects (args := #[]) (mvT hZ (hw _ (List.mem_of_getElem? (i := 27) rfl)))) (mvT hZ (hw _ (List.mem_of_getElem? (i := 27) rfl))) (mvT hZ (hw _ (List.mem_of_getElem? (i := 26) rfl))) (by decide) (backOf (W := 0) (rm4 l Z a0 hw [] b6 v4 v1 (((0 : Int64) + v2)) T14.heap n0 (by omega)  P14_0 P14_1 P14_2 (by omega)) hZ (hw _ (List.mem_of_getElem? (i := 28) rfl)) (hw _ (List.mem_of_getElem? (i := 3) rfl)) (by decide) (by decide)) q15a q15c (g := (mkF m 60 #[.val (.long la), .second, .val (.long lb), .second, .val (.long lc_), .second, .val (.long ld), .second, .val (.long v1), .second, .val (.long v2), .second, .val (.long v4), .second, .val (.long v5), .second, .val (.ref b6), .unset, .unset, .unset, .unset, .unset] [(.long v4), (.ref b6)])) rfl (by rw [hml]; rfl) (Steps.refl _) (argsL := [(.long v4)]) (rest := []) (lenOf pd_1 rfl) rfl (by show 2 * 0 + _ ≤ _; exact Nat.le_of_eq rfl) (hb hby at_60) (fun _ _ => ⟨rfl, rfl, (by decide : 1 + 0 ≤ _), (by decide : 3 + 0 ≤ _)⟩)
  dsimp only [Pt.U, Pt.locs, Pt.cells, Pt.slots] at X15 l15 y15 z15 st15 hQ15
  subst l15 y15 z15
  obtain ⟨rfl, Nq15, Kq15, P15_0, P15_1, P15_2⟩ := hQ15
  have N15 := Fr.app N14 Nq15
  have z15k : T14.heap.size ≤ T15.heap.size := Kq15.1
  refine Comes.go st15 ?_
  show Comes p e below _ (T15.setTop (mkF m 63 #[.val (.long la), .second, .val (.long lb), .second, .val (.long lc_), .second, .val (.long ld), .second, .val (.long v1), .second, .val (.long v2), .second, .val (.long v4), .second, .val (.long v5), .second, .val (.ref b6), .unset, .unset, .unset, .unset, .unset] []))
  refine Comes.st (fun t k => XS.lload X15.here hx rfl (hb hby at_63) rfl (XS.lload X15.here hx rfl (hb hby at_65) rfl (XS.lsub X15.here hx rfl (hb hby at_67) rfl k))) ?_
  show Comes p e below _ (T15.setTop (mkF m 68 #[.val (.long la), .second, .val (.long lb), .second, .val (.long lc_), .second, .val (.long ld), .second, .val (.long v1), .second, .val (.long v2), .second, .val (.long v4), .second, .val (.long v5), .second, .val (.ref b6), .unset, .unset, .unset, .unset, .unset] [(.long (v2 - v4))]))
  generalize hv_v16 : (v2 - v4) = v16
  show Comes p e below _ (T15.setTop (mkF m 68 #[.val (.long la), .second, .val (.long lb), .second, .val (.long lc_), .second, .val (.long ld), .second, .val (.long v1), .second, .val (.long v2), .second, .val (.long v4), .second, .val (.long v5), .second, .val (.ref b6), .unset, .unset, .unset, .unset, .unset] [(.long v16)]))
  refine Comes.st (fun t k => XS.lstore X15.here hx rfl (hb hby at_68) rfl (l' := #[.val (.long la), .second, .val (.long lb), .second, .val (.long lc_), .second, .val (.long ld), .second, .val (.long v1), .second, .val (.long v2), .second, .val (.long v4), .second, .val (.long v5), .second, .val (.ref b6), .val (.long v16), .second, .unset, .unset, .unset]) rfl (XS.lload X15.here hx rfl (hb hby at_70) rfl (XS.lload X15.here hx rfl (hb hby at_72) rfl (XS.ladd X15.here hx rfl (hb hby at_74) rfl (XS.lload X15.here hx rfl (hb hby at_75) rfl (XS.lcmp X15.here hx rfl (hb hby at_77) rfl k)))))) ?_
  show Comes p e below _ (T15.setTop (mkF m 78 #[.val (.long la), .second, .val (.long lb), .second, .val (.long lc_), .second, .val (.long ld), .second, .val (.long v1), .second, .val (.long v2), .second, .val (.long v4), .second, .val (.long v5), .second, .val (.ref b6), .val (.long v16), .second, .unset, .unset, .unset] [(.int (lcmpW (v16 + v5) v1))]))
  by_cases hc78_17 : v1 < (v16 + v5)
  · refine Comes.st (fun t k => XS.ifYes X15.here hx rfl (pc0 := 78) (pc' := 85) rfl (hb hby at_78) rfl ((if0 _ _).trans (tlt ((lw_gt _ _).mpr hc78_17)).2.2.1) (by decide) (by decide) (XS.iconst X15.here hx rfl (hb hby at_85) (XS.istore X15.here hx rfl (hb hby at_86) rfl (l' := #[.val (.long la), .second, .val (.long lb), .second, .val (.long lc_), .second, .val (.long ld), .second, .val (.long v1), .second, .val (.long v2), .second, .val (.long v4), .second, .val (.long v5), .second, .val (.ref b6), .val (.long v16), .second, .val (.int (0 : Int32)), .unset, .unset]) rfl (XS.aload X15.here hx rfl (hb hby at_88) rfl rfl (XS.lload X15.here hx rfl (hb hby at_90) rfl k))))) ?_
    show Comes p e below _ (T15.setTop (mkF m 92 #[.val (.long la), .second, .val (.long lb), .second, .val (.long lc_), .second, .val (.long ld), .second, .val (.long v1), .second, .val (.long v2), .second, .val (.long v4), .second, .val (.long v5), .second, .val (.ref b6), .val (.long v16), .second, .val (.int (0 : Int32)), .unset, .unset] [(.long v5), (.ref b6)]))
    obtain ⟨cq18, kq18, q18a, q18b, q18c⟩ := isOf hZ rfl P15_0
    obtain ⟨_, _, ⟨T18, L18, k18, n18⟩, -, X18, ⟨Lc18, hQ18, l18, y18, z18⟩, st18⟩ := X15.virtualBack hx (y := (⟨"com/example/ferry2/ferry2/util/MemoryBudget", "hasRoom", "(J)Z"⟩ : MethodName)) (z := (⟨"com/example/ferry2/ferry2/util/MemoryBudget", "hasRoom", "(J)Z"⟩ : MethodName)) hown (mvT hZ (hw _ (List.mem_of_getElem? (i := 29) rfl))) (mvT hZ (hw _ (List.mem_of_getElem? (i := 30) rfl))) (notFace_of_selects (args := #[]) (mvT hZ (hw _ (List.mem_of_getElem? (i := 32) rfl)))) (mvT hZ (hw _ (List.mem_of_getElem? (i := 32) rfl))) (mvT hZ (hw _ (List.mem_of_getElem? (i := 31) rfl))) (by decide) (backOf (W := 0) (rm5 l Z a0 hw [] b6 v5 v1 ((((0 : Int64) + v2) - v4)) T15.heap n0 (by omega)  P15_1 P15_2) hZ (hw _ (List.mem_of_getElem? (i := 33) rfl)) (hw _ (List.mem_of_getElem? (i := 3) rfl)) (by decide) (by decide)) q18a q18c (g := (mkF m 92 #[.val (.long la), .second, .val (.long lb), .second, .val (.long lc_), .second, .val (.long ld), .second, .val (.long v1), .second, .val (.long v2), .second, .val (.long v4), .second, .val (.long v5), .second, .val (.ref b6), .val (.long v16), .second, .val (.int (0 : Int32)), .unset, .unset] [(.long v5), (.ref b6)])) rfl (by rw [hml]; rfl) (Steps.refl _) (argsL := [(.long v5)]) (rest := []) (lenOf pd_2 rfl) rfl (by show 2 * 0 + _ ≤ _; exact Nat.le_of_eq rfl) (hb hby at_92) (fun _ _ => ⟨rfl, rfl, (by decide : 1 + 0 ≤ _), (by decide : 3 + 0 ≤ _)⟩)
    dsimp only [Pt.U, Pt.locs, Pt.cells, Pt.slots] at X18 l18 y18 z18 st18 hQ18
    subst l18 y18 z18
    obtain ⟨r19, rfl, Nq18, hs18, P18_0⟩ := hQ18
    have N18 := Fr.app N15 Nq18
    refine Comes.go st18 ?_
    show Comes p e below _ (T18.setTop (mkF m 95 #[.val (.long la), .second, .val (.long lb), .second, .val (.long lc_), .second, .val (.long ld), .second, .val (.long v1), .second, .val (.long v2), .second, .val (.long v4), .second, .val (.long v5), .second, .val (.ref b6), .val (.long v16), .second, .val (.int (0 : Int32)), .unset, .unset] [(.int r19)]))
    refine Comes.st (fun t k => XS.istore X18.here hx rfl (hb hby at_95) rfl (l' := #[.val (.long la), .second, .val (.long lb), .second, .val (.long lc_), .second, .val (.long ld), .second, .val (.long v1), .second, .val (.long v2), .second, .val (.long v4), .second, .val (.long v5), .second, .val (.ref b6), .val (.long v16), .second, .val (.int (0 : Int32)), .val (.int r19), .unset]) rfl (XS.aload X18.here hx rfl (hb hby at_97) rfl rfl (XS.lload X18.here hx rfl (hb hby at_99) rfl k))) ?_
    show Comes p e below _ (T18.setTop (mkF m 101 #[.val (.long la), .second, .val (.long lb), .second, .val (.long lc_), .second, .val (.long ld), .second, .val (.long v1), .second, .val (.long v2), .second, .val (.long v4), .second, .val (.long v5), .second, .val (.ref b6), .val (.long v16), .second, .val (.int (0 : Int32)), .val (.int r19), .unset] [(.long v5), (.ref b6)]))
    obtain ⟨cq20, kq20, q20a, q20b, q20c⟩ := isOf hZ hs18 P15_0
    obtain ⟨_, _, ⟨T20, L20, k20, n20⟩, -, X20, ⟨Lc20, hQ20, l20, y20, z20⟩, st20⟩ := X18.virtualBack hx (y := (⟨"com/example/ferry2/ferry2/util/MemoryBudget", "hasRoom", "(J)Z"⟩ : MethodName)) (z := (⟨"com/example/ferry2/ferry2/util/MemoryBudget", "hasRoom", "(J)Z"⟩ : MethodName)) hown (mvT hZ (hw _ (List.mem_of_getElem? (i := 29) rfl))) (mvT hZ (hw _ (List.mem_of_getElem? (i := 30) rfl))) (notFace_of_selects (args := #[]) (mvT hZ (hw _ (List.mem_of_getElem? (i := 32) rfl)))) (mvT hZ (hw _ (List.mem_of_getElem? (i := 32) rfl))) (mvT hZ (hw _ (List.mem_of_getElem? (i := 31) rfl))) (by decide) (backOf (W := 0) (rm5 l Z a0 hw [] b6 v5 v1 ((((0 : Int64) + v2) - v4)) T15.heap n0 (by omega)  P15_1 P15_2) hZ (hw _ (List.mem_of_getElem? (i := 33) rfl)) (hw _ (List.mem_of_getElem? (i := 3) rfl)) (by decide) (by decide)) q20a q20c (g := (mkF m 101 #[.val (.long la), .second, .val (.long lb), .second, .val (.long lc_), .second, .val (.long ld), .second, .val (.long v1), .second, .val (.long v2), .second, .val (.long v4), .second, .val (.long v5), .second, .val (.ref b6), .val (.long v16), .second, .val (.int (0 : Int32)), .val (.int r19), .unset] [(.long v5), (.ref b6)])) rfl (by rw [hml]; rfl) (Steps.refl _) (argsL := [(.long v5)]) (rest := []) (lenOf pd_2 rfl) rfl (by show 2 * 0 + _ ≤ _; exact Nat.le_of_eq rfl) (hb hby at_101) (fun _ _ => ⟨rfl, hs18, (by decide : 1 + 0 ≤ _), (by decide : 3 + 0 ≤ _)⟩)
    dsimp only [Pt.U, Pt.locs, Pt.cells, Pt.slots] at X20 l20 y20 z20 st20 hQ20
    subst l20 y20 z20
    obtain ⟨r21, rfl, Nq20, hs20, P20_0⟩ := hQ20
    have N20 := Fr.app N18 Nq20
    refine Comes.go st20 ?_
    show Comes p e below _ (T20.setTop (mkF m 104 #[.val (.long la), .second, .val (.long lb), .second, .val (.long lc_), .second, .val (.long ld), .second, .val (.long v1), .second, .val (.long v2), .second, .val (.long v4), .second, .val (.long v5), .second, .val (.ref b6), .val (.long v16), .second, .val (.int (0 : Int32)), .val (.int r19), .unset] [(.int r21)]))
    refine Comes.st (fun t k => XS.istore X20.here hx rfl (hb hby at_104) rfl (l' := #[.val (.long la), .second, .val (.long lb), .second, .val (.long lc_), .second, .val (.long ld), .second, .val (.long v1), .second, .val (.long v2), .second, .val (.long v4), .second, .val (.long v5), .second, .val (.ref b6), .val (.long v16), .second, .val (.int (0 : Int32)), .val (.int r19), .val (.int r21)]) rfl (XS.iload X20.here hx rfl (hb hby at_106) rfl (XS.iload X20.here hx rfl (hb hby at_108) rfl k))) ?_
    show Comes p e below _ (T20.setTop (mkF m 110 #[.val (.long la), .second, .val (.long lb), .second, .val (.long lc_), .second, .val (.long ld), .second, .val (.long v1), .second, .val (.long v2), .second, .val (.long v4), .second, .val (.long v5), .second, .val (.ref b6), .val (.long v16), .second, .val (.int (0 : Int32)), .val (.int r19), .val (.int r21)] [(.int (0 : Int32)), (.int r19)]))
    have hc110_22 : r19 = (0 : Int32) := by have a_0 := c_maskL la (4611686018427387903 : Int64) 62 (by decide) (by decide); rw [hv_v1] at a_0; have a_1 := c_maskL lb (4611686018427387903 : Int64) 62 (by decide) (by decide); rw [hv_v2] at a_1; have a_2 := c_maskL lc_ (4611686018427387903 : Int64) 62 (by decide) (by decide); have a_3 := c_ladd v2 (1 : Int64); have a_4 := own_lremV (lc_ &&& (4611686018427387903 : Int64)) (v2 + (1 : Int64)); rw [hv_v4] at a_4; have a_5 := c_maskL ld (4611686018427387903 : Int64) 62 (by decide) (by decide); rw [hv_v5] at a_5; have a_6 := c_lsub v2 v4; rw [hv_v16] at a_6; have a_7 := c_ladd v16 v5; have a_8 := rng64 (lc_ &&& (4611686018427387903 : Int64)); have a_9 := rng64 (v16 + v5); have a_10 := rng64 (v2 + (1 : Int64)); have a_11 := rng64 la; have a_12 := rng64 lb; have a_13 := rng64 lc_; have a_14 := rng64 ld; have a_15 := rng64 v1; have a_16 := rng64 v16; have a_17 := rng64 v2; have a_18 := rng64 v4; have a_19 := rng64 v5; have a_20 := rng64 v1; have a_21 := rng64 v2; have a_22 := c_ladd (0 : Int64) v2; have a_23 := rng64 ((0 : Int64) + v2); have a_24 := rng64 v4; have a_25 := c_lsub ((0 : Int64) + v2) v4; have a_26 := rng64 (((0 : Int64) + v2) - v4); have a_27 := c_lsub v1 (((0 : Int64) + v2) - v4); have a_28 := rng64 (v1 - (((0 : Int64) + v2) - v4)); have c_0 := hc78_17; have c_1 := P18_0; have c_2 := P20_0; (simp only [Int32.lt_iff_toInt_lt, Int64.lt_iff_toInt_lt, ← Int32.toInt_inj, ← Int64.toInt_inj, Int32.reduceToInt, Int64.reduceToInt] at a_0 a_1 a_2 a_3 a_4 a_5 a_6 a_7 a_8 a_9 a_10 a_11 a_12 a_13 a_14 a_15 a_16 a_17 a_18 a_19 a_20 a_21 a_22 a_23 a_24 a_25 a_26 a_27 a_28 c_0 c_1 c_2 ⊢) <;> omega
    refine Comes.st (fun t k => XS.icmpNo X20.here hx rfl (hb hby at_110) rfl (teq hc110_22).2 (XS.iload X20.here hx rfl (hb hby at_113) rfl (XS.iload X20.here hx rfl (hb hby at_115) rfl k))) ?_
    show Comes p e below _ (T20.setTop (mkF m 117 #[.val (.long la), .second, .val (.long lb), .second, .val (.long lc_), .second, .val (.long ld), .second, .val (.long v1), .second, .val (.long v2), .second, .val (.long v4), .second, .val (.long v5), .second, .val (.ref b6), .val (.long v16), .second, .val (.int (0 : Int32)), .val (.int r19), .val (.int r21)] [(.int (0 : Int32)), (.int r21)]))
    have hc117_23 : r21 = (0 : Int32) := by have a_0 := c_maskL la (4611686018427387903 : Int64) 62 (by decide) (by decide); rw [hv_v1] at a_0; have a_1 := c_maskL lb (4611686018427387903 : Int64) 62 (by decide) (by decide); rw [hv_v2] at a_1; have a_2 := c_maskL lc_ (4611686018427387903 : Int64) 62 (by decide) (by decide); have a_3 := c_ladd v2 (1 : Int64); have a_4 := own_lremV (lc_ &&& (4611686018427387903 : Int64)) (v2 + (1 : Int64)); rw [hv_v4] at a_4; have a_5 := c_maskL ld (4611686018427387903 : Int64) 62 (by decide) (by decide); rw [hv_v5] at a_5; have a_6 := c_lsub v2 v4; rw [hv_v16] at a_6; have a_7 := c_ladd v16 v5; have a_8 := rng64 (lc_ &&& (4611686018427387903 : Int64)); have a_9 := rng64 (v16 + v5); have a_10 := rng64 (v2 + (1 : Int64)); have a_11 := rng64 la; have a_12 := rng64 lb; have a_13 := rng64 lc_; have a_14 := rng64 ld; have a_15 := rng64 v1; have a_16 := rng64 v16; have a_17 := rng64 v2; have a_18 := rng64 v4; have a_19 := rng64 v5; have a_20 := rng64 v1; have a_21 := rng64 v2; have a_22 := c_ladd (0 : Int64) v2; have a_23 := rng64 ((0 : Int64) + v2); have a_24 := rng64 v4; have a_25 := c_lsub ((0 : Int64) + v2) v4; have a_26 := rng64 (((0 : Int64) + v2) - v4); have a_27 := c_lsub v1 (((0 : Int64) + v2) - v4); have a_28 := rng64 (v1 - (((0 : Int64) + v2) - v4)); have c_0 := hc78_17; have c_1 := hc110_22; have c_2 := P18_0; have c_3 := P20_0; (simp only [Int32.lt_iff_toInt_lt, Int64.lt_iff_toInt_lt, ← Int32.toInt_inj, ← Int64.toInt_inj, Int32.reduceToInt, Int64.reduceToInt] at a_0 a_1 a_2 a_3 a_4 a_5 a_6 a_7 a_8 a_9 a_10 a_11 a_12 a_13 a_14 a_15 a_16 a_17 a_18 a_19 a_20 a_21 a_22 a_23 a_24 a_25 a_26 a_27 a_28 c_0 c_1 c_2 c_3 ⊢) <;> omega
    refine Comes.st (fun t k => XS.icmpNo X20.here hx rfl (hb hby at_117) rfl (teq hc117_23).2 (XS.iconst X20.here hx rfl (hb hby at_120) (XS.goto X20.here hx rfl (pc0 := 121) (pc' := 125) rfl (hb hby at_121) (by decide) (by decide) k))) ?_
    show Comes p e below _ (T20.setTop (mkF m 125 #[.val (.long la), .second, .val (.long lb), .second, .val (.long lc_), .second, .val (.long ld), .second, .val (.long v1), .second, .val (.long v2), .second, .val (.long v4), .second, .val (.long v5), .second, .val (.ref b6), .val (.long v16), .second, .val (.int (0 : Int32)), .val (.int r19), .val (.int r21)] [(.int (1 : Int32))]))
    exact Comes.retN X20 hx (t := .boolean) Bd.returns (by simp) hlk (hb hby at_125) hs20 ⟨rfl, N20⟩ (by decide) (by decide)
  · refine Comes.st (fun t k => XS.ifNo X15.here hx rfl (hb hby at_78) rfl ((if0 _ _).trans (flt (fun q => hc78_17 ((lw_gt _ _).mp q))).2.2.1) (XS.iconst X15.here hx rfl (hb hby at_81) (XS.goto X15.here hx rfl (pc0 := 82) (pc' := 86) rfl (hb hby at_82) (by decide) (by decide) (XS.istore X15.here hx rfl (hb hby at_86) rfl (l' := #[.val (.long la), .second, .val (.long lb), .second, .val (.long lc_), .second, .val (.long ld), .second, .val (.long v1), .second, .val (.long v2), .second, .val (.long v4), .second, .val (.long v5), .second, .val (.ref b6), .val (.long v16), .second, .val (.int (1 : Int32)), .unset, .unset]) rfl (XS.aload X15.here hx rfl (hb hby at_88) rfl rfl (XS.lload X15.here hx rfl (hb hby at_90) rfl k)))))) ?_
    show Comes p e below _ (T15.setTop (mkF m 92 #[.val (.long la), .second, .val (.long lb), .second, .val (.long lc_), .second, .val (.long ld), .second, .val (.long v1), .second, .val (.long v2), .second, .val (.long v4), .second, .val (.long v5), .second, .val (.ref b6), .val (.long v16), .second, .val (.int (1 : Int32)), .unset, .unset] [(.long v5), (.ref b6)]))
    obtain ⟨cq24, kq24, q24a, q24b, q24c⟩ := isOf hZ rfl P15_0
    obtain ⟨_, _, ⟨T24, L24, k24, n24⟩, -, X24, ⟨Lc24, hQ24, l24, y24, z24⟩, st24⟩ := X15.virtualBack hx (y := (⟨"com/example/ferry2/ferry2/util/MemoryBudget", "hasRoom", "(J)Z"⟩ : MethodName)) (z := (⟨"com/example/ferry2/ferry2/util/MemoryBudget", "hasRoom", "(J)Z"⟩ : MethodName)) hown (mvT hZ (hw _ (List.mem_of_getElem? (i := 29) rfl))) (mvT hZ (hw _ (List.mem_of_getElem? (i := 30) rfl))) (notFace_of_selects (args := #[]) (mvT hZ (hw _ (List.mem_of_getElem? (i := 32) rfl)))) (mvT hZ (hw _ (List.mem_of_getElem? (i := 32) rfl))) (mvT hZ (hw _ (List.mem_of_getElem? (i := 31) rfl))) (by decide) (backOf (W := 0) (rm5 l Z a0 hw [] b6 v5 v1 ((((0 : Int64) + v2) - v4)) T15.heap n0 (by omega)  P15_1 P15_2) hZ (hw _ (List.mem_of_getElem? (i := 33) rfl)) (hw _ (List.mem_of_getElem? (i := 3) rfl)) (by decide) (by decide)) q24a q24c (g := (mkF m 92 #[.val (.long la), .second, .val (.long lb), .second, .val (.long lc_), .second, .val (.long ld), .second, .val (.long v1), .second, .val (.long v2), .second, .val (.long v4), .second, .val (.long v5), .second, .val (.ref b6), .val (.long v16), .second, .val (.int (1 : Int32)), .unset, .unset] [(.long v5), (.ref b6)])) rfl (by rw [hml]; rfl) (Steps.refl _) (argsL := [(.long v5)]) (rest := []) (lenOf pd_2 rfl) rfl (by show 2 * 0 + _ ≤ _; exact Nat.le_of_eq rfl) (hb hby at_92) (fun _ _ => ⟨rfl, rfl, (by decide : 1 + 0 ≤ _), (by decide : 3 + 0 ≤ _)⟩)
    dsimp only [Pt.U, Pt.locs, Pt.cells, Pt.slots] at X24 l24 y24 z24 st24 hQ24
    subst l24 y24 z24
    obtain ⟨r25, rfl, Nq24, hs24, P24_0⟩ := hQ24
    have N24 := Fr.app N15 Nq24
    refine Comes.go st24 ?_
    show Comes p e below _ (T24.setTop (mkF m 95 #[.val (.long la), .second, .val (.long lb), .second, .val (.long lc_), .second, .val (.long ld), .second, .val (.long v1), .second, .val (.long v2), .second, .val (.long v4), .second, .val (.long v5), .second, .val (.ref b6), .val (.long v16), .second, .val (.int (1 : Int32)), .unset, .unset] [(.int r25)]))
    refine Comes.st (fun t k => XS.istore X24.here hx rfl (hb hby at_95) rfl (l' := #[.val (.long la), .second, .val (.long lb), .second, .val (.long lc_), .second, .val (.long ld), .second, .val (.long v1), .second, .val (.long v2), .second, .val (.long v4), .second, .val (.long v5), .second, .val (.ref b6), .val (.long v16), .second, .val (.int (1 : Int32)), .val (.int r25), .unset]) rfl (XS.aload X24.here hx rfl (hb hby at_97) rfl rfl (XS.lload X24.here hx rfl (hb hby at_99) rfl k))) ?_
    show Comes p e below _ (T24.setTop (mkF m 101 #[.val (.long la), .second, .val (.long lb), .second, .val (.long lc_), .second, .val (.long ld), .second, .val (.long v1), .second, .val (.long v2), .second, .val (.long v4), .second, .val (.long v5), .second, .val (.ref b6), .val (.long v16), .second, .val (.int (1 : Int32)), .val (.int r25), .unset] [(.long v5), (.ref b6)]))
    obtain ⟨cq26, kq26, q26a, q26b, q26c⟩ := isOf hZ hs24 P15_0
    obtain ⟨_, _, ⟨T26, L26, k26, n26⟩, -, X26, ⟨Lc26, hQ26, l26, y26, z26⟩, st26⟩ := X24.virtualBack hx (y := (⟨"com/example/ferry2/ferry2/util/MemoryBudget", "hasRoom", "(J)Z"⟩ : MethodName)) (z := (⟨"com/example/ferry2/ferry2/util/MemoryBudget", "hasRoom", "(J)Z"⟩ : MethodName)) hown (mvT hZ (hw _ (List.mem_of_getElem? (i := 29) rfl))) (mvT hZ (hw _ (List.mem_of_getElem? (i := 30) rfl))) (notFace_of_selects (args := #[]) (mvT hZ (hw _ (List.mem_of_getElem? (i := 32) rfl)))) (mvT hZ (hw _ (List.mem_of_getElem? (i := 32) rfl))) (mvT hZ (hw _ (List.mem_of_getElem? (i := 31) rfl))) (by decide) (backOf (W := 0) (rm5 l Z a0 hw [] b6 v5 v1 ((((0 : Int64) + v2) - v4)) T15.heap n0 (by omega)  P15_1 P15_2) hZ (hw _ (List.mem_of_getElem? (i := 33) rfl)) (hw _ (List.mem_of_getElem? (i := 3) rfl)) (by decide) (by decide)) q26a q26c (g := (mkF m 101 #[.val (.long la), .second, .val (.long lb), .second, .val (.long lc_), .second, .val (.long ld), .second, .val (.long v1), .second, .val (.long v2), .second, .val (.long v4), .second, .val (.long v5), .second, .val (.ref b6), .val (.long v16), .second, .val (.int (1 : Int32)), .val (.int r25), .unset] [(.long v5), (.ref b6)])) rfl (by rw [hml]; rfl) (Steps.refl _) (argsL := [(.long v5)]) (rest := []) (lenOf pd_2 rfl) rfl (by show 2 * 0 + _ ≤ _; exact Nat.le_of_eq rfl) (hb hby at_101) (fun _ _ => ⟨rfl, hs24, (by decide : 1 + 0 ≤ _), (by decide : 3 + 0 ≤ _)⟩)
    dsimp only [Pt.U, Pt.locs, Pt.cells, Pt.slots] at X26 l26 y26 z26 st26 hQ26
    subst l26 y26 z26
    obtain ⟨r27, rfl, Nq26, hs26, P26_0⟩ := hQ26
    have N26 := Fr.app N24 Nq26
    refine Comes.go st26 ?_
    show Comes p e below _ (T26.setTop (mkF m 104 #[.val (.long la), .second, .val (.long lb), .second, .val (.long lc_), .second, .val (.long ld), .second, .val (.long v1), .second, .val (.long v2), .second, .val (.long v4), .second, .val (.long v5), .second, .val (.ref b6), .val (.long v16), .second, .val (.int (1 : Int32)), .val (.int r25), .unset] [(.int r27)]))
    refine Comes.st (fun t k => XS.istore X26.here hx rfl (hb hby at_104) rfl (l' := #[.val (.long la), .second, .val (.long lb), .second, .val (.long lc_), .second, .val (.long ld), .second, .val (.long v1), .second, .val (.long v2), .second, .val (.long v4), .second, .val (.long v5), .second, .val (.ref b6), .val (.long v16), .second, .val (.int (1 : Int32)), .val (.int r25), .val (.int r27)]) rfl (XS.iload X26.here hx rfl (hb hby at_106) rfl (XS.iload X26.here hx rfl (hb hby at_108) rfl k))) ?_
    show Comes p e below _ (T26.setTop (mkF m 110 #[.val (.long la), .second, .val (.long lb), .second, .val (.long lc_), .second, .val (.long ld), .second, .val (.long v1), .second, .val (.long v2), .second, .val (.long v4), .second, .val (.long v5), .second, .val (.ref b6), .val (.long v16), .second, .val (.int (1 : Int32)), .val (.int r25), .val (.int r27)] [(.int (1 : Int32)), (.int r25)]))
    have hc110_28 : r25 = (1 : Int32) := by have a_0 := c_maskL la (4611686018427387903 : Int64) 62 (by decide) (by decide); rw [hv_v1] at a_0; have a_1 := c_maskL lb (4611686018427387903 : Int64) 62 (by decide) (by decide); rw [hv_v2] at a_1; have a_2 := c_maskL lc_ (4611686018427387903 : Int64) 62 (by decide) (by decide); have a_3 := c_ladd v2 (1 : Int64); have a_4 := own_lremV (lc_ &&& (4611686018427387903 : Int64)) (v2 + (1 : Int64)); rw [hv_v4] at a_4; have a_5 := c_maskL ld (4611686018427387903 : Int64) 62 (by decide) (by decide); rw [hv_v5] at a_5; have a_6 := c_lsub v2 v4; rw [hv_v16] at a_6; have a_7 := c_ladd v16 v5; have a_8 := rng64 (lc_ &&& (4611686018427387903 : Int64)); have a_9 := rng64 (v16 + v5); have a_10 := rng64 (v2 + (1 : Int64)); have a_11 := rng64 la; have a_12 := rng64 lb; have a_13 := rng64 lc_; have a_14 := rng64 ld; have a_15 := rng64 v1; have a_16 := rng64 v16; have a_17 := rng64 v2; have a_18 := rng64 v4; have a_19 := rng64 v5; have a_20 := rng64 v1; have a_21 := rng64 v2; have a_22 := c_ladd (0 : Int64) v2; have a_23 := rng64 ((0 : Int64) + v2); have a_24 := rng64 v4; have a_25 := c_lsub ((0 : Int64) + v2) v4; have a_26 := rng64 (((0 : Int64) + v2) - v4); have a_27 := c_lsub v1 (((0 : Int64) + v2) - v4); have a_28 := rng64 (v1 - (((0 : Int64) + v2) - v4)); have c_0 := hc78_17; have c_1 := P24_0; have c_2 := P26_0; (simp only [Int32.lt_iff_toInt_lt, Int64.lt_iff_toInt_lt, ← Int32.toInt_inj, ← Int64.toInt_inj, Int32.reduceToInt, Int64.reduceToInt] at a_0 a_1 a_2 a_3 a_4 a_5 a_6 a_7 a_8 a_9 a_10 a_11 a_12 a_13 a_14 a_15 a_16 a_17 a_18 a_19 a_20 a_21 a_22 a_23 a_24 a_25 a_26 a_27 a_28 c_0 c_1 c_2 ⊢) <;> omega
    refine Comes.st (fun t k => XS.icmpNo X26.here hx rfl (hb hby at_110) rfl (teq hc110_28).2 (XS.iload X26.here hx rfl (hb hby at_113) rfl (XS.iload X26.here hx rfl (hb hby at_115) rfl k))) ?_
    show Comes p e below _ (T26.setTop (mkF m 117 #[.val (.long la), .second, .val (.long lb), .second, .val (.long lc_), .second, .val (.long ld), .second, .val (.long v1), .second, .val (.long v2), .second, .val (.long v4), .second, .val (.long v5), .second, .val (.ref b6), .val (.long v16), .second, .val (.int (1 : Int32)), .val (.int r25), .val (.int r27)] [(.int (1 : Int32)), (.int r27)]))
    have hc117_29 : r27 = (1 : Int32) := by have a_0 := c_maskL la (4611686018427387903 : Int64) 62 (by decide) (by decide); rw [hv_v1] at a_0; have a_1 := c_maskL lb (4611686018427387903 : Int64) 62 (by decide) (by decide); rw [hv_v2] at a_1; have a_2 := c_maskL lc_ (4611686018427387903 : Int64) 62 (by decide) (by decide); have a_3 := c_ladd v2 (1 : Int64); have a_4 := own_lremV (lc_ &&& (4611686018427387903 : Int64)) (v2 + (1 : Int64)); rw [hv_v4] at a_4; have a_5 := c_maskL ld (4611686018427387903 : Int64) 62 (by decide) (by decide); rw [hv_v5] at a_5; have a_6 := c_lsub v2 v4; rw [hv_v16] at a_6; have a_7 := c_ladd v16 v5; have a_8 := rng64 (lc_ &&& (4611686018427387903 : Int64)); have a_9 := rng64 (v16 + v5); have a_10 := rng64 (v2 + (1 : Int64)); have a_11 := rng64 la; have a_12 := rng64 lb; have a_13 := rng64 lc_; have a_14 := rng64 ld; have a_15 := rng64 v1; have a_16 := rng64 v16; have a_17 := rng64 v2; have a_18 := rng64 v4; have a_19 := rng64 v5; have a_20 := rng64 v1; have a_21 := rng64 v2; have a_22 := c_ladd (0 : Int64) v2; have a_23 := rng64 ((0 : Int64) + v2); have a_24 := rng64 v4; have a_25 := c_lsub ((0 : Int64) + v2) v4; have a_26 := rng64 (((0 : Int64) + v2) - v4); have a_27 := c_lsub v1 (((0 : Int64) + v2) - v4); have a_28 := rng64 (v1 - (((0 : Int64) + v2) - v4)); have c_0 := hc78_17; have c_1 := hc110_28; have c_2 := P24_0; have c_3 := P26_0; (simp only [Int32.lt_iff_toInt_lt, Int64.lt_iff_toInt_lt, ← Int32.toInt_inj, ← Int64.toInt_inj, Int32.reduceToInt, Int64.reduceToInt] at a_0 a_1 a_2 a_3 a_4 a_5 a_6 a_7 a_8 a_9 a_10 a_11 a_12 a_13 a_14 a_15 a_16 a_17 a_18 a_19 a_20 a_21 a_22 a_23 a_24 a_25 a_26 a_27 a_28 c_0 c_1 c_2 c_3 ⊢) <;> omega
    refine Comes.st (fun t k => XS.icmpNo X26.here hx rfl (hb hby at_117) rfl (teq hc117_29).2 (XS.iconst X26.here hx rfl (hb hby at_120) (XS.goto X26.here hx rfl (pc0 := 121) (pc' := 125) rfl (hb hby at_121) (by decide) (by decide) k))) ?_
    show Comes p e below _ (T26.setTop (mkF m 125 #[.val (.long la), .second, .val (.long lb), .second, .val (.long lc_), .second, .val (.long ld), .second, .val (.long v1), .second, .val (.long v2), .second, .val (.long v4), .second, .val (.long v5), .second, .val (.ref b6), .val (.long v16), .second, .val (.int (1 : Int32)), .val (.int r25), .val (.int r27)] [(.int (1 : Int32))]))
    exact Comes.retN X26 hx (t := .boolean) Bd.returns (by simp) hlk (hb hby at_125) hs26 ⟨rfl, N26⟩ (by decide) (by decide)
set_option maxRecDepth 65536 in
set_option maxHeartbeats 40000000 in
theorem comes_1 {Post : Tables → Env → Array Value → State → Outcome → State → Prop} (hpost : ∀ tb e args s v u, (limb_1_1.after args s (.returned v) u = true ∧ limb_1_2.after args s (.returned v) u = true ∧ True) → FrameEnd s (.returned v) u (Jvm.fieldLocs frame_1_writes args s ++ Jvm.arrayLocs frame_1_arrays args s ++ Jvm.staticLocs frame_1_statics s) 16 128 → Post tb e args s (.returned v) u) :
    ArmFor flags0 classFile x code maxLocals ret World_1 tables_1 room_1 Calls_1 rest_1 Pre_1 Post := by
  intro l hfl _ _ p e ha hc hk s m args below hf hA hF happ hP
  obtain ⟨hcalls, hrest, hpre⟩ := hP
  obtain ⟨-, -, -, hnamed, -, -, -, hat⟩ := (Spec.applies_iff hf).mp happ
  obtain ⟨hg, hn⟩ := and_e (Cond.before_iff.mp (show (Jvm.Cond.and given_1 narrow_1).before args s = true from hpre))
  obtain ⟨c0, d0⟩ := and_e hg
  obtain ⟨c1, d1⟩ := and_e d0
  obtain ⟨c2, d2⟩ := and_e d1
  obtain ⟨c3, d3⟩ := and_e d2
  obtain ⟨w0, w1, w2, w3, rfl⟩ : ∃ w0 w1 w2 w3 : Value, args = #[w0, w1, w2, w3] := by
    have hs : args.size = 4 := by simpa [Cond.value, given_1] using c0
    obtain ⟨L⟩ := args
    match L, hs with
    | [w0, w1, w2, w3], _ => exact ⟨w0, w1, w2, w3, rfl⟩
  have hw := fun d (hd : d ∈ tables_1) => atoms_spec (ws := Jvm.Cond.code x code maxLocals ret :: tables_1) hat d (List.mem_cons_of_mem _ hd)
  have hfit : Fit s := fun {y c} hc i hi => by
    obtain ⟨ha, rfl⟩ := Array.getElem?_eq_some_iff.mp hc
    have q := List.all_eq_true.mp ((Array.all_eq_true_iff_forall_mem.mp hF) _ (Array.getElem_mem ha)) i (List.mem_range.mpr hi)
    simpa [Array.getElem?_eq_getElem hi] using q
  obtain ⟨i0, ei0⟩ := isL_v c1
  obtain rfl : w0 = (.long i0) := Option.some.inj ei0
  obtain ⟨i1, ei1⟩ := isL_v c2
  obtain rfl : w1 = (.long i1) := Option.some.inj ei1
  obtain ⟨i2, ei2⟩ := isL_v c3
  obtain rfl : w2 = (.long i2) := Option.some.inj ei2
  obtain ⟨i3, ei3⟩ := isL_v d3
  obtain rfl : w3 = (.long i3) := Option.some.inj ei3
  obtain ⟨sh, eb⟩ := exa_v hn
  obtain ⟨n, o, h1, h2, h3, _, L, rfl, ⟨rfl, N⟩, hq⟩ := rm0 l s _ hw tables_1 i0 i1 i2 i3 sh s.heap s.heap.size (Nat.le_refl _) (Sta.start eb (Or.inr ⟨(hw _ (List.mem_of_getElem? (i := 5) rfl)), (hw _ (List.mem_of_getElem? (i := 6) rfl))⟩)) (Old.start s) p e ha hc hk s m _ below hf ((Spec.applies_iff_loose hf).mp happ).1 ⟨rfl, State.Warmed39.refl s, rfl⟩ trivial
  refine ⟨n, _, h1, h2, h3, hpost _ _ _ _ _ _ ⟨Cond.after_iff.mpr rfl, Cond.after_iff.mpr (eq_i res_at (Term.int_eval (1)) rfl), trivial⟩ ⟨hq.1, hq.2.1, (hq.2.2.sift fun y hy => Or.inr (N y hy)).mono (by decide) (by decide)⟩⟩
theorem main_1_1 : Claimed_1_1 := comes_1 fun _ _ _ _ _ _ h hF => ⟨h.1, hF⟩
theorem main_1_2 : Claimed_1_2 := comes_1 fun _ _ _ _ _ _ h hF => ⟨h.2.1, hF⟩
end Jvm.Pilot.@@N@@
namespace Jvm.Pilot.@@N@@
open Jvm Jvm.ClassFile Sem Op Lib Jvm.Free Jvm.Stand Jvm.Pilot.@@N@@.Jvm.D
/-! MADE BY PROGRAM (witnessworld.py) out of the Statement's table words and the real class files: 13 classes; the members and pool entries that the words name. The judged class is class 1, her method 1. -/
namespace start1
open Jvm.ClassFile
def u (s : String) : CpInfo := .utf8 (stringToUtf16 s)
/-- a pool by its gaps: so many unusable entries, then the entry; so many at the end -/
def gap : Nat → List CpInfo → List CpInfo
  | 0, r => r
  | n + 1, r => .unusable :: gap n r
def poolList (es : List (Nat × CpInfo)) (last : Nat) : List CpInfo := es.foldr (fun e r => gap e.1 (e.2 :: r)) (gap last [])
def pool (es : List (Nat × CpInfo)) (last : Nat) : Array CpInfo := ⟨poolList es last⟩
def fileOf (pool : Array CpInfo) (this : Nat) (attrs : Array Attribute := #[]) (ms : Array MethodInfo := #[]) (fl : Nat := 33) (sup : Nat := 0) (ifs : Array Nat := #[]) (fds : Array FieldInfo := #[]) : ClassFile where
  minorVersion := 0
  majorVersion := 65
  constantPool := pool
  accessFlags := fl
  thisClass := this
  superClass := sup
  interfaces := ifs
  fields := fds
  methods := ms
  attributes := attrs
def plain (name : String) (sup : Option ClassId) : Class where
  name := name
  kind := .ordinary
  loader := none
  accessFlags := 33
  super := sup
  interfaces := #[]
  cf := none
  fields := #[]
  methods := #[]
  instanceTypes := #[]
  staticTypes := #[]
  resolved := #[]
  callSites := []
  init := .initialized
  statics := none
  mirror := none

def pool0 : Array CpInfo := pool [(5, u "<init>"), (0, u "()V"), (1, .class_ 10), (1, u "java/lang/Object")] 113

def k0c0 : Code := { maxStack := 0, maxLocals := 1, code := object_method_1_code, exceptionTable := #[], attributes := #[] }
def k0m0 : Method := { name := "<init>", desc := "()V", sig := { parameters := [], returnType := none }, accessFlags := 1, code := some k0c0 }
/-- java/lang/Object -/
def k0 : Class := { plain "java/lang/Object" none with
  accessFlags := 33
  interfaces := #[]
  cf := some (fileOf pool0 8 #[] #[{ accessFlags := 1, nameIndex := 5, descriptorIndex := 6, attributes := #[] }] 33 0 #[] #[])
  fields := #[]
  methods := #[k0m0]
  instanceTypes := #[]
  staticTypes := #[]
  resolved := Array.replicate 124 none
  statics := none }

def pool1 : Array CpInfo := pool [(2, .class_ 4), (1, u "java/lang/Object"), (0, u "<init>"), (0, u "()V"), (0, .long 4611686018427387903), (1, .class_ 10), (0, u "com/example/ferry2/ferry2/util/MemoryBudget"), (0, .fieldref 12 13), (0, .class_ 14), (0, .nameAndType 15 16), (0, u "com/example/ferry2/ferry2/util/HeapShare"), (0, u "RETAINED"), (0, u "Lcom/example/ferry2/ferry2/util/HeapShare;"), (0, .methodref 9 18), (0, .nameAndType 5 19), (0, u "(Lcom/example/ferry2/ferry2/util/HeapShare;J)V"), (0, .methodref 9 21), (0, .nameAndType 22 23), (0, u "reserveAnyway"), (0, u "(J)V"), (0, .methodref 9 25), (0, .nameAndType 26 23), (0, u "release"), (0, .methodref 9 28), (0, .nameAndType 29 30), (0, u "hasRoom"), (0, u "(J)Z"), (0, .class_ 32), (0, u "com/example/ferry2/ferry2/util/MemoryBudgetHasRoomPinLaw"), (2, u "law"), (0, u "(JJJJ)Z")] 3

def k1m0 : Method := { name := "<init>", desc := "()V", sig := { parameters := [], returnType := none }, accessFlags := 1, code := none }
def k1c1 : Code := { maxStack := 6, maxLocals := 22, code := code, exceptionTable := #[], attributes := #[] }
def k1m1 : Method := { name := "law", desc := "(JJJJ)Z", sig := { parameters := [.long, .long, .long, .long], returnType := some .boolean }, accessFlags := 9, code := some k1c1 }
/-- com/example/ferry2/ferry2/util/MemoryBudgetHasRoomPinLaw -/
def k1 : Class := { plain "com/example/ferry2/ferry2/util/MemoryBudgetHasRoomPinLaw" (some 0) with
  accessFlags := 49
  interfaces := #[]
  cf := some (fileOf pool1 31 #[] #[{ accessFlags := 1, nameIndex := 5, descriptorIndex := 6, attributes := #[] }, { accessFlags := 9, nameIndex := 35, descriptorIndex := 36, attributes := #[] }] 49 2 #[] #[])
  fields := #[]
  methods := #[k1m0, k1m1]
  instanceTypes := #[]
  staticTypes := #[]
  resolved := Array.replicate 40 none
  statics := none }

def pool2 : Array CpInfo := pool [(1, .methodref 2 3), (0, .class_ 4), (0, .nameAndType 5 6), (0, u "java/lang/Object"), (0, u "<init>"), (0, u "()V"), (0, .fieldref 8 9), (0, .class_ 10), (0, .nameAndType 11 12), (0, u "com/example/ferry2/ferry2/util/MemoryBudget"), (0, u "share"), (0, u "Lcom/example/ferry2/ferry2/util/HeapShare;"), (0, .fieldref 8 14), (0, .nameAndType 15 16), (0, u "limit"), (0, u "J"), (2, u "hasRoom"), (0, u "(J)Z"), (0, .fieldref 8 22), (0, .nameAndType 23 16), (0, u "reserved"), (10, u "(Lcom/example/ferry2/ferry2/util/HeapShare;J)V"), (4, u "reserveAnyway"), (0, u "(J)V"), (0, u "release")] 18

def k2c0 : Code := { maxStack := 3, maxLocals := 4, code := prog_47_method_1_code, exceptionTable := #[], attributes := #[] }
def k2m0 : Method := { name := "<init>", desc := "(Lcom/example/ferry2/ferry2/util/HeapShare;J)V", sig := { parameters := [(.object "com/example/ferry2/ferry2/util/HeapShare"), .long], returnType := none }, accessFlags := 1, code := some k2c0 }
def k2c1 : Code := { maxStack := 6, maxLocals := 3, code := prog_47_method_3_code, exceptionTable := #[], attributes := #[] }
def k2m1 : Method := { name := "hasRoom", desc := "(J)Z", sig := { parameters := [.long], returnType := some .boolean }, accessFlags := 1, code := some k2c1 }
def k2c2 : Code := { maxStack := 5, maxLocals := 3, code := prog_47_method_4_code, exceptionTable := #[], attributes := #[] }
def k2m2 : Method := { name := "reserveAnyway", desc := "(J)V", sig := { parameters := [.long], returnType := none }, accessFlags := 1, code := some k2c2 }
def k2c3 : Code := { maxStack := 5, maxLocals := 3, code := prog_47_method_5_code, exceptionTable := #[], attributes := #[] }
def k2m3 : Method := { name := "release", desc := "(J)V", sig := { parameters := [.long], returnType := none }, accessFlags := 1, code := some k2c3 }
/-- com/example/ferry2/ferry2/util/MemoryBudget -/
def k2 : Class := { plain "com/example/ferry2/ferry2/util/MemoryBudget" (some 0) with
  accessFlags := 49
  interfaces := #[]
  cf := some (fileOf pool2 8 #[] #[{ accessFlags := 1, nameIndex := 5, descriptorIndex := 34, attributes := #[] }, { accessFlags := 1, nameIndex := 19, descriptorIndex := 20, attributes := #[] }, { accessFlags := 1, nameIndex := 39, descriptorIndex := 40, attributes := #[] }, { accessFlags := 1, nameIndex := 41, descriptorIndex := 40, attributes := #[] }] 49 2 #[] #[{ accessFlags := 18, nameIndex := 11, descriptorIndex := 12, attributes := #[] }, { accessFlags := 18, nameIndex := 15, descriptorIndex := 16, attributes := #[] }, { accessFlags := 2, nameIndex := 23, descriptorIndex := 16, attributes := #[] }])
  fields := #[{ name := "share", type := (.object "com/example/ferry2/ferry2/util/HeapShare"), accessFlags := 18, slot := 0, constantValue := 0 }, { name := "limit", type := .long, accessFlags := 18, slot := 1, constantValue := 0 }, { name := "reserved", type := .long, accessFlags := 2, slot := 2, constantValue := 0 }]
  methods := #[k2m0, k2m1, k2m2, k2m3]
  instanceTypes := #[(.object "com/example/ferry2/ferry2/util/HeapShare"), .long, .long]
  staticTypes := #[]
  resolved := Array.replicate 60 none
  statics := none }

def pool3 : Array CpInfo := pool [(1, .class_ 2), (0, u "java/lang/constant/Constable"), (0, .class_ 4), (0, u "java/lang/Object")] 6

/-- java/lang/constant/Constable -/
def k3 : Class := { plain "java/lang/constant/Constable" (some 0) with
  accessFlags := 1537
  interfaces := #[]
  cf := some (fileOf pool3 1 #[] #[] 1537 3 #[] #[])
  fields := #[]
  methods := #[]
  instanceTypes := #[]
  staticTypes := #[]
  resolved := Array.replicate 11 none
  statics := none }

def pool4 : Array CpInfo := pool [(1, .class_ 2), (0, u "java/lang/Comparable"), (0, .class_ 4), (0, u "java/lang/Object")] 7

/-- java/lang/Comparable -/
def k4 : Class := { plain "java/lang/Comparable" (some 0) with
  accessFlags := 1537
  interfaces := #[]
  cf := some (fileOf pool4 1 #[] #[] 1537 3 #[] #[])
  fields := #[]
  methods := #[]
  instanceTypes := #[]
  staticTypes := #[]
  resolved := Array.replicate 12 none
  statics := none }

def pool5 : Array CpInfo := pool [(1, .class_ 2), (0, u "java/io/Serializable"), (0, .class_ 4), (0, u "java/lang/Object")] 2

/-- java/io/Serializable -/
def k5 : Class := { plain "java/io/Serializable" (some 0) with
  accessFlags := 1537
  interfaces := #[]
  cf := some (fileOf pool5 1 #[] #[] 1537 3 #[] #[])
  fields := #[]
  methods := #[]
  instanceTypes := #[]
  staticTypes := #[]
  resolved := Array.replicate 7 none
  statics := none }

def pool6 : Array CpInfo := pool [(2, .class_ 4), (1, u "java/lang/Enum"), (0, u "name"), (0, u "Ljava/lang/String;"), (2, u "ordinal"), (0, u "I"), (1, .class_ 14), (1, u "java/lang/Object"), (4, u "hash"), (86, .class_ 108), (1, u "java/lang/Enum$EnumDesc"), (2, .class_ 112), (0, u "java/lang/constant/Constable"), (0, .class_ 114), (0, u "java/lang/Comparable"), (0, .class_ 116), (0, u "java/io/Serializable")] 87

/-- java/lang/Enum -/
def k6 : Class := { plain "java/lang/Enum" (some 0) with
  accessFlags := 1057
  interfaces := #[3, 4, 5]
  cf := some (fileOf pool6 2 #[.nestMembers #[106]] #[] 1057 12 #[111, 113, 115] #[{ accessFlags := 18, nameIndex := 5, descriptorIndex := 6, attributes := #[] }, { accessFlags := 18, nameIndex := 9, descriptorIndex := 10, attributes := #[] }, { accessFlags := 2, nameIndex := 19, descriptorIndex := 10, attributes := #[] }])
  fields := #[{ name := "name", type := (.object "java/lang/String"), accessFlags := 18, slot := 0, constantValue := 0 }, { name := "ordinal", type := .int, accessFlags := 18, slot := 1, constantValue := 0 }, { name := "hash", type := .int, accessFlags := 2, slot := 2, constantValue := 0 }]
  methods := #[]
  instanceTypes := #[(.object "java/lang/String"), .int, .int]
  staticTypes := #[]
  resolved := Array.replicate 204 none
  statics := none }

def pool7 : Array CpInfo := pool [(1, .class_ 2), (0, u "com/example/ferry2/ferry2/util/HeapShare"), (2, u "INBOUND"), (0, u "Lcom/example/ferry2/ferry2/util/HeapShare;"), (2, u "SUBSCRIPTIONS"), (2, u "RETAINED"), (2, u "WILLS"), (2, u "SESSIONS"), (2, u "ANSWERS"), (2, u "$VALUES"), (0, u "[Lcom/example/ferry2/ferry2/util/HeapShare;"), (6, .class_ 34), (1, u "java/lang/Enum"), (8, u "held"), (0, u "Ljava/lang/String;"), (2, u "parts"), (0, u "I")] 48

/-- com/example/ferry2/ferry2/util/HeapShare -/
def k7 : Class := { plain "com/example/ferry2/ferry2/util/HeapShare" (some 6) with
  accessFlags := 16433
  interfaces := #[]
  cf := some (fileOf pool7 1 #[] #[] 16433 32 #[] #[{ accessFlags := 16409, nameIndex := 5, descriptorIndex := 6, attributes := #[] }, { accessFlags := 16409, nameIndex := 9, descriptorIndex := 6, attributes := #[] }, { accessFlags := 16409, nameIndex := 12, descriptorIndex := 6, attributes := #[] }, { accessFlags := 16409, nameIndex := 15, descriptorIndex := 6, attributes := #[] }, { accessFlags := 16409, nameIndex := 18, descriptorIndex := 6, attributes := #[] }, { accessFlags := 16409, nameIndex := 21, descriptorIndex := 6, attributes := #[] }, { accessFlags := 18, nameIndex := 43, descriptorIndex := 44, attributes := #[] }, { accessFlags := 18, nameIndex := 47, descriptorIndex := 48, attributes := #[] }, { accessFlags := 4122, nameIndex := 24, descriptorIndex := 25, attributes := #[] }])
  fields := #[{ name := "INBOUND", type := (.object "com/example/ferry2/ferry2/util/HeapShare"), accessFlags := 16409, slot := 0, constantValue := 0 }, { name := "SUBSCRIPTIONS", type := (.object "com/example/ferry2/ferry2/util/HeapShare"), accessFlags := 16409, slot := 1, constantValue := 0 }, { name := "RETAINED", type := (.object "com/example/ferry2/ferry2/util/HeapShare"), accessFlags := 16409, slot := 2, constantValue := 0 }, { name := "WILLS", type := (.object "com/example/ferry2/ferry2/util/HeapShare"), accessFlags := 16409, slot := 3, constantValue := 0 }, { name := "SESSIONS", type := (.object "com/example/ferry2/ferry2/util/HeapShare"), accessFlags := 16409, slot := 4, constantValue := 0 }, { name := "ANSWERS", type := (.object "com/example/ferry2/ferry2/util/HeapShare"), accessFlags := 16409, slot := 5, constantValue := 0 }, { name := "held", type := (.object "java/lang/String"), accessFlags := 18, slot := 3, constantValue := 0 }, { name := "parts", type := .int, accessFlags := 18, slot := 4, constantValue := 0 }, { name := "$VALUES", type := (.array (.object "com/example/ferry2/ferry2/util/HeapShare")), accessFlags := 4122, slot := 6, constantValue := 0 }]
  methods := #[]
  instanceTypes := #[(.object "java/lang/String"), .int, .int, (.object "java/lang/String"), .int]
  staticTypes := #[(.object "com/example/ferry2/ferry2/util/HeapShare"), (.object "com/example/ferry2/ferry2/util/HeapShare"), (.object "com/example/ferry2/ferry2/util/HeapShare"), (.object "com/example/ferry2/ferry2/util/HeapShare"), (.object "com/example/ferry2/ferry2/util/HeapShare"), (.object "com/example/ferry2/ferry2/util/HeapShare"), (.array (.object "com/example/ferry2/ferry2/util/HeapShare"))]
  resolved := Array.replicate 97 none
  statics := some 0 }

def pool8 : Array CpInfo := pool [(1, u "java/lang/Cloneable"), (0, .class_ 1), (0, u "java/lang/Object"), (0, .class_ 3)] 3

/-- java/lang/Cloneable -/
def k8 : Class := { plain "java/lang/Cloneable" (some 0) with
  accessFlags := 1537
  interfaces := #[]
  cf := some (fileOf pool8 2 #[] #[] 1537 4 #[] #[])
  fields := #[]
  methods := #[]
  instanceTypes := #[]
  staticTypes := #[]
  resolved := Array.replicate 8 none
  statics := none }

/-- the primitive byte -/
def k9 : Class := { plain "byte" none with kind := .primitive 'B', accessFlags := 0x411 }
/-- [B -/
def k10 : Class := { plain "[B" (some 0) with kind := .array 9 .byte, interfaces := #[8, 5], accessFlags := 1041 }

/-- the primitive int -/
def k11 : Class := { plain "int" none with kind := .primitive 'I', accessFlags := 0x411 }
/-- [I -/
def k12 : Class := { plain "[I" (some 0) with kind := .array 11 .int, interfaces := #[8, 5], accessFlags := 1041 }

def heap : Heap := #[{ cls := 7, slots := #[.null, .null, .ref 1, .null, .null, .null, .null], vm := .statics 7 },
  { cls := 7, slots := #[.null, .int 0, .int 0, .null, .int 0], vm := .none }]
def classes : Array Class := #[k0, k1, k2, k3, k4, k5, k6, k7, k8, k9, k10, k11, k12]
def interned : List (Array UInt16 × Addr) := []
def slotsUsed : Nat := 12
def theMethod : MethodId := ⟨1, 1⟩
def args0 : Array Value := #[.long 5, .long 7, .long 3, .long 9]
def aboutOver (below : List Frame) : State where
  vm := { classes := classes, interned := interned.toArray }
  heap := heap
  slotsUsed := slotsUsed
  threads := #[{ frames := .invoking theMethod args0 :: below }]
def below0 : List Frame := [.native { method := ⟨0, 0⟩, args := #[] }]
def about1 : State := aboutOver below0
def p0 : Program := .bare "" "" ""
def e0 : Env := launch0.env 0 0 0
theorem w_frames : about1.frames = Frame.invoking theMethod args0 :: below0 := rfl
set_option maxRecDepth 65536 in
theorem w_args : argsFit about1.vm theMethod args0 = true := by decide +kernel
set_option maxRecDepth 65536 in
theorem w_heap : heapFits about1 = true := by decide +kernel
set_option maxRecDepth 65536 in
theorem w_runnable : about1.curStatus? = some .runnable := by decide +kernel
set_option maxRecDepth 65536 in
theorem w_alone : about1.alone = true := by decide +kernel
set_option maxRecDepth 65536 in
theorem w_named : about1.methodNamed? x = some theMethod := by decide +kernel
set_option maxRecDepth 65536 in
theorem w_hears : about1.hears theMethod below0 = true := by decide +kernel
set_option maxRecDepth 65536 in
theorem w_ripe : about1.ripe theMethod args0 below0 = true := by decide +kernel
theorem w_running : about1.status = .running := rfl
set_option maxRecDepth 65536 in
theorem w_room : about1.hasRoom e0.platform room_1 = true :=
  launch0.hasRoom_least _ room_1 (by decide +kernel) (by decide +kernel) (by decide +kernel) (by decide +kernel) (by decide +kernel) (by decide +kernel)
theorem allAtoms_all (ts : List Jvm.Cond) (a : Array Jvm.Value) (st : Jvm.State) : (allAtoms ts).before a st = ts.all (fun c => c.before a st) := by
  induction ts with
  | nil => rfl
  | cons c t ih =>
    show (Jvm.Cond.and c (allAtoms t)).before a st = _
    rw [Jvm.Cond.before_and, ih, List.all_cons]
def words1 : List Jvm.Cond := Jvm.Cond.code x code maxLocals ret :: tables_1
/-- a 'code' word, met by the world's own term for the bytes: nothing is compared byte by byte -/
theorem code_word {y : MethodName} {bytes : ByteArray} {mx : Nat} {rt : Option FieldType} {a : Array Value} {s : State} {m : MethodId} {meth : Method} {c : Code} (h1 : s.methodNamed? y = some m) (h2 : s.vm.method? m = some meth) (h3 : meth.code = some c) (h4 : c.code = bytes)
    (h5 : (c.maxLocals == mx && c.exceptionTable.isEmpty && decide (c.maxStack ≤ mostOperands) && decide (meth.sig.returnType = rt) && !meth.locks && decide (parseMethodDescriptor y.desc = some meth.sig)) = true) : (Jvm.Cond.code y bytes mx rt).before a s = true := by
  simp only [Bool.and_eq_true, beq_iff_eq, Bool.not_eq_true', decide_eq_true_eq] at h5
  obtain ⟨⟨⟨⟨⟨g1, g2⟩, g3⟩, g4⟩, g5⟩, g6⟩ := h5
  simp [Cond.before, Cond.holds, Cond.value, h1, h2, h3, h4, g1, g2, g3, g4, g5, g6]
def isCode : Jvm.Cond → Bool
  | .code _ _ _ _ => true
  | _ => false
theorem all_split {L : List Jvm.Cond} {P : Jvm.Cond → Bool} (h1 : L.all (fun c => isCode c || P c) = true) (h2 : ∀ c ∈ L.filter isCode, P c = true) : L.all P = true := by
  refine List.all_eq_true.mpr fun c hc => ?_
  have h := List.all_eq_true.mp h1 c hc
  rcases Bool.eq_false_or_eq_true (isCode c) with hi | hi
  · exact h2 c (List.mem_filter.mpr ⟨hc, hi⟩)
  · simpa [hi] using h
set_option maxRecDepth 65536 in
theorem w_c0 : (Jvm.Cond.code x code maxLocals ret).before args0 about1 = true := code_word (m := ⟨1, 1⟩) (meth := k1m1) (c := k1c1) (by decide +kernel) rfl rfl rfl (by decide +kernel)
set_option maxRecDepth 65536 in
theorem w_c1 : (Jvm.Cond.code ({ cls := "com/example/ferry2/ferry2/util/MemoryBudget", name := "<init>", desc := "(Lcom/example/ferry2/ferry2/util/HeapShare;J)V" } : Jvm.MethodName) prog_47_method_1_code (4 : Nat) (Option.none : Option Jvm.ClassFile.FieldType)).before args0 about1 = true := code_word (m := ⟨2, 0⟩) (meth := k2m0) (c := k2c0) (by decide +kernel) rfl rfl rfl (by decide +kernel)
set_option maxRecDepth 65536 in
theorem w_c2 : (Jvm.Cond.code ({ cls := "java/lang/Object", name := "<init>", desc := "()V" } : Jvm.MethodName) object_method_1_code (1 : Nat) (Option.none : Option Jvm.ClassFile.FieldType)).before args0 about1 = true := code_word (m := ⟨0, 0⟩) (meth := k0m0) (c := k0c0) (by decide +kernel) rfl rfl rfl (by decide +kernel)
set_option maxRecDepth 65536 in
theorem w_c3 : (Jvm.Cond.code ({ cls := "com/example/ferry2/ferry2/util/MemoryBudget", name := "reserveAnyway", desc := "(J)V" } : Jvm.MethodName) prog_47_method_4_code (3 : Nat) (Option.none : Option Jvm.ClassFile.FieldType)).before args0 about1 = true := code_word (m := ⟨2, 2⟩) (meth := k2m2) (c := k2c2) (by decide +kernel) rfl rfl rfl (by decide +kernel)
set_option maxRecDepth 65536 in
theorem w_c4 : (Jvm.Cond.code ({ cls := "com/example/ferry2/ferry2/util/MemoryBudget", name := "release", desc := "(J)V" } : Jvm.MethodName) prog_47_method_5_code (3 : Nat) (Option.none : Option Jvm.ClassFile.FieldType)).before args0 about1 = true := code_word (m := ⟨2, 3⟩) (meth := k2m3) (c := k2c3) (by decide +kernel) rfl rfl rfl (by decide +kernel)
set_option maxRecDepth 65536 in
theorem w_c5 : (Jvm.Cond.code ({ cls := "com/example/ferry2/ferry2/util/MemoryBudget", name := "hasRoom", desc := "(J)Z" } : Jvm.MethodName) prog_47_method_3_code (3 : Nat) (Option.some Jvm.ClassFile.FieldType.boolean)).before args0 about1 = true := code_word (m := ⟨2, 1⟩) (meth := k2m1) (c := k2c1) (by decide +kernel) rfl rfl rfl (by decide +kernel)
def codes1 : List Jvm.Cond := [Jvm.Cond.code x code maxLocals ret, Jvm.Cond.code ({ cls := "com/example/ferry2/ferry2/util/MemoryBudget", name := "<init>", desc := "(Lcom/example/ferry2/ferry2/util/HeapShare;J)V" } : Jvm.MethodName) prog_47_method_1_code (4 : Nat) (Option.none : Option Jvm.ClassFile.FieldType), Jvm.Cond.code ({ cls := "java/lang/Object", name := "<init>", desc := "()V" } : Jvm.MethodName) object_method_1_code (1 : Nat) (Option.none : Option Jvm.ClassFile.FieldType), Jvm.Cond.code ({ cls := "com/example/ferry2/ferry2/util/MemoryBudget", name := "reserveAnyway", desc := "(J)V" } : Jvm.MethodName) prog_47_method_4_code (3 : Nat) (Option.none : Option Jvm.ClassFile.FieldType), Jvm.Cond.code ({ cls := "com/example/ferry2/ferry2/util/MemoryBudget", name := "release", desc := "(J)V" } : Jvm.MethodName) prog_47_method_5_code (3 : Nat) (Option.none : Option Jvm.ClassFile.FieldType), Jvm.Cond.code ({ cls := "com/example/ferry2/ferry2/util/MemoryBudget", name := "hasRoom", desc := "(J)Z" } : Jvm.MethodName) prog_47_method_3_code (3 : Nat) (Option.some Jvm.ClassFile.FieldType.boolean)]
set_option maxRecDepth 65536 in
theorem codes_eq : words1.filter isCode = codes1 := rfl
theorem w_codes : ∀ c ∈ words1.filter isCode, c.before args0 about1 = true := by
  rw [codes_eq]
  intro c hc
  simp only [codes1, List.mem_cons, List.not_mem_nil, or_false] at hc
  rcases hc with rfl | rfl | rfl | rfl | rfl | rfl
  · exact w_c0
  · exact w_c1
  · exact w_c2
  · exact w_c3
  · exact w_c4
  · exact w_c5
set_option maxRecDepth 65536 in
theorem w_t1 : (words1.take 24).all (fun c => isCode c || c.before args0 about1) = true := by decide +kernel
set_option maxRecDepth 65536 in
theorem w_t2 : (words1.drop 24).all (fun c => isCode c || c.before args0 about1) = true := by decide +kernel
theorem w_tables : (allAtoms (Jvm.Cond.code x code maxLocals ret :: tables_1)).before args0 about1 = true := by
  rw [allAtoms_all]
  show words1.all (fun c => c.before args0 about1) = true
  refine all_split ?_ w_codes
  rw [← List.take_append_drop 24 words1, List.all_append, w_t1, w_t2]
  rfl
set_option maxRecDepth 65536 in
theorem w_case : (Jvm.Cond.and given_1 narrow_1).before args0 about1 = true := by decide +kernel
theorem w_applies : (headSpec (Jvm.Cond.code x code maxLocals ret :: tables_1) room_1).applies x e0.platform about1 = true :=
  (Spec.applies_iff w_frames).mpr ⟨w_running, w_runnable, w_alone, w_named, w_hears, w_ripe, w_room, w_tables⟩
theorem atStart : AtStart classFile x code maxLocals ret World_1 tables_1 room_1 Calls_1 rest_1 Pre_1 launch0 p0 e0 about1 theMethod args0 below0 :=
  ⟨lists_1, trivial, launch0.admits_env _ _ _, launch0.least_env, fairChoices_fair.cas, fairChoices_fair.clock, w_frames, w_args, w_heap, w_applies, trivial, trivial, w_case⟩
end start1
theorem witness_1 : WitnessClaimed_1 := ⟨start1.p0, start1.e0, start1.about1, start1.theMethod, start1.args0, start1.below0, start1.atStart⟩
end Jvm.Pilot.@@N@@
