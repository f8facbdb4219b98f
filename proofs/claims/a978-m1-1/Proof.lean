import JvmDerived
import JvmDerived.Pilot.@@N@@Statement
import JvmDerived.Pilot.@@N@@Code
set_option linter.unusedVariables false
set_option linter.unusedSimpArgs false
namespace Jvm.Pilot.@@N@@
open Jvm Jvm.ClassFile Sem Op Lib Jvm.Free Jvm.Stand Jvm.LawKit Jvm.RoadKit Bundle Jvm.Pilot.@@N@@.Jvm.D
/-- from S the run comes to a state that P allows -/
def Comes (p : Program) (e : Env) (below : List Frame) (P : State → Prop) (S : State) : Prop := ∃ S', Steps p.tables e below S S' ∧ P S'
/-- how a body ends that Q allows -/
def EndsAt (below : List Frame) (s : State) (Q : Option Value → Heap → List Loc → Prop) (kc ks : Nat) (s₂ : State) : Prop := ∃ o, s₂.status = .running ∧ Ended s₂ below o ∧ ∃ v L, o = .returned v ∧ Q v s₂.heap L ∧ FrameEnd s o s₂ L kc ks
/-- an array of ints, its content a function -/
def Ari (Z : State) (h : Heap) (a : Nat) (n : Nat) (f : Nat → Int32) : Prop := ∃ c : Cell, Arr Z h a c .int ∧ c.slots.size = n ∧ ∀ i, i < n → c.slots[i]? = some (.int (f i))
section OwnAri
variable {Z : State} {h h' : Heap} {a b n sl : Nat} {f : Nat → Int32} {v : Value} {ws : List Addr}
theorem Ari.lt (F : Ari Z h a n f) : a < h.size := by obtain ⟨c, A, -⟩ := F; exact A.lt
theorem Ari.ext (F : Ari Z h a n f) (E : Ext h h') : Ari Z h' a n f := by obtain ⟨c, A, r⟩ := F; exact ⟨c, A.ext E, r⟩
theorem Ari.other (F : Ari Z h b n f) (W : Wr h h' a sl v) (q : b ≠ a) : Ari Z h' b n f := by obtain ⟨c, A, r⟩ := F; exact ⟨c, A.other W q, r⟩
theorem Ari.keep (F : Ari Z h a n f) (K : Keep h h' ws) (q : a ∉ ws) : Ari Z h' a n f := by obtain ⟨c, A, r⟩ := F; exact ⟨c, ⟨K.2.1 a c A.1 q, A.2⟩, r⟩
theorem Ari.new {k : ClassId} {z : Int32} (A : Arr Z h a (newA k .int z) .int) (q : z.toNatClampNeg = n) : Ari Z h a n (fun _ => 0) := by
  refine ⟨_, A, by rw [sz_new, q], fun i hi => ?_⟩
  simp [newA, q, hi, defaultValue]
theorem Ari.set {c : Cell} (A : Arr Z h a c .int) (S : c.slots.size = n) (H : ∀ i, i < n → c.slots[i]? = some (.int (f i))) {j x : Int32} {k : Nat} (W : Wr h h' a j.toNatClampNeg (.int x)) (hk : j.toNatClampNeg = k) : Ari Z h' a n (fun i => if i = k then x else f i) := by
  subst hk
  refine ⟨_, A.same W, by rw [sz_set]; exact S, fun i hi => ?_⟩
  by_cases q : i = j.toNatClampNeg
  · subst q; simp [Cell.setSlot, S, hi]
  · show _ = some (Value.int (if i = j.toNatClampNeg then x else f i))
    rw [if_neg q, ← H i hi]; exact Array.getElem?_setIfInBounds_ne (fun z => q z.symm)
end OwnAri
section Own
variable {p : Program} {l : Launch} {e : Env} {R : Room} {s : State} {m : MethodId} {args : Array Value} {below : List Frame} {meth : Method} {c : Code} {T : State} {locs : List Loc} {cells slots : Nat} {Q : Option Value → Heap → List Loc → Prop} {kc ks : Nat} {P : State → Prop} {S S' : State} {h : Heap}
theorem Comes.here (q : P S) : Comes p e below P S := ⟨S, Steps.refl _, q⟩
theorem Comes.st (f : ∀ t, Steps p.tables e below S' t → Steps p.tables e below S t) (g : Comes p e below P S') : Comes p e below P S := by
  obtain ⟨s₂, h1, r⟩ := g; exact ⟨s₂, f _ h1, r⟩
theorem Comes.go (f : Steps p.tables e below S S') (g : Comes p e below P S') : Comes p e below P S := by
  obtain ⟨s₂, h1, r⟩ := g; exact ⟨s₂, f.trans h1, r⟩
theorem Comes.cast {g g' : JFrame} (q : g = g') (k : Comes p e below P (T.setTop g')) : Comes p e below P (T.setTop g) := q ▸ k
theorem Comes.out (h : Comes p e below (EndsAt below s Q kc ks) S) : ∃ s₂ o, Steps p.tables e below S s₂ ∧ s₂.status = .running ∧ Ended s₂ below o ∧ ∃ v L, o = .returned v ∧ Q v s₂.heap L ∧ FrameEnd s o s₂ L kc ks := by
  obtain ⟨s₂, h1, o, r⟩ := h; exact ⟨s₂, o, h1, r⟩
theorem Comes.fin (X : Stand p l e R s m args below meth c T locs cells slots) {v : Option Value} (hv : meth.sig.returnType = none → v = none) (hlk : meth.locks = false)
    (hs : ∀ fs, (∀ (f : JFrame) (acts : List Action), f.method = m → f.locked = none → f.entered = [] → (doReturn e (T.setTop f) acts v).1 = T.setFrames fs) → Steps p.tables e below S (T.setFrames fs))
    (eT : T.heap = h) (hq : Q v h locs) (hc : cells ≤ kc) (hl : slots ≤ ks) : Comes p e below (EndsAt below s Q kc ks) S := by
  obtain ⟨fs, hr, hrun, hended, hW, hsame⟩ := X.leave (v := v) hv hlk
  exact ⟨_, hs fs hr, _, hrun, hended, _, _, rfl, (show Q v T.heap locs from by rw [eT]; exact hq), ⟨_, rfl⟩, hW, hsame.mono hc hl⟩
theorem Comes.ret0 (X : Stand p l e R s m args below meth c T locs cells slots) (hx : p.tables.exec = Jvm.exec) {pc : Nat} {Ls : Array Slot} (hret : meth.sig.returnType = none) (hlk : meth.locks = false) (hd : decode c.code pc = .ok (.return_, 1))
    (eT : T.heap = h) (hq : Q none h locs) (hc : cells ≤ kc) (hl : slots ≤ ks) : Comes p e below (EndsAt below s Q kc ks) (T.setTop (mkF m pc Ls [])) :=
  Comes.fin X (fun _ => rfl) hlk (fun _ hr => X.returnOut hx hret hd hr) eT hq hc hl
theorem Comes.retN (X : Stand p l e R s m args below meth c T locs cells slots) (hx : p.tables.exec = Jvm.exec) {pc : Nat} {Ls : Array Slot} {z : Int32} {t : FieldType} {rest : List Value} (hret : meth.sig.returnType = some t) (ht : t = .boolean ∨ t = .byte ∨ t = .char ∨ t = .short) (hlk : meth.locks = false) (hd : decode c.code pc = .ok (.ireturn, 1))
    (eT : T.heap = h) (hq : Q (some (.int (nar t z))) h locs) (hc : cells ≤ kc) (hl : slots ≤ ks) : Comes p e below (EndsAt below s Q kc ks) (T.setTop (mkF m pc Ls (.int z :: rest))) :=
  Comes.fin X (fun q => by rw [hret] at q; cases q) hlk (fun _ hr => Jvm.RoadKit.retN X hx hret ht hd hr) eT hq hc hl
theorem Comes.retV (X : Stand p l e R s m args below meth c T locs cells slots) (hx : p.tables.exec = Jvm.exec) {pc : Nat} {Ls : Array Slot} {w : Value} {t : FieldType} {i : Instr} {rest : List Value} (hret : meth.sig.returnType = some t) (hn : narrow t w = w)
    (hi : (i = .ireturn ∧ (t = .int ∨ t = .boolean ∨ t = .byte ∨ t = .char ∨ t = .short) ∧ ∃ z, w = .int z) ∨ (i = .lreturn ∧ t = .long ∧ ∃ z, w = .long z) ∨ (i = .dreturn ∧ t = .double ∧ ∃ z, w = .double z) ∨ (i = .freturn ∧ t = .float ∧ ∃ z, w = .float z) ∨ (i = .areturn ∧ t.isReference = true ∧ w.isRef = true))
    (hlk : meth.locks = false) (hd : decode c.code pc = .ok (i, 1))
    (eT : T.heap = h) (hq : Q (some w) h locs) (hc : cells ≤ kc) (hl : slots ≤ ks) : Comes p e below (EndsAt below s Q kc ks) (T.setTop (mkF m pc Ls (w :: rest))) :=
  Comes.fin X (fun q => by rw [hret] at q; cases q) hlk (fun _ hr => retOut X hx hret hn hi hd hr) eT hq hc hl
theorem narrow_ref {t : FieldType} {w : Value} (h : w.isRef = true) : narrow t w = w := by rcases ref_cases h with rfl | ⟨y, rfl⟩ <;> cases t <;> rfl
theorem lremM {g : JFrame} {target : State} (X : Stand p l e R s m args below meth c T locs cells slots) (hx : p.tables.exec = Jvm.exec) (hg : g.method = m) {x y : Int64} {rest : List Value} (hd : decode c.code g.pc = .ok (.lrem, 1)) (hs : g.stack = .long y :: .long x :: rest) (hy : ¬ y = 0)
    (hr : Steps p.tables e below (T.setTop { g with pc := g.pc + 1, stack := .long (x % y) :: rest }) target) : Steps p.tables e below (T.setTop g) target := by
  have q : x - x / y * y = x % y := lrem_mod x y
  exact XT.lrem X.here hx hg hd hs hy (by rw [q]; exact hr)
theorem own_dup2 {g : JFrame} {target : State} (X : Stand p l e R s m args below meth c T locs cells slots) (hx : p.tables.exec = Jvm.exec) (hg : g.method = m) {x y : Value} {rest : List Value} (hd : decode c.code g.pc = .ok (.dup2, 1)) (hs : g.stack = x :: y :: rest) (hcx : x.category = 1) (hcy : y.category = 1)
    (hr : Steps p.tables e below (T.setTop { g with pc := g.pc + 1, stack := x :: y :: x :: y :: rest }) target) : Steps p.tables e below (T.setTop g) target := by
  subst hg
  jvm_step X.here [X.here.top, hx, hd, hs, hcx, hcy]
  exact hr
theorem own_inb {j : Int32} {n : Nat} (h : 0 ≤ j.toInt ∧ j.toInt < (n : Int)) : ¬ (j < 0 ∨ n ≤ j.toNatClampNeg) := by
  rw [Int32.lt_iff_toInt_lt]; simp only [Int32.toNatClampNeg, Int32.reduceToInt]; omega
theorem own_lrem (x y : Int64) (d : Int) (hy : y.toInt = d) : (0 ≤ x.toInt → (x % y).toInt = x.toInt % d) ∧ (x.toInt < 0 → (x % y).toInt = -((-x.toInt) % d)) := by rw [Int64.toInt_mod, hy]; exact tr _ _
theorem own_lremV (x y : Int64) : 0 ≤ x.toInt → 0 < y.toInt → 0 ≤ (x % y).toInt ∧ (x % y).toInt < y.toInt := by
  intro h1 h2
  rw [Int64.toInt_mod, Int.tmod_eq_emod_of_nonneg h1]
  exact ⟨Int.emod_nonneg _ (by omega), Int.emod_lt_of_pos _ h2⟩
theorem own_eqi {a0 : Array Value} {Z : State} {t : Term} {k : Int32} {idx : List Nat} (h : (Jvm.Cond.eq t (Term.int k)).value a0 Z none Z idx = some true) : t.eval a0 Z none idx Z = some (.int k) := by
  obtain ⟨x, y, e1, e2, k1, k2⟩ := cmp_v (Or.inl h)
  simp only [Term.eval, Option.some.injEq] at e2
  subst e2
  obtain ⟨z, rfl⟩ := k2
  simp [Cond.value, e1, Term.eval] at h
  rw [e1, h]
theorem own_selp {a0 : Array Value} {Z : State} {y : MethodName} {n : Nat} (wi : (Jvm.Cond.instantiable y.cls n).before a0 Z = true) (wp : (Jvm.Cond.privateMethod y).before a0 Z = true) (wm : (Jvm.Cond.instanceMethod y).before a0 Z = true) (hy : y.cls ≠ "java/lang/invoke/MethodHandle" ∧ y.cls ≠ "java/lang/invoke/VarHandle") : (Jvm.Cond.selects y.cls y y).before a0 Z = true := by
  obtain ⟨c, k, h1, h2, h3, h4, -⟩ := Cond.instantiable_spec wi
  exact Jvm.Stand.selects_self_of_private h1 h2 (by simp only [Bool.or_eq_false_iff] at h4; exact h4.1) (Cond.privateMethod_at wp) wm hy
theorem own_eqr {a0 : Array Value} {Z : State} {t u : Term} {y : Value} {idx : List Nat} (h : (Jvm.Cond.eq t u).value a0 Z none Z idx = some true) (hu : u.eval a0 Z none idx Z = some y) (hy : y.isRef = true) : t.eval a0 Z none idx Z = some y := by
  obtain ⟨x, y', e1, e2, k1, k2⟩ := cmp_v (Or.inl h)
  cases hu.symm.trans e2
  have hx : x.isRef = true := by
    rcases ref_cases hy with rfl | ⟨z, rfl⟩ <;> cases x <;> simp_all [Kin, Value.isRef]
  rw [e1, gotT (eq_R e1 hu hx hy) h]
theorem own_len {a0 : Array Value} {Z : State} {t : Term} {a : Addr} {cl : Cell} {ty : FieldType} {k : Int32} (ht : t.eval a0 Z none [] Z = some (.ref a)) (A : Arr Z Z.heap a cl ty) (h : (Jvm.Cond.eq (Term.length t) (Term.int k)).value a0 Z none Z [] = some true) : cl.slots.size < 2 ^ 31 ∧ cl.slots.size.toInt32 = k := by
  have e := own_eqi h
  have e2 := A.fin (Vm.Alike.refl _)
  simp [Term.eval, ht, e2] at e
  exact ⟨by omega, e.2⟩
theorem own_elem {a0 : Array Value} {Z : State} {t u : Term} {a : Addr} {cl : Cell} {j : Int32} {y : Value} (ht : t.eval a0 Z none [] Z = some (.ref a)) (hc : Z.heap[a]? = some cl) (h : (Jvm.Cond.eq (Term.elem t (Term.int j)) u).value a0 Z none Z [] = some true) (hu : u.eval a0 Z none [] Z = some y) (hy : y.isRef = true) : cl.slots[j.toNatClampNeg]? = some y := (elem_in (own_eqr h hu hy) ht (by rfl) hc).2
theorem own_fldi {a0 : Array Value} {Z : State} {t : Term} {k : Int32} {a : Addr} {C n d : String} (ht : t.eval a0 Z none [] Z = some (.ref a)) (h : (Jvm.Cond.eq (Term.field t C n d) (Term.int k)).value a0 Z none Z [] = some true) : Fld Z Z.heap a C n d (.int k) := Fld.start ((fld_at ht).symm.trans (own_eqi h))
end Own
theorem d1_0 : decode prog_45_method_2_code 0 = .ok (.aload_n 0, 1) := by decide +kernel
theorem d1_1 : decode prog_45_method_2_code 1 = .ok (.invokespecial 20, 3) := by decide +kernel
theorem d1_4 : decode prog_45_method_2_code 4 = .ok (.aload_n 0, 1) := by decide +kernel
theorem d1_5 : decode prog_45_method_2_code 5 = .ok (.iload_n 1, 1) := by decide +kernel
theorem d1_6 : decode prog_45_method_2_code 6 = .ok (.putfield 25, 3) := by decide +kernel
theorem d1_9 : decode prog_45_method_2_code 9 = .ok (.aload_n 0, 1) := by decide +kernel
theorem d1_10 : decode prog_45_method_2_code 10 = .ok (.iload 4, 2) := by decide +kernel
theorem d1_12 : decode prog_45_method_2_code 12 = .ok (.putfield 28, 3) := by decide +kernel
theorem d1_15 : decode prog_45_method_2_code 15 = .ok (.aload_n 0, 1) := by decide +kernel
theorem d1_16 : decode prog_45_method_2_code 16 = .ok (.aload_n 2, 1) := by decide +kernel
theorem d1_17 : decode prog_45_method_2_code 17 = .ok (.putfield 30, 3) := by decide +kernel
theorem d1_20 : decode prog_45_method_2_code 20 = .ok (.aload_n 0, 1) := by decide +kernel
theorem d1_21 : decode prog_45_method_2_code 21 = .ok (.aload_n 3, 1) := by decide +kernel
theorem d1_22 : decode prog_45_method_2_code 22 = .ok (.putfield 34, 3) := by decide +kernel
theorem d1_25 : decode prog_45_method_2_code 25 = .ok (.aload_n 2, 1) := by decide +kernel
theorem d1_26 : decode prog_45_method_2_code 26 = .ok (.arraylength, 1) := by decide +kernel
theorem d1_27 : decode prog_45_method_2_code 27 = .ok (.istore 6, 2) := by decide +kernel
theorem d1_29 : decode prog_45_method_2_code 29 = .ok (.aload_n 0, 1) := by decide +kernel
theorem d1_30 : decode prog_45_method_2_code 30 = .ok (.iload_n 1, 1) := by decide +kernel
theorem d1_31 : decode prog_45_method_2_code 31 = .ok (.iconst 1, 1) := by decide +kernel
theorem d1_32 : decode prog_45_method_2_code 32 = .ok (.iadd, 1) := by decide +kernel
theorem d1_33 : decode prog_45_method_2_code 33 = .ok (.newarray .int, 2) := by decide +kernel
theorem d1_35 : decode prog_45_method_2_code 35 = .ok (.putfield 37, 3) := by decide +kernel
theorem d1_38 : decode prog_45_method_2_code 38 = .ok (.iconst 0, 1) := by decide +kernel
theorem d1_39 : decode prog_45_method_2_code 39 = .ok (.istore 7, 2) := by decide +kernel
theorem d1_41 : decode prog_45_method_2_code 41 = .ok (.iload 7, 2) := by decide +kernel
theorem d1_43 : decode prog_45_method_2_code 43 = .ok (.iload 6, 2) := by decide +kernel
theorem d1_45 : decode prog_45_method_2_code 45 = .ok (.if_icmp .ge 39, 3) := by decide +kernel
theorem d1_48 : decode prog_45_method_2_code 48 = .ok (.aload_n 0, 1) := by decide +kernel
theorem d1_49 : decode prog_45_method_2_code 49 = .ok (.getfield 37, 3) := by decide +kernel
theorem d1_52 : decode prog_45_method_2_code 52 = .ok (.aload_n 2, 1) := by decide +kernel
theorem d1_53 : decode prog_45_method_2_code 53 = .ok (.iload 7, 2) := by decide +kernel
theorem d1_55 : decode prog_45_method_2_code 55 = .ok (.iaload, 1) := by decide +kernel
theorem d1_56 : decode prog_45_method_2_code 56 = .ok (.iconst 1, 1) := by decide +kernel
theorem d1_57 : decode prog_45_method_2_code 57 = .ok (.iadd, 1) := by decide +kernel
theorem d1_58 : decode prog_45_method_2_code 58 = .ok (.dup2, 1) := by decide +kernel
theorem d1_59 : decode prog_45_method_2_code 59 = .ok (.iaload, 1) := by decide +kernel
theorem d1_60 : decode prog_45_method_2_code 60 = .ok (.iconst 1, 1) := by decide +kernel
theorem d1_61 : decode prog_45_method_2_code 61 = .ok (.iadd, 1) := by decide +kernel
theorem d1_62 : decode prog_45_method_2_code 62 = .ok (.iastore, 1) := by decide +kernel
theorem d1_63 : decode prog_45_method_2_code 63 = .ok (.aload_n 0, 1) := by decide +kernel
theorem d1_64 : decode prog_45_method_2_code 64 = .ok (.getfield 37, 3) := by decide +kernel
theorem d1_67 : decode prog_45_method_2_code 67 = .ok (.aload_n 3, 1) := by decide +kernel
theorem d1_68 : decode prog_45_method_2_code 68 = .ok (.iload 7, 2) := by decide +kernel
theorem d1_70 : decode prog_45_method_2_code 70 = .ok (.iaload, 1) := by decide +kernel
theorem d1_71 : decode prog_45_method_2_code 71 = .ok (.iconst 1, 1) := by decide +kernel
theorem d1_72 : decode prog_45_method_2_code 72 = .ok (.iadd, 1) := by decide +kernel
theorem d1_73 : decode prog_45_method_2_code 73 = .ok (.dup2, 1) := by decide +kernel
theorem d1_74 : decode prog_45_method_2_code 74 = .ok (.iaload, 1) := by decide +kernel
theorem d1_75 : decode prog_45_method_2_code 75 = .ok (.iconst 1, 1) := by decide +kernel
theorem d1_76 : decode prog_45_method_2_code 76 = .ok (.iadd, 1) := by decide +kernel
theorem d1_77 : decode prog_45_method_2_code 77 = .ok (.iastore, 1) := by decide +kernel
theorem d1_78 : decode prog_45_method_2_code 78 = .ok (.iinc 7 1, 3) := by decide +kernel
theorem d1_81 : decode prog_45_method_2_code 81 = .ok (.goto (-40), 3) := by decide +kernel
theorem d1_84 : decode prog_45_method_2_code 84 = .ok (.iconst 0, 1) := by decide +kernel
theorem d1_85 : decode prog_45_method_2_code 85 = .ok (.istore 7, 2) := by decide +kernel
theorem d1_87 : decode prog_45_method_2_code 87 = .ok (.iload 7, 2) := by decide +kernel
theorem d1_89 : decode prog_45_method_2_code 89 = .ok (.iload_n 1, 1) := by decide +kernel
theorem d1_90 : decode prog_45_method_2_code 90 = .ok (.if_icmp .ge 28, 3) := by decide +kernel
theorem d1_93 : decode prog_45_method_2_code 93 = .ok (.aload_n 0, 1) := by decide +kernel
theorem d1_94 : decode prog_45_method_2_code 94 = .ok (.getfield 37, 3) := by decide +kernel
theorem d1_97 : decode prog_45_method_2_code 97 = .ok (.iload 7, 2) := by decide +kernel
theorem d1_99 : decode prog_45_method_2_code 99 = .ok (.iconst 1, 1) := by decide +kernel
theorem d1_100 : decode prog_45_method_2_code 100 = .ok (.iadd, 1) := by decide +kernel
theorem d1_101 : decode prog_45_method_2_code 101 = .ok (.dup2, 1) := by decide +kernel
theorem d1_102 : decode prog_45_method_2_code 102 = .ok (.iaload, 1) := by decide +kernel
theorem d1_103 : decode prog_45_method_2_code 103 = .ok (.aload_n 0, 1) := by decide +kernel
theorem d1_104 : decode prog_45_method_2_code 104 = .ok (.getfield 37, 3) := by decide +kernel
theorem d1_107 : decode prog_45_method_2_code 107 = .ok (.iload 7, 2) := by decide +kernel
theorem d1_109 : decode prog_45_method_2_code 109 = .ok (.iaload, 1) := by decide +kernel
theorem d1_110 : decode prog_45_method_2_code 110 = .ok (.iadd, 1) := by decide +kernel
theorem d1_111 : decode prog_45_method_2_code 111 = .ok (.iastore, 1) := by decide +kernel
theorem d1_112 : decode prog_45_method_2_code 112 = .ok (.iinc 7 1, 3) := by decide +kernel
theorem d1_115 : decode prog_45_method_2_code 115 = .ok (.goto (-28), 3) := by decide +kernel
theorem d1_118 : decode prog_45_method_2_code 118 = .ok (.aload_n 0, 1) := by decide +kernel
theorem d1_119 : decode prog_45_method_2_code 119 = .ok (.iconst 2, 1) := by decide +kernel
theorem d1_120 : decode prog_45_method_2_code 120 = .ok (.iload 6, 2) := by decide +kernel
theorem d1_122 : decode prog_45_method_2_code 122 = .ok (.imul, 1) := by decide +kernel
theorem d1_123 : decode prog_45_method_2_code 123 = .ok (.newarray .int, 2) := by decide +kernel
theorem d1_125 : decode prog_45_method_2_code 125 = .ok (.putfield 40, 3) := by decide +kernel
theorem d1_128 : decode prog_45_method_2_code 128 = .ok (.aload_n 0, 1) := by decide +kernel
theorem d1_129 : decode prog_45_method_2_code 129 = .ok (.iconst 2, 1) := by decide +kernel
theorem d1_130 : decode prog_45_method_2_code 130 = .ok (.iload 6, 2) := by decide +kernel
theorem d1_132 : decode prog_45_method_2_code 132 = .ok (.imul, 1) := by decide +kernel
theorem d1_133 : decode prog_45_method_2_code 133 = .ok (.newarray .int, 2) := by decide +kernel
theorem d1_135 : decode prog_45_method_2_code 135 = .ok (.putfield 43, 3) := by decide +kernel
theorem d1_138 : decode prog_45_method_2_code 138 = .ok (.iload_n 1, 1) := by decide +kernel
theorem d1_139 : decode prog_45_method_2_code 139 = .ok (.newarray .int, 2) := by decide +kernel
theorem d1_141 : decode prog_45_method_2_code 141 = .ok (.astore 7, 2) := by decide +kernel
theorem d1_143 : decode prog_45_method_2_code 143 = .ok (.iconst 0, 1) := by decide +kernel
theorem d1_144 : decode prog_45_method_2_code 144 = .ok (.istore 8, 2) := by decide +kernel
theorem d1_146 : decode prog_45_method_2_code 146 = .ok (.iload 8, 2) := by decide +kernel
theorem d1_148 : decode prog_45_method_2_code 148 = .ok (.iload 6, 2) := by decide +kernel
theorem d1_150 : decode prog_45_method_2_code 150 = .ok (.if_icmp .ge 59, 3) := by decide +kernel
theorem d1_153 : decode prog_45_method_2_code 153 = .ok (.aload_n 0, 1) := by decide +kernel
theorem d1_154 : decode prog_45_method_2_code 154 = .ok (.getfield 37, 3) := by decide +kernel
theorem d1_157 : decode prog_45_method_2_code 157 = .ok (.aload_n 2, 1) := by decide +kernel
theorem d1_158 : decode prog_45_method_2_code 158 = .ok (.iload 8, 2) := by decide +kernel
theorem d1_160 : decode prog_45_method_2_code 160 = .ok (.iaload, 1) := by decide +kernel
theorem d1_161 : decode prog_45_method_2_code 161 = .ok (.iaload, 1) := by decide +kernel
theorem d1_162 : decode prog_45_method_2_code 162 = .ok (.aload 7, 2) := by decide +kernel
theorem d1_164 : decode prog_45_method_2_code 164 = .ok (.aload_n 2, 1) := by decide +kernel
theorem d1_165 : decode prog_45_method_2_code 165 = .ok (.iload 8, 2) := by decide +kernel
theorem d1_167 : decode prog_45_method_2_code 167 = .ok (.iaload, 1) := by decide +kernel
theorem d1_168 : decode prog_45_method_2_code 168 = .ok (.iaload, 1) := by decide +kernel
theorem d1_169 : decode prog_45_method_2_code 169 = .ok (.iadd, 1) := by decide +kernel
theorem d1_170 : decode prog_45_method_2_code 170 = .ok (.istore 9, 2) := by decide +kernel
theorem d1_172 : decode prog_45_method_2_code 172 = .ok (.aload_n 0, 1) := by decide +kernel
theorem d1_173 : decode prog_45_method_2_code 173 = .ok (.getfield 40, 3) := by decide +kernel
theorem d1_176 : decode prog_45_method_2_code 176 = .ok (.iload 9, 2) := by decide +kernel
theorem d1_178 : decode prog_45_method_2_code 178 = .ok (.iload 8, 2) := by decide +kernel
theorem d1_180 : decode prog_45_method_2_code 180 = .ok (.iastore, 1) := by decide +kernel
theorem d1_181 : decode prog_45_method_2_code 181 = .ok (.aload_n 0, 1) := by decide +kernel
theorem d1_182 : decode prog_45_method_2_code 182 = .ok (.getfield 43, 3) := by decide +kernel
theorem d1_185 : decode prog_45_method_2_code 185 = .ok (.iload 9, 2) := by decide +kernel
theorem d1_187 : decode prog_45_method_2_code 187 = .ok (.aload_n 3, 1) := by decide +kernel
theorem d1_188 : decode prog_45_method_2_code 188 = .ok (.iload 8, 2) := by decide +kernel
theorem d1_190 : decode prog_45_method_2_code 190 = .ok (.iaload, 1) := by decide +kernel
theorem d1_191 : decode prog_45_method_2_code 191 = .ok (.iastore, 1) := by decide +kernel
theorem d1_192 : decode prog_45_method_2_code 192 = .ok (.aload 7, 2) := by decide +kernel
theorem d1_194 : decode prog_45_method_2_code 194 = .ok (.aload_n 2, 1) := by decide +kernel
theorem d1_195 : decode prog_45_method_2_code 195 = .ok (.iload 8, 2) := by decide +kernel
theorem d1_197 : decode prog_45_method_2_code 197 = .ok (.iaload, 1) := by decide +kernel
theorem d1_198 : decode prog_45_method_2_code 198 = .ok (.dup2, 1) := by decide +kernel
theorem d1_199 : decode prog_45_method_2_code 199 = .ok (.iaload, 1) := by decide +kernel
theorem d1_200 : decode prog_45_method_2_code 200 = .ok (.iconst 1, 1) := by decide +kernel
theorem d1_201 : decode prog_45_method_2_code 201 = .ok (.iadd, 1) := by decide +kernel
theorem d1_202 : decode prog_45_method_2_code 202 = .ok (.iastore, 1) := by decide +kernel
theorem d1_203 : decode prog_45_method_2_code 203 = .ok (.iinc 8 1, 3) := by decide +kernel
theorem d1_206 : decode prog_45_method_2_code 206 = .ok (.goto (-60), 3) := by decide +kernel
theorem d1_209 : decode prog_45_method_2_code 209 = .ok (.aload_n 0, 1) := by decide +kernel
theorem d1_210 : decode prog_45_method_2_code 210 = .ok (.iload_n 1, 1) := by decide +kernel
theorem d1_211 : decode prog_45_method_2_code 211 = .ok (.newarray .int, 2) := by decide +kernel
theorem d1_213 : decode prog_45_method_2_code 213 = .ok (.putfield 46, 3) := by decide +kernel
theorem d1_216 : decode prog_45_method_2_code 216 = .ok (.iconst 0, 1) := by decide +kernel
theorem d1_217 : decode prog_45_method_2_code 217 = .ok (.istore 8, 2) := by decide +kernel
theorem d1_219 : decode prog_45_method_2_code 219 = .ok (.iload 8, 2) := by decide +kernel
theorem d1_221 : decode prog_45_method_2_code 221 = .ok (.iload_n 1, 1) := by decide +kernel
theorem d1_222 : decode prog_45_method_2_code 222 = .ok (.if_icmp .ge 29, 3) := by decide +kernel
theorem d1_225 : decode prog_45_method_2_code 225 = .ok (.aload_n 0, 1) := by decide +kernel
theorem d1_226 : decode prog_45_method_2_code 226 = .ok (.getfield 46, 3) := by decide +kernel
theorem d1_229 : decode prog_45_method_2_code 229 = .ok (.iload 8, 2) := by decide +kernel
theorem d1_231 : decode prog_45_method_2_code 231 = .ok (.aload_n 0, 1) := by decide +kernel
theorem d1_232 : decode prog_45_method_2_code 232 = .ok (.getfield 37, 3) := by decide +kernel
theorem d1_235 : decode prog_45_method_2_code 235 = .ok (.iload 8, 2) := by decide +kernel
theorem d1_237 : decode prog_45_method_2_code 237 = .ok (.iaload, 1) := by decide +kernel
theorem d1_238 : decode prog_45_method_2_code 238 = .ok (.aload 7, 2) := by decide +kernel
theorem d1_240 : decode prog_45_method_2_code 240 = .ok (.iload 8, 2) := by decide +kernel
theorem d1_242 : decode prog_45_method_2_code 242 = .ok (.iaload, 1) := by decide +kernel
theorem d1_243 : decode prog_45_method_2_code 243 = .ok (.iadd, 1) := by decide +kernel
theorem d1_244 : decode prog_45_method_2_code 244 = .ok (.iastore, 1) := by decide +kernel
theorem d1_245 : decode prog_45_method_2_code 245 = .ok (.iinc 8 1, 3) := by decide +kernel
theorem d1_248 : decode prog_45_method_2_code 248 = .ok (.goto (-29), 3) := by decide +kernel
theorem d1_251 : decode prog_45_method_2_code 251 = .ok (.iconst 0, 1) := by decide +kernel
theorem d1_252 : decode prog_45_method_2_code 252 = .ok (.istore 8, 2) := by decide +kernel
theorem d1_254 : decode prog_45_method_2_code 254 = .ok (.iload 8, 2) := by decide +kernel
theorem d1_256 : decode prog_45_method_2_code 256 = .ok (.iload 6, 2) := by decide +kernel
theorem d1_258 : decode prog_45_method_2_code 258 = .ok (.if_icmp .ge 59, 3) := by decide +kernel
theorem d1_261 : decode prog_45_method_2_code 261 = .ok (.aload_n 0, 1) := by decide +kernel
theorem d1_262 : decode prog_45_method_2_code 262 = .ok (.getfield 37, 3) := by decide +kernel
theorem d1_265 : decode prog_45_method_2_code 265 = .ok (.aload_n 3, 1) := by decide +kernel
theorem d1_266 : decode prog_45_method_2_code 266 = .ok (.iload 8, 2) := by decide +kernel
theorem d1_268 : decode prog_45_method_2_code 268 = .ok (.iaload, 1) := by decide +kernel
theorem d1_269 : decode prog_45_method_2_code 269 = .ok (.iaload, 1) := by decide +kernel
theorem d1_270 : decode prog_45_method_2_code 270 = .ok (.aload 7, 2) := by decide +kernel
theorem d1_272 : decode prog_45_method_2_code 272 = .ok (.aload_n 3, 1) := by decide +kernel
theorem d1_273 : decode prog_45_method_2_code 273 = .ok (.iload 8, 2) := by decide +kernel
theorem d1_275 : decode prog_45_method_2_code 275 = .ok (.iaload, 1) := by decide +kernel
theorem d1_276 : decode prog_45_method_2_code 276 = .ok (.iaload, 1) := by decide +kernel
theorem d1_277 : decode prog_45_method_2_code 277 = .ok (.iadd, 1) := by decide +kernel
theorem d1_278 : decode prog_45_method_2_code 278 = .ok (.istore 9, 2) := by decide +kernel
theorem d1_280 : decode prog_45_method_2_code 280 = .ok (.aload_n 0, 1) := by decide +kernel
theorem d1_281 : decode prog_45_method_2_code 281 = .ok (.getfield 40, 3) := by decide +kernel
theorem d1_284 : decode prog_45_method_2_code 284 = .ok (.iload 9, 2) := by decide +kernel
theorem d1_286 : decode prog_45_method_2_code 286 = .ok (.iload 8, 2) := by decide +kernel
theorem d1_288 : decode prog_45_method_2_code 288 = .ok (.iastore, 1) := by decide +kernel
theorem d1_289 : decode prog_45_method_2_code 289 = .ok (.aload_n 0, 1) := by decide +kernel
theorem d1_290 : decode prog_45_method_2_code 290 = .ok (.getfield 43, 3) := by decide +kernel
theorem d1_293 : decode prog_45_method_2_code 293 = .ok (.iload 9, 2) := by decide +kernel
theorem d1_295 : decode prog_45_method_2_code 295 = .ok (.aload_n 2, 1) := by decide +kernel
theorem d1_296 : decode prog_45_method_2_code 296 = .ok (.iload 8, 2) := by decide +kernel
theorem d1_298 : decode prog_45_method_2_code 298 = .ok (.iaload, 1) := by decide +kernel
theorem d1_299 : decode prog_45_method_2_code 299 = .ok (.iastore, 1) := by decide +kernel
theorem d1_300 : decode prog_45_method_2_code 300 = .ok (.aload 7, 2) := by decide +kernel
theorem d1_302 : decode prog_45_method_2_code 302 = .ok (.aload_n 3, 1) := by decide +kernel
theorem d1_303 : decode prog_45_method_2_code 303 = .ok (.iload 8, 2) := by decide +kernel
theorem d1_305 : decode prog_45_method_2_code 305 = .ok (.iaload, 1) := by decide +kernel
theorem d1_306 : decode prog_45_method_2_code 306 = .ok (.dup2, 1) := by decide +kernel
theorem d1_307 : decode prog_45_method_2_code 307 = .ok (.iaload, 1) := by decide +kernel
theorem d1_308 : decode prog_45_method_2_code 308 = .ok (.iconst 1, 1) := by decide +kernel
theorem d1_309 : decode prog_45_method_2_code 309 = .ok (.iadd, 1) := by decide +kernel
theorem d1_310 : decode prog_45_method_2_code 310 = .ok (.iastore, 1) := by decide +kernel
theorem d1_311 : decode prog_45_method_2_code 311 = .ok (.iinc 8 1, 3) := by decide +kernel
theorem d1_314 : decode prog_45_method_2_code 314 = .ok (.goto (-60), 3) := by decide +kernel
theorem d1_317 : decode prog_45_method_2_code 317 = .ok (.aload_n 0, 1) := by decide +kernel
theorem d1_318 : decode prog_45_method_2_code 318 = .ok (.iload_n 1, 1) := by decide +kernel
theorem d1_319 : decode prog_45_method_2_code 319 = .ok (.newarray .long, 2) := by decide +kernel
theorem d1_321 : decode prog_45_method_2_code 321 = .ok (.putfield 49, 3) := by decide +kernel
theorem d1_324 : decode prog_45_method_2_code 324 = .ok (.iconst 0, 1) := by decide +kernel
theorem d1_325 : decode prog_45_method_2_code 325 = .ok (.istore 8, 2) := by decide +kernel
theorem d1_327 : decode prog_45_method_2_code 327 = .ok (.iload 8, 2) := by decide +kernel
theorem d1_329 : decode prog_45_method_2_code 329 = .ok (.iload_n 1, 1) := by decide +kernel
theorem d1_330 : decode prog_45_method_2_code 330 = .ok (.if_icmp .ge 22, 3) := by decide +kernel
theorem d1_333 : decode prog_45_method_2_code 333 = .ok (.aload_n 0, 1) := by decide +kernel
theorem d1_334 : decode prog_45_method_2_code 334 = .ok (.getfield 49, 3) := by decide +kernel
theorem d1_337 : decode prog_45_method_2_code 337 = .ok (.iload 8, 2) := by decide +kernel
theorem d1_339 : decode prog_45_method_2_code 339 = .ok (.aload 5, 2) := by decide +kernel
theorem d1_341 : decode prog_45_method_2_code 341 = .ok (.iload 8, 2) := by decide +kernel
theorem d1_343 : decode prog_45_method_2_code 343 = .ok (.iaload, 1) := by decide +kernel
theorem d1_344 : decode prog_45_method_2_code 344 = .ok (.i2l, 1) := by decide +kernel
theorem d1_345 : decode prog_45_method_2_code 345 = .ok (.lastore, 1) := by decide +kernel
theorem d1_346 : decode prog_45_method_2_code 346 = .ok (.iinc 8 1, 3) := by decide +kernel
theorem d1_349 : decode prog_45_method_2_code 349 = .ok (.goto (-22), 3) := by decide +kernel
theorem d1_352 : decode prog_45_method_2_code 352 = .ok (.aload_n 0, 1) := by decide +kernel
theorem d1_353 : decode prog_45_method_2_code 353 = .ok (.iload_n 1, 1) := by decide +kernel
theorem d1_354 : decode prog_45_method_2_code 354 = .ok (.newarray .int, 2) := by decide +kernel
theorem d1_356 : decode prog_45_method_2_code 356 = .ok (.putfield 53, 3) := by decide +kernel
theorem d1_359 : decode prog_45_method_2_code 359 = .ok (.iconst 0, 1) := by decide +kernel
theorem d1_360 : decode prog_45_method_2_code 360 = .ok (.istore 8, 2) := by decide +kernel
theorem d1_362 : decode prog_45_method_2_code 362 = .ok (.iload 8, 2) := by decide +kernel
theorem d1_364 : decode prog_45_method_2_code 364 = .ok (.iload 4, 2) := by decide +kernel
theorem d1_366 : decode prog_45_method_2_code 366 = .ok (.if_icmp .ge 35, 3) := by decide +kernel
theorem d1_369 : decode prog_45_method_2_code 369 = .ok (.aload_n 0, 1) := by decide +kernel
theorem d1_370 : decode prog_45_method_2_code 370 = .ok (.getfield 53, 3) := by decide +kernel
theorem d1_373 : decode prog_45_method_2_code 373 = .ok (.aload_n 2, 1) := by decide +kernel
theorem d1_374 : decode prog_45_method_2_code 374 = .ok (.iload 8, 2) := by decide +kernel
theorem d1_376 : decode prog_45_method_2_code 376 = .ok (.iaload, 1) := by decide +kernel
theorem d1_377 : decode prog_45_method_2_code 377 = .ok (.dup2, 1) := by decide +kernel
theorem d1_378 : decode prog_45_method_2_code 378 = .ok (.iaload, 1) := by decide +kernel
theorem d1_379 : decode prog_45_method_2_code 379 = .ok (.iconst 1, 1) := by decide +kernel
theorem d1_380 : decode prog_45_method_2_code 380 = .ok (.iadd, 1) := by decide +kernel
theorem d1_381 : decode prog_45_method_2_code 381 = .ok (.iastore, 1) := by decide +kernel
theorem d1_382 : decode prog_45_method_2_code 382 = .ok (.aload_n 0, 1) := by decide +kernel
theorem d1_383 : decode prog_45_method_2_code 383 = .ok (.getfield 53, 3) := by decide +kernel
theorem d1_386 : decode prog_45_method_2_code 386 = .ok (.aload_n 3, 1) := by decide +kernel
theorem d1_387 : decode prog_45_method_2_code 387 = .ok (.iload 8, 2) := by decide +kernel
theorem d1_389 : decode prog_45_method_2_code 389 = .ok (.iaload, 1) := by decide +kernel
theorem d1_390 : decode prog_45_method_2_code 390 = .ok (.dup2, 1) := by decide +kernel
theorem d1_391 : decode prog_45_method_2_code 391 = .ok (.iaload, 1) := by decide +kernel
theorem d1_392 : decode prog_45_method_2_code 392 = .ok (.iconst 1, 1) := by decide +kernel
theorem d1_393 : decode prog_45_method_2_code 393 = .ok (.isub, 1) := by decide +kernel
theorem d1_394 : decode prog_45_method_2_code 394 = .ok (.iastore, 1) := by decide +kernel
theorem d1_395 : decode prog_45_method_2_code 395 = .ok (.iinc 8 1, 3) := by decide +kernel
theorem d1_398 : decode prog_45_method_2_code 398 = .ok (.goto (-36), 3) := by decide +kernel
theorem d1_401 : decode prog_45_method_2_code 401 = .ok (.aload_n 0, 1) := by decide +kernel
theorem d1_402 : decode prog_45_method_2_code 402 = .ok (.iload 6, 2) := by decide +kernel
theorem d1_404 : decode prog_45_method_2_code 404 = .ok (.newarray .long, 2) := by decide +kernel
theorem d1_406 : decode prog_45_method_2_code 406 = .ok (.putfield 56, 3) := by decide +kernel
theorem d1_409 : decode prog_45_method_2_code 409 = .ok (.aload_n 0, 1) := by decide +kernel
theorem d1_410 : decode prog_45_method_2_code 410 = .ok (.iload_n 1, 1) := by decide +kernel
theorem d1_411 : decode prog_45_method_2_code 411 = .ok (.newarray .long, 2) := by decide +kernel
theorem d1_413 : decode prog_45_method_2_code 413 = .ok (.putfield 59, 3) := by decide +kernel
theorem d1_416 : decode prog_45_method_2_code 416 = .ok (.iconst 0, 1) := by decide +kernel
theorem d1_417 : decode prog_45_method_2_code 417 = .ok (.istore 8, 2) := by decide +kernel
theorem d1_419 : decode prog_45_method_2_code 419 = .ok (.iload 8, 2) := by decide +kernel
theorem d1_421 : decode prog_45_method_2_code 421 = .ok (.iload_n 1, 1) := by decide +kernel
theorem d1_422 : decode prog_45_method_2_code 422 = .ok (.if_icmp .ge 24, 3) := by decide +kernel
theorem d1_425 : decode prog_45_method_2_code 425 = .ok (.aload_n 0, 1) := by decide +kernel
theorem d1_426 : decode prog_45_method_2_code 426 = .ok (.getfield 59, 3) := by decide +kernel
theorem d1_429 : decode prog_45_method_2_code 429 = .ok (.iload 8, 2) := by decide +kernel
theorem d1_431 : decode prog_45_method_2_code 431 = .ok (.aload_n 0, 1) := by decide +kernel
theorem d1_432 : decode prog_45_method_2_code 432 = .ok (.getfield 53, 3) := by decide +kernel
theorem d1_435 : decode prog_45_method_2_code 435 = .ok (.iload 8, 2) := by decide +kernel
theorem d1_437 : decode prog_45_method_2_code 437 = .ok (.iaload, 1) := by decide +kernel
theorem d1_438 : decode prog_45_method_2_code 438 = .ok (.i2l, 1) := by decide +kernel
theorem d1_439 : decode prog_45_method_2_code 439 = .ok (.lastore, 1) := by decide +kernel
theorem d1_440 : decode prog_45_method_2_code 440 = .ok (.iinc 8 1, 3) := by decide +kernel
theorem d1_443 : decode prog_45_method_2_code 443 = .ok (.goto (-24), 3) := by decide +kernel
theorem d1_446 : decode prog_45_method_2_code 446 = .ok (.return_, 1) := by decide +kernel
theorem d3_0 : decode prog_45_method_6_code 0 = .ok (.aload_n 0, 1) := by decide +kernel
theorem d3_1 : decode prog_45_method_6_code 1 = .ok (.getfield 30, 3) := by decide +kernel
theorem d3_4 : decode prog_45_method_6_code 4 = .ok (.iload_n 1, 1) := by decide +kernel
theorem d3_5 : decode prog_45_method_6_code 5 = .ok (.iaload, 1) := by decide +kernel
theorem d3_6 : decode prog_45_method_6_code 6 = .ok (.iload_n 2, 1) := by decide +kernel
theorem d3_7 : decode prog_45_method_6_code 7 = .ok (.if_icmp .ne 12, 3) := by decide +kernel
theorem d3_10 : decode prog_45_method_6_code 10 = .ok (.aload_n 0, 1) := by decide +kernel
theorem d3_11 : decode prog_45_method_6_code 11 = .ok (.getfield 34, 3) := by decide +kernel
theorem d3_14 : decode prog_45_method_6_code 14 = .ok (.iload_n 1, 1) := by decide +kernel
theorem d3_15 : decode prog_45_method_6_code 15 = .ok (.iaload, 1) := by decide +kernel
theorem d3_16 : decode prog_45_method_6_code 16 = .ok (.goto 9, 3) := by decide +kernel
theorem d3_25 : decode prog_45_method_6_code 25 = .ok (.ireturn, 1) := by decide +kernel
theorem d3_19 : decode prog_45_method_6_code 19 = .ok (.aload_n 0, 1) := by decide +kernel
theorem d3_20 : decode prog_45_method_6_code 20 = .ok (.getfield 30, 3) := by decide +kernel
theorem d3_23 : decode prog_45_method_6_code 23 = .ok (.iload_n 1, 1) := by decide +kernel
theorem d3_24 : decode prog_45_method_6_code 24 = .ok (.iaload, 1) := by decide +kernel
theorem pd_0 : parseMethodDescriptor "(I[I[II[I)V" = some ⟨[.int, (.array .int), (.array .int), .int, (.array .int)], none⟩ := by decide +kernel
theorem pd_1 : parseMethodDescriptor "(II)I" = some ⟨[.int, .int], some .int⟩ := by decide +kernel
theorem pn_1 : plainName "com/example/ordr/ordr/layout/LayerNetwork" = true := by first | (simp [plainName, overriddenIn]; done) | decide +kernel
theorem pn_3 : plainName "com/example/ordr/ordr/layout/LayerNetwork" = true := by first | (simp [plainName, overriddenIn]; done) | decide +kernel
theorem pn_0 : plainName "com/example/ordr/ordr/layout/LayerNetworkOtherEndPinLaw" = true := by first | (simp [plainName, overriddenIn]; done) | decide +kernel
theorem ef_rm1 (m : MethodId) (x0 : Nat) (x2 : Nat) (x3 : Nat) (x4 : Int32) (x5 : Nat) : entryFrame m #[(.ref x0), (.int (8 : Int32)), (.ref x2), (.ref x3), (.int x4), (.ref x5)] 10 = mkF m 0 #[.val (.ref x0), .val (.int (8 : Int32)), .val (.ref x2), .val (.ref x3), .val (.int x4), .val (.ref x5), .unset, .unset, .unset, .unset] [] := by first | (simp [entryFrame, mkF, argsToLocals, Value.category]; done) | rfl
theorem ef_oe0 (m : MethodId) (x0 : Nat) (x2 : Int32) : entryFrame m #[(.ref x0), (.int (0 : Int32)), (.int x2)] 3 = mkF m 0 #[.val (.ref x0), .val (.int (0 : Int32)), .val (.int x2)] [] := by first | (simp [entryFrame, mkF, argsToLocals, Value.category]; done) | rfl
theorem ef_oe1 (m : MethodId) (x0 : Nat) (x2 : Int32) : entryFrame m #[(.ref x0), (.int (1 : Int32)), (.int x2)] 3 = mkF m 0 #[.val (.ref x0), .val (.int (1 : Int32)), .val (.int x2)] [] := by first | (simp [entryFrame, mkF, argsToLocals, Value.category]; done) | rfl
theorem ef_rm0 (m : MethodId) (x0 : Int32) (x1 : Int32) (x2 : Int32) (x3 : Int32) (x4 : Int32) : entryFrame m #[(.int x0), (.int x1), (.int x2), (.int x3), (.int x4)] maxLocals = mkF m 0 #[.val (.int x0), .val (.int x1), .val (.int x2), .val (.int x3), .val (.int x4), .unset, .unset, .unset, .unset, .unset, .unset, .unset, .unset, .unset, .unset, .unset] [] := by first | (simp [entryFrame, mkF, argsToLocals, Value.category, maxLocals]; done) | rfl
def own_dl (k i : Nat) : Int := if k = i then 1 else 0
def own_lm (k i : Nat) : Int := if k < i then 1 else 0
theorem own_dlb (k i : Nat) : 0 ≤ own_dl k i ∧ own_dl k i ≤ 1 := by unfold own_dl; split <;> omega
theorem own_lmb (k i : Nat) : 0 ≤ own_lm k i ∧ own_lm k i ≤ 1 := by unfold own_lm; split <;> omega
theorem own_lms (k i : Nat) : own_lm k (i + 1) = own_lm k i + own_dl (k + 1) (i + 1) := by unfold own_lm own_dl; split <;> split <;> split <;> omega
theorem own_inc {f g : Nat → Int32} {S : Nat → Int} {K : Nat} {v : Int32} (hf : ∀ i, (f i).toInt = S i) (hb : ∀ i, 0 ≤ S i ∧ S i ≤ 100) (hv : f K + (1 : Int32) = v) (hg : g = fun i => if i = K then v else f i) : ∀ i, (g i).toInt = S i + own_dl K i := by
  intro i
  subst hg
  show (if i = K then v else f i).toInt = _
  by_cases q : i = K
  · subst q
    rw [if_pos rfl, ← hv]
    have a := c_iadd (f i) 1; have b := rng32 (f i + 1); have c := hb i; have d := hf i; have e : (1 : Int32).toInt = 1 := by decide
    have z : own_dl i i = 1 := by simp [own_dl]
    omega
  · rw [if_neg q, hf i]
    have z : own_dl K i = 0 := if_neg fun h => q h.symm
    omega
theorem own_pre {f g : Nat → Int32} {L D : Nat → Int} {k : Nat} {v : Int32} (hlo : ∀ i, i ≤ k → (f i).toInt = L i) (hhi : ∀ i, k < i → (f i).toInt = D i) (hs : ∀ i, L (i + 1) = L i + D (i + 1)) (hL : ∀ i, 0 ≤ L i ∧ L i ≤ 100) (hD : ∀ i, 0 ≤ D i ∧ D i ≤ 100) (hv : f (k + 1) + f k = v) (hg : g = fun i => if i = k + 1 then v else f i) :
    (∀ i, i ≤ k + 1 → (g i).toInt = L i) ∧ ∀ i, k + 1 < i → (g i).toInt = D i := by
  subst hg
  constructor
  · intro i hi
    show (if i = k + 1 then v else f i).toInt = _
    by_cases q : i = k + 1
    · subst q
      rw [if_pos rfl, ← hv]
      have a := c_iadd (f (k + 1)) (f k); have b := rng32 (f (k + 1) + f k); have c := hlo k (Nat.le_refl _); have d := hhi (k + 1) (Nat.lt_succ_self _); have e := hs k; have e2 := hL k; have e3 := hD (k + 1)
      omega
    · rw [if_neg q]; exact hlo i (by omega)
  · intro i hi
    show (if i = k + 1 then v else f i).toInt = _
    rw [if_neg (by omega)]; exact hhi i (by omega)
theorem own_p1 {t : Int32} {n : Nat} (h : t.toInt = (n : Int) ∧ n < 8) : 0 ≤ (t + (1 : Int32)).toInt ∧ (t + (1 : Int32)).toInt < ((9 : Nat) : Int) := by
  have c := c_iadd t 1; have d := rng32 (t + 1); have e : (1 : Int32).toInt = 1 := by decide
  omega
theorem own_p0 {t : Int32} {n m : Nat} (h : t.toInt = (n : Int) ∧ n < 8) (q : 8 ≤ m) : 0 ≤ t.toInt ∧ t.toInt < (m : Int) := by omega
theorem own_k1 {t : Int32} {n : Nat} (h : t.toInt = (n : Int) ∧ n < 8) : (t + (1 : Int32)).toNatClampNeg = n + 1 := by
  have c := c_iadd t 1; have d := rng32 (t + 1); have e : (1 : Int32).toInt = 1 := by decide
  simp only [Int32.toNatClampNeg]; omega
theorem own_ec {t : Int32} (h : 0 ≤ t.toInt ∧ t.toInt ≤ 2) : ¬ ((2 : Int32) < t) := by
  rw [Int32.lt_iff_toInt_lt]; have e : (2 : Int32).toInt = 2 := by decide
  omega
def Q_rm1 (Z : State) (self : Nat) (ta : Nat) (ha : Nat) (ec : Int32) (sa : Nat) (kt : ClassId) (kh : ClassId) (ks : ClassId) (t0 : Int32) (h0_ : Int32) (t1 : Int32) (h1 : Int32) (h0 : Heap) (n0 : Nat) (v : Option Value) (h : Heap) (L : List Loc) : Prop := (v = none) ∧ (Fr n0 L) ∧ (Keep h0 h [self]) ∧ (Exa Z h self "com/example/ordr/ordr/layout/LayerNetwork") ∧ (Fld Z h self "com/example/ordr/ordr/layout/LayerNetwork" "tails" "[I" (.ref ta)) ∧ (Fld Z h self "com/example/ordr/ordr/layout/LayerNetwork" "heads" "[I" (.ref ha))
set_option maxRecDepth 65536 in
set_option maxHeartbeats 40000000 in
theorem rm1 (l : Launch) (Z : State) (a0 : Array Value) (hw : ∀ d ∈ tables_1, d.before a0 Z = true) (ws : List Jvm.Cond) (self : Nat) (ta : Nat) (ha : Nat) (ec : Int32) (sa : Nat) (kt : ClassId) (kh : ClassId) (ks : ClassId) (t0 : Int32) (h0_ : Int32) (t1 : Int32) (h1 : Int32) (h0 : Heap) (n0 : Nat) (Z0 : n0 ≤ h0.size) (G0 : Exa Z h0 self "com/example/ordr/ordr/layout/LayerNetwork") (G1 : Fld Z h0 self "com/example/ordr/ordr/layout/LayerNetwork" "nodeCount" "I" (.int (0 : Int32))) (G2 : Fld Z h0 self "com/example/ordr/ordr/layout/LayerNetwork" "edgeCount" "I" (.int (0 : Int32))) (G3 : Fld Z h0 self "com/example/ordr/ordr/layout/LayerNetwork" "tails" "[I" .null) (G4 : Fld Z h0 self "com/example/ordr/ordr/layout/LayerNetwork" "heads" "[I" .null) (G5 : Fld Z h0 self "com/example/ordr/ordr/layout/LayerNetwork" "incidentStarts" "[I" .null) (G6 : Fld Z h0 self "com/example/ordr/ordr/layout/LayerNetwork" "incident" "[I" .null) (G7 : Fld Z h0 self "com/example/ordr/ordr/layout/LayerNetwork" "otherEnds" "[I" .null) (G8 : Fld Z h0 self "com/example/ordr/ordr/layout/LayerNetwork" "incomingStarts" "[I" .null) (G9 : Fld Z h0 self "com/example/ordr/ordr/layout/LayerNetwork" "supplies" "[I" .null) (G10 : Fld Z h0 self "com/example/ordr/ordr/layout/LayerNetwork" "layers" "[J" .null) (G11 : Fld Z h0 self "com/example/ordr/ordr/layout/LayerNetwork" "flows" "[J" .null) (G12 : Fld Z h0 self "com/example/ordr/ordr/layout/LayerNetwork" "excesses" "[J" .null) (G13 : Arv Z h0 ta kt .int (2 : Int32) [(.int t0), (.int t1)] (.int (0 : Int32))) (G14 : Arv Z h0 ha kh .int (2 : Int32) [(.int h0_), (.int h1)] (.int (0 : Int32))) (G15 : Arv Z h0 sa ks .int (8 : Int32) [(.int (0 : Int32)), (.int (0 : Int32)), (.int (0 : Int32)), (.int (0 : Int32)), (.int (0 : Int32)), (.int (0 : Int32)), (.int (0 : Int32)), (.int (0 : Int32))] (.int (0 : Int32))) (G16 : n0 ≤ self) (G17 : ta ≠ self) (G18 : ha ≠ self) (G19 : sa ≠ self) (G20 : 0 ≤ t0.toInt ∧ t0.toInt < 8) (G21 : 0 ≤ h0_.toInt ∧ h0_.toInt < 8) (G22 : 0 ≤ t1.toInt ∧ t1.toInt < 8) (G23 : 0 ≤ h1.toInt ∧ h1.toInt < 8) (G24 : 0 ≤ ec.toInt ∧ ec.toInt ≤ 2) :
    MetFree l (⟨"com/example/ordr/ordr/layout/LayerNetwork", "<init>", "(I[I[II[I)V"⟩ : MethodName) (head1 (Jvm.Cond.code (⟨"com/example/ordr/ordr/layout/LayerNetwork", "<init>", "(I[I[II[I)V"⟩ : MethodName) prog_45_method_2_code 10 none :: ws) ({ frames := 1, cells := 9, slots := 59, locals := 12 } : Room)) (fun a U => a = #[(.ref self), (.int (8 : Int32)), (.ref ta), (.ref ha), (.int ec), (.ref sa)] ∧ Z.Warmed39 U.vm ∧ U.heap = h0) (fun _ _ _ _ _ => True) (fun _ U o U' => ∃ v L, o = .returned v ∧ Q_rm1 Z self ta ha ec sa kt kh ks t0 h0_ t1 h1 h0 n0 v U'.heap L ∧ FrameEnd U o U' L ({ frames := 1, cells := 9, slots := 59, locals := 12 } : Room).cells ({ frames := 1, cells := 9, slots := 59, locals := 12 } : Room).slots) := by
  refine MetFree.of_bodySF (plainFor_of_name pn_1) hisR ?_
  intro p e s m args below meth c s₁ Bd hml0 hP hK
  obtain ⟨rfl, hZ, hh⟩ := hP
  have hx := Bd.exec
  have hby := Bd.bytes
  have hml : c.maxLocals = 10 := hml0
  have hown : s.vm.findClass "com/example/ordr/ordr/layout/LayerNetwork" = some m.cls := findClass_of_methodNamed Bd.named
  have hnm := (name_of_methodNamed Bd.named Bd.method).1
  have hlk : meth.locks = false := Bd.notSynchronized
  have X0 : Stand p l e ({ frames := 1, cells := 9, slots := 59, locals := 12 } : Room) s m #[(.ref self), (.int (8 : Int32)), (.ref ta), (.ref ha), (.int ec), (.ref sa)] below meth c s₁ [] 0 0 := Stand.of_body Bd
  have e0 : s₁.heap = h0 := by rw [← hh, Bd.state]; rfl
  have N0 := Fr.nil n0
  have K0 := Keep.refl h0 [self]
  refine Comes.out (Q := Q_rm1 Z self ta ha ec sa kt kh ks t0 h0_ t1 h1 h0 n0) (kc := ({ frames := 1, cells := 9, slots := 59, locals := 12 } : Room).cells) (ks := ({ frames := 1, cells := 9, slots := 59, locals := 12 } : Room).slots) ?_
  refine Comes.cast (ef_rm1 m self ta ha ec sa) ?_
  have lt_self : self < h0.size := G0.lt
  have lt_ta : ta < h0.size := G13.lt
  have lt_ha : ha < h0.size := G14.lt
  have lt_sa : sa < h0.size := G15.lt
  obtain ⟨n_t0, hn_t0⟩ : ∃ z, z = t0.toNatClampNeg := ⟨_, rfl⟩
  have b_t0 : t0.toInt = (n_t0 : Int) ∧ n_t0 < 8 := by have a := G20; rw [hn_t0]; simp only [Int32.toNatClampNeg]; omega
  obtain ⟨n_h0_, hn_h0_⟩ : ∃ z, z = h0_.toNatClampNeg := ⟨_, rfl⟩
  have b_h0_ : h0_.toInt = (n_h0_ : Int) ∧ n_h0_ < 8 := by have a := G21; rw [hn_h0_]; simp only [Int32.toNatClampNeg]; omega
  obtain ⟨n_t1, hn_t1⟩ : ∃ z, z = t1.toNatClampNeg := ⟨_, rfl⟩
  have b_t1 : t1.toInt = (n_t1 : Int) ∧ n_t1 < 8 := by have a := G22; rw [hn_t1]; simp only [Int32.toNatClampNeg]; omega
  obtain ⟨n_h1, hn_h1⟩ : ∃ z, z = h1.toNatClampNeg := ⟨_, rfl⟩
  have b_h1 : h1.toInt = (n_h1 : Int) ∧ n_h1 < 8 := by have a := G23; rw [hn_h1]; simp only [Int32.toNatClampNeg]; omega
  show Comes p e below _ (s₁.setTop (mkF m 0 #[.val (.ref self), .val (.int (8 : Int32)), .val (.ref ta), .val (.ref ha), .val (.int ec), .val (.ref sa), .unset, .unset, .unset, .unset] []))
  refine Comes.st (fun t k => XS.aloadN X0.here hx rfl (hb hby d1_0) rfl rfl k) ?_
  show Comes p e below _ (s₁.setTop (mkF m 1 #[.val (.ref self), .val (.int (8 : Int32)), .val (.ref ta), .val (.ref ha), .val (.int ec), .val (.ref sa), .unset, .unset, .unset, .unset] [(.ref self)]))
  obtain ⟨T1, X1, e1, st1⟩ := initO X0 hx hZ hown (hw _ (List.mem_of_getElem? (i := 7) rfl)) (hw _ (List.mem_of_getElem? (i := 8) rfl)) (hw _ (List.mem_of_getElem? (i := 9) rfl)) e0 (g := (mkF m 1 #[.val (.ref self), .val (.int (8 : Int32)), .val (.ref ta), .val (.ref ha), .val (.int ec), .val (.ref sa), .unset, .unset, .unset, .unset] [(.ref self)])) rfl (by rw [hml]; rfl) rfl (hb hby d1_1) (by decide) (W := 0) (by show 2 * 0 + _ ≤ _; exact Nat.le_of_eq rfl) (by decide)
  refine Comes.st st1 ?_
  show Comes p e below _ (T1.setTop (mkF m 4 #[.val (.ref self), .val (.int (8 : Int32)), .val (.ref ta), .val (.ref ha), .val (.int ec), .val (.ref sa), .unset, .unset, .unset, .unset] []))
  refine Comes.st (fun t k => XS.aloadN X1.here hx rfl (hb hby d1_4) rfl rfl (XS.iloadN X1.here hx rfl (hb hby d1_5) rfl k)) ?_
  show Comes p e below _ (T1.setTop (mkF m 6 #[.val (.ref self), .val (.int (8 : Int32)), .val (.ref ta), .val (.ref ha), .val (.int ec), .val (.ref sa), .unset, .unset, .unset, .unset] [(.int (8 : Int32)), (.ref self)]))
  obtain ⟨T2, h2, X2, e2, W2, st2⟩ := putF X1 hx hZ hown (host := "") (Or.inl (hw _ (List.mem_of_getElem? (i := 10) rfl))) Via.refl e1 G1 G0 (Or.inr ⟨(hw _ (List.mem_of_getElem? (i := 11) rfl)), rfl, hnm⟩) (hw _ (List.mem_of_getElem? (i := 2) rfl)) (ty := .int) (by decide) rfl rfl (g := (mkF m 6 #[.val (.ref self), .val (.int (8 : Int32)), .val (.ref ta), .val (.ref ha), .val (.int ec), .val (.ref sa), .unset, .unset, .unset, .unset] [(.int (8 : Int32)), (.ref self)])) rfl rfl (hb hby d1_6)
  have Fw2 := G1.same W2
  have z2 : h2.size = h0.size := W2.size
  have gn3 : n0 ≤ self := by omega
  have N2 := Fr.snoc X2 N0 gn3
  have K2 : Keep h0 h2 [self] := K0.wr W2 (Or.inl (List.mem_of_getElem? (i := 0) rfl))
  refine Comes.st st2 ?_
  show Comes p e below _ (T2.setTop (mkF m 9 #[.val (.ref self), .val (.int (8 : Int32)), .val (.ref ta), .val (.ref ha), .val (.int ec), .val (.ref sa), .unset, .unset, .unset, .unset] []))
  refine Comes.st (fun t k => XS.aloadN X2.here hx rfl (hb hby d1_9) rfl rfl (XS.iload X2.here hx rfl (hb hby d1_10) rfl k)) ?_
  show Comes p e below _ (T2.setTop (mkF m 12 #[.val (.ref self), .val (.int (8 : Int32)), .val (.ref ta), .val (.ref ha), .val (.int ec), .val (.ref sa), .unset, .unset, .unset, .unset] [(.int ec), (.ref self)]))
  have F4 : Exa Z h2 self "com/example/ordr/ordr/layout/LayerNetwork" := (G0.wr W2)
  have F5 : Fld Z h2 self "com/example/ordr/ordr/layout/LayerNetwork" "edgeCount" "I" (.int (0 : Int32)) := (G2.other W2 (Or.inr (slot_ne (Or.inr (hw _ (List.mem_of_getElem? (i := 13) rfl))) (Or.inr (hw _ (List.mem_of_getElem? (i := 11) rfl))) (by decide) (t := .int) (t' := .int) (by decide) (by decide))))
  obtain ⟨T6, h6, X6, e6, W6, st6⟩ := putF X2 hx hZ hown (host := "") (Or.inl (hw _ (List.mem_of_getElem? (i := 12) rfl))) Via.refl e2 F5 F4 (Or.inr ⟨(hw _ (List.mem_of_getElem? (i := 13) rfl)), rfl, hnm⟩) (hw _ (List.mem_of_getElem? (i := 2) rfl)) (ty := .int) (by decide) rfl rfl (g := (mkF m 12 #[.val (.ref self), .val (.int (8 : Int32)), .val (.ref ta), .val (.ref ha), .val (.int ec), .val (.ref sa), .unset, .unset, .unset, .unset] [(.int ec), (.ref self)])) rfl rfl (hb hby d1_12)
  have Fw6 := F5.same W6
  have z6 : h6.size = h2.size := W6.size
  have N6 := Fr.snoc X6 N2 gn3
  have K6 : Keep h0 h6 [self] := K2.wr W6 (Or.inl (List.mem_of_getElem? (i := 0) rfl))
  refine Comes.st st6 ?_
  show Comes p e below _ (T6.setTop (mkF m 15 #[.val (.ref self), .val (.int (8 : Int32)), .val (.ref ta), .val (.ref ha), .val (.int ec), .val (.ref sa), .unset, .unset, .unset, .unset] []))
  refine Comes.st (fun t k => XS.aloadN X6.here hx rfl (hb hby d1_15) rfl rfl (XS.aloadN X6.here hx rfl (hb hby d1_16) rfl rfl k)) ?_
  show Comes p e below _ (T6.setTop (mkF m 17 #[.val (.ref self), .val (.int (8 : Int32)), .val (.ref ta), .val (.ref ha), .val (.int ec), .val (.ref sa), .unset, .unset, .unset, .unset] [(.ref ta), (.ref self)]))
  have F7 : Exa Z h6 self "com/example/ordr/ordr/layout/LayerNetwork" := (F4.wr W6)
  have F8 : Fld Z h6 self "com/example/ordr/ordr/layout/LayerNetwork" "tails" "[I" .null := ((G3.other W2 (Or.inr (slot_ne (Or.inr (hw _ (List.mem_of_getElem? (i := 15) rfl))) (Or.inr (hw _ (List.mem_of_getElem? (i := 11) rfl))) (by decide) (t := (.array .int)) (t' := .int) (by decide) (by decide)))).other W6 (Or.inr (slot_ne (Or.inr (hw _ (List.mem_of_getElem? (i := 15) rfl))) (Or.inr (hw _ (List.mem_of_getElem? (i := 13) rfl))) (by decide) (t := (.array .int)) (t' := .int) (by decide) (by decide))))
  obtain ⟨T9, h9, X9, e9, W9, st9⟩ := putF X6 hx hZ hown (host := "") (Or.inl (hw _ (List.mem_of_getElem? (i := 14) rfl))) Via.refl e6 F8 F7 (Or.inr ⟨(hw _ (List.mem_of_getElem? (i := 15) rfl)), rfl, hnm⟩) (hw _ (List.mem_of_getElem? (i := 2) rfl)) (ty := (.array .int)) (by decide) rfl rfl (g := (mkF m 17 #[.val (.ref self), .val (.int (8 : Int32)), .val (.ref ta), .val (.ref ha), .val (.int ec), .val (.ref sa), .unset, .unset, .unset, .unset] [(.ref ta), (.ref self)])) rfl rfl (hb hby d1_17)
  have Fw9 := F8.same W9
  have z9 : h9.size = h6.size := W9.size
  have N9 := Fr.snoc X9 N6 gn3
  have K9 : Keep h0 h9 [self] := K6.wr W9 (Or.inl (List.mem_of_getElem? (i := 0) rfl))
  refine Comes.st st9 ?_
  show Comes p e below _ (T9.setTop (mkF m 20 #[.val (.ref self), .val (.int (8 : Int32)), .val (.ref ta), .val (.ref ha), .val (.int ec), .val (.ref sa), .unset, .unset, .unset, .unset] []))
  refine Comes.st (fun t k => XS.aloadN X9.here hx rfl (hb hby d1_20) rfl rfl (XS.aloadN X9.here hx rfl (hb hby d1_21) rfl rfl k)) ?_
  show Comes p e below _ (T9.setTop (mkF m 22 #[.val (.ref self), .val (.int (8 : Int32)), .val (.ref ta), .val (.ref ha), .val (.int ec), .val (.ref sa), .unset, .unset, .unset, .unset] [(.ref ha), (.ref self)]))
  have F10 : Exa Z h9 self "com/example/ordr/ordr/layout/LayerNetwork" := (F7.wr W9)
  have F11 : Fld Z h9 self "com/example/ordr/ordr/layout/LayerNetwork" "heads" "[I" .null := (((G4.other W2 (Or.inr (slot_ne (Or.inr (hw _ (List.mem_of_getElem? (i := 17) rfl))) (Or.inr (hw _ (List.mem_of_getElem? (i := 11) rfl))) (by decide) (t := (.array .int)) (t' := .int) (by decide) (by decide)))).other W6 (Or.inr (slot_ne (Or.inr (hw _ (List.mem_of_getElem? (i := 17) rfl))) (Or.inr (hw _ (List.mem_of_getElem? (i := 13) rfl))) (by decide) (t := (.array .int)) (t' := .int) (by decide) (by decide)))).other W9 (Or.inr (slot_ne (Or.inr (hw _ (List.mem_of_getElem? (i := 17) rfl))) (Or.inr (hw _ (List.mem_of_getElem? (i := 15) rfl))) (by decide) (t := (.array .int)) (t' := (.array .int)) (by decide) (by decide))))
  obtain ⟨T12, h12, X12, e12, W12, st12⟩ := putF X9 hx hZ hown (host := "") (Or.inl (hw _ (List.mem_of_getElem? (i := 16) rfl))) Via.refl e9 F11 F10 (Or.inr ⟨(hw _ (List.mem_of_getElem? (i := 17) rfl)), rfl, hnm⟩) (hw _ (List.mem_of_getElem? (i := 2) rfl)) (ty := (.array .int)) (by decide) rfl rfl (g := (mkF m 22 #[.val (.ref self), .val (.int (8 : Int32)), .val (.ref ta), .val (.ref ha), .val (.int ec), .val (.ref sa), .unset, .unset, .unset, .unset] [(.ref ha), (.ref self)])) rfl rfl (hb hby d1_22)
  have Fw12 := F11.same W12
  have z12 : h12.size = h9.size := W12.size
  have N12 := Fr.snoc X12 N9 gn3
  have K12 : Keep h0 h12 [self] := K9.wr W12 (Or.inl (List.mem_of_getElem? (i := 0) rfl))
  refine Comes.st st12 ?_
  show Comes p e below _ (T12.setTop (mkF m 25 #[.val (.ref self), .val (.int (8 : Int32)), .val (.ref ta), .val (.ref ha), .val (.int ec), .val (.ref sa), .unset, .unset, .unset, .unset] []))
  refine Comes.st (fun t k => XS.aloadN X12.here hx rfl (hb hby d1_25) rfl rfl k) ?_
  show Comes p e below _ (T12.setTop (mkF m 26 #[.val (.ref self), .val (.int (8 : Int32)), .val (.ref ta), .val (.ref ha), .val (.int ec), .val (.ref sa), .unset, .unset, .unset, .unset] [(.ref ta)]))
  have F13 : Arv Z h12 ta kt .int (2 : Int32) [(.int t0), (.int t1)] (.int (0 : Int32)) := ((((G13.other W2 G17).other W6 G17).other W9 G17).other W12 G17)
  obtain ⟨cl14, Ar14, -, S14, Ng14, -, -⟩ := id F13
  refine Comes.st (fun t k => X12.arraylength hx (by rw [e12]; exact Ar14.1) (State.isArrayOf_alike hZ.alike Ar14.2.1) (g := (mkF m 26 #[.val (.ref self), .val (.int (8 : Int32)), .val (.ref ta), .val (.ref ha), .val (.int ec), .val (.ref sa), .unset, .unset, .unset, .unset] [(.ref ta)])) rfl rfl (hb hby d1_26) _ k) ?_
  rw [len_of S14 Ng14]
  show Comes p e below _ (T12.setTop (mkF m 27 #[.val (.ref self), .val (.int (8 : Int32)), .val (.ref ta), .val (.ref ha), .val (.int ec), .val (.ref sa), .unset, .unset, .unset, .unset] [(.int (2 : Int32))]))
  refine Comes.st (fun t k => XS.istore X12.here hx rfl (hb hby d1_27) rfl (l' := #[.val (.ref self), .val (.int (8 : Int32)), .val (.ref ta), .val (.ref ha), .val (.int ec), .val (.ref sa), .val (.int (2 : Int32)), .unset, .unset, .unset]) rfl (XS.aloadN X12.here hx rfl (hb hby d1_29) rfl rfl (XS.iloadN X12.here hx rfl (hb hby d1_30) rfl (XS.iconst X12.here hx rfl (hb hby d1_31) (XS.iadd X12.here hx rfl (hb hby d1_32) rfl k))))) ?_
  show Comes p e below _ (T12.setTop (mkF m 33 #[.val (.ref self), .val (.int (8 : Int32)), .val (.ref ta), .val (.ref ha), .val (.int ec), .val (.ref sa), .val (.int (2 : Int32)), .unset, .unset, .unset] [(.int ((8 : Int32) + (1 : Int32))), (.ref self)]))
  rw [show ((8 : Int32) + (1 : Int32)) = (9 : Int32) from by decide]
  show Comes p e below _ (T12.setTop (mkF m 33 #[.val (.ref self), .val (.int (8 : Int32)), .val (.ref ta), .val (.ref ha), .val (.int ec), .val (.ref sa), .val (.int (2 : Int32)), .unset, .unset, .unset] [(.int (9 : Int32)), (.ref self)]))
  obtain ⟨T15, h15, k15, X15, e15, E15, A15, st15⟩ := newP X12 hx hZ (hw _ (List.mem_of_getElem? (i := 0) rfl)) e12 (g := (mkF m 33 #[.val (.ref self), .val (.int (8 : Int32)), .val (.ref ta), .val (.ref ha), .val (.int ec), .val (.ref sa), .val (.int (2 : Int32)), .unset, .unset, .unset] [(.int (9 : Int32)), (.ref self)])) rfl (hb hby d1_33) rfl (by decide) (cap := 9) (by decide) (by decide) (by decide) (by decide)
  obtain ⟨b15, g15⟩ : ∃ z, z = h12.size := ⟨_, rfl⟩
  rw [← g15] at A15 st15
  have z15 : h12.size ≤ h15.size := E15.1
  have lt15 : b15 < h15.size := A15.lt
  have V15 : Ari Z h15 b15 9 (fun _ => 0) := Ari.new A15 rfl
  obtain ⟨f15, hf15⟩ : ∃ g : Nat → Int32, g = fun _ => 0 := ⟨_, rfl⟩
  rw [← hf15] at V15
  have I_f15 : ∀ i, (f15 i).toInt = (fun i => (0 : Int)) i := by intro i; rw [hf15]; show (0 : Int32).toInt = 0; decide
  have K15 : Keep h0 h15 [self] := K12.ext E15
  refine Comes.st st15 ?_
  show Comes p e below _ (T15.setTop (mkF m 35 #[.val (.ref self), .val (.int (8 : Int32)), .val (.ref ta), .val (.ref ha), .val (.int ec), .val (.ref sa), .val (.int (2 : Int32)), .unset, .unset, .unset] [(.ref b15), (.ref self)]))
  have F16 : Exa Z h15 self "com/example/ordr/ordr/layout/LayerNetwork" := ((F10.wr W12).ext E15)
  have F17 : Fld Z h15 self "com/example/ordr/ordr/layout/LayerNetwork" "incidentStarts" "[I" .null := (((((G5.other W2 (Or.inr (slot_ne (Or.inr (hw _ (List.mem_of_getElem? (i := 19) rfl))) (Or.inr (hw _ (List.mem_of_getElem? (i := 11) rfl))) (by decide) (t := (.array .int)) (t' := .int) (by decide) (by decide)))).other W6 (Or.inr (slot_ne (Or.inr (hw _ (List.mem_of_getElem? (i := 19) rfl))) (Or.inr (hw _ (List.mem_of_getElem? (i := 13) rfl))) (by decide) (t := (.array .int)) (t' := .int) (by decide) (by decide)))).other W9 (Or.inr (slot_ne (Or.inr (hw _ (List.mem_of_getElem? (i := 19) rfl))) (Or.inr (hw _ (List.mem_of_getElem? (i := 15) rfl))) (by decide) (t := (.array .int)) (t' := (.array .int)) (by decide) (by decide)))).other W12 (Or.inr (slot_ne (Or.inr (hw _ (List.mem_of_getElem? (i := 19) rfl))) (Or.inr (hw _ (List.mem_of_getElem? (i := 17) rfl))) (by decide) (t := (.array .int)) (t' := (.array .int)) (by decide) (by decide)))).ext E15)
  obtain ⟨T18, h18, X18, e18, W18, st18⟩ := putF X15 hx hZ hown (host := "") (Or.inl (hw _ (List.mem_of_getElem? (i := 18) rfl))) Via.refl e15 F17 F16 (Or.inr ⟨(hw _ (List.mem_of_getElem? (i := 19) rfl)), rfl, hnm⟩) (hw _ (List.mem_of_getElem? (i := 2) rfl)) (ty := (.array .int)) (by decide) rfl rfl (g := (mkF m 35 #[.val (.ref self), .val (.int (8 : Int32)), .val (.ref ta), .val (.ref ha), .val (.int ec), .val (.ref sa), .val (.int (2 : Int32)), .unset, .unset, .unset] [(.ref b15), (.ref self)])) rfl rfl (hb hby d1_35)
  have Fw18 := F17.same W18
  have z18 : h18.size = h15.size := W18.size
  have N18 := Fr.snoc X18 N12 gn3
  have K18 : Keep h0 h18 [self] := K15.wr W18 (Or.inl (List.mem_of_getElem? (i := 0) rfl))
  refine Comes.st st18 ?_
  show Comes p e below _ (T18.setTop (mkF m 38 #[.val (.ref self), .val (.int (8 : Int32)), .val (.ref ta), .val (.ref ha), .val (.int ec), .val (.ref sa), .val (.int (2 : Int32)), .unset, .unset, .unset] []))
  refine Comes.st (fun t k => XS.iconst X18.here hx rfl (hb hby d1_38) (XS.istore X18.here hx rfl (hb hby d1_39) rfl (l' := #[.val (.ref self), .val (.int (8 : Int32)), .val (.ref ta), .val (.ref ha), .val (.int ec), .val (.ref sa), .val (.int (2 : Int32)), .val (.int (0 : Int32)), .unset, .unset]) rfl (XS.iload X18.here hx rfl (hb hby d1_41) rfl (XS.iload X18.here hx rfl (hb hby d1_43) rfl k)))) ?_
  show Comes p e below _ (T18.setTop (mkF m 45 #[.val (.ref self), .val (.int (8 : Int32)), .val (.ref ta), .val (.ref ha), .val (.int ec), .val (.ref sa), .val (.int (2 : Int32)), .val (.int (0 : Int32)), .unset, .unset] [(.int (2 : Int32)), (.int (0 : Int32))]))
  have hc45_19 : (0 : Int32) < (2 : Int32) := by decide
  refine Comes.st (fun t k => XS.icmpNo X18.here hx rfl (hb hby d1_45) rfl (tlt hc45_19).2.1 (XS.aloadN X18.here hx rfl (hb hby d1_48) rfl rfl k)) ?_
  show Comes p e below _ (T18.setTop (mkF m 49 #[.val (.ref self), .val (.int (8 : Int32)), .val (.ref ta), .val (.ref ha), .val (.int ec), .val (.ref sa), .val (.int (2 : Int32)), .val (.int (0 : Int32)), .unset, .unset] [(.ref self)]))
  obtain ⟨T20, X20, e20, st20⟩ := getF X18 hx hZ hown (host := "") (Or.inl (hw _ (List.mem_of_getElem? (i := 18) rfl))) Via.refl e18 Fw18 (g := (mkF m 49 #[.val (.ref self), .val (.int (8 : Int32)), .val (.ref ta), .val (.ref ha), .val (.int ec), .val (.ref sa), .val (.int (2 : Int32)), .val (.int (0 : Int32)), .unset, .unset] [(.ref self)])) rfl rfl (hb hby d1_49)
  refine Comes.st st20 ?_
  show Comes p e below _ (T20.setTop (mkF m 52 #[.val (.ref self), .val (.int (8 : Int32)), .val (.ref ta), .val (.ref ha), .val (.int ec), .val (.ref sa), .val (.int (2 : Int32)), .val (.int (0 : Int32)), .unset, .unset] [(.ref b15)]))
  refine Comes.st (fun t k => XS.aloadN X20.here hx rfl (hb hby d1_52) rfl rfl (XS.iload X20.here hx rfl (hb hby d1_53) rfl k)) ?_
  show Comes p e below _ (T20.setTop (mkF m 55 #[.val (.ref self), .val (.int (8 : Int32)), .val (.ref ta), .val (.ref ha), .val (.int ec), .val (.ref sa), .val (.int (2 : Int32)), .val (.int (0 : Int32)), .unset, .unset] [(.int (0 : Int32)), (.ref ta), (.ref b15)]))
  have F21 : Arv Z h18 ta kt .int (2 : Int32) [(.int t0), (.int t1)] (.int (0 : Int32)) := ((F13.ext E15).other W18 G17)
  obtain ⟨cl22, Ar22, q22, S22, Ng22, H22, Gf22⟩ := id F21
  have hin22 : ¬ ((0 : Int32) < 0 ∨ cl22.slots.size ≤ ((0 : Int32)).toNatClampNeg) := inb_of S22 ⟨by decide, by decide⟩
  refine Comes.st (fun t k => X20.iaload hx (j := (0 : Int32)) (v := (.int t0)) (by rw [e20]; exact Ar22.1) (State.isArrayOf_alike hZ.alike Ar22.2.1) Ar22.2.2 hin22 (Has.at H22 hin22 rfl) (g := (mkF m 55 #[.val (.ref self), .val (.int (8 : Int32)), .val (.ref ta), .val (.ref ha), .val (.int ec), .val (.ref sa), .val (.int (2 : Int32)), .val (.int (0 : Int32)), .unset, .unset] [(.int (0 : Int32)), (.ref ta), (.ref b15)])) rfl rfl (hb hby d1_55) _ (XS.iconst X20.here hx rfl (hb hby d1_56) (XS.iadd X20.here hx rfl (hb hby d1_57) rfl (own_dup2 X20 hx rfl (hb hby d1_58) rfl rfl rfl k)))) ?_
  show Comes p e below _ (T20.setTop (mkF m 59 #[.val (.ref self), .val (.int (8 : Int32)), .val (.ref ta), .val (.ref ha), .val (.int ec), .val (.ref sa), .val (.int (2 : Int32)), .val (.int (0 : Int32)), .unset, .unset] [(.int (t0 + (1 : Int32))), (.ref b15), (.int (t0 + (1 : Int32))), (.ref b15)]))
  have ne23 : b15 ≠ self := by omega
  have F24 : Ari Z h18 b15 9 f15 := (V15.other W18 ne23)
  obtain ⟨cl25, Ar25, S25, H25⟩ := id F24
  have hin25 : ¬ ((t0 + (1 : Int32)) < 0 ∨ cl25.slots.size ≤ ((t0 + (1 : Int32))).toNatClampNeg) := by rw [S25]; exact own_inb (own_p1 b_t0)
  refine Comes.st (fun t k => X20.iaload hx (j := (t0 + (1 : Int32))) (v := (.int (f15 ((t0 + (1 : Int32))).toNatClampNeg))) (by rw [e20]; exact Ar25.1) (State.isArrayOf_alike hZ.alike Ar25.2.1) Ar25.2.2 hin25 (H25 _ (Nat.lt_of_not_le fun y => hin25 (Or.inr (S25 ▸ y)))) (g := (mkF m 59 #[.val (.ref self), .val (.int (8 : Int32)), .val (.ref ta), .val (.ref ha), .val (.int ec), .val (.ref sa), .val (.int (2 : Int32)), .val (.int (0 : Int32)), .unset, .unset] [(.int (t0 + (1 : Int32))), (.ref b15), (.int (t0 + (1 : Int32))), (.ref b15)])) rfl rfl (hb hby d1_59) _ (XS.iconst X20.here hx rfl (hb hby d1_60) (XS.iadd X20.here hx rfl (hb hby d1_61) rfl k))) ?_
  show Comes p e below _ (T20.setTop (mkF m 62 #[.val (.ref self), .val (.int (8 : Int32)), .val (.ref ta), .val (.ref ha), .val (.int ec), .val (.ref sa), .val (.int (2 : Int32)), .val (.int (0 : Int32)), .unset, .unset] [(.int ((f15 ((t0 + (1 : Int32))).toNatClampNeg) + (1 : Int32))), (.int (t0 + (1 : Int32))), (.ref b15)]))
  generalize hv_v26 : ((f15 ((t0 + (1 : Int32))).toNatClampNeg) + (1 : Int32)) = v26
  show Comes p e below _ (T20.setTop (mkF m 62 #[.val (.ref self), .val (.int (8 : Int32)), .val (.ref ta), .val (.ref ha), .val (.int ec), .val (.ref sa), .val (.int (2 : Int32)), .val (.int (0 : Int32)), .unset, .unset] [(.int v26), (.int (t0 + (1 : Int32))), (.ref b15)]))
  obtain ⟨cl27, Ar27, S27, H27⟩ := id F24
  have hin27 : ¬ ((t0 + (1 : Int32)) < 0 ∨ cl27.slots.size ≤ ((t0 + (1 : Int32))).toNatClampNeg) := by rw [S27]; exact own_inb (own_p1 b_t0)
  obtain ⟨T27, h27, X27, e27, W27, st27⟩ := stI X20 hx hZ e20 Ar27 (j := (t0 + (1 : Int32))) hin27 (g := (mkF m 62 #[.val (.ref self), .val (.int (8 : Int32)), .val (.ref ta), .val (.ref ha), .val (.int ec), .val (.ref sa), .val (.int (2 : Int32)), .val (.int (0 : Int32)), .unset, .unset] [(.int v26), (.int (t0 + (1 : Int32))), (.ref b15)])) rfl rfl (hb hby d1_62)
  obtain ⟨f27, hf27⟩ : ∃ g : Nat → Int32, g = fun i => if i = ((t0 + (1 : Int32))).toNatClampNeg then v26 else f15 i := ⟨_, rfl⟩
  have V27 : Ari Z h27 b15 9 f27 := by rw [hf27]; exact Ari.set Ar27 S27 H27 W27 rfl
  have z27 : h27.size = h18.size := W27.size
  have gn28 : n0 ≤ b15 := by omega
  have N27 := Fr.snoc X27 N18 gn28
  have gz29 : h0.size ≤ b15 := by omega
  have K27 : Keep h0 h27 [self] := K18.wr W27 (Or.inr gz29)
  have hK_f27 : ((t0 + (1 : Int32))).toNatClampNeg = n_t0 + 1 := own_k1 b_t0
  have hv_f27 := hv_v26
  rw [hK_f27] at hf27 hv_f27
  have I_f27 : ∀ i, (f27 i).toInt = (fun i => (0 : Int) + own_dl (n_t0 + 1) i) i := own_inc (S := fun i => (0 : Int)) I_f15 (fun i => by show 0 ≤ (0 : Int) ∧ (0 : Int) ≤ 100; omega) hv_f27 hf27
  refine Comes.st st27 ?_
  show Comes p e below _ (T27.setTop (mkF m 63 #[.val (.ref self), .val (.int (8 : Int32)), .val (.ref ta), .val (.ref ha), .val (.int ec), .val (.ref sa), .val (.int (2 : Int32)), .val (.int (0 : Int32)), .unset, .unset] []))
  refine Comes.st (fun t k => XS.aloadN X27.here hx rfl (hb hby d1_63) rfl rfl k) ?_
  show Comes p e below _ (T27.setTop (mkF m 64 #[.val (.ref self), .val (.int (8 : Int32)), .val (.ref ta), .val (.ref ha), .val (.int ec), .val (.ref sa), .val (.int (2 : Int32)), .val (.int (0 : Int32)), .unset, .unset] [(.ref self)]))
  have F30 : Fld Z h27 self "com/example/ordr/ordr/layout/LayerNetwork" "incidentStarts" "[I" (.ref b15) := (Fw18.other W27 (Or.inl (Ne.symm ne23)))
  obtain ⟨T31, X31, e31, st31⟩ := getF X27 hx hZ hown (host := "") (Or.inl (hw _ (List.mem_of_getElem? (i := 18) rfl))) Via.refl e27 F30 (g := (mkF m 64 #[.val (.ref self), .val (.int (8 : Int32)), .val (.ref ta), .val (.ref ha), .val (.int ec), .val (.ref sa), .val (.int (2 : Int32)), .val (.int (0 : Int32)), .unset, .unset] [(.ref self)])) rfl rfl (hb hby d1_64)
  refine Comes.st st31 ?_
  show Comes p e below _ (T31.setTop (mkF m 67 #[.val (.ref self), .val (.int (8 : Int32)), .val (.ref ta), .val (.ref ha), .val (.int ec), .val (.ref sa), .val (.int (2 : Int32)), .val (.int (0 : Int32)), .unset, .unset] [(.ref b15)]))
  refine Comes.st (fun t k => XS.aloadN X31.here hx rfl (hb hby d1_67) rfl rfl (XS.iload X31.here hx rfl (hb hby d1_68) rfl k)) ?_
  show Comes p e below _ (T31.setTop (mkF m 70 #[.val (.ref self), .val (.int (8 : Int32)), .val (.ref ta), .val (.ref ha), .val (.int ec), .val (.ref sa), .val (.int (2 : Int32)), .val (.int (0 : Int32)), .unset, .unset] [(.int (0 : Int32)), (.ref ha), (.ref b15)]))
  have ne32 : ha ≠ b15 := by omega
  have F33 : Arv Z h27 ha kh .int (2 : Int32) [(.int h0_), (.int h1)] (.int (0 : Int32)) := (((((((G14.other W2 G18).other W6 G18).other W9 G18).other W12 G18).ext E15).other W18 G18).other W27 ne32)
  obtain ⟨cl34, Ar34, q34, S34, Ng34, H34, Gf34⟩ := id F33
  have hin34 : ¬ ((0 : Int32) < 0 ∨ cl34.slots.size ≤ ((0 : Int32)).toNatClampNeg) := inb_of S34 ⟨by decide, by decide⟩
  refine Comes.st (fun t k => X31.iaload hx (j := (0 : Int32)) (v := (.int h0_)) (by rw [e31]; exact Ar34.1) (State.isArrayOf_alike hZ.alike Ar34.2.1) Ar34.2.2 hin34 (Has.at H34 hin34 rfl) (g := (mkF m 70 #[.val (.ref self), .val (.int (8 : Int32)), .val (.ref ta), .val (.ref ha), .val (.int ec), .val (.ref sa), .val (.int (2 : Int32)), .val (.int (0 : Int32)), .unset, .unset] [(.int (0 : Int32)), (.ref ha), (.ref b15)])) rfl rfl (hb hby d1_70) _ (XS.iconst X31.here hx rfl (hb hby d1_71) (XS.iadd X31.here hx rfl (hb hby d1_72) rfl (own_dup2 X31 hx rfl (hb hby d1_73) rfl rfl rfl k)))) ?_
  show Comes p e below _ (T31.setTop (mkF m 74 #[.val (.ref self), .val (.int (8 : Int32)), .val (.ref ta), .val (.ref ha), .val (.int ec), .val (.ref sa), .val (.int (2 : Int32)), .val (.int (0 : Int32)), .unset, .unset] [(.int (h0_ + (1 : Int32))), (.ref b15), (.int (h0_ + (1 : Int32))), (.ref b15)]))
  obtain ⟨cl35, Ar35, S35, H35⟩ := id V27
  have hin35 : ¬ ((h0_ + (1 : Int32)) < 0 ∨ cl35.slots.size ≤ ((h0_ + (1 : Int32))).toNatClampNeg) := by rw [S35]; exact own_inb (own_p1 b_h0_)
  refine Comes.st (fun t k => X31.iaload hx (j := (h0_ + (1 : Int32))) (v := (.int (f27 ((h0_ + (1 : Int32))).toNatClampNeg))) (by rw [e31]; exact Ar35.1) (State.isArrayOf_alike hZ.alike Ar35.2.1) Ar35.2.2 hin35 (H35 _ (Nat.lt_of_not_le fun y => hin35 (Or.inr (S35 ▸ y)))) (g := (mkF m 74 #[.val (.ref self), .val (.int (8 : Int32)), .val (.ref ta), .val (.ref ha), .val (.int ec), .val (.ref sa), .val (.int (2 : Int32)), .val (.int (0 : Int32)), .unset, .unset] [(.int (h0_ + (1 : Int32))), (.ref b15), (.int (h0_ + (1 : Int32))), (.ref b15)])) rfl rfl (hb hby d1_74) _ (XS.iconst X31.here hx rfl (hb hby d1_75) (XS.iadd X31.here hx rfl (hb hby d1_76) rfl k))) ?_
  show Comes p e below _ (T31.setTop (mkF m 77 #[.val (.ref self), .val (.int (8 : Int32)), .val (.ref ta), .val (.ref ha), .val (.int ec), .val (.ref sa), .val (.int (2 : Int32)), .val (.int (0 : Int32)), .unset, .unset] [(.int ((f27 ((h0_ + (1 : Int32))).toNatClampNeg) + (1 : Int32))), (.int (h0_ + (1 : Int32))), (.ref b15)]))
  generalize hv_v36 : ((f27 ((h0_ + (1 : Int32))).toNatClampNeg) + (1 : Int32)) = v36
  show Comes p e below _ (T31.setTop (mkF m 77 #[.val (.ref self), .val (.int (8 : Int32)), .val (.ref ta), .val (.ref ha), .val (.int ec), .val (.ref sa), .val (.int (2 : Int32)), .val (.int (0 : Int32)), .unset, .unset] [(.int v36), (.int (h0_ + (1 : Int32))), (.ref b15)]))
  obtain ⟨cl37, Ar37, S37, H37⟩ := id V27
  have hin37 : ¬ ((h0_ + (1 : Int32)) < 0 ∨ cl37.slots.size ≤ ((h0_ + (1 : Int32))).toNatClampNeg) := by rw [S37]; exact own_inb (own_p1 b_h0_)
  obtain ⟨T37, h37, X37, e37, W37, st37⟩ := stI X31 hx hZ e31 Ar37 (j := (h0_ + (1 : Int32))) hin37 (g := (mkF m 77 #[.val (.ref self), .val (.int (8 : Int32)), .val (.ref ta), .val (.ref ha), .val (.int ec), .val (.ref sa), .val (.int (2 : Int32)), .val (.int (0 : Int32)), .unset, .unset] [(.int v36), (.int (h0_ + (1 : Int32))), (.ref b15)])) rfl rfl (hb hby d1_77)
  obtain ⟨f37, hf37⟩ : ∃ g : Nat → Int32, g = fun i => if i = ((h0_ + (1 : Int32))).toNatClampNeg then v36 else f27 i := ⟨_, rfl⟩
  have V37 : Ari Z h37 b15 9 f37 := by rw [hf37]; exact Ari.set Ar37 S37 H37 W37 rfl
  have z37 : h37.size = h27.size := W37.size
  have N37 := Fr.snoc X37 N27 gn28
  have K37 : Keep h0 h37 [self] := K27.wr W37 (Or.inr gz29)
  have hK_f37 : ((h0_ + (1 : Int32))).toNatClampNeg = n_h0_ + 1 := own_k1 b_h0_
  have hv_f37 := hv_v36
  rw [hK_f37] at hf37 hv_f37
  have I_f37 : ∀ i, (f37 i).toInt = (fun i => (0 : Int) + own_dl (n_t0 + 1) i + own_dl (n_h0_ + 1) i) i := own_inc (S := fun i => (0 : Int) + own_dl (n_t0 + 1) i) I_f27 (fun i => by have a0 := own_dlb (n_t0 + 1) i; show 0 ≤ (0 : Int) + own_dl (n_t0 + 1) i ∧ (0 : Int) + own_dl (n_t0 + 1) i ≤ 100; omega) hv_f37 hf37
  refine Comes.st st37 ?_
  show Comes p e below _ (T37.setTop (mkF m 78 #[.val (.ref self), .val (.int (8 : Int32)), .val (.ref ta), .val (.ref ha), .val (.int ec), .val (.ref sa), .val (.int (2 : Int32)), .val (.int (0 : Int32)), .unset, .unset] []))
  refine Comes.st (fun t k => XS.iinc X37.here hx rfl (hb hby d1_78) rfl (l' := #[.val (.ref self), .val (.int (8 : Int32)), .val (.ref ta), .val (.ref ha), .val (.int ec), .val (.ref sa), .val (.int (2 : Int32)), .val (.int (1 : Int32)), .unset, .unset]) rfl (XS.goto X37.here hx rfl (pc0 := 81) (pc' := 41) rfl (hb hby d1_81) (by decide) (by decide) (XS.iload X37.here hx rfl (hb hby d1_41) rfl (XS.iload X37.here hx rfl (hb hby d1_43) rfl k)))) ?_
  show Comes p e below _ (T37.setTop (mkF m 45 #[.val (.ref self), .val (.int (8 : Int32)), .val (.ref ta), .val (.ref ha), .val (.int ec), .val (.ref sa), .val (.int (2 : Int32)), .val (.int (1 : Int32)), .unset, .unset] [(.int (2 : Int32)), (.int (1 : Int32))]))
  have hc45_38 : (1 : Int32) < (2 : Int32) := by decide
  refine Comes.st (fun t k => XS.icmpNo X37.here hx rfl (hb hby d1_45) rfl (tlt hc45_38).2.1 (XS.aloadN X37.here hx rfl (hb hby d1_48) rfl rfl k)) ?_
  show Comes p e below _ (T37.setTop (mkF m 49 #[.val (.ref self), .val (.int (8 : Int32)), .val (.ref ta), .val (.ref ha), .val (.int ec), .val (.ref sa), .val (.int (2 : Int32)), .val (.int (1 : Int32)), .unset, .unset] [(.ref self)]))
  have F39 : Fld Z h37 self "com/example/ordr/ordr/layout/LayerNetwork" "incidentStarts" "[I" (.ref b15) := (F30.other W37 (Or.inl (Ne.symm ne23)))
  obtain ⟨T40, X40, e40, st40⟩ := getF X37 hx hZ hown (host := "") (Or.inl (hw _ (List.mem_of_getElem? (i := 18) rfl))) Via.refl e37 F39 (g := (mkF m 49 #[.val (.ref self), .val (.int (8 : Int32)), .val (.ref ta), .val (.ref ha), .val (.int ec), .val (.ref sa), .val (.int (2 : Int32)), .val (.int (1 : Int32)), .unset, .unset] [(.ref self)])) rfl rfl (hb hby d1_49)
  refine Comes.st st40 ?_
  show Comes p e below _ (T40.setTop (mkF m 52 #[.val (.ref self), .val (.int (8 : Int32)), .val (.ref ta), .val (.ref ha), .val (.int ec), .val (.ref sa), .val (.int (2 : Int32)), .val (.int (1 : Int32)), .unset, .unset] [(.ref b15)]))
  refine Comes.st (fun t k => XS.aloadN X40.here hx rfl (hb hby d1_52) rfl rfl (XS.iload X40.here hx rfl (hb hby d1_53) rfl k)) ?_
  show Comes p e below _ (T40.setTop (mkF m 55 #[.val (.ref self), .val (.int (8 : Int32)), .val (.ref ta), .val (.ref ha), .val (.int ec), .val (.ref sa), .val (.int (2 : Int32)), .val (.int (1 : Int32)), .unset, .unset] [(.int (1 : Int32)), (.ref ta), (.ref b15)]))
  have ne41 : ta ≠ b15 := by omega
  have F42 : Arv Z h37 ta kt .int (2 : Int32) [(.int t0), (.int t1)] (.int (0 : Int32)) := ((F21.other W27 ne41).other W37 ne41)
  obtain ⟨cl43, Ar43, q43, S43, Ng43, H43, Gf43⟩ := id F42
  have hin43 : ¬ ((1 : Int32) < 0 ∨ cl43.slots.size ≤ ((1 : Int32)).toNatClampNeg) := inb_of S43 ⟨by decide, by decide⟩
  refine Comes.st (fun t k => X40.iaload hx (j := (1 : Int32)) (v := (.int t1)) (by rw [e40]; exact Ar43.1) (State.isArrayOf_alike hZ.alike Ar43.2.1) Ar43.2.2 hin43 (Has.at H43 hin43 rfl) (g := (mkF m 55 #[.val (.ref self), .val (.int (8 : Int32)), .val (.ref ta), .val (.ref ha), .val (.int ec), .val (.ref sa), .val (.int (2 : Int32)), .val (.int (1 : Int32)), .unset, .unset] [(.int (1 : Int32)), (.ref ta), (.ref b15)])) rfl rfl (hb hby d1_55) _ (XS.iconst X40.here hx rfl (hb hby d1_56) (XS.iadd X40.here hx rfl (hb hby d1_57) rfl (own_dup2 X40 hx rfl (hb hby d1_58) rfl rfl rfl k)))) ?_
  show Comes p e below _ (T40.setTop (mkF m 59 #[.val (.ref self), .val (.int (8 : Int32)), .val (.ref ta), .val (.ref ha), .val (.int ec), .val (.ref sa), .val (.int (2 : Int32)), .val (.int (1 : Int32)), .unset, .unset] [(.int (t1 + (1 : Int32))), (.ref b15), (.int (t1 + (1 : Int32))), (.ref b15)]))
  obtain ⟨cl44, Ar44, S44, H44⟩ := id V37
  have hin44 : ¬ ((t1 + (1 : Int32)) < 0 ∨ cl44.slots.size ≤ ((t1 + (1 : Int32))).toNatClampNeg) := by rw [S44]; exact own_inb (own_p1 b_t1)
  refine Comes.st (fun t k => X40.iaload hx (j := (t1 + (1 : Int32))) (v := (.int (f37 ((t1 + (1 : Int32))).toNatClampNeg))) (by rw [e40]; exact Ar44.1) (State.isArrayOf_alike hZ.alike Ar44.2.1) Ar44.2.2 hin44 (H44 _ (Nat.lt_of_not_le fun y => hin44 (Or.inr (S44 ▸ y)))) (g := (mkF m 59 #[.val (.ref self), .val (.int (8 : Int32)), .val (.ref ta), .val (.ref ha), .val (.int ec), .val (.ref sa), .val (.int (2 : Int32)), .val (.int (1 : Int32)), .unset, .unset] [(.int (t1 + (1 : Int32))), (.ref b15), (.int (t1 + (1 : Int32))), (.ref b15)])) rfl rfl (hb hby d1_59) _ (XS.iconst X40.here hx rfl (hb hby d1_60) (XS.iadd X40.here hx rfl (hb hby d1_61) rfl k))) ?_
  show Comes p e below _ (T40.setTop (mkF m 62 #[.val (.ref self), .val (.int (8 : Int32)), .val (.ref ta), .val (.ref ha), .val (.int ec), .val (.ref sa), .val (.int (2 : Int32)), .val (.int (1 : Int32)), .unset, .unset] [(.int ((f37 ((t1 + (1 : Int32))).toNatClampNeg) + (1 : Int32))), (.int (t1 + (1 : Int32))), (.ref b15)]))
  generalize hv_v45 : ((f37 ((t1 + (1 : Int32))).toNatClampNeg) + (1 : Int32)) = v45
  show Comes p e below _ (T40.setTop (mkF m 62 #[.val (.ref self), .val (.int (8 : Int32)), .val (.ref ta), .val (.ref ha), .val (.int ec), .val (.ref sa), .val (.int (2 : Int32)), .val (.int (1 : Int32)), .unset, .unset] [(.int v45), (.int (t1 + (1 : Int32))), (.ref b15)]))
  obtain ⟨cl46, Ar46, S46, H46⟩ := id V37
  have hin46 : ¬ ((t1 + (1 : Int32)) < 0 ∨ cl46.slots.size ≤ ((t1 + (1 : Int32))).toNatClampNeg) := by rw [S46]; exact own_inb (own_p1 b_t1)
  obtain ⟨T46, h46, X46, e46, W46, st46⟩ := stI X40 hx hZ e40 Ar46 (j := (t1 + (1 : Int32))) hin46 (g := (mkF m 62 #[.val (.ref self), .val (.int (8 : Int32)), .val (.ref ta), .val (.ref ha), .val (.int ec), .val (.ref sa), .val (.int (2 : Int32)), .val (.int (1 : Int32)), .unset, .unset] [(.int v45), (.int (t1 + (1 : Int32))), (.ref b15)])) rfl rfl (hb hby d1_62)
  obtain ⟨f46, hf46⟩ : ∃ g : Nat → Int32, g = fun i => if i = ((t1 + (1 : Int32))).toNatClampNeg then v45 else f37 i := ⟨_, rfl⟩
  have V46 : Ari Z h46 b15 9 f46 := by rw [hf46]; exact Ari.set Ar46 S46 H46 W46 rfl
  have z46 : h46.size = h37.size := W46.size
  have N46 := Fr.snoc X46 N37 gn28
  have K46 : Keep h0 h46 [self] := K37.wr W46 (Or.inr gz29)
  have hK_f46 : ((t1 + (1 : Int32))).toNatClampNeg = n_t1 + 1 := own_k1 b_t1
  have hv_f46 := hv_v45
  rw [hK_f46] at hf46 hv_f46
  have I_f46 : ∀ i, (f46 i).toInt = (fun i => (0 : Int) + own_dl (n_t0 + 1) i + own_dl (n_h0_ + 1) i + own_dl (n_t1 + 1) i) i := own_inc (S := fun i => (0 : Int) + own_dl (n_t0 + 1) i + own_dl (n_h0_ + 1) i) I_f37 (fun i => by have a0 := own_dlb (n_t0 + 1) i; have a1 := own_dlb (n_h0_ + 1) i; show 0 ≤ (0 : Int) + own_dl (n_t0 + 1) i + own_dl (n_h0_ + 1) i ∧ (0 : Int) + own_dl (n_t0 + 1) i + own_dl (n_h0_ + 1) i ≤ 100; omega) hv_f46 hf46
  refine Comes.st st46 ?_
  show Comes p e below _ (T46.setTop (mkF m 63 #[.val (.ref self), .val (.int (8 : Int32)), .val (.ref ta), .val (.ref ha), .val (.int ec), .val (.ref sa), .val (.int (2 : Int32)), .val (.int (1 : Int32)), .unset, .unset] []))
  refine Comes.st (fun t k => XS.aloadN X46.here hx rfl (hb hby d1_63) rfl rfl k) ?_
  show Comes p e below _ (T46.setTop (mkF m 64 #[.val (.ref self), .val (.int (8 : Int32)), .val (.ref ta), .val (.ref ha), .val (.int ec), .val (.ref sa), .val (.int (2 : Int32)), .val (.int (1 : Int32)), .unset, .unset] [(.ref self)]))
  have F47 : Fld Z h46 self "com/example/ordr/ordr/layout/LayerNetwork" "incidentStarts" "[I" (.ref b15) := (F39.other W46 (Or.inl (Ne.symm ne23)))
  obtain ⟨T48, X48, e48, st48⟩ := getF X46 hx hZ hown (host := "") (Or.inl (hw _ (List.mem_of_getElem? (i := 18) rfl))) Via.refl e46 F47 (g := (mkF m 64 #[.val (.ref self), .val (.int (8 : Int32)), .val (.ref ta), .val (.ref ha), .val (.int ec), .val (.ref sa), .val (.int (2 : Int32)), .val (.int (1 : Int32)), .unset, .unset] [(.ref self)])) rfl rfl (hb hby d1_64)
  refine Comes.st st48 ?_
  show Comes p e below _ (T48.setTop (mkF m 67 #[.val (.ref self), .val (.int (8 : Int32)), .val (.ref ta), .val (.ref ha), .val (.int ec), .val (.ref sa), .val (.int (2 : Int32)), .val (.int (1 : Int32)), .unset, .unset] [(.ref b15)]))
  refine Comes.st (fun t k => XS.aloadN X48.here hx rfl (hb hby d1_67) rfl rfl (XS.iload X48.here hx rfl (hb hby d1_68) rfl k)) ?_
  show Comes p e below _ (T48.setTop (mkF m 70 #[.val (.ref self), .val (.int (8 : Int32)), .val (.ref ta), .val (.ref ha), .val (.int ec), .val (.ref sa), .val (.int (2 : Int32)), .val (.int (1 : Int32)), .unset, .unset] [(.int (1 : Int32)), (.ref ha), (.ref b15)]))
  have F49 : Arv Z h46 ha kh .int (2 : Int32) [(.int h0_), (.int h1)] (.int (0 : Int32)) := ((F33.other W37 ne32).other W46 ne32)
  obtain ⟨cl50, Ar50, q50, S50, Ng50, H50, Gf50⟩ := id F49
  have hin50 : ¬ ((1 : Int32) < 0 ∨ cl50.slots.size ≤ ((1 : Int32)).toNatClampNeg) := inb_of S50 ⟨by decide, by decide⟩
  refine Comes.st (fun t k => X48.iaload hx (j := (1 : Int32)) (v := (.int h1)) (by rw [e48]; exact Ar50.1) (State.isArrayOf_alike hZ.alike Ar50.2.1) Ar50.2.2 hin50 (Has.at H50 hin50 rfl) (g := (mkF m 70 #[.val (.ref self), .val (.int (8 : Int32)), .val (.ref ta), .val (.ref ha), .val (.int ec), .val (.ref sa), .val (.int (2 : Int32)), .val (.int (1 : Int32)), .unset, .unset] [(.int (1 : Int32)), (.ref ha), (.ref b15)])) rfl rfl (hb hby d1_70) _ (XS.iconst X48.here hx rfl (hb hby d1_71) (XS.iadd X48.here hx rfl (hb hby d1_72) rfl (own_dup2 X48 hx rfl (hb hby d1_73) rfl rfl rfl k)))) ?_
  show Comes p e below _ (T48.setTop (mkF m 74 #[.val (.ref self), .val (.int (8 : Int32)), .val (.ref ta), .val (.ref ha), .val (.int ec), .val (.ref sa), .val (.int (2 : Int32)), .val (.int (1 : Int32)), .unset, .unset] [(.int (h1 + (1 : Int32))), (.ref b15), (.int (h1 + (1 : Int32))), (.ref b15)]))
  obtain ⟨cl51, Ar51, S51, H51⟩ := id V46
  have hin51 : ¬ ((h1 + (1 : Int32)) < 0 ∨ cl51.slots.size ≤ ((h1 + (1 : Int32))).toNatClampNeg) := by rw [S51]; exact own_inb (own_p1 b_h1)
  refine Comes.st (fun t k => X48.iaload hx (j := (h1 + (1 : Int32))) (v := (.int (f46 ((h1 + (1 : Int32))).toNatClampNeg))) (by rw [e48]; exact Ar51.1) (State.isArrayOf_alike hZ.alike Ar51.2.1) Ar51.2.2 hin51 (H51 _ (Nat.lt_of_not_le fun y => hin51 (Or.inr (S51 ▸ y)))) (g := (mkF m 74 #[.val (.ref self), .val (.int (8 : Int32)), .val (.ref ta), .val (.ref ha), .val (.int ec), .val (.ref sa), .val (.int (2 : Int32)), .val (.int (1 : Int32)), .unset, .unset] [(.int (h1 + (1 : Int32))), (.ref b15), (.int (h1 + (1 : Int32))), (.ref b15)])) rfl rfl (hb hby d1_74) _ (XS.iconst X48.here hx rfl (hb hby d1_75) (XS.iadd X48.here hx rfl (hb hby d1_76) rfl k))) ?_
  show Comes p e below _ (T48.setTop (mkF m 77 #[.val (.ref self), .val (.int (8 : Int32)), .val (.ref ta), .val (.ref ha), .val (.int ec), .val (.ref sa), .val (.int (2 : Int32)), .val (.int (1 : Int32)), .unset, .unset] [(.int ((f46 ((h1 + (1 : Int32))).toNatClampNeg) + (1 : Int32))), (.int (h1 + (1 : Int32))), (.ref b15)]))
  generalize hv_v52 : ((f46 ((h1 + (1 : Int32))).toNatClampNeg) + (1 : Int32)) = v52
  show Comes p e below _ (T48.setTop (mkF m 77 #[.val (.ref self), .val (.int (8 : Int32)), .val (.ref ta), .val (.ref ha), .val (.int ec), .val (.ref sa), .val (.int (2 : Int32)), .val (.int (1 : Int32)), .unset, .unset] [(.int v52), (.int (h1 + (1 : Int32))), (.ref b15)]))
  obtain ⟨cl53, Ar53, S53, H53⟩ := id V46
  have hin53 : ¬ ((h1 + (1 : Int32)) < 0 ∨ cl53.slots.size ≤ ((h1 + (1 : Int32))).toNatClampNeg) := by rw [S53]; exact own_inb (own_p1 b_h1)
  obtain ⟨T53, h53, X53, e53, W53, st53⟩ := stI X48 hx hZ e48 Ar53 (j := (h1 + (1 : Int32))) hin53 (g := (mkF m 77 #[.val (.ref self), .val (.int (8 : Int32)), .val (.ref ta), .val (.ref ha), .val (.int ec), .val (.ref sa), .val (.int (2 : Int32)), .val (.int (1 : Int32)), .unset, .unset] [(.int v52), (.int (h1 + (1 : Int32))), (.ref b15)])) rfl rfl (hb hby d1_77)
  obtain ⟨f53, hf53⟩ : ∃ g : Nat → Int32, g = fun i => if i = ((h1 + (1 : Int32))).toNatClampNeg then v52 else f46 i := ⟨_, rfl⟩
  have V53 : Ari Z h53 b15 9 f53 := by rw [hf53]; exact Ari.set Ar53 S53 H53 W53 rfl
  have z53 : h53.size = h46.size := W53.size
  have N53 := Fr.snoc X53 N46 gn28
  have K53 : Keep h0 h53 [self] := K46.wr W53 (Or.inr gz29)
  have hK_f53 : ((h1 + (1 : Int32))).toNatClampNeg = n_h1 + 1 := own_k1 b_h1
  have hv_f53 := hv_v52
  rw [hK_f53] at hf53 hv_f53
  have I_f53 : ∀ i, (f53 i).toInt = (fun i => (0 : Int) + own_dl (n_t0 + 1) i + own_dl (n_h0_ + 1) i + own_dl (n_t1 + 1) i + own_dl (n_h1 + 1) i) i := own_inc (S := fun i => (0 : Int) + own_dl (n_t0 + 1) i + own_dl (n_h0_ + 1) i + own_dl (n_t1 + 1) i) I_f46 (fun i => by have a0 := own_dlb (n_t0 + 1) i; have a1 := own_dlb (n_h0_ + 1) i; have a2 := own_dlb (n_t1 + 1) i; show 0 ≤ (0 : Int) + own_dl (n_t0 + 1) i + own_dl (n_h0_ + 1) i + own_dl (n_t1 + 1) i ∧ (0 : Int) + own_dl (n_t0 + 1) i + own_dl (n_h0_ + 1) i + own_dl (n_t1 + 1) i ≤ 100; omega) hv_f53 hf53
  refine Comes.st st53 ?_
  show Comes p e below _ (T53.setTop (mkF m 78 #[.val (.ref self), .val (.int (8 : Int32)), .val (.ref ta), .val (.ref ha), .val (.int ec), .val (.ref sa), .val (.int (2 : Int32)), .val (.int (1 : Int32)), .unset, .unset] []))
  refine Comes.st (fun t k => XS.iinc X53.here hx rfl (hb hby d1_78) rfl (l' := #[.val (.ref self), .val (.int (8 : Int32)), .val (.ref ta), .val (.ref ha), .val (.int ec), .val (.ref sa), .val (.int (2 : Int32)), .val (.int (2 : Int32)), .unset, .unset]) rfl (XS.goto X53.here hx rfl (pc0 := 81) (pc' := 41) rfl (hb hby d1_81) (by decide) (by decide) (XS.iload X53.here hx rfl (hb hby d1_41) rfl (XS.iload X53.here hx rfl (hb hby d1_43) rfl k)))) ?_
  show Comes p e below _ (T53.setTop (mkF m 45 #[.val (.ref self), .val (.int (8 : Int32)), .val (.ref ta), .val (.ref ha), .val (.int ec), .val (.ref sa), .val (.int (2 : Int32)), .val (.int (2 : Int32)), .unset, .unset] [(.int (2 : Int32)), (.int (2 : Int32))]))
  have hc45_54 : ¬ ((2 : Int32) < (2 : Int32)) := by decide
  refine Comes.st (fun t k => XS.icmpYes X53.here hx rfl (pc0 := 45) (pc' := 84) rfl (hb hby d1_45) rfl (flt hc45_54).2.1 (by decide) (by decide) k) ?_
  have Lo_f53 : ∀ i, i ≤ 0 → (f53 i).toInt = (fun i => (0 : Int) + own_lm n_t0 i + own_lm n_h0_ i + own_lm n_t1 i + own_lm n_h1 i) i := by intro i hi; have q : i = 0 := (by omega); subst q; rw [I_f53 0]; simp only [own_dl, own_lm]; have a0 := b_t0; have a1 := b_h0_; have a2 := b_t1; have a3 := b_h1; omega
  have Hi_f53 : ∀ i, 0 < i → (f53 i).toInt = (fun i => (0 : Int) + own_dl (n_t0 + 1) i + own_dl (n_h0_ + 1) i + own_dl (n_t1 + 1) i + own_dl (n_h1 + 1) i) i := fun i _ => I_f53 i
  have hsL : ∀ i, (fun i => (0 : Int) + own_lm n_t0 i + own_lm n_h0_ i + own_lm n_t1 i + own_lm n_h1 i) (i + 1) = (fun i => (0 : Int) + own_lm n_t0 i + own_lm n_h0_ i + own_lm n_t1 i + own_lm n_h1 i) i + (fun i => (0 : Int) + own_dl (n_t0 + 1) i + own_dl (n_h0_ + 1) i + own_dl (n_t1 + 1) i + own_dl (n_h1 + 1) i) (i + 1) := by intro i; have a0 := own_lms n_t0 i; have a1 := own_lms n_h0_ i; have a2 := own_lms n_t1 i; have a3 := own_lms n_h1 i; show (0 : Int) + own_lm n_t0 (i + 1) + own_lm n_h0_ (i + 1) + own_lm n_t1 (i + 1) + own_lm n_h1 (i + 1) = (0 : Int) + own_lm n_t0 i + own_lm n_h0_ i + own_lm n_t1 i + own_lm n_h1 i + ((0 : Int) + own_dl (n_t0 + 1) (i + 1) + own_dl (n_h0_ + 1) (i + 1) + own_dl (n_t1 + 1) (i + 1) + own_dl (n_h1 + 1) (i + 1)); omega
  have hbL : ∀ i, 0 ≤ (fun i => (0 : Int) + own_lm n_t0 i + own_lm n_h0_ i + own_lm n_t1 i + own_lm n_h1 i) i ∧ (fun i => (0 : Int) + own_lm n_t0 i + own_lm n_h0_ i + own_lm n_t1 i + own_lm n_h1 i) i ≤ 100 := by intro i; have a0 := own_lmb n_t0 i; have a1 := own_lmb n_h0_ i; have a2 := own_lmb n_t1 i; have a3 := own_lmb n_h1 i; show 0 ≤ (0 : Int) + own_lm n_t0 i + own_lm n_h0_ i + own_lm n_t1 i + own_lm n_h1 i ∧ (0 : Int) + own_lm n_t0 i + own_lm n_h0_ i + own_lm n_t1 i + own_lm n_h1 i ≤ 100; omega
  have hbD : ∀ i, 0 ≤ (fun i => (0 : Int) + own_dl (n_t0 + 1) i + own_dl (n_h0_ + 1) i + own_dl (n_t1 + 1) i + own_dl (n_h1 + 1) i) i ∧ (fun i => (0 : Int) + own_dl (n_t0 + 1) i + own_dl (n_h0_ + 1) i + own_dl (n_t1 + 1) i + own_dl (n_h1 + 1) i) i ≤ 100 := fun i => by have a0 := own_dlb (n_t0 + 1) i; have a1 := own_dlb (n_h0_ + 1) i; have a2 := own_dlb (n_t1 + 1) i; have a3 := own_dlb (n_h1 + 1) i; show 0 ≤ (0 : Int) + own_dl (n_t0 + 1) i + own_dl (n_h0_ + 1) i + own_dl (n_t1 + 1) i + own_dl (n_h1 + 1) i ∧ (0 : Int) + own_dl (n_t0 + 1) i + own_dl (n_h0_ + 1) i + own_dl (n_t1 + 1) i + own_dl (n_h1 + 1) i ≤ 100; omega
  show Comes p e below _ (T53.setTop (mkF m 84 #[.val (.ref self), .val (.int (8 : Int32)), .val (.ref ta), .val (.ref ha), .val (.int ec), .val (.ref sa), .val (.int (2 : Int32)), .val (.int (2 : Int32)), .unset, .unset] []))
  refine Comes.st (fun t k => XS.iconst X53.here hx rfl (hb hby d1_84) (XS.istore X53.here hx rfl (hb hby d1_85) rfl (l' := #[.val (.ref self), .val (.int (8 : Int32)), .val (.ref ta), .val (.ref ha), .val (.int ec), .val (.ref sa), .val (.int (2 : Int32)), .val (.int (0 : Int32)), .unset, .unset]) rfl (XS.iload X53.here hx rfl (hb hby d1_87) rfl (XS.iloadN X53.here hx rfl (hb hby d1_89) rfl k)))) ?_
  show Comes p e below _ (T53.setTop (mkF m 90 #[.val (.ref self), .val (.int (8 : Int32)), .val (.ref ta), .val (.ref ha), .val (.int ec), .val (.ref sa), .val (.int (2 : Int32)), .val (.int (0 : Int32)), .unset, .unset] [(.int (8 : Int32)), (.int (0 : Int32))]))
  have hc90_55 : (0 : Int32) < (8 : Int32) := by decide
  refine Comes.st (fun t k => XS.icmpNo X53.here hx rfl (hb hby d1_90) rfl (tlt hc90_55).2.1 (XS.aloadN X53.here hx rfl (hb hby d1_93) rfl rfl k)) ?_
  show Comes p e below _ (T53.setTop (mkF m 94 #[.val (.ref self), .val (.int (8 : Int32)), .val (.ref ta), .val (.ref ha), .val (.int ec), .val (.ref sa), .val (.int (2 : Int32)), .val (.int (0 : Int32)), .unset, .unset] [(.ref self)]))
  have F56 : Fld Z h53 self "com/example/ordr/ordr/layout/LayerNetwork" "incidentStarts" "[I" (.ref b15) := (F47.other W53 (Or.inl (Ne.symm ne23)))
  obtain ⟨T57, X57, e57, st57⟩ := getF X53 hx hZ hown (host := "") (Or.inl (hw _ (List.mem_of_getElem? (i := 18) rfl))) Via.refl e53 F56 (g := (mkF m 94 #[.val (.ref self), .val (.int (8 : Int32)), .val (.ref ta), .val (.ref ha), .val (.int ec), .val (.ref sa), .val (.int (2 : Int32)), .val (.int (0 : Int32)), .unset, .unset] [(.ref self)])) rfl rfl (hb hby d1_94)
  refine Comes.st st57 ?_
  show Comes p e below _ (T57.setTop (mkF m 97 #[.val (.ref self), .val (.int (8 : Int32)), .val (.ref ta), .val (.ref ha), .val (.int ec), .val (.ref sa), .val (.int (2 : Int32)), .val (.int (0 : Int32)), .unset, .unset] [(.ref b15)]))
  refine Comes.st (fun t k => XS.iload X57.here hx rfl (hb hby d1_97) rfl (XS.iconst X57.here hx rfl (hb hby d1_99) (XS.iadd X57.here hx rfl (hb hby d1_100) rfl k))) ?_
  show Comes p e below _ (T57.setTop (mkF m 101 #[.val (.ref self), .val (.int (8 : Int32)), .val (.ref ta), .val (.ref ha), .val (.int ec), .val (.ref sa), .val (.int (2 : Int32)), .val (.int (0 : Int32)), .unset, .unset] [(.int ((0 : Int32) + (1 : Int32))), (.ref b15)]))
  rw [show ((0 : Int32) + (1 : Int32)) = (1 : Int32) from by decide]
  show Comes p e below _ (T57.setTop (mkF m 101 #[.val (.ref self), .val (.int (8 : Int32)), .val (.ref ta), .val (.ref ha), .val (.int ec), .val (.ref sa), .val (.int (2 : Int32)), .val (.int (0 : Int32)), .unset, .unset] [(.int (1 : Int32)), (.ref b15)]))
  refine Comes.st (fun t k => own_dup2 X57 hx rfl (hb hby d1_101) rfl rfl rfl k) ?_
  show Comes p e below _ (T57.setTop (mkF m 102 #[.val (.ref self), .val (.int (8 : Int32)), .val (.ref ta), .val (.ref ha), .val (.int ec), .val (.ref sa), .val (.int (2 : Int32)), .val (.int (0 : Int32)), .unset, .unset] [(.int (1 : Int32)), (.ref b15), (.int (1 : Int32)), (.ref b15)]))
  obtain ⟨cl58, Ar58, S58, H58⟩ := id V53
  have hin58 : ¬ ((1 : Int32) < 0 ∨ cl58.slots.size ≤ ((1 : Int32)).toNatClampNeg) := by rw [S58]; decide
  refine Comes.st (fun t k => X57.iaload hx (j := (1 : Int32)) (v := (.int (f53 1))) (by rw [e57]; exact Ar58.1) (State.isArrayOf_alike hZ.alike Ar58.2.1) Ar58.2.2 hin58 (H58 _ (Nat.lt_of_not_le fun y => hin58 (Or.inr (S58 ▸ y)))) (g := (mkF m 102 #[.val (.ref self), .val (.int (8 : Int32)), .val (.ref ta), .val (.ref ha), .val (.int ec), .val (.ref sa), .val (.int (2 : Int32)), .val (.int (0 : Int32)), .unset, .unset] [(.int (1 : Int32)), (.ref b15), (.int (1 : Int32)), (.ref b15)])) rfl rfl (hb hby d1_102) _ (XS.aloadN X57.here hx rfl (hb hby d1_103) rfl rfl k)) ?_
  show Comes p e below _ (T57.setTop (mkF m 104 #[.val (.ref self), .val (.int (8 : Int32)), .val (.ref ta), .val (.ref ha), .val (.int ec), .val (.ref sa), .val (.int (2 : Int32)), .val (.int (0 : Int32)), .unset, .unset] [(.ref self), (.int (f53 1)), (.int (1 : Int32)), (.ref b15)]))
  obtain ⟨T59, X59, e59, st59⟩ := getF X57 hx hZ hown (host := "") (Or.inl (hw _ (List.mem_of_getElem? (i := 18) rfl))) Via.refl e57 F56 (g := (mkF m 104 #[.val (.ref self), .val (.int (8 : Int32)), .val (.ref ta), .val (.ref ha), .val (.int ec), .val (.ref sa), .val (.int (2 : Int32)), .val (.int (0 : Int32)), .unset, .unset] [(.ref self), (.int (f53 1)), (.int (1 : Int32)), (.ref b15)])) rfl rfl (hb hby d1_104)
  refine Comes.st st59 ?_
  show Comes p e below _ (T59.setTop (mkF m 107 #[.val (.ref self), .val (.int (8 : Int32)), .val (.ref ta), .val (.ref ha), .val (.int ec), .val (.ref sa), .val (.int (2 : Int32)), .val (.int (0 : Int32)), .unset, .unset] [(.ref b15), (.int (f53 1)), (.int (1 : Int32)), (.ref b15)]))
  refine Comes.st (fun t k => XS.iload X59.here hx rfl (hb hby d1_107) rfl k) ?_
  show Comes p e below _ (T59.setTop (mkF m 109 #[.val (.ref self), .val (.int (8 : Int32)), .val (.ref ta), .val (.ref ha), .val (.int ec), .val (.ref sa), .val (.int (2 : Int32)), .val (.int (0 : Int32)), .unset, .unset] [(.int (0 : Int32)), (.ref b15), (.int (f53 1)), (.int (1 : Int32)), (.ref b15)]))
  obtain ⟨cl60, Ar60, S60, H60⟩ := id V53
  have hin60 : ¬ ((0 : Int32) < 0 ∨ cl60.slots.size ≤ ((0 : Int32)).toNatClampNeg) := by rw [S60]; decide
  refine Comes.st (fun t k => X59.iaload hx (j := (0 : Int32)) (v := (.int (f53 0))) (by rw [e59]; exact Ar60.1) (State.isArrayOf_alike hZ.alike Ar60.2.1) Ar60.2.2 hin60 (H60 _ (Nat.lt_of_not_le fun y => hin60 (Or.inr (S60 ▸ y)))) (g := (mkF m 109 #[.val (.ref self), .val (.int (8 : Int32)), .val (.ref ta), .val (.ref ha), .val (.int ec), .val (.ref sa), .val (.int (2 : Int32)), .val (.int (0 : Int32)), .unset, .unset] [(.int (0 : Int32)), (.ref b15), (.int (f53 1)), (.int (1 : Int32)), (.ref b15)])) rfl rfl (hb hby d1_109) _ (XS.iadd X59.here hx rfl (hb hby d1_110) rfl k)) ?_
  show Comes p e below _ (T59.setTop (mkF m 111 #[.val (.ref self), .val (.int (8 : Int32)), .val (.ref ta), .val (.ref ha), .val (.int ec), .val (.ref sa), .val (.int (2 : Int32)), .val (.int (0 : Int32)), .unset, .unset] [(.int ((f53 1) + (f53 0))), (.int (1 : Int32)), (.ref b15)]))
  generalize hv_v61 : ((f53 1) + (f53 0)) = v61
  show Comes p e below _ (T59.setTop (mkF m 111 #[.val (.ref self), .val (.int (8 : Int32)), .val (.ref ta), .val (.ref ha), .val (.int ec), .val (.ref sa), .val (.int (2 : Int32)), .val (.int (0 : Int32)), .unset, .unset] [(.int v61), (.int (1 : Int32)), (.ref b15)]))
  obtain ⟨cl62, Ar62, S62, H62⟩ := id V53
  have hin62 : ¬ ((1 : Int32) < 0 ∨ cl62.slots.size ≤ ((1 : Int32)).toNatClampNeg) := by rw [S62]; decide
  obtain ⟨T62, h62, X62, e62, W62, st62⟩ := stI X59 hx hZ e59 Ar62 (j := (1 : Int32)) hin62 (g := (mkF m 111 #[.val (.ref self), .val (.int (8 : Int32)), .val (.ref ta), .val (.ref ha), .val (.int ec), .val (.ref sa), .val (.int (2 : Int32)), .val (.int (0 : Int32)), .unset, .unset] [(.int v61), (.int (1 : Int32)), (.ref b15)])) rfl rfl (hb hby d1_111)
  obtain ⟨f62, hf62⟩ : ∃ g : Nat → Int32, g = fun i => if i = 1 then v61 else f53 i := ⟨_, rfl⟩
  have V62 : Ari Z h62 b15 9 f62 := by rw [hf62]; exact Ari.set Ar62 S62 H62 W62 rfl
  have z62 : h62.size = h53.size := W62.size
  have N62 := Fr.snoc X62 N53 gn28
  have K62 : Keep h0 h62 [self] := K53.wr W62 (Or.inr gz29)
  obtain ⟨Lo_f62, Hi_f62⟩ := own_pre (k := 0) (L := fun i => (0 : Int) + own_lm n_t0 i + own_lm n_h0_ i + own_lm n_t1 i + own_lm n_h1 i) (D := fun i => (0 : Int) + own_dl (n_t0 + 1) i + own_dl (n_h0_ + 1) i + own_dl (n_t1 + 1) i + own_dl (n_h1 + 1) i) Lo_f53 Hi_f53 hsL hbL hbD hv_v61 hf62
  refine Comes.st st62 ?_
  show Comes p e below _ (T62.setTop (mkF m 112 #[.val (.ref self), .val (.int (8 : Int32)), .val (.ref ta), .val (.ref ha), .val (.int ec), .val (.ref sa), .val (.int (2 : Int32)), .val (.int (0 : Int32)), .unset, .unset] []))
  refine Comes.st (fun t k => XS.iinc X62.here hx rfl (hb hby d1_112) rfl (l' := #[.val (.ref self), .val (.int (8 : Int32)), .val (.ref ta), .val (.ref ha), .val (.int ec), .val (.ref sa), .val (.int (2 : Int32)), .val (.int (1 : Int32)), .unset, .unset]) rfl (XS.goto X62.here hx rfl (pc0 := 115) (pc' := 87) rfl (hb hby d1_115) (by decide) (by decide) (XS.iload X62.here hx rfl (hb hby d1_87) rfl (XS.iloadN X62.here hx rfl (hb hby d1_89) rfl k)))) ?_
  show Comes p e below _ (T62.setTop (mkF m 90 #[.val (.ref self), .val (.int (8 : Int32)), .val (.ref ta), .val (.ref ha), .val (.int ec), .val (.ref sa), .val (.int (2 : Int32)), .val (.int (1 : Int32)), .unset, .unset] [(.int (8 : Int32)), (.int (1 : Int32))]))
  have hc90_63 : (1 : Int32) < (8 : Int32) := by decide
  refine Comes.st (fun t k => XS.icmpNo X62.here hx rfl (hb hby d1_90) rfl (tlt hc90_63).2.1 (XS.aloadN X62.here hx rfl (hb hby d1_93) rfl rfl k)) ?_
  show Comes p e below _ (T62.setTop (mkF m 94 #[.val (.ref self), .val (.int (8 : Int32)), .val (.ref ta), .val (.ref ha), .val (.int ec), .val (.ref sa), .val (.int (2 : Int32)), .val (.int (1 : Int32)), .unset, .unset] [(.ref self)]))
  have F64 : Fld Z h62 self "com/example/ordr/ordr/layout/LayerNetwork" "incidentStarts" "[I" (.ref b15) := (F56.other W62 (Or.inl (Ne.symm ne23)))
  obtain ⟨T65, X65, e65, st65⟩ := getF X62 hx hZ hown (host := "") (Or.inl (hw _ (List.mem_of_getElem? (i := 18) rfl))) Via.refl e62 F64 (g := (mkF m 94 #[.val (.ref self), .val (.int (8 : Int32)), .val (.ref ta), .val (.ref ha), .val (.int ec), .val (.ref sa), .val (.int (2 : Int32)), .val (.int (1 : Int32)), .unset, .unset] [(.ref self)])) rfl rfl (hb hby d1_94)
  refine Comes.st st65 ?_
  show Comes p e below _ (T65.setTop (mkF m 97 #[.val (.ref self), .val (.int (8 : Int32)), .val (.ref ta), .val (.ref ha), .val (.int ec), .val (.ref sa), .val (.int (2 : Int32)), .val (.int (1 : Int32)), .unset, .unset] [(.ref b15)]))
  refine Comes.st (fun t k => XS.iload X65.here hx rfl (hb hby d1_97) rfl (XS.iconst X65.here hx rfl (hb hby d1_99) (XS.iadd X65.here hx rfl (hb hby d1_100) rfl k))) ?_
  show Comes p e below _ (T65.setTop (mkF m 101 #[.val (.ref self), .val (.int (8 : Int32)), .val (.ref ta), .val (.ref ha), .val (.int ec), .val (.ref sa), .val (.int (2 : Int32)), .val (.int (1 : Int32)), .unset, .unset] [(.int ((1 : Int32) + (1 : Int32))), (.ref b15)]))
  rw [show ((1 : Int32) + (1 : Int32)) = (2 : Int32) from by decide]
  show Comes p e below _ (T65.setTop (mkF m 101 #[.val (.ref self), .val (.int (8 : Int32)), .val (.ref ta), .val (.ref ha), .val (.int ec), .val (.ref sa), .val (.int (2 : Int32)), .val (.int (1 : Int32)), .unset, .unset] [(.int (2 : Int32)), (.ref b15)]))
  refine Comes.st (fun t k => own_dup2 X65 hx rfl (hb hby d1_101) rfl rfl rfl k) ?_
  show Comes p e below _ (T65.setTop (mkF m 102 #[.val (.ref self), .val (.int (8 : Int32)), .val (.ref ta), .val (.ref ha), .val (.int ec), .val (.ref sa), .val (.int (2 : Int32)), .val (.int (1 : Int32)), .unset, .unset] [(.int (2 : Int32)), (.ref b15), (.int (2 : Int32)), (.ref b15)]))
  obtain ⟨cl66, Ar66, S66, H66⟩ := id V62
  have hin66 : ¬ ((2 : Int32) < 0 ∨ cl66.slots.size ≤ ((2 : Int32)).toNatClampNeg) := by rw [S66]; decide
  refine Comes.st (fun t k => X65.iaload hx (j := (2 : Int32)) (v := (.int (f62 2))) (by rw [e65]; exact Ar66.1) (State.isArrayOf_alike hZ.alike Ar66.2.1) Ar66.2.2 hin66 (H66 _ (Nat.lt_of_not_le fun y => hin66 (Or.inr (S66 ▸ y)))) (g := (mkF m 102 #[.val (.ref self), .val (.int (8 : Int32)), .val (.ref ta), .val (.ref ha), .val (.int ec), .val (.ref sa), .val (.int (2 : Int32)), .val (.int (1 : Int32)), .unset, .unset] [(.int (2 : Int32)), (.ref b15), (.int (2 : Int32)), (.ref b15)])) rfl rfl (hb hby d1_102) _ (XS.aloadN X65.here hx rfl (hb hby d1_103) rfl rfl k)) ?_
  show Comes p e below _ (T65.setTop (mkF m 104 #[.val (.ref self), .val (.int (8 : Int32)), .val (.ref ta), .val (.ref ha), .val (.int ec), .val (.ref sa), .val (.int (2 : Int32)), .val (.int (1 : Int32)), .unset, .unset] [(.ref self), (.int (f62 2)), (.int (2 : Int32)), (.ref b15)]))
  obtain ⟨T67, X67, e67, st67⟩ := getF X65 hx hZ hown (host := "") (Or.inl (hw _ (List.mem_of_getElem? (i := 18) rfl))) Via.refl e65 F64 (g := (mkF m 104 #[.val (.ref self), .val (.int (8 : Int32)), .val (.ref ta), .val (.ref ha), .val (.int ec), .val (.ref sa), .val (.int (2 : Int32)), .val (.int (1 : Int32)), .unset, .unset] [(.ref self), (.int (f62 2)), (.int (2 : Int32)), (.ref b15)])) rfl rfl (hb hby d1_104)
  refine Comes.st st67 ?_
  show Comes p e below _ (T67.setTop (mkF m 107 #[.val (.ref self), .val (.int (8 : Int32)), .val (.ref ta), .val (.ref ha), .val (.int ec), .val (.ref sa), .val (.int (2 : Int32)), .val (.int (1 : Int32)), .unset, .unset] [(.ref b15), (.int (f62 2)), (.int (2 : Int32)), (.ref b15)]))
  refine Comes.st (fun t k => XS.iload X67.here hx rfl (hb hby d1_107) rfl k) ?_
  show Comes p e below _ (T67.setTop (mkF m 109 #[.val (.ref self), .val (.int (8 : Int32)), .val (.ref ta), .val (.ref ha), .val (.int ec), .val (.ref sa), .val (.int (2 : Int32)), .val (.int (1 : Int32)), .unset, .unset] [(.int (1 : Int32)), (.ref b15), (.int (f62 2)), (.int (2 : Int32)), (.ref b15)]))
  obtain ⟨cl68, Ar68, S68, H68⟩ := id V62
  have hin68 : ¬ ((1 : Int32) < 0 ∨ cl68.slots.size ≤ ((1 : Int32)).toNatClampNeg) := by rw [S68]; decide
  refine Comes.st (fun t k => X67.iaload hx (j := (1 : Int32)) (v := (.int (f62 1))) (by rw [e67]; exact Ar68.1) (State.isArrayOf_alike hZ.alike Ar68.2.1) Ar68.2.2 hin68 (H68 _ (Nat.lt_of_not_le fun y => hin68 (Or.inr (S68 ▸ y)))) (g := (mkF m 109 #[.val (.ref self), .val (.int (8 : Int32)), .val (.ref ta), .val (.ref ha), .val (.int ec), .val (.ref sa), .val (.int (2 : Int32)), .val (.int (1 : Int32)), .unset, .unset] [(.int (1 : Int32)), (.ref b15), (.int (f62 2)), (.int (2 : Int32)), (.ref b15)])) rfl rfl (hb hby d1_109) _ (XS.iadd X67.here hx rfl (hb hby d1_110) rfl k)) ?_
  show Comes p e below _ (T67.setTop (mkF m 111 #[.val (.ref self), .val (.int (8 : Int32)), .val (.ref ta), .val (.ref ha), .val (.int ec), .val (.ref sa), .val (.int (2 : Int32)), .val (.int (1 : Int32)), .unset, .unset] [(.int ((f62 2) + (f62 1))), (.int (2 : Int32)), (.ref b15)]))
  generalize hv_v69 : ((f62 2) + (f62 1)) = v69
  show Comes p e below _ (T67.setTop (mkF m 111 #[.val (.ref self), .val (.int (8 : Int32)), .val (.ref ta), .val (.ref ha), .val (.int ec), .val (.ref sa), .val (.int (2 : Int32)), .val (.int (1 : Int32)), .unset, .unset] [(.int v69), (.int (2 : Int32)), (.ref b15)]))
  obtain ⟨cl70, Ar70, S70, H70⟩ := id V62
  have hin70 : ¬ ((2 : Int32) < 0 ∨ cl70.slots.size ≤ ((2 : Int32)).toNatClampNeg) := by rw [S70]; decide
  obtain ⟨T70, h70, X70, e70, W70, st70⟩ := stI X67 hx hZ e67 Ar70 (j := (2 : Int32)) hin70 (g := (mkF m 111 #[.val (.ref self), .val (.int (8 : Int32)), .val (.ref ta), .val (.ref ha), .val (.int ec), .val (.ref sa), .val (.int (2 : Int32)), .val (.int (1 : Int32)), .unset, .unset] [(.int v69), (.int (2 : Int32)), (.ref b15)])) rfl rfl (hb hby d1_111)
  obtain ⟨f70, hf70⟩ : ∃ g : Nat → Int32, g = fun i => if i = 2 then v69 else f62 i := ⟨_, rfl⟩
  have V70 : Ari Z h70 b15 9 f70 := by rw [hf70]; exact Ari.set Ar70 S70 H70 W70 rfl
  have z70 : h70.size = h62.size := W70.size
  have N70 := Fr.snoc X70 N62 gn28
  have K70 : Keep h0 h70 [self] := K62.wr W70 (Or.inr gz29)
  obtain ⟨Lo_f70, Hi_f70⟩ := own_pre (k := 1) (L := fun i => (0 : Int) + own_lm n_t0 i + own_lm n_h0_ i + own_lm n_t1 i + own_lm n_h1 i) (D := fun i => (0 : Int) + own_dl (n_t0 + 1) i + own_dl (n_h0_ + 1) i + own_dl (n_t1 + 1) i + own_dl (n_h1 + 1) i) Lo_f62 Hi_f62 hsL hbL hbD hv_v69 hf70
  refine Comes.st st70 ?_
  show Comes p e below _ (T70.setTop (mkF m 112 #[.val (.ref self), .val (.int (8 : Int32)), .val (.ref ta), .val (.ref ha), .val (.int ec), .val (.ref sa), .val (.int (2 : Int32)), .val (.int (1 : Int32)), .unset, .unset] []))
  refine Comes.st (fun t k => XS.iinc X70.here hx rfl (hb hby d1_112) rfl (l' := #[.val (.ref self), .val (.int (8 : Int32)), .val (.ref ta), .val (.ref ha), .val (.int ec), .val (.ref sa), .val (.int (2 : Int32)), .val (.int (2 : Int32)), .unset, .unset]) rfl (XS.goto X70.here hx rfl (pc0 := 115) (pc' := 87) rfl (hb hby d1_115) (by decide) (by decide) (XS.iload X70.here hx rfl (hb hby d1_87) rfl (XS.iloadN X70.here hx rfl (hb hby d1_89) rfl k)))) ?_
  show Comes p e below _ (T70.setTop (mkF m 90 #[.val (.ref self), .val (.int (8 : Int32)), .val (.ref ta), .val (.ref ha), .val (.int ec), .val (.ref sa), .val (.int (2 : Int32)), .val (.int (2 : Int32)), .unset, .unset] [(.int (8 : Int32)), (.int (2 : Int32))]))
  have hc90_71 : (2 : Int32) < (8 : Int32) := by decide
  refine Comes.st (fun t k => XS.icmpNo X70.here hx rfl (hb hby d1_90) rfl (tlt hc90_71).2.1 (XS.aloadN X70.here hx rfl (hb hby d1_93) rfl rfl k)) ?_
  show Comes p e below _ (T70.setTop (mkF m 94 #[.val (.ref self), .val (.int (8 : Int32)), .val (.ref ta), .val (.ref ha), .val (.int ec), .val (.ref sa), .val (.int (2 : Int32)), .val (.int (2 : Int32)), .unset, .unset] [(.ref self)]))
  have F72 : Fld Z h70 self "com/example/ordr/ordr/layout/LayerNetwork" "incidentStarts" "[I" (.ref b15) := (F64.other W70 (Or.inl (Ne.symm ne23)))
  obtain ⟨T73, X73, e73, st73⟩ := getF X70 hx hZ hown (host := "") (Or.inl (hw _ (List.mem_of_getElem? (i := 18) rfl))) Via.refl e70 F72 (g := (mkF m 94 #[.val (.ref self), .val (.int (8 : Int32)), .val (.ref ta), .val (.ref ha), .val (.int ec), .val (.ref sa), .val (.int (2 : Int32)), .val (.int (2 : Int32)), .unset, .unset] [(.ref self)])) rfl rfl (hb hby d1_94)
  refine Comes.st st73 ?_
  show Comes p e below _ (T73.setTop (mkF m 97 #[.val (.ref self), .val (.int (8 : Int32)), .val (.ref ta), .val (.ref ha), .val (.int ec), .val (.ref sa), .val (.int (2 : Int32)), .val (.int (2 : Int32)), .unset, .unset] [(.ref b15)]))
  refine Comes.st (fun t k => XS.iload X73.here hx rfl (hb hby d1_97) rfl (XS.iconst X73.here hx rfl (hb hby d1_99) (XS.iadd X73.here hx rfl (hb hby d1_100) rfl k))) ?_
  show Comes p e below _ (T73.setTop (mkF m 101 #[.val (.ref self), .val (.int (8 : Int32)), .val (.ref ta), .val (.ref ha), .val (.int ec), .val (.ref sa), .val (.int (2 : Int32)), .val (.int (2 : Int32)), .unset, .unset] [(.int ((2 : Int32) + (1 : Int32))), (.ref b15)]))
  rw [show ((2 : Int32) + (1 : Int32)) = (3 : Int32) from by decide]
  show Comes p e below _ (T73.setTop (mkF m 101 #[.val (.ref self), .val (.int (8 : Int32)), .val (.ref ta), .val (.ref ha), .val (.int ec), .val (.ref sa), .val (.int (2 : Int32)), .val (.int (2 : Int32)), .unset, .unset] [(.int (3 : Int32)), (.ref b15)]))
  refine Comes.st (fun t k => own_dup2 X73 hx rfl (hb hby d1_101) rfl rfl rfl k) ?_
  show Comes p e below _ (T73.setTop (mkF m 102 #[.val (.ref self), .val (.int (8 : Int32)), .val (.ref ta), .val (.ref ha), .val (.int ec), .val (.ref sa), .val (.int (2 : Int32)), .val (.int (2 : Int32)), .unset, .unset] [(.int (3 : Int32)), (.ref b15), (.int (3 : Int32)), (.ref b15)]))
  obtain ⟨cl74, Ar74, S74, H74⟩ := id V70
  have hin74 : ¬ ((3 : Int32) < 0 ∨ cl74.slots.size ≤ ((3 : Int32)).toNatClampNeg) := by rw [S74]; decide
  refine Comes.st (fun t k => X73.iaload hx (j := (3 : Int32)) (v := (.int (f70 3))) (by rw [e73]; exact Ar74.1) (State.isArrayOf_alike hZ.alike Ar74.2.1) Ar74.2.2 hin74 (H74 _ (Nat.lt_of_not_le fun y => hin74 (Or.inr (S74 ▸ y)))) (g := (mkF m 102 #[.val (.ref self), .val (.int (8 : Int32)), .val (.ref ta), .val (.ref ha), .val (.int ec), .val (.ref sa), .val (.int (2 : Int32)), .val (.int (2 : Int32)), .unset, .unset] [(.int (3 : Int32)), (.ref b15), (.int (3 : Int32)), (.ref b15)])) rfl rfl (hb hby d1_102) _ (XS.aloadN X73.here hx rfl (hb hby d1_103) rfl rfl k)) ?_
  show Comes p e below _ (T73.setTop (mkF m 104 #[.val (.ref self), .val (.int (8 : Int32)), .val (.ref ta), .val (.ref ha), .val (.int ec), .val (.ref sa), .val (.int (2 : Int32)), .val (.int (2 : Int32)), .unset, .unset] [(.ref self), (.int (f70 3)), (.int (3 : Int32)), (.ref b15)]))
  obtain ⟨T75, X75, e75, st75⟩ := getF X73 hx hZ hown (host := "") (Or.inl (hw _ (List.mem_of_getElem? (i := 18) rfl))) Via.refl e73 F72 (g := (mkF m 104 #[.val (.ref self), .val (.int (8 : Int32)), .val (.ref ta), .val (.ref ha), .val (.int ec), .val (.ref sa), .val (.int (2 : Int32)), .val (.int (2 : Int32)), .unset, .unset] [(.ref self), (.int (f70 3)), (.int (3 : Int32)), (.ref b15)])) rfl rfl (hb hby d1_104)
  refine Comes.st st75 ?_
  show Comes p e below _ (T75.setTop (mkF m 107 #[.val (.ref self), .val (.int (8 : Int32)), .val (.ref ta), .val (.ref ha), .val (.int ec), .val (.ref sa), .val (.int (2 : Int32)), .val (.int (2 : Int32)), .unset, .unset] [(.ref b15), (.int (f70 3)), (.int (3 : Int32)), (.ref b15)]))
  refine Comes.st (fun t k => XS.iload X75.here hx rfl (hb hby d1_107) rfl k) ?_
  show Comes p e below _ (T75.setTop (mkF m 109 #[.val (.ref self), .val (.int (8 : Int32)), .val (.ref ta), .val (.ref ha), .val (.int ec), .val (.ref sa), .val (.int (2 : Int32)), .val (.int (2 : Int32)), .unset, .unset] [(.int (2 : Int32)), (.ref b15), (.int (f70 3)), (.int (3 : Int32)), (.ref b15)]))
  obtain ⟨cl76, Ar76, S76, H76⟩ := id V70
  have hin76 : ¬ ((2 : Int32) < 0 ∨ cl76.slots.size ≤ ((2 : Int32)).toNatClampNeg) := by rw [S76]; decide
  refine Comes.st (fun t k => X75.iaload hx (j := (2 : Int32)) (v := (.int (f70 2))) (by rw [e75]; exact Ar76.1) (State.isArrayOf_alike hZ.alike Ar76.2.1) Ar76.2.2 hin76 (H76 _ (Nat.lt_of_not_le fun y => hin76 (Or.inr (S76 ▸ y)))) (g := (mkF m 109 #[.val (.ref self), .val (.int (8 : Int32)), .val (.ref ta), .val (.ref ha), .val (.int ec), .val (.ref sa), .val (.int (2 : Int32)), .val (.int (2 : Int32)), .unset, .unset] [(.int (2 : Int32)), (.ref b15), (.int (f70 3)), (.int (3 : Int32)), (.ref b15)])) rfl rfl (hb hby d1_109) _ (XS.iadd X75.here hx rfl (hb hby d1_110) rfl k)) ?_
  show Comes p e below _ (T75.setTop (mkF m 111 #[.val (.ref self), .val (.int (8 : Int32)), .val (.ref ta), .val (.ref ha), .val (.int ec), .val (.ref sa), .val (.int (2 : Int32)), .val (.int (2 : Int32)), .unset, .unset] [(.int ((f70 3) + (f70 2))), (.int (3 : Int32)), (.ref b15)]))
  generalize hv_v77 : ((f70 3) + (f70 2)) = v77
  show Comes p e below _ (T75.setTop (mkF m 111 #[.val (.ref self), .val (.int (8 : Int32)), .val (.ref ta), .val (.ref ha), .val (.int ec), .val (.ref sa), .val (.int (2 : Int32)), .val (.int (2 : Int32)), .unset, .unset] [(.int v77), (.int (3 : Int32)), (.ref b15)]))
  obtain ⟨cl78, Ar78, S78, H78⟩ := id V70
  have hin78 : ¬ ((3 : Int32) < 0 ∨ cl78.slots.size ≤ ((3 : Int32)).toNatClampNeg) := by rw [S78]; decide
  obtain ⟨T78, h78, X78, e78, W78, st78⟩ := stI X75 hx hZ e75 Ar78 (j := (3 : Int32)) hin78 (g := (mkF m 111 #[.val (.ref self), .val (.int (8 : Int32)), .val (.ref ta), .val (.ref ha), .val (.int ec), .val (.ref sa), .val (.int (2 : Int32)), .val (.int (2 : Int32)), .unset, .unset] [(.int v77), (.int (3 : Int32)), (.ref b15)])) rfl rfl (hb hby d1_111)
  obtain ⟨f78, hf78⟩ : ∃ g : Nat → Int32, g = fun i => if i = 3 then v77 else f70 i := ⟨_, rfl⟩
  have V78 : Ari Z h78 b15 9 f78 := by rw [hf78]; exact Ari.set Ar78 S78 H78 W78 rfl
  have z78 : h78.size = h70.size := W78.size
  have N78 := Fr.snoc X78 N70 gn28
  have K78 : Keep h0 h78 [self] := K70.wr W78 (Or.inr gz29)
  obtain ⟨Lo_f78, Hi_f78⟩ := own_pre (k := 2) (L := fun i => (0 : Int) + own_lm n_t0 i + own_lm n_h0_ i + own_lm n_t1 i + own_lm n_h1 i) (D := fun i => (0 : Int) + own_dl (n_t0 + 1) i + own_dl (n_h0_ + 1) i + own_dl (n_t1 + 1) i + own_dl (n_h1 + 1) i) Lo_f70 Hi_f70 hsL hbL hbD hv_v77 hf78
  refine Comes.st st78 ?_
  show Comes p e below _ (T78.setTop (mkF m 112 #[.val (.ref self), .val (.int (8 : Int32)), .val (.ref ta), .val (.ref ha), .val (.int ec), .val (.ref sa), .val (.int (2 : Int32)), .val (.int (2 : Int32)), .unset, .unset] []))
  refine Comes.st (fun t k => XS.iinc X78.here hx rfl (hb hby d1_112) rfl (l' := #[.val (.ref self), .val (.int (8 : Int32)), .val (.ref ta), .val (.ref ha), .val (.int ec), .val (.ref sa), .val (.int (2 : Int32)), .val (.int (3 : Int32)), .unset, .unset]) rfl (XS.goto X78.here hx rfl (pc0 := 115) (pc' := 87) rfl (hb hby d1_115) (by decide) (by decide) (XS.iload X78.here hx rfl (hb hby d1_87) rfl (XS.iloadN X78.here hx rfl (hb hby d1_89) rfl k)))) ?_
  show Comes p e below _ (T78.setTop (mkF m 90 #[.val (.ref self), .val (.int (8 : Int32)), .val (.ref ta), .val (.ref ha), .val (.int ec), .val (.ref sa), .val (.int (2 : Int32)), .val (.int (3 : Int32)), .unset, .unset] [(.int (8 : Int32)), (.int (3 : Int32))]))
  have hc90_79 : (3 : Int32) < (8 : Int32) := by decide
  refine Comes.st (fun t k => XS.icmpNo X78.here hx rfl (hb hby d1_90) rfl (tlt hc90_79).2.1 (XS.aloadN X78.here hx rfl (hb hby d1_93) rfl rfl k)) ?_
  show Comes p e below _ (T78.setTop (mkF m 94 #[.val (.ref self), .val (.int (8 : Int32)), .val (.ref ta), .val (.ref ha), .val (.int ec), .val (.ref sa), .val (.int (2 : Int32)), .val (.int (3 : Int32)), .unset, .unset] [(.ref self)]))
  have F80 : Fld Z h78 self "com/example/ordr/ordr/layout/LayerNetwork" "incidentStarts" "[I" (.ref b15) := (F72.other W78 (Or.inl (Ne.symm ne23)))
  obtain ⟨T81, X81, e81, st81⟩ := getF X78 hx hZ hown (host := "") (Or.inl (hw _ (List.mem_of_getElem? (i := 18) rfl))) Via.refl e78 F80 (g := (mkF m 94 #[.val (.ref self), .val (.int (8 : Int32)), .val (.ref ta), .val (.ref ha), .val (.int ec), .val (.ref sa), .val (.int (2 : Int32)), .val (.int (3 : Int32)), .unset, .unset] [(.ref self)])) rfl rfl (hb hby d1_94)
  refine Comes.st st81 ?_
  show Comes p e below _ (T81.setTop (mkF m 97 #[.val (.ref self), .val (.int (8 : Int32)), .val (.ref ta), .val (.ref ha), .val (.int ec), .val (.ref sa), .val (.int (2 : Int32)), .val (.int (3 : Int32)), .unset, .unset] [(.ref b15)]))
  refine Comes.st (fun t k => XS.iload X81.here hx rfl (hb hby d1_97) rfl (XS.iconst X81.here hx rfl (hb hby d1_99) (XS.iadd X81.here hx rfl (hb hby d1_100) rfl k))) ?_
  show Comes p e below _ (T81.setTop (mkF m 101 #[.val (.ref self), .val (.int (8 : Int32)), .val (.ref ta), .val (.ref ha), .val (.int ec), .val (.ref sa), .val (.int (2 : Int32)), .val (.int (3 : Int32)), .unset, .unset] [(.int ((3 : Int32) + (1 : Int32))), (.ref b15)]))
  rw [show ((3 : Int32) + (1 : Int32)) = (4 : Int32) from by decide]
  show Comes p e below _ (T81.setTop (mkF m 101 #[.val (.ref self), .val (.int (8 : Int32)), .val (.ref ta), .val (.ref ha), .val (.int ec), .val (.ref sa), .val (.int (2 : Int32)), .val (.int (3 : Int32)), .unset, .unset] [(.int (4 : Int32)), (.ref b15)]))
  refine Comes.st (fun t k => own_dup2 X81 hx rfl (hb hby d1_101) rfl rfl rfl k) ?_
  show Comes p e below _ (T81.setTop (mkF m 102 #[.val (.ref self), .val (.int (8 : Int32)), .val (.ref ta), .val (.ref ha), .val (.int ec), .val (.ref sa), .val (.int (2 : Int32)), .val (.int (3 : Int32)), .unset, .unset] [(.int (4 : Int32)), (.ref b15), (.int (4 : Int32)), (.ref b15)]))
  obtain ⟨cl82, Ar82, S82, H82⟩ := id V78
  have hin82 : ¬ ((4 : Int32) < 0 ∨ cl82.slots.size ≤ ((4 : Int32)).toNatClampNeg) := by rw [S82]; decide
  refine Comes.st (fun t k => X81.iaload hx (j := (4 : Int32)) (v := (.int (f78 4))) (by rw [e81]; exact Ar82.1) (State.isArrayOf_alike hZ.alike Ar82.2.1) Ar82.2.2 hin82 (H82 _ (Nat.lt_of_not_le fun y => hin82 (Or.inr (S82 ▸ y)))) (g := (mkF m 102 #[.val (.ref self), .val (.int (8 : Int32)), .val (.ref ta), .val (.ref ha), .val (.int ec), .val (.ref sa), .val (.int (2 : Int32)), .val (.int (3 : Int32)), .unset, .unset] [(.int (4 : Int32)), (.ref b15), (.int (4 : Int32)), (.ref b15)])) rfl rfl (hb hby d1_102) _ (XS.aloadN X81.here hx rfl (hb hby d1_103) rfl rfl k)) ?_
  show Comes p e below _ (T81.setTop (mkF m 104 #[.val (.ref self), .val (.int (8 : Int32)), .val (.ref ta), .val (.ref ha), .val (.int ec), .val (.ref sa), .val (.int (2 : Int32)), .val (.int (3 : Int32)), .unset, .unset] [(.ref self), (.int (f78 4)), (.int (4 : Int32)), (.ref b15)]))
  obtain ⟨T83, X83, e83, st83⟩ := getF X81 hx hZ hown (host := "") (Or.inl (hw _ (List.mem_of_getElem? (i := 18) rfl))) Via.refl e81 F80 (g := (mkF m 104 #[.val (.ref self), .val (.int (8 : Int32)), .val (.ref ta), .val (.ref ha), .val (.int ec), .val (.ref sa), .val (.int (2 : Int32)), .val (.int (3 : Int32)), .unset, .unset] [(.ref self), (.int (f78 4)), (.int (4 : Int32)), (.ref b15)])) rfl rfl (hb hby d1_104)
  refine Comes.st st83 ?_
  show Comes p e below _ (T83.setTop (mkF m 107 #[.val (.ref self), .val (.int (8 : Int32)), .val (.ref ta), .val (.ref ha), .val (.int ec), .val (.ref sa), .val (.int (2 : Int32)), .val (.int (3 : Int32)), .unset, .unset] [(.ref b15), (.int (f78 4)), (.int (4 : Int32)), (.ref b15)]))
  refine Comes.st (fun t k => XS.iload X83.here hx rfl (hb hby d1_107) rfl k) ?_
  show Comes p e below _ (T83.setTop (mkF m 109 #[.val (.ref self), .val (.int (8 : Int32)), .val (.ref ta), .val (.ref ha), .val (.int ec), .val (.ref sa), .val (.int (2 : Int32)), .val (.int (3 : Int32)), .unset, .unset] [(.int (3 : Int32)), (.ref b15), (.int (f78 4)), (.int (4 : Int32)), (.ref b15)]))
  obtain ⟨cl84, Ar84, S84, H84⟩ := id V78
  have hin84 : ¬ ((3 : Int32) < 0 ∨ cl84.slots.size ≤ ((3 : Int32)).toNatClampNeg) := by rw [S84]; decide
  refine Comes.st (fun t k => X83.iaload hx (j := (3 : Int32)) (v := (.int (f78 3))) (by rw [e83]; exact Ar84.1) (State.isArrayOf_alike hZ.alike Ar84.2.1) Ar84.2.2 hin84 (H84 _ (Nat.lt_of_not_le fun y => hin84 (Or.inr (S84 ▸ y)))) (g := (mkF m 109 #[.val (.ref self), .val (.int (8 : Int32)), .val (.ref ta), .val (.ref ha), .val (.int ec), .val (.ref sa), .val (.int (2 : Int32)), .val (.int (3 : Int32)), .unset, .unset] [(.int (3 : Int32)), (.ref b15), (.int (f78 4)), (.int (4 : Int32)), (.ref b15)])) rfl rfl (hb hby d1_109) _ (XS.iadd X83.here hx rfl (hb hby d1_110) rfl k)) ?_
  show Comes p e below _ (T83.setTop (mkF m 111 #[.val (.ref self), .val (.int (8 : Int32)), .val (.ref ta), .val (.ref ha), .val (.int ec), .val (.ref sa), .val (.int (2 : Int32)), .val (.int (3 : Int32)), .unset, .unset] [(.int ((f78 4) + (f78 3))), (.int (4 : Int32)), (.ref b15)]))
  generalize hv_v85 : ((f78 4) + (f78 3)) = v85
  show Comes p e below _ (T83.setTop (mkF m 111 #[.val (.ref self), .val (.int (8 : Int32)), .val (.ref ta), .val (.ref ha), .val (.int ec), .val (.ref sa), .val (.int (2 : Int32)), .val (.int (3 : Int32)), .unset, .unset] [(.int v85), (.int (4 : Int32)), (.ref b15)]))
  obtain ⟨cl86, Ar86, S86, H86⟩ := id V78
  have hin86 : ¬ ((4 : Int32) < 0 ∨ cl86.slots.size ≤ ((4 : Int32)).toNatClampNeg) := by rw [S86]; decide
  obtain ⟨T86, h86, X86, e86, W86, st86⟩ := stI X83 hx hZ e83 Ar86 (j := (4 : Int32)) hin86 (g := (mkF m 111 #[.val (.ref self), .val (.int (8 : Int32)), .val (.ref ta), .val (.ref ha), .val (.int ec), .val (.ref sa), .val (.int (2 : Int32)), .val (.int (3 : Int32)), .unset, .unset] [(.int v85), (.int (4 : Int32)), (.ref b15)])) rfl rfl (hb hby d1_111)
  obtain ⟨f86, hf86⟩ : ∃ g : Nat → Int32, g = fun i => if i = 4 then v85 else f78 i := ⟨_, rfl⟩
  have V86 : Ari Z h86 b15 9 f86 := by rw [hf86]; exact Ari.set Ar86 S86 H86 W86 rfl
  have z86 : h86.size = h78.size := W86.size
  have N86 := Fr.snoc X86 N78 gn28
  have K86 : Keep h0 h86 [self] := K78.wr W86 (Or.inr gz29)
  obtain ⟨Lo_f86, Hi_f86⟩ := own_pre (k := 3) (L := fun i => (0 : Int) + own_lm n_t0 i + own_lm n_h0_ i + own_lm n_t1 i + own_lm n_h1 i) (D := fun i => (0 : Int) + own_dl (n_t0 + 1) i + own_dl (n_h0_ + 1) i + own_dl (n_t1 + 1) i + own_dl (n_h1 + 1) i) Lo_f78 Hi_f78 hsL hbL hbD hv_v85 hf86
  refine Comes.st st86 ?_
  show Comes p e below _ (T86.setTop (mkF m 112 #[.val (.ref self), .val (.int (8 : Int32)), .val (.ref ta), .val (.ref ha), .val (.int ec), .val (.ref sa), .val (.int (2 : Int32)), .val (.int (3 : Int32)), .unset, .unset] []))
  refine Comes.st (fun t k => XS.iinc X86.here hx rfl (hb hby d1_112) rfl (l' := #[.val (.ref self), .val (.int (8 : Int32)), .val (.ref ta), .val (.ref ha), .val (.int ec), .val (.ref sa), .val (.int (2 : Int32)), .val (.int (4 : Int32)), .unset, .unset]) rfl (XS.goto X86.here hx rfl (pc0 := 115) (pc' := 87) rfl (hb hby d1_115) (by decide) (by decide) (XS.iload X86.here hx rfl (hb hby d1_87) rfl (XS.iloadN X86.here hx rfl (hb hby d1_89) rfl k)))) ?_
  show Comes p e below _ (T86.setTop (mkF m 90 #[.val (.ref self), .val (.int (8 : Int32)), .val (.ref ta), .val (.ref ha), .val (.int ec), .val (.ref sa), .val (.int (2 : Int32)), .val (.int (4 : Int32)), .unset, .unset] [(.int (8 : Int32)), (.int (4 : Int32))]))
  have hc90_87 : (4 : Int32) < (8 : Int32) := by decide
  refine Comes.st (fun t k => XS.icmpNo X86.here hx rfl (hb hby d1_90) rfl (tlt hc90_87).2.1 (XS.aloadN X86.here hx rfl (hb hby d1_93) rfl rfl k)) ?_
  show Comes p e below _ (T86.setTop (mkF m 94 #[.val (.ref self), .val (.int (8 : Int32)), .val (.ref ta), .val (.ref ha), .val (.int ec), .val (.ref sa), .val (.int (2 : Int32)), .val (.int (4 : Int32)), .unset, .unset] [(.ref self)]))
  have F88 : Fld Z h86 self "com/example/ordr/ordr/layout/LayerNetwork" "incidentStarts" "[I" (.ref b15) := (F80.other W86 (Or.inl (Ne.symm ne23)))
  obtain ⟨T89, X89, e89, st89⟩ := getF X86 hx hZ hown (host := "") (Or.inl (hw _ (List.mem_of_getElem? (i := 18) rfl))) Via.refl e86 F88 (g := (mkF m 94 #[.val (.ref self), .val (.int (8 : Int32)), .val (.ref ta), .val (.ref ha), .val (.int ec), .val (.ref sa), .val (.int (2 : Int32)), .val (.int (4 : Int32)), .unset, .unset] [(.ref self)])) rfl rfl (hb hby d1_94)
  refine Comes.st st89 ?_
  show Comes p e below _ (T89.setTop (mkF m 97 #[.val (.ref self), .val (.int (8 : Int32)), .val (.ref ta), .val (.ref ha), .val (.int ec), .val (.ref sa), .val (.int (2 : Int32)), .val (.int (4 : Int32)), .unset, .unset] [(.ref b15)]))
  refine Comes.st (fun t k => XS.iload X89.here hx rfl (hb hby d1_97) rfl (XS.iconst X89.here hx rfl (hb hby d1_99) (XS.iadd X89.here hx rfl (hb hby d1_100) rfl k))) ?_
  show Comes p e below _ (T89.setTop (mkF m 101 #[.val (.ref self), .val (.int (8 : Int32)), .val (.ref ta), .val (.ref ha), .val (.int ec), .val (.ref sa), .val (.int (2 : Int32)), .val (.int (4 : Int32)), .unset, .unset] [(.int ((4 : Int32) + (1 : Int32))), (.ref b15)]))
  rw [show ((4 : Int32) + (1 : Int32)) = (5 : Int32) from by decide]
  show Comes p e below _ (T89.setTop (mkF m 101 #[.val (.ref self), .val (.int (8 : Int32)), .val (.ref ta), .val (.ref ha), .val (.int ec), .val (.ref sa), .val (.int (2 : Int32)), .val (.int (4 : Int32)), .unset, .unset] [(.int (5 : Int32)), (.ref b15)]))
  refine Comes.st (fun t k => own_dup2 X89 hx rfl (hb hby d1_101) rfl rfl rfl k) ?_
  show Comes p e below _ (T89.setTop (mkF m 102 #[.val (.ref self), .val (.int (8 : Int32)), .val (.ref ta), .val (.ref ha), .val (.int ec), .val (.ref sa), .val (.int (2 : Int32)), .val (.int (4 : Int32)), .unset, .unset] [(.int (5 : Int32)), (.ref b15), (.int (5 : Int32)), (.ref b15)]))
  obtain ⟨cl90, Ar90, S90, H90⟩ := id V86
  have hin90 : ¬ ((5 : Int32) < 0 ∨ cl90.slots.size ≤ ((5 : Int32)).toNatClampNeg) := by rw [S90]; decide
  refine Comes.st (fun t k => X89.iaload hx (j := (5 : Int32)) (v := (.int (f86 5))) (by rw [e89]; exact Ar90.1) (State.isArrayOf_alike hZ.alike Ar90.2.1) Ar90.2.2 hin90 (H90 _ (Nat.lt_of_not_le fun y => hin90 (Or.inr (S90 ▸ y)))) (g := (mkF m 102 #[.val (.ref self), .val (.int (8 : Int32)), .val (.ref ta), .val (.ref ha), .val (.int ec), .val (.ref sa), .val (.int (2 : Int32)), .val (.int (4 : Int32)), .unset, .unset] [(.int (5 : Int32)), (.ref b15), (.int (5 : Int32)), (.ref b15)])) rfl rfl (hb hby d1_102) _ (XS.aloadN X89.here hx rfl (hb hby d1_103) rfl rfl k)) ?_
  show Comes p e below _ (T89.setTop (mkF m 104 #[.val (.ref self), .val (.int (8 : Int32)), .val (.ref ta), .val (.ref ha), .val (.int ec), .val (.ref sa), .val (.int (2 : Int32)), .val (.int (4 : Int32)), .unset, .unset] [(.ref self), (.int (f86 5)), (.int (5 : Int32)), (.ref b15)]))
  obtain ⟨T91, X91, e91, st91⟩ := getF X89 hx hZ hown (host := "") (Or.inl (hw _ (List.mem_of_getElem? (i := 18) rfl))) Via.refl e89 F88 (g := (mkF m 104 #[.val (.ref self), .val (.int (8 : Int32)), .val (.ref ta), .val (.ref ha), .val (.int ec), .val (.ref sa), .val (.int (2 : Int32)), .val (.int (4 : Int32)), .unset, .unset] [(.ref self), (.int (f86 5)), (.int (5 : Int32)), (.ref b15)])) rfl rfl (hb hby d1_104)
  refine Comes.st st91 ?_
  show Comes p e below _ (T91.setTop (mkF m 107 #[.val (.ref self), .val (.int (8 : Int32)), .val (.ref ta), .val (.ref ha), .val (.int ec), .val (.ref sa), .val (.int (2 : Int32)), .val (.int (4 : Int32)), .unset, .unset] [(.ref b15), (.int (f86 5)), (.int (5 : Int32)), (.ref b15)]))
  refine Comes.st (fun t k => XS.iload X91.here hx rfl (hb hby d1_107) rfl k) ?_
  show Comes p e below _ (T91.setTop (mkF m 109 #[.val (.ref self), .val (.int (8 : Int32)), .val (.ref ta), .val (.ref ha), .val (.int ec), .val (.ref sa), .val (.int (2 : Int32)), .val (.int (4 : Int32)), .unset, .unset] [(.int (4 : Int32)), (.ref b15), (.int (f86 5)), (.int (5 : Int32)), (.ref b15)]))
  obtain ⟨cl92, Ar92, S92, H92⟩ := id V86
  have hin92 : ¬ ((4 : Int32) < 0 ∨ cl92.slots.size ≤ ((4 : Int32)).toNatClampNeg) := by rw [S92]; decide
  refine Comes.st (fun t k => X91.iaload hx (j := (4 : Int32)) (v := (.int (f86 4))) (by rw [e91]; exact Ar92.1) (State.isArrayOf_alike hZ.alike Ar92.2.1) Ar92.2.2 hin92 (H92 _ (Nat.lt_of_not_le fun y => hin92 (Or.inr (S92 ▸ y)))) (g := (mkF m 109 #[.val (.ref self), .val (.int (8 : Int32)), .val (.ref ta), .val (.ref ha), .val (.int ec), .val (.ref sa), .val (.int (2 : Int32)), .val (.int (4 : Int32)), .unset, .unset] [(.int (4 : Int32)), (.ref b15), (.int (f86 5)), (.int (5 : Int32)), (.ref b15)])) rfl rfl (hb hby d1_109) _ (XS.iadd X91.here hx rfl (hb hby d1_110) rfl k)) ?_
  show Comes p e below _ (T91.setTop (mkF m 111 #[.val (.ref self), .val (.int (8 : Int32)), .val (.ref ta), .val (.ref ha), .val (.int ec), .val (.ref sa), .val (.int (2 : Int32)), .val (.int (4 : Int32)), .unset, .unset] [(.int ((f86 5) + (f86 4))), (.int (5 : Int32)), (.ref b15)]))
  generalize hv_v93 : ((f86 5) + (f86 4)) = v93
  show Comes p e below _ (T91.setTop (mkF m 111 #[.val (.ref self), .val (.int (8 : Int32)), .val (.ref ta), .val (.ref ha), .val (.int ec), .val (.ref sa), .val (.int (2 : Int32)), .val (.int (4 : Int32)), .unset, .unset] [(.int v93), (.int (5 : Int32)), (.ref b15)]))
  obtain ⟨cl94, Ar94, S94, H94⟩ := id V86
  have hin94 : ¬ ((5 : Int32) < 0 ∨ cl94.slots.size ≤ ((5 : Int32)).toNatClampNeg) := by rw [S94]; decide
  obtain ⟨T94, h94, X94, e94, W94, st94⟩ := stI X91 hx hZ e91 Ar94 (j := (5 : Int32)) hin94 (g := (mkF m 111 #[.val (.ref self), .val (.int (8 : Int32)), .val (.ref ta), .val (.ref ha), .val (.int ec), .val (.ref sa), .val (.int (2 : Int32)), .val (.int (4 : Int32)), .unset, .unset] [(.int v93), (.int (5 : Int32)), (.ref b15)])) rfl rfl (hb hby d1_111)
  obtain ⟨f94, hf94⟩ : ∃ g : Nat → Int32, g = fun i => if i = 5 then v93 else f86 i := ⟨_, rfl⟩
  have V94 : Ari Z h94 b15 9 f94 := by rw [hf94]; exact Ari.set Ar94 S94 H94 W94 rfl
  have z94 : h94.size = h86.size := W94.size
  have N94 := Fr.snoc X94 N86 gn28
  have K94 : Keep h0 h94 [self] := K86.wr W94 (Or.inr gz29)
  obtain ⟨Lo_f94, Hi_f94⟩ := own_pre (k := 4) (L := fun i => (0 : Int) + own_lm n_t0 i + own_lm n_h0_ i + own_lm n_t1 i + own_lm n_h1 i) (D := fun i => (0 : Int) + own_dl (n_t0 + 1) i + own_dl (n_h0_ + 1) i + own_dl (n_t1 + 1) i + own_dl (n_h1 + 1) i) Lo_f86 Hi_f86 hsL hbL hbD hv_v93 hf94
  refine Comes.st st94 ?_
  show Comes p e below _ (T94.setTop (mkF m 112 #[.val (.ref self), .val (.int (8 : Int32)), .val (.ref ta), .val (.ref ha), .val (.int ec), .val (.ref sa), .val (.int (2 : Int32)), .val (.int (4 : Int32)), .unset, .unset] []))
  refine Comes.st (fun t k => XS.iinc X94.here hx rfl (hb hby d1_112) rfl (l' := #[.val (.ref self), .val (.int (8 : Int32)), .val (.ref ta), .val (.ref ha), .val (.int ec), .val (.ref sa), .val (.int (2 : Int32)), .val (.int (5 : Int32)), .unset, .unset]) rfl (XS.goto X94.here hx rfl (pc0 := 115) (pc' := 87) rfl (hb hby d1_115) (by decide) (by decide) (XS.iload X94.here hx rfl (hb hby d1_87) rfl (XS.iloadN X94.here hx rfl (hb hby d1_89) rfl k)))) ?_
  show Comes p e below _ (T94.setTop (mkF m 90 #[.val (.ref self), .val (.int (8 : Int32)), .val (.ref ta), .val (.ref ha), .val (.int ec), .val (.ref sa), .val (.int (2 : Int32)), .val (.int (5 : Int32)), .unset, .unset] [(.int (8 : Int32)), (.int (5 : Int32))]))
  have hc90_95 : (5 : Int32) < (8 : Int32) := by decide
  refine Comes.st (fun t k => XS.icmpNo X94.here hx rfl (hb hby d1_90) rfl (tlt hc90_95).2.1 (XS.aloadN X94.here hx rfl (hb hby d1_93) rfl rfl k)) ?_
  show Comes p e below _ (T94.setTop (mkF m 94 #[.val (.ref self), .val (.int (8 : Int32)), .val (.ref ta), .val (.ref ha), .val (.int ec), .val (.ref sa), .val (.int (2 : Int32)), .val (.int (5 : Int32)), .unset, .unset] [(.ref self)]))
  have F96 : Fld Z h94 self "com/example/ordr/ordr/layout/LayerNetwork" "incidentStarts" "[I" (.ref b15) := (F88.other W94 (Or.inl (Ne.symm ne23)))
  obtain ⟨T97, X97, e97, st97⟩ := getF X94 hx hZ hown (host := "") (Or.inl (hw _ (List.mem_of_getElem? (i := 18) rfl))) Via.refl e94 F96 (g := (mkF m 94 #[.val (.ref self), .val (.int (8 : Int32)), .val (.ref ta), .val (.ref ha), .val (.int ec), .val (.ref sa), .val (.int (2 : Int32)), .val (.int (5 : Int32)), .unset, .unset] [(.ref self)])) rfl rfl (hb hby d1_94)
  refine Comes.st st97 ?_
  show Comes p e below _ (T97.setTop (mkF m 97 #[.val (.ref self), .val (.int (8 : Int32)), .val (.ref ta), .val (.ref ha), .val (.int ec), .val (.ref sa), .val (.int (2 : Int32)), .val (.int (5 : Int32)), .unset, .unset] [(.ref b15)]))
  refine Comes.st (fun t k => XS.iload X97.here hx rfl (hb hby d1_97) rfl (XS.iconst X97.here hx rfl (hb hby d1_99) (XS.iadd X97.here hx rfl (hb hby d1_100) rfl k))) ?_
  show Comes p e below _ (T97.setTop (mkF m 101 #[.val (.ref self), .val (.int (8 : Int32)), .val (.ref ta), .val (.ref ha), .val (.int ec), .val (.ref sa), .val (.int (2 : Int32)), .val (.int (5 : Int32)), .unset, .unset] [(.int ((5 : Int32) + (1 : Int32))), (.ref b15)]))
  rw [show ((5 : Int32) + (1 : Int32)) = (6 : Int32) from by decide]
  show Comes p e below _ (T97.setTop (mkF m 101 #[.val (.ref self), .val (.int (8 : Int32)), .val (.ref ta), .val (.ref ha), .val (.int ec), .val (.ref sa), .val (.int (2 : Int32)), .val (.int (5 : Int32)), .unset, .unset] [(.int (6 : Int32)), (.ref b15)]))
  refine Comes.st (fun t k => own_dup2 X97 hx rfl (hb hby d1_101) rfl rfl rfl k) ?_
  show Comes p e below _ (T97.setTop (mkF m 102 #[.val (.ref self), .val (.int (8 : Int32)), .val (.ref ta), .val (.ref ha), .val (.int ec), .val (.ref sa), .val (.int (2 : Int32)), .val (.int (5 : Int32)), .unset, .unset] [(.int (6 : Int32)), (.ref b15), (.int (6 : Int32)), (.ref b15)]))
  obtain ⟨cl98, Ar98, S98, H98⟩ := id V94
  have hin98 : ¬ ((6 : Int32) < 0 ∨ cl98.slots.size ≤ ((6 : Int32)).toNatClampNeg) := by rw [S98]; decide
  refine Comes.st (fun t k => X97.iaload hx (j := (6 : Int32)) (v := (.int (f94 6))) (by rw [e97]; exact Ar98.1) (State.isArrayOf_alike hZ.alike Ar98.2.1) Ar98.2.2 hin98 (H98 _ (Nat.lt_of_not_le fun y => hin98 (Or.inr (S98 ▸ y)))) (g := (mkF m 102 #[.val (.ref self), .val (.int (8 : Int32)), .val (.ref ta), .val (.ref ha), .val (.int ec), .val (.ref sa), .val (.int (2 : Int32)), .val (.int (5 : Int32)), .unset, .unset] [(.int (6 : Int32)), (.ref b15), (.int (6 : Int32)), (.ref b15)])) rfl rfl (hb hby d1_102) _ (XS.aloadN X97.here hx rfl (hb hby d1_103) rfl rfl k)) ?_
  show Comes p e below _ (T97.setTop (mkF m 104 #[.val (.ref self), .val (.int (8 : Int32)), .val (.ref ta), .val (.ref ha), .val (.int ec), .val (.ref sa), .val (.int (2 : Int32)), .val (.int (5 : Int32)), .unset, .unset] [(.ref self), (.int (f94 6)), (.int (6 : Int32)), (.ref b15)]))
  obtain ⟨T99, X99, e99, st99⟩ := getF X97 hx hZ hown (host := "") (Or.inl (hw _ (List.mem_of_getElem? (i := 18) rfl))) Via.refl e97 F96 (g := (mkF m 104 #[.val (.ref self), .val (.int (8 : Int32)), .val (.ref ta), .val (.ref ha), .val (.int ec), .val (.ref sa), .val (.int (2 : Int32)), .val (.int (5 : Int32)), .unset, .unset] [(.ref self), (.int (f94 6)), (.int (6 : Int32)), (.ref b15)])) rfl rfl (hb hby d1_104)
  refine Comes.st st99 ?_
  show Comes p e below _ (T99.setTop (mkF m 107 #[.val (.ref self), .val (.int (8 : Int32)), .val (.ref ta), .val (.ref ha), .val (.int ec), .val (.ref sa), .val (.int (2 : Int32)), .val (.int (5 : Int32)), .unset, .unset] [(.ref b15), (.int (f94 6)), (.int (6 : Int32)), (.ref b15)]))
  refine Comes.st (fun t k => XS.iload X99.here hx rfl (hb hby d1_107) rfl k) ?_
  show Comes p e below _ (T99.setTop (mkF m 109 #[.val (.ref self), .val (.int (8 : Int32)), .val (.ref ta), .val (.ref ha), .val (.int ec), .val (.ref sa), .val (.int (2 : Int32)), .val (.int (5 : Int32)), .unset, .unset] [(.int (5 : Int32)), (.ref b15), (.int (f94 6)), (.int (6 : Int32)), (.ref b15)]))
  obtain ⟨cl100, Ar100, S100, H100⟩ := id V94
  have hin100 : ¬ ((5 : Int32) < 0 ∨ cl100.slots.size ≤ ((5 : Int32)).toNatClampNeg) := by rw [S100]; decide
  refine Comes.st (fun t k => X99.iaload hx (j := (5 : Int32)) (v := (.int (f94 5))) (by rw [e99]; exact Ar100.1) (State.isArrayOf_alike hZ.alike Ar100.2.1) Ar100.2.2 hin100 (H100 _ (Nat.lt_of_not_le fun y => hin100 (Or.inr (S100 ▸ y)))) (g := (mkF m 109 #[.val (.ref self), .val (.int (8 : Int32)), .val (.ref ta), .val (.ref ha), .val (.int ec), .val (.ref sa), .val (.int (2 : Int32)), .val (.int (5 : Int32)), .unset, .unset] [(.int (5 : Int32)), (.ref b15), (.int (f94 6)), (.int (6 : Int32)), (.ref b15)])) rfl rfl (hb hby d1_109) _ (XS.iadd X99.here hx rfl (hb hby d1_110) rfl k)) ?_
  show Comes p e below _ (T99.setTop (mkF m 111 #[.val (.ref self), .val (.int (8 : Int32)), .val (.ref ta), .val (.ref ha), .val (.int ec), .val (.ref sa), .val (.int (2 : Int32)), .val (.int (5 : Int32)), .unset, .unset] [(.int ((f94 6) + (f94 5))), (.int (6 : Int32)), (.ref b15)]))
  generalize hv_v101 : ((f94 6) + (f94 5)) = v101
  show Comes p e below _ (T99.setTop (mkF m 111 #[.val (.ref self), .val (.int (8 : Int32)), .val (.ref ta), .val (.ref ha), .val (.int ec), .val (.ref sa), .val (.int (2 : Int32)), .val (.int (5 : Int32)), .unset, .unset] [(.int v101), (.int (6 : Int32)), (.ref b15)]))
  obtain ⟨cl102, Ar102, S102, H102⟩ := id V94
  have hin102 : ¬ ((6 : Int32) < 0 ∨ cl102.slots.size ≤ ((6 : Int32)).toNatClampNeg) := by rw [S102]; decide
  obtain ⟨T102, h102, X102, e102, W102, st102⟩ := stI X99 hx hZ e99 Ar102 (j := (6 : Int32)) hin102 (g := (mkF m 111 #[.val (.ref self), .val (.int (8 : Int32)), .val (.ref ta), .val (.ref ha), .val (.int ec), .val (.ref sa), .val (.int (2 : Int32)), .val (.int (5 : Int32)), .unset, .unset] [(.int v101), (.int (6 : Int32)), (.ref b15)])) rfl rfl (hb hby d1_111)
  obtain ⟨f102, hf102⟩ : ∃ g : Nat → Int32, g = fun i => if i = 6 then v101 else f94 i := ⟨_, rfl⟩
  have V102 : Ari Z h102 b15 9 f102 := by rw [hf102]; exact Ari.set Ar102 S102 H102 W102 rfl
  have z102 : h102.size = h94.size := W102.size
  have N102 := Fr.snoc X102 N94 gn28
  have K102 : Keep h0 h102 [self] := K94.wr W102 (Or.inr gz29)
  obtain ⟨Lo_f102, Hi_f102⟩ := own_pre (k := 5) (L := fun i => (0 : Int) + own_lm n_t0 i + own_lm n_h0_ i + own_lm n_t1 i + own_lm n_h1 i) (D := fun i => (0 : Int) + own_dl (n_t0 + 1) i + own_dl (n_h0_ + 1) i + own_dl (n_t1 + 1) i + own_dl (n_h1 + 1) i) Lo_f94 Hi_f94 hsL hbL hbD hv_v101 hf102
  refine Comes.st st102 ?_
  show Comes p e below _ (T102.setTop (mkF m 112 #[.val (.ref self), .val (.int (8 : Int32)), .val (.ref ta), .val (.ref ha), .val (.int ec), .val (.ref sa), .val (.int (2 : Int32)), .val (.int (5 : Int32)), .unset, .unset] []))
  refine Comes.st (fun t k => XS.iinc X102.here hx rfl (hb hby d1_112) rfl (l' := #[.val (.ref self), .val (.int (8 : Int32)), .val (.ref ta), .val (.ref ha), .val (.int ec), .val (.ref sa), .val (.int (2 : Int32)), .val (.int (6 : Int32)), .unset, .unset]) rfl (XS.goto X102.here hx rfl (pc0 := 115) (pc' := 87) rfl (hb hby d1_115) (by decide) (by decide) (XS.iload X102.here hx rfl (hb hby d1_87) rfl (XS.iloadN X102.here hx rfl (hb hby d1_89) rfl k)))) ?_
  show Comes p e below _ (T102.setTop (mkF m 90 #[.val (.ref self), .val (.int (8 : Int32)), .val (.ref ta), .val (.ref ha), .val (.int ec), .val (.ref sa), .val (.int (2 : Int32)), .val (.int (6 : Int32)), .unset, .unset] [(.int (8 : Int32)), (.int (6 : Int32))]))
  have hc90_103 : (6 : Int32) < (8 : Int32) := by decide
  refine Comes.st (fun t k => XS.icmpNo X102.here hx rfl (hb hby d1_90) rfl (tlt hc90_103).2.1 (XS.aloadN X102.here hx rfl (hb hby d1_93) rfl rfl k)) ?_
  show Comes p e below _ (T102.setTop (mkF m 94 #[.val (.ref self), .val (.int (8 : Int32)), .val (.ref ta), .val (.ref ha), .val (.int ec), .val (.ref sa), .val (.int (2 : Int32)), .val (.int (6 : Int32)), .unset, .unset] [(.ref self)]))
  have F104 : Fld Z h102 self "com/example/ordr/ordr/layout/LayerNetwork" "incidentStarts" "[I" (.ref b15) := (F96.other W102 (Or.inl (Ne.symm ne23)))
  obtain ⟨T105, X105, e105, st105⟩ := getF X102 hx hZ hown (host := "") (Or.inl (hw _ (List.mem_of_getElem? (i := 18) rfl))) Via.refl e102 F104 (g := (mkF m 94 #[.val (.ref self), .val (.int (8 : Int32)), .val (.ref ta), .val (.ref ha), .val (.int ec), .val (.ref sa), .val (.int (2 : Int32)), .val (.int (6 : Int32)), .unset, .unset] [(.ref self)])) rfl rfl (hb hby d1_94)
  refine Comes.st st105 ?_
  show Comes p e below _ (T105.setTop (mkF m 97 #[.val (.ref self), .val (.int (8 : Int32)), .val (.ref ta), .val (.ref ha), .val (.int ec), .val (.ref sa), .val (.int (2 : Int32)), .val (.int (6 : Int32)), .unset, .unset] [(.ref b15)]))
  refine Comes.st (fun t k => XS.iload X105.here hx rfl (hb hby d1_97) rfl (XS.iconst X105.here hx rfl (hb hby d1_99) (XS.iadd X105.here hx rfl (hb hby d1_100) rfl k))) ?_
  show Comes p e below _ (T105.setTop (mkF m 101 #[.val (.ref self), .val (.int (8 : Int32)), .val (.ref ta), .val (.ref ha), .val (.int ec), .val (.ref sa), .val (.int (2 : Int32)), .val (.int (6 : Int32)), .unset, .unset] [(.int ((6 : Int32) + (1 : Int32))), (.ref b15)]))
  rw [show ((6 : Int32) + (1 : Int32)) = (7 : Int32) from by decide]
  show Comes p e below _ (T105.setTop (mkF m 101 #[.val (.ref self), .val (.int (8 : Int32)), .val (.ref ta), .val (.ref ha), .val (.int ec), .val (.ref sa), .val (.int (2 : Int32)), .val (.int (6 : Int32)), .unset, .unset] [(.int (7 : Int32)), (.ref b15)]))
  refine Comes.st (fun t k => own_dup2 X105 hx rfl (hb hby d1_101) rfl rfl rfl k) ?_
  show Comes p e below _ (T105.setTop (mkF m 102 #[.val (.ref self), .val (.int (8 : Int32)), .val (.ref ta), .val (.ref ha), .val (.int ec), .val (.ref sa), .val (.int (2 : Int32)), .val (.int (6 : Int32)), .unset, .unset] [(.int (7 : Int32)), (.ref b15), (.int (7 : Int32)), (.ref b15)]))
  obtain ⟨cl106, Ar106, S106, H106⟩ := id V102
  have hin106 : ¬ ((7 : Int32) < 0 ∨ cl106.slots.size ≤ ((7 : Int32)).toNatClampNeg) := by rw [S106]; decide
  refine Comes.st (fun t k => X105.iaload hx (j := (7 : Int32)) (v := (.int (f102 7))) (by rw [e105]; exact Ar106.1) (State.isArrayOf_alike hZ.alike Ar106.2.1) Ar106.2.2 hin106 (H106 _ (Nat.lt_of_not_le fun y => hin106 (Or.inr (S106 ▸ y)))) (g := (mkF m 102 #[.val (.ref self), .val (.int (8 : Int32)), .val (.ref ta), .val (.ref ha), .val (.int ec), .val (.ref sa), .val (.int (2 : Int32)), .val (.int (6 : Int32)), .unset, .unset] [(.int (7 : Int32)), (.ref b15), (.int (7 : Int32)), (.ref b15)])) rfl rfl (hb hby d1_102) _ (XS.aloadN X105.here hx rfl (hb hby d1_103) rfl rfl k)) ?_
  show Comes p e below _ (T105.setTop (mkF m 104 #[.val (.ref self), .val (.int (8 : Int32)), .val (.ref ta), .val (.ref ha), .val (.int ec), .val (.ref sa), .val (.int (2 : Int32)), .val (.int (6 : Int32)), .unset, .unset] [(.ref self), (.int (f102 7)), (.int (7 : Int32)), (.ref b15)]))
  obtain ⟨T107, X107, e107, st107⟩ := getF X105 hx hZ hown (host := "") (Or.inl (hw _ (List.mem_of_getElem? (i := 18) rfl))) Via.refl e105 F104 (g := (mkF m 104 #[.val (.ref self), .val (.int (8 : Int32)), .val (.ref ta), .val (.ref ha), .val (.int ec), .val (.ref sa), .val (.int (2 : Int32)), .val (.int (6 : Int32)), .unset, .unset] [(.ref self), (.int (f102 7)), (.int (7 : Int32)), (.ref b15)])) rfl rfl (hb hby d1_104)
  refine Comes.st st107 ?_
  show Comes p e below _ (T107.setTop (mkF m 107 #[.val (.ref self), .val (.int (8 : Int32)), .val (.ref ta), .val (.ref ha), .val (.int ec), .val (.ref sa), .val (.int (2 : Int32)), .val (.int (6 : Int32)), .unset, .unset] [(.ref b15), (.int (f102 7)), (.int (7 : Int32)), (.ref b15)]))
  refine Comes.st (fun t k => XS.iload X107.here hx rfl (hb hby d1_107) rfl k) ?_
  show Comes p e below _ (T107.setTop (mkF m 109 #[.val (.ref self), .val (.int (8 : Int32)), .val (.ref ta), .val (.ref ha), .val (.int ec), .val (.ref sa), .val (.int (2 : Int32)), .val (.int (6 : Int32)), .unset, .unset] [(.int (6 : Int32)), (.ref b15), (.int (f102 7)), (.int (7 : Int32)), (.ref b15)]))
  obtain ⟨cl108, Ar108, S108, H108⟩ := id V102
  have hin108 : ¬ ((6 : Int32) < 0 ∨ cl108.slots.size ≤ ((6 : Int32)).toNatClampNeg) := by rw [S108]; decide
  refine Comes.st (fun t k => X107.iaload hx (j := (6 : Int32)) (v := (.int (f102 6))) (by rw [e107]; exact Ar108.1) (State.isArrayOf_alike hZ.alike Ar108.2.1) Ar108.2.2 hin108 (H108 _ (Nat.lt_of_not_le fun y => hin108 (Or.inr (S108 ▸ y)))) (g := (mkF m 109 #[.val (.ref self), .val (.int (8 : Int32)), .val (.ref ta), .val (.ref ha), .val (.int ec), .val (.ref sa), .val (.int (2 : Int32)), .val (.int (6 : Int32)), .unset, .unset] [(.int (6 : Int32)), (.ref b15), (.int (f102 7)), (.int (7 : Int32)), (.ref b15)])) rfl rfl (hb hby d1_109) _ (XS.iadd X107.here hx rfl (hb hby d1_110) rfl k)) ?_
  show Comes p e below _ (T107.setTop (mkF m 111 #[.val (.ref self), .val (.int (8 : Int32)), .val (.ref ta), .val (.ref ha), .val (.int ec), .val (.ref sa), .val (.int (2 : Int32)), .val (.int (6 : Int32)), .unset, .unset] [(.int ((f102 7) + (f102 6))), (.int (7 : Int32)), (.ref b15)]))
  generalize hv_v109 : ((f102 7) + (f102 6)) = v109
  show Comes p e below _ (T107.setTop (mkF m 111 #[.val (.ref self), .val (.int (8 : Int32)), .val (.ref ta), .val (.ref ha), .val (.int ec), .val (.ref sa), .val (.int (2 : Int32)), .val (.int (6 : Int32)), .unset, .unset] [(.int v109), (.int (7 : Int32)), (.ref b15)]))
  obtain ⟨cl110, Ar110, S110, H110⟩ := id V102
  have hin110 : ¬ ((7 : Int32) < 0 ∨ cl110.slots.size ≤ ((7 : Int32)).toNatClampNeg) := by rw [S110]; decide
  obtain ⟨T110, h110, X110, e110, W110, st110⟩ := stI X107 hx hZ e107 Ar110 (j := (7 : Int32)) hin110 (g := (mkF m 111 #[.val (.ref self), .val (.int (8 : Int32)), .val (.ref ta), .val (.ref ha), .val (.int ec), .val (.ref sa), .val (.int (2 : Int32)), .val (.int (6 : Int32)), .unset, .unset] [(.int v109), (.int (7 : Int32)), (.ref b15)])) rfl rfl (hb hby d1_111)
  obtain ⟨f110, hf110⟩ : ∃ g : Nat → Int32, g = fun i => if i = 7 then v109 else f102 i := ⟨_, rfl⟩
  have V110 : Ari Z h110 b15 9 f110 := by rw [hf110]; exact Ari.set Ar110 S110 H110 W110 rfl
  have z110 : h110.size = h102.size := W110.size
  have N110 := Fr.snoc X110 N102 gn28
  have K110 : Keep h0 h110 [self] := K102.wr W110 (Or.inr gz29)
  obtain ⟨Lo_f110, Hi_f110⟩ := own_pre (k := 6) (L := fun i => (0 : Int) + own_lm n_t0 i + own_lm n_h0_ i + own_lm n_t1 i + own_lm n_h1 i) (D := fun i => (0 : Int) + own_dl (n_t0 + 1) i + own_dl (n_h0_ + 1) i + own_dl (n_t1 + 1) i + own_dl (n_h1 + 1) i) Lo_f102 Hi_f102 hsL hbL hbD hv_v109 hf110
  refine Comes.st st110 ?_
  show Comes p e below _ (T110.setTop (mkF m 112 #[.val (.ref self), .val (.int (8 : Int32)), .val (.ref ta), .val (.ref ha), .val (.int ec), .val (.ref sa), .val (.int (2 : Int32)), .val (.int (6 : Int32)), .unset, .unset] []))
  refine Comes.st (fun t k => XS.iinc X110.here hx rfl (hb hby d1_112) rfl (l' := #[.val (.ref self), .val (.int (8 : Int32)), .val (.ref ta), .val (.ref ha), .val (.int ec), .val (.ref sa), .val (.int (2 : Int32)), .val (.int (7 : Int32)), .unset, .unset]) rfl (XS.goto X110.here hx rfl (pc0 := 115) (pc' := 87) rfl (hb hby d1_115) (by decide) (by decide) (XS.iload X110.here hx rfl (hb hby d1_87) rfl (XS.iloadN X110.here hx rfl (hb hby d1_89) rfl k)))) ?_
  show Comes p e below _ (T110.setTop (mkF m 90 #[.val (.ref self), .val (.int (8 : Int32)), .val (.ref ta), .val (.ref ha), .val (.int ec), .val (.ref sa), .val (.int (2 : Int32)), .val (.int (7 : Int32)), .unset, .unset] [(.int (8 : Int32)), (.int (7 : Int32))]))
  have hc90_111 : (7 : Int32) < (8 : Int32) := by decide
  refine Comes.st (fun t k => XS.icmpNo X110.here hx rfl (hb hby d1_90) rfl (tlt hc90_111).2.1 (XS.aloadN X110.here hx rfl (hb hby d1_93) rfl rfl k)) ?_
  show Comes p e below _ (T110.setTop (mkF m 94 #[.val (.ref self), .val (.int (8 : Int32)), .val (.ref ta), .val (.ref ha), .val (.int ec), .val (.ref sa), .val (.int (2 : Int32)), .val (.int (7 : Int32)), .unset, .unset] [(.ref self)]))
  have F112 : Fld Z h110 self "com/example/ordr/ordr/layout/LayerNetwork" "incidentStarts" "[I" (.ref b15) := (F104.other W110 (Or.inl (Ne.symm ne23)))
  obtain ⟨T113, X113, e113, st113⟩ := getF X110 hx hZ hown (host := "") (Or.inl (hw _ (List.mem_of_getElem? (i := 18) rfl))) Via.refl e110 F112 (g := (mkF m 94 #[.val (.ref self), .val (.int (8 : Int32)), .val (.ref ta), .val (.ref ha), .val (.int ec), .val (.ref sa), .val (.int (2 : Int32)), .val (.int (7 : Int32)), .unset, .unset] [(.ref self)])) rfl rfl (hb hby d1_94)
  refine Comes.st st113 ?_
  show Comes p e below _ (T113.setTop (mkF m 97 #[.val (.ref self), .val (.int (8 : Int32)), .val (.ref ta), .val (.ref ha), .val (.int ec), .val (.ref sa), .val (.int (2 : Int32)), .val (.int (7 : Int32)), .unset, .unset] [(.ref b15)]))
  refine Comes.st (fun t k => XS.iload X113.here hx rfl (hb hby d1_97) rfl (XS.iconst X113.here hx rfl (hb hby d1_99) (XS.iadd X113.here hx rfl (hb hby d1_100) rfl k))) ?_
  show Comes p e below _ (T113.setTop (mkF m 101 #[.val (.ref self), .val (.int (8 : Int32)), .val (.ref ta), .val (.ref ha), .val (.int ec), .val (.ref sa), .val (.int (2 : Int32)), .val (.int (7 : Int32)), .unset, .unset] [(.int ((7 : Int32) + (1 : Int32))), (.ref b15)]))
  rw [show ((7 : Int32) + (1 : Int32)) = (8 : Int32) from by decide]
  show Comes p e below _ (T113.setTop (mkF m 101 #[.val (.ref self), .val (.int (8 : Int32)), .val (.ref ta), .val (.ref ha), .val (.int ec), .val (.ref sa), .val (.int (2 : Int32)), .val (.int (7 : Int32)), .unset, .unset] [(.int (8 : Int32)), (.ref b15)]))
  refine Comes.st (fun t k => own_dup2 X113 hx rfl (hb hby d1_101) rfl rfl rfl k) ?_
  show Comes p e below _ (T113.setTop (mkF m 102 #[.val (.ref self), .val (.int (8 : Int32)), .val (.ref ta), .val (.ref ha), .val (.int ec), .val (.ref sa), .val (.int (2 : Int32)), .val (.int (7 : Int32)), .unset, .unset] [(.int (8 : Int32)), (.ref b15), (.int (8 : Int32)), (.ref b15)]))
  obtain ⟨cl114, Ar114, S114, H114⟩ := id V110
  have hin114 : ¬ ((8 : Int32) < 0 ∨ cl114.slots.size ≤ ((8 : Int32)).toNatClampNeg) := by rw [S114]; decide
  refine Comes.st (fun t k => X113.iaload hx (j := (8 : Int32)) (v := (.int (f110 8))) (by rw [e113]; exact Ar114.1) (State.isArrayOf_alike hZ.alike Ar114.2.1) Ar114.2.2 hin114 (H114 _ (Nat.lt_of_not_le fun y => hin114 (Or.inr (S114 ▸ y)))) (g := (mkF m 102 #[.val (.ref self), .val (.int (8 : Int32)), .val (.ref ta), .val (.ref ha), .val (.int ec), .val (.ref sa), .val (.int (2 : Int32)), .val (.int (7 : Int32)), .unset, .unset] [(.int (8 : Int32)), (.ref b15), (.int (8 : Int32)), (.ref b15)])) rfl rfl (hb hby d1_102) _ (XS.aloadN X113.here hx rfl (hb hby d1_103) rfl rfl k)) ?_
  show Comes p e below _ (T113.setTop (mkF m 104 #[.val (.ref self), .val (.int (8 : Int32)), .val (.ref ta), .val (.ref ha), .val (.int ec), .val (.ref sa), .val (.int (2 : Int32)), .val (.int (7 : Int32)), .unset, .unset] [(.ref self), (.int (f110 8)), (.int (8 : Int32)), (.ref b15)]))
  obtain ⟨T115, X115, e115, st115⟩ := getF X113 hx hZ hown (host := "") (Or.inl (hw _ (List.mem_of_getElem? (i := 18) rfl))) Via.refl e113 F112 (g := (mkF m 104 #[.val (.ref self), .val (.int (8 : Int32)), .val (.ref ta), .val (.ref ha), .val (.int ec), .val (.ref sa), .val (.int (2 : Int32)), .val (.int (7 : Int32)), .unset, .unset] [(.ref self), (.int (f110 8)), (.int (8 : Int32)), (.ref b15)])) rfl rfl (hb hby d1_104)
  refine Comes.st st115 ?_
  show Comes p e below _ (T115.setTop (mkF m 107 #[.val (.ref self), .val (.int (8 : Int32)), .val (.ref ta), .val (.ref ha), .val (.int ec), .val (.ref sa), .val (.int (2 : Int32)), .val (.int (7 : Int32)), .unset, .unset] [(.ref b15), (.int (f110 8)), (.int (8 : Int32)), (.ref b15)]))
  refine Comes.st (fun t k => XS.iload X115.here hx rfl (hb hby d1_107) rfl k) ?_
  show Comes p e below _ (T115.setTop (mkF m 109 #[.val (.ref self), .val (.int (8 : Int32)), .val (.ref ta), .val (.ref ha), .val (.int ec), .val (.ref sa), .val (.int (2 : Int32)), .val (.int (7 : Int32)), .unset, .unset] [(.int (7 : Int32)), (.ref b15), (.int (f110 8)), (.int (8 : Int32)), (.ref b15)]))
  obtain ⟨cl116, Ar116, S116, H116⟩ := id V110
  have hin116 : ¬ ((7 : Int32) < 0 ∨ cl116.slots.size ≤ ((7 : Int32)).toNatClampNeg) := by rw [S116]; decide
  refine Comes.st (fun t k => X115.iaload hx (j := (7 : Int32)) (v := (.int (f110 7))) (by rw [e115]; exact Ar116.1) (State.isArrayOf_alike hZ.alike Ar116.2.1) Ar116.2.2 hin116 (H116 _ (Nat.lt_of_not_le fun y => hin116 (Or.inr (S116 ▸ y)))) (g := (mkF m 109 #[.val (.ref self), .val (.int (8 : Int32)), .val (.ref ta), .val (.ref ha), .val (.int ec), .val (.ref sa), .val (.int (2 : Int32)), .val (.int (7 : Int32)), .unset, .unset] [(.int (7 : Int32)), (.ref b15), (.int (f110 8)), (.int (8 : Int32)), (.ref b15)])) rfl rfl (hb hby d1_109) _ (XS.iadd X115.here hx rfl (hb hby d1_110) rfl k)) ?_
  show Comes p e below _ (T115.setTop (mkF m 111 #[.val (.ref self), .val (.int (8 : Int32)), .val (.ref ta), .val (.ref ha), .val (.int ec), .val (.ref sa), .val (.int (2 : Int32)), .val (.int (7 : Int32)), .unset, .unset] [(.int ((f110 8) + (f110 7))), (.int (8 : Int32)), (.ref b15)]))
  generalize hv_v117 : ((f110 8) + (f110 7)) = v117
  show Comes p e below _ (T115.setTop (mkF m 111 #[.val (.ref self), .val (.int (8 : Int32)), .val (.ref ta), .val (.ref ha), .val (.int ec), .val (.ref sa), .val (.int (2 : Int32)), .val (.int (7 : Int32)), .unset, .unset] [(.int v117), (.int (8 : Int32)), (.ref b15)]))
  obtain ⟨cl118, Ar118, S118, H118⟩ := id V110
  have hin118 : ¬ ((8 : Int32) < 0 ∨ cl118.slots.size ≤ ((8 : Int32)).toNatClampNeg) := by rw [S118]; decide
  obtain ⟨T118, h118, X118, e118, W118, st118⟩ := stI X115 hx hZ e115 Ar118 (j := (8 : Int32)) hin118 (g := (mkF m 111 #[.val (.ref self), .val (.int (8 : Int32)), .val (.ref ta), .val (.ref ha), .val (.int ec), .val (.ref sa), .val (.int (2 : Int32)), .val (.int (7 : Int32)), .unset, .unset] [(.int v117), (.int (8 : Int32)), (.ref b15)])) rfl rfl (hb hby d1_111)
  obtain ⟨f118, hf118⟩ : ∃ g : Nat → Int32, g = fun i => if i = 8 then v117 else f110 i := ⟨_, rfl⟩
  have V118 : Ari Z h118 b15 9 f118 := by rw [hf118]; exact Ari.set Ar118 S118 H118 W118 rfl
  have z118 : h118.size = h110.size := W118.size
  have N118 := Fr.snoc X118 N110 gn28
  have K118 : Keep h0 h118 [self] := K110.wr W118 (Or.inr gz29)
  obtain ⟨Lo_f118, Hi_f118⟩ := own_pre (k := 7) (L := fun i => (0 : Int) + own_lm n_t0 i + own_lm n_h0_ i + own_lm n_t1 i + own_lm n_h1 i) (D := fun i => (0 : Int) + own_dl (n_t0 + 1) i + own_dl (n_h0_ + 1) i + own_dl (n_t1 + 1) i + own_dl (n_h1 + 1) i) Lo_f110 Hi_f110 hsL hbL hbD hv_v117 hf118
  refine Comes.st st118 ?_
  show Comes p e below _ (T118.setTop (mkF m 112 #[.val (.ref self), .val (.int (8 : Int32)), .val (.ref ta), .val (.ref ha), .val (.int ec), .val (.ref sa), .val (.int (2 : Int32)), .val (.int (7 : Int32)), .unset, .unset] []))
  refine Comes.st (fun t k => XS.iinc X118.here hx rfl (hb hby d1_112) rfl (l' := #[.val (.ref self), .val (.int (8 : Int32)), .val (.ref ta), .val (.ref ha), .val (.int ec), .val (.ref sa), .val (.int (2 : Int32)), .val (.int (8 : Int32)), .unset, .unset]) rfl (XS.goto X118.here hx rfl (pc0 := 115) (pc' := 87) rfl (hb hby d1_115) (by decide) (by decide) (XS.iload X118.here hx rfl (hb hby d1_87) rfl (XS.iloadN X118.here hx rfl (hb hby d1_89) rfl k)))) ?_
  show Comes p e below _ (T118.setTop (mkF m 90 #[.val (.ref self), .val (.int (8 : Int32)), .val (.ref ta), .val (.ref ha), .val (.int ec), .val (.ref sa), .val (.int (2 : Int32)), .val (.int (8 : Int32)), .unset, .unset] [(.int (8 : Int32)), (.int (8 : Int32))]))
  have hc90_119 : ¬ ((8 : Int32) < (8 : Int32)) := by decide
  refine Comes.st (fun t k => XS.icmpYes X118.here hx rfl (pc0 := 90) (pc' := 118) rfl (hb hby d1_90) rfl (flt hc90_119).2.1 (by decide) (by decide) (XS.aloadN X118.here hx rfl (hb hby d1_118) rfl rfl (XS.iconst X118.here hx rfl (hb hby d1_119) (XS.iload X118.here hx rfl (hb hby d1_120) rfl (XS.imul X118.here hx rfl (hb hby d1_122) rfl k))))) ?_
  show Comes p e below _ (T118.setTop (mkF m 123 #[.val (.ref self), .val (.int (8 : Int32)), .val (.ref ta), .val (.ref ha), .val (.int ec), .val (.ref sa), .val (.int (2 : Int32)), .val (.int (8 : Int32)), .unset, .unset] [(.int ((2 : Int32) * (2 : Int32))), (.ref self)]))
  rw [show ((2 : Int32) * (2 : Int32)) = (4 : Int32) from by decide]
  show Comes p e below _ (T118.setTop (mkF m 123 #[.val (.ref self), .val (.int (8 : Int32)), .val (.ref ta), .val (.ref ha), .val (.int ec), .val (.ref sa), .val (.int (2 : Int32)), .val (.int (8 : Int32)), .unset, .unset] [(.int (4 : Int32)), (.ref self)]))
  obtain ⟨T120, h120, k120, X120, e120, E120, A120, st120⟩ := newP X118 hx hZ (hw _ (List.mem_of_getElem? (i := 0) rfl)) e118 (g := (mkF m 123 #[.val (.ref self), .val (.int (8 : Int32)), .val (.ref ta), .val (.ref ha), .val (.int ec), .val (.ref sa), .val (.int (2 : Int32)), .val (.int (8 : Int32)), .unset, .unset] [(.int (4 : Int32)), (.ref self)])) rfl (hb hby d1_123) rfl (by decide) (cap := 4) (by decide) (by decide) (by decide) (by decide)
  obtain ⟨b120, g120⟩ : ∃ z, z = h118.size := ⟨_, rfl⟩
  rw [← g120] at A120 st120
  have z120 : h118.size ≤ h120.size := E120.1
  have lt120 : b120 < h120.size := A120.lt
  have V120 : Ari Z h120 b120 4 (fun _ => 0) := Ari.new A120 rfl
  obtain ⟨f120, hf120⟩ : ∃ g : Nat → Int32, g = fun _ => 0 := ⟨_, rfl⟩
  rw [← hf120] at V120
  have K120 : Keep h0 h120 [self] := K118.ext E120
  refine Comes.st st120 ?_
  show Comes p e below _ (T120.setTop (mkF m 125 #[.val (.ref self), .val (.int (8 : Int32)), .val (.ref ta), .val (.ref ha), .val (.int ec), .val (.ref sa), .val (.int (2 : Int32)), .val (.int (8 : Int32)), .unset, .unset] [(.ref b120), (.ref self)]))
  have F121 : Exa Z h120 self "com/example/ordr/ordr/layout/LayerNetwork" := ((((((((((((((F16.wr W18).wr W27).wr W37).wr W46).wr W53).wr W62).wr W70).wr W78).wr W86).wr W94).wr W102).wr W110).wr W118).ext E120)
  have F122 : Fld Z h120 self "com/example/ordr/ordr/layout/LayerNetwork" "incident" "[I" .null := (((((((((((((((((((G6.other W2 (Or.inr (slot_ne (Or.inr (hw _ (List.mem_of_getElem? (i := 21) rfl))) (Or.inr (hw _ (List.mem_of_getElem? (i := 11) rfl))) (by decide) (t := (.array .int)) (t' := .int) (by decide) (by decide)))).other W6 (Or.inr (slot_ne (Or.inr (hw _ (List.mem_of_getElem? (i := 21) rfl))) (Or.inr (hw _ (List.mem_of_getElem? (i := 13) rfl))) (by decide) (t := (.array .int)) (t' := .int) (by decide) (by decide)))).other W9 (Or.inr (slot_ne (Or.inr (hw _ (List.mem_of_getElem? (i := 21) rfl))) (Or.inr (hw _ (List.mem_of_getElem? (i := 15) rfl))) (by decide) (t := (.array .int)) (t' := (.array .int)) (by decide) (by decide)))).other W12 (Or.inr (slot_ne (Or.inr (hw _ (List.mem_of_getElem? (i := 21) rfl))) (Or.inr (hw _ (List.mem_of_getElem? (i := 17) rfl))) (by decide) (t := (.array .int)) (t' := (.array .int)) (by decide) (by decide)))).ext E15).other W18 (Or.inr (slot_ne (Or.inr (hw _ (List.mem_of_getElem? (i := 21) rfl))) (Or.inr (hw _ (List.mem_of_getElem? (i := 19) rfl))) (by decide) (t := (.array .int)) (t' := (.array .int)) (by decide) (by decide)))).other W27 (Or.inl (Ne.symm ne23))).other W37 (Or.inl (Ne.symm ne23))).other W46 (Or.inl (Ne.symm ne23))).other W53 (Or.inl (Ne.symm ne23))).other W62 (Or.inl (Ne.symm ne23))).other W70 (Or.inl (Ne.symm ne23))).other W78 (Or.inl (Ne.symm ne23))).other W86 (Or.inl (Ne.symm ne23))).other W94 (Or.inl (Ne.symm ne23))).other W102 (Or.inl (Ne.symm ne23))).other W110 (Or.inl (Ne.symm ne23))).other W118 (Or.inl (Ne.symm ne23))).ext E120)
  obtain ⟨T123, h123, X123, e123, W123, st123⟩ := putF X120 hx hZ hown (host := "") (Or.inl (hw _ (List.mem_of_getElem? (i := 20) rfl))) Via.refl e120 F122 F121 (Or.inr ⟨(hw _ (List.mem_of_getElem? (i := 21) rfl)), rfl, hnm⟩) (hw _ (List.mem_of_getElem? (i := 2) rfl)) (ty := (.array .int)) (by decide) rfl rfl (g := (mkF m 125 #[.val (.ref self), .val (.int (8 : Int32)), .val (.ref ta), .val (.ref ha), .val (.int ec), .val (.ref sa), .val (.int (2 : Int32)), .val (.int (8 : Int32)), .unset, .unset] [(.ref b120), (.ref self)])) rfl rfl (hb hby d1_125)
  have Fw123 := F122.same W123
  have z123 : h123.size = h120.size := W123.size
  have N123 := Fr.snoc X123 N118 gn3
  have K123 : Keep h0 h123 [self] := K120.wr W123 (Or.inl (List.mem_of_getElem? (i := 0) rfl))
  refine Comes.st st123 ?_
  show Comes p e below _ (T123.setTop (mkF m 128 #[.val (.ref self), .val (.int (8 : Int32)), .val (.ref ta), .val (.ref ha), .val (.int ec), .val (.ref sa), .val (.int (2 : Int32)), .val (.int (8 : Int32)), .unset, .unset] []))
  refine Comes.st (fun t k => XS.aloadN X123.here hx rfl (hb hby d1_128) rfl rfl (XS.iconst X123.here hx rfl (hb hby d1_129) (XS.iload X123.here hx rfl (hb hby d1_130) rfl (XS.imul X123.here hx rfl (hb hby d1_132) rfl k)))) ?_
  show Comes p e below _ (T123.setTop (mkF m 133 #[.val (.ref self), .val (.int (8 : Int32)), .val (.ref ta), .val (.ref ha), .val (.int ec), .val (.ref sa), .val (.int (2 : Int32)), .val (.int (8 : Int32)), .unset, .unset] [(.int ((2 : Int32) * (2 : Int32))), (.ref self)]))
  rw [show ((2 : Int32) * (2 : Int32)) = (4 : Int32) from by decide]
  show Comes p e below _ (T123.setTop (mkF m 133 #[.val (.ref self), .val (.int (8 : Int32)), .val (.ref ta), .val (.ref ha), .val (.int ec), .val (.ref sa), .val (.int (2 : Int32)), .val (.int (8 : Int32)), .unset, .unset] [(.int (4 : Int32)), (.ref self)]))
  obtain ⟨T124, h124, k124, X124, e124, E124, A124, st124⟩ := newP X123 hx hZ (hw _ (List.mem_of_getElem? (i := 0) rfl)) e123 (g := (mkF m 133 #[.val (.ref self), .val (.int (8 : Int32)), .val (.ref ta), .val (.ref ha), .val (.int ec), .val (.ref sa), .val (.int (2 : Int32)), .val (.int (8 : Int32)), .unset, .unset] [(.int (4 : Int32)), (.ref self)])) rfl (hb hby d1_133) rfl (by decide) (cap := 4) (by decide) (by decide) (by decide) (by decide)
  obtain ⟨b124, g124⟩ : ∃ z, z = h123.size := ⟨_, rfl⟩
  rw [← g124] at A124 st124
  have z124 : h123.size ≤ h124.size := E124.1
  have lt124 : b124 < h124.size := A124.lt
  have V124 : Ari Z h124 b124 4 (fun _ => 0) := Ari.new A124 rfl
  obtain ⟨f124, hf124⟩ : ∃ g : Nat → Int32, g = fun _ => 0 := ⟨_, rfl⟩
  rw [← hf124] at V124
  have K124 : Keep h0 h124 [self] := K123.ext E124
  refine Comes.st st124 ?_
  show Comes p e below _ (T124.setTop (mkF m 135 #[.val (.ref self), .val (.int (8 : Int32)), .val (.ref ta), .val (.ref ha), .val (.int ec), .val (.ref sa), .val (.int (2 : Int32)), .val (.int (8 : Int32)), .unset, .unset] [(.ref b124), (.ref self)]))
  have F125 : Exa Z h124 self "com/example/ordr/ordr/layout/LayerNetwork" := ((F121.wr W123).ext E124)
  have F126 : Fld Z h124 self "com/example/ordr/ordr/layout/LayerNetwork" "otherEnds" "[I" .null := (((((((((((((((((((((G7.other W2 (Or.inr (slot_ne (Or.inr (hw _ (List.mem_of_getElem? (i := 23) rfl))) (Or.inr (hw _ (List.mem_of_getElem? (i := 11) rfl))) (by decide) (t := (.array .int)) (t' := .int) (by decide) (by decide)))).other W6 (Or.inr (slot_ne (Or.inr (hw _ (List.mem_of_getElem? (i := 23) rfl))) (Or.inr (hw _ (List.mem_of_getElem? (i := 13) rfl))) (by decide) (t := (.array .int)) (t' := .int) (by decide) (by decide)))).other W9 (Or.inr (slot_ne (Or.inr (hw _ (List.mem_of_getElem? (i := 23) rfl))) (Or.inr (hw _ (List.mem_of_getElem? (i := 15) rfl))) (by decide) (t := (.array .int)) (t' := (.array .int)) (by decide) (by decide)))).other W12 (Or.inr (slot_ne (Or.inr (hw _ (List.mem_of_getElem? (i := 23) rfl))) (Or.inr (hw _ (List.mem_of_getElem? (i := 17) rfl))) (by decide) (t := (.array .int)) (t' := (.array .int)) (by decide) (by decide)))).ext E15).other W18 (Or.inr (slot_ne (Or.inr (hw _ (List.mem_of_getElem? (i := 23) rfl))) (Or.inr (hw _ (List.mem_of_getElem? (i := 19) rfl))) (by decide) (t := (.array .int)) (t' := (.array .int)) (by decide) (by decide)))).other W27 (Or.inl (Ne.symm ne23))).other W37 (Or.inl (Ne.symm ne23))).other W46 (Or.inl (Ne.symm ne23))).other W53 (Or.inl (Ne.symm ne23))).other W62 (Or.inl (Ne.symm ne23))).other W70 (Or.inl (Ne.symm ne23))).other W78 (Or.inl (Ne.symm ne23))).other W86 (Or.inl (Ne.symm ne23))).other W94 (Or.inl (Ne.symm ne23))).other W102 (Or.inl (Ne.symm ne23))).other W110 (Or.inl (Ne.symm ne23))).other W118 (Or.inl (Ne.symm ne23))).ext E120).other W123 (Or.inr (slot_ne (Or.inr (hw _ (List.mem_of_getElem? (i := 23) rfl))) (Or.inr (hw _ (List.mem_of_getElem? (i := 21) rfl))) (by decide) (t := (.array .int)) (t' := (.array .int)) (by decide) (by decide)))).ext E124)
  obtain ⟨T127, h127, X127, e127, W127, st127⟩ := putF X124 hx hZ hown (host := "") (Or.inl (hw _ (List.mem_of_getElem? (i := 22) rfl))) Via.refl e124 F126 F125 (Or.inr ⟨(hw _ (List.mem_of_getElem? (i := 23) rfl)), rfl, hnm⟩) (hw _ (List.mem_of_getElem? (i := 2) rfl)) (ty := (.array .int)) (by decide) rfl rfl (g := (mkF m 135 #[.val (.ref self), .val (.int (8 : Int32)), .val (.ref ta), .val (.ref ha), .val (.int ec), .val (.ref sa), .val (.int (2 : Int32)), .val (.int (8 : Int32)), .unset, .unset] [(.ref b124), (.ref self)])) rfl rfl (hb hby d1_135)
  have Fw127 := F126.same W127
  have z127 : h127.size = h124.size := W127.size
  have N127 := Fr.snoc X127 N123 gn3
  have K127 : Keep h0 h127 [self] := K124.wr W127 (Or.inl (List.mem_of_getElem? (i := 0) rfl))
  refine Comes.st st127 ?_
  show Comes p e below _ (T127.setTop (mkF m 138 #[.val (.ref self), .val (.int (8 : Int32)), .val (.ref ta), .val (.ref ha), .val (.int ec), .val (.ref sa), .val (.int (2 : Int32)), .val (.int (8 : Int32)), .unset, .unset] []))
  refine Comes.st (fun t k => XS.iloadN X127.here hx rfl (hb hby d1_138) rfl k) ?_
  show Comes p e below _ (T127.setTop (mkF m 139 #[.val (.ref self), .val (.int (8 : Int32)), .val (.ref ta), .val (.ref ha), .val (.int ec), .val (.ref sa), .val (.int (2 : Int32)), .val (.int (8 : Int32)), .unset, .unset] [(.int (8 : Int32))]))
  obtain ⟨T128, h128, k128, X128, e128, E128, A128, st128⟩ := newP X127 hx hZ (hw _ (List.mem_of_getElem? (i := 0) rfl)) e127 (g := (mkF m 139 #[.val (.ref self), .val (.int (8 : Int32)), .val (.ref ta), .val (.ref ha), .val (.int ec), .val (.ref sa), .val (.int (2 : Int32)), .val (.int (8 : Int32)), .unset, .unset] [(.int (8 : Int32))])) rfl (hb hby d1_139) rfl (by decide) (cap := 8) (by decide) (by decide) (by decide) (by decide)
  obtain ⟨b128, g128⟩ : ∃ z, z = h127.size := ⟨_, rfl⟩
  rw [← g128] at A128 st128
  have z128 : h127.size ≤ h128.size := E128.1
  have lt128 : b128 < h128.size := A128.lt
  have V128 : Ari Z h128 b128 8 (fun _ => 0) := Ari.new A128 rfl
  obtain ⟨f128, hf128⟩ : ∃ g : Nat → Int32, g = fun _ => 0 := ⟨_, rfl⟩
  rw [← hf128] at V128
  have I_f128 : ∀ i, (f128 i).toInt = (fun i => (0 : Int)) i := by intro i; rw [hf128]; show (0 : Int32).toInt = 0; decide
  have K128 : Keep h0 h128 [self] := K127.ext E128
  refine Comes.st st128 ?_
  show Comes p e below _ (T128.setTop (mkF m 141 #[.val (.ref self), .val (.int (8 : Int32)), .val (.ref ta), .val (.ref ha), .val (.int ec), .val (.ref sa), .val (.int (2 : Int32)), .val (.int (8 : Int32)), .unset, .unset] [(.ref b128)]))
  refine Comes.st (fun t k => XS.astore X128.here hx rfl (hb hby d1_141) rfl rfl (l' := #[.val (.ref self), .val (.int (8 : Int32)), .val (.ref ta), .val (.ref ha), .val (.int ec), .val (.ref sa), .val (.int (2 : Int32)), .val (.ref b128), .unset, .unset]) rfl (XS.iconst X128.here hx rfl (hb hby d1_143) (XS.istore X128.here hx rfl (hb hby d1_144) rfl (l' := #[.val (.ref self), .val (.int (8 : Int32)), .val (.ref ta), .val (.ref ha), .val (.int ec), .val (.ref sa), .val (.int (2 : Int32)), .val (.ref b128), .val (.int (0 : Int32)), .unset]) rfl (XS.iload X128.here hx rfl (hb hby d1_146) rfl (XS.iload X128.here hx rfl (hb hby d1_148) rfl k))))) ?_
  show Comes p e below _ (T128.setTop (mkF m 150 #[.val (.ref self), .val (.int (8 : Int32)), .val (.ref ta), .val (.ref ha), .val (.int ec), .val (.ref sa), .val (.int (2 : Int32)), .val (.ref b128), .val (.int (0 : Int32)), .unset] [(.int (2 : Int32)), (.int (0 : Int32))]))
  have hc150_129 : (0 : Int32) < (2 : Int32) := by decide
  refine Comes.st (fun t k => XS.icmpNo X128.here hx rfl (hb hby d1_150) rfl (tlt hc150_129).2.1 (XS.aloadN X128.here hx rfl (hb hby d1_153) rfl rfl k)) ?_
  show Comes p e below _ (T128.setTop (mkF m 154 #[.val (.ref self), .val (.int (8 : Int32)), .val (.ref ta), .val (.ref ha), .val (.int ec), .val (.ref sa), .val (.int (2 : Int32)), .val (.ref b128), .val (.int (0 : Int32)), .unset] [(.ref self)]))
  have F130 : Fld Z h128 self "com/example/ordr/ordr/layout/LayerNetwork" "incidentStarts" "[I" (.ref b15) := ((((((F112.other W118 (Or.inl (Ne.symm ne23))).ext E120).other W123 (Or.inr (slot_ne (Or.inr (hw _ (List.mem_of_getElem? (i := 19) rfl))) (Or.inr (hw _ (List.mem_of_getElem? (i := 21) rfl))) (by decide) (t := (.array .int)) (t' := (.array .int)) (by decide) (by decide)))).ext E124).other W127 (Or.inr (slot_ne (Or.inr (hw _ (List.mem_of_getElem? (i := 19) rfl))) (Or.inr (hw _ (List.mem_of_getElem? (i := 23) rfl))) (by decide) (t := (.array .int)) (t' := (.array .int)) (by decide) (by decide)))).ext E128)
  obtain ⟨T131, X131, e131, st131⟩ := getF X128 hx hZ hown (host := "") (Or.inl (hw _ (List.mem_of_getElem? (i := 18) rfl))) Via.refl e128 F130 (g := (mkF m 154 #[.val (.ref self), .val (.int (8 : Int32)), .val (.ref ta), .val (.ref ha), .val (.int ec), .val (.ref sa), .val (.int (2 : Int32)), .val (.ref b128), .val (.int (0 : Int32)), .unset] [(.ref self)])) rfl rfl (hb hby d1_154)
  refine Comes.st st131 ?_
  show Comes p e below _ (T131.setTop (mkF m 157 #[.val (.ref self), .val (.int (8 : Int32)), .val (.ref ta), .val (.ref ha), .val (.int ec), .val (.ref sa), .val (.int (2 : Int32)), .val (.ref b128), .val (.int (0 : Int32)), .unset] [(.ref b15)]))
  refine Comes.st (fun t k => XS.aloadN X131.here hx rfl (hb hby d1_157) rfl rfl (XS.iload X131.here hx rfl (hb hby d1_158) rfl k)) ?_
  show Comes p e below _ (T131.setTop (mkF m 160 #[.val (.ref self), .val (.int (8 : Int32)), .val (.ref ta), .val (.ref ha), .val (.int ec), .val (.ref sa), .val (.int (2 : Int32)), .val (.ref b128), .val (.int (0 : Int32)), .unset] [(.int (0 : Int32)), (.ref ta), (.ref b15)]))
  have F132 : Arv Z h128 ta kt .int (2 : Int32) [(.int t0), (.int t1)] (.int (0 : Int32)) := (((((((((((((((F42.other W46 ne41).other W53 ne41).other W62 ne41).other W70 ne41).other W78 ne41).other W86 ne41).other W94 ne41).other W102 ne41).other W110 ne41).other W118 ne41).ext E120).other W123 G17).ext E124).other W127 G17).ext E128)
  obtain ⟨cl133, Ar133, q133, S133, Ng133, H133, Gf133⟩ := id F132
  have hin133 : ¬ ((0 : Int32) < 0 ∨ cl133.slots.size ≤ ((0 : Int32)).toNatClampNeg) := inb_of S133 ⟨by decide, by decide⟩
  refine Comes.st (fun t k => X131.iaload hx (j := (0 : Int32)) (v := (.int t0)) (by rw [e131]; exact Ar133.1) (State.isArrayOf_alike hZ.alike Ar133.2.1) Ar133.2.2 hin133 (Has.at H133 hin133 rfl) (g := (mkF m 160 #[.val (.ref self), .val (.int (8 : Int32)), .val (.ref ta), .val (.ref ha), .val (.int ec), .val (.ref sa), .val (.int (2 : Int32)), .val (.ref b128), .val (.int (0 : Int32)), .unset] [(.int (0 : Int32)), (.ref ta), (.ref b15)])) rfl rfl (hb hby d1_160) _ k) ?_
  show Comes p e below _ (T131.setTop (mkF m 161 #[.val (.ref self), .val (.int (8 : Int32)), .val (.ref ta), .val (.ref ha), .val (.int ec), .val (.ref sa), .val (.int (2 : Int32)), .val (.ref b128), .val (.int (0 : Int32)), .unset] [(.int t0), (.ref b15)]))
  have F134 : Ari Z h128 b15 9 f118 := (((((V118.ext E120).other W123 ne23).ext E124).other W127 ne23).ext E128)
  obtain ⟨cl135, Ar135, S135, H135⟩ := id F134
  have hin135 : ¬ (t0 < 0 ∨ cl135.slots.size ≤ (t0).toNatClampNeg) := by rw [S135]; exact own_inb (own_p0 b_t0 (by decide))
  refine Comes.st (fun t k => X131.iaload hx (j := t0) (v := (.int (f118 (t0).toNatClampNeg))) (by rw [e131]; exact Ar135.1) (State.isArrayOf_alike hZ.alike Ar135.2.1) Ar135.2.2 hin135 (H135 _ (Nat.lt_of_not_le fun y => hin135 (Or.inr (S135 ▸ y)))) (g := (mkF m 161 #[.val (.ref self), .val (.int (8 : Int32)), .val (.ref ta), .val (.ref ha), .val (.int ec), .val (.ref sa), .val (.int (2 : Int32)), .val (.ref b128), .val (.int (0 : Int32)), .unset] [(.int t0), (.ref b15)])) rfl rfl (hb hby d1_161) _ (XS.aload X131.here hx rfl (hb hby d1_162) rfl rfl (XS.aloadN X131.here hx rfl (hb hby d1_164) rfl rfl (XS.iload X131.here hx rfl (hb hby d1_165) rfl k)))) ?_
  show Comes p e below _ (T131.setTop (mkF m 167 #[.val (.ref self), .val (.int (8 : Int32)), .val (.ref ta), .val (.ref ha), .val (.int ec), .val (.ref sa), .val (.int (2 : Int32)), .val (.ref b128), .val (.int (0 : Int32)), .unset] [(.int (0 : Int32)), (.ref ta), (.ref b128), (.int (f118 (t0).toNatClampNeg))]))
  obtain ⟨cl136, Ar136, q136, S136, Ng136, H136, Gf136⟩ := id F132
  have hin136 : ¬ ((0 : Int32) < 0 ∨ cl136.slots.size ≤ ((0 : Int32)).toNatClampNeg) := inb_of S136 ⟨by decide, by decide⟩
  refine Comes.st (fun t k => X131.iaload hx (j := (0 : Int32)) (v := (.int t0)) (by rw [e131]; exact Ar136.1) (State.isArrayOf_alike hZ.alike Ar136.2.1) Ar136.2.2 hin136 (Has.at H136 hin136 rfl) (g := (mkF m 167 #[.val (.ref self), .val (.int (8 : Int32)), .val (.ref ta), .val (.ref ha), .val (.int ec), .val (.ref sa), .val (.int (2 : Int32)), .val (.ref b128), .val (.int (0 : Int32)), .unset] [(.int (0 : Int32)), (.ref ta), (.ref b128), (.int (f118 (t0).toNatClampNeg))])) rfl rfl (hb hby d1_167) _ k) ?_
  show Comes p e below _ (T131.setTop (mkF m 168 #[.val (.ref self), .val (.int (8 : Int32)), .val (.ref ta), .val (.ref ha), .val (.int ec), .val (.ref sa), .val (.int (2 : Int32)), .val (.ref b128), .val (.int (0 : Int32)), .unset] [(.int t0), (.ref b128), (.int (f118 (t0).toNatClampNeg))]))
  obtain ⟨cl137, Ar137, S137, H137⟩ := id V128
  have hin137 : ¬ (t0 < 0 ∨ cl137.slots.size ≤ (t0).toNatClampNeg) := by rw [S137]; exact own_inb (own_p0 b_t0 (by decide))
  refine Comes.st (fun t k => X131.iaload hx (j := t0) (v := (.int (f128 (t0).toNatClampNeg))) (by rw [e131]; exact Ar137.1) (State.isArrayOf_alike hZ.alike Ar137.2.1) Ar137.2.2 hin137 (H137 _ (Nat.lt_of_not_le fun y => hin137 (Or.inr (S137 ▸ y)))) (g := (mkF m 168 #[.val (.ref self), .val (.int (8 : Int32)), .val (.ref ta), .val (.ref ha), .val (.int ec), .val (.ref sa), .val (.int (2 : Int32)), .val (.ref b128), .val (.int (0 : Int32)), .unset] [(.int t0), (.ref b128), (.int (f118 (t0).toNatClampNeg))])) rfl rfl (hb hby d1_168) _ (XS.iadd X131.here hx rfl (hb hby d1_169) rfl k)) ?_
  show Comes p e below _ (T131.setTop (mkF m 170 #[.val (.ref self), .val (.int (8 : Int32)), .val (.ref ta), .val (.ref ha), .val (.int ec), .val (.ref sa), .val (.int (2 : Int32)), .val (.ref b128), .val (.int (0 : Int32)), .unset] [(.int ((f118 (t0).toNatClampNeg) + (f128 (t0).toNatClampNeg)))]))
  generalize hv_v138 : ((f118 (t0).toNatClampNeg) + (f128 (t0).toNatClampNeg)) = v138
  show Comes p e below _ (T131.setTop (mkF m 170 #[.val (.ref self), .val (.int (8 : Int32)), .val (.ref ta), .val (.ref ha), .val (.int ec), .val (.ref sa), .val (.int (2 : Int32)), .val (.ref b128), .val (.int (0 : Int32)), .unset] [(.int v138)]))
  refine Comes.st (fun t k => XS.istore X131.here hx rfl (hb hby d1_170) rfl (l' := #[.val (.ref self), .val (.int (8 : Int32)), .val (.ref ta), .val (.ref ha), .val (.int ec), .val (.ref sa), .val (.int (2 : Int32)), .val (.ref b128), .val (.int (0 : Int32)), .val (.int v138)]) rfl k) ?_
  have pl_v138 : 0 ≤ v138.toInt ∧ v138.toInt < ((4 : Nat) : Int) := by
    have a := c_iadd (f118 n_t0) (f128 n_t0)
    have q := hv_v138
    rw [← hn_t0] at q
    rw [q] at a
    have b := Lo_f118 n_t0 (by omega)
    have c := I_f128 n_t0
    have d := rng32 v138
    simp only [own_dl, own_lm] at b c
    omega
  show Comes p e below _ (T131.setTop (mkF m 172 #[.val (.ref self), .val (.int (8 : Int32)), .val (.ref ta), .val (.ref ha), .val (.int ec), .val (.ref sa), .val (.int (2 : Int32)), .val (.ref b128), .val (.int (0 : Int32)), .val (.int v138)] []))
  refine Comes.st (fun t k => XS.aloadN X131.here hx rfl (hb hby d1_172) rfl rfl k) ?_
  show Comes p e below _ (T131.setTop (mkF m 173 #[.val (.ref self), .val (.int (8 : Int32)), .val (.ref ta), .val (.ref ha), .val (.int ec), .val (.ref sa), .val (.int (2 : Int32)), .val (.ref b128), .val (.int (0 : Int32)), .val (.int v138)] [(.ref self)]))
  have F139 : Fld Z h128 self "com/example/ordr/ordr/layout/LayerNetwork" "incident" "[I" (.ref b120) := (((Fw123.ext E124).other W127 (Or.inr (slot_ne (Or.inr (hw _ (List.mem_of_getElem? (i := 21) rfl))) (Or.inr (hw _ (List.mem_of_getElem? (i := 23) rfl))) (by decide) (t := (.array .int)) (t' := (.array .int)) (by decide) (by decide)))).ext E128)
  obtain ⟨T140, X140, e140, st140⟩ := getF X131 hx hZ hown (host := "") (Or.inl (hw _ (List.mem_of_getElem? (i := 20) rfl))) Via.refl e131 F139 (g := (mkF m 173 #[.val (.ref self), .val (.int (8 : Int32)), .val (.ref ta), .val (.ref ha), .val (.int ec), .val (.ref sa), .val (.int (2 : Int32)), .val (.ref b128), .val (.int (0 : Int32)), .val (.int v138)] [(.ref self)])) rfl rfl (hb hby d1_173)
  refine Comes.st st140 ?_
  show Comes p e below _ (T140.setTop (mkF m 176 #[.val (.ref self), .val (.int (8 : Int32)), .val (.ref ta), .val (.ref ha), .val (.int ec), .val (.ref sa), .val (.int (2 : Int32)), .val (.ref b128), .val (.int (0 : Int32)), .val (.int v138)] [(.ref b120)]))
  refine Comes.st (fun t k => XS.iload X140.here hx rfl (hb hby d1_176) rfl (XS.iload X140.here hx rfl (hb hby d1_178) rfl k)) ?_
  show Comes p e below _ (T140.setTop (mkF m 180 #[.val (.ref self), .val (.int (8 : Int32)), .val (.ref ta), .val (.ref ha), .val (.int ec), .val (.ref sa), .val (.int (2 : Int32)), .val (.ref b128), .val (.int (0 : Int32)), .val (.int v138)] [(.int (0 : Int32)), (.int v138), (.ref b120)]))
  have ne141 : b120 ≠ self := by omega
  have F142 : Ari Z h128 b120 4 f120 := ((((V120.other W123 ne141).ext E124).other W127 ne141).ext E128)
  obtain ⟨cl143, Ar143, S143, H143⟩ := id F142
  have hin143 : ¬ (v138 < 0 ∨ cl143.slots.size ≤ (v138).toNatClampNeg) := by rw [S143]; exact own_inb pl_v138
  obtain ⟨T143, h143, X143, e143, W143, st143⟩ := stI X140 hx hZ e140 Ar143 (j := v138) hin143 (g := (mkF m 180 #[.val (.ref self), .val (.int (8 : Int32)), .val (.ref ta), .val (.ref ha), .val (.int ec), .val (.ref sa), .val (.int (2 : Int32)), .val (.ref b128), .val (.int (0 : Int32)), .val (.int v138)] [(.int (0 : Int32)), (.int v138), (.ref b120)])) rfl rfl (hb hby d1_180)
  obtain ⟨f143, hf143⟩ : ∃ g : Nat → Int32, g = fun i => if i = (v138).toNatClampNeg then (0 : Int32) else f120 i := ⟨_, rfl⟩
  have V143 : Ari Z h143 b120 4 f143 := by rw [hf143]; exact Ari.set Ar143 S143 H143 W143 rfl
  have z143 : h143.size = h128.size := W143.size
  have gn144 : n0 ≤ b120 := by omega
  have N143 := Fr.snoc X143 N127 gn144
  have gz145 : h0.size ≤ b120 := by omega
  have K143 : Keep h0 h143 [self] := K128.wr W143 (Or.inr gz145)
  refine Comes.st st143 ?_
  show Comes p e below _ (T143.setTop (mkF m 181 #[.val (.ref self), .val (.int (8 : Int32)), .val (.ref ta), .val (.ref ha), .val (.int ec), .val (.ref sa), .val (.int (2 : Int32)), .val (.ref b128), .val (.int (0 : Int32)), .val (.int v138)] []))
  refine Comes.st (fun t k => XS.aloadN X143.here hx rfl (hb hby d1_181) rfl rfl k) ?_
  show Comes p e below _ (T143.setTop (mkF m 182 #[.val (.ref self), .val (.int (8 : Int32)), .val (.ref ta), .val (.ref ha), .val (.int ec), .val (.ref sa), .val (.int (2 : Int32)), .val (.ref b128), .val (.int (0 : Int32)), .val (.int v138)] [(.ref self)]))
  have F146 : Fld Z h143 self "com/example/ordr/ordr/layout/LayerNetwork" "otherEnds" "[I" (.ref b124) := ((Fw127.ext E128).other W143 (Or.inl (Ne.symm ne141)))
  obtain ⟨T147, X147, e147, st147⟩ := getF X143 hx hZ hown (host := "") (Or.inl (hw _ (List.mem_of_getElem? (i := 22) rfl))) Via.refl e143 F146 (g := (mkF m 182 #[.val (.ref self), .val (.int (8 : Int32)), .val (.ref ta), .val (.ref ha), .val (.int ec), .val (.ref sa), .val (.int (2 : Int32)), .val (.ref b128), .val (.int (0 : Int32)), .val (.int v138)] [(.ref self)])) rfl rfl (hb hby d1_182)
  refine Comes.st st147 ?_
  show Comes p e below _ (T147.setTop (mkF m 185 #[.val (.ref self), .val (.int (8 : Int32)), .val (.ref ta), .val (.ref ha), .val (.int ec), .val (.ref sa), .val (.int (2 : Int32)), .val (.ref b128), .val (.int (0 : Int32)), .val (.int v138)] [(.ref b124)]))
  refine Comes.st (fun t k => XS.iload X147.here hx rfl (hb hby d1_185) rfl (XS.aloadN X147.here hx rfl (hb hby d1_187) rfl rfl (XS.iload X147.here hx rfl (hb hby d1_188) rfl k))) ?_
  show Comes p e below _ (T147.setTop (mkF m 190 #[.val (.ref self), .val (.int (8 : Int32)), .val (.ref ta), .val (.ref ha), .val (.int ec), .val (.ref sa), .val (.int (2 : Int32)), .val (.ref b128), .val (.int (0 : Int32)), .val (.int v138)] [(.int (0 : Int32)), (.ref ha), (.int v138), (.ref b124)]))
  have ne148 : ha ≠ b120 := by omega
  have F149 : Arv Z h143 ha kh .int (2 : Int32) [(.int h0_), (.int h1)] (.int (0 : Int32)) := (((((((((((((((F49.other W53 ne32).other W62 ne32).other W70 ne32).other W78 ne32).other W86 ne32).other W94 ne32).other W102 ne32).other W110 ne32).other W118 ne32).ext E120).other W123 G18).ext E124).other W127 G18).ext E128).other W143 ne148)
  obtain ⟨cl150, Ar150, q150, S150, Ng150, H150, Gf150⟩ := id F149
  have hin150 : ¬ ((0 : Int32) < 0 ∨ cl150.slots.size ≤ ((0 : Int32)).toNatClampNeg) := inb_of S150 ⟨by decide, by decide⟩
  refine Comes.st (fun t k => X147.iaload hx (j := (0 : Int32)) (v := (.int h0_)) (by rw [e147]; exact Ar150.1) (State.isArrayOf_alike hZ.alike Ar150.2.1) Ar150.2.2 hin150 (Has.at H150 hin150 rfl) (g := (mkF m 190 #[.val (.ref self), .val (.int (8 : Int32)), .val (.ref ta), .val (.ref ha), .val (.int ec), .val (.ref sa), .val (.int (2 : Int32)), .val (.ref b128), .val (.int (0 : Int32)), .val (.int v138)] [(.int (0 : Int32)), (.ref ha), (.int v138), (.ref b124)])) rfl rfl (hb hby d1_190) _ k) ?_
  show Comes p e below _ (T147.setTop (mkF m 191 #[.val (.ref self), .val (.int (8 : Int32)), .val (.ref ta), .val (.ref ha), .val (.int ec), .val (.ref sa), .val (.int (2 : Int32)), .val (.ref b128), .val (.int (0 : Int32)), .val (.int v138)] [(.int h0_), (.int v138), (.ref b124)]))
  have ne151 : b124 ≠ self := by omega
  have ne152 : b124 ≠ b120 := by omega
  have F153 : Ari Z h143 b124 4 f124 := (((V124.other W127 ne151).ext E128).other W143 ne152)
  obtain ⟨cl154, Ar154, S154, H154⟩ := id F153
  have hin154 : ¬ (v138 < 0 ∨ cl154.slots.size ≤ (v138).toNatClampNeg) := by rw [S154]; exact own_inb pl_v138
  obtain ⟨T154, h154, X154, e154, W154, st154⟩ := stI X147 hx hZ e147 Ar154 (j := v138) hin154 (g := (mkF m 191 #[.val (.ref self), .val (.int (8 : Int32)), .val (.ref ta), .val (.ref ha), .val (.int ec), .val (.ref sa), .val (.int (2 : Int32)), .val (.ref b128), .val (.int (0 : Int32)), .val (.int v138)] [(.int h0_), (.int v138), (.ref b124)])) rfl rfl (hb hby d1_191)
  obtain ⟨f154, hf154⟩ : ∃ g : Nat → Int32, g = fun i => if i = (v138).toNatClampNeg then h0_ else f124 i := ⟨_, rfl⟩
  have V154 : Ari Z h154 b124 4 f154 := by rw [hf154]; exact Ari.set Ar154 S154 H154 W154 rfl
  have z154 : h154.size = h143.size := W154.size
  have gn155 : n0 ≤ b124 := by omega
  have N154 := Fr.snoc X154 N143 gn155
  have gz156 : h0.size ≤ b124 := by omega
  have K154 : Keep h0 h154 [self] := K143.wr W154 (Or.inr gz156)
  refine Comes.st st154 ?_
  show Comes p e below _ (T154.setTop (mkF m 192 #[.val (.ref self), .val (.int (8 : Int32)), .val (.ref ta), .val (.ref ha), .val (.int ec), .val (.ref sa), .val (.int (2 : Int32)), .val (.ref b128), .val (.int (0 : Int32)), .val (.int v138)] []))
  refine Comes.st (fun t k => XS.aload X154.here hx rfl (hb hby d1_192) rfl rfl (XS.aloadN X154.here hx rfl (hb hby d1_194) rfl rfl (XS.iload X154.here hx rfl (hb hby d1_195) rfl k))) ?_
  show Comes p e below _ (T154.setTop (mkF m 197 #[.val (.ref self), .val (.int (8 : Int32)), .val (.ref ta), .val (.ref ha), .val (.int ec), .val (.ref sa), .val (.int (2 : Int32)), .val (.ref b128), .val (.int (0 : Int32)), .val (.int v138)] [(.int (0 : Int32)), (.ref ta), (.ref b128)]))
  have ne157 : ta ≠ b120 := by omega
  have ne158 : ta ≠ b124 := by omega
  have F159 : Arv Z h154 ta kt .int (2 : Int32) [(.int t0), (.int t1)] (.int (0 : Int32)) := ((F132.other W143 ne157).other W154 ne158)
  obtain ⟨cl160, Ar160, q160, S160, Ng160, H160, Gf160⟩ := id F159
  have hin160 : ¬ ((0 : Int32) < 0 ∨ cl160.slots.size ≤ ((0 : Int32)).toNatClampNeg) := inb_of S160 ⟨by decide, by decide⟩
  refine Comes.st (fun t k => X154.iaload hx (j := (0 : Int32)) (v := (.int t0)) (by rw [e154]; exact Ar160.1) (State.isArrayOf_alike hZ.alike Ar160.2.1) Ar160.2.2 hin160 (Has.at H160 hin160 rfl) (g := (mkF m 197 #[.val (.ref self), .val (.int (8 : Int32)), .val (.ref ta), .val (.ref ha), .val (.int ec), .val (.ref sa), .val (.int (2 : Int32)), .val (.ref b128), .val (.int (0 : Int32)), .val (.int v138)] [(.int (0 : Int32)), (.ref ta), (.ref b128)])) rfl rfl (hb hby d1_197) _ (own_dup2 X154 hx rfl (hb hby d1_198) rfl rfl rfl k)) ?_
  show Comes p e below _ (T154.setTop (mkF m 199 #[.val (.ref self), .val (.int (8 : Int32)), .val (.ref ta), .val (.ref ha), .val (.int ec), .val (.ref sa), .val (.int (2 : Int32)), .val (.ref b128), .val (.int (0 : Int32)), .val (.int v138)] [(.int t0), (.ref b128), (.int t0), (.ref b128)]))
  have ne161 : b128 ≠ b120 := by omega
  have ne162 : b128 ≠ b124 := by omega
  have F163 : Ari Z h154 b128 8 f128 := ((V128.other W143 ne161).other W154 ne162)
  obtain ⟨cl164, Ar164, S164, H164⟩ := id F163
  have hin164 : ¬ (t0 < 0 ∨ cl164.slots.size ≤ (t0).toNatClampNeg) := by rw [S164]; exact own_inb (own_p0 b_t0 (by decide))
  refine Comes.st (fun t k => X154.iaload hx (j := t0) (v := (.int (f128 (t0).toNatClampNeg))) (by rw [e154]; exact Ar164.1) (State.isArrayOf_alike hZ.alike Ar164.2.1) Ar164.2.2 hin164 (H164 _ (Nat.lt_of_not_le fun y => hin164 (Or.inr (S164 ▸ y)))) (g := (mkF m 199 #[.val (.ref self), .val (.int (8 : Int32)), .val (.ref ta), .val (.ref ha), .val (.int ec), .val (.ref sa), .val (.int (2 : Int32)), .val (.ref b128), .val (.int (0 : Int32)), .val (.int v138)] [(.int t0), (.ref b128), (.int t0), (.ref b128)])) rfl rfl (hb hby d1_199) _ (XS.iconst X154.here hx rfl (hb hby d1_200) (XS.iadd X154.here hx rfl (hb hby d1_201) rfl k))) ?_
  show Comes p e below _ (T154.setTop (mkF m 202 #[.val (.ref self), .val (.int (8 : Int32)), .val (.ref ta), .val (.ref ha), .val (.int ec), .val (.ref sa), .val (.int (2 : Int32)), .val (.ref b128), .val (.int (0 : Int32)), .val (.int v138)] [(.int ((f128 (t0).toNatClampNeg) + (1 : Int32))), (.int t0), (.ref b128)]))
  generalize hv_v165 : ((f128 (t0).toNatClampNeg) + (1 : Int32)) = v165
  show Comes p e below _ (T154.setTop (mkF m 202 #[.val (.ref self), .val (.int (8 : Int32)), .val (.ref ta), .val (.ref ha), .val (.int ec), .val (.ref sa), .val (.int (2 : Int32)), .val (.ref b128), .val (.int (0 : Int32)), .val (.int v138)] [(.int v165), (.int t0), (.ref b128)]))
  obtain ⟨cl166, Ar166, S166, H166⟩ := id F163
  have hin166 : ¬ (t0 < 0 ∨ cl166.slots.size ≤ (t0).toNatClampNeg) := by rw [S166]; exact own_inb (own_p0 b_t0 (by decide))
  obtain ⟨T166, h166, X166, e166, W166, st166⟩ := stI X154 hx hZ e154 Ar166 (j := t0) hin166 (g := (mkF m 202 #[.val (.ref self), .val (.int (8 : Int32)), .val (.ref ta), .val (.ref ha), .val (.int ec), .val (.ref sa), .val (.int (2 : Int32)), .val (.ref b128), .val (.int (0 : Int32)), .val (.int v138)] [(.int v165), (.int t0), (.ref b128)])) rfl rfl (hb hby d1_202)
  obtain ⟨f166, hf166⟩ : ∃ g : Nat → Int32, g = fun i => if i = (t0).toNatClampNeg then v165 else f128 i := ⟨_, rfl⟩
  have V166 : Ari Z h166 b128 8 f166 := by rw [hf166]; exact Ari.set Ar166 S166 H166 W166 rfl
  have z166 : h166.size = h154.size := W166.size
  have gn167 : n0 ≤ b128 := by omega
  have N166 := Fr.snoc X166 N154 gn167
  have gz168 : h0.size ≤ b128 := by omega
  have K166 : Keep h0 h166 [self] := K154.wr W166 (Or.inr gz168)
  have hK_f166 : (t0).toNatClampNeg = n_t0 := hn_t0.symm
  have hv_f166 := hv_v165
  rw [hK_f166] at hf166 hv_f166
  have I_f166 : ∀ i, (f166 i).toInt = (fun i => (0 : Int) + own_dl n_t0 i) i := own_inc (S := fun i => (0 : Int)) I_f128 (fun i => by show 0 ≤ (0 : Int) ∧ (0 : Int) ≤ 100; omega) hv_f166 hf166
  refine Comes.st st166 ?_
  show Comes p e below _ (T166.setTop (mkF m 203 #[.val (.ref self), .val (.int (8 : Int32)), .val (.ref ta), .val (.ref ha), .val (.int ec), .val (.ref sa), .val (.int (2 : Int32)), .val (.ref b128), .val (.int (0 : Int32)), .val (.int v138)] []))
  refine Comes.st (fun t k => XS.iinc X166.here hx rfl (hb hby d1_203) rfl (l' := #[.val (.ref self), .val (.int (8 : Int32)), .val (.ref ta), .val (.ref ha), .val (.int ec), .val (.ref sa), .val (.int (2 : Int32)), .val (.ref b128), .val (.int (1 : Int32)), .val (.int v138)]) rfl (XS.goto X166.here hx rfl (pc0 := 206) (pc' := 146) rfl (hb hby d1_206) (by decide) (by decide) (XS.iload X166.here hx rfl (hb hby d1_146) rfl (XS.iload X166.here hx rfl (hb hby d1_148) rfl k)))) ?_
  show Comes p e below _ (T166.setTop (mkF m 150 #[.val (.ref self), .val (.int (8 : Int32)), .val (.ref ta), .val (.ref ha), .val (.int ec), .val (.ref sa), .val (.int (2 : Int32)), .val (.ref b128), .val (.int (1 : Int32)), .val (.int v138)] [(.int (2 : Int32)), (.int (1 : Int32))]))
  have hc150_169 : (1 : Int32) < (2 : Int32) := by decide
  refine Comes.st (fun t k => XS.icmpNo X166.here hx rfl (hb hby d1_150) rfl (tlt hc150_169).2.1 (XS.aloadN X166.here hx rfl (hb hby d1_153) rfl rfl k)) ?_
  show Comes p e below _ (T166.setTop (mkF m 154 #[.val (.ref self), .val (.int (8 : Int32)), .val (.ref ta), .val (.ref ha), .val (.int ec), .val (.ref sa), .val (.int (2 : Int32)), .val (.ref b128), .val (.int (1 : Int32)), .val (.int v138)] [(.ref self)]))
  have ne170 : self ≠ b128 := by omega
  have F171 : Fld Z h166 self "com/example/ordr/ordr/layout/LayerNetwork" "incidentStarts" "[I" (.ref b15) := (((F130.other W143 (Or.inl (Ne.symm ne141))).other W154 (Or.inl (Ne.symm ne151))).other W166 (Or.inl ne170))
  obtain ⟨T172, X172, e172, st172⟩ := getF X166 hx hZ hown (host := "") (Or.inl (hw _ (List.mem_of_getElem? (i := 18) rfl))) Via.refl e166 F171 (g := (mkF m 154 #[.val (.ref self), .val (.int (8 : Int32)), .val (.ref ta), .val (.ref ha), .val (.int ec), .val (.ref sa), .val (.int (2 : Int32)), .val (.ref b128), .val (.int (1 : Int32)), .val (.int v138)] [(.ref self)])) rfl rfl (hb hby d1_154)
  refine Comes.st st172 ?_
  show Comes p e below _ (T172.setTop (mkF m 157 #[.val (.ref self), .val (.int (8 : Int32)), .val (.ref ta), .val (.ref ha), .val (.int ec), .val (.ref sa), .val (.int (2 : Int32)), .val (.ref b128), .val (.int (1 : Int32)), .val (.int v138)] [(.ref b15)]))
  refine Comes.st (fun t k => XS.aloadN X172.here hx rfl (hb hby d1_157) rfl rfl (XS.iload X172.here hx rfl (hb hby d1_158) rfl k)) ?_
  show Comes p e below _ (T172.setTop (mkF m 160 #[.val (.ref self), .val (.int (8 : Int32)), .val (.ref ta), .val (.ref ha), .val (.int ec), .val (.ref sa), .val (.int (2 : Int32)), .val (.ref b128), .val (.int (1 : Int32)), .val (.int v138)] [(.int (1 : Int32)), (.ref ta), (.ref b15)]))
  have ne173 : ta ≠ b128 := by omega
  have F174 : Arv Z h166 ta kt .int (2 : Int32) [(.int t0), (.int t1)] (.int (0 : Int32)) := (F159.other W166 ne173)
  obtain ⟨cl175, Ar175, q175, S175, Ng175, H175, Gf175⟩ := id F174
  have hin175 : ¬ ((1 : Int32) < 0 ∨ cl175.slots.size ≤ ((1 : Int32)).toNatClampNeg) := inb_of S175 ⟨by decide, by decide⟩
  refine Comes.st (fun t k => X172.iaload hx (j := (1 : Int32)) (v := (.int t1)) (by rw [e172]; exact Ar175.1) (State.isArrayOf_alike hZ.alike Ar175.2.1) Ar175.2.2 hin175 (Has.at H175 hin175 rfl) (g := (mkF m 160 #[.val (.ref self), .val (.int (8 : Int32)), .val (.ref ta), .val (.ref ha), .val (.int ec), .val (.ref sa), .val (.int (2 : Int32)), .val (.ref b128), .val (.int (1 : Int32)), .val (.int v138)] [(.int (1 : Int32)), (.ref ta), (.ref b15)])) rfl rfl (hb hby d1_160) _ k) ?_
  show Comes p e below _ (T172.setTop (mkF m 161 #[.val (.ref self), .val (.int (8 : Int32)), .val (.ref ta), .val (.ref ha), .val (.int ec), .val (.ref sa), .val (.int (2 : Int32)), .val (.ref b128), .val (.int (1 : Int32)), .val (.int v138)] [(.int t1), (.ref b15)]))
  have ne176 : b15 ≠ b120 := by omega
  have ne177 : b15 ≠ b124 := by omega
  have ne178 : b15 ≠ b128 := by omega
  have F179 : Ari Z h166 b15 9 f118 := (((F134.other W143 ne176).other W154 ne177).other W166 ne178)
  obtain ⟨cl180, Ar180, S180, H180⟩ := id F179
  have hin180 : ¬ (t1 < 0 ∨ cl180.slots.size ≤ (t1).toNatClampNeg) := by rw [S180]; exact own_inb (own_p0 b_t1 (by decide))
  refine Comes.st (fun t k => X172.iaload hx (j := t1) (v := (.int (f118 (t1).toNatClampNeg))) (by rw [e172]; exact Ar180.1) (State.isArrayOf_alike hZ.alike Ar180.2.1) Ar180.2.2 hin180 (H180 _ (Nat.lt_of_not_le fun y => hin180 (Or.inr (S180 ▸ y)))) (g := (mkF m 161 #[.val (.ref self), .val (.int (8 : Int32)), .val (.ref ta), .val (.ref ha), .val (.int ec), .val (.ref sa), .val (.int (2 : Int32)), .val (.ref b128), .val (.int (1 : Int32)), .val (.int v138)] [(.int t1), (.ref b15)])) rfl rfl (hb hby d1_161) _ (XS.aload X172.here hx rfl (hb hby d1_162) rfl rfl (XS.aloadN X172.here hx rfl (hb hby d1_164) rfl rfl (XS.iload X172.here hx rfl (hb hby d1_165) rfl k)))) ?_
  show Comes p e below _ (T172.setTop (mkF m 167 #[.val (.ref self), .val (.int (8 : Int32)), .val (.ref ta), .val (.ref ha), .val (.int ec), .val (.ref sa), .val (.int (2 : Int32)), .val (.ref b128), .val (.int (1 : Int32)), .val (.int v138)] [(.int (1 : Int32)), (.ref ta), (.ref b128), (.int (f118 (t1).toNatClampNeg))]))
  obtain ⟨cl181, Ar181, q181, S181, Ng181, H181, Gf181⟩ := id F174
  have hin181 : ¬ ((1 : Int32) < 0 ∨ cl181.slots.size ≤ ((1 : Int32)).toNatClampNeg) := inb_of S181 ⟨by decide, by decide⟩
  refine Comes.st (fun t k => X172.iaload hx (j := (1 : Int32)) (v := (.int t1)) (by rw [e172]; exact Ar181.1) (State.isArrayOf_alike hZ.alike Ar181.2.1) Ar181.2.2 hin181 (Has.at H181 hin181 rfl) (g := (mkF m 167 #[.val (.ref self), .val (.int (8 : Int32)), .val (.ref ta), .val (.ref ha), .val (.int ec), .val (.ref sa), .val (.int (2 : Int32)), .val (.ref b128), .val (.int (1 : Int32)), .val (.int v138)] [(.int (1 : Int32)), (.ref ta), (.ref b128), (.int (f118 (t1).toNatClampNeg))])) rfl rfl (hb hby d1_167) _ k) ?_
  show Comes p e below _ (T172.setTop (mkF m 168 #[.val (.ref self), .val (.int (8 : Int32)), .val (.ref ta), .val (.ref ha), .val (.int ec), .val (.ref sa), .val (.int (2 : Int32)), .val (.ref b128), .val (.int (1 : Int32)), .val (.int v138)] [(.int t1), (.ref b128), (.int (f118 (t1).toNatClampNeg))]))
  obtain ⟨cl182, Ar182, S182, H182⟩ := id V166
  have hin182 : ¬ (t1 < 0 ∨ cl182.slots.size ≤ (t1).toNatClampNeg) := by rw [S182]; exact own_inb (own_p0 b_t1 (by decide))
  refine Comes.st (fun t k => X172.iaload hx (j := t1) (v := (.int (f166 (t1).toNatClampNeg))) (by rw [e172]; exact Ar182.1) (State.isArrayOf_alike hZ.alike Ar182.2.1) Ar182.2.2 hin182 (H182 _ (Nat.lt_of_not_le fun y => hin182 (Or.inr (S182 ▸ y)))) (g := (mkF m 168 #[.val (.ref self), .val (.int (8 : Int32)), .val (.ref ta), .val (.ref ha), .val (.int ec), .val (.ref sa), .val (.int (2 : Int32)), .val (.ref b128), .val (.int (1 : Int32)), .val (.int v138)] [(.int t1), (.ref b128), (.int (f118 (t1).toNatClampNeg))])) rfl rfl (hb hby d1_168) _ (XS.iadd X172.here hx rfl (hb hby d1_169) rfl k)) ?_
  show Comes p e below _ (T172.setTop (mkF m 170 #[.val (.ref self), .val (.int (8 : Int32)), .val (.ref ta), .val (.ref ha), .val (.int ec), .val (.ref sa), .val (.int (2 : Int32)), .val (.ref b128), .val (.int (1 : Int32)), .val (.int v138)] [(.int ((f118 (t1).toNatClampNeg) + (f166 (t1).toNatClampNeg)))]))
  generalize hv_v183 : ((f118 (t1).toNatClampNeg) + (f166 (t1).toNatClampNeg)) = v183
  show Comes p e below _ (T172.setTop (mkF m 170 #[.val (.ref self), .val (.int (8 : Int32)), .val (.ref ta), .val (.ref ha), .val (.int ec), .val (.ref sa), .val (.int (2 : Int32)), .val (.ref b128), .val (.int (1 : Int32)), .val (.int v138)] [(.int v183)]))
  refine Comes.st (fun t k => XS.istore X172.here hx rfl (hb hby d1_170) rfl (l' := #[.val (.ref self), .val (.int (8 : Int32)), .val (.ref ta), .val (.ref ha), .val (.int ec), .val (.ref sa), .val (.int (2 : Int32)), .val (.ref b128), .val (.int (1 : Int32)), .val (.int v183)]) rfl k) ?_
  have pl_v183 : 0 ≤ v183.toInt ∧ v183.toInt < ((4 : Nat) : Int) := by
    have a := c_iadd (f118 n_t1) (f166 n_t1)
    have q := hv_v183
    rw [← hn_t1] at q
    rw [q] at a
    have b := Lo_f118 n_t1 (by omega)
    have c := I_f166 n_t1
    have d := rng32 v183
    simp only [own_dl, own_lm] at b c
    omega
  show Comes p e below _ (T172.setTop (mkF m 172 #[.val (.ref self), .val (.int (8 : Int32)), .val (.ref ta), .val (.ref ha), .val (.int ec), .val (.ref sa), .val (.int (2 : Int32)), .val (.ref b128), .val (.int (1 : Int32)), .val (.int v183)] []))
  refine Comes.st (fun t k => XS.aloadN X172.here hx rfl (hb hby d1_172) rfl rfl k) ?_
  show Comes p e below _ (T172.setTop (mkF m 173 #[.val (.ref self), .val (.int (8 : Int32)), .val (.ref ta), .val (.ref ha), .val (.int ec), .val (.ref sa), .val (.int (2 : Int32)), .val (.ref b128), .val (.int (1 : Int32)), .val (.int v183)] [(.ref self)]))
  have F184 : Fld Z h166 self "com/example/ordr/ordr/layout/LayerNetwork" "incident" "[I" (.ref b120) := (((F139.other W143 (Or.inl (Ne.symm ne141))).other W154 (Or.inl (Ne.symm ne151))).other W166 (Or.inl ne170))
  obtain ⟨T185, X185, e185, st185⟩ := getF X172 hx hZ hown (host := "") (Or.inl (hw _ (List.mem_of_getElem? (i := 20) rfl))) Via.refl e172 F184 (g := (mkF m 173 #[.val (.ref self), .val (.int (8 : Int32)), .val (.ref ta), .val (.ref ha), .val (.int ec), .val (.ref sa), .val (.int (2 : Int32)), .val (.ref b128), .val (.int (1 : Int32)), .val (.int v183)] [(.ref self)])) rfl rfl (hb hby d1_173)
  refine Comes.st st185 ?_
  show Comes p e below _ (T185.setTop (mkF m 176 #[.val (.ref self), .val (.int (8 : Int32)), .val (.ref ta), .val (.ref ha), .val (.int ec), .val (.ref sa), .val (.int (2 : Int32)), .val (.ref b128), .val (.int (1 : Int32)), .val (.int v183)] [(.ref b120)]))
  refine Comes.st (fun t k => XS.iload X185.here hx rfl (hb hby d1_176) rfl (XS.iload X185.here hx rfl (hb hby d1_178) rfl k)) ?_
  show Comes p e below _ (T185.setTop (mkF m 180 #[.val (.ref self), .val (.int (8 : Int32)), .val (.ref ta), .val (.ref ha), .val (.int ec), .val (.ref sa), .val (.int (2 : Int32)), .val (.ref b128), .val (.int (1 : Int32)), .val (.int v183)] [(.int (1 : Int32)), (.int v183), (.ref b120)]))
  have F186 : Ari Z h166 b120 4 f143 := ((V143.other W154 (Ne.symm ne152)).other W166 (Ne.symm ne161))
  obtain ⟨cl187, Ar187, S187, H187⟩ := id F186
  have hin187 : ¬ (v183 < 0 ∨ cl187.slots.size ≤ (v183).toNatClampNeg) := by rw [S187]; exact own_inb pl_v183
  obtain ⟨T187, h187, X187, e187, W187, st187⟩ := stI X185 hx hZ e185 Ar187 (j := v183) hin187 (g := (mkF m 180 #[.val (.ref self), .val (.int (8 : Int32)), .val (.ref ta), .val (.ref ha), .val (.int ec), .val (.ref sa), .val (.int (2 : Int32)), .val (.ref b128), .val (.int (1 : Int32)), .val (.int v183)] [(.int (1 : Int32)), (.int v183), (.ref b120)])) rfl rfl (hb hby d1_180)
  obtain ⟨f187, hf187⟩ : ∃ g : Nat → Int32, g = fun i => if i = (v183).toNatClampNeg then (1 : Int32) else f143 i := ⟨_, rfl⟩
  have V187 : Ari Z h187 b120 4 f187 := by rw [hf187]; exact Ari.set Ar187 S187 H187 W187 rfl
  have z187 : h187.size = h166.size := W187.size
  have N187 := Fr.snoc X187 N166 gn144
  have K187 : Keep h0 h187 [self] := K166.wr W187 (Or.inr gz145)
  refine Comes.st st187 ?_
  show Comes p e below _ (T187.setTop (mkF m 181 #[.val (.ref self), .val (.int (8 : Int32)), .val (.ref ta), .val (.ref ha), .val (.int ec), .val (.ref sa), .val (.int (2 : Int32)), .val (.ref b128), .val (.int (1 : Int32)), .val (.int v183)] []))
  refine Comes.st (fun t k => XS.aloadN X187.here hx rfl (hb hby d1_181) rfl rfl k) ?_
  show Comes p e below _ (T187.setTop (mkF m 182 #[.val (.ref self), .val (.int (8 : Int32)), .val (.ref ta), .val (.ref ha), .val (.int ec), .val (.ref sa), .val (.int (2 : Int32)), .val (.ref b128), .val (.int (1 : Int32)), .val (.int v183)] [(.ref self)]))
  have F188 : Fld Z h187 self "com/example/ordr/ordr/layout/LayerNetwork" "otherEnds" "[I" (.ref b124) := (((F146.other W154 (Or.inl (Ne.symm ne151))).other W166 (Or.inl ne170)).other W187 (Or.inl (Ne.symm ne141)))
  obtain ⟨T189, X189, e189, st189⟩ := getF X187 hx hZ hown (host := "") (Or.inl (hw _ (List.mem_of_getElem? (i := 22) rfl))) Via.refl e187 F188 (g := (mkF m 182 #[.val (.ref self), .val (.int (8 : Int32)), .val (.ref ta), .val (.ref ha), .val (.int ec), .val (.ref sa), .val (.int (2 : Int32)), .val (.ref b128), .val (.int (1 : Int32)), .val (.int v183)] [(.ref self)])) rfl rfl (hb hby d1_182)
  refine Comes.st st189 ?_
  show Comes p e below _ (T189.setTop (mkF m 185 #[.val (.ref self), .val (.int (8 : Int32)), .val (.ref ta), .val (.ref ha), .val (.int ec), .val (.ref sa), .val (.int (2 : Int32)), .val (.ref b128), .val (.int (1 : Int32)), .val (.int v183)] [(.ref b124)]))
  refine Comes.st (fun t k => XS.iload X189.here hx rfl (hb hby d1_185) rfl (XS.aloadN X189.here hx rfl (hb hby d1_187) rfl rfl (XS.iload X189.here hx rfl (hb hby d1_188) rfl k))) ?_
  show Comes p e below _ (T189.setTop (mkF m 190 #[.val (.ref self), .val (.int (8 : Int32)), .val (.ref ta), .val (.ref ha), .val (.int ec), .val (.ref sa), .val (.int (2 : Int32)), .val (.ref b128), .val (.int (1 : Int32)), .val (.int v183)] [(.int (1 : Int32)), (.ref ha), (.int v183), (.ref b124)]))
  have ne190 : ha ≠ b124 := by omega
  have ne191 : ha ≠ b128 := by omega
  have F192 : Arv Z h187 ha kh .int (2 : Int32) [(.int h0_), (.int h1)] (.int (0 : Int32)) := (((F149.other W154 ne190).other W166 ne191).other W187 ne148)
  obtain ⟨cl193, Ar193, q193, S193, Ng193, H193, Gf193⟩ := id F192
  have hin193 : ¬ ((1 : Int32) < 0 ∨ cl193.slots.size ≤ ((1 : Int32)).toNatClampNeg) := inb_of S193 ⟨by decide, by decide⟩
  refine Comes.st (fun t k => X189.iaload hx (j := (1 : Int32)) (v := (.int h1)) (by rw [e189]; exact Ar193.1) (State.isArrayOf_alike hZ.alike Ar193.2.1) Ar193.2.2 hin193 (Has.at H193 hin193 rfl) (g := (mkF m 190 #[.val (.ref self), .val (.int (8 : Int32)), .val (.ref ta), .val (.ref ha), .val (.int ec), .val (.ref sa), .val (.int (2 : Int32)), .val (.ref b128), .val (.int (1 : Int32)), .val (.int v183)] [(.int (1 : Int32)), (.ref ha), (.int v183), (.ref b124)])) rfl rfl (hb hby d1_190) _ k) ?_
  show Comes p e below _ (T189.setTop (mkF m 191 #[.val (.ref self), .val (.int (8 : Int32)), .val (.ref ta), .val (.ref ha), .val (.int ec), .val (.ref sa), .val (.int (2 : Int32)), .val (.ref b128), .val (.int (1 : Int32)), .val (.int v183)] [(.int h1), (.int v183), (.ref b124)]))
  have F194 : Ari Z h187 b124 4 f154 := ((V154.other W166 (Ne.symm ne162)).other W187 ne152)
  obtain ⟨cl195, Ar195, S195, H195⟩ := id F194
  have hin195 : ¬ (v183 < 0 ∨ cl195.slots.size ≤ (v183).toNatClampNeg) := by rw [S195]; exact own_inb pl_v183
  obtain ⟨T195, h195, X195, e195, W195, st195⟩ := stI X189 hx hZ e189 Ar195 (j := v183) hin195 (g := (mkF m 191 #[.val (.ref self), .val (.int (8 : Int32)), .val (.ref ta), .val (.ref ha), .val (.int ec), .val (.ref sa), .val (.int (2 : Int32)), .val (.ref b128), .val (.int (1 : Int32)), .val (.int v183)] [(.int h1), (.int v183), (.ref b124)])) rfl rfl (hb hby d1_191)
  obtain ⟨f195, hf195⟩ : ∃ g : Nat → Int32, g = fun i => if i = (v183).toNatClampNeg then h1 else f154 i := ⟨_, rfl⟩
  have V195 : Ari Z h195 b124 4 f195 := by rw [hf195]; exact Ari.set Ar195 S195 H195 W195 rfl
  have z195 : h195.size = h187.size := W195.size
  have N195 := Fr.snoc X195 N187 gn155
  have K195 : Keep h0 h195 [self] := K187.wr W195 (Or.inr gz156)
  refine Comes.st st195 ?_
  show Comes p e below _ (T195.setTop (mkF m 192 #[.val (.ref self), .val (.int (8 : Int32)), .val (.ref ta), .val (.ref ha), .val (.int ec), .val (.ref sa), .val (.int (2 : Int32)), .val (.ref b128), .val (.int (1 : Int32)), .val (.int v183)] []))
  refine Comes.st (fun t k => XS.aload X195.here hx rfl (hb hby d1_192) rfl rfl (XS.aloadN X195.here hx rfl (hb hby d1_194) rfl rfl (XS.iload X195.here hx rfl (hb hby d1_195) rfl k))) ?_
  show Comes p e below _ (T195.setTop (mkF m 197 #[.val (.ref self), .val (.int (8 : Int32)), .val (.ref ta), .val (.ref ha), .val (.int ec), .val (.ref sa), .val (.int (2 : Int32)), .val (.ref b128), .val (.int (1 : Int32)), .val (.int v183)] [(.int (1 : Int32)), (.ref ta), (.ref b128)]))
  have F196 : Arv Z h195 ta kt .int (2 : Int32) [(.int t0), (.int t1)] (.int (0 : Int32)) := ((F174.other W187 ne157).other W195 ne158)
  obtain ⟨cl197, Ar197, q197, S197, Ng197, H197, Gf197⟩ := id F196
  have hin197 : ¬ ((1 : Int32) < 0 ∨ cl197.slots.size ≤ ((1 : Int32)).toNatClampNeg) := inb_of S197 ⟨by decide, by decide⟩
  refine Comes.st (fun t k => X195.iaload hx (j := (1 : Int32)) (v := (.int t1)) (by rw [e195]; exact Ar197.1) (State.isArrayOf_alike hZ.alike Ar197.2.1) Ar197.2.2 hin197 (Has.at H197 hin197 rfl) (g := (mkF m 197 #[.val (.ref self), .val (.int (8 : Int32)), .val (.ref ta), .val (.ref ha), .val (.int ec), .val (.ref sa), .val (.int (2 : Int32)), .val (.ref b128), .val (.int (1 : Int32)), .val (.int v183)] [(.int (1 : Int32)), (.ref ta), (.ref b128)])) rfl rfl (hb hby d1_197) _ (own_dup2 X195 hx rfl (hb hby d1_198) rfl rfl rfl k)) ?_
  show Comes p e below _ (T195.setTop (mkF m 199 #[.val (.ref self), .val (.int (8 : Int32)), .val (.ref ta), .val (.ref ha), .val (.int ec), .val (.ref sa), .val (.int (2 : Int32)), .val (.ref b128), .val (.int (1 : Int32)), .val (.int v183)] [(.int t1), (.ref b128), (.int t1), (.ref b128)]))
  have F198 : Ari Z h195 b128 8 f166 := ((V166.other W187 ne161).other W195 ne162)
  obtain ⟨cl199, Ar199, S199, H199⟩ := id F198
  have hin199 : ¬ (t1 < 0 ∨ cl199.slots.size ≤ (t1).toNatClampNeg) := by rw [S199]; exact own_inb (own_p0 b_t1 (by decide))
  refine Comes.st (fun t k => X195.iaload hx (j := t1) (v := (.int (f166 (t1).toNatClampNeg))) (by rw [e195]; exact Ar199.1) (State.isArrayOf_alike hZ.alike Ar199.2.1) Ar199.2.2 hin199 (H199 _ (Nat.lt_of_not_le fun y => hin199 (Or.inr (S199 ▸ y)))) (g := (mkF m 199 #[.val (.ref self), .val (.int (8 : Int32)), .val (.ref ta), .val (.ref ha), .val (.int ec), .val (.ref sa), .val (.int (2 : Int32)), .val (.ref b128), .val (.int (1 : Int32)), .val (.int v183)] [(.int t1), (.ref b128), (.int t1), (.ref b128)])) rfl rfl (hb hby d1_199) _ (XS.iconst X195.here hx rfl (hb hby d1_200) (XS.iadd X195.here hx rfl (hb hby d1_201) rfl k))) ?_
  show Comes p e below _ (T195.setTop (mkF m 202 #[.val (.ref self), .val (.int (8 : Int32)), .val (.ref ta), .val (.ref ha), .val (.int ec), .val (.ref sa), .val (.int (2 : Int32)), .val (.ref b128), .val (.int (1 : Int32)), .val (.int v183)] [(.int ((f166 (t1).toNatClampNeg) + (1 : Int32))), (.int t1), (.ref b128)]))
  generalize hv_v200 : ((f166 (t1).toNatClampNeg) + (1 : Int32)) = v200
  show Comes p e below _ (T195.setTop (mkF m 202 #[.val (.ref self), .val (.int (8 : Int32)), .val (.ref ta), .val (.ref ha), .val (.int ec), .val (.ref sa), .val (.int (2 : Int32)), .val (.ref b128), .val (.int (1 : Int32)), .val (.int v183)] [(.int v200), (.int t1), (.ref b128)]))
  obtain ⟨cl201, Ar201, S201, H201⟩ := id F198
  have hin201 : ¬ (t1 < 0 ∨ cl201.slots.size ≤ (t1).toNatClampNeg) := by rw [S201]; exact own_inb (own_p0 b_t1 (by decide))
  obtain ⟨T201, h201, X201, e201, W201, st201⟩ := stI X195 hx hZ e195 Ar201 (j := t1) hin201 (g := (mkF m 202 #[.val (.ref self), .val (.int (8 : Int32)), .val (.ref ta), .val (.ref ha), .val (.int ec), .val (.ref sa), .val (.int (2 : Int32)), .val (.ref b128), .val (.int (1 : Int32)), .val (.int v183)] [(.int v200), (.int t1), (.ref b128)])) rfl rfl (hb hby d1_202)
  obtain ⟨f201, hf201⟩ : ∃ g : Nat → Int32, g = fun i => if i = (t1).toNatClampNeg then v200 else f166 i := ⟨_, rfl⟩
  have V201 : Ari Z h201 b128 8 f201 := by rw [hf201]; exact Ari.set Ar201 S201 H201 W201 rfl
  have z201 : h201.size = h195.size := W201.size
  have N201 := Fr.snoc X201 N195 gn167
  have K201 : Keep h0 h201 [self] := K195.wr W201 (Or.inr gz168)
  have hK_f201 : (t1).toNatClampNeg = n_t1 := hn_t1.symm
  have hv_f201 := hv_v200
  rw [hK_f201] at hf201 hv_f201
  have I_f201 : ∀ i, (f201 i).toInt = (fun i => (0 : Int) + own_dl n_t0 i + own_dl n_t1 i) i := own_inc (S := fun i => (0 : Int) + own_dl n_t0 i) I_f166 (fun i => by have a0 := own_dlb (n_t0) i; show 0 ≤ (0 : Int) + own_dl (n_t0) i ∧ (0 : Int) + own_dl (n_t0) i ≤ 100; omega) hv_f201 hf201
  refine Comes.st st201 ?_
  show Comes p e below _ (T201.setTop (mkF m 203 #[.val (.ref self), .val (.int (8 : Int32)), .val (.ref ta), .val (.ref ha), .val (.int ec), .val (.ref sa), .val (.int (2 : Int32)), .val (.ref b128), .val (.int (1 : Int32)), .val (.int v183)] []))
  refine Comes.st (fun t k => XS.iinc X201.here hx rfl (hb hby d1_203) rfl (l' := #[.val (.ref self), .val (.int (8 : Int32)), .val (.ref ta), .val (.ref ha), .val (.int ec), .val (.ref sa), .val (.int (2 : Int32)), .val (.ref b128), .val (.int (2 : Int32)), .val (.int v183)]) rfl (XS.goto X201.here hx rfl (pc0 := 206) (pc' := 146) rfl (hb hby d1_206) (by decide) (by decide) (XS.iload X201.here hx rfl (hb hby d1_146) rfl (XS.iload X201.here hx rfl (hb hby d1_148) rfl k)))) ?_
  show Comes p e below _ (T201.setTop (mkF m 150 #[.val (.ref self), .val (.int (8 : Int32)), .val (.ref ta), .val (.ref ha), .val (.int ec), .val (.ref sa), .val (.int (2 : Int32)), .val (.ref b128), .val (.int (2 : Int32)), .val (.int v183)] [(.int (2 : Int32)), (.int (2 : Int32))]))
  have hc150_202 : ¬ ((2 : Int32) < (2 : Int32)) := by decide
  refine Comes.st (fun t k => XS.icmpYes X201.here hx rfl (pc0 := 150) (pc' := 209) rfl (hb hby d1_150) rfl (flt hc150_202).2.1 (by decide) (by decide) (XS.aloadN X201.here hx rfl (hb hby d1_209) rfl rfl (XS.iloadN X201.here hx rfl (hb hby d1_210) rfl k))) ?_
  show Comes p e below _ (T201.setTop (mkF m 211 #[.val (.ref self), .val (.int (8 : Int32)), .val (.ref ta), .val (.ref ha), .val (.int ec), .val (.ref sa), .val (.int (2 : Int32)), .val (.ref b128), .val (.int (2 : Int32)), .val (.int v183)] [(.int (8 : Int32)), (.ref self)]))
  obtain ⟨T203, h203, k203, X203, e203, E203, A203, st203⟩ := newP X201 hx hZ (hw _ (List.mem_of_getElem? (i := 0) rfl)) e201 (g := (mkF m 211 #[.val (.ref self), .val (.int (8 : Int32)), .val (.ref ta), .val (.ref ha), .val (.int ec), .val (.ref sa), .val (.int (2 : Int32)), .val (.ref b128), .val (.int (2 : Int32)), .val (.int v183)] [(.int (8 : Int32)), (.ref self)])) rfl (hb hby d1_211) rfl (by decide) (cap := 8) (by decide) (by decide) (by decide) (by decide)
  obtain ⟨b203, g203⟩ : ∃ z, z = h201.size := ⟨_, rfl⟩
  rw [← g203] at A203 st203
  have z203 : h201.size ≤ h203.size := E203.1
  have lt203 : b203 < h203.size := A203.lt
  have V203 : Ari Z h203 b203 8 (fun _ => 0) := Ari.new A203 rfl
  obtain ⟨f203, hf203⟩ : ∃ g : Nat → Int32, g = fun _ => 0 := ⟨_, rfl⟩
  rw [← hf203] at V203
  have K203 : Keep h0 h203 [self] := K201.ext E203
  refine Comes.st st203 ?_
  show Comes p e below _ (T203.setTop (mkF m 213 #[.val (.ref self), .val (.int (8 : Int32)), .val (.ref ta), .val (.ref ha), .val (.int ec), .val (.ref sa), .val (.int (2 : Int32)), .val (.ref b128), .val (.int (2 : Int32)), .val (.int v183)] [(.ref b203), (.ref self)]))
  have F204 : Exa Z h203 self "com/example/ordr/ordr/layout/LayerNetwork" := (((((((((F125.wr W127).ext E128).wr W143).wr W154).wr W166).wr W187).wr W195).wr W201).ext E203)
  have F205 : Fld Z h203 self "com/example/ordr/ordr/layout/LayerNetwork" "incomingStarts" "[I" .null := ((((((((((((((((((((((((((((((G8.other W2 (Or.inr (slot_ne (Or.inr (hw _ (List.mem_of_getElem? (i := 25) rfl))) (Or.inr (hw _ (List.mem_of_getElem? (i := 11) rfl))) (by decide) (t := (.array .int)) (t' := .int) (by decide) (by decide)))).other W6 (Or.inr (slot_ne (Or.inr (hw _ (List.mem_of_getElem? (i := 25) rfl))) (Or.inr (hw _ (List.mem_of_getElem? (i := 13) rfl))) (by decide) (t := (.array .int)) (t' := .int) (by decide) (by decide)))).other W9 (Or.inr (slot_ne (Or.inr (hw _ (List.mem_of_getElem? (i := 25) rfl))) (Or.inr (hw _ (List.mem_of_getElem? (i := 15) rfl))) (by decide) (t := (.array .int)) (t' := (.array .int)) (by decide) (by decide)))).other W12 (Or.inr (slot_ne (Or.inr (hw _ (List.mem_of_getElem? (i := 25) rfl))) (Or.inr (hw _ (List.mem_of_getElem? (i := 17) rfl))) (by decide) (t := (.array .int)) (t' := (.array .int)) (by decide) (by decide)))).ext E15).other W18 (Or.inr (slot_ne (Or.inr (hw _ (List.mem_of_getElem? (i := 25) rfl))) (Or.inr (hw _ (List.mem_of_getElem? (i := 19) rfl))) (by decide) (t := (.array .int)) (t' := (.array .int)) (by decide) (by decide)))).other W27 (Or.inl (Ne.symm ne23))).other W37 (Or.inl (Ne.symm ne23))).other W46 (Or.inl (Ne.symm ne23))).other W53 (Or.inl (Ne.symm ne23))).other W62 (Or.inl (Ne.symm ne23))).other W70 (Or.inl (Ne.symm ne23))).other W78 (Or.inl (Ne.symm ne23))).other W86 (Or.inl (Ne.symm ne23))).other W94 (Or.inl (Ne.symm ne23))).other W102 (Or.inl (Ne.symm ne23))).other W110 (Or.inl (Ne.symm ne23))).other W118 (Or.inl (Ne.symm ne23))).ext E120).other W123 (Or.inr (slot_ne (Or.inr (hw _ (List.mem_of_getElem? (i := 25) rfl))) (Or.inr (hw _ (List.mem_of_getElem? (i := 21) rfl))) (by decide) (t := (.array .int)) (t' := (.array .int)) (by decide) (by decide)))).ext E124).other W127 (Or.inr (slot_ne (Or.inr (hw _ (List.mem_of_getElem? (i := 25) rfl))) (Or.inr (hw _ (List.mem_of_getElem? (i := 23) rfl))) (by decide) (t := (.array .int)) (t' := (.array .int)) (by decide) (by decide)))).ext E128).other W143 (Or.inl (Ne.symm ne141))).other W154 (Or.inl (Ne.symm ne151))).other W166 (Or.inl ne170)).other W187 (Or.inl (Ne.symm ne141))).other W195 (Or.inl (Ne.symm ne151))).other W201 (Or.inl ne170)).ext E203)
  obtain ⟨T206, h206, X206, e206, W206, st206⟩ := putF X203 hx hZ hown (host := "") (Or.inl (hw _ (List.mem_of_getElem? (i := 24) rfl))) Via.refl e203 F205 F204 (Or.inr ⟨(hw _ (List.mem_of_getElem? (i := 25) rfl)), rfl, hnm⟩) (hw _ (List.mem_of_getElem? (i := 2) rfl)) (ty := (.array .int)) (by decide) rfl rfl (g := (mkF m 213 #[.val (.ref self), .val (.int (8 : Int32)), .val (.ref ta), .val (.ref ha), .val (.int ec), .val (.ref sa), .val (.int (2 : Int32)), .val (.ref b128), .val (.int (2 : Int32)), .val (.int v183)] [(.ref b203), (.ref self)])) rfl rfl (hb hby d1_213)
  have Fw206 := F205.same W206
  have z206 : h206.size = h203.size := W206.size
  have N206 := Fr.snoc X206 N201 gn3
  have K206 : Keep h0 h206 [self] := K203.wr W206 (Or.inl (List.mem_of_getElem? (i := 0) rfl))
  refine Comes.st st206 ?_
  show Comes p e below _ (T206.setTop (mkF m 216 #[.val (.ref self), .val (.int (8 : Int32)), .val (.ref ta), .val (.ref ha), .val (.int ec), .val (.ref sa), .val (.int (2 : Int32)), .val (.ref b128), .val (.int (2 : Int32)), .val (.int v183)] []))
  refine Comes.st (fun t k => XS.iconst X206.here hx rfl (hb hby d1_216) (XS.istore X206.here hx rfl (hb hby d1_217) rfl (l' := #[.val (.ref self), .val (.int (8 : Int32)), .val (.ref ta), .val (.ref ha), .val (.int ec), .val (.ref sa), .val (.int (2 : Int32)), .val (.ref b128), .val (.int (0 : Int32)), .val (.int v183)]) rfl (XS.iload X206.here hx rfl (hb hby d1_219) rfl (XS.iloadN X206.here hx rfl (hb hby d1_221) rfl k)))) ?_
  show Comes p e below _ (T206.setTop (mkF m 222 #[.val (.ref self), .val (.int (8 : Int32)), .val (.ref ta), .val (.ref ha), .val (.int ec), .val (.ref sa), .val (.int (2 : Int32)), .val (.ref b128), .val (.int (0 : Int32)), .val (.int v183)] [(.int (8 : Int32)), (.int (0 : Int32))]))
  have hc222_207 : (0 : Int32) < (8 : Int32) := by decide
  refine Comes.st (fun t k => XS.icmpNo X206.here hx rfl (hb hby d1_222) rfl (tlt hc222_207).2.1 (XS.aloadN X206.here hx rfl (hb hby d1_225) rfl rfl k)) ?_
  show Comes p e below _ (T206.setTop (mkF m 226 #[.val (.ref self), .val (.int (8 : Int32)), .val (.ref ta), .val (.ref ha), .val (.int ec), .val (.ref sa), .val (.int (2 : Int32)), .val (.ref b128), .val (.int (0 : Int32)), .val (.int v183)] [(.ref self)]))
  obtain ⟨T208, X208, e208, st208⟩ := getF X206 hx hZ hown (host := "") (Or.inl (hw _ (List.mem_of_getElem? (i := 24) rfl))) Via.refl e206 Fw206 (g := (mkF m 226 #[.val (.ref self), .val (.int (8 : Int32)), .val (.ref ta), .val (.ref ha), .val (.int ec), .val (.ref sa), .val (.int (2 : Int32)), .val (.ref b128), .val (.int (0 : Int32)), .val (.int v183)] [(.ref self)])) rfl rfl (hb hby d1_226)
  refine Comes.st st208 ?_
  show Comes p e below _ (T208.setTop (mkF m 229 #[.val (.ref self), .val (.int (8 : Int32)), .val (.ref ta), .val (.ref ha), .val (.int ec), .val (.ref sa), .val (.int (2 : Int32)), .val (.ref b128), .val (.int (0 : Int32)), .val (.int v183)] [(.ref b203)]))
  refine Comes.st (fun t k => XS.iload X208.here hx rfl (hb hby d1_229) rfl (XS.aloadN X208.here hx rfl (hb hby d1_231) rfl rfl k)) ?_
  show Comes p e below _ (T208.setTop (mkF m 232 #[.val (.ref self), .val (.int (8 : Int32)), .val (.ref ta), .val (.ref ha), .val (.int ec), .val (.ref sa), .val (.int (2 : Int32)), .val (.ref b128), .val (.int (0 : Int32)), .val (.int v183)] [(.ref self), (.int (0 : Int32)), (.ref b203)]))
  have F209 : Fld Z h206 self "com/example/ordr/ordr/layout/LayerNetwork" "incidentStarts" "[I" (.ref b15) := (((((F171.other W187 (Or.inl (Ne.symm ne141))).other W195 (Or.inl (Ne.symm ne151))).other W201 (Or.inl ne170)).ext E203).other W206 (Or.inr (slot_ne (Or.inr (hw _ (List.mem_of_getElem? (i := 19) rfl))) (Or.inr (hw _ (List.mem_of_getElem? (i := 25) rfl))) (by decide) (t := (.array .int)) (t' := (.array .int)) (by decide) (by decide))))
  obtain ⟨T210, X210, e210, st210⟩ := getF X208 hx hZ hown (host := "") (Or.inl (hw _ (List.mem_of_getElem? (i := 18) rfl))) Via.refl e208 F209 (g := (mkF m 232 #[.val (.ref self), .val (.int (8 : Int32)), .val (.ref ta), .val (.ref ha), .val (.int ec), .val (.ref sa), .val (.int (2 : Int32)), .val (.ref b128), .val (.int (0 : Int32)), .val (.int v183)] [(.ref self), (.int (0 : Int32)), (.ref b203)])) rfl rfl (hb hby d1_232)
  refine Comes.st st210 ?_
  show Comes p e below _ (T210.setTop (mkF m 235 #[.val (.ref self), .val (.int (8 : Int32)), .val (.ref ta), .val (.ref ha), .val (.int ec), .val (.ref sa), .val (.int (2 : Int32)), .val (.ref b128), .val (.int (0 : Int32)), .val (.int v183)] [(.ref b15), (.int (0 : Int32)), (.ref b203)]))
  refine Comes.st (fun t k => XS.iload X210.here hx rfl (hb hby d1_235) rfl k) ?_
  show Comes p e below _ (T210.setTop (mkF m 237 #[.val (.ref self), .val (.int (8 : Int32)), .val (.ref ta), .val (.ref ha), .val (.int ec), .val (.ref sa), .val (.int (2 : Int32)), .val (.ref b128), .val (.int (0 : Int32)), .val (.int v183)] [(.int (0 : Int32)), (.ref b15), (.int (0 : Int32)), (.ref b203)]))
  have F211 : Ari Z h206 b15 9 f118 := (((((F179.other W187 ne176).other W195 ne177).other W201 ne178).ext E203).other W206 ne23)
  obtain ⟨cl212, Ar212, S212, H212⟩ := id F211
  have hin212 : ¬ ((0 : Int32) < 0 ∨ cl212.slots.size ≤ ((0 : Int32)).toNatClampNeg) := by rw [S212]; decide
  refine Comes.st (fun t k => X210.iaload hx (j := (0 : Int32)) (v := (.int (f118 0))) (by rw [e210]; exact Ar212.1) (State.isArrayOf_alike hZ.alike Ar212.2.1) Ar212.2.2 hin212 (H212 _ (Nat.lt_of_not_le fun y => hin212 (Or.inr (S212 ▸ y)))) (g := (mkF m 237 #[.val (.ref self), .val (.int (8 : Int32)), .val (.ref ta), .val (.ref ha), .val (.int ec), .val (.ref sa), .val (.int (2 : Int32)), .val (.ref b128), .val (.int (0 : Int32)), .val (.int v183)] [(.int (0 : Int32)), (.ref b15), (.int (0 : Int32)), (.ref b203)])) rfl rfl (hb hby d1_237) _ (XS.aload X210.here hx rfl (hb hby d1_238) rfl rfl (XS.iload X210.here hx rfl (hb hby d1_240) rfl k))) ?_
  show Comes p e below _ (T210.setTop (mkF m 242 #[.val (.ref self), .val (.int (8 : Int32)), .val (.ref ta), .val (.ref ha), .val (.int ec), .val (.ref sa), .val (.int (2 : Int32)), .val (.ref b128), .val (.int (0 : Int32)), .val (.int v183)] [(.int (0 : Int32)), (.ref b128), (.int (f118 0)), (.int (0 : Int32)), (.ref b203)]))
  have F213 : Ari Z h206 b128 8 f201 := ((V201.ext E203).other W206 (Ne.symm ne170))
  obtain ⟨cl214, Ar214, S214, H214⟩ := id F213
  have hin214 : ¬ ((0 : Int32) < 0 ∨ cl214.slots.size ≤ ((0 : Int32)).toNatClampNeg) := by rw [S214]; decide
  refine Comes.st (fun t k => X210.iaload hx (j := (0 : Int32)) (v := (.int (f201 0))) (by rw [e210]; exact Ar214.1) (State.isArrayOf_alike hZ.alike Ar214.2.1) Ar214.2.2 hin214 (H214 _ (Nat.lt_of_not_le fun y => hin214 (Or.inr (S214 ▸ y)))) (g := (mkF m 242 #[.val (.ref self), .val (.int (8 : Int32)), .val (.ref ta), .val (.ref ha), .val (.int ec), .val (.ref sa), .val (.int (2 : Int32)), .val (.ref b128), .val (.int (0 : Int32)), .val (.int v183)] [(.int (0 : Int32)), (.ref b128), (.int (f118 0)), (.int (0 : Int32)), (.ref b203)])) rfl rfl (hb hby d1_242) _ (XS.iadd X210.here hx rfl (hb hby d1_243) rfl k)) ?_
  show Comes p e below _ (T210.setTop (mkF m 244 #[.val (.ref self), .val (.int (8 : Int32)), .val (.ref ta), .val (.ref ha), .val (.int ec), .val (.ref sa), .val (.int (2 : Int32)), .val (.ref b128), .val (.int (0 : Int32)), .val (.int v183)] [(.int ((f118 0) + (f201 0))), (.int (0 : Int32)), (.ref b203)]))
  generalize hv_v215 : ((f118 0) + (f201 0)) = v215
  show Comes p e below _ (T210.setTop (mkF m 244 #[.val (.ref self), .val (.int (8 : Int32)), .val (.ref ta), .val (.ref ha), .val (.int ec), .val (.ref sa), .val (.int (2 : Int32)), .val (.ref b128), .val (.int (0 : Int32)), .val (.int v183)] [(.int v215), (.int (0 : Int32)), (.ref b203)]))
  have ne216 : b203 ≠ self := by omega
  have F217 : Ari Z h206 b203 8 f203 := (V203.other W206 ne216)
  obtain ⟨cl218, Ar218, S218, H218⟩ := id F217
  have hin218 : ¬ ((0 : Int32) < 0 ∨ cl218.slots.size ≤ ((0 : Int32)).toNatClampNeg) := by rw [S218]; decide
  obtain ⟨T218, h218, X218, e218, W218, st218⟩ := stI X210 hx hZ e210 Ar218 (j := (0 : Int32)) hin218 (g := (mkF m 244 #[.val (.ref self), .val (.int (8 : Int32)), .val (.ref ta), .val (.ref ha), .val (.int ec), .val (.ref sa), .val (.int (2 : Int32)), .val (.ref b128), .val (.int (0 : Int32)), .val (.int v183)] [(.int v215), (.int (0 : Int32)), (.ref b203)])) rfl rfl (hb hby d1_244)
  obtain ⟨f218, hf218⟩ : ∃ g : Nat → Int32, g = fun i => if i = 0 then v215 else f203 i := ⟨_, rfl⟩
  have V218 : Ari Z h218 b203 8 f218 := by rw [hf218]; exact Ari.set Ar218 S218 H218 W218 rfl
  have z218 : h218.size = h206.size := W218.size
  have gn219 : n0 ≤ b203 := by omega
  have N218 := Fr.snoc X218 N206 gn219
  have gz220 : h0.size ≤ b203 := by omega
  have K218 : Keep h0 h218 [self] := K206.wr W218 (Or.inr gz220)
  refine Comes.st st218 ?_
  show Comes p e below _ (T218.setTop (mkF m 245 #[.val (.ref self), .val (.int (8 : Int32)), .val (.ref ta), .val (.ref ha), .val (.int ec), .val (.ref sa), .val (.int (2 : Int32)), .val (.ref b128), .val (.int (0 : Int32)), .val (.int v183)] []))
  refine Comes.st (fun t k => XS.iinc X218.here hx rfl (hb hby d1_245) rfl (l' := #[.val (.ref self), .val (.int (8 : Int32)), .val (.ref ta), .val (.ref ha), .val (.int ec), .val (.ref sa), .val (.int (2 : Int32)), .val (.ref b128), .val (.int (1 : Int32)), .val (.int v183)]) rfl (XS.goto X218.here hx rfl (pc0 := 248) (pc' := 219) rfl (hb hby d1_248) (by decide) (by decide) (XS.iload X218.here hx rfl (hb hby d1_219) rfl (XS.iloadN X218.here hx rfl (hb hby d1_221) rfl k)))) ?_
  show Comes p e below _ (T218.setTop (mkF m 222 #[.val (.ref self), .val (.int (8 : Int32)), .val (.ref ta), .val (.ref ha), .val (.int ec), .val (.ref sa), .val (.int (2 : Int32)), .val (.ref b128), .val (.int (1 : Int32)), .val (.int v183)] [(.int (8 : Int32)), (.int (1 : Int32))]))
  have hc222_221 : (1 : Int32) < (8 : Int32) := by decide
  refine Comes.st (fun t k => XS.icmpNo X218.here hx rfl (hb hby d1_222) rfl (tlt hc222_221).2.1 (XS.aloadN X218.here hx rfl (hb hby d1_225) rfl rfl k)) ?_
  show Comes p e below _ (T218.setTop (mkF m 226 #[.val (.ref self), .val (.int (8 : Int32)), .val (.ref ta), .val (.ref ha), .val (.int ec), .val (.ref sa), .val (.int (2 : Int32)), .val (.ref b128), .val (.int (1 : Int32)), .val (.int v183)] [(.ref self)]))
  have F222 : Fld Z h218 self "com/example/ordr/ordr/layout/LayerNetwork" "incomingStarts" "[I" (.ref b203) := (Fw206.other W218 (Or.inl (Ne.symm ne216)))
  obtain ⟨T223, X223, e223, st223⟩ := getF X218 hx hZ hown (host := "") (Or.inl (hw _ (List.mem_of_getElem? (i := 24) rfl))) Via.refl e218 F222 (g := (mkF m 226 #[.val (.ref self), .val (.int (8 : Int32)), .val (.ref ta), .val (.ref ha), .val (.int ec), .val (.ref sa), .val (.int (2 : Int32)), .val (.ref b128), .val (.int (1 : Int32)), .val (.int v183)] [(.ref self)])) rfl rfl (hb hby d1_226)
  refine Comes.st st223 ?_
  show Comes p e below _ (T223.setTop (mkF m 229 #[.val (.ref self), .val (.int (8 : Int32)), .val (.ref ta), .val (.ref ha), .val (.int ec), .val (.ref sa), .val (.int (2 : Int32)), .val (.ref b128), .val (.int (1 : Int32)), .val (.int v183)] [(.ref b203)]))
  refine Comes.st (fun t k => XS.iload X223.here hx rfl (hb hby d1_229) rfl (XS.aloadN X223.here hx rfl (hb hby d1_231) rfl rfl k)) ?_
  show Comes p e below _ (T223.setTop (mkF m 232 #[.val (.ref self), .val (.int (8 : Int32)), .val (.ref ta), .val (.ref ha), .val (.int ec), .val (.ref sa), .val (.int (2 : Int32)), .val (.ref b128), .val (.int (1 : Int32)), .val (.int v183)] [(.ref self), (.int (1 : Int32)), (.ref b203)]))
  have F224 : Fld Z h218 self "com/example/ordr/ordr/layout/LayerNetwork" "incidentStarts" "[I" (.ref b15) := (F209.other W218 (Or.inl (Ne.symm ne216)))
  obtain ⟨T225, X225, e225, st225⟩ := getF X223 hx hZ hown (host := "") (Or.inl (hw _ (List.mem_of_getElem? (i := 18) rfl))) Via.refl e223 F224 (g := (mkF m 232 #[.val (.ref self), .val (.int (8 : Int32)), .val (.ref ta), .val (.ref ha), .val (.int ec), .val (.ref sa), .val (.int (2 : Int32)), .val (.ref b128), .val (.int (1 : Int32)), .val (.int v183)] [(.ref self), (.int (1 : Int32)), (.ref b203)])) rfl rfl (hb hby d1_232)
  refine Comes.st st225 ?_
  show Comes p e below _ (T225.setTop (mkF m 235 #[.val (.ref self), .val (.int (8 : Int32)), .val (.ref ta), .val (.ref ha), .val (.int ec), .val (.ref sa), .val (.int (2 : Int32)), .val (.ref b128), .val (.int (1 : Int32)), .val (.int v183)] [(.ref b15), (.int (1 : Int32)), (.ref b203)]))
  refine Comes.st (fun t k => XS.iload X225.here hx rfl (hb hby d1_235) rfl k) ?_
  show Comes p e below _ (T225.setTop (mkF m 237 #[.val (.ref self), .val (.int (8 : Int32)), .val (.ref ta), .val (.ref ha), .val (.int ec), .val (.ref sa), .val (.int (2 : Int32)), .val (.ref b128), .val (.int (1 : Int32)), .val (.int v183)] [(.int (1 : Int32)), (.ref b15), (.int (1 : Int32)), (.ref b203)]))
  have ne226 : b15 ≠ b203 := by omega
  have F227 : Ari Z h218 b15 9 f118 := (F211.other W218 ne226)
  obtain ⟨cl228, Ar228, S228, H228⟩ := id F227
  have hin228 : ¬ ((1 : Int32) < 0 ∨ cl228.slots.size ≤ ((1 : Int32)).toNatClampNeg) := by rw [S228]; decide
  refine Comes.st (fun t k => X225.iaload hx (j := (1 : Int32)) (v := (.int (f118 1))) (by rw [e225]; exact Ar228.1) (State.isArrayOf_alike hZ.alike Ar228.2.1) Ar228.2.2 hin228 (H228 _ (Nat.lt_of_not_le fun y => hin228 (Or.inr (S228 ▸ y)))) (g := (mkF m 237 #[.val (.ref self), .val (.int (8 : Int32)), .val (.ref ta), .val (.ref ha), .val (.int ec), .val (.ref sa), .val (.int (2 : Int32)), .val (.ref b128), .val (.int (1 : Int32)), .val (.int v183)] [(.int (1 : Int32)), (.ref b15), (.int (1 : Int32)), (.ref b203)])) rfl rfl (hb hby d1_237) _ (XS.aload X225.here hx rfl (hb hby d1_238) rfl rfl (XS.iload X225.here hx rfl (hb hby d1_240) rfl k))) ?_
  show Comes p e below _ (T225.setTop (mkF m 242 #[.val (.ref self), .val (.int (8 : Int32)), .val (.ref ta), .val (.ref ha), .val (.int ec), .val (.ref sa), .val (.int (2 : Int32)), .val (.ref b128), .val (.int (1 : Int32)), .val (.int v183)] [(.int (1 : Int32)), (.ref b128), (.int (f118 1)), (.int (1 : Int32)), (.ref b203)]))
  have ne229 : b128 ≠ b203 := by omega
  have F230 : Ari Z h218 b128 8 f201 := (F213.other W218 ne229)
  obtain ⟨cl231, Ar231, S231, H231⟩ := id F230
  have hin231 : ¬ ((1 : Int32) < 0 ∨ cl231.slots.size ≤ ((1 : Int32)).toNatClampNeg) := by rw [S231]; decide
  refine Comes.st (fun t k => X225.iaload hx (j := (1 : Int32)) (v := (.int (f201 1))) (by rw [e225]; exact Ar231.1) (State.isArrayOf_alike hZ.alike Ar231.2.1) Ar231.2.2 hin231 (H231 _ (Nat.lt_of_not_le fun y => hin231 (Or.inr (S231 ▸ y)))) (g := (mkF m 242 #[.val (.ref self), .val (.int (8 : Int32)), .val (.ref ta), .val (.ref ha), .val (.int ec), .val (.ref sa), .val (.int (2 : Int32)), .val (.ref b128), .val (.int (1 : Int32)), .val (.int v183)] [(.int (1 : Int32)), (.ref b128), (.int (f118 1)), (.int (1 : Int32)), (.ref b203)])) rfl rfl (hb hby d1_242) _ (XS.iadd X225.here hx rfl (hb hby d1_243) rfl k)) ?_
  show Comes p e below _ (T225.setTop (mkF m 244 #[.val (.ref self), .val (.int (8 : Int32)), .val (.ref ta), .val (.ref ha), .val (.int ec), .val (.ref sa), .val (.int (2 : Int32)), .val (.ref b128), .val (.int (1 : Int32)), .val (.int v183)] [(.int ((f118 1) + (f201 1))), (.int (1 : Int32)), (.ref b203)]))
  generalize hv_v232 : ((f118 1) + (f201 1)) = v232
  show Comes p e below _ (T225.setTop (mkF m 244 #[.val (.ref self), .val (.int (8 : Int32)), .val (.ref ta), .val (.ref ha), .val (.int ec), .val (.ref sa), .val (.int (2 : Int32)), .val (.ref b128), .val (.int (1 : Int32)), .val (.int v183)] [(.int v232), (.int (1 : Int32)), (.ref b203)]))
  obtain ⟨cl233, Ar233, S233, H233⟩ := id V218
  have hin233 : ¬ ((1 : Int32) < 0 ∨ cl233.slots.size ≤ ((1 : Int32)).toNatClampNeg) := by rw [S233]; decide
  obtain ⟨T233, h233, X233, e233, W233, st233⟩ := stI X225 hx hZ e225 Ar233 (j := (1 : Int32)) hin233 (g := (mkF m 244 #[.val (.ref self), .val (.int (8 : Int32)), .val (.ref ta), .val (.ref ha), .val (.int ec), .val (.ref sa), .val (.int (2 : Int32)), .val (.ref b128), .val (.int (1 : Int32)), .val (.int v183)] [(.int v232), (.int (1 : Int32)), (.ref b203)])) rfl rfl (hb hby d1_244)
  obtain ⟨f233, hf233⟩ : ∃ g : Nat → Int32, g = fun i => if i = 1 then v232 else f218 i := ⟨_, rfl⟩
  have V233 : Ari Z h233 b203 8 f233 := by rw [hf233]; exact Ari.set Ar233 S233 H233 W233 rfl
  have z233 : h233.size = h218.size := W233.size
  have N233 := Fr.snoc X233 N218 gn219
  have K233 : Keep h0 h233 [self] := K218.wr W233 (Or.inr gz220)
  refine Comes.st st233 ?_
  show Comes p e below _ (T233.setTop (mkF m 245 #[.val (.ref self), .val (.int (8 : Int32)), .val (.ref ta), .val (.ref ha), .val (.int ec), .val (.ref sa), .val (.int (2 : Int32)), .val (.ref b128), .val (.int (1 : Int32)), .val (.int v183)] []))
  refine Comes.st (fun t k => XS.iinc X233.here hx rfl (hb hby d1_245) rfl (l' := #[.val (.ref self), .val (.int (8 : Int32)), .val (.ref ta), .val (.ref ha), .val (.int ec), .val (.ref sa), .val (.int (2 : Int32)), .val (.ref b128), .val (.int (2 : Int32)), .val (.int v183)]) rfl (XS.goto X233.here hx rfl (pc0 := 248) (pc' := 219) rfl (hb hby d1_248) (by decide) (by decide) (XS.iload X233.here hx rfl (hb hby d1_219) rfl (XS.iloadN X233.here hx rfl (hb hby d1_221) rfl k)))) ?_
  show Comes p e below _ (T233.setTop (mkF m 222 #[.val (.ref self), .val (.int (8 : Int32)), .val (.ref ta), .val (.ref ha), .val (.int ec), .val (.ref sa), .val (.int (2 : Int32)), .val (.ref b128), .val (.int (2 : Int32)), .val (.int v183)] [(.int (8 : Int32)), (.int (2 : Int32))]))
  have hc222_234 : (2 : Int32) < (8 : Int32) := by decide
  refine Comes.st (fun t k => XS.icmpNo X233.here hx rfl (hb hby d1_222) rfl (tlt hc222_234).2.1 (XS.aloadN X233.here hx rfl (hb hby d1_225) rfl rfl k)) ?_
  show Comes p e below _ (T233.setTop (mkF m 226 #[.val (.ref self), .val (.int (8 : Int32)), .val (.ref ta), .val (.ref ha), .val (.int ec), .val (.ref sa), .val (.int (2 : Int32)), .val (.ref b128), .val (.int (2 : Int32)), .val (.int v183)] [(.ref self)]))
  have F235 : Fld Z h233 self "com/example/ordr/ordr/layout/LayerNetwork" "incomingStarts" "[I" (.ref b203) := (F222.other W233 (Or.inl (Ne.symm ne216)))
  obtain ⟨T236, X236, e236, st236⟩ := getF X233 hx hZ hown (host := "") (Or.inl (hw _ (List.mem_of_getElem? (i := 24) rfl))) Via.refl e233 F235 (g := (mkF m 226 #[.val (.ref self), .val (.int (8 : Int32)), .val (.ref ta), .val (.ref ha), .val (.int ec), .val (.ref sa), .val (.int (2 : Int32)), .val (.ref b128), .val (.int (2 : Int32)), .val (.int v183)] [(.ref self)])) rfl rfl (hb hby d1_226)
  refine Comes.st st236 ?_
  show Comes p e below _ (T236.setTop (mkF m 229 #[.val (.ref self), .val (.int (8 : Int32)), .val (.ref ta), .val (.ref ha), .val (.int ec), .val (.ref sa), .val (.int (2 : Int32)), .val (.ref b128), .val (.int (2 : Int32)), .val (.int v183)] [(.ref b203)]))
  refine Comes.st (fun t k => XS.iload X236.here hx rfl (hb hby d1_229) rfl (XS.aloadN X236.here hx rfl (hb hby d1_231) rfl rfl k)) ?_
  show Comes p e below _ (T236.setTop (mkF m 232 #[.val (.ref self), .val (.int (8 : Int32)), .val (.ref ta), .val (.ref ha), .val (.int ec), .val (.ref sa), .val (.int (2 : Int32)), .val (.ref b128), .val (.int (2 : Int32)), .val (.int v183)] [(.ref self), (.int (2 : Int32)), (.ref b203)]))
  have F237 : Fld Z h233 self "com/example/ordr/ordr/layout/LayerNetwork" "incidentStarts" "[I" (.ref b15) := (F224.other W233 (Or.inl (Ne.symm ne216)))
  obtain ⟨T238, X238, e238, st238⟩ := getF X236 hx hZ hown (host := "") (Or.inl (hw _ (List.mem_of_getElem? (i := 18) rfl))) Via.refl e236 F237 (g := (mkF m 232 #[.val (.ref self), .val (.int (8 : Int32)), .val (.ref ta), .val (.ref ha), .val (.int ec), .val (.ref sa), .val (.int (2 : Int32)), .val (.ref b128), .val (.int (2 : Int32)), .val (.int v183)] [(.ref self), (.int (2 : Int32)), (.ref b203)])) rfl rfl (hb hby d1_232)
  refine Comes.st st238 ?_
  show Comes p e below _ (T238.setTop (mkF m 235 #[.val (.ref self), .val (.int (8 : Int32)), .val (.ref ta), .val (.ref ha), .val (.int ec), .val (.ref sa), .val (.int (2 : Int32)), .val (.ref b128), .val (.int (2 : Int32)), .val (.int v183)] [(.ref b15), (.int (2 : Int32)), (.ref b203)]))
  refine Comes.st (fun t k => XS.iload X238.here hx rfl (hb hby d1_235) rfl k) ?_
  show Comes p e below _ (T238.setTop (mkF m 237 #[.val (.ref self), .val (.int (8 : Int32)), .val (.ref ta), .val (.ref ha), .val (.int ec), .val (.ref sa), .val (.int (2 : Int32)), .val (.ref b128), .val (.int (2 : Int32)), .val (.int v183)] [(.int (2 : Int32)), (.ref b15), (.int (2 : Int32)), (.ref b203)]))
  have F239 : Ari Z h233 b15 9 f118 := (F227.other W233 ne226)
  obtain ⟨cl240, Ar240, S240, H240⟩ := id F239
  have hin240 : ¬ ((2 : Int32) < 0 ∨ cl240.slots.size ≤ ((2 : Int32)).toNatClampNeg) := by rw [S240]; decide
  refine Comes.st (fun t k => X238.iaload hx (j := (2 : Int32)) (v := (.int (f118 2))) (by rw [e238]; exact Ar240.1) (State.isArrayOf_alike hZ.alike Ar240.2.1) Ar240.2.2 hin240 (H240 _ (Nat.lt_of_not_le fun y => hin240 (Or.inr (S240 ▸ y)))) (g := (mkF m 237 #[.val (.ref self), .val (.int (8 : Int32)), .val (.ref ta), .val (.ref ha), .val (.int ec), .val (.ref sa), .val (.int (2 : Int32)), .val (.ref b128), .val (.int (2 : Int32)), .val (.int v183)] [(.int (2 : Int32)), (.ref b15), (.int (2 : Int32)), (.ref b203)])) rfl rfl (hb hby d1_237) _ (XS.aload X238.here hx rfl (hb hby d1_238) rfl rfl (XS.iload X238.here hx rfl (hb hby d1_240) rfl k))) ?_
  show Comes p e below _ (T238.setTop (mkF m 242 #[.val (.ref self), .val (.int (8 : Int32)), .val (.ref ta), .val (.ref ha), .val (.int ec), .val (.ref sa), .val (.int (2 : Int32)), .val (.ref b128), .val (.int (2 : Int32)), .val (.int v183)] [(.int (2 : Int32)), (.ref b128), (.int (f118 2)), (.int (2 : Int32)), (.ref b203)]))
  have F241 : Ari Z h233 b128 8 f201 := (F230.other W233 ne229)
  obtain ⟨cl242, Ar242, S242, H242⟩ := id F241
  have hin242 : ¬ ((2 : Int32) < 0 ∨ cl242.slots.size ≤ ((2 : Int32)).toNatClampNeg) := by rw [S242]; decide
  refine Comes.st (fun t k => X238.iaload hx (j := (2 : Int32)) (v := (.int (f201 2))) (by rw [e238]; exact Ar242.1) (State.isArrayOf_alike hZ.alike Ar242.2.1) Ar242.2.2 hin242 (H242 _ (Nat.lt_of_not_le fun y => hin242 (Or.inr (S242 ▸ y)))) (g := (mkF m 242 #[.val (.ref self), .val (.int (8 : Int32)), .val (.ref ta), .val (.ref ha), .val (.int ec), .val (.ref sa), .val (.int (2 : Int32)), .val (.ref b128), .val (.int (2 : Int32)), .val (.int v183)] [(.int (2 : Int32)), (.ref b128), (.int (f118 2)), (.int (2 : Int32)), (.ref b203)])) rfl rfl (hb hby d1_242) _ (XS.iadd X238.here hx rfl (hb hby d1_243) rfl k)) ?_
  show Comes p e below _ (T238.setTop (mkF m 244 #[.val (.ref self), .val (.int (8 : Int32)), .val (.ref ta), .val (.ref ha), .val (.int ec), .val (.ref sa), .val (.int (2 : Int32)), .val (.ref b128), .val (.int (2 : Int32)), .val (.int v183)] [(.int ((f118 2) + (f201 2))), (.int (2 : Int32)), (.ref b203)]))
  generalize hv_v243 : ((f118 2) + (f201 2)) = v243
  show Comes p e below _ (T238.setTop (mkF m 244 #[.val (.ref self), .val (.int (8 : Int32)), .val (.ref ta), .val (.ref ha), .val (.int ec), .val (.ref sa), .val (.int (2 : Int32)), .val (.ref b128), .val (.int (2 : Int32)), .val (.int v183)] [(.int v243), (.int (2 : Int32)), (.ref b203)]))
  obtain ⟨cl244, Ar244, S244, H244⟩ := id V233
  have hin244 : ¬ ((2 : Int32) < 0 ∨ cl244.slots.size ≤ ((2 : Int32)).toNatClampNeg) := by rw [S244]; decide
  obtain ⟨T244, h244, X244, e244, W244, st244⟩ := stI X238 hx hZ e238 Ar244 (j := (2 : Int32)) hin244 (g := (mkF m 244 #[.val (.ref self), .val (.int (8 : Int32)), .val (.ref ta), .val (.ref ha), .val (.int ec), .val (.ref sa), .val (.int (2 : Int32)), .val (.ref b128), .val (.int (2 : Int32)), .val (.int v183)] [(.int v243), (.int (2 : Int32)), (.ref b203)])) rfl rfl (hb hby d1_244)
  obtain ⟨f244, hf244⟩ : ∃ g : Nat → Int32, g = fun i => if i = 2 then v243 else f233 i := ⟨_, rfl⟩
  have V244 : Ari Z h244 b203 8 f244 := by rw [hf244]; exact Ari.set Ar244 S244 H244 W244 rfl
  have z244 : h244.size = h233.size := W244.size
  have N244 := Fr.snoc X244 N233 gn219
  have K244 : Keep h0 h244 [self] := K233.wr W244 (Or.inr gz220)
  refine Comes.st st244 ?_
  show Comes p e below _ (T244.setTop (mkF m 245 #[.val (.ref self), .val (.int (8 : Int32)), .val (.ref ta), .val (.ref ha), .val (.int ec), .val (.ref sa), .val (.int (2 : Int32)), .val (.ref b128), .val (.int (2 : Int32)), .val (.int v183)] []))
  refine Comes.st (fun t k => XS.iinc X244.here hx rfl (hb hby d1_245) rfl (l' := #[.val (.ref self), .val (.int (8 : Int32)), .val (.ref ta), .val (.ref ha), .val (.int ec), .val (.ref sa), .val (.int (2 : Int32)), .val (.ref b128), .val (.int (3 : Int32)), .val (.int v183)]) rfl (XS.goto X244.here hx rfl (pc0 := 248) (pc' := 219) rfl (hb hby d1_248) (by decide) (by decide) (XS.iload X244.here hx rfl (hb hby d1_219) rfl (XS.iloadN X244.here hx rfl (hb hby d1_221) rfl k)))) ?_
  show Comes p e below _ (T244.setTop (mkF m 222 #[.val (.ref self), .val (.int (8 : Int32)), .val (.ref ta), .val (.ref ha), .val (.int ec), .val (.ref sa), .val (.int (2 : Int32)), .val (.ref b128), .val (.int (3 : Int32)), .val (.int v183)] [(.int (8 : Int32)), (.int (3 : Int32))]))
  have hc222_245 : (3 : Int32) < (8 : Int32) := by decide
  refine Comes.st (fun t k => XS.icmpNo X244.here hx rfl (hb hby d1_222) rfl (tlt hc222_245).2.1 (XS.aloadN X244.here hx rfl (hb hby d1_225) rfl rfl k)) ?_
  show Comes p e below _ (T244.setTop (mkF m 226 #[.val (.ref self), .val (.int (8 : Int32)), .val (.ref ta), .val (.ref ha), .val (.int ec), .val (.ref sa), .val (.int (2 : Int32)), .val (.ref b128), .val (.int (3 : Int32)), .val (.int v183)] [(.ref self)]))
  have F246 : Fld Z h244 self "com/example/ordr/ordr/layout/LayerNetwork" "incomingStarts" "[I" (.ref b203) := (F235.other W244 (Or.inl (Ne.symm ne216)))
  obtain ⟨T247, X247, e247, st247⟩ := getF X244 hx hZ hown (host := "") (Or.inl (hw _ (List.mem_of_getElem? (i := 24) rfl))) Via.refl e244 F246 (g := (mkF m 226 #[.val (.ref self), .val (.int (8 : Int32)), .val (.ref ta), .val (.ref ha), .val (.int ec), .val (.ref sa), .val (.int (2 : Int32)), .val (.ref b128), .val (.int (3 : Int32)), .val (.int v183)] [(.ref self)])) rfl rfl (hb hby d1_226)
  refine Comes.st st247 ?_
  show Comes p e below _ (T247.setTop (mkF m 229 #[.val (.ref self), .val (.int (8 : Int32)), .val (.ref ta), .val (.ref ha), .val (.int ec), .val (.ref sa), .val (.int (2 : Int32)), .val (.ref b128), .val (.int (3 : Int32)), .val (.int v183)] [(.ref b203)]))
  refine Comes.st (fun t k => XS.iload X247.here hx rfl (hb hby d1_229) rfl (XS.aloadN X247.here hx rfl (hb hby d1_231) rfl rfl k)) ?_
  show Comes p e below _ (T247.setTop (mkF m 232 #[.val (.ref self), .val (.int (8 : Int32)), .val (.ref ta), .val (.ref ha), .val (.int ec), .val (.ref sa), .val (.int (2 : Int32)), .val (.ref b128), .val (.int (3 : Int32)), .val (.int v183)] [(.ref self), (.int (3 : Int32)), (.ref b203)]))
  have F248 : Fld Z h244 self "com/example/ordr/ordr/layout/LayerNetwork" "incidentStarts" "[I" (.ref b15) := (F237.other W244 (Or.inl (Ne.symm ne216)))
  obtain ⟨T249, X249, e249, st249⟩ := getF X247 hx hZ hown (host := "") (Or.inl (hw _ (List.mem_of_getElem? (i := 18) rfl))) Via.refl e247 F248 (g := (mkF m 232 #[.val (.ref self), .val (.int (8 : Int32)), .val (.ref ta), .val (.ref ha), .val (.int ec), .val (.ref sa), .val (.int (2 : Int32)), .val (.ref b128), .val (.int (3 : Int32)), .val (.int v183)] [(.ref self), (.int (3 : Int32)), (.ref b203)])) rfl rfl (hb hby d1_232)
  refine Comes.st st249 ?_
  show Comes p e below _ (T249.setTop (mkF m 235 #[.val (.ref self), .val (.int (8 : Int32)), .val (.ref ta), .val (.ref ha), .val (.int ec), .val (.ref sa), .val (.int (2 : Int32)), .val (.ref b128), .val (.int (3 : Int32)), .val (.int v183)] [(.ref b15), (.int (3 : Int32)), (.ref b203)]))
  refine Comes.st (fun t k => XS.iload X249.here hx rfl (hb hby d1_235) rfl k) ?_
  show Comes p e below _ (T249.setTop (mkF m 237 #[.val (.ref self), .val (.int (8 : Int32)), .val (.ref ta), .val (.ref ha), .val (.int ec), .val (.ref sa), .val (.int (2 : Int32)), .val (.ref b128), .val (.int (3 : Int32)), .val (.int v183)] [(.int (3 : Int32)), (.ref b15), (.int (3 : Int32)), (.ref b203)]))
  have F250 : Ari Z h244 b15 9 f118 := (F239.other W244 ne226)
  obtain ⟨cl251, Ar251, S251, H251⟩ := id F250
  have hin251 : ¬ ((3 : Int32) < 0 ∨ cl251.slots.size ≤ ((3 : Int32)).toNatClampNeg) := by rw [S251]; decide
  refine Comes.st (fun t k => X249.iaload hx (j := (3 : Int32)) (v := (.int (f118 3))) (by rw [e249]; exact Ar251.1) (State.isArrayOf_alike hZ.alike Ar251.2.1) Ar251.2.2 hin251 (H251 _ (Nat.lt_of_not_le fun y => hin251 (Or.inr (S251 ▸ y)))) (g := (mkF m 237 #[.val (.ref self), .val (.int (8 : Int32)), .val (.ref ta), .val (.ref ha), .val (.int ec), .val (.ref sa), .val (.int (2 : Int32)), .val (.ref b128), .val (.int (3 : Int32)), .val (.int v183)] [(.int (3 : Int32)), (.ref b15), (.int (3 : Int32)), (.ref b203)])) rfl rfl (hb hby d1_237) _ (XS.aload X249.here hx rfl (hb hby d1_238) rfl rfl (XS.iload X249.here hx rfl (hb hby d1_240) rfl k))) ?_
  show Comes p e below _ (T249.setTop (mkF m 242 #[.val (.ref self), .val (.int (8 : Int32)), .val (.ref ta), .val (.ref ha), .val (.int ec), .val (.ref sa), .val (.int (2 : Int32)), .val (.ref b128), .val (.int (3 : Int32)), .val (.int v183)] [(.int (3 : Int32)), (.ref b128), (.int (f118 3)), (.int (3 : Int32)), (.ref b203)]))
  have F252 : Ari Z h244 b128 8 f201 := (F241.other W244 ne229)
  obtain ⟨cl253, Ar253, S253, H253⟩ := id F252
  have hin253 : ¬ ((3 : Int32) < 0 ∨ cl253.slots.size ≤ ((3 : Int32)).toNatClampNeg) := by rw [S253]; decide
  refine Comes.st (fun t k => X249.iaload hx (j := (3 : Int32)) (v := (.int (f201 3))) (by rw [e249]; exact Ar253.1) (State.isArrayOf_alike hZ.alike Ar253.2.1) Ar253.2.2 hin253 (H253 _ (Nat.lt_of_not_le fun y => hin253 (Or.inr (S253 ▸ y)))) (g := (mkF m 242 #[.val (.ref self), .val (.int (8 : Int32)), .val (.ref ta), .val (.ref ha), .val (.int ec), .val (.ref sa), .val (.int (2 : Int32)), .val (.ref b128), .val (.int (3 : Int32)), .val (.int v183)] [(.int (3 : Int32)), (.ref b128), (.int (f118 3)), (.int (3 : Int32)), (.ref b203)])) rfl rfl (hb hby d1_242) _ (XS.iadd X249.here hx rfl (hb hby d1_243) rfl k)) ?_
  show Comes p e below _ (T249.setTop (mkF m 244 #[.val (.ref self), .val (.int (8 : Int32)), .val (.ref ta), .val (.ref ha), .val (.int ec), .val (.ref sa), .val (.int (2 : Int32)), .val (.ref b128), .val (.int (3 : Int32)), .val (.int v183)] [(.int ((f118 3) + (f201 3))), (.int (3 : Int32)), (.ref b203)]))
  generalize hv_v254 : ((f118 3) + (f201 3)) = v254
  show Comes p e below _ (T249.setTop (mkF m 244 #[.val (.ref self), .val (.int (8 : Int32)), .val (.ref ta), .val (.ref ha), .val (.int ec), .val (.ref sa), .val (.int (2 : Int32)), .val (.ref b128), .val (.int (3 : Int32)), .val (.int v183)] [(.int v254), (.int (3 : Int32)), (.ref b203)]))
  obtain ⟨cl255, Ar255, S255, H255⟩ := id V244
  have hin255 : ¬ ((3 : Int32) < 0 ∨ cl255.slots.size ≤ ((3 : Int32)).toNatClampNeg) := by rw [S255]; decide
  obtain ⟨T255, h255, X255, e255, W255, st255⟩ := stI X249 hx hZ e249 Ar255 (j := (3 : Int32)) hin255 (g := (mkF m 244 #[.val (.ref self), .val (.int (8 : Int32)), .val (.ref ta), .val (.ref ha), .val (.int ec), .val (.ref sa), .val (.int (2 : Int32)), .val (.ref b128), .val (.int (3 : Int32)), .val (.int v183)] [(.int v254), (.int (3 : Int32)), (.ref b203)])) rfl rfl (hb hby d1_244)
  obtain ⟨f255, hf255⟩ : ∃ g : Nat → Int32, g = fun i => if i = 3 then v254 else f244 i := ⟨_, rfl⟩
  have V255 : Ari Z h255 b203 8 f255 := by rw [hf255]; exact Ari.set Ar255 S255 H255 W255 rfl
  have z255 : h255.size = h244.size := W255.size
  have N255 := Fr.snoc X255 N244 gn219
  have K255 : Keep h0 h255 [self] := K244.wr W255 (Or.inr gz220)
  refine Comes.st st255 ?_
  show Comes p e below _ (T255.setTop (mkF m 245 #[.val (.ref self), .val (.int (8 : Int32)), .val (.ref ta), .val (.ref ha), .val (.int ec), .val (.ref sa), .val (.int (2 : Int32)), .val (.ref b128), .val (.int (3 : Int32)), .val (.int v183)] []))
  refine Comes.st (fun t k => XS.iinc X255.here hx rfl (hb hby d1_245) rfl (l' := #[.val (.ref self), .val (.int (8 : Int32)), .val (.ref ta), .val (.ref ha), .val (.int ec), .val (.ref sa), .val (.int (2 : Int32)), .val (.ref b128), .val (.int (4 : Int32)), .val (.int v183)]) rfl (XS.goto X255.here hx rfl (pc0 := 248) (pc' := 219) rfl (hb hby d1_248) (by decide) (by decide) (XS.iload X255.here hx rfl (hb hby d1_219) rfl (XS.iloadN X255.here hx rfl (hb hby d1_221) rfl k)))) ?_
  show Comes p e below _ (T255.setTop (mkF m 222 #[.val (.ref self), .val (.int (8 : Int32)), .val (.ref ta), .val (.ref ha), .val (.int ec), .val (.ref sa), .val (.int (2 : Int32)), .val (.ref b128), .val (.int (4 : Int32)), .val (.int v183)] [(.int (8 : Int32)), (.int (4 : Int32))]))
  have hc222_256 : (4 : Int32) < (8 : Int32) := by decide
  refine Comes.st (fun t k => XS.icmpNo X255.here hx rfl (hb hby d1_222) rfl (tlt hc222_256).2.1 (XS.aloadN X255.here hx rfl (hb hby d1_225) rfl rfl k)) ?_
  show Comes p e below _ (T255.setTop (mkF m 226 #[.val (.ref self), .val (.int (8 : Int32)), .val (.ref ta), .val (.ref ha), .val (.int ec), .val (.ref sa), .val (.int (2 : Int32)), .val (.ref b128), .val (.int (4 : Int32)), .val (.int v183)] [(.ref self)]))
  have F257 : Fld Z h255 self "com/example/ordr/ordr/layout/LayerNetwork" "incomingStarts" "[I" (.ref b203) := (F246.other W255 (Or.inl (Ne.symm ne216)))
  obtain ⟨T258, X258, e258, st258⟩ := getF X255 hx hZ hown (host := "") (Or.inl (hw _ (List.mem_of_getElem? (i := 24) rfl))) Via.refl e255 F257 (g := (mkF m 226 #[.val (.ref self), .val (.int (8 : Int32)), .val (.ref ta), .val (.ref ha), .val (.int ec), .val (.ref sa), .val (.int (2 : Int32)), .val (.ref b128), .val (.int (4 : Int32)), .val (.int v183)] [(.ref self)])) rfl rfl (hb hby d1_226)
  refine Comes.st st258 ?_
  show Comes p e below _ (T258.setTop (mkF m 229 #[.val (.ref self), .val (.int (8 : Int32)), .val (.ref ta), .val (.ref ha), .val (.int ec), .val (.ref sa), .val (.int (2 : Int32)), .val (.ref b128), .val (.int (4 : Int32)), .val (.int v183)] [(.ref b203)]))
  refine Comes.st (fun t k => XS.iload X258.here hx rfl (hb hby d1_229) rfl (XS.aloadN X258.here hx rfl (hb hby d1_231) rfl rfl k)) ?_
  show Comes p e below _ (T258.setTop (mkF m 232 #[.val (.ref self), .val (.int (8 : Int32)), .val (.ref ta), .val (.ref ha), .val (.int ec), .val (.ref sa), .val (.int (2 : Int32)), .val (.ref b128), .val (.int (4 : Int32)), .val (.int v183)] [(.ref self), (.int (4 : Int32)), (.ref b203)]))
  have F259 : Fld Z h255 self "com/example/ordr/ordr/layout/LayerNetwork" "incidentStarts" "[I" (.ref b15) := (F248.other W255 (Or.inl (Ne.symm ne216)))
  obtain ⟨T260, X260, e260, st260⟩ := getF X258 hx hZ hown (host := "") (Or.inl (hw _ (List.mem_of_getElem? (i := 18) rfl))) Via.refl e258 F259 (g := (mkF m 232 #[.val (.ref self), .val (.int (8 : Int32)), .val (.ref ta), .val (.ref ha), .val (.int ec), .val (.ref sa), .val (.int (2 : Int32)), .val (.ref b128), .val (.int (4 : Int32)), .val (.int v183)] [(.ref self), (.int (4 : Int32)), (.ref b203)])) rfl rfl (hb hby d1_232)
  refine Comes.st st260 ?_
  show Comes p e below _ (T260.setTop (mkF m 235 #[.val (.ref self), .val (.int (8 : Int32)), .val (.ref ta), .val (.ref ha), .val (.int ec), .val (.ref sa), .val (.int (2 : Int32)), .val (.ref b128), .val (.int (4 : Int32)), .val (.int v183)] [(.ref b15), (.int (4 : Int32)), (.ref b203)]))
  refine Comes.st (fun t k => XS.iload X260.here hx rfl (hb hby d1_235) rfl k) ?_
  show Comes p e below _ (T260.setTop (mkF m 237 #[.val (.ref self), .val (.int (8 : Int32)), .val (.ref ta), .val (.ref ha), .val (.int ec), .val (.ref sa), .val (.int (2 : Int32)), .val (.ref b128), .val (.int (4 : Int32)), .val (.int v183)] [(.int (4 : Int32)), (.ref b15), (.int (4 : Int32)), (.ref b203)]))
  have F261 : Ari Z h255 b15 9 f118 := (F250.other W255 ne226)
  obtain ⟨cl262, Ar262, S262, H262⟩ := id F261
  have hin262 : ¬ ((4 : Int32) < 0 ∨ cl262.slots.size ≤ ((4 : Int32)).toNatClampNeg) := by rw [S262]; decide
  refine Comes.st (fun t k => X260.iaload hx (j := (4 : Int32)) (v := (.int (f118 4))) (by rw [e260]; exact Ar262.1) (State.isArrayOf_alike hZ.alike Ar262.2.1) Ar262.2.2 hin262 (H262 _ (Nat.lt_of_not_le fun y => hin262 (Or.inr (S262 ▸ y)))) (g := (mkF m 237 #[.val (.ref self), .val (.int (8 : Int32)), .val (.ref ta), .val (.ref ha), .val (.int ec), .val (.ref sa), .val (.int (2 : Int32)), .val (.ref b128), .val (.int (4 : Int32)), .val (.int v183)] [(.int (4 : Int32)), (.ref b15), (.int (4 : Int32)), (.ref b203)])) rfl rfl (hb hby d1_237) _ (XS.aload X260.here hx rfl (hb hby d1_238) rfl rfl (XS.iload X260.here hx rfl (hb hby d1_240) rfl k))) ?_
  show Comes p e below _ (T260.setTop (mkF m 242 #[.val (.ref self), .val (.int (8 : Int32)), .val (.ref ta), .val (.ref ha), .val (.int ec), .val (.ref sa), .val (.int (2 : Int32)), .val (.ref b128), .val (.int (4 : Int32)), .val (.int v183)] [(.int (4 : Int32)), (.ref b128), (.int (f118 4)), (.int (4 : Int32)), (.ref b203)]))
  have F263 : Ari Z h255 b128 8 f201 := (F252.other W255 ne229)
  obtain ⟨cl264, Ar264, S264, H264⟩ := id F263
  have hin264 : ¬ ((4 : Int32) < 0 ∨ cl264.slots.size ≤ ((4 : Int32)).toNatClampNeg) := by rw [S264]; decide
  refine Comes.st (fun t k => X260.iaload hx (j := (4 : Int32)) (v := (.int (f201 4))) (by rw [e260]; exact Ar264.1) (State.isArrayOf_alike hZ.alike Ar264.2.1) Ar264.2.2 hin264 (H264 _ (Nat.lt_of_not_le fun y => hin264 (Or.inr (S264 ▸ y)))) (g := (mkF m 242 #[.val (.ref self), .val (.int (8 : Int32)), .val (.ref ta), .val (.ref ha), .val (.int ec), .val (.ref sa), .val (.int (2 : Int32)), .val (.ref b128), .val (.int (4 : Int32)), .val (.int v183)] [(.int (4 : Int32)), (.ref b128), (.int (f118 4)), (.int (4 : Int32)), (.ref b203)])) rfl rfl (hb hby d1_242) _ (XS.iadd X260.here hx rfl (hb hby d1_243) rfl k)) ?_
  show Comes p e below _ (T260.setTop (mkF m 244 #[.val (.ref self), .val (.int (8 : Int32)), .val (.ref ta), .val (.ref ha), .val (.int ec), .val (.ref sa), .val (.int (2 : Int32)), .val (.ref b128), .val (.int (4 : Int32)), .val (.int v183)] [(.int ((f118 4) + (f201 4))), (.int (4 : Int32)), (.ref b203)]))
  generalize hv_v265 : ((f118 4) + (f201 4)) = v265
  show Comes p e below _ (T260.setTop (mkF m 244 #[.val (.ref self), .val (.int (8 : Int32)), .val (.ref ta), .val (.ref ha), .val (.int ec), .val (.ref sa), .val (.int (2 : Int32)), .val (.ref b128), .val (.int (4 : Int32)), .val (.int v183)] [(.int v265), (.int (4 : Int32)), (.ref b203)]))
  obtain ⟨cl266, Ar266, S266, H266⟩ := id V255
  have hin266 : ¬ ((4 : Int32) < 0 ∨ cl266.slots.size ≤ ((4 : Int32)).toNatClampNeg) := by rw [S266]; decide
  obtain ⟨T266, h266, X266, e266, W266, st266⟩ := stI X260 hx hZ e260 Ar266 (j := (4 : Int32)) hin266 (g := (mkF m 244 #[.val (.ref self), .val (.int (8 : Int32)), .val (.ref ta), .val (.ref ha), .val (.int ec), .val (.ref sa), .val (.int (2 : Int32)), .val (.ref b128), .val (.int (4 : Int32)), .val (.int v183)] [(.int v265), (.int (4 : Int32)), (.ref b203)])) rfl rfl (hb hby d1_244)
  obtain ⟨f266, hf266⟩ : ∃ g : Nat → Int32, g = fun i => if i = 4 then v265 else f255 i := ⟨_, rfl⟩
  have V266 : Ari Z h266 b203 8 f266 := by rw [hf266]; exact Ari.set Ar266 S266 H266 W266 rfl
  have z266 : h266.size = h255.size := W266.size
  have N266 := Fr.snoc X266 N255 gn219
  have K266 : Keep h0 h266 [self] := K255.wr W266 (Or.inr gz220)
  refine Comes.st st266 ?_
  show Comes p e below _ (T266.setTop (mkF m 245 #[.val (.ref self), .val (.int (8 : Int32)), .val (.ref ta), .val (.ref ha), .val (.int ec), .val (.ref sa), .val (.int (2 : Int32)), .val (.ref b128), .val (.int (4 : Int32)), .val (.int v183)] []))
  refine Comes.st (fun t k => XS.iinc X266.here hx rfl (hb hby d1_245) rfl (l' := #[.val (.ref self), .val (.int (8 : Int32)), .val (.ref ta), .val (.ref ha), .val (.int ec), .val (.ref sa), .val (.int (2 : Int32)), .val (.ref b128), .val (.int (5 : Int32)), .val (.int v183)]) rfl (XS.goto X266.here hx rfl (pc0 := 248) (pc' := 219) rfl (hb hby d1_248) (by decide) (by decide) (XS.iload X266.here hx rfl (hb hby d1_219) rfl (XS.iloadN X266.here hx rfl (hb hby d1_221) rfl k)))) ?_
  show Comes p e below _ (T266.setTop (mkF m 222 #[.val (.ref self), .val (.int (8 : Int32)), .val (.ref ta), .val (.ref ha), .val (.int ec), .val (.ref sa), .val (.int (2 : Int32)), .val (.ref b128), .val (.int (5 : Int32)), .val (.int v183)] [(.int (8 : Int32)), (.int (5 : Int32))]))
  have hc222_267 : (5 : Int32) < (8 : Int32) := by decide
  refine Comes.st (fun t k => XS.icmpNo X266.here hx rfl (hb hby d1_222) rfl (tlt hc222_267).2.1 (XS.aloadN X266.here hx rfl (hb hby d1_225) rfl rfl k)) ?_
  show Comes p e below _ (T266.setTop (mkF m 226 #[.val (.ref self), .val (.int (8 : Int32)), .val (.ref ta), .val (.ref ha), .val (.int ec), .val (.ref sa), .val (.int (2 : Int32)), .val (.ref b128), .val (.int (5 : Int32)), .val (.int v183)] [(.ref self)]))
  have F268 : Fld Z h266 self "com/example/ordr/ordr/layout/LayerNetwork" "incomingStarts" "[I" (.ref b203) := (F257.other W266 (Or.inl (Ne.symm ne216)))
  obtain ⟨T269, X269, e269, st269⟩ := getF X266 hx hZ hown (host := "") (Or.inl (hw _ (List.mem_of_getElem? (i := 24) rfl))) Via.refl e266 F268 (g := (mkF m 226 #[.val (.ref self), .val (.int (8 : Int32)), .val (.ref ta), .val (.ref ha), .val (.int ec), .val (.ref sa), .val (.int (2 : Int32)), .val (.ref b128), .val (.int (5 : Int32)), .val (.int v183)] [(.ref self)])) rfl rfl (hb hby d1_226)
  refine Comes.st st269 ?_
  show Comes p e below _ (T269.setTop (mkF m 229 #[.val (.ref self), .val (.int (8 : Int32)), .val (.ref ta), .val (.ref ha), .val (.int ec), .val (.ref sa), .val (.int (2 : Int32)), .val (.ref b128), .val (.int (5 : Int32)), .val (.int v183)] [(.ref b203)]))
  refine Comes.st (fun t k => XS.iload X269.here hx rfl (hb hby d1_229) rfl (XS.aloadN X269.here hx rfl (hb hby d1_231) rfl rfl k)) ?_
  show Comes p e below _ (T269.setTop (mkF m 232 #[.val (.ref self), .val (.int (8 : Int32)), .val (.ref ta), .val (.ref ha), .val (.int ec), .val (.ref sa), .val (.int (2 : Int32)), .val (.ref b128), .val (.int (5 : Int32)), .val (.int v183)] [(.ref self), (.int (5 : Int32)), (.ref b203)]))
  have F270 : Fld Z h266 self "com/example/ordr/ordr/layout/LayerNetwork" "incidentStarts" "[I" (.ref b15) := (F259.other W266 (Or.inl (Ne.symm ne216)))
  obtain ⟨T271, X271, e271, st271⟩ := getF X269 hx hZ hown (host := "") (Or.inl (hw _ (List.mem_of_getElem? (i := 18) rfl))) Via.refl e269 F270 (g := (mkF m 232 #[.val (.ref self), .val (.int (8 : Int32)), .val (.ref ta), .val (.ref ha), .val (.int ec), .val (.ref sa), .val (.int (2 : Int32)), .val (.ref b128), .val (.int (5 : Int32)), .val (.int v183)] [(.ref self), (.int (5 : Int32)), (.ref b203)])) rfl rfl (hb hby d1_232)
  refine Comes.st st271 ?_
  show Comes p e below _ (T271.setTop (mkF m 235 #[.val (.ref self), .val (.int (8 : Int32)), .val (.ref ta), .val (.ref ha), .val (.int ec), .val (.ref sa), .val (.int (2 : Int32)), .val (.ref b128), .val (.int (5 : Int32)), .val (.int v183)] [(.ref b15), (.int (5 : Int32)), (.ref b203)]))
  refine Comes.st (fun t k => XS.iload X271.here hx rfl (hb hby d1_235) rfl k) ?_
  show Comes p e below _ (T271.setTop (mkF m 237 #[.val (.ref self), .val (.int (8 : Int32)), .val (.ref ta), .val (.ref ha), .val (.int ec), .val (.ref sa), .val (.int (2 : Int32)), .val (.ref b128), .val (.int (5 : Int32)), .val (.int v183)] [(.int (5 : Int32)), (.ref b15), (.int (5 : Int32)), (.ref b203)]))
  have F272 : Ari Z h266 b15 9 f118 := (F261.other W266 ne226)
  obtain ⟨cl273, Ar273, S273, H273⟩ := id F272
  have hin273 : ¬ ((5 : Int32) < 0 ∨ cl273.slots.size ≤ ((5 : Int32)).toNatClampNeg) := by rw [S273]; decide
  refine Comes.st (fun t k => X271.iaload hx (j := (5 : Int32)) (v := (.int (f118 5))) (by rw [e271]; exact Ar273.1) (State.isArrayOf_alike hZ.alike Ar273.2.1) Ar273.2.2 hin273 (H273 _ (Nat.lt_of_not_le fun y => hin273 (Or.inr (S273 ▸ y)))) (g := (mkF m 237 #[.val (.ref self), .val (.int (8 : Int32)), .val (.ref ta), .val (.ref ha), .val (.int ec), .val (.ref sa), .val (.int (2 : Int32)), .val (.ref b128), .val (.int (5 : Int32)), .val (.int v183)] [(.int (5 : Int32)), (.ref b15), (.int (5 : Int32)), (.ref b203)])) rfl rfl (hb hby d1_237) _ (XS.aload X271.here hx rfl (hb hby d1_238) rfl rfl (XS.iload X271.here hx rfl (hb hby d1_240) rfl k))) ?_
  show Comes p e below _ (T271.setTop (mkF m 242 #[.val (.ref self), .val (.int (8 : Int32)), .val (.ref ta), .val (.ref ha), .val (.int ec), .val (.ref sa), .val (.int (2 : Int32)), .val (.ref b128), .val (.int (5 : Int32)), .val (.int v183)] [(.int (5 : Int32)), (.ref b128), (.int (f118 5)), (.int (5 : Int32)), (.ref b203)]))
  have F274 : Ari Z h266 b128 8 f201 := (F263.other W266 ne229)
  obtain ⟨cl275, Ar275, S275, H275⟩ := id F274
  have hin275 : ¬ ((5 : Int32) < 0 ∨ cl275.slots.size ≤ ((5 : Int32)).toNatClampNeg) := by rw [S275]; decide
  refine Comes.st (fun t k => X271.iaload hx (j := (5 : Int32)) (v := (.int (f201 5))) (by rw [e271]; exact Ar275.1) (State.isArrayOf_alike hZ.alike Ar275.2.1) Ar275.2.2 hin275 (H275 _ (Nat.lt_of_not_le fun y => hin275 (Or.inr (S275 ▸ y)))) (g := (mkF m 242 #[.val (.ref self), .val (.int (8 : Int32)), .val (.ref ta), .val (.ref ha), .val (.int ec), .val (.ref sa), .val (.int (2 : Int32)), .val (.ref b128), .val (.int (5 : Int32)), .val (.int v183)] [(.int (5 : Int32)), (.ref b128), (.int (f118 5)), (.int (5 : Int32)), (.ref b203)])) rfl rfl (hb hby d1_242) _ (XS.iadd X271.here hx rfl (hb hby d1_243) rfl k)) ?_
  show Comes p e below _ (T271.setTop (mkF m 244 #[.val (.ref self), .val (.int (8 : Int32)), .val (.ref ta), .val (.ref ha), .val (.int ec), .val (.ref sa), .val (.int (2 : Int32)), .val (.ref b128), .val (.int (5 : Int32)), .val (.int v183)] [(.int ((f118 5) + (f201 5))), (.int (5 : Int32)), (.ref b203)]))
  generalize hv_v276 : ((f118 5) + (f201 5)) = v276
  show Comes p e below _ (T271.setTop (mkF m 244 #[.val (.ref self), .val (.int (8 : Int32)), .val (.ref ta), .val (.ref ha), .val (.int ec), .val (.ref sa), .val (.int (2 : Int32)), .val (.ref b128), .val (.int (5 : Int32)), .val (.int v183)] [(.int v276), (.int (5 : Int32)), (.ref b203)]))
  obtain ⟨cl277, Ar277, S277, H277⟩ := id V266
  have hin277 : ¬ ((5 : Int32) < 0 ∨ cl277.slots.size ≤ ((5 : Int32)).toNatClampNeg) := by rw [S277]; decide
  obtain ⟨T277, h277, X277, e277, W277, st277⟩ := stI X271 hx hZ e271 Ar277 (j := (5 : Int32)) hin277 (g := (mkF m 244 #[.val (.ref self), .val (.int (8 : Int32)), .val (.ref ta), .val (.ref ha), .val (.int ec), .val (.ref sa), .val (.int (2 : Int32)), .val (.ref b128), .val (.int (5 : Int32)), .val (.int v183)] [(.int v276), (.int (5 : Int32)), (.ref b203)])) rfl rfl (hb hby d1_244)
  obtain ⟨f277, hf277⟩ : ∃ g : Nat → Int32, g = fun i => if i = 5 then v276 else f266 i := ⟨_, rfl⟩
  have V277 : Ari Z h277 b203 8 f277 := by rw [hf277]; exact Ari.set Ar277 S277 H277 W277 rfl
  have z277 : h277.size = h266.size := W277.size
  have N277 := Fr.snoc X277 N266 gn219
  have K277 : Keep h0 h277 [self] := K266.wr W277 (Or.inr gz220)
  refine Comes.st st277 ?_
  show Comes p e below _ (T277.setTop (mkF m 245 #[.val (.ref self), .val (.int (8 : Int32)), .val (.ref ta), .val (.ref ha), .val (.int ec), .val (.ref sa), .val (.int (2 : Int32)), .val (.ref b128), .val (.int (5 : Int32)), .val (.int v183)] []))
  refine Comes.st (fun t k => XS.iinc X277.here hx rfl (hb hby d1_245) rfl (l' := #[.val (.ref self), .val (.int (8 : Int32)), .val (.ref ta), .val (.ref ha), .val (.int ec), .val (.ref sa), .val (.int (2 : Int32)), .val (.ref b128), .val (.int (6 : Int32)), .val (.int v183)]) rfl (XS.goto X277.here hx rfl (pc0 := 248) (pc' := 219) rfl (hb hby d1_248) (by decide) (by decide) (XS.iload X277.here hx rfl (hb hby d1_219) rfl (XS.iloadN X277.here hx rfl (hb hby d1_221) rfl k)))) ?_
  show Comes p e below _ (T277.setTop (mkF m 222 #[.val (.ref self), .val (.int (8 : Int32)), .val (.ref ta), .val (.ref ha), .val (.int ec), .val (.ref sa), .val (.int (2 : Int32)), .val (.ref b128), .val (.int (6 : Int32)), .val (.int v183)] [(.int (8 : Int32)), (.int (6 : Int32))]))
  have hc222_278 : (6 : Int32) < (8 : Int32) := by decide
  refine Comes.st (fun t k => XS.icmpNo X277.here hx rfl (hb hby d1_222) rfl (tlt hc222_278).2.1 (XS.aloadN X277.here hx rfl (hb hby d1_225) rfl rfl k)) ?_
  show Comes p e below _ (T277.setTop (mkF m 226 #[.val (.ref self), .val (.int (8 : Int32)), .val (.ref ta), .val (.ref ha), .val (.int ec), .val (.ref sa), .val (.int (2 : Int32)), .val (.ref b128), .val (.int (6 : Int32)), .val (.int v183)] [(.ref self)]))
  have F279 : Fld Z h277 self "com/example/ordr/ordr/layout/LayerNetwork" "incomingStarts" "[I" (.ref b203) := (F268.other W277 (Or.inl (Ne.symm ne216)))
  obtain ⟨T280, X280, e280, st280⟩ := getF X277 hx hZ hown (host := "") (Or.inl (hw _ (List.mem_of_getElem? (i := 24) rfl))) Via.refl e277 F279 (g := (mkF m 226 #[.val (.ref self), .val (.int (8 : Int32)), .val (.ref ta), .val (.ref ha), .val (.int ec), .val (.ref sa), .val (.int (2 : Int32)), .val (.ref b128), .val (.int (6 : Int32)), .val (.int v183)] [(.ref self)])) rfl rfl (hb hby d1_226)
  refine Comes.st st280 ?_
  show Comes p e below _ (T280.setTop (mkF m 229 #[.val (.ref self), .val (.int (8 : Int32)), .val (.ref ta), .val (.ref ha), .val (.int ec), .val (.ref sa), .val (.int (2 : Int32)), .val (.ref b128), .val (.int (6 : Int32)), .val (.int v183)] [(.ref b203)]))
  refine Comes.st (fun t k => XS.iload X280.here hx rfl (hb hby d1_229) rfl (XS.aloadN X280.here hx rfl (hb hby d1_231) rfl rfl k)) ?_
  show Comes p e below _ (T280.setTop (mkF m 232 #[.val (.ref self), .val (.int (8 : Int32)), .val (.ref ta), .val (.ref ha), .val (.int ec), .val (.ref sa), .val (.int (2 : Int32)), .val (.ref b128), .val (.int (6 : Int32)), .val (.int v183)] [(.ref self), (.int (6 : Int32)), (.ref b203)]))
  have F281 : Fld Z h277 self "com/example/ordr/ordr/layout/LayerNetwork" "incidentStarts" "[I" (.ref b15) := (F270.other W277 (Or.inl (Ne.symm ne216)))
  obtain ⟨T282, X282, e282, st282⟩ := getF X280 hx hZ hown (host := "") (Or.inl (hw _ (List.mem_of_getElem? (i := 18) rfl))) Via.refl e280 F281 (g := (mkF m 232 #[.val (.ref self), .val (.int (8 : Int32)), .val (.ref ta), .val (.ref ha), .val (.int ec), .val (.ref sa), .val (.int (2 : Int32)), .val (.ref b128), .val (.int (6 : Int32)), .val (.int v183)] [(.ref self), (.int (6 : Int32)), (.ref b203)])) rfl rfl (hb hby d1_232)
  refine Comes.st st282 ?_
  show Comes p e below _ (T282.setTop (mkF m 235 #[.val (.ref self), .val (.int (8 : Int32)), .val (.ref ta), .val (.ref ha), .val (.int ec), .val (.ref sa), .val (.int (2 : Int32)), .val (.ref b128), .val (.int (6 : Int32)), .val (.int v183)] [(.ref b15), (.int (6 : Int32)), (.ref b203)]))
  refine Comes.st (fun t k => XS.iload X282.here hx rfl (hb hby d1_235) rfl k) ?_
  show Comes p e below _ (T282.setTop (mkF m 237 #[.val (.ref self), .val (.int (8 : Int32)), .val (.ref ta), .val (.ref ha), .val (.int ec), .val (.ref sa), .val (.int (2 : Int32)), .val (.ref b128), .val (.int (6 : Int32)), .val (.int v183)] [(.int (6 : Int32)), (.ref b15), (.int (6 : Int32)), (.ref b203)]))
  have F283 : Ari Z h277 b15 9 f118 := (F272.other W277 ne226)
  obtain ⟨cl284, Ar284, S284, H284⟩ := id F283
  have hin284 : ¬ ((6 : Int32) < 0 ∨ cl284.slots.size ≤ ((6 : Int32)).toNatClampNeg) := by rw [S284]; decide
  refine Comes.st (fun t k => X282.iaload hx (j := (6 : Int32)) (v := (.int (f118 6))) (by rw [e282]; exact Ar284.1) (State.isArrayOf_alike hZ.alike Ar284.2.1) Ar284.2.2 hin284 (H284 _ (Nat.lt_of_not_le fun y => hin284 (Or.inr (S284 ▸ y)))) (g := (mkF m 237 #[.val (.ref self), .val (.int (8 : Int32)), .val (.ref ta), .val (.ref ha), .val (.int ec), .val (.ref sa), .val (.int (2 : Int32)), .val (.ref b128), .val (.int (6 : Int32)), .val (.int v183)] [(.int (6 : Int32)), (.ref b15), (.int (6 : Int32)), (.ref b203)])) rfl rfl (hb hby d1_237) _ (XS.aload X282.here hx rfl (hb hby d1_238) rfl rfl (XS.iload X282.here hx rfl (hb hby d1_240) rfl k))) ?_
  show Comes p e below _ (T282.setTop (mkF m 242 #[.val (.ref self), .val (.int (8 : Int32)), .val (.ref ta), .val (.ref ha), .val (.int ec), .val (.ref sa), .val (.int (2 : Int32)), .val (.ref b128), .val (.int (6 : Int32)), .val (.int v183)] [(.int (6 : Int32)), (.ref b128), (.int (f118 6)), (.int (6 : Int32)), (.ref b203)]))
  have F285 : Ari Z h277 b128 8 f201 := (F274.other W277 ne229)
  obtain ⟨cl286, Ar286, S286, H286⟩ := id F285
  have hin286 : ¬ ((6 : Int32) < 0 ∨ cl286.slots.size ≤ ((6 : Int32)).toNatClampNeg) := by rw [S286]; decide
  refine Comes.st (fun t k => X282.iaload hx (j := (6 : Int32)) (v := (.int (f201 6))) (by rw [e282]; exact Ar286.1) (State.isArrayOf_alike hZ.alike Ar286.2.1) Ar286.2.2 hin286 (H286 _ (Nat.lt_of_not_le fun y => hin286 (Or.inr (S286 ▸ y)))) (g := (mkF m 242 #[.val (.ref self), .val (.int (8 : Int32)), .val (.ref ta), .val (.ref ha), .val (.int ec), .val (.ref sa), .val (.int (2 : Int32)), .val (.ref b128), .val (.int (6 : Int32)), .val (.int v183)] [(.int (6 : Int32)), (.ref b128), (.int (f118 6)), (.int (6 : Int32)), (.ref b203)])) rfl rfl (hb hby d1_242) _ (XS.iadd X282.here hx rfl (hb hby d1_243) rfl k)) ?_
  show Comes p e below _ (T282.setTop (mkF m 244 #[.val (.ref self), .val (.int (8 : Int32)), .val (.ref ta), .val (.ref ha), .val (.int ec), .val (.ref sa), .val (.int (2 : Int32)), .val (.ref b128), .val (.int (6 : Int32)), .val (.int v183)] [(.int ((f118 6) + (f201 6))), (.int (6 : Int32)), (.ref b203)]))
  generalize hv_v287 : ((f118 6) + (f201 6)) = v287
  show Comes p e below _ (T282.setTop (mkF m 244 #[.val (.ref self), .val (.int (8 : Int32)), .val (.ref ta), .val (.ref ha), .val (.int ec), .val (.ref sa), .val (.int (2 : Int32)), .val (.ref b128), .val (.int (6 : Int32)), .val (.int v183)] [(.int v287), (.int (6 : Int32)), (.ref b203)]))
  obtain ⟨cl288, Ar288, S288, H288⟩ := id V277
  have hin288 : ¬ ((6 : Int32) < 0 ∨ cl288.slots.size ≤ ((6 : Int32)).toNatClampNeg) := by rw [S288]; decide
  obtain ⟨T288, h288, X288, e288, W288, st288⟩ := stI X282 hx hZ e282 Ar288 (j := (6 : Int32)) hin288 (g := (mkF m 244 #[.val (.ref self), .val (.int (8 : Int32)), .val (.ref ta), .val (.ref ha), .val (.int ec), .val (.ref sa), .val (.int (2 : Int32)), .val (.ref b128), .val (.int (6 : Int32)), .val (.int v183)] [(.int v287), (.int (6 : Int32)), (.ref b203)])) rfl rfl (hb hby d1_244)
  obtain ⟨f288, hf288⟩ : ∃ g : Nat → Int32, g = fun i => if i = 6 then v287 else f277 i := ⟨_, rfl⟩
  have V288 : Ari Z h288 b203 8 f288 := by rw [hf288]; exact Ari.set Ar288 S288 H288 W288 rfl
  have z288 : h288.size = h277.size := W288.size
  have N288 := Fr.snoc X288 N277 gn219
  have K288 : Keep h0 h288 [self] := K277.wr W288 (Or.inr gz220)
  refine Comes.st st288 ?_
  show Comes p e below _ (T288.setTop (mkF m 245 #[.val (.ref self), .val (.int (8 : Int32)), .val (.ref ta), .val (.ref ha), .val (.int ec), .val (.ref sa), .val (.int (2 : Int32)), .val (.ref b128), .val (.int (6 : Int32)), .val (.int v183)] []))
  refine Comes.st (fun t k => XS.iinc X288.here hx rfl (hb hby d1_245) rfl (l' := #[.val (.ref self), .val (.int (8 : Int32)), .val (.ref ta), .val (.ref ha), .val (.int ec), .val (.ref sa), .val (.int (2 : Int32)), .val (.ref b128), .val (.int (7 : Int32)), .val (.int v183)]) rfl (XS.goto X288.here hx rfl (pc0 := 248) (pc' := 219) rfl (hb hby d1_248) (by decide) (by decide) (XS.iload X288.here hx rfl (hb hby d1_219) rfl (XS.iloadN X288.here hx rfl (hb hby d1_221) rfl k)))) ?_
  show Comes p e below _ (T288.setTop (mkF m 222 #[.val (.ref self), .val (.int (8 : Int32)), .val (.ref ta), .val (.ref ha), .val (.int ec), .val (.ref sa), .val (.int (2 : Int32)), .val (.ref b128), .val (.int (7 : Int32)), .val (.int v183)] [(.int (8 : Int32)), (.int (7 : Int32))]))
  have hc222_289 : (7 : Int32) < (8 : Int32) := by decide
  refine Comes.st (fun t k => XS.icmpNo X288.here hx rfl (hb hby d1_222) rfl (tlt hc222_289).2.1 (XS.aloadN X288.here hx rfl (hb hby d1_225) rfl rfl k)) ?_
  show Comes p e below _ (T288.setTop (mkF m 226 #[.val (.ref self), .val (.int (8 : Int32)), .val (.ref ta), .val (.ref ha), .val (.int ec), .val (.ref sa), .val (.int (2 : Int32)), .val (.ref b128), .val (.int (7 : Int32)), .val (.int v183)] [(.ref self)]))
  have F290 : Fld Z h288 self "com/example/ordr/ordr/layout/LayerNetwork" "incomingStarts" "[I" (.ref b203) := (F279.other W288 (Or.inl (Ne.symm ne216)))
  obtain ⟨T291, X291, e291, st291⟩ := getF X288 hx hZ hown (host := "") (Or.inl (hw _ (List.mem_of_getElem? (i := 24) rfl))) Via.refl e288 F290 (g := (mkF m 226 #[.val (.ref self), .val (.int (8 : Int32)), .val (.ref ta), .val (.ref ha), .val (.int ec), .val (.ref sa), .val (.int (2 : Int32)), .val (.ref b128), .val (.int (7 : Int32)), .val (.int v183)] [(.ref self)])) rfl rfl (hb hby d1_226)
  refine Comes.st st291 ?_
  show Comes p e below _ (T291.setTop (mkF m 229 #[.val (.ref self), .val (.int (8 : Int32)), .val (.ref ta), .val (.ref ha), .val (.int ec), .val (.ref sa), .val (.int (2 : Int32)), .val (.ref b128), .val (.int (7 : Int32)), .val (.int v183)] [(.ref b203)]))
  refine Comes.st (fun t k => XS.iload X291.here hx rfl (hb hby d1_229) rfl (XS.aloadN X291.here hx rfl (hb hby d1_231) rfl rfl k)) ?_
  show Comes p e below _ (T291.setTop (mkF m 232 #[.val (.ref self), .val (.int (8 : Int32)), .val (.ref ta), .val (.ref ha), .val (.int ec), .val (.ref sa), .val (.int (2 : Int32)), .val (.ref b128), .val (.int (7 : Int32)), .val (.int v183)] [(.ref self), (.int (7 : Int32)), (.ref b203)]))
  have F292 : Fld Z h288 self "com/example/ordr/ordr/layout/LayerNetwork" "incidentStarts" "[I" (.ref b15) := (F281.other W288 (Or.inl (Ne.symm ne216)))
  obtain ⟨T293, X293, e293, st293⟩ := getF X291 hx hZ hown (host := "") (Or.inl (hw _ (List.mem_of_getElem? (i := 18) rfl))) Via.refl e291 F292 (g := (mkF m 232 #[.val (.ref self), .val (.int (8 : Int32)), .val (.ref ta), .val (.ref ha), .val (.int ec), .val (.ref sa), .val (.int (2 : Int32)), .val (.ref b128), .val (.int (7 : Int32)), .val (.int v183)] [(.ref self), (.int (7 : Int32)), (.ref b203)])) rfl rfl (hb hby d1_232)
  refine Comes.st st293 ?_
  show Comes p e below _ (T293.setTop (mkF m 235 #[.val (.ref self), .val (.int (8 : Int32)), .val (.ref ta), .val (.ref ha), .val (.int ec), .val (.ref sa), .val (.int (2 : Int32)), .val (.ref b128), .val (.int (7 : Int32)), .val (.int v183)] [(.ref b15), (.int (7 : Int32)), (.ref b203)]))
  refine Comes.st (fun t k => XS.iload X293.here hx rfl (hb hby d1_235) rfl k) ?_
  show Comes p e below _ (T293.setTop (mkF m 237 #[.val (.ref self), .val (.int (8 : Int32)), .val (.ref ta), .val (.ref ha), .val (.int ec), .val (.ref sa), .val (.int (2 : Int32)), .val (.ref b128), .val (.int (7 : Int32)), .val (.int v183)] [(.int (7 : Int32)), (.ref b15), (.int (7 : Int32)), (.ref b203)]))
  have F294 : Ari Z h288 b15 9 f118 := (F283.other W288 ne226)
  obtain ⟨cl295, Ar295, S295, H295⟩ := id F294
  have hin295 : ¬ ((7 : Int32) < 0 ∨ cl295.slots.size ≤ ((7 : Int32)).toNatClampNeg) := by rw [S295]; decide
  refine Comes.st (fun t k => X293.iaload hx (j := (7 : Int32)) (v := (.int (f118 7))) (by rw [e293]; exact Ar295.1) (State.isArrayOf_alike hZ.alike Ar295.2.1) Ar295.2.2 hin295 (H295 _ (Nat.lt_of_not_le fun y => hin295 (Or.inr (S295 ▸ y)))) (g := (mkF m 237 #[.val (.ref self), .val (.int (8 : Int32)), .val (.ref ta), .val (.ref ha), .val (.int ec), .val (.ref sa), .val (.int (2 : Int32)), .val (.ref b128), .val (.int (7 : Int32)), .val (.int v183)] [(.int (7 : Int32)), (.ref b15), (.int (7 : Int32)), (.ref b203)])) rfl rfl (hb hby d1_237) _ (XS.aload X293.here hx rfl (hb hby d1_238) rfl rfl (XS.iload X293.here hx rfl (hb hby d1_240) rfl k))) ?_
  show Comes p e below _ (T293.setTop (mkF m 242 #[.val (.ref self), .val (.int (8 : Int32)), .val (.ref ta), .val (.ref ha), .val (.int ec), .val (.ref sa), .val (.int (2 : Int32)), .val (.ref b128), .val (.int (7 : Int32)), .val (.int v183)] [(.int (7 : Int32)), (.ref b128), (.int (f118 7)), (.int (7 : Int32)), (.ref b203)]))
  have F296 : Ari Z h288 b128 8 f201 := (F285.other W288 ne229)
  obtain ⟨cl297, Ar297, S297, H297⟩ := id F296
  have hin297 : ¬ ((7 : Int32) < 0 ∨ cl297.slots.size ≤ ((7 : Int32)).toNatClampNeg) := by rw [S297]; decide
  refine Comes.st (fun t k => X293.iaload hx (j := (7 : Int32)) (v := (.int (f201 7))) (by rw [e293]; exact Ar297.1) (State.isArrayOf_alike hZ.alike Ar297.2.1) Ar297.2.2 hin297 (H297 _ (Nat.lt_of_not_le fun y => hin297 (Or.inr (S297 ▸ y)))) (g := (mkF m 242 #[.val (.ref self), .val (.int (8 : Int32)), .val (.ref ta), .val (.ref ha), .val (.int ec), .val (.ref sa), .val (.int (2 : Int32)), .val (.ref b128), .val (.int (7 : Int32)), .val (.int v183)] [(.int (7 : Int32)), (.ref b128), (.int (f118 7)), (.int (7 : Int32)), (.ref b203)])) rfl rfl (hb hby d1_242) _ (XS.iadd X293.here hx rfl (hb hby d1_243) rfl k)) ?_
  show Comes p e below _ (T293.setTop (mkF m 244 #[.val (.ref self), .val (.int (8 : Int32)), .val (.ref ta), .val (.ref ha), .val (.int ec), .val (.ref sa), .val (.int (2 : Int32)), .val (.ref b128), .val (.int (7 : Int32)), .val (.int v183)] [(.int ((f118 7) + (f201 7))), (.int (7 : Int32)), (.ref b203)]))
  generalize hv_v298 : ((f118 7) + (f201 7)) = v298
  show Comes p e below _ (T293.setTop (mkF m 244 #[.val (.ref self), .val (.int (8 : Int32)), .val (.ref ta), .val (.ref ha), .val (.int ec), .val (.ref sa), .val (.int (2 : Int32)), .val (.ref b128), .val (.int (7 : Int32)), .val (.int v183)] [(.int v298), (.int (7 : Int32)), (.ref b203)]))
  obtain ⟨cl299, Ar299, S299, H299⟩ := id V288
  have hin299 : ¬ ((7 : Int32) < 0 ∨ cl299.slots.size ≤ ((7 : Int32)).toNatClampNeg) := by rw [S299]; decide
  obtain ⟨T299, h299, X299, e299, W299, st299⟩ := stI X293 hx hZ e293 Ar299 (j := (7 : Int32)) hin299 (g := (mkF m 244 #[.val (.ref self), .val (.int (8 : Int32)), .val (.ref ta), .val (.ref ha), .val (.int ec), .val (.ref sa), .val (.int (2 : Int32)), .val (.ref b128), .val (.int (7 : Int32)), .val (.int v183)] [(.int v298), (.int (7 : Int32)), (.ref b203)])) rfl rfl (hb hby d1_244)
  obtain ⟨f299, hf299⟩ : ∃ g : Nat → Int32, g = fun i => if i = 7 then v298 else f288 i := ⟨_, rfl⟩
  have V299 : Ari Z h299 b203 8 f299 := by rw [hf299]; exact Ari.set Ar299 S299 H299 W299 rfl
  have z299 : h299.size = h288.size := W299.size
  have N299 := Fr.snoc X299 N288 gn219
  have K299 : Keep h0 h299 [self] := K288.wr W299 (Or.inr gz220)
  refine Comes.st st299 ?_
  show Comes p e below _ (T299.setTop (mkF m 245 #[.val (.ref self), .val (.int (8 : Int32)), .val (.ref ta), .val (.ref ha), .val (.int ec), .val (.ref sa), .val (.int (2 : Int32)), .val (.ref b128), .val (.int (7 : Int32)), .val (.int v183)] []))
  refine Comes.st (fun t k => XS.iinc X299.here hx rfl (hb hby d1_245) rfl (l' := #[.val (.ref self), .val (.int (8 : Int32)), .val (.ref ta), .val (.ref ha), .val (.int ec), .val (.ref sa), .val (.int (2 : Int32)), .val (.ref b128), .val (.int (8 : Int32)), .val (.int v183)]) rfl (XS.goto X299.here hx rfl (pc0 := 248) (pc' := 219) rfl (hb hby d1_248) (by decide) (by decide) (XS.iload X299.here hx rfl (hb hby d1_219) rfl (XS.iloadN X299.here hx rfl (hb hby d1_221) rfl k)))) ?_
  show Comes p e below _ (T299.setTop (mkF m 222 #[.val (.ref self), .val (.int (8 : Int32)), .val (.ref ta), .val (.ref ha), .val (.int ec), .val (.ref sa), .val (.int (2 : Int32)), .val (.ref b128), .val (.int (8 : Int32)), .val (.int v183)] [(.int (8 : Int32)), (.int (8 : Int32))]))
  have hc222_300 : ¬ ((8 : Int32) < (8 : Int32)) := by decide
  refine Comes.st (fun t k => XS.icmpYes X299.here hx rfl (pc0 := 222) (pc' := 251) rfl (hb hby d1_222) rfl (flt hc222_300).2.1 (by decide) (by decide) (XS.iconst X299.here hx rfl (hb hby d1_251) (XS.istore X299.here hx rfl (hb hby d1_252) rfl (l' := #[.val (.ref self), .val (.int (8 : Int32)), .val (.ref ta), .val (.ref ha), .val (.int ec), .val (.ref sa), .val (.int (2 : Int32)), .val (.ref b128), .val (.int (0 : Int32)), .val (.int v183)]) rfl (XS.iload X299.here hx rfl (hb hby d1_254) rfl (XS.iload X299.here hx rfl (hb hby d1_256) rfl k))))) ?_
  show Comes p e below _ (T299.setTop (mkF m 258 #[.val (.ref self), .val (.int (8 : Int32)), .val (.ref ta), .val (.ref ha), .val (.int ec), .val (.ref sa), .val (.int (2 : Int32)), .val (.ref b128), .val (.int (0 : Int32)), .val (.int v183)] [(.int (2 : Int32)), (.int (0 : Int32))]))
  have hc258_301 : (0 : Int32) < (2 : Int32) := by decide
  refine Comes.st (fun t k => XS.icmpNo X299.here hx rfl (hb hby d1_258) rfl (tlt hc258_301).2.1 (XS.aloadN X299.here hx rfl (hb hby d1_261) rfl rfl k)) ?_
  show Comes p e below _ (T299.setTop (mkF m 262 #[.val (.ref self), .val (.int (8 : Int32)), .val (.ref ta), .val (.ref ha), .val (.int ec), .val (.ref sa), .val (.int (2 : Int32)), .val (.ref b128), .val (.int (0 : Int32)), .val (.int v183)] [(.ref self)]))
  have F302 : Fld Z h299 self "com/example/ordr/ordr/layout/LayerNetwork" "incidentStarts" "[I" (.ref b15) := (F292.other W299 (Or.inl (Ne.symm ne216)))
  obtain ⟨T303, X303, e303, st303⟩ := getF X299 hx hZ hown (host := "") (Or.inl (hw _ (List.mem_of_getElem? (i := 18) rfl))) Via.refl e299 F302 (g := (mkF m 262 #[.val (.ref self), .val (.int (8 : Int32)), .val (.ref ta), .val (.ref ha), .val (.int ec), .val (.ref sa), .val (.int (2 : Int32)), .val (.ref b128), .val (.int (0 : Int32)), .val (.int v183)] [(.ref self)])) rfl rfl (hb hby d1_262)
  refine Comes.st st303 ?_
  show Comes p e below _ (T303.setTop (mkF m 265 #[.val (.ref self), .val (.int (8 : Int32)), .val (.ref ta), .val (.ref ha), .val (.int ec), .val (.ref sa), .val (.int (2 : Int32)), .val (.ref b128), .val (.int (0 : Int32)), .val (.int v183)] [(.ref b15)]))
  refine Comes.st (fun t k => XS.aloadN X303.here hx rfl (hb hby d1_265) rfl rfl (XS.iload X303.here hx rfl (hb hby d1_266) rfl k)) ?_
  show Comes p e below _ (T303.setTop (mkF m 268 #[.val (.ref self), .val (.int (8 : Int32)), .val (.ref ta), .val (.ref ha), .val (.int ec), .val (.ref sa), .val (.int (2 : Int32)), .val (.ref b128), .val (.int (0 : Int32)), .val (.int v183)] [(.int (0 : Int32)), (.ref ha), (.ref b15)]))
  have ne304 : ha ≠ b203 := by omega
  have F305 : Arv Z h299 ha kh .int (2 : Int32) [(.int h0_), (.int h1)] (.int (0 : Int32)) := ((((((((((((F192.other W195 ne190).other W201 ne191).ext E203).other W206 G18).other W218 ne304).other W233 ne304).other W244 ne304).other W255 ne304).other W266 ne304).other W277 ne304).other W288 ne304).other W299 ne304)
  obtain ⟨cl306, Ar306, q306, S306, Ng306, H306, Gf306⟩ := id F305
  have hin306 : ¬ ((0 : Int32) < 0 ∨ cl306.slots.size ≤ ((0 : Int32)).toNatClampNeg) := inb_of S306 ⟨by decide, by decide⟩
  refine Comes.st (fun t k => X303.iaload hx (j := (0 : Int32)) (v := (.int h0_)) (by rw [e303]; exact Ar306.1) (State.isArrayOf_alike hZ.alike Ar306.2.1) Ar306.2.2 hin306 (Has.at H306 hin306 rfl) (g := (mkF m 268 #[.val (.ref self), .val (.int (8 : Int32)), .val (.ref ta), .val (.ref ha), .val (.int ec), .val (.ref sa), .val (.int (2 : Int32)), .val (.ref b128), .val (.int (0 : Int32)), .val (.int v183)] [(.int (0 : Int32)), (.ref ha), (.ref b15)])) rfl rfl (hb hby d1_268) _ k) ?_
  show Comes p e below _ (T303.setTop (mkF m 269 #[.val (.ref self), .val (.int (8 : Int32)), .val (.ref ta), .val (.ref ha), .val (.int ec), .val (.ref sa), .val (.int (2 : Int32)), .val (.ref b128), .val (.int (0 : Int32)), .val (.int v183)] [(.int h0_), (.ref b15)]))
  have F307 : Ari Z h299 b15 9 f118 := (F294.other W299 ne226)
  obtain ⟨cl308, Ar308, S308, H308⟩ := id F307
  have hin308 : ¬ (h0_ < 0 ∨ cl308.slots.size ≤ (h0_).toNatClampNeg) := by rw [S308]; exact own_inb (own_p0 b_h0_ (by decide))
  refine Comes.st (fun t k => X303.iaload hx (j := h0_) (v := (.int (f118 (h0_).toNatClampNeg))) (by rw [e303]; exact Ar308.1) (State.isArrayOf_alike hZ.alike Ar308.2.1) Ar308.2.2 hin308 (H308 _ (Nat.lt_of_not_le fun y => hin308 (Or.inr (S308 ▸ y)))) (g := (mkF m 269 #[.val (.ref self), .val (.int (8 : Int32)), .val (.ref ta), .val (.ref ha), .val (.int ec), .val (.ref sa), .val (.int (2 : Int32)), .val (.ref b128), .val (.int (0 : Int32)), .val (.int v183)] [(.int h0_), (.ref b15)])) rfl rfl (hb hby d1_269) _ (XS.aload X303.here hx rfl (hb hby d1_270) rfl rfl (XS.aloadN X303.here hx rfl (hb hby d1_272) rfl rfl (XS.iload X303.here hx rfl (hb hby d1_273) rfl k)))) ?_
  show Comes p e below _ (T303.setTop (mkF m 275 #[.val (.ref self), .val (.int (8 : Int32)), .val (.ref ta), .val (.ref ha), .val (.int ec), .val (.ref sa), .val (.int (2 : Int32)), .val (.ref b128), .val (.int (0 : Int32)), .val (.int v183)] [(.int (0 : Int32)), (.ref ha), (.ref b128), (.int (f118 (h0_).toNatClampNeg))]))
  obtain ⟨cl309, Ar309, q309, S309, Ng309, H309, Gf309⟩ := id F305
  have hin309 : ¬ ((0 : Int32) < 0 ∨ cl309.slots.size ≤ ((0 : Int32)).toNatClampNeg) := inb_of S309 ⟨by decide, by decide⟩
  refine Comes.st (fun t k => X303.iaload hx (j := (0 : Int32)) (v := (.int h0_)) (by rw [e303]; exact Ar309.1) (State.isArrayOf_alike hZ.alike Ar309.2.1) Ar309.2.2 hin309 (Has.at H309 hin309 rfl) (g := (mkF m 275 #[.val (.ref self), .val (.int (8 : Int32)), .val (.ref ta), .val (.ref ha), .val (.int ec), .val (.ref sa), .val (.int (2 : Int32)), .val (.ref b128), .val (.int (0 : Int32)), .val (.int v183)] [(.int (0 : Int32)), (.ref ha), (.ref b128), (.int (f118 (h0_).toNatClampNeg))])) rfl rfl (hb hby d1_275) _ k) ?_
  show Comes p e below _ (T303.setTop (mkF m 276 #[.val (.ref self), .val (.int (8 : Int32)), .val (.ref ta), .val (.ref ha), .val (.int ec), .val (.ref sa), .val (.int (2 : Int32)), .val (.ref b128), .val (.int (0 : Int32)), .val (.int v183)] [(.int h0_), (.ref b128), (.int (f118 (h0_).toNatClampNeg))]))
  have F310 : Ari Z h299 b128 8 f201 := (F296.other W299 ne229)
  obtain ⟨cl311, Ar311, S311, H311⟩ := id F310
  have hin311 : ¬ (h0_ < 0 ∨ cl311.slots.size ≤ (h0_).toNatClampNeg) := by rw [S311]; exact own_inb (own_p0 b_h0_ (by decide))
  refine Comes.st (fun t k => X303.iaload hx (j := h0_) (v := (.int (f201 (h0_).toNatClampNeg))) (by rw [e303]; exact Ar311.1) (State.isArrayOf_alike hZ.alike Ar311.2.1) Ar311.2.2 hin311 (H311 _ (Nat.lt_of_not_le fun y => hin311 (Or.inr (S311 ▸ y)))) (g := (mkF m 276 #[.val (.ref self), .val (.int (8 : Int32)), .val (.ref ta), .val (.ref ha), .val (.int ec), .val (.ref sa), .val (.int (2 : Int32)), .val (.ref b128), .val (.int (0 : Int32)), .val (.int v183)] [(.int h0_), (.ref b128), (.int (f118 (h0_).toNatClampNeg))])) rfl rfl (hb hby d1_276) _ (XS.iadd X303.here hx rfl (hb hby d1_277) rfl k)) ?_
  show Comes p e below _ (T303.setTop (mkF m 278 #[.val (.ref self), .val (.int (8 : Int32)), .val (.ref ta), .val (.ref ha), .val (.int ec), .val (.ref sa), .val (.int (2 : Int32)), .val (.ref b128), .val (.int (0 : Int32)), .val (.int v183)] [(.int ((f118 (h0_).toNatClampNeg) + (f201 (h0_).toNatClampNeg)))]))
  generalize hv_v312 : ((f118 (h0_).toNatClampNeg) + (f201 (h0_).toNatClampNeg)) = v312
  show Comes p e below _ (T303.setTop (mkF m 278 #[.val (.ref self), .val (.int (8 : Int32)), .val (.ref ta), .val (.ref ha), .val (.int ec), .val (.ref sa), .val (.int (2 : Int32)), .val (.ref b128), .val (.int (0 : Int32)), .val (.int v183)] [(.int v312)]))
  refine Comes.st (fun t k => XS.istore X303.here hx rfl (hb hby d1_278) rfl (l' := #[.val (.ref self), .val (.int (8 : Int32)), .val (.ref ta), .val (.ref ha), .val (.int ec), .val (.ref sa), .val (.int (2 : Int32)), .val (.ref b128), .val (.int (0 : Int32)), .val (.int v312)]) rfl k) ?_
  have pl_v312 : 0 ≤ v312.toInt ∧ v312.toInt < ((4 : Nat) : Int) := by
    have a := c_iadd (f118 n_h0_) (f201 n_h0_)
    have q := hv_v312
    rw [← hn_h0_] at q
    rw [q] at a
    have b := Lo_f118 n_h0_ (by omega)
    have c := I_f201 n_h0_
    have d := rng32 v312
    simp only [own_dl, own_lm] at b c
    omega
  show Comes p e below _ (T303.setTop (mkF m 280 #[.val (.ref self), .val (.int (8 : Int32)), .val (.ref ta), .val (.ref ha), .val (.int ec), .val (.ref sa), .val (.int (2 : Int32)), .val (.ref b128), .val (.int (0 : Int32)), .val (.int v312)] []))
  refine Comes.st (fun t k => XS.aloadN X303.here hx rfl (hb hby d1_280) rfl rfl k) ?_
  show Comes p e below _ (T303.setTop (mkF m 281 #[.val (.ref self), .val (.int (8 : Int32)), .val (.ref ta), .val (.ref ha), .val (.int ec), .val (.ref sa), .val (.int (2 : Int32)), .val (.ref b128), .val (.int (0 : Int32)), .val (.int v312)] [(.ref self)]))
  have F313 : Fld Z h299 self "com/example/ordr/ordr/layout/LayerNetwork" "incident" "[I" (.ref b120) := (((((((((((((F184.other W187 (Or.inl (Ne.symm ne141))).other W195 (Or.inl (Ne.symm ne151))).other W201 (Or.inl ne170)).ext E203).other W206 (Or.inr (slot_ne (Or.inr (hw _ (List.mem_of_getElem? (i := 21) rfl))) (Or.inr (hw _ (List.mem_of_getElem? (i := 25) rfl))) (by decide) (t := (.array .int)) (t' := (.array .int)) (by decide) (by decide)))).other W218 (Or.inl (Ne.symm ne216))).other W233 (Or.inl (Ne.symm ne216))).other W244 (Or.inl (Ne.symm ne216))).other W255 (Or.inl (Ne.symm ne216))).other W266 (Or.inl (Ne.symm ne216))).other W277 (Or.inl (Ne.symm ne216))).other W288 (Or.inl (Ne.symm ne216))).other W299 (Or.inl (Ne.symm ne216)))
  obtain ⟨T314, X314, e314, st314⟩ := getF X303 hx hZ hown (host := "") (Or.inl (hw _ (List.mem_of_getElem? (i := 20) rfl))) Via.refl e303 F313 (g := (mkF m 281 #[.val (.ref self), .val (.int (8 : Int32)), .val (.ref ta), .val (.ref ha), .val (.int ec), .val (.ref sa), .val (.int (2 : Int32)), .val (.ref b128), .val (.int (0 : Int32)), .val (.int v312)] [(.ref self)])) rfl rfl (hb hby d1_281)
  refine Comes.st st314 ?_
  show Comes p e below _ (T314.setTop (mkF m 284 #[.val (.ref self), .val (.int (8 : Int32)), .val (.ref ta), .val (.ref ha), .val (.int ec), .val (.ref sa), .val (.int (2 : Int32)), .val (.ref b128), .val (.int (0 : Int32)), .val (.int v312)] [(.ref b120)]))
  refine Comes.st (fun t k => XS.iload X314.here hx rfl (hb hby d1_284) rfl (XS.iload X314.here hx rfl (hb hby d1_286) rfl k)) ?_
  show Comes p e below _ (T314.setTop (mkF m 288 #[.val (.ref self), .val (.int (8 : Int32)), .val (.ref ta), .val (.ref ha), .val (.int ec), .val (.ref sa), .val (.int (2 : Int32)), .val (.ref b128), .val (.int (0 : Int32)), .val (.int v312)] [(.int (0 : Int32)), (.int v312), (.ref b120)]))
  have ne315 : b120 ≠ b203 := by omega
  have F316 : Ari Z h299 b120 4 f187 := ((((((((((((V187.other W195 (Ne.symm ne152)).other W201 (Ne.symm ne161)).ext E203).other W206 ne141).other W218 ne315).other W233 ne315).other W244 ne315).other W255 ne315).other W266 ne315).other W277 ne315).other W288 ne315).other W299 ne315)
  obtain ⟨cl317, Ar317, S317, H317⟩ := id F316
  have hin317 : ¬ (v312 < 0 ∨ cl317.slots.size ≤ (v312).toNatClampNeg) := by rw [S317]; exact own_inb pl_v312
  obtain ⟨T317, h317, X317, e317, W317, st317⟩ := stI X314 hx hZ e314 Ar317 (j := v312) hin317 (g := (mkF m 288 #[.val (.ref self), .val (.int (8 : Int32)), .val (.ref ta), .val (.ref ha), .val (.int ec), .val (.ref sa), .val (.int (2 : Int32)), .val (.ref b128), .val (.int (0 : Int32)), .val (.int v312)] [(.int (0 : Int32)), (.int v312), (.ref b120)])) rfl rfl (hb hby d1_288)
  obtain ⟨f317, hf317⟩ : ∃ g : Nat → Int32, g = fun i => if i = (v312).toNatClampNeg then (0 : Int32) else f187 i := ⟨_, rfl⟩
  have V317 : Ari Z h317 b120 4 f317 := by rw [hf317]; exact Ari.set Ar317 S317 H317 W317 rfl
  have z317 : h317.size = h299.size := W317.size
  have N317 := Fr.snoc X317 N299 gn144
  have K317 : Keep h0 h317 [self] := K299.wr W317 (Or.inr gz145)
  refine Comes.st st317 ?_
  show Comes p e below _ (T317.setTop (mkF m 289 #[.val (.ref self), .val (.int (8 : Int32)), .val (.ref ta), .val (.ref ha), .val (.int ec), .val (.ref sa), .val (.int (2 : Int32)), .val (.ref b128), .val (.int (0 : Int32)), .val (.int v312)] []))
  refine Comes.st (fun t k => XS.aloadN X317.here hx rfl (hb hby d1_289) rfl rfl k) ?_
  show Comes p e below _ (T317.setTop (mkF m 290 #[.val (.ref self), .val (.int (8 : Int32)), .val (.ref ta), .val (.ref ha), .val (.int ec), .val (.ref sa), .val (.int (2 : Int32)), .val (.ref b128), .val (.int (0 : Int32)), .val (.int v312)] [(.ref self)]))
  have F318 : Fld Z h317 self "com/example/ordr/ordr/layout/LayerNetwork" "otherEnds" "[I" (.ref b124) := (((((((((((((F188.other W195 (Or.inl (Ne.symm ne151))).other W201 (Or.inl ne170)).ext E203).other W206 (Or.inr (slot_ne (Or.inr (hw _ (List.mem_of_getElem? (i := 23) rfl))) (Or.inr (hw _ (List.mem_of_getElem? (i := 25) rfl))) (by decide) (t := (.array .int)) (t' := (.array .int)) (by decide) (by decide)))).other W218 (Or.inl (Ne.symm ne216))).other W233 (Or.inl (Ne.symm ne216))).other W244 (Or.inl (Ne.symm ne216))).other W255 (Or.inl (Ne.symm ne216))).other W266 (Or.inl (Ne.symm ne216))).other W277 (Or.inl (Ne.symm ne216))).other W288 (Or.inl (Ne.symm ne216))).other W299 (Or.inl (Ne.symm ne216))).other W317 (Or.inl (Ne.symm ne141)))
  obtain ⟨T319, X319, e319, st319⟩ := getF X317 hx hZ hown (host := "") (Or.inl (hw _ (List.mem_of_getElem? (i := 22) rfl))) Via.refl e317 F318 (g := (mkF m 290 #[.val (.ref self), .val (.int (8 : Int32)), .val (.ref ta), .val (.ref ha), .val (.int ec), .val (.ref sa), .val (.int (2 : Int32)), .val (.ref b128), .val (.int (0 : Int32)), .val (.int v312)] [(.ref self)])) rfl rfl (hb hby d1_290)
  refine Comes.st st319 ?_
  show Comes p e below _ (T319.setTop (mkF m 293 #[.val (.ref self), .val (.int (8 : Int32)), .val (.ref ta), .val (.ref ha), .val (.int ec), .val (.ref sa), .val (.int (2 : Int32)), .val (.ref b128), .val (.int (0 : Int32)), .val (.int v312)] [(.ref b124)]))
  refine Comes.st (fun t k => XS.iload X319.here hx rfl (hb hby d1_293) rfl (XS.aloadN X319.here hx rfl (hb hby d1_295) rfl rfl (XS.iload X319.here hx rfl (hb hby d1_296) rfl k))) ?_
  show Comes p e below _ (T319.setTop (mkF m 298 #[.val (.ref self), .val (.int (8 : Int32)), .val (.ref ta), .val (.ref ha), .val (.int ec), .val (.ref sa), .val (.int (2 : Int32)), .val (.ref b128), .val (.int (0 : Int32)), .val (.int v312)] [(.int (0 : Int32)), (.ref ta), (.int v312), (.ref b124)]))
  have ne320 : ta ≠ b203 := by omega
  have F321 : Arv Z h317 ta kt .int (2 : Int32) [(.int t0), (.int t1)] (.int (0 : Int32)) := ((((((((((((F196.other W201 ne173).ext E203).other W206 G17).other W218 ne320).other W233 ne320).other W244 ne320).other W255 ne320).other W266 ne320).other W277 ne320).other W288 ne320).other W299 ne320).other W317 ne157)
  obtain ⟨cl322, Ar322, q322, S322, Ng322, H322, Gf322⟩ := id F321
  have hin322 : ¬ ((0 : Int32) < 0 ∨ cl322.slots.size ≤ ((0 : Int32)).toNatClampNeg) := inb_of S322 ⟨by decide, by decide⟩
  refine Comes.st (fun t k => X319.iaload hx (j := (0 : Int32)) (v := (.int t0)) (by rw [e319]; exact Ar322.1) (State.isArrayOf_alike hZ.alike Ar322.2.1) Ar322.2.2 hin322 (Has.at H322 hin322 rfl) (g := (mkF m 298 #[.val (.ref self), .val (.int (8 : Int32)), .val (.ref ta), .val (.ref ha), .val (.int ec), .val (.ref sa), .val (.int (2 : Int32)), .val (.ref b128), .val (.int (0 : Int32)), .val (.int v312)] [(.int (0 : Int32)), (.ref ta), (.int v312), (.ref b124)])) rfl rfl (hb hby d1_298) _ k) ?_
  show Comes p e below _ (T319.setTop (mkF m 299 #[.val (.ref self), .val (.int (8 : Int32)), .val (.ref ta), .val (.ref ha), .val (.int ec), .val (.ref sa), .val (.int (2 : Int32)), .val (.ref b128), .val (.int (0 : Int32)), .val (.int v312)] [(.int t0), (.int v312), (.ref b124)]))
  have ne323 : b124 ≠ b203 := by omega
  have F324 : Ari Z h317 b124 4 f195 := ((((((((((((V195.other W201 (Ne.symm ne162)).ext E203).other W206 ne151).other W218 ne323).other W233 ne323).other W244 ne323).other W255 ne323).other W266 ne323).other W277 ne323).other W288 ne323).other W299 ne323).other W317 ne152)
  obtain ⟨cl325, Ar325, S325, H325⟩ := id F324
  have hin325 : ¬ (v312 < 0 ∨ cl325.slots.size ≤ (v312).toNatClampNeg) := by rw [S325]; exact own_inb pl_v312
  obtain ⟨T325, h325, X325, e325, W325, st325⟩ := stI X319 hx hZ e319 Ar325 (j := v312) hin325 (g := (mkF m 299 #[.val (.ref self), .val (.int (8 : Int32)), .val (.ref ta), .val (.ref ha), .val (.int ec), .val (.ref sa), .val (.int (2 : Int32)), .val (.ref b128), .val (.int (0 : Int32)), .val (.int v312)] [(.int t0), (.int v312), (.ref b124)])) rfl rfl (hb hby d1_299)
  obtain ⟨f325, hf325⟩ : ∃ g : Nat → Int32, g = fun i => if i = (v312).toNatClampNeg then t0 else f195 i := ⟨_, rfl⟩
  have V325 : Ari Z h325 b124 4 f325 := by rw [hf325]; exact Ari.set Ar325 S325 H325 W325 rfl
  have z325 : h325.size = h317.size := W325.size
  have N325 := Fr.snoc X325 N317 gn155
  have K325 : Keep h0 h325 [self] := K317.wr W325 (Or.inr gz156)
  refine Comes.st st325 ?_
  show Comes p e below _ (T325.setTop (mkF m 300 #[.val (.ref self), .val (.int (8 : Int32)), .val (.ref ta), .val (.ref ha), .val (.int ec), .val (.ref sa), .val (.int (2 : Int32)), .val (.ref b128), .val (.int (0 : Int32)), .val (.int v312)] []))
  refine Comes.st (fun t k => XS.aload X325.here hx rfl (hb hby d1_300) rfl rfl (XS.aloadN X325.here hx rfl (hb hby d1_302) rfl rfl (XS.iload X325.here hx rfl (hb hby d1_303) rfl k))) ?_
  show Comes p e below _ (T325.setTop (mkF m 305 #[.val (.ref self), .val (.int (8 : Int32)), .val (.ref ta), .val (.ref ha), .val (.int ec), .val (.ref sa), .val (.int (2 : Int32)), .val (.ref b128), .val (.int (0 : Int32)), .val (.int v312)] [(.int (0 : Int32)), (.ref ha), (.ref b128)]))
  have F326 : Arv Z h325 ha kh .int (2 : Int32) [(.int h0_), (.int h1)] (.int (0 : Int32)) := ((F305.other W317 ne148).other W325 ne190)
  obtain ⟨cl327, Ar327, q327, S327, Ng327, H327, Gf327⟩ := id F326
  have hin327 : ¬ ((0 : Int32) < 0 ∨ cl327.slots.size ≤ ((0 : Int32)).toNatClampNeg) := inb_of S327 ⟨by decide, by decide⟩
  refine Comes.st (fun t k => X325.iaload hx (j := (0 : Int32)) (v := (.int h0_)) (by rw [e325]; exact Ar327.1) (State.isArrayOf_alike hZ.alike Ar327.2.1) Ar327.2.2 hin327 (Has.at H327 hin327 rfl) (g := (mkF m 305 #[.val (.ref self), .val (.int (8 : Int32)), .val (.ref ta), .val (.ref ha), .val (.int ec), .val (.ref sa), .val (.int (2 : Int32)), .val (.ref b128), .val (.int (0 : Int32)), .val (.int v312)] [(.int (0 : Int32)), (.ref ha), (.ref b128)])) rfl rfl (hb hby d1_305) _ (own_dup2 X325 hx rfl (hb hby d1_306) rfl rfl rfl k)) ?_
  show Comes p e below _ (T325.setTop (mkF m 307 #[.val (.ref self), .val (.int (8 : Int32)), .val (.ref ta), .val (.ref ha), .val (.int ec), .val (.ref sa), .val (.int (2 : Int32)), .val (.ref b128), .val (.int (0 : Int32)), .val (.int v312)] [(.int h0_), (.ref b128), (.int h0_), (.ref b128)]))
  have F328 : Ari Z h325 b128 8 f201 := ((F310.other W317 ne161).other W325 ne162)
  obtain ⟨cl329, Ar329, S329, H329⟩ := id F328
  have hin329 : ¬ (h0_ < 0 ∨ cl329.slots.size ≤ (h0_).toNatClampNeg) := by rw [S329]; exact own_inb (own_p0 b_h0_ (by decide))
  refine Comes.st (fun t k => X325.iaload hx (j := h0_) (v := (.int (f201 (h0_).toNatClampNeg))) (by rw [e325]; exact Ar329.1) (State.isArrayOf_alike hZ.alike Ar329.2.1) Ar329.2.2 hin329 (H329 _ (Nat.lt_of_not_le fun y => hin329 (Or.inr (S329 ▸ y)))) (g := (mkF m 307 #[.val (.ref self), .val (.int (8 : Int32)), .val (.ref ta), .val (.ref ha), .val (.int ec), .val (.ref sa), .val (.int (2 : Int32)), .val (.ref b128), .val (.int (0 : Int32)), .val (.int v312)] [(.int h0_), (.ref b128), (.int h0_), (.ref b128)])) rfl rfl (hb hby d1_307) _ (XS.iconst X325.here hx rfl (hb hby d1_308) (XS.iadd X325.here hx rfl (hb hby d1_309) rfl k))) ?_
  show Comes p e below _ (T325.setTop (mkF m 310 #[.val (.ref self), .val (.int (8 : Int32)), .val (.ref ta), .val (.ref ha), .val (.int ec), .val (.ref sa), .val (.int (2 : Int32)), .val (.ref b128), .val (.int (0 : Int32)), .val (.int v312)] [(.int ((f201 (h0_).toNatClampNeg) + (1 : Int32))), (.int h0_), (.ref b128)]))
  generalize hv_v330 : ((f201 (h0_).toNatClampNeg) + (1 : Int32)) = v330
  show Comes p e below _ (T325.setTop (mkF m 310 #[.val (.ref self), .val (.int (8 : Int32)), .val (.ref ta), .val (.ref ha), .val (.int ec), .val (.ref sa), .val (.int (2 : Int32)), .val (.ref b128), .val (.int (0 : Int32)), .val (.int v312)] [(.int v330), (.int h0_), (.ref b128)]))
  obtain ⟨cl331, Ar331, S331, H331⟩ := id F328
  have hin331 : ¬ (h0_ < 0 ∨ cl331.slots.size ≤ (h0_).toNatClampNeg) := by rw [S331]; exact own_inb (own_p0 b_h0_ (by decide))
  obtain ⟨T331, h331, X331, e331, W331, st331⟩ := stI X325 hx hZ e325 Ar331 (j := h0_) hin331 (g := (mkF m 310 #[.val (.ref self), .val (.int (8 : Int32)), .val (.ref ta), .val (.ref ha), .val (.int ec), .val (.ref sa), .val (.int (2 : Int32)), .val (.ref b128), .val (.int (0 : Int32)), .val (.int v312)] [(.int v330), (.int h0_), (.ref b128)])) rfl rfl (hb hby d1_310)
  obtain ⟨f331, hf331⟩ : ∃ g : Nat → Int32, g = fun i => if i = (h0_).toNatClampNeg then v330 else f201 i := ⟨_, rfl⟩
  have V331 : Ari Z h331 b128 8 f331 := by rw [hf331]; exact Ari.set Ar331 S331 H331 W331 rfl
  have z331 : h331.size = h325.size := W331.size
  have N331 := Fr.snoc X331 N325 gn167
  have K331 : Keep h0 h331 [self] := K325.wr W331 (Or.inr gz168)
  have hK_f331 : (h0_).toNatClampNeg = n_h0_ := hn_h0_.symm
  have hv_f331 := hv_v330
  rw [hK_f331] at hf331 hv_f331
  have I_f331 : ∀ i, (f331 i).toInt = (fun i => (0 : Int) + own_dl n_t0 i + own_dl n_t1 i + own_dl n_h0_ i) i := own_inc (S := fun i => (0 : Int) + own_dl n_t0 i + own_dl n_t1 i) I_f201 (fun i => by have a0 := own_dlb (n_t0) i; have a1 := own_dlb (n_t1) i; show 0 ≤ (0 : Int) + own_dl (n_t0) i + own_dl (n_t1) i ∧ (0 : Int) + own_dl (n_t0) i + own_dl (n_t1) i ≤ 100; omega) hv_f331 hf331
  refine Comes.st st331 ?_
  show Comes p e below _ (T331.setTop (mkF m 311 #[.val (.ref self), .val (.int (8 : Int32)), .val (.ref ta), .val (.ref ha), .val (.int ec), .val (.ref sa), .val (.int (2 : Int32)), .val (.ref b128), .val (.int (0 : Int32)), .val (.int v312)] []))
  refine Comes.st (fun t k => XS.iinc X331.here hx rfl (hb hby d1_311) rfl (l' := #[.val (.ref self), .val (.int (8 : Int32)), .val (.ref ta), .val (.ref ha), .val (.int ec), .val (.ref sa), .val (.int (2 : Int32)), .val (.ref b128), .val (.int (1 : Int32)), .val (.int v312)]) rfl (XS.goto X331.here hx rfl (pc0 := 314) (pc' := 254) rfl (hb hby d1_314) (by decide) (by decide) (XS.iload X331.here hx rfl (hb hby d1_254) rfl (XS.iload X331.here hx rfl (hb hby d1_256) rfl k)))) ?_
  show Comes p e below _ (T331.setTop (mkF m 258 #[.val (.ref self), .val (.int (8 : Int32)), .val (.ref ta), .val (.ref ha), .val (.int ec), .val (.ref sa), .val (.int (2 : Int32)), .val (.ref b128), .val (.int (1 : Int32)), .val (.int v312)] [(.int (2 : Int32)), (.int (1 : Int32))]))
  have hc258_332 : (1 : Int32) < (2 : Int32) := by decide
  refine Comes.st (fun t k => XS.icmpNo X331.here hx rfl (hb hby d1_258) rfl (tlt hc258_332).2.1 (XS.aloadN X331.here hx rfl (hb hby d1_261) rfl rfl k)) ?_
  show Comes p e below _ (T331.setTop (mkF m 262 #[.val (.ref self), .val (.int (8 : Int32)), .val (.ref ta), .val (.ref ha), .val (.int ec), .val (.ref sa), .val (.int (2 : Int32)), .val (.ref b128), .val (.int (1 : Int32)), .val (.int v312)] [(.ref self)]))
  have F333 : Fld Z h331 self "com/example/ordr/ordr/layout/LayerNetwork" "incidentStarts" "[I" (.ref b15) := (((F302.other W317 (Or.inl (Ne.symm ne141))).other W325 (Or.inl (Ne.symm ne151))).other W331 (Or.inl ne170))
  obtain ⟨T334, X334, e334, st334⟩ := getF X331 hx hZ hown (host := "") (Or.inl (hw _ (List.mem_of_getElem? (i := 18) rfl))) Via.refl e331 F333 (g := (mkF m 262 #[.val (.ref self), .val (.int (8 : Int32)), .val (.ref ta), .val (.ref ha), .val (.int ec), .val (.ref sa), .val (.int (2 : Int32)), .val (.ref b128), .val (.int (1 : Int32)), .val (.int v312)] [(.ref self)])) rfl rfl (hb hby d1_262)
  refine Comes.st st334 ?_
  show Comes p e below _ (T334.setTop (mkF m 265 #[.val (.ref self), .val (.int (8 : Int32)), .val (.ref ta), .val (.ref ha), .val (.int ec), .val (.ref sa), .val (.int (2 : Int32)), .val (.ref b128), .val (.int (1 : Int32)), .val (.int v312)] [(.ref b15)]))
  refine Comes.st (fun t k => XS.aloadN X334.here hx rfl (hb hby d1_265) rfl rfl (XS.iload X334.here hx rfl (hb hby d1_266) rfl k)) ?_
  show Comes p e below _ (T334.setTop (mkF m 268 #[.val (.ref self), .val (.int (8 : Int32)), .val (.ref ta), .val (.ref ha), .val (.int ec), .val (.ref sa), .val (.int (2 : Int32)), .val (.ref b128), .val (.int (1 : Int32)), .val (.int v312)] [(.int (1 : Int32)), (.ref ha), (.ref b15)]))
  have F335 : Arv Z h331 ha kh .int (2 : Int32) [(.int h0_), (.int h1)] (.int (0 : Int32)) := (F326.other W331 ne191)
  obtain ⟨cl336, Ar336, q336, S336, Ng336, H336, Gf336⟩ := id F335
  have hin336 : ¬ ((1 : Int32) < 0 ∨ cl336.slots.size ≤ ((1 : Int32)).toNatClampNeg) := inb_of S336 ⟨by decide, by decide⟩
  refine Comes.st (fun t k => X334.iaload hx (j := (1 : Int32)) (v := (.int h1)) (by rw [e334]; exact Ar336.1) (State.isArrayOf_alike hZ.alike Ar336.2.1) Ar336.2.2 hin336 (Has.at H336 hin336 rfl) (g := (mkF m 268 #[.val (.ref self), .val (.int (8 : Int32)), .val (.ref ta), .val (.ref ha), .val (.int ec), .val (.ref sa), .val (.int (2 : Int32)), .val (.ref b128), .val (.int (1 : Int32)), .val (.int v312)] [(.int (1 : Int32)), (.ref ha), (.ref b15)])) rfl rfl (hb hby d1_268) _ k) ?_
  show Comes p e below _ (T334.setTop (mkF m 269 #[.val (.ref self), .val (.int (8 : Int32)), .val (.ref ta), .val (.ref ha), .val (.int ec), .val (.ref sa), .val (.int (2 : Int32)), .val (.ref b128), .val (.int (1 : Int32)), .val (.int v312)] [(.int h1), (.ref b15)]))
  have F337 : Ari Z h331 b15 9 f118 := (((F307.other W317 ne176).other W325 ne177).other W331 ne178)
  obtain ⟨cl338, Ar338, S338, H338⟩ := id F337
  have hin338 : ¬ (h1 < 0 ∨ cl338.slots.size ≤ (h1).toNatClampNeg) := by rw [S338]; exact own_inb (own_p0 b_h1 (by decide))
  refine Comes.st (fun t k => X334.iaload hx (j := h1) (v := (.int (f118 (h1).toNatClampNeg))) (by rw [e334]; exact Ar338.1) (State.isArrayOf_alike hZ.alike Ar338.2.1) Ar338.2.2 hin338 (H338 _ (Nat.lt_of_not_le fun y => hin338 (Or.inr (S338 ▸ y)))) (g := (mkF m 269 #[.val (.ref self), .val (.int (8 : Int32)), .val (.ref ta), .val (.ref ha), .val (.int ec), .val (.ref sa), .val (.int (2 : Int32)), .val (.ref b128), .val (.int (1 : Int32)), .val (.int v312)] [(.int h1), (.ref b15)])) rfl rfl (hb hby d1_269) _ (XS.aload X334.here hx rfl (hb hby d1_270) rfl rfl (XS.aloadN X334.here hx rfl (hb hby d1_272) rfl rfl (XS.iload X334.here hx rfl (hb hby d1_273) rfl k)))) ?_
  show Comes p e below _ (T334.setTop (mkF m 275 #[.val (.ref self), .val (.int (8 : Int32)), .val (.ref ta), .val (.ref ha), .val (.int ec), .val (.ref sa), .val (.int (2 : Int32)), .val (.ref b128), .val (.int (1 : Int32)), .val (.int v312)] [(.int (1 : Int32)), (.ref ha), (.ref b128), (.int (f118 (h1).toNatClampNeg))]))
  obtain ⟨cl339, Ar339, q339, S339, Ng339, H339, Gf339⟩ := id F335
  have hin339 : ¬ ((1 : Int32) < 0 ∨ cl339.slots.size ≤ ((1 : Int32)).toNatClampNeg) := inb_of S339 ⟨by decide, by decide⟩
  refine Comes.st (fun t k => X334.iaload hx (j := (1 : Int32)) (v := (.int h1)) (by rw [e334]; exact Ar339.1) (State.isArrayOf_alike hZ.alike Ar339.2.1) Ar339.2.2 hin339 (Has.at H339 hin339 rfl) (g := (mkF m 275 #[.val (.ref self), .val (.int (8 : Int32)), .val (.ref ta), .val (.ref ha), .val (.int ec), .val (.ref sa), .val (.int (2 : Int32)), .val (.ref b128), .val (.int (1 : Int32)), .val (.int v312)] [(.int (1 : Int32)), (.ref ha), (.ref b128), (.int (f118 (h1).toNatClampNeg))])) rfl rfl (hb hby d1_275) _ k) ?_
  show Comes p e below _ (T334.setTop (mkF m 276 #[.val (.ref self), .val (.int (8 : Int32)), .val (.ref ta), .val (.ref ha), .val (.int ec), .val (.ref sa), .val (.int (2 : Int32)), .val (.ref b128), .val (.int (1 : Int32)), .val (.int v312)] [(.int h1), (.ref b128), (.int (f118 (h1).toNatClampNeg))]))
  obtain ⟨cl340, Ar340, S340, H340⟩ := id V331
  have hin340 : ¬ (h1 < 0 ∨ cl340.slots.size ≤ (h1).toNatClampNeg) := by rw [S340]; exact own_inb (own_p0 b_h1 (by decide))
  refine Comes.st (fun t k => X334.iaload hx (j := h1) (v := (.int (f331 (h1).toNatClampNeg))) (by rw [e334]; exact Ar340.1) (State.isArrayOf_alike hZ.alike Ar340.2.1) Ar340.2.2 hin340 (H340 _ (Nat.lt_of_not_le fun y => hin340 (Or.inr (S340 ▸ y)))) (g := (mkF m 276 #[.val (.ref self), .val (.int (8 : Int32)), .val (.ref ta), .val (.ref ha), .val (.int ec), .val (.ref sa), .val (.int (2 : Int32)), .val (.ref b128), .val (.int (1 : Int32)), .val (.int v312)] [(.int h1), (.ref b128), (.int (f118 (h1).toNatClampNeg))])) rfl rfl (hb hby d1_276) _ (XS.iadd X334.here hx rfl (hb hby d1_277) rfl k)) ?_
  show Comes p e below _ (T334.setTop (mkF m 278 #[.val (.ref self), .val (.int (8 : Int32)), .val (.ref ta), .val (.ref ha), .val (.int ec), .val (.ref sa), .val (.int (2 : Int32)), .val (.ref b128), .val (.int (1 : Int32)), .val (.int v312)] [(.int ((f118 (h1).toNatClampNeg) + (f331 (h1).toNatClampNeg)))]))
  generalize hv_v341 : ((f118 (h1).toNatClampNeg) + (f331 (h1).toNatClampNeg)) = v341
  show Comes p e below _ (T334.setTop (mkF m 278 #[.val (.ref self), .val (.int (8 : Int32)), .val (.ref ta), .val (.ref ha), .val (.int ec), .val (.ref sa), .val (.int (2 : Int32)), .val (.ref b128), .val (.int (1 : Int32)), .val (.int v312)] [(.int v341)]))
  refine Comes.st (fun t k => XS.istore X334.here hx rfl (hb hby d1_278) rfl (l' := #[.val (.ref self), .val (.int (8 : Int32)), .val (.ref ta), .val (.ref ha), .val (.int ec), .val (.ref sa), .val (.int (2 : Int32)), .val (.ref b128), .val (.int (1 : Int32)), .val (.int v341)]) rfl k) ?_
  have pl_v341 : 0 ≤ v341.toInt ∧ v341.toInt < ((4 : Nat) : Int) := by
    have a := c_iadd (f118 n_h1) (f331 n_h1)
    have q := hv_v341
    rw [← hn_h1] at q
    rw [q] at a
    have b := Lo_f118 n_h1 (by omega)
    have c := I_f331 n_h1
    have d := rng32 v341
    simp only [own_dl, own_lm] at b c
    omega
  show Comes p e below _ (T334.setTop (mkF m 280 #[.val (.ref self), .val (.int (8 : Int32)), .val (.ref ta), .val (.ref ha), .val (.int ec), .val (.ref sa), .val (.int (2 : Int32)), .val (.ref b128), .val (.int (1 : Int32)), .val (.int v341)] []))
  refine Comes.st (fun t k => XS.aloadN X334.here hx rfl (hb hby d1_280) rfl rfl k) ?_
  show Comes p e below _ (T334.setTop (mkF m 281 #[.val (.ref self), .val (.int (8 : Int32)), .val (.ref ta), .val (.ref ha), .val (.int ec), .val (.ref sa), .val (.int (2 : Int32)), .val (.ref b128), .val (.int (1 : Int32)), .val (.int v341)] [(.ref self)]))
  have F342 : Fld Z h331 self "com/example/ordr/ordr/layout/LayerNetwork" "incident" "[I" (.ref b120) := (((F313.other W317 (Or.inl (Ne.symm ne141))).other W325 (Or.inl (Ne.symm ne151))).other W331 (Or.inl ne170))
  obtain ⟨T343, X343, e343, st343⟩ := getF X334 hx hZ hown (host := "") (Or.inl (hw _ (List.mem_of_getElem? (i := 20) rfl))) Via.refl e334 F342 (g := (mkF m 281 #[.val (.ref self), .val (.int (8 : Int32)), .val (.ref ta), .val (.ref ha), .val (.int ec), .val (.ref sa), .val (.int (2 : Int32)), .val (.ref b128), .val (.int (1 : Int32)), .val (.int v341)] [(.ref self)])) rfl rfl (hb hby d1_281)
  refine Comes.st st343 ?_
  show Comes p e below _ (T343.setTop (mkF m 284 #[.val (.ref self), .val (.int (8 : Int32)), .val (.ref ta), .val (.ref ha), .val (.int ec), .val (.ref sa), .val (.int (2 : Int32)), .val (.ref b128), .val (.int (1 : Int32)), .val (.int v341)] [(.ref b120)]))
  refine Comes.st (fun t k => XS.iload X343.here hx rfl (hb hby d1_284) rfl (XS.iload X343.here hx rfl (hb hby d1_286) rfl k)) ?_
  show Comes p e below _ (T343.setTop (mkF m 288 #[.val (.ref self), .val (.int (8 : Int32)), .val (.ref ta), .val (.ref ha), .val (.int ec), .val (.ref sa), .val (.int (2 : Int32)), .val (.ref b128), .val (.int (1 : Int32)), .val (.int v341)] [(.int (1 : Int32)), (.int v341), (.ref b120)]))
  have F344 : Ari Z h331 b120 4 f317 := ((V317.other W325 (Ne.symm ne152)).other W331 (Ne.symm ne161))
  obtain ⟨cl345, Ar345, S345, H345⟩ := id F344
  have hin345 : ¬ (v341 < 0 ∨ cl345.slots.size ≤ (v341).toNatClampNeg) := by rw [S345]; exact own_inb pl_v341
  obtain ⟨T345, h345, X345, e345, W345, st345⟩ := stI X343 hx hZ e343 Ar345 (j := v341) hin345 (g := (mkF m 288 #[.val (.ref self), .val (.int (8 : Int32)), .val (.ref ta), .val (.ref ha), .val (.int ec), .val (.ref sa), .val (.int (2 : Int32)), .val (.ref b128), .val (.int (1 : Int32)), .val (.int v341)] [(.int (1 : Int32)), (.int v341), (.ref b120)])) rfl rfl (hb hby d1_288)
  obtain ⟨f345, hf345⟩ : ∃ g : Nat → Int32, g = fun i => if i = (v341).toNatClampNeg then (1 : Int32) else f317 i := ⟨_, rfl⟩
  have V345 : Ari Z h345 b120 4 f345 := by rw [hf345]; exact Ari.set Ar345 S345 H345 W345 rfl
  have z345 : h345.size = h331.size := W345.size
  have N345 := Fr.snoc X345 N331 gn144
  have K345 : Keep h0 h345 [self] := K331.wr W345 (Or.inr gz145)
  refine Comes.st st345 ?_
  show Comes p e below _ (T345.setTop (mkF m 289 #[.val (.ref self), .val (.int (8 : Int32)), .val (.ref ta), .val (.ref ha), .val (.int ec), .val (.ref sa), .val (.int (2 : Int32)), .val (.ref b128), .val (.int (1 : Int32)), .val (.int v341)] []))
  refine Comes.st (fun t k => XS.aloadN X345.here hx rfl (hb hby d1_289) rfl rfl k) ?_
  show Comes p e below _ (T345.setTop (mkF m 290 #[.val (.ref self), .val (.int (8 : Int32)), .val (.ref ta), .val (.ref ha), .val (.int ec), .val (.ref sa), .val (.int (2 : Int32)), .val (.ref b128), .val (.int (1 : Int32)), .val (.int v341)] [(.ref self)]))
  have F346 : Fld Z h345 self "com/example/ordr/ordr/layout/LayerNetwork" "otherEnds" "[I" (.ref b124) := (((F318.other W325 (Or.inl (Ne.symm ne151))).other W331 (Or.inl ne170)).other W345 (Or.inl (Ne.symm ne141)))
  obtain ⟨T347, X347, e347, st347⟩ := getF X345 hx hZ hown (host := "") (Or.inl (hw _ (List.mem_of_getElem? (i := 22) rfl))) Via.refl e345 F346 (g := (mkF m 290 #[.val (.ref self), .val (.int (8 : Int32)), .val (.ref ta), .val (.ref ha), .val (.int ec), .val (.ref sa), .val (.int (2 : Int32)), .val (.ref b128), .val (.int (1 : Int32)), .val (.int v341)] [(.ref self)])) rfl rfl (hb hby d1_290)
  refine Comes.st st347 ?_
  show Comes p e below _ (T347.setTop (mkF m 293 #[.val (.ref self), .val (.int (8 : Int32)), .val (.ref ta), .val (.ref ha), .val (.int ec), .val (.ref sa), .val (.int (2 : Int32)), .val (.ref b128), .val (.int (1 : Int32)), .val (.int v341)] [(.ref b124)]))
  refine Comes.st (fun t k => XS.iload X347.here hx rfl (hb hby d1_293) rfl (XS.aloadN X347.here hx rfl (hb hby d1_295) rfl rfl (XS.iload X347.here hx rfl (hb hby d1_296) rfl k))) ?_
  show Comes p e below _ (T347.setTop (mkF m 298 #[.val (.ref self), .val (.int (8 : Int32)), .val (.ref ta), .val (.ref ha), .val (.int ec), .val (.ref sa), .val (.int (2 : Int32)), .val (.ref b128), .val (.int (1 : Int32)), .val (.int v341)] [(.int (1 : Int32)), (.ref ta), (.int v341), (.ref b124)]))
  have F348 : Arv Z h345 ta kt .int (2 : Int32) [(.int t0), (.int t1)] (.int (0 : Int32)) := (((F321.other W325 ne158).other W331 ne173).other W345 ne157)
  obtain ⟨cl349, Ar349, q349, S349, Ng349, H349, Gf349⟩ := id F348
  have hin349 : ¬ ((1 : Int32) < 0 ∨ cl349.slots.size ≤ ((1 : Int32)).toNatClampNeg) := inb_of S349 ⟨by decide, by decide⟩
  refine Comes.st (fun t k => X347.iaload hx (j := (1 : Int32)) (v := (.int t1)) (by rw [e347]; exact Ar349.1) (State.isArrayOf_alike hZ.alike Ar349.2.1) Ar349.2.2 hin349 (Has.at H349 hin349 rfl) (g := (mkF m 298 #[.val (.ref self), .val (.int (8 : Int32)), .val (.ref ta), .val (.ref ha), .val (.int ec), .val (.ref sa), .val (.int (2 : Int32)), .val (.ref b128), .val (.int (1 : Int32)), .val (.int v341)] [(.int (1 : Int32)), (.ref ta), (.int v341), (.ref b124)])) rfl rfl (hb hby d1_298) _ k) ?_
  show Comes p e below _ (T347.setTop (mkF m 299 #[.val (.ref self), .val (.int (8 : Int32)), .val (.ref ta), .val (.ref ha), .val (.int ec), .val (.ref sa), .val (.int (2 : Int32)), .val (.ref b128), .val (.int (1 : Int32)), .val (.int v341)] [(.int t1), (.int v341), (.ref b124)]))
  have F350 : Ari Z h345 b124 4 f325 := ((V325.other W331 (Ne.symm ne162)).other W345 ne152)
  obtain ⟨cl351, Ar351, S351, H351⟩ := id F350
  have hin351 : ¬ (v341 < 0 ∨ cl351.slots.size ≤ (v341).toNatClampNeg) := by rw [S351]; exact own_inb pl_v341
  obtain ⟨T351, h351, X351, e351, W351, st351⟩ := stI X347 hx hZ e347 Ar351 (j := v341) hin351 (g := (mkF m 299 #[.val (.ref self), .val (.int (8 : Int32)), .val (.ref ta), .val (.ref ha), .val (.int ec), .val (.ref sa), .val (.int (2 : Int32)), .val (.ref b128), .val (.int (1 : Int32)), .val (.int v341)] [(.int t1), (.int v341), (.ref b124)])) rfl rfl (hb hby d1_299)
  obtain ⟨f351, hf351⟩ : ∃ g : Nat → Int32, g = fun i => if i = (v341).toNatClampNeg then t1 else f325 i := ⟨_, rfl⟩
  have V351 : Ari Z h351 b124 4 f351 := by rw [hf351]; exact Ari.set Ar351 S351 H351 W351 rfl
  have z351 : h351.size = h345.size := W351.size
  have N351 := Fr.snoc X351 N345 gn155
  have K351 : Keep h0 h351 [self] := K345.wr W351 (Or.inr gz156)
  refine Comes.st st351 ?_
  show Comes p e below _ (T351.setTop (mkF m 300 #[.val (.ref self), .val (.int (8 : Int32)), .val (.ref ta), .val (.ref ha), .val (.int ec), .val (.ref sa), .val (.int (2 : Int32)), .val (.ref b128), .val (.int (1 : Int32)), .val (.int v341)] []))
  refine Comes.st (fun t k => XS.aload X351.here hx rfl (hb hby d1_300) rfl rfl (XS.aloadN X351.here hx rfl (hb hby d1_302) rfl rfl (XS.iload X351.here hx rfl (hb hby d1_303) rfl k))) ?_
  show Comes p e below _ (T351.setTop (mkF m 305 #[.val (.ref self), .val (.int (8 : Int32)), .val (.ref ta), .val (.ref ha), .val (.int ec), .val (.ref sa), .val (.int (2 : Int32)), .val (.ref b128), .val (.int (1 : Int32)), .val (.int v341)] [(.int (1 : Int32)), (.ref ha), (.ref b128)]))
  have F352 : Arv Z h351 ha kh .int (2 : Int32) [(.int h0_), (.int h1)] (.int (0 : Int32)) := ((F335.other W345 ne148).other W351 ne190)
  obtain ⟨cl353, Ar353, q353, S353, Ng353, H353, Gf353⟩ := id F352
  have hin353 : ¬ ((1 : Int32) < 0 ∨ cl353.slots.size ≤ ((1 : Int32)).toNatClampNeg) := inb_of S353 ⟨by decide, by decide⟩
  refine Comes.st (fun t k => X351.iaload hx (j := (1 : Int32)) (v := (.int h1)) (by rw [e351]; exact Ar353.1) (State.isArrayOf_alike hZ.alike Ar353.2.1) Ar353.2.2 hin353 (Has.at H353 hin353 rfl) (g := (mkF m 305 #[.val (.ref self), .val (.int (8 : Int32)), .val (.ref ta), .val (.ref ha), .val (.int ec), .val (.ref sa), .val (.int (2 : Int32)), .val (.ref b128), .val (.int (1 : Int32)), .val (.int v341)] [(.int (1 : Int32)), (.ref ha), (.ref b128)])) rfl rfl (hb hby d1_305) _ (own_dup2 X351 hx rfl (hb hby d1_306) rfl rfl rfl k)) ?_
  show Comes p e below _ (T351.setTop (mkF m 307 #[.val (.ref self), .val (.int (8 : Int32)), .val (.ref ta), .val (.ref ha), .val (.int ec), .val (.ref sa), .val (.int (2 : Int32)), .val (.ref b128), .val (.int (1 : Int32)), .val (.int v341)] [(.int h1), (.ref b128), (.int h1), (.ref b128)]))
  have F354 : Ari Z h351 b128 8 f331 := ((V331.other W345 ne161).other W351 ne162)
  obtain ⟨cl355, Ar355, S355, H355⟩ := id F354
  have hin355 : ¬ (h1 < 0 ∨ cl355.slots.size ≤ (h1).toNatClampNeg) := by rw [S355]; exact own_inb (own_p0 b_h1 (by decide))
  refine Comes.st (fun t k => X351.iaload hx (j := h1) (v := (.int (f331 (h1).toNatClampNeg))) (by rw [e351]; exact Ar355.1) (State.isArrayOf_alike hZ.alike Ar355.2.1) Ar355.2.2 hin355 (H355 _ (Nat.lt_of_not_le fun y => hin355 (Or.inr (S355 ▸ y)))) (g := (mkF m 307 #[.val (.ref self), .val (.int (8 : Int32)), .val (.ref ta), .val (.ref ha), .val (.int ec), .val (.ref sa), .val (.int (2 : Int32)), .val (.ref b128), .val (.int (1 : Int32)), .val (.int v341)] [(.int h1), (.ref b128), (.int h1), (.ref b128)])) rfl rfl (hb hby d1_307) _ (XS.iconst X351.here hx rfl (hb hby d1_308) (XS.iadd X351.here hx rfl (hb hby d1_309) rfl k))) ?_
  show Comes p e below _ (T351.setTop (mkF m 310 #[.val (.ref self), .val (.int (8 : Int32)), .val (.ref ta), .val (.ref ha), .val (.int ec), .val (.ref sa), .val (.int (2 : Int32)), .val (.ref b128), .val (.int (1 : Int32)), .val (.int v341)] [(.int ((f331 (h1).toNatClampNeg) + (1 : Int32))), (.int h1), (.ref b128)]))
  generalize hv_v356 : ((f331 (h1).toNatClampNeg) + (1 : Int32)) = v356
  show Comes p e below _ (T351.setTop (mkF m 310 #[.val (.ref self), .val (.int (8 : Int32)), .val (.ref ta), .val (.ref ha), .val (.int ec), .val (.ref sa), .val (.int (2 : Int32)), .val (.ref b128), .val (.int (1 : Int32)), .val (.int v341)] [(.int v356), (.int h1), (.ref b128)]))
  obtain ⟨cl357, Ar357, S357, H357⟩ := id F354
  have hin357 : ¬ (h1 < 0 ∨ cl357.slots.size ≤ (h1).toNatClampNeg) := by rw [S357]; exact own_inb (own_p0 b_h1 (by decide))
  obtain ⟨T357, h357, X357, e357, W357, st357⟩ := stI X351 hx hZ e351 Ar357 (j := h1) hin357 (g := (mkF m 310 #[.val (.ref self), .val (.int (8 : Int32)), .val (.ref ta), .val (.ref ha), .val (.int ec), .val (.ref sa), .val (.int (2 : Int32)), .val (.ref b128), .val (.int (1 : Int32)), .val (.int v341)] [(.int v356), (.int h1), (.ref b128)])) rfl rfl (hb hby d1_310)
  obtain ⟨f357, hf357⟩ : ∃ g : Nat → Int32, g = fun i => if i = (h1).toNatClampNeg then v356 else f331 i := ⟨_, rfl⟩
  have V357 : Ari Z h357 b128 8 f357 := by rw [hf357]; exact Ari.set Ar357 S357 H357 W357 rfl
  have z357 : h357.size = h351.size := W357.size
  have N357 := Fr.snoc X357 N351 gn167
  have K357 : Keep h0 h357 [self] := K351.wr W357 (Or.inr gz168)
  have hK_f357 : (h1).toNatClampNeg = n_h1 := hn_h1.symm
  have hv_f357 := hv_v356
  rw [hK_f357] at hf357 hv_f357
  have I_f357 : ∀ i, (f357 i).toInt = (fun i => (0 : Int) + own_dl n_t0 i + own_dl n_t1 i + own_dl n_h0_ i + own_dl n_h1 i) i := own_inc (S := fun i => (0 : Int) + own_dl n_t0 i + own_dl n_t1 i + own_dl n_h0_ i) I_f331 (fun i => by have a0 := own_dlb (n_t0) i; have a1 := own_dlb (n_t1) i; have a2 := own_dlb (n_h0_) i; show 0 ≤ (0 : Int) + own_dl (n_t0) i + own_dl (n_t1) i + own_dl (n_h0_) i ∧ (0 : Int) + own_dl (n_t0) i + own_dl (n_t1) i + own_dl (n_h0_) i ≤ 100; omega) hv_f357 hf357
  refine Comes.st st357 ?_
  show Comes p e below _ (T357.setTop (mkF m 311 #[.val (.ref self), .val (.int (8 : Int32)), .val (.ref ta), .val (.ref ha), .val (.int ec), .val (.ref sa), .val (.int (2 : Int32)), .val (.ref b128), .val (.int (1 : Int32)), .val (.int v341)] []))
  refine Comes.st (fun t k => XS.iinc X357.here hx rfl (hb hby d1_311) rfl (l' := #[.val (.ref self), .val (.int (8 : Int32)), .val (.ref ta), .val (.ref ha), .val (.int ec), .val (.ref sa), .val (.int (2 : Int32)), .val (.ref b128), .val (.int (2 : Int32)), .val (.int v341)]) rfl (XS.goto X357.here hx rfl (pc0 := 314) (pc' := 254) rfl (hb hby d1_314) (by decide) (by decide) (XS.iload X357.here hx rfl (hb hby d1_254) rfl (XS.iload X357.here hx rfl (hb hby d1_256) rfl k)))) ?_
  show Comes p e below _ (T357.setTop (mkF m 258 #[.val (.ref self), .val (.int (8 : Int32)), .val (.ref ta), .val (.ref ha), .val (.int ec), .val (.ref sa), .val (.int (2 : Int32)), .val (.ref b128), .val (.int (2 : Int32)), .val (.int v341)] [(.int (2 : Int32)), (.int (2 : Int32))]))
  have hc258_358 : ¬ ((2 : Int32) < (2 : Int32)) := by decide
  refine Comes.st (fun t k => XS.icmpYes X357.here hx rfl (pc0 := 258) (pc' := 317) rfl (hb hby d1_258) rfl (flt hc258_358).2.1 (by decide) (by decide) (XS.aloadN X357.here hx rfl (hb hby d1_317) rfl rfl (XS.iloadN X357.here hx rfl (hb hby d1_318) rfl k))) ?_
  show Comes p e below _ (T357.setTop (mkF m 319 #[.val (.ref self), .val (.int (8 : Int32)), .val (.ref ta), .val (.ref ha), .val (.int ec), .val (.ref sa), .val (.int (2 : Int32)), .val (.ref b128), .val (.int (2 : Int32)), .val (.int v341)] [(.int (8 : Int32)), (.ref self)]))
  obtain ⟨T359, h359, k359, X359, e359, E359, A359, st359⟩ := newP X357 hx hZ (hw _ (List.mem_of_getElem? (i := 26) rfl)) e357 (g := (mkF m 319 #[.val (.ref self), .val (.int (8 : Int32)), .val (.ref ta), .val (.ref ha), .val (.int ec), .val (.ref sa), .val (.int (2 : Int32)), .val (.ref b128), .val (.int (2 : Int32)), .val (.int v341)] [(.int (8 : Int32)), (.ref self)])) rfl (hb hby d1_319) rfl (by decide) (cap := 8) (by decide) (by decide) (by decide) (by decide)
  obtain ⟨b359, g359⟩ : ∃ z, z = h357.size := ⟨_, rfl⟩
  rw [← g359] at A359 st359
  have z359 : h357.size ≤ h359.size := E359.1
  have lt359 : b359 < h359.size := A359.lt
  have V359 : Arv Z h359 b359 k359 .long (8 : Int32) [(.long (0 : Int64)), (.long (0 : Int64)), (.long (0 : Int64)), (.long (0 : Int64)), (.long (0 : Int64)), (.long (0 : Int64)), (.long (0 : Int64)), (.long (0 : Int64))] (.long (0 : Int64)) := (Arv.new A359 (by decide)).pad (pad_rep [] (.long (0 : Int64)) 8)
  have K359 : Keep h0 h359 [self] := K357.ext E359
  refine Comes.st st359 ?_
  show Comes p e below _ (T359.setTop (mkF m 321 #[.val (.ref self), .val (.int (8 : Int32)), .val (.ref ta), .val (.ref ha), .val (.int ec), .val (.ref sa), .val (.int (2 : Int32)), .val (.ref b128), .val (.int (2 : Int32)), .val (.int v341)] [(.ref b359), (.ref self)]))
  have F360 : Exa Z h359 self "com/example/ordr/ordr/layout/LayerNetwork" := ((((((((((((((((F204.wr W206).wr W218).wr W233).wr W244).wr W255).wr W266).wr W277).wr W288).wr W299).wr W317).wr W325).wr W331).wr W345).wr W351).wr W357).ext E359)
  have F361 : Fld Z h359 self "com/example/ordr/ordr/layout/LayerNetwork" "layers" "[J" .null := ((((((((((((((((((((((((((((((((((((((((((((((G10.other W2 (Or.inr (slot_ne (Or.inr (hw _ (List.mem_of_getElem? (i := 28) rfl))) (Or.inr (hw _ (List.mem_of_getElem? (i := 11) rfl))) (by decide) (t := (.array .long)) (t' := .int) (by decide) (by decide)))).other W6 (Or.inr (slot_ne (Or.inr (hw _ (List.mem_of_getElem? (i := 28) rfl))) (Or.inr (hw _ (List.mem_of_getElem? (i := 13) rfl))) (by decide) (t := (.array .long)) (t' := .int) (by decide) (by decide)))).other W9 (Or.inr (slot_ne (Or.inr (hw _ (List.mem_of_getElem? (i := 28) rfl))) (Or.inr (hw _ (List.mem_of_getElem? (i := 15) rfl))) (by decide) (t := (.array .long)) (t' := (.array .int)) (by decide) (by decide)))).other W12 (Or.inr (slot_ne (Or.inr (hw _ (List.mem_of_getElem? (i := 28) rfl))) (Or.inr (hw _ (List.mem_of_getElem? (i := 17) rfl))) (by decide) (t := (.array .long)) (t' := (.array .int)) (by decide) (by decide)))).ext E15).other W18 (Or.inr (slot_ne (Or.inr (hw _ (List.mem_of_getElem? (i := 28) rfl))) (Or.inr (hw _ (List.mem_of_getElem? (i := 19) rfl))) (by decide) (t := (.array .long)) (t' := (.array .int)) (by decide) (by decide)))).other W27 (Or.inl (Ne.symm ne23))).other W37 (Or.inl (Ne.symm ne23))).other W46 (Or.inl (Ne.symm ne23))).other W53 (Or.inl (Ne.symm ne23))).other W62 (Or.inl (Ne.symm ne23))).other W70 (Or.inl (Ne.symm ne23))).other W78 (Or.inl (Ne.symm ne23))).other W86 (Or.inl (Ne.symm ne23))).other W94 (Or.inl (Ne.symm ne23))).other W102 (Or.inl (Ne.symm ne23))).other W110 (Or.inl (Ne.symm ne23))).other W118 (Or.inl (Ne.symm ne23))).ext E120).other W123 (Or.inr (slot_ne (Or.inr (hw _ (List.mem_of_getElem? (i := 28) rfl))) (Or.inr (hw _ (List.mem_of_getElem? (i := 21) rfl))) (by decide) (t := (.array .long)) (t' := (.array .int)) (by decide) (by decide)))).ext E124).other W127 (Or.inr (slot_ne (Or.inr (hw _ (List.mem_of_getElem? (i := 28) rfl))) (Or.inr (hw _ (List.mem_of_getElem? (i := 23) rfl))) (by decide) (t := (.array .long)) (t' := (.array .int)) (by decide) (by decide)))).ext E128).other W143 (Or.inl (Ne.symm ne141))).other W154 (Or.inl (Ne.symm ne151))).other W166 (Or.inl ne170)).other W187 (Or.inl (Ne.symm ne141))).other W195 (Or.inl (Ne.symm ne151))).other W201 (Or.inl ne170)).ext E203).other W206 (Or.inr (slot_ne (Or.inr (hw _ (List.mem_of_getElem? (i := 28) rfl))) (Or.inr (hw _ (List.mem_of_getElem? (i := 25) rfl))) (by decide) (t := (.array .long)) (t' := (.array .int)) (by decide) (by decide)))).other W218 (Or.inl (Ne.symm ne216))).other W233 (Or.inl (Ne.symm ne216))).other W244 (Or.inl (Ne.symm ne216))).other W255 (Or.inl (Ne.symm ne216))).other W266 (Or.inl (Ne.symm ne216))).other W277 (Or.inl (Ne.symm ne216))).other W288 (Or.inl (Ne.symm ne216))).other W299 (Or.inl (Ne.symm ne216))).other W317 (Or.inl (Ne.symm ne141))).other W325 (Or.inl (Ne.symm ne151))).other W331 (Or.inl ne170)).other W345 (Or.inl (Ne.symm ne141))).other W351 (Or.inl (Ne.symm ne151))).other W357 (Or.inl ne170)).ext E359)
  obtain ⟨T362, h362, X362, e362, W362, st362⟩ := putF X359 hx hZ hown (host := "") (Or.inl (hw _ (List.mem_of_getElem? (i := 27) rfl))) Via.refl e359 F361 F360 (Or.inr ⟨(hw _ (List.mem_of_getElem? (i := 28) rfl)), rfl, hnm⟩) (hw _ (List.mem_of_getElem? (i := 2) rfl)) (ty := (.array .long)) (by decide) rfl rfl (g := (mkF m 321 #[.val (.ref self), .val (.int (8 : Int32)), .val (.ref ta), .val (.ref ha), .val (.int ec), .val (.ref sa), .val (.int (2 : Int32)), .val (.ref b128), .val (.int (2 : Int32)), .val (.int v341)] [(.ref b359), (.ref self)])) rfl rfl (hb hby d1_321)
  have Fw362 := F361.same W362
  have z362 : h362.size = h359.size := W362.size
  have N362 := Fr.snoc X362 N357 gn3
  have K362 : Keep h0 h362 [self] := K359.wr W362 (Or.inl (List.mem_of_getElem? (i := 0) rfl))
  refine Comes.st st362 ?_
  show Comes p e below _ (T362.setTop (mkF m 324 #[.val (.ref self), .val (.int (8 : Int32)), .val (.ref ta), .val (.ref ha), .val (.int ec), .val (.ref sa), .val (.int (2 : Int32)), .val (.ref b128), .val (.int (2 : Int32)), .val (.int v341)] []))
  refine Comes.st (fun t k => XS.iconst X362.here hx rfl (hb hby d1_324) (XS.istore X362.here hx rfl (hb hby d1_325) rfl (l' := #[.val (.ref self), .val (.int (8 : Int32)), .val (.ref ta), .val (.ref ha), .val (.int ec), .val (.ref sa), .val (.int (2 : Int32)), .val (.ref b128), .val (.int (0 : Int32)), .val (.int v341)]) rfl (XS.iload X362.here hx rfl (hb hby d1_327) rfl (XS.iloadN X362.here hx rfl (hb hby d1_329) rfl k)))) ?_
  show Comes p e below _ (T362.setTop (mkF m 330 #[.val (.ref self), .val (.int (8 : Int32)), .val (.ref ta), .val (.ref ha), .val (.int ec), .val (.ref sa), .val (.int (2 : Int32)), .val (.ref b128), .val (.int (0 : Int32)), .val (.int v341)] [(.int (8 : Int32)), (.int (0 : Int32))]))
  have hc330_363 : (0 : Int32) < (8 : Int32) := by decide
  refine Comes.st (fun t k => XS.icmpNo X362.here hx rfl (hb hby d1_330) rfl (tlt hc330_363).2.1 (XS.aloadN X362.here hx rfl (hb hby d1_333) rfl rfl k)) ?_
  show Comes p e below _ (T362.setTop (mkF m 334 #[.val (.ref self), .val (.int (8 : Int32)), .val (.ref ta), .val (.ref ha), .val (.int ec), .val (.ref sa), .val (.int (2 : Int32)), .val (.ref b128), .val (.int (0 : Int32)), .val (.int v341)] [(.ref self)]))
  obtain ⟨T364, X364, e364, st364⟩ := getF X362 hx hZ hown (host := "") (Or.inl (hw _ (List.mem_of_getElem? (i := 27) rfl))) Via.refl e362 Fw362 (g := (mkF m 334 #[.val (.ref self), .val (.int (8 : Int32)), .val (.ref ta), .val (.ref ha), .val (.int ec), .val (.ref sa), .val (.int (2 : Int32)), .val (.ref b128), .val (.int (0 : Int32)), .val (.int v341)] [(.ref self)])) rfl rfl (hb hby d1_334)
  refine Comes.st st364 ?_
  show Comes p e below _ (T364.setTop (mkF m 337 #[.val (.ref self), .val (.int (8 : Int32)), .val (.ref ta), .val (.ref ha), .val (.int ec), .val (.ref sa), .val (.int (2 : Int32)), .val (.ref b128), .val (.int (0 : Int32)), .val (.int v341)] [(.ref b359)]))
  refine Comes.st (fun t k => XS.iload X364.here hx rfl (hb hby d1_337) rfl (XS.aload X364.here hx rfl (hb hby d1_339) rfl rfl (XS.iload X364.here hx rfl (hb hby d1_341) rfl k))) ?_
  show Comes p e below _ (T364.setTop (mkF m 343 #[.val (.ref self), .val (.int (8 : Int32)), .val (.ref ta), .val (.ref ha), .val (.int ec), .val (.ref sa), .val (.int (2 : Int32)), .val (.ref b128), .val (.int (0 : Int32)), .val (.int v341)] [(.int (0 : Int32)), (.ref sa), (.int (0 : Int32)), (.ref b359)]))
  have ne365 : sa ≠ b15 := by omega
  have ne366 : sa ≠ b120 := by omega
  have ne367 : sa ≠ b124 := by omega
  have ne368 : sa ≠ b128 := by omega
  have ne369 : sa ≠ b203 := by omega
  have F370 : Arv Z h362 sa ks .int (8 : Int32) [(.int (0 : Int32)), (.int (0 : Int32)), (.int (0 : Int32)), (.int (0 : Int32)), (.int (0 : Int32)), (.int (0 : Int32)), (.int (0 : Int32)), (.int (0 : Int32))] (.int (0 : Int32)) := (((((((((((((((((((((((((((((((((((((((((((((((G15.other W2 G19).other W6 G19).other W9 G19).other W12 G19).ext E15).other W18 G19).other W27 ne365).other W37 ne365).other W46 ne365).other W53 ne365).other W62 ne365).other W70 ne365).other W78 ne365).other W86 ne365).other W94 ne365).other W102 ne365).other W110 ne365).other W118 ne365).ext E120).other W123 G19).ext E124).other W127 G19).ext E128).other W143 ne366).other W154 ne367).other W166 ne368).other W187 ne366).other W195 ne367).other W201 ne368).ext E203).other W206 G19).other W218 ne369).other W233 ne369).other W244 ne369).other W255 ne369).other W266 ne369).other W277 ne369).other W288 ne369).other W299 ne369).other W317 ne366).other W325 ne367).other W331 ne368).other W345 ne366).other W351 ne367).other W357 ne368).ext E359).other W362 G19)
  obtain ⟨cl371, Ar371, q371, S371, Ng371, H371, Gf371⟩ := id F370
  have hin371 : ¬ ((0 : Int32) < 0 ∨ cl371.slots.size ≤ ((0 : Int32)).toNatClampNeg) := inb_of S371 ⟨by decide, by decide⟩
  refine Comes.st (fun t k => X364.iaload hx (j := (0 : Int32)) (v := (.int (0 : Int32))) (by rw [e364]; exact Ar371.1) (State.isArrayOf_alike hZ.alike Ar371.2.1) Ar371.2.2 hin371 (Has.at H371 hin371 rfl) (g := (mkF m 343 #[.val (.ref self), .val (.int (8 : Int32)), .val (.ref ta), .val (.ref ha), .val (.int ec), .val (.ref sa), .val (.int (2 : Int32)), .val (.ref b128), .val (.int (0 : Int32)), .val (.int v341)] [(.int (0 : Int32)), (.ref sa), (.int (0 : Int32)), (.ref b359)])) rfl rfl (hb hby d1_343) _ (XS.i2l X364.here hx rfl (hb hby d1_344) rfl k)) ?_
  show Comes p e below _ (T364.setTop (mkF m 345 #[.val (.ref self), .val (.int (8 : Int32)), .val (.ref ta), .val (.ref ha), .val (.int ec), .val (.ref sa), .val (.int (2 : Int32)), .val (.ref b128), .val (.int (0 : Int32)), .val (.int v341)] [(.long ((0 : Int32).toInt64)), (.int (0 : Int32)), (.ref b359)]))
  rw [show ((0 : Int32).toInt64) = (0 : Int64) from by decide]
  show Comes p e below _ (T364.setTop (mkF m 345 #[.val (.ref self), .val (.int (8 : Int32)), .val (.ref ta), .val (.ref ha), .val (.int ec), .val (.ref sa), .val (.int (2 : Int32)), .val (.ref b128), .val (.int (0 : Int32)), .val (.int v341)] [(.long (0 : Int64)), (.int (0 : Int32)), (.ref b359)]))
  have ne372 : b359 ≠ self := by omega
  have F373 : Arv Z h362 b359 k359 .long (8 : Int32) [(.long (0 : Int64)), (.long (0 : Int64)), (.long (0 : Int64)), (.long (0 : Int64)), (.long (0 : Int64)), (.long (0 : Int64)), (.long (0 : Int64)), (.long (0 : Int64))] (.long (0 : Int64)) := (V359.other W362 ne372)
  obtain ⟨cl374, Ar374, q374, S374, Ng374, H374, Gf374⟩ := id F373
  have hin374 : ¬ ((0 : Int32) < 0 ∨ cl374.slots.size ≤ ((0 : Int32)).toNatClampNeg) := inb_of S374 ⟨by decide, by decide⟩
  obtain ⟨T374, h374, X374, e374, W374, st374⟩ := stJ X364 hx hZ e364 Ar374 (j := (0 : Int32)) hin374 (g := (mkF m 345 #[.val (.ref self), .val (.int (8 : Int32)), .val (.ref ta), .val (.ref ha), .val (.int ec), .val (.ref sa), .val (.int (2 : Int32)), .val (.ref b128), .val (.int (0 : Int32)), .val (.int v341)] [(.long (0 : Int64)), (.int (0 : Int32)), (.ref b359)])) rfl rfl (hb hby d1_345)
  have V374 : Arv Z h374 b359 k359 .long (8 : Int32) [(.long (0 : Int64)), (.long (0 : Int64)), (.long (0 : Int64)), (.long (0 : Int64)), (.long (0 : Int64)), (.long (0 : Int64)), (.long (0 : Int64)), (.long (0 : Int64))] (.long (0 : Int64)) := Arv.set Ar374 q374 S374 Ng374 H374 Gf374 rfl W374 0 rfl (Nat.le_of_ble_eq_true rfl)
  have z374 : h374.size = h362.size := W374.size
  have gn375 : n0 ≤ b359 := by omega
  have N374 := Fr.snoc X374 N362 gn375
  have gz376 : h0.size ≤ b359 := by omega
  have K374 : Keep h0 h374 [self] := K362.wr W374 (Or.inr gz376)
  refine Comes.st st374 ?_
  show Comes p e below _ (T374.setTop (mkF m 346 #[.val (.ref self), .val (.int (8 : Int32)), .val (.ref ta), .val (.ref ha), .val (.int ec), .val (.ref sa), .val (.int (2 : Int32)), .val (.ref b128), .val (.int (0 : Int32)), .val (.int v341)] []))
  refine Comes.st (fun t k => XS.iinc X374.here hx rfl (hb hby d1_346) rfl (l' := #[.val (.ref self), .val (.int (8 : Int32)), .val (.ref ta), .val (.ref ha), .val (.int ec), .val (.ref sa), .val (.int (2 : Int32)), .val (.ref b128), .val (.int (1 : Int32)), .val (.int v341)]) rfl (XS.goto X374.here hx rfl (pc0 := 349) (pc' := 327) rfl (hb hby d1_349) (by decide) (by decide) (XS.iload X374.here hx rfl (hb hby d1_327) rfl (XS.iloadN X374.here hx rfl (hb hby d1_329) rfl k)))) ?_
  show Comes p e below _ (T374.setTop (mkF m 330 #[.val (.ref self), .val (.int (8 : Int32)), .val (.ref ta), .val (.ref ha), .val (.int ec), .val (.ref sa), .val (.int (2 : Int32)), .val (.ref b128), .val (.int (1 : Int32)), .val (.int v341)] [(.int (8 : Int32)), (.int (1 : Int32))]))
  have hc330_377 : (1 : Int32) < (8 : Int32) := by decide
  refine Comes.st (fun t k => XS.icmpNo X374.here hx rfl (hb hby d1_330) rfl (tlt hc330_377).2.1 (XS.aloadN X374.here hx rfl (hb hby d1_333) rfl rfl k)) ?_
  show Comes p e below _ (T374.setTop (mkF m 334 #[.val (.ref self), .val (.int (8 : Int32)), .val (.ref ta), .val (.ref ha), .val (.int ec), .val (.ref sa), .val (.int (2 : Int32)), .val (.ref b128), .val (.int (1 : Int32)), .val (.int v341)] [(.ref self)]))
  have F378 : Fld Z h374 self "com/example/ordr/ordr/layout/LayerNetwork" "layers" "[J" (.ref b359) := (Fw362.other W374 (Or.inl (Ne.symm ne372)))
  obtain ⟨T379, X379, e379, st379⟩ := getF X374 hx hZ hown (host := "") (Or.inl (hw _ (List.mem_of_getElem? (i := 27) rfl))) Via.refl e374 F378 (g := (mkF m 334 #[.val (.ref self), .val (.int (8 : Int32)), .val (.ref ta), .val (.ref ha), .val (.int ec), .val (.ref sa), .val (.int (2 : Int32)), .val (.ref b128), .val (.int (1 : Int32)), .val (.int v341)] [(.ref self)])) rfl rfl (hb hby d1_334)
  refine Comes.st st379 ?_
  show Comes p e below _ (T379.setTop (mkF m 337 #[.val (.ref self), .val (.int (8 : Int32)), .val (.ref ta), .val (.ref ha), .val (.int ec), .val (.ref sa), .val (.int (2 : Int32)), .val (.ref b128), .val (.int (1 : Int32)), .val (.int v341)] [(.ref b359)]))
  refine Comes.st (fun t k => XS.iload X379.here hx rfl (hb hby d1_337) rfl (XS.aload X379.here hx rfl (hb hby d1_339) rfl rfl (XS.iload X379.here hx rfl (hb hby d1_341) rfl k))) ?_
  show Comes p e below _ (T379.setTop (mkF m 343 #[.val (.ref self), .val (.int (8 : Int32)), .val (.ref ta), .val (.ref ha), .val (.int ec), .val (.ref sa), .val (.int (2 : Int32)), .val (.ref b128), .val (.int (1 : Int32)), .val (.int v341)] [(.int (1 : Int32)), (.ref sa), (.int (1 : Int32)), (.ref b359)]))
  have ne380 : sa ≠ b359 := by omega
  have F381 : Arv Z h374 sa ks .int (8 : Int32) [(.int (0 : Int32)), (.int (0 : Int32)), (.int (0 : Int32)), (.int (0 : Int32)), (.int (0 : Int32)), (.int (0 : Int32)), (.int (0 : Int32)), (.int (0 : Int32))] (.int (0 : Int32)) := (F370.other W374 ne380)
  obtain ⟨cl382, Ar382, q382, S382, Ng382, H382, Gf382⟩ := id F381
  have hin382 : ¬ ((1 : Int32) < 0 ∨ cl382.slots.size ≤ ((1 : Int32)).toNatClampNeg) := inb_of S382 ⟨by decide, by decide⟩
  refine Comes.st (fun t k => X379.iaload hx (j := (1 : Int32)) (v := (.int (0 : Int32))) (by rw [e379]; exact Ar382.1) (State.isArrayOf_alike hZ.alike Ar382.2.1) Ar382.2.2 hin382 (Has.at H382 hin382 rfl) (g := (mkF m 343 #[.val (.ref self), .val (.int (8 : Int32)), .val (.ref ta), .val (.ref ha), .val (.int ec), .val (.ref sa), .val (.int (2 : Int32)), .val (.ref b128), .val (.int (1 : Int32)), .val (.int v341)] [(.int (1 : Int32)), (.ref sa), (.int (1 : Int32)), (.ref b359)])) rfl rfl (hb hby d1_343) _ (XS.i2l X379.here hx rfl (hb hby d1_344) rfl k)) ?_
  show Comes p e below _ (T379.setTop (mkF m 345 #[.val (.ref self), .val (.int (8 : Int32)), .val (.ref ta), .val (.ref ha), .val (.int ec), .val (.ref sa), .val (.int (2 : Int32)), .val (.ref b128), .val (.int (1 : Int32)), .val (.int v341)] [(.long ((0 : Int32).toInt64)), (.int (1 : Int32)), (.ref b359)]))
  rw [show ((0 : Int32).toInt64) = (0 : Int64) from by decide]
  show Comes p e below _ (T379.setTop (mkF m 345 #[.val (.ref self), .val (.int (8 : Int32)), .val (.ref ta), .val (.ref ha), .val (.int ec), .val (.ref sa), .val (.int (2 : Int32)), .val (.ref b128), .val (.int (1 : Int32)), .val (.int v341)] [(.long (0 : Int64)), (.int (1 : Int32)), (.ref b359)]))
  obtain ⟨cl383, Ar383, q383, S383, Ng383, H383, Gf383⟩ := id V374
  have hin383 : ¬ ((1 : Int32) < 0 ∨ cl383.slots.size ≤ ((1 : Int32)).toNatClampNeg) := inb_of S383 ⟨by decide, by decide⟩
  obtain ⟨T383, h383, X383, e383, W383, st383⟩ := stJ X379 hx hZ e379 Ar383 (j := (1 : Int32)) hin383 (g := (mkF m 345 #[.val (.ref self), .val (.int (8 : Int32)), .val (.ref ta), .val (.ref ha), .val (.int ec), .val (.ref sa), .val (.int (2 : Int32)), .val (.ref b128), .val (.int (1 : Int32)), .val (.int v341)] [(.long (0 : Int64)), (.int (1 : Int32)), (.ref b359)])) rfl rfl (hb hby d1_345)
  have V383 : Arv Z h383 b359 k359 .long (8 : Int32) [(.long (0 : Int64)), (.long (0 : Int64)), (.long (0 : Int64)), (.long (0 : Int64)), (.long (0 : Int64)), (.long (0 : Int64)), (.long (0 : Int64)), (.long (0 : Int64))] (.long (0 : Int64)) := Arv.set Ar383 q383 S383 Ng383 H383 Gf383 rfl W383 1 rfl (Nat.le_of_ble_eq_true rfl)
  have z383 : h383.size = h374.size := W383.size
  have N383 := Fr.snoc X383 N374 gn375
  have K383 : Keep h0 h383 [self] := K374.wr W383 (Or.inr gz376)
  refine Comes.st st383 ?_
  show Comes p e below _ (T383.setTop (mkF m 346 #[.val (.ref self), .val (.int (8 : Int32)), .val (.ref ta), .val (.ref ha), .val (.int ec), .val (.ref sa), .val (.int (2 : Int32)), .val (.ref b128), .val (.int (1 : Int32)), .val (.int v341)] []))
  refine Comes.st (fun t k => XS.iinc X383.here hx rfl (hb hby d1_346) rfl (l' := #[.val (.ref self), .val (.int (8 : Int32)), .val (.ref ta), .val (.ref ha), .val (.int ec), .val (.ref sa), .val (.int (2 : Int32)), .val (.ref b128), .val (.int (2 : Int32)), .val (.int v341)]) rfl (XS.goto X383.here hx rfl (pc0 := 349) (pc' := 327) rfl (hb hby d1_349) (by decide) (by decide) (XS.iload X383.here hx rfl (hb hby d1_327) rfl (XS.iloadN X383.here hx rfl (hb hby d1_329) rfl k)))) ?_
  show Comes p e below _ (T383.setTop (mkF m 330 #[.val (.ref self), .val (.int (8 : Int32)), .val (.ref ta), .val (.ref ha), .val (.int ec), .val (.ref sa), .val (.int (2 : Int32)), .val (.ref b128), .val (.int (2 : Int32)), .val (.int v341)] [(.int (8 : Int32)), (.int (2 : Int32))]))
  have hc330_384 : (2 : Int32) < (8 : Int32) := by decide
  refine Comes.st (fun t k => XS.icmpNo X383.here hx rfl (hb hby d1_330) rfl (tlt hc330_384).2.1 (XS.aloadN X383.here hx rfl (hb hby d1_333) rfl rfl k)) ?_
  show Comes p e below _ (T383.setTop (mkF m 334 #[.val (.ref self), .val (.int (8 : Int32)), .val (.ref ta), .val (.ref ha), .val (.int ec), .val (.ref sa), .val (.int (2 : Int32)), .val (.ref b128), .val (.int (2 : Int32)), .val (.int v341)] [(.ref self)]))
  have F385 : Fld Z h383 self "com/example/ordr/ordr/layout/LayerNetwork" "layers" "[J" (.ref b359) := (F378.other W383 (Or.inl (Ne.symm ne372)))
  obtain ⟨T386, X386, e386, st386⟩ := getF X383 hx hZ hown (host := "") (Or.inl (hw _ (List.mem_of_getElem? (i := 27) rfl))) Via.refl e383 F385 (g := (mkF m 334 #[.val (.ref self), .val (.int (8 : Int32)), .val (.ref ta), .val (.ref ha), .val (.int ec), .val (.ref sa), .val (.int (2 : Int32)), .val (.ref b128), .val (.int (2 : Int32)), .val (.int v341)] [(.ref self)])) rfl rfl (hb hby d1_334)
  refine Comes.st st386 ?_
  show Comes p e below _ (T386.setTop (mkF m 337 #[.val (.ref self), .val (.int (8 : Int32)), .val (.ref ta), .val (.ref ha), .val (.int ec), .val (.ref sa), .val (.int (2 : Int32)), .val (.ref b128), .val (.int (2 : Int32)), .val (.int v341)] [(.ref b359)]))
  refine Comes.st (fun t k => XS.iload X386.here hx rfl (hb hby d1_337) rfl (XS.aload X386.here hx rfl (hb hby d1_339) rfl rfl (XS.iload X386.here hx rfl (hb hby d1_341) rfl k))) ?_
  show Comes p e below _ (T386.setTop (mkF m 343 #[.val (.ref self), .val (.int (8 : Int32)), .val (.ref ta), .val (.ref ha), .val (.int ec), .val (.ref sa), .val (.int (2 : Int32)), .val (.ref b128), .val (.int (2 : Int32)), .val (.int v341)] [(.int (2 : Int32)), (.ref sa), (.int (2 : Int32)), (.ref b359)]))
  have F387 : Arv Z h383 sa ks .int (8 : Int32) [(.int (0 : Int32)), (.int (0 : Int32)), (.int (0 : Int32)), (.int (0 : Int32)), (.int (0 : Int32)), (.int (0 : Int32)), (.int (0 : Int32)), (.int (0 : Int32))] (.int (0 : Int32)) := (F381.other W383 ne380)
  obtain ⟨cl388, Ar388, q388, S388, Ng388, H388, Gf388⟩ := id F387
  have hin388 : ¬ ((2 : Int32) < 0 ∨ cl388.slots.size ≤ ((2 : Int32)).toNatClampNeg) := inb_of S388 ⟨by decide, by decide⟩
  refine Comes.st (fun t k => X386.iaload hx (j := (2 : Int32)) (v := (.int (0 : Int32))) (by rw [e386]; exact Ar388.1) (State.isArrayOf_alike hZ.alike Ar388.2.1) Ar388.2.2 hin388 (Has.at H388 hin388 rfl) (g := (mkF m 343 #[.val (.ref self), .val (.int (8 : Int32)), .val (.ref ta), .val (.ref ha), .val (.int ec), .val (.ref sa), .val (.int (2 : Int32)), .val (.ref b128), .val (.int (2 : Int32)), .val (.int v341)] [(.int (2 : Int32)), (.ref sa), (.int (2 : Int32)), (.ref b359)])) rfl rfl (hb hby d1_343) _ (XS.i2l X386.here hx rfl (hb hby d1_344) rfl k)) ?_
  show Comes p e below _ (T386.setTop (mkF m 345 #[.val (.ref self), .val (.int (8 : Int32)), .val (.ref ta), .val (.ref ha), .val (.int ec), .val (.ref sa), .val (.int (2 : Int32)), .val (.ref b128), .val (.int (2 : Int32)), .val (.int v341)] [(.long ((0 : Int32).toInt64)), (.int (2 : Int32)), (.ref b359)]))
  rw [show ((0 : Int32).toInt64) = (0 : Int64) from by decide]
  show Comes p e below _ (T386.setTop (mkF m 345 #[.val (.ref self), .val (.int (8 : Int32)), .val (.ref ta), .val (.ref ha), .val (.int ec), .val (.ref sa), .val (.int (2 : Int32)), .val (.ref b128), .val (.int (2 : Int32)), .val (.int v341)] [(.long (0 : Int64)), (.int (2 : Int32)), (.ref b359)]))
  obtain ⟨cl389, Ar389, q389, S389, Ng389, H389, Gf389⟩ := id V383
  have hin389 : ¬ ((2 : Int32) < 0 ∨ cl389.slots.size ≤ ((2 : Int32)).toNatClampNeg) := inb_of S389 ⟨by decide, by decide⟩
  obtain ⟨T389, h389, X389, e389, W389, st389⟩ := stJ X386 hx hZ e386 Ar389 (j := (2 : Int32)) hin389 (g := (mkF m 345 #[.val (.ref self), .val (.int (8 : Int32)), .val (.ref ta), .val (.ref ha), .val (.int ec), .val (.ref sa), .val (.int (2 : Int32)), .val (.ref b128), .val (.int (2 : Int32)), .val (.int v341)] [(.long (0 : Int64)), (.int (2 : Int32)), (.ref b359)])) rfl rfl (hb hby d1_345)
  have V389 : Arv Z h389 b359 k359 .long (8 : Int32) [(.long (0 : Int64)), (.long (0 : Int64)), (.long (0 : Int64)), (.long (0 : Int64)), (.long (0 : Int64)), (.long (0 : Int64)), (.long (0 : Int64)), (.long (0 : Int64))] (.long (0 : Int64)) := Arv.set Ar389 q389 S389 Ng389 H389 Gf389 rfl W389 2 rfl (Nat.le_of_ble_eq_true rfl)
  have z389 : h389.size = h383.size := W389.size
  have N389 := Fr.snoc X389 N383 gn375
  have K389 : Keep h0 h389 [self] := K383.wr W389 (Or.inr gz376)
  refine Comes.st st389 ?_
  show Comes p e below _ (T389.setTop (mkF m 346 #[.val (.ref self), .val (.int (8 : Int32)), .val (.ref ta), .val (.ref ha), .val (.int ec), .val (.ref sa), .val (.int (2 : Int32)), .val (.ref b128), .val (.int (2 : Int32)), .val (.int v341)] []))
  refine Comes.st (fun t k => XS.iinc X389.here hx rfl (hb hby d1_346) rfl (l' := #[.val (.ref self), .val (.int (8 : Int32)), .val (.ref ta), .val (.ref ha), .val (.int ec), .val (.ref sa), .val (.int (2 : Int32)), .val (.ref b128), .val (.int (3 : Int32)), .val (.int v341)]) rfl (XS.goto X389.here hx rfl (pc0 := 349) (pc' := 327) rfl (hb hby d1_349) (by decide) (by decide) (XS.iload X389.here hx rfl (hb hby d1_327) rfl (XS.iloadN X389.here hx rfl (hb hby d1_329) rfl k)))) ?_
  show Comes p e below _ (T389.setTop (mkF m 330 #[.val (.ref self), .val (.int (8 : Int32)), .val (.ref ta), .val (.ref ha), .val (.int ec), .val (.ref sa), .val (.int (2 : Int32)), .val (.ref b128), .val (.int (3 : Int32)), .val (.int v341)] [(.int (8 : Int32)), (.int (3 : Int32))]))
  have hc330_390 : (3 : Int32) < (8 : Int32) := by decide
  refine Comes.st (fun t k => XS.icmpNo X389.here hx rfl (hb hby d1_330) rfl (tlt hc330_390).2.1 (XS.aloadN X389.here hx rfl (hb hby d1_333) rfl rfl k)) ?_
  show Comes p e below _ (T389.setTop (mkF m 334 #[.val (.ref self), .val (.int (8 : Int32)), .val (.ref ta), .val (.ref ha), .val (.int ec), .val (.ref sa), .val (.int (2 : Int32)), .val (.ref b128), .val (.int (3 : Int32)), .val (.int v341)] [(.ref self)]))
  have F391 : Fld Z h389 self "com/example/ordr/ordr/layout/LayerNetwork" "layers" "[J" (.ref b359) := (F385.other W389 (Or.inl (Ne.symm ne372)))
  obtain ⟨T392, X392, e392, st392⟩ := getF X389 hx hZ hown (host := "") (Or.inl (hw _ (List.mem_of_getElem? (i := 27) rfl))) Via.refl e389 F391 (g := (mkF m 334 #[.val (.ref self), .val (.int (8 : Int32)), .val (.ref ta), .val (.ref ha), .val (.int ec), .val (.ref sa), .val (.int (2 : Int32)), .val (.ref b128), .val (.int (3 : Int32)), .val (.int v341)] [(.ref self)])) rfl rfl (hb hby d1_334)
  refine Comes.st st392 ?_
  show Comes p e below _ (T392.setTop (mkF m 337 #[.val (.ref self), .val (.int (8 : Int32)), .val (.ref ta), .val (.ref ha), .val (.int ec), .val (.ref sa), .val (.int (2 : Int32)), .val (.ref b128), .val (.int (3 : Int32)), .val (.int v341)] [(.ref b359)]))
  refine Comes.st (fun t k => XS.iload X392.here hx rfl (hb hby d1_337) rfl (XS.aload X392.here hx rfl (hb hby d1_339) rfl rfl (XS.iload X392.here hx rfl (hb hby d1_341) rfl k))) ?_
  show Comes p e below _ (T392.setTop (mkF m 343 #[.val (.ref self), .val (.int (8 : Int32)), .val (.ref ta), .val (.ref ha), .val (.int ec), .val (.ref sa), .val (.int (2 : Int32)), .val (.ref b128), .val (.int (3 : Int32)), .val (.int v341)] [(.int (3 : Int32)), (.ref sa), (.int (3 : Int32)), (.ref b359)]))
  have F393 : Arv Z h389 sa ks .int (8 : Int32) [(.int (0 : Int32)), (.int (0 : Int32)), (.int (0 : Int32)), (.int (0 : Int32)), (.int (0 : Int32)), (.int (0 : Int32)), (.int (0 : Int32)), (.int (0 : Int32))] (.int (0 : Int32)) := (F387.other W389 ne380)
  obtain ⟨cl394, Ar394, q394, S394, Ng394, H394, Gf394⟩ := id F393
  have hin394 : ¬ ((3 : Int32) < 0 ∨ cl394.slots.size ≤ ((3 : Int32)).toNatClampNeg) := inb_of S394 ⟨by decide, by decide⟩
  refine Comes.st (fun t k => X392.iaload hx (j := (3 : Int32)) (v := (.int (0 : Int32))) (by rw [e392]; exact Ar394.1) (State.isArrayOf_alike hZ.alike Ar394.2.1) Ar394.2.2 hin394 (Has.at H394 hin394 rfl) (g := (mkF m 343 #[.val (.ref self), .val (.int (8 : Int32)), .val (.ref ta), .val (.ref ha), .val (.int ec), .val (.ref sa), .val (.int (2 : Int32)), .val (.ref b128), .val (.int (3 : Int32)), .val (.int v341)] [(.int (3 : Int32)), (.ref sa), (.int (3 : Int32)), (.ref b359)])) rfl rfl (hb hby d1_343) _ (XS.i2l X392.here hx rfl (hb hby d1_344) rfl k)) ?_
  show Comes p e below _ (T392.setTop (mkF m 345 #[.val (.ref self), .val (.int (8 : Int32)), .val (.ref ta), .val (.ref ha), .val (.int ec), .val (.ref sa), .val (.int (2 : Int32)), .val (.ref b128), .val (.int (3 : Int32)), .val (.int v341)] [(.long ((0 : Int32).toInt64)), (.int (3 : Int32)), (.ref b359)]))
  rw [show ((0 : Int32).toInt64) = (0 : Int64) from by decide]
  show Comes p e below _ (T392.setTop (mkF m 345 #[.val (.ref self), .val (.int (8 : Int32)), .val (.ref ta), .val (.ref ha), .val (.int ec), .val (.ref sa), .val (.int (2 : Int32)), .val (.ref b128), .val (.int (3 : Int32)), .val (.int v341)] [(.long (0 : Int64)), (.int (3 : Int32)), (.ref b359)]))
  obtain ⟨cl395, Ar395, q395, S395, Ng395, H395, Gf395⟩ := id V389
  have hin395 : ¬ ((3 : Int32) < 0 ∨ cl395.slots.size ≤ ((3 : Int32)).toNatClampNeg) := inb_of S395 ⟨by decide, by decide⟩
  obtain ⟨T395, h395, X395, e395, W395, st395⟩ := stJ X392 hx hZ e392 Ar395 (j := (3 : Int32)) hin395 (g := (mkF m 345 #[.val (.ref self), .val (.int (8 : Int32)), .val (.ref ta), .val (.ref ha), .val (.int ec), .val (.ref sa), .val (.int (2 : Int32)), .val (.ref b128), .val (.int (3 : Int32)), .val (.int v341)] [(.long (0 : Int64)), (.int (3 : Int32)), (.ref b359)])) rfl rfl (hb hby d1_345)
  have V395 : Arv Z h395 b359 k359 .long (8 : Int32) [(.long (0 : Int64)), (.long (0 : Int64)), (.long (0 : Int64)), (.long (0 : Int64)), (.long (0 : Int64)), (.long (0 : Int64)), (.long (0 : Int64)), (.long (0 : Int64))] (.long (0 : Int64)) := Arv.set Ar395 q395 S395 Ng395 H395 Gf395 rfl W395 3 rfl (Nat.le_of_ble_eq_true rfl)
  have z395 : h395.size = h389.size := W395.size
  have N395 := Fr.snoc X395 N389 gn375
  have K395 : Keep h0 h395 [self] := K389.wr W395 (Or.inr gz376)
  refine Comes.st st395 ?_
  show Comes p e below _ (T395.setTop (mkF m 346 #[.val (.ref self), .val (.int (8 : Int32)), .val (.ref ta), .val (.ref ha), .val (.int ec), .val (.ref sa), .val (.int (2 : Int32)), .val (.ref b128), .val (.int (3 : Int32)), .val (.int v341)] []))
  refine Comes.st (fun t k => XS.iinc X395.here hx rfl (hb hby d1_346) rfl (l' := #[.val (.ref self), .val (.int (8 : Int32)), .val (.ref ta), .val (.ref ha), .val (.int ec), .val (.ref sa), .val (.int (2 : Int32)), .val (.ref b128), .val (.int (4 : Int32)), .val (.int v341)]) rfl (XS.goto X395.here hx rfl (pc0 := 349) (pc' := 327) rfl (hb hby d1_349) (by decide) (by decide) (XS.iload X395.here hx rfl (hb hby d1_327) rfl (XS.iloadN X395.here hx rfl (hb hby d1_329) rfl k)))) ?_
  show Comes p e below _ (T395.setTop (mkF m 330 #[.val (.ref self), .val (.int (8 : Int32)), .val (.ref ta), .val (.ref ha), .val (.int ec), .val (.ref sa), .val (.int (2 : Int32)), .val (.ref b128), .val (.int (4 : Int32)), .val (.int v341)] [(.int (8 : Int32)), (.int (4 : Int32))]))
  have hc330_396 : (4 : Int32) < (8 : Int32) := by decide
  refine Comes.st (fun t k => XS.icmpNo X395.here hx rfl (hb hby d1_330) rfl (tlt hc330_396).2.1 (XS.aloadN X395.here hx rfl (hb hby d1_333) rfl rfl k)) ?_
  show Comes p e below _ (T395.setTop (mkF m 334 #[.val (.ref self), .val (.int (8 : Int32)), .val (.ref ta), .val (.ref ha), .val (.int ec), .val (.ref sa), .val (.int (2 : Int32)), .val (.ref b128), .val (.int (4 : Int32)), .val (.int v341)] [(.ref self)]))
  have F397 : Fld Z h395 self "com/example/ordr/ordr/layout/LayerNetwork" "layers" "[J" (.ref b359) := (F391.other W395 (Or.inl (Ne.symm ne372)))
  obtain ⟨T398, X398, e398, st398⟩ := getF X395 hx hZ hown (host := "") (Or.inl (hw _ (List.mem_of_getElem? (i := 27) rfl))) Via.refl e395 F397 (g := (mkF m 334 #[.val (.ref self), .val (.int (8 : Int32)), .val (.ref ta), .val (.ref ha), .val (.int ec), .val (.ref sa), .val (.int (2 : Int32)), .val (.ref b128), .val (.int (4 : Int32)), .val (.int v341)] [(.ref self)])) rfl rfl (hb hby d1_334)
  refine Comes.st st398 ?_
  show Comes p e below _ (T398.setTop (mkF m 337 #[.val (.ref self), .val (.int (8 : Int32)), .val (.ref ta), .val (.ref ha), .val (.int ec), .val (.ref sa), .val (.int (2 : Int32)), .val (.ref b128), .val (.int (4 : Int32)), .val (.int v341)] [(.ref b359)]))
  refine Comes.st (fun t k => XS.iload X398.here hx rfl (hb hby d1_337) rfl (XS.aload X398.here hx rfl (hb hby d1_339) rfl rfl (XS.iload X398.here hx rfl (hb hby d1_341) rfl k))) ?_
  show Comes p e below _ (T398.setTop (mkF m 343 #[.val (.ref self), .val (.int (8 : Int32)), .val (.ref ta), .val (.ref ha), .val (.int ec), .val (.ref sa), .val (.int (2 : Int32)), .val (.ref b128), .val (.int (4 : Int32)), .val (.int v341)] [(.int (4 : Int32)), (.ref sa), (.int (4 : Int32)), (.ref b359)]))
  have F399 : Arv Z h395 sa ks .int (8 : Int32) [(.int (0 : Int32)), (.int (0 : Int32)), (.int (0 : Int32)), (.int (0 : Int32)), (.int (0 : Int32)), (.int (0 : Int32)), (.int (0 : Int32)), (.int (0 : Int32))] (.int (0 : Int32)) := (F393.other W395 ne380)
  obtain ⟨cl400, Ar400, q400, S400, Ng400, H400, Gf400⟩ := id F399
  have hin400 : ¬ ((4 : Int32) < 0 ∨ cl400.slots.size ≤ ((4 : Int32)).toNatClampNeg) := inb_of S400 ⟨by decide, by decide⟩
  refine Comes.st (fun t k => X398.iaload hx (j := (4 : Int32)) (v := (.int (0 : Int32))) (by rw [e398]; exact Ar400.1) (State.isArrayOf_alike hZ.alike Ar400.2.1) Ar400.2.2 hin400 (Has.at H400 hin400 rfl) (g := (mkF m 343 #[.val (.ref self), .val (.int (8 : Int32)), .val (.ref ta), .val (.ref ha), .val (.int ec), .val (.ref sa), .val (.int (2 : Int32)), .val (.ref b128), .val (.int (4 : Int32)), .val (.int v341)] [(.int (4 : Int32)), (.ref sa), (.int (4 : Int32)), (.ref b359)])) rfl rfl (hb hby d1_343) _ (XS.i2l X398.here hx rfl (hb hby d1_344) rfl k)) ?_
  show Comes p e below _ (T398.setTop (mkF m 345 #[.val (.ref self), .val (.int (8 : Int32)), .val (.ref ta), .val (.ref ha), .val (.int ec), .val (.ref sa), .val (.int (2 : Int32)), .val (.ref b128), .val (.int (4 : Int32)), .val (.int v341)] [(.long ((0 : Int32).toInt64)), (.int (4 : Int32)), (.ref b359)]))
  rw [show ((0 : Int32).toInt64) = (0 : Int64) from by decide]
  show Comes p e below _ (T398.setTop (mkF m 345 #[.val (.ref self), .val (.int (8 : Int32)), .val (.ref ta), .val (.ref ha), .val (.int ec), .val (.ref sa), .val (.int (2 : Int32)), .val (.ref b128), .val (.int (4 : Int32)), .val (.int v341)] [(.long (0 : Int64)), (.int (4 : Int32)), (.ref b359)]))
  obtain ⟨cl401, Ar401, q401, S401, Ng401, H401, Gf401⟩ := id V395
  have hin401 : ¬ ((4 : Int32) < 0 ∨ cl401.slots.size ≤ ((4 : Int32)).toNatClampNeg) := inb_of S401 ⟨by decide, by decide⟩
  obtain ⟨T401, h401, X401, e401, W401, st401⟩ := stJ X398 hx hZ e398 Ar401 (j := (4 : Int32)) hin401 (g := (mkF m 345 #[.val (.ref self), .val (.int (8 : Int32)), .val (.ref ta), .val (.ref ha), .val (.int ec), .val (.ref sa), .val (.int (2 : Int32)), .val (.ref b128), .val (.int (4 : Int32)), .val (.int v341)] [(.long (0 : Int64)), (.int (4 : Int32)), (.ref b359)])) rfl rfl (hb hby d1_345)
  have V401 : Arv Z h401 b359 k359 .long (8 : Int32) [(.long (0 : Int64)), (.long (0 : Int64)), (.long (0 : Int64)), (.long (0 : Int64)), (.long (0 : Int64)), (.long (0 : Int64)), (.long (0 : Int64)), (.long (0 : Int64))] (.long (0 : Int64)) := Arv.set Ar401 q401 S401 Ng401 H401 Gf401 rfl W401 4 rfl (Nat.le_of_ble_eq_true rfl)
  have z401 : h401.size = h395.size := W401.size
  have N401 := Fr.snoc X401 N395 gn375
  have K401 : Keep h0 h401 [self] := K395.wr W401 (Or.inr gz376)
  refine Comes.st st401 ?_
  show Comes p e below _ (T401.setTop (mkF m 346 #[.val (.ref self), .val (.int (8 : Int32)), .val (.ref ta), .val (.ref ha), .val (.int ec), .val (.ref sa), .val (.int (2 : Int32)), .val (.ref b128), .val (.int (4 : Int32)), .val (.int v341)] []))
  refine Comes.st (fun t k => XS.iinc X401.here hx rfl (hb hby d1_346) rfl (l' := #[.val (.ref self), .val (.int (8 : Int32)), .val (.ref ta), .val (.ref ha), .val (.int ec), .val (.ref sa), .val (.int (2 : Int32)), .val (.ref b128), .val (.int (5 : Int32)), .val (.int v341)]) rfl (XS.goto X401.here hx rfl (pc0 := 349) (pc' := 327) rfl (hb hby d1_349) (by decide) (by decide) (XS.iload X401.here hx rfl (hb hby d1_327) rfl (XS.iloadN X401.here hx rfl (hb hby d1_329) rfl k)))) ?_
  show Comes p e below _ (T401.setTop (mkF m 330 #[.val (.ref self), .val (.int (8 : Int32)), .val (.ref ta), .val (.ref ha), .val (.int ec), .val (.ref sa), .val (.int (2 : Int32)), .val (.ref b128), .val (.int (5 : Int32)), .val (.int v341)] [(.int (8 : Int32)), (.int (5 : Int32))]))
  have hc330_402 : (5 : Int32) < (8 : Int32) := by decide
  refine Comes.st (fun t k => XS.icmpNo X401.here hx rfl (hb hby d1_330) rfl (tlt hc330_402).2.1 (XS.aloadN X401.here hx rfl (hb hby d1_333) rfl rfl k)) ?_
  show Comes p e below _ (T401.setTop (mkF m 334 #[.val (.ref self), .val (.int (8 : Int32)), .val (.ref ta), .val (.ref ha), .val (.int ec), .val (.ref sa), .val (.int (2 : Int32)), .val (.ref b128), .val (.int (5 : Int32)), .val (.int v341)] [(.ref self)]))
  have F403 : Fld Z h401 self "com/example/ordr/ordr/layout/LayerNetwork" "layers" "[J" (.ref b359) := (F397.other W401 (Or.inl (Ne.symm ne372)))
  obtain ⟨T404, X404, e404, st404⟩ := getF X401 hx hZ hown (host := "") (Or.inl (hw _ (List.mem_of_getElem? (i := 27) rfl))) Via.refl e401 F403 (g := (mkF m 334 #[.val (.ref self), .val (.int (8 : Int32)), .val (.ref ta), .val (.ref ha), .val (.int ec), .val (.ref sa), .val (.int (2 : Int32)), .val (.ref b128), .val (.int (5 : Int32)), .val (.int v341)] [(.ref self)])) rfl rfl (hb hby d1_334)
  refine Comes.st st404 ?_
  show Comes p e below _ (T404.setTop (mkF m 337 #[.val (.ref self), .val (.int (8 : Int32)), .val (.ref ta), .val (.ref ha), .val (.int ec), .val (.ref sa), .val (.int (2 : Int32)), .val (.ref b128), .val (.int (5 : Int32)), .val (.int v341)] [(.ref b359)]))
  refine Comes.st (fun t k => XS.iload X404.here hx rfl (hb hby d1_337) rfl (XS.aload X404.here hx rfl (hb hby d1_339) rfl rfl (XS.iload X404.here hx rfl (hb hby d1_341) rfl k))) ?_
  show Comes p e below _ (T404.setTop (mkF m 343 #[.val (.ref self), .val (.int (8 : Int32)), .val (.ref ta), .val (.ref ha), .val (.int ec), .val (.ref sa), .val (.int (2 : Int32)), .val (.ref b128), .val (.int (5 : Int32)), .val (.int v341)] [(.int (5 : Int32)), (.ref sa), (.int (5 : Int32)), (.ref b359)]))
  have F405 : Arv Z h401 sa ks .int (8 : Int32) [(.int (0 : Int32)), (.int (0 : Int32)), (.int (0 : Int32)), (.int (0 : Int32)), (.int (0 : Int32)), (.int (0 : Int32)), (.int (0 : Int32)), (.int (0 : Int32))] (.int (0 : Int32)) := (F399.other W401 ne380)
  obtain ⟨cl406, Ar406, q406, S406, Ng406, H406, Gf406⟩ := id F405
  have hin406 : ¬ ((5 : Int32) < 0 ∨ cl406.slots.size ≤ ((5 : Int32)).toNatClampNeg) := inb_of S406 ⟨by decide, by decide⟩
  refine Comes.st (fun t k => X404.iaload hx (j := (5 : Int32)) (v := (.int (0 : Int32))) (by rw [e404]; exact Ar406.1) (State.isArrayOf_alike hZ.alike Ar406.2.1) Ar406.2.2 hin406 (Has.at H406 hin406 rfl) (g := (mkF m 343 #[.val (.ref self), .val (.int (8 : Int32)), .val (.ref ta), .val (.ref ha), .val (.int ec), .val (.ref sa), .val (.int (2 : Int32)), .val (.ref b128), .val (.int (5 : Int32)), .val (.int v341)] [(.int (5 : Int32)), (.ref sa), (.int (5 : Int32)), (.ref b359)])) rfl rfl (hb hby d1_343) _ (XS.i2l X404.here hx rfl (hb hby d1_344) rfl k)) ?_
  show Comes p e below _ (T404.setTop (mkF m 345 #[.val (.ref self), .val (.int (8 : Int32)), .val (.ref ta), .val (.ref ha), .val (.int ec), .val (.ref sa), .val (.int (2 : Int32)), .val (.ref b128), .val (.int (5 : Int32)), .val (.int v341)] [(.long ((0 : Int32).toInt64)), (.int (5 : Int32)), (.ref b359)]))
  rw [show ((0 : Int32).toInt64) = (0 : Int64) from by decide]
  show Comes p e below _ (T404.setTop (mkF m 345 #[.val (.ref self), .val (.int (8 : Int32)), .val (.ref ta), .val (.ref ha), .val (.int ec), .val (.ref sa), .val (.int (2 : Int32)), .val (.ref b128), .val (.int (5 : Int32)), .val (.int v341)] [(.long (0 : Int64)), (.int (5 : Int32)), (.ref b359)]))
  obtain ⟨cl407, Ar407, q407, S407, Ng407, H407, Gf407⟩ := id V401
  have hin407 : ¬ ((5 : Int32) < 0 ∨ cl407.slots.size ≤ ((5 : Int32)).toNatClampNeg) := inb_of S407 ⟨by decide, by decide⟩
  obtain ⟨T407, h407, X407, e407, W407, st407⟩ := stJ X404 hx hZ e404 Ar407 (j := (5 : Int32)) hin407 (g := (mkF m 345 #[.val (.ref self), .val (.int (8 : Int32)), .val (.ref ta), .val (.ref ha), .val (.int ec), .val (.ref sa), .val (.int (2 : Int32)), .val (.ref b128), .val (.int (5 : Int32)), .val (.int v341)] [(.long (0 : Int64)), (.int (5 : Int32)), (.ref b359)])) rfl rfl (hb hby d1_345)
  have V407 : Arv Z h407 b359 k359 .long (8 : Int32) [(.long (0 : Int64)), (.long (0 : Int64)), (.long (0 : Int64)), (.long (0 : Int64)), (.long (0 : Int64)), (.long (0 : Int64)), (.long (0 : Int64)), (.long (0 : Int64))] (.long (0 : Int64)) := Arv.set Ar407 q407 S407 Ng407 H407 Gf407 rfl W407 5 rfl (Nat.le_of_ble_eq_true rfl)
  have z407 : h407.size = h401.size := W407.size
  have N407 := Fr.snoc X407 N401 gn375
  have K407 : Keep h0 h407 [self] := K401.wr W407 (Or.inr gz376)
  refine Comes.st st407 ?_
  show Comes p e below _ (T407.setTop (mkF m 346 #[.val (.ref self), .val (.int (8 : Int32)), .val (.ref ta), .val (.ref ha), .val (.int ec), .val (.ref sa), .val (.int (2 : Int32)), .val (.ref b128), .val (.int (5 : Int32)), .val (.int v341)] []))
  refine Comes.st (fun t k => XS.iinc X407.here hx rfl (hb hby d1_346) rfl (l' := #[.val (.ref self), .val (.int (8 : Int32)), .val (.ref ta), .val (.ref ha), .val (.int ec), .val (.ref sa), .val (.int (2 : Int32)), .val (.ref b128), .val (.int (6 : Int32)), .val (.int v341)]) rfl (XS.goto X407.here hx rfl (pc0 := 349) (pc' := 327) rfl (hb hby d1_349) (by decide) (by decide) (XS.iload X407.here hx rfl (hb hby d1_327) rfl (XS.iloadN X407.here hx rfl (hb hby d1_329) rfl k)))) ?_
  show Comes p e below _ (T407.setTop (mkF m 330 #[.val (.ref self), .val (.int (8 : Int32)), .val (.ref ta), .val (.ref ha), .val (.int ec), .val (.ref sa), .val (.int (2 : Int32)), .val (.ref b128), .val (.int (6 : Int32)), .val (.int v341)] [(.int (8 : Int32)), (.int (6 : Int32))]))
  have hc330_408 : (6 : Int32) < (8 : Int32) := by decide
  refine Comes.st (fun t k => XS.icmpNo X407.here hx rfl (hb hby d1_330) rfl (tlt hc330_408).2.1 (XS.aloadN X407.here hx rfl (hb hby d1_333) rfl rfl k)) ?_
  show Comes p e below _ (T407.setTop (mkF m 334 #[.val (.ref self), .val (.int (8 : Int32)), .val (.ref ta), .val (.ref ha), .val (.int ec), .val (.ref sa), .val (.int (2 : Int32)), .val (.ref b128), .val (.int (6 : Int32)), .val (.int v341)] [(.ref self)]))
  have F409 : Fld Z h407 self "com/example/ordr/ordr/layout/LayerNetwork" "layers" "[J" (.ref b359) := (F403.other W407 (Or.inl (Ne.symm ne372)))
  obtain ⟨T410, X410, e410, st410⟩ := getF X407 hx hZ hown (host := "") (Or.inl (hw _ (List.mem_of_getElem? (i := 27) rfl))) Via.refl e407 F409 (g := (mkF m 334 #[.val (.ref self), .val (.int (8 : Int32)), .val (.ref ta), .val (.ref ha), .val (.int ec), .val (.ref sa), .val (.int (2 : Int32)), .val (.ref b128), .val (.int (6 : Int32)), .val (.int v341)] [(.ref self)])) rfl rfl (hb hby d1_334)
  refine Comes.st st410 ?_
  show Comes p e below _ (T410.setTop (mkF m 337 #[.val (.ref self), .val (.int (8 : Int32)), .val (.ref ta), .val (.ref ha), .val (.int ec), .val (.ref sa), .val (.int (2 : Int32)), .val (.ref b128), .val (.int (6 : Int32)), .val (.int v341)] [(.ref b359)]))
  refine Comes.st (fun t k => XS.iload X410.here hx rfl (hb hby d1_337) rfl (XS.aload X410.here hx rfl (hb hby d1_339) rfl rfl (XS.iload X410.here hx rfl (hb hby d1_341) rfl k))) ?_
  show Comes p e below _ (T410.setTop (mkF m 343 #[.val (.ref self), .val (.int (8 : Int32)), .val (.ref ta), .val (.ref ha), .val (.int ec), .val (.ref sa), .val (.int (2 : Int32)), .val (.ref b128), .val (.int (6 : Int32)), .val (.int v341)] [(.int (6 : Int32)), (.ref sa), (.int (6 : Int32)), (.ref b359)]))
  have F411 : Arv Z h407 sa ks .int (8 : Int32) [(.int (0 : Int32)), (.int (0 : Int32)), (.int (0 : Int32)), (.int (0 : Int32)), (.int (0 : Int32)), (.int (0 : Int32)), (.int (0 : Int32)), (.int (0 : Int32))] (.int (0 : Int32)) := (F405.other W407 ne380)
  obtain ⟨cl412, Ar412, q412, S412, Ng412, H412, Gf412⟩ := id F411
  have hin412 : ¬ ((6 : Int32) < 0 ∨ cl412.slots.size ≤ ((6 : Int32)).toNatClampNeg) := inb_of S412 ⟨by decide, by decide⟩
  refine Comes.st (fun t k => X410.iaload hx (j := (6 : Int32)) (v := (.int (0 : Int32))) (by rw [e410]; exact Ar412.1) (State.isArrayOf_alike hZ.alike Ar412.2.1) Ar412.2.2 hin412 (Has.at H412 hin412 rfl) (g := (mkF m 343 #[.val (.ref self), .val (.int (8 : Int32)), .val (.ref ta), .val (.ref ha), .val (.int ec), .val (.ref sa), .val (.int (2 : Int32)), .val (.ref b128), .val (.int (6 : Int32)), .val (.int v341)] [(.int (6 : Int32)), (.ref sa), (.int (6 : Int32)), (.ref b359)])) rfl rfl (hb hby d1_343) _ (XS.i2l X410.here hx rfl (hb hby d1_344) rfl k)) ?_
  show Comes p e below _ (T410.setTop (mkF m 345 #[.val (.ref self), .val (.int (8 : Int32)), .val (.ref ta), .val (.ref ha), .val (.int ec), .val (.ref sa), .val (.int (2 : Int32)), .val (.ref b128), .val (.int (6 : Int32)), .val (.int v341)] [(.long ((0 : Int32).toInt64)), (.int (6 : Int32)), (.ref b359)]))
  rw [show ((0 : Int32).toInt64) = (0 : Int64) from by decide]
  show Comes p e below _ (T410.setTop (mkF m 345 #[.val (.ref self), .val (.int (8 : Int32)), .val (.ref ta), .val (.ref ha), .val (.int ec), .val (.ref sa), .val (.int (2 : Int32)), .val (.ref b128), .val (.int (6 : Int32)), .val (.int v341)] [(.long (0 : Int64)), (.int (6 : Int32)), (.ref b359)]))
  obtain ⟨cl413, Ar413, q413, S413, Ng413, H413, Gf413⟩ := id V407
  have hin413 : ¬ ((6 : Int32) < 0 ∨ cl413.slots.size ≤ ((6 : Int32)).toNatClampNeg) := inb_of S413 ⟨by decide, by decide⟩
  obtain ⟨T413, h413, X413, e413, W413, st413⟩ := stJ X410 hx hZ e410 Ar413 (j := (6 : Int32)) hin413 (g := (mkF m 345 #[.val (.ref self), .val (.int (8 : Int32)), .val (.ref ta), .val (.ref ha), .val (.int ec), .val (.ref sa), .val (.int (2 : Int32)), .val (.ref b128), .val (.int (6 : Int32)), .val (.int v341)] [(.long (0 : Int64)), (.int (6 : Int32)), (.ref b359)])) rfl rfl (hb hby d1_345)
  have V413 : Arv Z h413 b359 k359 .long (8 : Int32) [(.long (0 : Int64)), (.long (0 : Int64)), (.long (0 : Int64)), (.long (0 : Int64)), (.long (0 : Int64)), (.long (0 : Int64)), (.long (0 : Int64)), (.long (0 : Int64))] (.long (0 : Int64)) := Arv.set Ar413 q413 S413 Ng413 H413 Gf413 rfl W413 6 rfl (Nat.le_of_ble_eq_true rfl)
  have z413 : h413.size = h407.size := W413.size
  have N413 := Fr.snoc X413 N407 gn375
  have K413 : Keep h0 h413 [self] := K407.wr W413 (Or.inr gz376)
  refine Comes.st st413 ?_
  show Comes p e below _ (T413.setTop (mkF m 346 #[.val (.ref self), .val (.int (8 : Int32)), .val (.ref ta), .val (.ref ha), .val (.int ec), .val (.ref sa), .val (.int (2 : Int32)), .val (.ref b128), .val (.int (6 : Int32)), .val (.int v341)] []))
  refine Comes.st (fun t k => XS.iinc X413.here hx rfl (hb hby d1_346) rfl (l' := #[.val (.ref self), .val (.int (8 : Int32)), .val (.ref ta), .val (.ref ha), .val (.int ec), .val (.ref sa), .val (.int (2 : Int32)), .val (.ref b128), .val (.int (7 : Int32)), .val (.int v341)]) rfl (XS.goto X413.here hx rfl (pc0 := 349) (pc' := 327) rfl (hb hby d1_349) (by decide) (by decide) (XS.iload X413.here hx rfl (hb hby d1_327) rfl (XS.iloadN X413.here hx rfl (hb hby d1_329) rfl k)))) ?_
  show Comes p e below _ (T413.setTop (mkF m 330 #[.val (.ref self), .val (.int (8 : Int32)), .val (.ref ta), .val (.ref ha), .val (.int ec), .val (.ref sa), .val (.int (2 : Int32)), .val (.ref b128), .val (.int (7 : Int32)), .val (.int v341)] [(.int (8 : Int32)), (.int (7 : Int32))]))
  have hc330_414 : (7 : Int32) < (8 : Int32) := by decide
  refine Comes.st (fun t k => XS.icmpNo X413.here hx rfl (hb hby d1_330) rfl (tlt hc330_414).2.1 (XS.aloadN X413.here hx rfl (hb hby d1_333) rfl rfl k)) ?_
  show Comes p e below _ (T413.setTop (mkF m 334 #[.val (.ref self), .val (.int (8 : Int32)), .val (.ref ta), .val (.ref ha), .val (.int ec), .val (.ref sa), .val (.int (2 : Int32)), .val (.ref b128), .val (.int (7 : Int32)), .val (.int v341)] [(.ref self)]))
  have F415 : Fld Z h413 self "com/example/ordr/ordr/layout/LayerNetwork" "layers" "[J" (.ref b359) := (F409.other W413 (Or.inl (Ne.symm ne372)))
  obtain ⟨T416, X416, e416, st416⟩ := getF X413 hx hZ hown (host := "") (Or.inl (hw _ (List.mem_of_getElem? (i := 27) rfl))) Via.refl e413 F415 (g := (mkF m 334 #[.val (.ref self), .val (.int (8 : Int32)), .val (.ref ta), .val (.ref ha), .val (.int ec), .val (.ref sa), .val (.int (2 : Int32)), .val (.ref b128), .val (.int (7 : Int32)), .val (.int v341)] [(.ref self)])) rfl rfl (hb hby d1_334)
  refine Comes.st st416 ?_
  show Comes p e below _ (T416.setTop (mkF m 337 #[.val (.ref self), .val (.int (8 : Int32)), .val (.ref ta), .val (.ref ha), .val (.int ec), .val (.ref sa), .val (.int (2 : Int32)), .val (.ref b128), .val (.int (7 : Int32)), .val (.int v341)] [(.ref b359)]))
  refine Comes.st (fun t k => XS.iload X416.here hx rfl (hb hby d1_337) rfl (XS.aload X416.here hx rfl (hb hby d1_339) rfl rfl (XS.iload X416.here hx rfl (hb hby d1_341) rfl k))) ?_
  show Comes p e below _ (T416.setTop (mkF m 343 #[.val (.ref self), .val (.int (8 : Int32)), .val (.ref ta), .val (.ref ha), .val (.int ec), .val (.ref sa), .val (.int (2 : Int32)), .val (.ref b128), .val (.int (7 : Int32)), .val (.int v341)] [(.int (7 : Int32)), (.ref sa), (.int (7 : Int32)), (.ref b359)]))
  have F417 : Arv Z h413 sa ks .int (8 : Int32) [(.int (0 : Int32)), (.int (0 : Int32)), (.int (0 : Int32)), (.int (0 : Int32)), (.int (0 : Int32)), (.int (0 : Int32)), (.int (0 : Int32)), (.int (0 : Int32))] (.int (0 : Int32)) := (F411.other W413 ne380)
  obtain ⟨cl418, Ar418, q418, S418, Ng418, H418, Gf418⟩ := id F417
  have hin418 : ¬ ((7 : Int32) < 0 ∨ cl418.slots.size ≤ ((7 : Int32)).toNatClampNeg) := inb_of S418 ⟨by decide, by decide⟩
  refine Comes.st (fun t k => X416.iaload hx (j := (7 : Int32)) (v := (.int (0 : Int32))) (by rw [e416]; exact Ar418.1) (State.isArrayOf_alike hZ.alike Ar418.2.1) Ar418.2.2 hin418 (Has.at H418 hin418 rfl) (g := (mkF m 343 #[.val (.ref self), .val (.int (8 : Int32)), .val (.ref ta), .val (.ref ha), .val (.int ec), .val (.ref sa), .val (.int (2 : Int32)), .val (.ref b128), .val (.int (7 : Int32)), .val (.int v341)] [(.int (7 : Int32)), (.ref sa), (.int (7 : Int32)), (.ref b359)])) rfl rfl (hb hby d1_343) _ (XS.i2l X416.here hx rfl (hb hby d1_344) rfl k)) ?_
  show Comes p e below _ (T416.setTop (mkF m 345 #[.val (.ref self), .val (.int (8 : Int32)), .val (.ref ta), .val (.ref ha), .val (.int ec), .val (.ref sa), .val (.int (2 : Int32)), .val (.ref b128), .val (.int (7 : Int32)), .val (.int v341)] [(.long ((0 : Int32).toInt64)), (.int (7 : Int32)), (.ref b359)]))
  rw [show ((0 : Int32).toInt64) = (0 : Int64) from by decide]
  show Comes p e below _ (T416.setTop (mkF m 345 #[.val (.ref self), .val (.int (8 : Int32)), .val (.ref ta), .val (.ref ha), .val (.int ec), .val (.ref sa), .val (.int (2 : Int32)), .val (.ref b128), .val (.int (7 : Int32)), .val (.int v341)] [(.long (0 : Int64)), (.int (7 : Int32)), (.ref b359)]))
  obtain ⟨cl419, Ar419, q419, S419, Ng419, H419, Gf419⟩ := id V413
  have hin419 : ¬ ((7 : Int32) < 0 ∨ cl419.slots.size ≤ ((7 : Int32)).toNatClampNeg) := inb_of S419 ⟨by decide, by decide⟩
  obtain ⟨T419, h419, X419, e419, W419, st419⟩ := stJ X416 hx hZ e416 Ar419 (j := (7 : Int32)) hin419 (g := (mkF m 345 #[.val (.ref self), .val (.int (8 : Int32)), .val (.ref ta), .val (.ref ha), .val (.int ec), .val (.ref sa), .val (.int (2 : Int32)), .val (.ref b128), .val (.int (7 : Int32)), .val (.int v341)] [(.long (0 : Int64)), (.int (7 : Int32)), (.ref b359)])) rfl rfl (hb hby d1_345)
  have V419 : Arv Z h419 b359 k359 .long (8 : Int32) [(.long (0 : Int64)), (.long (0 : Int64)), (.long (0 : Int64)), (.long (0 : Int64)), (.long (0 : Int64)), (.long (0 : Int64)), (.long (0 : Int64)), (.long (0 : Int64))] (.long (0 : Int64)) := Arv.set Ar419 q419 S419 Ng419 H419 Gf419 rfl W419 7 rfl (Nat.le_of_ble_eq_true rfl)
  have z419 : h419.size = h413.size := W419.size
  have N419 := Fr.snoc X419 N413 gn375
  have K419 : Keep h0 h419 [self] := K413.wr W419 (Or.inr gz376)
  refine Comes.st st419 ?_
  show Comes p e below _ (T419.setTop (mkF m 346 #[.val (.ref self), .val (.int (8 : Int32)), .val (.ref ta), .val (.ref ha), .val (.int ec), .val (.ref sa), .val (.int (2 : Int32)), .val (.ref b128), .val (.int (7 : Int32)), .val (.int v341)] []))
  refine Comes.st (fun t k => XS.iinc X419.here hx rfl (hb hby d1_346) rfl (l' := #[.val (.ref self), .val (.int (8 : Int32)), .val (.ref ta), .val (.ref ha), .val (.int ec), .val (.ref sa), .val (.int (2 : Int32)), .val (.ref b128), .val (.int (8 : Int32)), .val (.int v341)]) rfl (XS.goto X419.here hx rfl (pc0 := 349) (pc' := 327) rfl (hb hby d1_349) (by decide) (by decide) (XS.iload X419.here hx rfl (hb hby d1_327) rfl (XS.iloadN X419.here hx rfl (hb hby d1_329) rfl k)))) ?_
  show Comes p e below _ (T419.setTop (mkF m 330 #[.val (.ref self), .val (.int (8 : Int32)), .val (.ref ta), .val (.ref ha), .val (.int ec), .val (.ref sa), .val (.int (2 : Int32)), .val (.ref b128), .val (.int (8 : Int32)), .val (.int v341)] [(.int (8 : Int32)), (.int (8 : Int32))]))
  have hc330_420 : ¬ ((8 : Int32) < (8 : Int32)) := by decide
  refine Comes.st (fun t k => XS.icmpYes X419.here hx rfl (pc0 := 330) (pc' := 352) rfl (hb hby d1_330) rfl (flt hc330_420).2.1 (by decide) (by decide) (XS.aloadN X419.here hx rfl (hb hby d1_352) rfl rfl (XS.iloadN X419.here hx rfl (hb hby d1_353) rfl k))) ?_
  show Comes p e below _ (T419.setTop (mkF m 354 #[.val (.ref self), .val (.int (8 : Int32)), .val (.ref ta), .val (.ref ha), .val (.int ec), .val (.ref sa), .val (.int (2 : Int32)), .val (.ref b128), .val (.int (8 : Int32)), .val (.int v341)] [(.int (8 : Int32)), (.ref self)]))
  obtain ⟨T421, h421, k421, X421, e421, E421, A421, st421⟩ := newP X419 hx hZ (hw _ (List.mem_of_getElem? (i := 0) rfl)) e419 (g := (mkF m 354 #[.val (.ref self), .val (.int (8 : Int32)), .val (.ref ta), .val (.ref ha), .val (.int ec), .val (.ref sa), .val (.int (2 : Int32)), .val (.ref b128), .val (.int (8 : Int32)), .val (.int v341)] [(.int (8 : Int32)), (.ref self)])) rfl (hb hby d1_354) rfl (by decide) (cap := 8) (by decide) (by decide) (by decide) (by decide)
  obtain ⟨b421, g421⟩ : ∃ z, z = h419.size := ⟨_, rfl⟩
  rw [← g421] at A421 st421
  have z421 : h419.size ≤ h421.size := E421.1
  have lt421 : b421 < h421.size := A421.lt
  have V421 : Ari Z h421 b421 8 (fun _ => 0) := Ari.new A421 rfl
  obtain ⟨f421, hf421⟩ : ∃ g : Nat → Int32, g = fun _ => 0 := ⟨_, rfl⟩
  rw [← hf421] at V421
  have K421 : Keep h0 h421 [self] := K419.ext E421
  refine Comes.st st421 ?_
  show Comes p e below _ (T421.setTop (mkF m 356 #[.val (.ref self), .val (.int (8 : Int32)), .val (.ref ta), .val (.ref ha), .val (.int ec), .val (.ref sa), .val (.int (2 : Int32)), .val (.ref b128), .val (.int (8 : Int32)), .val (.int v341)] [(.ref b421), (.ref self)]))
  have F422 : Exa Z h421 self "com/example/ordr/ordr/layout/LayerNetwork" := ((((((((((F360.wr W362).wr W374).wr W383).wr W389).wr W395).wr W401).wr W407).wr W413).wr W419).ext E421)
  have F423 : Fld Z h421 self "com/example/ordr/ordr/layout/LayerNetwork" "supplies" "[I" .null := ((((((((((((((((((((((((((((((((((((((((((((((((((((((((G9.other W2 (Or.inr (slot_ne (Or.inr (hw _ (List.mem_of_getElem? (i := 30) rfl))) (Or.inr (hw _ (List.mem_of_getElem? (i := 11) rfl))) (by decide) (t := (.array .int)) (t' := .int) (by decide) (by decide)))).other W6 (Or.inr (slot_ne (Or.inr (hw _ (List.mem_of_getElem? (i := 30) rfl))) (Or.inr (hw _ (List.mem_of_getElem? (i := 13) rfl))) (by decide) (t := (.array .int)) (t' := .int) (by decide) (by decide)))).other W9 (Or.inr (slot_ne (Or.inr (hw _ (List.mem_of_getElem? (i := 30) rfl))) (Or.inr (hw _ (List.mem_of_getElem? (i := 15) rfl))) (by decide) (t := (.array .int)) (t' := (.array .int)) (by decide) (by decide)))).other W12 (Or.inr (slot_ne (Or.inr (hw _ (List.mem_of_getElem? (i := 30) rfl))) (Or.inr (hw _ (List.mem_of_getElem? (i := 17) rfl))) (by decide) (t := (.array .int)) (t' := (.array .int)) (by decide) (by decide)))).ext E15).other W18 (Or.inr (slot_ne (Or.inr (hw _ (List.mem_of_getElem? (i := 30) rfl))) (Or.inr (hw _ (List.mem_of_getElem? (i := 19) rfl))) (by decide) (t := (.array .int)) (t' := (.array .int)) (by decide) (by decide)))).other W27 (Or.inl (Ne.symm ne23))).other W37 (Or.inl (Ne.symm ne23))).other W46 (Or.inl (Ne.symm ne23))).other W53 (Or.inl (Ne.symm ne23))).other W62 (Or.inl (Ne.symm ne23))).other W70 (Or.inl (Ne.symm ne23))).other W78 (Or.inl (Ne.symm ne23))).other W86 (Or.inl (Ne.symm ne23))).other W94 (Or.inl (Ne.symm ne23))).other W102 (Or.inl (Ne.symm ne23))).other W110 (Or.inl (Ne.symm ne23))).other W118 (Or.inl (Ne.symm ne23))).ext E120).other W123 (Or.inr (slot_ne (Or.inr (hw _ (List.mem_of_getElem? (i := 30) rfl))) (Or.inr (hw _ (List.mem_of_getElem? (i := 21) rfl))) (by decide) (t := (.array .int)) (t' := (.array .int)) (by decide) (by decide)))).ext E124).other W127 (Or.inr (slot_ne (Or.inr (hw _ (List.mem_of_getElem? (i := 30) rfl))) (Or.inr (hw _ (List.mem_of_getElem? (i := 23) rfl))) (by decide) (t := (.array .int)) (t' := (.array .int)) (by decide) (by decide)))).ext E128).other W143 (Or.inl (Ne.symm ne141))).other W154 (Or.inl (Ne.symm ne151))).other W166 (Or.inl ne170)).other W187 (Or.inl (Ne.symm ne141))).other W195 (Or.inl (Ne.symm ne151))).other W201 (Or.inl ne170)).ext E203).other W206 (Or.inr (slot_ne (Or.inr (hw _ (List.mem_of_getElem? (i := 30) rfl))) (Or.inr (hw _ (List.mem_of_getElem? (i := 25) rfl))) (by decide) (t := (.array .int)) (t' := (.array .int)) (by decide) (by decide)))).other W218 (Or.inl (Ne.symm ne216))).other W233 (Or.inl (Ne.symm ne216))).other W244 (Or.inl (Ne.symm ne216))).other W255 (Or.inl (Ne.symm ne216))).other W266 (Or.inl (Ne.symm ne216))).other W277 (Or.inl (Ne.symm ne216))).other W288 (Or.inl (Ne.symm ne216))).other W299 (Or.inl (Ne.symm ne216))).other W317 (Or.inl (Ne.symm ne141))).other W325 (Or.inl (Ne.symm ne151))).other W331 (Or.inl ne170)).other W345 (Or.inl (Ne.symm ne141))).other W351 (Or.inl (Ne.symm ne151))).other W357 (Or.inl ne170)).ext E359).other W362 (Or.inr (slot_ne (Or.inr (hw _ (List.mem_of_getElem? (i := 30) rfl))) (Or.inr (hw _ (List.mem_of_getElem? (i := 28) rfl))) (by decide) (t := (.array .int)) (t' := (.array .long)) (by decide) (by decide)))).other W374 (Or.inl (Ne.symm ne372))).other W383 (Or.inl (Ne.symm ne372))).other W389 (Or.inl (Ne.symm ne372))).other W395 (Or.inl (Ne.symm ne372))).other W401 (Or.inl (Ne.symm ne372))).other W407 (Or.inl (Ne.symm ne372))).other W413 (Or.inl (Ne.symm ne372))).other W419 (Or.inl (Ne.symm ne372))).ext E421)
  obtain ⟨T424, h424, X424, e424, W424, st424⟩ := putF X421 hx hZ hown (host := "") (Or.inl (hw _ (List.mem_of_getElem? (i := 29) rfl))) Via.refl e421 F423 F422 (Or.inr ⟨(hw _ (List.mem_of_getElem? (i := 30) rfl)), rfl, hnm⟩) (hw _ (List.mem_of_getElem? (i := 2) rfl)) (ty := (.array .int)) (by decide) rfl rfl (g := (mkF m 356 #[.val (.ref self), .val (.int (8 : Int32)), .val (.ref ta), .val (.ref ha), .val (.int ec), .val (.ref sa), .val (.int (2 : Int32)), .val (.ref b128), .val (.int (8 : Int32)), .val (.int v341)] [(.ref b421), (.ref self)])) rfl rfl (hb hby d1_356)
  have Fw424 := F423.same W424
  have z424 : h424.size = h421.size := W424.size
  have N424 := Fr.snoc X424 N419 gn3
  have K424 : Keep h0 h424 [self] := K421.wr W424 (Or.inl (List.mem_of_getElem? (i := 0) rfl))
  refine Comes.st st424 ?_
  show Comes p e below _ (T424.setTop (mkF m 359 #[.val (.ref self), .val (.int (8 : Int32)), .val (.ref ta), .val (.ref ha), .val (.int ec), .val (.ref sa), .val (.int (2 : Int32)), .val (.ref b128), .val (.int (8 : Int32)), .val (.int v341)] []))
  refine Comes.st (fun t k => XS.iconst X424.here hx rfl (hb hby d1_359) (XS.istore X424.here hx rfl (hb hby d1_360) rfl (l' := #[.val (.ref self), .val (.int (8 : Int32)), .val (.ref ta), .val (.ref ha), .val (.int ec), .val (.ref sa), .val (.int (2 : Int32)), .val (.ref b128), .val (.int (0 : Int32)), .val (.int v341)]) rfl (XS.iload X424.here hx rfl (hb hby d1_362) rfl (XS.iload X424.here hx rfl (hb hby d1_364) rfl k)))) ?_
  show Comes p e below _ (T424.setTop (mkF m 366 #[.val (.ref self), .val (.int (8 : Int32)), .val (.ref ta), .val (.ref ha), .val (.int ec), .val (.ref sa), .val (.int (2 : Int32)), .val (.ref b128), .val (.int (0 : Int32)), .val (.int v341)] [(.int ec), (.int (0 : Int32))]))
  by_cases hc366_425 : (0 : Int32) < ec
  · refine Comes.st (fun t k => XS.icmpNo X424.here hx rfl (hb hby d1_366) rfl (tlt hc366_425).2.1 (XS.aloadN X424.here hx rfl (hb hby d1_369) rfl rfl k)) ?_
    show Comes p e below _ (T424.setTop (mkF m 370 #[.val (.ref self), .val (.int (8 : Int32)), .val (.ref ta), .val (.ref ha), .val (.int ec), .val (.ref sa), .val (.int (2 : Int32)), .val (.ref b128), .val (.int (0 : Int32)), .val (.int v341)] [(.ref self)]))
    obtain ⟨T426, X426, e426, st426⟩ := getF X424 hx hZ hown (host := "") (Or.inl (hw _ (List.mem_of_getElem? (i := 29) rfl))) Via.refl e424 Fw424 (g := (mkF m 370 #[.val (.ref self), .val (.int (8 : Int32)), .val (.ref ta), .val (.ref ha), .val (.int ec), .val (.ref sa), .val (.int (2 : Int32)), .val (.ref b128), .val (.int (0 : Int32)), .val (.int v341)] [(.ref self)])) rfl rfl (hb hby d1_370)
    refine Comes.st st426 ?_
    show Comes p e below _ (T426.setTop (mkF m 373 #[.val (.ref self), .val (.int (8 : Int32)), .val (.ref ta), .val (.ref ha), .val (.int ec), .val (.ref sa), .val (.int (2 : Int32)), .val (.ref b128), .val (.int (0 : Int32)), .val (.int v341)] [(.ref b421)]))
    refine Comes.st (fun t k => XS.aloadN X426.here hx rfl (hb hby d1_373) rfl rfl (XS.iload X426.here hx rfl (hb hby d1_374) rfl k)) ?_
    show Comes p e below _ (T426.setTop (mkF m 376 #[.val (.ref self), .val (.int (8 : Int32)), .val (.ref ta), .val (.ref ha), .val (.int ec), .val (.ref sa), .val (.int (2 : Int32)), .val (.ref b128), .val (.int (0 : Int32)), .val (.int v341)] [(.int (0 : Int32)), (.ref ta), (.ref b421)]))
    have ne427 : ta ≠ b359 := by omega
    have F428 : Arv Z h424 ta kt .int (2 : Int32) [(.int t0), (.int t1)] (.int (0 : Int32)) := ((((((((((((((F348.other W351 ne158).other W357 ne173).ext E359).other W362 G17).other W374 ne427).other W383 ne427).other W389 ne427).other W395 ne427).other W401 ne427).other W407 ne427).other W413 ne427).other W419 ne427).ext E421).other W424 G17)
    obtain ⟨cl429, Ar429, q429, S429, Ng429, H429, Gf429⟩ := id F428
    have hin429 : ¬ ((0 : Int32) < 0 ∨ cl429.slots.size ≤ ((0 : Int32)).toNatClampNeg) := inb_of S429 ⟨by decide, by decide⟩
    refine Comes.st (fun t k => X426.iaload hx (j := (0 : Int32)) (v := (.int t0)) (by rw [e426]; exact Ar429.1) (State.isArrayOf_alike hZ.alike Ar429.2.1) Ar429.2.2 hin429 (Has.at H429 hin429 rfl) (g := (mkF m 376 #[.val (.ref self), .val (.int (8 : Int32)), .val (.ref ta), .val (.ref ha), .val (.int ec), .val (.ref sa), .val (.int (2 : Int32)), .val (.ref b128), .val (.int (0 : Int32)), .val (.int v341)] [(.int (0 : Int32)), (.ref ta), (.ref b421)])) rfl rfl (hb hby d1_376) _ (own_dup2 X426 hx rfl (hb hby d1_377) rfl rfl rfl k)) ?_
    show Comes p e below _ (T426.setTop (mkF m 378 #[.val (.ref self), .val (.int (8 : Int32)), .val (.ref ta), .val (.ref ha), .val (.int ec), .val (.ref sa), .val (.int (2 : Int32)), .val (.ref b128), .val (.int (0 : Int32)), .val (.int v341)] [(.int t0), (.ref b421), (.int t0), (.ref b421)]))
    have ne430 : b421 ≠ self := by omega
    have F431 : Ari Z h424 b421 8 f421 := (V421.other W424 ne430)
    obtain ⟨cl432, Ar432, S432, H432⟩ := id F431
    have hin432 : ¬ (t0 < 0 ∨ cl432.slots.size ≤ (t0).toNatClampNeg) := by rw [S432]; exact own_inb (own_p0 b_t0 (by decide))
    refine Comes.st (fun t k => X426.iaload hx (j := t0) (v := (.int (f421 (t0).toNatClampNeg))) (by rw [e426]; exact Ar432.1) (State.isArrayOf_alike hZ.alike Ar432.2.1) Ar432.2.2 hin432 (H432 _ (Nat.lt_of_not_le fun y => hin432 (Or.inr (S432 ▸ y)))) (g := (mkF m 378 #[.val (.ref self), .val (.int (8 : Int32)), .val (.ref ta), .val (.ref ha), .val (.int ec), .val (.ref sa), .val (.int (2 : Int32)), .val (.ref b128), .val (.int (0 : Int32)), .val (.int v341)] [(.int t0), (.ref b421), (.int t0), (.ref b421)])) rfl rfl (hb hby d1_378) _ (XS.iconst X426.here hx rfl (hb hby d1_379) (XS.iadd X426.here hx rfl (hb hby d1_380) rfl k))) ?_
    show Comes p e below _ (T426.setTop (mkF m 381 #[.val (.ref self), .val (.int (8 : Int32)), .val (.ref ta), .val (.ref ha), .val (.int ec), .val (.ref sa), .val (.int (2 : Int32)), .val (.ref b128), .val (.int (0 : Int32)), .val (.int v341)] [(.int ((f421 (t0).toNatClampNeg) + (1 : Int32))), (.int t0), (.ref b421)]))
    generalize hv_v433 : ((f421 (t0).toNatClampNeg) + (1 : Int32)) = v433
    show Comes p e below _ (T426.setTop (mkF m 381 #[.val (.ref self), .val (.int (8 : Int32)), .val (.ref ta), .val (.ref ha), .val (.int ec), .val (.ref sa), .val (.int (2 : Int32)), .val (.ref b128), .val (.int (0 : Int32)), .val (.int v341)] [(.int v433), (.int t0), (.ref b421)]))
    obtain ⟨cl434, Ar434, S434, H434⟩ := id F431
    have hin434 : ¬ (t0 < 0 ∨ cl434.slots.size ≤ (t0).toNatClampNeg) := by rw [S434]; exact own_inb (own_p0 b_t0 (by decide))
    obtain ⟨T434, h434, X434, e434, W434, st434⟩ := stI X426 hx hZ e426 Ar434 (j := t0) hin434 (g := (mkF m 381 #[.val (.ref self), .val (.int (8 : Int32)), .val (.ref ta), .val (.ref ha), .val (.int ec), .val (.ref sa), .val (.int (2 : Int32)), .val (.ref b128), .val (.int (0 : Int32)), .val (.int v341)] [(.int v433), (.int t0), (.ref b421)])) rfl rfl (hb hby d1_381)
    obtain ⟨f434, hf434⟩ : ∃ g : Nat → Int32, g = fun i => if i = (t0).toNatClampNeg then v433 else f421 i := ⟨_, rfl⟩
    have V434 : Ari Z h434 b421 8 f434 := by rw [hf434]; exact Ari.set Ar434 S434 H434 W434 rfl
    have z434 : h434.size = h424.size := W434.size
    have gn435 : n0 ≤ b421 := by omega
    have N434 := Fr.snoc X434 N424 gn435
    have gz436 : h0.size ≤ b421 := by omega
    have K434 : Keep h0 h434 [self] := K424.wr W434 (Or.inr gz436)
    refine Comes.st st434 ?_
    show Comes p e below _ (T434.setTop (mkF m 382 #[.val (.ref self), .val (.int (8 : Int32)), .val (.ref ta), .val (.ref ha), .val (.int ec), .val (.ref sa), .val (.int (2 : Int32)), .val (.ref b128), .val (.int (0 : Int32)), .val (.int v341)] []))
    refine Comes.st (fun t k => XS.aloadN X434.here hx rfl (hb hby d1_382) rfl rfl k) ?_
    show Comes p e below _ (T434.setTop (mkF m 383 #[.val (.ref self), .val (.int (8 : Int32)), .val (.ref ta), .val (.ref ha), .val (.int ec), .val (.ref sa), .val (.int (2 : Int32)), .val (.ref b128), .val (.int (0 : Int32)), .val (.int v341)] [(.ref self)]))
    have F437 : Fld Z h434 self "com/example/ordr/ordr/layout/LayerNetwork" "supplies" "[I" (.ref b421) := (Fw424.other W434 (Or.inl (Ne.symm ne430)))
    obtain ⟨T438, X438, e438, st438⟩ := getF X434 hx hZ hown (host := "") (Or.inl (hw _ (List.mem_of_getElem? (i := 29) rfl))) Via.refl e434 F437 (g := (mkF m 383 #[.val (.ref self), .val (.int (8 : Int32)), .val (.ref ta), .val (.ref ha), .val (.int ec), .val (.ref sa), .val (.int (2 : Int32)), .val (.ref b128), .val (.int (0 : Int32)), .val (.int v341)] [(.ref self)])) rfl rfl (hb hby d1_383)
    refine Comes.st st438 ?_
    show Comes p e below _ (T438.setTop (mkF m 386 #[.val (.ref self), .val (.int (8 : Int32)), .val (.ref ta), .val (.ref ha), .val (.int ec), .val (.ref sa), .val (.int (2 : Int32)), .val (.ref b128), .val (.int (0 : Int32)), .val (.int v341)] [(.ref b421)]))
    refine Comes.st (fun t k => XS.aloadN X438.here hx rfl (hb hby d1_386) rfl rfl (XS.iload X438.here hx rfl (hb hby d1_387) rfl k)) ?_
    show Comes p e below _ (T438.setTop (mkF m 389 #[.val (.ref self), .val (.int (8 : Int32)), .val (.ref ta), .val (.ref ha), .val (.int ec), .val (.ref sa), .val (.int (2 : Int32)), .val (.ref b128), .val (.int (0 : Int32)), .val (.int v341)] [(.int (0 : Int32)), (.ref ha), (.ref b421)]))
    have ne439 : ha ≠ b359 := by omega
    have ne440 : ha ≠ b421 := by omega
    have F441 : Arv Z h434 ha kh .int (2 : Int32) [(.int h0_), (.int h1)] (.int (0 : Int32)) := ((((((((((((((F352.other W357 ne191).ext E359).other W362 G18).other W374 ne439).other W383 ne439).other W389 ne439).other W395 ne439).other W401 ne439).other W407 ne439).other W413 ne439).other W419 ne439).ext E421).other W424 G18).other W434 ne440)
    obtain ⟨cl442, Ar442, q442, S442, Ng442, H442, Gf442⟩ := id F441
    have hin442 : ¬ ((0 : Int32) < 0 ∨ cl442.slots.size ≤ ((0 : Int32)).toNatClampNeg) := inb_of S442 ⟨by decide, by decide⟩
    refine Comes.st (fun t k => X438.iaload hx (j := (0 : Int32)) (v := (.int h0_)) (by rw [e438]; exact Ar442.1) (State.isArrayOf_alike hZ.alike Ar442.2.1) Ar442.2.2 hin442 (Has.at H442 hin442 rfl) (g := (mkF m 389 #[.val (.ref self), .val (.int (8 : Int32)), .val (.ref ta), .val (.ref ha), .val (.int ec), .val (.ref sa), .val (.int (2 : Int32)), .val (.ref b128), .val (.int (0 : Int32)), .val (.int v341)] [(.int (0 : Int32)), (.ref ha), (.ref b421)])) rfl rfl (hb hby d1_389) _ (own_dup2 X438 hx rfl (hb hby d1_390) rfl rfl rfl k)) ?_
    show Comes p e below _ (T438.setTop (mkF m 391 #[.val (.ref self), .val (.int (8 : Int32)), .val (.ref ta), .val (.ref ha), .val (.int ec), .val (.ref sa), .val (.int (2 : Int32)), .val (.ref b128), .val (.int (0 : Int32)), .val (.int v341)] [(.int h0_), (.ref b421), (.int h0_), (.ref b421)]))
    obtain ⟨cl443, Ar443, S443, H443⟩ := id V434
    have hin443 : ¬ (h0_ < 0 ∨ cl443.slots.size ≤ (h0_).toNatClampNeg) := by rw [S443]; exact own_inb (own_p0 b_h0_ (by decide))
    refine Comes.st (fun t k => X438.iaload hx (j := h0_) (v := (.int (f434 (h0_).toNatClampNeg))) (by rw [e438]; exact Ar443.1) (State.isArrayOf_alike hZ.alike Ar443.2.1) Ar443.2.2 hin443 (H443 _ (Nat.lt_of_not_le fun y => hin443 (Or.inr (S443 ▸ y)))) (g := (mkF m 391 #[.val (.ref self), .val (.int (8 : Int32)), .val (.ref ta), .val (.ref ha), .val (.int ec), .val (.ref sa), .val (.int (2 : Int32)), .val (.ref b128), .val (.int (0 : Int32)), .val (.int v341)] [(.int h0_), (.ref b421), (.int h0_), (.ref b421)])) rfl rfl (hb hby d1_391) _ (XS.iconst X438.here hx rfl (hb hby d1_392) (XS.isub X438.here hx rfl (hb hby d1_393) rfl k))) ?_
    show Comes p e below _ (T438.setTop (mkF m 394 #[.val (.ref self), .val (.int (8 : Int32)), .val (.ref ta), .val (.ref ha), .val (.int ec), .val (.ref sa), .val (.int (2 : Int32)), .val (.ref b128), .val (.int (0 : Int32)), .val (.int v341)] [(.int ((f434 (h0_).toNatClampNeg) - (1 : Int32))), (.int h0_), (.ref b421)]))
    generalize hv_v444 : ((f434 (h0_).toNatClampNeg) - (1 : Int32)) = v444
    show Comes p e below _ (T438.setTop (mkF m 394 #[.val (.ref self), .val (.int (8 : Int32)), .val (.ref ta), .val (.ref ha), .val (.int ec), .val (.ref sa), .val (.int (2 : Int32)), .val (.ref b128), .val (.int (0 : Int32)), .val (.int v341)] [(.int v444), (.int h0_), (.ref b421)]))
    obtain ⟨cl445, Ar445, S445, H445⟩ := id V434
    have hin445 : ¬ (h0_ < 0 ∨ cl445.slots.size ≤ (h0_).toNatClampNeg) := by rw [S445]; exact own_inb (own_p0 b_h0_ (by decide))
    obtain ⟨T445, h445, X445, e445, W445, st445⟩ := stI X438 hx hZ e438 Ar445 (j := h0_) hin445 (g := (mkF m 394 #[.val (.ref self), .val (.int (8 : Int32)), .val (.ref ta), .val (.ref ha), .val (.int ec), .val (.ref sa), .val (.int (2 : Int32)), .val (.ref b128), .val (.int (0 : Int32)), .val (.int v341)] [(.int v444), (.int h0_), (.ref b421)])) rfl rfl (hb hby d1_394)
    obtain ⟨f445, hf445⟩ : ∃ g : Nat → Int32, g = fun i => if i = (h0_).toNatClampNeg then v444 else f434 i := ⟨_, rfl⟩
    have V445 : Ari Z h445 b421 8 f445 := by rw [hf445]; exact Ari.set Ar445 S445 H445 W445 rfl
    have z445 : h445.size = h434.size := W445.size
    have N445 := Fr.snoc X445 N434 gn435
    have K445 : Keep h0 h445 [self] := K434.wr W445 (Or.inr gz436)
    refine Comes.st st445 ?_
    show Comes p e below _ (T445.setTop (mkF m 395 #[.val (.ref self), .val (.int (8 : Int32)), .val (.ref ta), .val (.ref ha), .val (.int ec), .val (.ref sa), .val (.int (2 : Int32)), .val (.ref b128), .val (.int (0 : Int32)), .val (.int v341)] []))
    refine Comes.st (fun t k => XS.iinc X445.here hx rfl (hb hby d1_395) rfl (l' := #[.val (.ref self), .val (.int (8 : Int32)), .val (.ref ta), .val (.ref ha), .val (.int ec), .val (.ref sa), .val (.int (2 : Int32)), .val (.ref b128), .val (.int (1 : Int32)), .val (.int v341)]) rfl (XS.goto X445.here hx rfl (pc0 := 398) (pc' := 362) rfl (hb hby d1_398) (by decide) (by decide) (XS.iload X445.here hx rfl (hb hby d1_362) rfl (XS.iload X445.here hx rfl (hb hby d1_364) rfl k)))) ?_
    show Comes p e below _ (T445.setTop (mkF m 366 #[.val (.ref self), .val (.int (8 : Int32)), .val (.ref ta), .val (.ref ha), .val (.int ec), .val (.ref sa), .val (.int (2 : Int32)), .val (.ref b128), .val (.int (1 : Int32)), .val (.int v341)] [(.int ec), (.int (1 : Int32))]))
    by_cases hc366_446 : (1 : Int32) < ec
    · refine Comes.st (fun t k => XS.icmpNo X445.here hx rfl (hb hby d1_366) rfl (tlt hc366_446).2.1 (XS.aloadN X445.here hx rfl (hb hby d1_369) rfl rfl k)) ?_
      show Comes p e below _ (T445.setTop (mkF m 370 #[.val (.ref self), .val (.int (8 : Int32)), .val (.ref ta), .val (.ref ha), .val (.int ec), .val (.ref sa), .val (.int (2 : Int32)), .val (.ref b128), .val (.int (1 : Int32)), .val (.int v341)] [(.ref self)]))
      have F447 : Fld Z h445 self "com/example/ordr/ordr/layout/LayerNetwork" "supplies" "[I" (.ref b421) := (F437.other W445 (Or.inl (Ne.symm ne430)))
      obtain ⟨T448, X448, e448, st448⟩ := getF X445 hx hZ hown (host := "") (Or.inl (hw _ (List.mem_of_getElem? (i := 29) rfl))) Via.refl e445 F447 (g := (mkF m 370 #[.val (.ref self), .val (.int (8 : Int32)), .val (.ref ta), .val (.ref ha), .val (.int ec), .val (.ref sa), .val (.int (2 : Int32)), .val (.ref b128), .val (.int (1 : Int32)), .val (.int v341)] [(.ref self)])) rfl rfl (hb hby d1_370)
      refine Comes.st st448 ?_
      show Comes p e below _ (T448.setTop (mkF m 373 #[.val (.ref self), .val (.int (8 : Int32)), .val (.ref ta), .val (.ref ha), .val (.int ec), .val (.ref sa), .val (.int (2 : Int32)), .val (.ref b128), .val (.int (1 : Int32)), .val (.int v341)] [(.ref b421)]))
      refine Comes.st (fun t k => XS.aloadN X448.here hx rfl (hb hby d1_373) rfl rfl (XS.iload X448.here hx rfl (hb hby d1_374) rfl k)) ?_
      show Comes p e below _ (T448.setTop (mkF m 376 #[.val (.ref self), .val (.int (8 : Int32)), .val (.ref ta), .val (.ref ha), .val (.int ec), .val (.ref sa), .val (.int (2 : Int32)), .val (.ref b128), .val (.int (1 : Int32)), .val (.int v341)] [(.int (1 : Int32)), (.ref ta), (.ref b421)]))
      have ne449 : ta ≠ b421 := by omega
      have F450 : Arv Z h445 ta kt .int (2 : Int32) [(.int t0), (.int t1)] (.int (0 : Int32)) := ((F428.other W434 ne449).other W445 ne449)
      obtain ⟨cl451, Ar451, q451, S451, Ng451, H451, Gf451⟩ := id F450
      have hin451 : ¬ ((1 : Int32) < 0 ∨ cl451.slots.size ≤ ((1 : Int32)).toNatClampNeg) := inb_of S451 ⟨by decide, by decide⟩
      refine Comes.st (fun t k => X448.iaload hx (j := (1 : Int32)) (v := (.int t1)) (by rw [e448]; exact Ar451.1) (State.isArrayOf_alike hZ.alike Ar451.2.1) Ar451.2.2 hin451 (Has.at H451 hin451 rfl) (g := (mkF m 376 #[.val (.ref self), .val (.int (8 : Int32)), .val (.ref ta), .val (.ref ha), .val (.int ec), .val (.ref sa), .val (.int (2 : Int32)), .val (.ref b128), .val (.int (1 : Int32)), .val (.int v341)] [(.int (1 : Int32)), (.ref ta), (.ref b421)])) rfl rfl (hb hby d1_376) _ (own_dup2 X448 hx rfl (hb hby d1_377) rfl rfl rfl k)) ?_
      show Comes p e below _ (T448.setTop (mkF m 378 #[.val (.ref self), .val (.int (8 : Int32)), .val (.ref ta), .val (.ref ha), .val (.int ec), .val (.ref sa), .val (.int (2 : Int32)), .val (.ref b128), .val (.int (1 : Int32)), .val (.int v341)] [(.int t1), (.ref b421), (.int t1), (.ref b421)]))
      obtain ⟨cl452, Ar452, S452, H452⟩ := id V445
      have hin452 : ¬ (t1 < 0 ∨ cl452.slots.size ≤ (t1).toNatClampNeg) := by rw [S452]; exact own_inb (own_p0 b_t1 (by decide))
      refine Comes.st (fun t k => X448.iaload hx (j := t1) (v := (.int (f445 (t1).toNatClampNeg))) (by rw [e448]; exact Ar452.1) (State.isArrayOf_alike hZ.alike Ar452.2.1) Ar452.2.2 hin452 (H452 _ (Nat.lt_of_not_le fun y => hin452 (Or.inr (S452 ▸ y)))) (g := (mkF m 378 #[.val (.ref self), .val (.int (8 : Int32)), .val (.ref ta), .val (.ref ha), .val (.int ec), .val (.ref sa), .val (.int (2 : Int32)), .val (.ref b128), .val (.int (1 : Int32)), .val (.int v341)] [(.int t1), (.ref b421), (.int t1), (.ref b421)])) rfl rfl (hb hby d1_378) _ (XS.iconst X448.here hx rfl (hb hby d1_379) (XS.iadd X448.here hx rfl (hb hby d1_380) rfl k))) ?_
      show Comes p e below _ (T448.setTop (mkF m 381 #[.val (.ref self), .val (.int (8 : Int32)), .val (.ref ta), .val (.ref ha), .val (.int ec), .val (.ref sa), .val (.int (2 : Int32)), .val (.ref b128), .val (.int (1 : Int32)), .val (.int v341)] [(.int ((f445 (t1).toNatClampNeg) + (1 : Int32))), (.int t1), (.ref b421)]))
      generalize hv_v453 : ((f445 (t1).toNatClampNeg) + (1 : Int32)) = v453
      show Comes p e below _ (T448.setTop (mkF m 381 #[.val (.ref self), .val (.int (8 : Int32)), .val (.ref ta), .val (.ref ha), .val (.int ec), .val (.ref sa), .val (.int (2 : Int32)), .val (.ref b128), .val (.int (1 : Int32)), .val (.int v341)] [(.int v453), (.int t1), (.ref b421)]))
      obtain ⟨cl454, Ar454, S454, H454⟩ := id V445
      have hin454 : ¬ (t1 < 0 ∨ cl454.slots.size ≤ (t1).toNatClampNeg) := by rw [S454]; exact own_inb (own_p0 b_t1 (by decide))
      obtain ⟨T454, h454, X454, e454, W454, st454⟩ := stI X448 hx hZ e448 Ar454 (j := t1) hin454 (g := (mkF m 381 #[.val (.ref self), .val (.int (8 : Int32)), .val (.ref ta), .val (.ref ha), .val (.int ec), .val (.ref sa), .val (.int (2 : Int32)), .val (.ref b128), .val (.int (1 : Int32)), .val (.int v341)] [(.int v453), (.int t1), (.ref b421)])) rfl rfl (hb hby d1_381)
      obtain ⟨f454, hf454⟩ : ∃ g : Nat → Int32, g = fun i => if i = (t1).toNatClampNeg then v453 else f445 i := ⟨_, rfl⟩
      have V454 : Ari Z h454 b421 8 f454 := by rw [hf454]; exact Ari.set Ar454 S454 H454 W454 rfl
      have z454 : h454.size = h445.size := W454.size
      have N454 := Fr.snoc X454 N445 gn435
      have K454 : Keep h0 h454 [self] := K445.wr W454 (Or.inr gz436)
      refine Comes.st st454 ?_
      show Comes p e below _ (T454.setTop (mkF m 382 #[.val (.ref self), .val (.int (8 : Int32)), .val (.ref ta), .val (.ref ha), .val (.int ec), .val (.ref sa), .val (.int (2 : Int32)), .val (.ref b128), .val (.int (1 : Int32)), .val (.int v341)] []))
      refine Comes.st (fun t k => XS.aloadN X454.here hx rfl (hb hby d1_382) rfl rfl k) ?_
      show Comes p e below _ (T454.setTop (mkF m 383 #[.val (.ref self), .val (.int (8 : Int32)), .val (.ref ta), .val (.ref ha), .val (.int ec), .val (.ref sa), .val (.int (2 : Int32)), .val (.ref b128), .val (.int (1 : Int32)), .val (.int v341)] [(.ref self)]))
      have F455 : Fld Z h454 self "com/example/ordr/ordr/layout/LayerNetwork" "supplies" "[I" (.ref b421) := (F447.other W454 (Or.inl (Ne.symm ne430)))
      obtain ⟨T456, X456, e456, st456⟩ := getF X454 hx hZ hown (host := "") (Or.inl (hw _ (List.mem_of_getElem? (i := 29) rfl))) Via.refl e454 F455 (g := (mkF m 383 #[.val (.ref self), .val (.int (8 : Int32)), .val (.ref ta), .val (.ref ha), .val (.int ec), .val (.ref sa), .val (.int (2 : Int32)), .val (.ref b128), .val (.int (1 : Int32)), .val (.int v341)] [(.ref self)])) rfl rfl (hb hby d1_383)
      refine Comes.st st456 ?_
      show Comes p e below _ (T456.setTop (mkF m 386 #[.val (.ref self), .val (.int (8 : Int32)), .val (.ref ta), .val (.ref ha), .val (.int ec), .val (.ref sa), .val (.int (2 : Int32)), .val (.ref b128), .val (.int (1 : Int32)), .val (.int v341)] [(.ref b421)]))
      refine Comes.st (fun t k => XS.aloadN X456.here hx rfl (hb hby d1_386) rfl rfl (XS.iload X456.here hx rfl (hb hby d1_387) rfl k)) ?_
      show Comes p e below _ (T456.setTop (mkF m 389 #[.val (.ref self), .val (.int (8 : Int32)), .val (.ref ta), .val (.ref ha), .val (.int ec), .val (.ref sa), .val (.int (2 : Int32)), .val (.ref b128), .val (.int (1 : Int32)), .val (.int v341)] [(.int (1 : Int32)), (.ref ha), (.ref b421)]))
      have F457 : Arv Z h454 ha kh .int (2 : Int32) [(.int h0_), (.int h1)] (.int (0 : Int32)) := ((F441.other W445 ne440).other W454 ne440)
      obtain ⟨cl458, Ar458, q458, S458, Ng458, H458, Gf458⟩ := id F457
      have hin458 : ¬ ((1 : Int32) < 0 ∨ cl458.slots.size ≤ ((1 : Int32)).toNatClampNeg) := inb_of S458 ⟨by decide, by decide⟩
      refine Comes.st (fun t k => X456.iaload hx (j := (1 : Int32)) (v := (.int h1)) (by rw [e456]; exact Ar458.1) (State.isArrayOf_alike hZ.alike Ar458.2.1) Ar458.2.2 hin458 (Has.at H458 hin458 rfl) (g := (mkF m 389 #[.val (.ref self), .val (.int (8 : Int32)), .val (.ref ta), .val (.ref ha), .val (.int ec), .val (.ref sa), .val (.int (2 : Int32)), .val (.ref b128), .val (.int (1 : Int32)), .val (.int v341)] [(.int (1 : Int32)), (.ref ha), (.ref b421)])) rfl rfl (hb hby d1_389) _ (own_dup2 X456 hx rfl (hb hby d1_390) rfl rfl rfl k)) ?_
      show Comes p e below _ (T456.setTop (mkF m 391 #[.val (.ref self), .val (.int (8 : Int32)), .val (.ref ta), .val (.ref ha), .val (.int ec), .val (.ref sa), .val (.int (2 : Int32)), .val (.ref b128), .val (.int (1 : Int32)), .val (.int v341)] [(.int h1), (.ref b421), (.int h1), (.ref b421)]))
      obtain ⟨cl459, Ar459, S459, H459⟩ := id V454
      have hin459 : ¬ (h1 < 0 ∨ cl459.slots.size ≤ (h1).toNatClampNeg) := by rw [S459]; exact own_inb (own_p0 b_h1 (by decide))
      refine Comes.st (fun t k => X456.iaload hx (j := h1) (v := (.int (f454 (h1).toNatClampNeg))) (by rw [e456]; exact Ar459.1) (State.isArrayOf_alike hZ.alike Ar459.2.1) Ar459.2.2 hin459 (H459 _ (Nat.lt_of_not_le fun y => hin459 (Or.inr (S459 ▸ y)))) (g := (mkF m 391 #[.val (.ref self), .val (.int (8 : Int32)), .val (.ref ta), .val (.ref ha), .val (.int ec), .val (.ref sa), .val (.int (2 : Int32)), .val (.ref b128), .val (.int (1 : Int32)), .val (.int v341)] [(.int h1), (.ref b421), (.int h1), (.ref b421)])) rfl rfl (hb hby d1_391) _ (XS.iconst X456.here hx rfl (hb hby d1_392) (XS.isub X456.here hx rfl (hb hby d1_393) rfl k))) ?_
      show Comes p e below _ (T456.setTop (mkF m 394 #[.val (.ref self), .val (.int (8 : Int32)), .val (.ref ta), .val (.ref ha), .val (.int ec), .val (.ref sa), .val (.int (2 : Int32)), .val (.ref b128), .val (.int (1 : Int32)), .val (.int v341)] [(.int ((f454 (h1).toNatClampNeg) - (1 : Int32))), (.int h1), (.ref b421)]))
      generalize hv_v460 : ((f454 (h1).toNatClampNeg) - (1 : Int32)) = v460
      show Comes p e below _ (T456.setTop (mkF m 394 #[.val (.ref self), .val (.int (8 : Int32)), .val (.ref ta), .val (.ref ha), .val (.int ec), .val (.ref sa), .val (.int (2 : Int32)), .val (.ref b128), .val (.int (1 : Int32)), .val (.int v341)] [(.int v460), (.int h1), (.ref b421)]))
      obtain ⟨cl461, Ar461, S461, H461⟩ := id V454
      have hin461 : ¬ (h1 < 0 ∨ cl461.slots.size ≤ (h1).toNatClampNeg) := by rw [S461]; exact own_inb (own_p0 b_h1 (by decide))
      obtain ⟨T461, h461, X461, e461, W461, st461⟩ := stI X456 hx hZ e456 Ar461 (j := h1) hin461 (g := (mkF m 394 #[.val (.ref self), .val (.int (8 : Int32)), .val (.ref ta), .val (.ref ha), .val (.int ec), .val (.ref sa), .val (.int (2 : Int32)), .val (.ref b128), .val (.int (1 : Int32)), .val (.int v341)] [(.int v460), (.int h1), (.ref b421)])) rfl rfl (hb hby d1_394)
      obtain ⟨f461, hf461⟩ : ∃ g : Nat → Int32, g = fun i => if i = (h1).toNatClampNeg then v460 else f454 i := ⟨_, rfl⟩
      have V461 : Ari Z h461 b421 8 f461 := by rw [hf461]; exact Ari.set Ar461 S461 H461 W461 rfl
      have z461 : h461.size = h454.size := W461.size
      have N461 := Fr.snoc X461 N454 gn435
      have K461 : Keep h0 h461 [self] := K454.wr W461 (Or.inr gz436)
      refine Comes.st st461 ?_
      show Comes p e below _ (T461.setTop (mkF m 395 #[.val (.ref self), .val (.int (8 : Int32)), .val (.ref ta), .val (.ref ha), .val (.int ec), .val (.ref sa), .val (.int (2 : Int32)), .val (.ref b128), .val (.int (1 : Int32)), .val (.int v341)] []))
      refine Comes.st (fun t k => XS.iinc X461.here hx rfl (hb hby d1_395) rfl (l' := #[.val (.ref self), .val (.int (8 : Int32)), .val (.ref ta), .val (.ref ha), .val (.int ec), .val (.ref sa), .val (.int (2 : Int32)), .val (.ref b128), .val (.int (2 : Int32)), .val (.int v341)]) rfl (XS.goto X461.here hx rfl (pc0 := 398) (pc' := 362) rfl (hb hby d1_398) (by decide) (by decide) (XS.iload X461.here hx rfl (hb hby d1_362) rfl (XS.iload X461.here hx rfl (hb hby d1_364) rfl k)))) ?_
      show Comes p e below _ (T461.setTop (mkF m 366 #[.val (.ref self), .val (.int (8 : Int32)), .val (.ref ta), .val (.ref ha), .val (.int ec), .val (.ref sa), .val (.int (2 : Int32)), .val (.ref b128), .val (.int (2 : Int32)), .val (.int v341)] [(.int ec), (.int (2 : Int32))]))
      have hc366_462 : ¬ ((2 : Int32) < ec) := by exact own_ec G24
      refine Comes.st (fun t k => XS.icmpYes X461.here hx rfl (pc0 := 366) (pc' := 401) rfl (hb hby d1_366) rfl (flt hc366_462).2.1 (by decide) (by decide) (XS.aloadN X461.here hx rfl (hb hby d1_401) rfl rfl (XS.iload X461.here hx rfl (hb hby d1_402) rfl k))) ?_
      show Comes p e below _ (T461.setTop (mkF m 404 #[.val (.ref self), .val (.int (8 : Int32)), .val (.ref ta), .val (.ref ha), .val (.int ec), .val (.ref sa), .val (.int (2 : Int32)), .val (.ref b128), .val (.int (2 : Int32)), .val (.int v341)] [(.int (2 : Int32)), (.ref self)]))
      obtain ⟨T463, h463, k463, X463, e463, E463, A463, st463⟩ := newP X461 hx hZ (hw _ (List.mem_of_getElem? (i := 26) rfl)) e461 (g := (mkF m 404 #[.val (.ref self), .val (.int (8 : Int32)), .val (.ref ta), .val (.ref ha), .val (.int ec), .val (.ref sa), .val (.int (2 : Int32)), .val (.ref b128), .val (.int (2 : Int32)), .val (.int v341)] [(.int (2 : Int32)), (.ref self)])) rfl (hb hby d1_404) rfl (by decide) (cap := 2) (by decide) (by decide) (by decide) (by decide)
      obtain ⟨b463, g463⟩ : ∃ z, z = h461.size := ⟨_, rfl⟩
      rw [← g463] at A463 st463
      have z463 : h461.size ≤ h463.size := E463.1
      have lt463 : b463 < h463.size := A463.lt
      have V463 : Arv Z h463 b463 k463 .long (2 : Int32) [(.long (0 : Int64)), (.long (0 : Int64))] (.long (0 : Int64)) := (Arv.new A463 (by decide)).pad (pad_rep [] (.long (0 : Int64)) 2)
      have K463 : Keep h0 h463 [self] := K461.ext E463
      refine Comes.st st463 ?_
      show Comes p e below _ (T463.setTop (mkF m 406 #[.val (.ref self), .val (.int (8 : Int32)), .val (.ref ta), .val (.ref ha), .val (.int ec), .val (.ref sa), .val (.int (2 : Int32)), .val (.ref b128), .val (.int (2 : Int32)), .val (.int v341)] [(.ref b463), (.ref self)]))
      have F464 : Exa Z h463 self "com/example/ordr/ordr/layout/LayerNetwork" := ((((((F422.wr W424).wr W434).wr W445).wr W454).wr W461).ext E463)
      have F465 : Fld Z h463 self "com/example/ordr/ordr/layout/LayerNetwork" "flows" "[J" .null := ((((((((((((((((((((((((((((((((((((((((((((((((((((((((((((((G11.other W2 (Or.inr (slot_ne (Or.inr (hw _ (List.mem_of_getElem? (i := 32) rfl))) (Or.inr (hw _ (List.mem_of_getElem? (i := 11) rfl))) (by decide) (t := (.array .long)) (t' := .int) (by decide) (by decide)))).other W6 (Or.inr (slot_ne (Or.inr (hw _ (List.mem_of_getElem? (i := 32) rfl))) (Or.inr (hw _ (List.mem_of_getElem? (i := 13) rfl))) (by decide) (t := (.array .long)) (t' := .int) (by decide) (by decide)))).other W9 (Or.inr (slot_ne (Or.inr (hw _ (List.mem_of_getElem? (i := 32) rfl))) (Or.inr (hw _ (List.mem_of_getElem? (i := 15) rfl))) (by decide) (t := (.array .long)) (t' := (.array .int)) (by decide) (by decide)))).other W12 (Or.inr (slot_ne (Or.inr (hw _ (List.mem_of_getElem? (i := 32) rfl))) (Or.inr (hw _ (List.mem_of_getElem? (i := 17) rfl))) (by decide) (t := (.array .long)) (t' := (.array .int)) (by decide) (by decide)))).ext E15).other W18 (Or.inr (slot_ne (Or.inr (hw _ (List.mem_of_getElem? (i := 32) rfl))) (Or.inr (hw _ (List.mem_of_getElem? (i := 19) rfl))) (by decide) (t := (.array .long)) (t' := (.array .int)) (by decide) (by decide)))).other W27 (Or.inl (Ne.symm ne23))).other W37 (Or.inl (Ne.symm ne23))).other W46 (Or.inl (Ne.symm ne23))).other W53 (Or.inl (Ne.symm ne23))).other W62 (Or.inl (Ne.symm ne23))).other W70 (Or.inl (Ne.symm ne23))).other W78 (Or.inl (Ne.symm ne23))).other W86 (Or.inl (Ne.symm ne23))).other W94 (Or.inl (Ne.symm ne23))).other W102 (Or.inl (Ne.symm ne23))).other W110 (Or.inl (Ne.symm ne23))).other W118 (Or.inl (Ne.symm ne23))).ext E120).other W123 (Or.inr (slot_ne (Or.inr (hw _ (List.mem_of_getElem? (i := 32) rfl))) (Or.inr (hw _ (List.mem_of_getElem? (i := 21) rfl))) (by decide) (t := (.array .long)) (t' := (.array .int)) (by decide) (by decide)))).ext E124).other W127 (Or.inr (slot_ne (Or.inr (hw _ (List.mem_of_getElem? (i := 32) rfl))) (Or.inr (hw _ (List.mem_of_getElem? (i := 23) rfl))) (by decide) (t := (.array .long)) (t' := (.array .int)) (by decide) (by decide)))).ext E128).other W143 (Or.inl (Ne.symm ne141))).other W154 (Or.inl (Ne.symm ne151))).other W166 (Or.inl ne170)).other W187 (Or.inl (Ne.symm ne141))).other W195 (Or.inl (Ne.symm ne151))).other W201 (Or.inl ne170)).ext E203).other W206 (Or.inr (slot_ne (Or.inr (hw _ (List.mem_of_getElem? (i := 32) rfl))) (Or.inr (hw _ (List.mem_of_getElem? (i := 25) rfl))) (by decide) (t := (.array .long)) (t' := (.array .int)) (by decide) (by decide)))).other W218 (Or.inl (Ne.symm ne216))).other W233 (Or.inl (Ne.symm ne216))).other W244 (Or.inl (Ne.symm ne216))).other W255 (Or.inl (Ne.symm ne216))).other W266 (Or.inl (Ne.symm ne216))).other W277 (Or.inl (Ne.symm ne216))).other W288 (Or.inl (Ne.symm ne216))).other W299 (Or.inl (Ne.symm ne216))).other W317 (Or.inl (Ne.symm ne141))).other W325 (Or.inl (Ne.symm ne151))).other W331 (Or.inl ne170)).other W345 (Or.inl (Ne.symm ne141))).other W351 (Or.inl (Ne.symm ne151))).other W357 (Or.inl ne170)).ext E359).other W362 (Or.inr (slot_ne (Or.inr (hw _ (List.mem_of_getElem? (i := 32) rfl))) (Or.inr (hw _ (List.mem_of_getElem? (i := 28) rfl))) (by decide) (t := (.array .long)) (t' := (.array .long)) (by decide) (by decide)))).other W374 (Or.inl (Ne.symm ne372))).other W383 (Or.inl (Ne.symm ne372))).other W389 (Or.inl (Ne.symm ne372))).other W395 (Or.inl (Ne.symm ne372))).other W401 (Or.inl (Ne.symm ne372))).other W407 (Or.inl (Ne.symm ne372))).other W413 (Or.inl (Ne.symm ne372))).other W419 (Or.inl (Ne.symm ne372))).ext E421).other W424 (Or.inr (slot_ne (Or.inr (hw _ (List.mem_of_getElem? (i := 32) rfl))) (Or.inr (hw _ (List.mem_of_getElem? (i := 30) rfl))) (by decide) (t := (.array .long)) (t' := (.array .int)) (by decide) (by decide)))).other W434 (Or.inl (Ne.symm ne430))).other W445 (Or.inl (Ne.symm ne430))).other W454 (Or.inl (Ne.symm ne430))).other W461 (Or.inl (Ne.symm ne430))).ext E463)
      obtain ⟨T466, h466, X466, e466, W466, st466⟩ := putF X463 hx hZ hown (host := "") (Or.inl (hw _ (List.mem_of_getElem? (i := 31) rfl))) Via.refl e463 F465 F464 (Or.inr ⟨(hw _ (List.mem_of_getElem? (i := 32) rfl)), rfl, hnm⟩) (hw _ (List.mem_of_getElem? (i := 2) rfl)) (ty := (.array .long)) (by decide) rfl rfl (g := (mkF m 406 #[.val (.ref self), .val (.int (8 : Int32)), .val (.ref ta), .val (.ref ha), .val (.int ec), .val (.ref sa), .val (.int (2 : Int32)), .val (.ref b128), .val (.int (2 : Int32)), .val (.int v341)] [(.ref b463), (.ref self)])) rfl rfl (hb hby d1_406)
      have Fw466 := F465.same W466
      have z466 : h466.size = h463.size := W466.size
      have N466 := Fr.snoc X466 N461 gn3
      have K466 : Keep h0 h466 [self] := K463.wr W466 (Or.inl (List.mem_of_getElem? (i := 0) rfl))
      refine Comes.st st466 ?_
      show Comes p e below _ (T466.setTop (mkF m 409 #[.val (.ref self), .val (.int (8 : Int32)), .val (.ref ta), .val (.ref ha), .val (.int ec), .val (.ref sa), .val (.int (2 : Int32)), .val (.ref b128), .val (.int (2 : Int32)), .val (.int v341)] []))
      refine Comes.st (fun t k => XS.aloadN X466.here hx rfl (hb hby d1_409) rfl rfl (XS.iloadN X466.here hx rfl (hb hby d1_410) rfl k)) ?_
      show Comes p e below _ (T466.setTop (mkF m 411 #[.val (.ref self), .val (.int (8 : Int32)), .val (.ref ta), .val (.ref ha), .val (.int ec), .val (.ref sa), .val (.int (2 : Int32)), .val (.ref b128), .val (.int (2 : Int32)), .val (.int v341)] [(.int (8 : Int32)), (.ref self)]))
      obtain ⟨T467, h467, k467, X467, e467, E467, A467, st467⟩ := newP X466 hx hZ (hw _ (List.mem_of_getElem? (i := 26) rfl)) e466 (g := (mkF m 411 #[.val (.ref self), .val (.int (8 : Int32)), .val (.ref ta), .val (.ref ha), .val (.int ec), .val (.ref sa), .val (.int (2 : Int32)), .val (.ref b128), .val (.int (2 : Int32)), .val (.int v341)] [(.int (8 : Int32)), (.ref self)])) rfl (hb hby d1_411) rfl (by decide) (cap := 8) (by decide) (by decide) (by decide) (by decide)
      obtain ⟨b467, g467⟩ : ∃ z, z = h466.size := ⟨_, rfl⟩
      rw [← g467] at A467 st467
      have z467 : h466.size ≤ h467.size := E467.1
      have lt467 : b467 < h467.size := A467.lt
      have V467 : Arv Z h467 b467 k467 .long (8 : Int32) [(.long (0 : Int64)), (.long (0 : Int64)), (.long (0 : Int64)), (.long (0 : Int64)), (.long (0 : Int64)), (.long (0 : Int64)), (.long (0 : Int64)), (.long (0 : Int64))] (.long (0 : Int64)) := (Arv.new A467 (by decide)).pad (pad_rep [] (.long (0 : Int64)) 8)
      have K467 : Keep h0 h467 [self] := K466.ext E467
      refine Comes.st st467 ?_
      show Comes p e below _ (T467.setTop (mkF m 413 #[.val (.ref self), .val (.int (8 : Int32)), .val (.ref ta), .val (.ref ha), .val (.int ec), .val (.ref sa), .val (.int (2 : Int32)), .val (.ref b128), .val (.int (2 : Int32)), .val (.int v341)] [(.ref b467), (.ref self)]))
      have F468 : Exa Z h467 self "com/example/ordr/ordr/layout/LayerNetwork" := ((F464.wr W466).ext E467)
      have F469 : Fld Z h467 self "com/example/ordr/ordr/layout/LayerNetwork" "excesses" "[J" .null := ((((((((((((((((((((((((((((((((((((((((((((((((((((((((((((((((G12.other W2 (Or.inr (slot_ne (Or.inr (hw _ (List.mem_of_getElem? (i := 34) rfl))) (Or.inr (hw _ (List.mem_of_getElem? (i := 11) rfl))) (by decide) (t := (.array .long)) (t' := .int) (by decide) (by decide)))).other W6 (Or.inr (slot_ne (Or.inr (hw _ (List.mem_of_getElem? (i := 34) rfl))) (Or.inr (hw _ (List.mem_of_getElem? (i := 13) rfl))) (by decide) (t := (.array .long)) (t' := .int) (by decide) (by decide)))).other W9 (Or.inr (slot_ne (Or.inr (hw _ (List.mem_of_getElem? (i := 34) rfl))) (Or.inr (hw _ (List.mem_of_getElem? (i := 15) rfl))) (by decide) (t := (.array .long)) (t' := (.array .int)) (by decide) (by decide)))).other W12 (Or.inr (slot_ne (Or.inr (hw _ (List.mem_of_getElem? (i := 34) rfl))) (Or.inr (hw _ (List.mem_of_getElem? (i := 17) rfl))) (by decide) (t := (.array .long)) (t' := (.array .int)) (by decide) (by decide)))).ext E15).other W18 (Or.inr (slot_ne (Or.inr (hw _ (List.mem_of_getElem? (i := 34) rfl))) (Or.inr (hw _ (List.mem_of_getElem? (i := 19) rfl))) (by decide) (t := (.array .long)) (t' := (.array .int)) (by decide) (by decide)))).other W27 (Or.inl (Ne.symm ne23))).other W37 (Or.inl (Ne.symm ne23))).other W46 (Or.inl (Ne.symm ne23))).other W53 (Or.inl (Ne.symm ne23))).other W62 (Or.inl (Ne.symm ne23))).other W70 (Or.inl (Ne.symm ne23))).other W78 (Or.inl (Ne.symm ne23))).other W86 (Or.inl (Ne.symm ne23))).other W94 (Or.inl (Ne.symm ne23))).other W102 (Or.inl (Ne.symm ne23))).other W110 (Or.inl (Ne.symm ne23))).other W118 (Or.inl (Ne.symm ne23))).ext E120).other W123 (Or.inr (slot_ne (Or.inr (hw _ (List.mem_of_getElem? (i := 34) rfl))) (Or.inr (hw _ (List.mem_of_getElem? (i := 21) rfl))) (by decide) (t := (.array .long)) (t' := (.array .int)) (by decide) (by decide)))).ext E124).other W127 (Or.inr (slot_ne (Or.inr (hw _ (List.mem_of_getElem? (i := 34) rfl))) (Or.inr (hw _ (List.mem_of_getElem? (i := 23) rfl))) (by decide) (t := (.array .long)) (t' := (.array .int)) (by decide) (by decide)))).ext E128).other W143 (Or.inl (Ne.symm ne141))).other W154 (Or.inl (Ne.symm ne151))).other W166 (Or.inl ne170)).other W187 (Or.inl (Ne.symm ne141))).other W195 (Or.inl (Ne.symm ne151))).other W201 (Or.inl ne170)).ext E203).other W206 (Or.inr (slot_ne (Or.inr (hw _ (List.mem_of_getElem? (i := 34) rfl))) (Or.inr (hw _ (List.mem_of_getElem? (i := 25) rfl))) (by decide) (t := (.array .long)) (t' := (.array .int)) (by decide) (by decide)))).other W218 (Or.inl (Ne.symm ne216))).other W233 (Or.inl (Ne.symm ne216))).other W244 (Or.inl (Ne.symm ne216))).other W255 (Or.inl (Ne.symm ne216))).other W266 (Or.inl (Ne.symm ne216))).other W277 (Or.inl (Ne.symm ne216))).other W288 (Or.inl (Ne.symm ne216))).other W299 (Or.inl (Ne.symm ne216))).other W317 (Or.inl (Ne.symm ne141))).other W325 (Or.inl (Ne.symm ne151))).other W331 (Or.inl ne170)).other W345 (Or.inl (Ne.symm ne141))).other W351 (Or.inl (Ne.symm ne151))).other W357 (Or.inl ne170)).ext E359).other W362 (Or.inr (slot_ne (Or.inr (hw _ (List.mem_of_getElem? (i := 34) rfl))) (Or.inr (hw _ (List.mem_of_getElem? (i := 28) rfl))) (by decide) (t := (.array .long)) (t' := (.array .long)) (by decide) (by decide)))).other W374 (Or.inl (Ne.symm ne372))).other W383 (Or.inl (Ne.symm ne372))).other W389 (Or.inl (Ne.symm ne372))).other W395 (Or.inl (Ne.symm ne372))).other W401 (Or.inl (Ne.symm ne372))).other W407 (Or.inl (Ne.symm ne372))).other W413 (Or.inl (Ne.symm ne372))).other W419 (Or.inl (Ne.symm ne372))).ext E421).other W424 (Or.inr (slot_ne (Or.inr (hw _ (List.mem_of_getElem? (i := 34) rfl))) (Or.inr (hw _ (List.mem_of_getElem? (i := 30) rfl))) (by decide) (t := (.array .long)) (t' := (.array .int)) (by decide) (by decide)))).other W434 (Or.inl (Ne.symm ne430))).other W445 (Or.inl (Ne.symm ne430))).other W454 (Or.inl (Ne.symm ne430))).other W461 (Or.inl (Ne.symm ne430))).ext E463).other W466 (Or.inr (slot_ne (Or.inr (hw _ (List.mem_of_getElem? (i := 34) rfl))) (Or.inr (hw _ (List.mem_of_getElem? (i := 32) rfl))) (by decide) (t := (.array .long)) (t' := (.array .long)) (by decide) (by decide)))).ext E467)
      obtain ⟨T470, h470, X470, e470, W470, st470⟩ := putF X467 hx hZ hown (host := "") (Or.inl (hw _ (List.mem_of_getElem? (i := 33) rfl))) Via.refl e467 F469 F468 (Or.inr ⟨(hw _ (List.mem_of_getElem? (i := 34) rfl)), rfl, hnm⟩) (hw _ (List.mem_of_getElem? (i := 2) rfl)) (ty := (.array .long)) (by decide) rfl rfl (g := (mkF m 413 #[.val (.ref self), .val (.int (8 : Int32)), .val (.ref ta), .val (.ref ha), .val (.int ec), .val (.ref sa), .val (.int (2 : Int32)), .val (.ref b128), .val (.int (2 : Int32)), .val (.int v341)] [(.ref b467), (.ref self)])) rfl rfl (hb hby d1_413)
      have Fw470 := F469.same W470
      have z470 : h470.size = h467.size := W470.size
      have N470 := Fr.snoc X470 N466 gn3
      have K470 : Keep h0 h470 [self] := K467.wr W470 (Or.inl (List.mem_of_getElem? (i := 0) rfl))
      refine Comes.st st470 ?_
      show Comes p e below _ (T470.setTop (mkF m 416 #[.val (.ref self), .val (.int (8 : Int32)), .val (.ref ta), .val (.ref ha), .val (.int ec), .val (.ref sa), .val (.int (2 : Int32)), .val (.ref b128), .val (.int (2 : Int32)), .val (.int v341)] []))
      refine Comes.st (fun t k => XS.iconst X470.here hx rfl (hb hby d1_416) (XS.istore X470.here hx rfl (hb hby d1_417) rfl (l' := #[.val (.ref self), .val (.int (8 : Int32)), .val (.ref ta), .val (.ref ha), .val (.int ec), .val (.ref sa), .val (.int (2 : Int32)), .val (.ref b128), .val (.int (0 : Int32)), .val (.int v341)]) rfl (XS.iload X470.here hx rfl (hb hby d1_419) rfl (XS.iloadN X470.here hx rfl (hb hby d1_421) rfl k)))) ?_
      show Comes p e below _ (T470.setTop (mkF m 422 #[.val (.ref self), .val (.int (8 : Int32)), .val (.ref ta), .val (.ref ha), .val (.int ec), .val (.ref sa), .val (.int (2 : Int32)), .val (.ref b128), .val (.int (0 : Int32)), .val (.int v341)] [(.int (8 : Int32)), (.int (0 : Int32))]))
      have hc422_471 : (0 : Int32) < (8 : Int32) := by decide
      refine Comes.st (fun t k => XS.icmpNo X470.here hx rfl (hb hby d1_422) rfl (tlt hc422_471).2.1 (XS.aloadN X470.here hx rfl (hb hby d1_425) rfl rfl k)) ?_
      show Comes p e below _ (T470.setTop (mkF m 426 #[.val (.ref self), .val (.int (8 : Int32)), .val (.ref ta), .val (.ref ha), .val (.int ec), .val (.ref sa), .val (.int (2 : Int32)), .val (.ref b128), .val (.int (0 : Int32)), .val (.int v341)] [(.ref self)]))
      obtain ⟨T472, X472, e472, st472⟩ := getF X470 hx hZ hown (host := "") (Or.inl (hw _ (List.mem_of_getElem? (i := 33) rfl))) Via.refl e470 Fw470 (g := (mkF m 426 #[.val (.ref self), .val (.int (8 : Int32)), .val (.ref ta), .val (.ref ha), .val (.int ec), .val (.ref sa), .val (.int (2 : Int32)), .val (.ref b128), .val (.int (0 : Int32)), .val (.int v341)] [(.ref self)])) rfl rfl (hb hby d1_426)
      refine Comes.st st472 ?_
      show Comes p e below _ (T472.setTop (mkF m 429 #[.val (.ref self), .val (.int (8 : Int32)), .val (.ref ta), .val (.ref ha), .val (.int ec), .val (.ref sa), .val (.int (2 : Int32)), .val (.ref b128), .val (.int (0 : Int32)), .val (.int v341)] [(.ref b467)]))
      refine Comes.st (fun t k => XS.iload X472.here hx rfl (hb hby d1_429) rfl (XS.aloadN X472.here hx rfl (hb hby d1_431) rfl rfl k)) ?_
      show Comes p e below _ (T472.setTop (mkF m 432 #[.val (.ref self), .val (.int (8 : Int32)), .val (.ref ta), .val (.ref ha), .val (.int ec), .val (.ref sa), .val (.int (2 : Int32)), .val (.ref b128), .val (.int (0 : Int32)), .val (.int v341)] [(.ref self), (.int (0 : Int32)), (.ref b467)]))
      have F473 : Fld Z h470 self "com/example/ordr/ordr/layout/LayerNetwork" "supplies" "[I" (.ref b421) := (((((F455.other W461 (Or.inl (Ne.symm ne430))).ext E463).other W466 (Or.inr (slot_ne (Or.inr (hw _ (List.mem_of_getElem? (i := 30) rfl))) (Or.inr (hw _ (List.mem_of_getElem? (i := 32) rfl))) (by decide) (t := (.array .int)) (t' := (.array .long)) (by decide) (by decide)))).ext E467).other W470 (Or.inr (slot_ne (Or.inr (hw _ (List.mem_of_getElem? (i := 30) rfl))) (Or.inr (hw _ (List.mem_of_getElem? (i := 34) rfl))) (by decide) (t := (.array .int)) (t' := (.array .long)) (by decide) (by decide))))
      obtain ⟨T474, X474, e474, st474⟩ := getF X472 hx hZ hown (host := "") (Or.inl (hw _ (List.mem_of_getElem? (i := 29) rfl))) Via.refl e472 F473 (g := (mkF m 432 #[.val (.ref self), .val (.int (8 : Int32)), .val (.ref ta), .val (.ref ha), .val (.int ec), .val (.ref sa), .val (.int (2 : Int32)), .val (.ref b128), .val (.int (0 : Int32)), .val (.int v341)] [(.ref self), (.int (0 : Int32)), (.ref b467)])) rfl rfl (hb hby d1_432)
      refine Comes.st st474 ?_
      show Comes p e below _ (T474.setTop (mkF m 435 #[.val (.ref self), .val (.int (8 : Int32)), .val (.ref ta), .val (.ref ha), .val (.int ec), .val (.ref sa), .val (.int (2 : Int32)), .val (.ref b128), .val (.int (0 : Int32)), .val (.int v341)] [(.ref b421), (.int (0 : Int32)), (.ref b467)]))
      refine Comes.st (fun t k => XS.iload X474.here hx rfl (hb hby d1_435) rfl k) ?_
      show Comes p e below _ (T474.setTop (mkF m 437 #[.val (.ref self), .val (.int (8 : Int32)), .val (.ref ta), .val (.ref ha), .val (.int ec), .val (.ref sa), .val (.int (2 : Int32)), .val (.ref b128), .val (.int (0 : Int32)), .val (.int v341)] [(.int (0 : Int32)), (.ref b421), (.int (0 : Int32)), (.ref b467)]))
      have F475 : Ari Z h470 b421 8 f461 := ((((V461.ext E463).other W466 ne430).ext E467).other W470 ne430)
      obtain ⟨cl476, Ar476, S476, H476⟩ := id F475
      have hin476 : ¬ ((0 : Int32) < 0 ∨ cl476.slots.size ≤ ((0 : Int32)).toNatClampNeg) := by rw [S476]; decide
      refine Comes.st (fun t k => X474.iaload hx (j := (0 : Int32)) (v := (.int (f461 0))) (by rw [e474]; exact Ar476.1) (State.isArrayOf_alike hZ.alike Ar476.2.1) Ar476.2.2 hin476 (H476 _ (Nat.lt_of_not_le fun y => hin476 (Or.inr (S476 ▸ y)))) (g := (mkF m 437 #[.val (.ref self), .val (.int (8 : Int32)), .val (.ref ta), .val (.ref ha), .val (.int ec), .val (.ref sa), .val (.int (2 : Int32)), .val (.ref b128), .val (.int (0 : Int32)), .val (.int v341)] [(.int (0 : Int32)), (.ref b421), (.int (0 : Int32)), (.ref b467)])) rfl rfl (hb hby d1_437) _ (XS.i2l X474.here hx rfl (hb hby d1_438) rfl k)) ?_
      show Comes p e below _ (T474.setTop (mkF m 439 #[.val (.ref self), .val (.int (8 : Int32)), .val (.ref ta), .val (.ref ha), .val (.int ec), .val (.ref sa), .val (.int (2 : Int32)), .val (.ref b128), .val (.int (0 : Int32)), .val (.int v341)] [(.long ((f461 0).toInt64)), (.int (0 : Int32)), (.ref b467)]))
      generalize hv_v477 : ((f461 0).toInt64) = v477
      show Comes p e below _ (T474.setTop (mkF m 439 #[.val (.ref self), .val (.int (8 : Int32)), .val (.ref ta), .val (.ref ha), .val (.int ec), .val (.ref sa), .val (.int (2 : Int32)), .val (.ref b128), .val (.int (0 : Int32)), .val (.int v341)] [(.long v477), (.int (0 : Int32)), (.ref b467)]))
      have ne478 : b467 ≠ self := by omega
      have F479 : Arv Z h470 b467 k467 .long (8 : Int32) [(.long (0 : Int64)), (.long (0 : Int64)), (.long (0 : Int64)), (.long (0 : Int64)), (.long (0 : Int64)), (.long (0 : Int64)), (.long (0 : Int64)), (.long (0 : Int64))] (.long (0 : Int64)) := (V467.other W470 ne478)
      obtain ⟨cl480, Ar480, q480, S480, Ng480, H480, Gf480⟩ := id F479
      have hin480 : ¬ ((0 : Int32) < 0 ∨ cl480.slots.size ≤ ((0 : Int32)).toNatClampNeg) := inb_of S480 ⟨by decide, by decide⟩
      obtain ⟨T480, h480, X480, e480, W480, st480⟩ := stJ X474 hx hZ e474 Ar480 (j := (0 : Int32)) hin480 (g := (mkF m 439 #[.val (.ref self), .val (.int (8 : Int32)), .val (.ref ta), .val (.ref ha), .val (.int ec), .val (.ref sa), .val (.int (2 : Int32)), .val (.ref b128), .val (.int (0 : Int32)), .val (.int v341)] [(.long v477), (.int (0 : Int32)), (.ref b467)])) rfl rfl (hb hby d1_439)
      have V480 : Arv Z h480 b467 k467 .long (8 : Int32) [(.long v477), (.long (0 : Int64)), (.long (0 : Int64)), (.long (0 : Int64)), (.long (0 : Int64)), (.long (0 : Int64)), (.long (0 : Int64)), (.long (0 : Int64))] (.long (0 : Int64)) := Arv.set Ar480 q480 S480 Ng480 H480 Gf480 rfl W480 0 rfl (Nat.le_of_ble_eq_true rfl)
      have z480 : h480.size = h470.size := W480.size
      have gn481 : n0 ≤ b467 := by omega
      have N480 := Fr.snoc X480 N470 gn481
      have gz482 : h0.size ≤ b467 := by omega
      have K480 : Keep h0 h480 [self] := K470.wr W480 (Or.inr gz482)
      refine Comes.st st480 ?_
      show Comes p e below _ (T480.setTop (mkF m 440 #[.val (.ref self), .val (.int (8 : Int32)), .val (.ref ta), .val (.ref ha), .val (.int ec), .val (.ref sa), .val (.int (2 : Int32)), .val (.ref b128), .val (.int (0 : Int32)), .val (.int v341)] []))
      refine Comes.st (fun t k => XS.iinc X480.here hx rfl (hb hby d1_440) rfl (l' := #[.val (.ref self), .val (.int (8 : Int32)), .val (.ref ta), .val (.ref ha), .val (.int ec), .val (.ref sa), .val (.int (2 : Int32)), .val (.ref b128), .val (.int (1 : Int32)), .val (.int v341)]) rfl (XS.goto X480.here hx rfl (pc0 := 443) (pc' := 419) rfl (hb hby d1_443) (by decide) (by decide) (XS.iload X480.here hx rfl (hb hby d1_419) rfl (XS.iloadN X480.here hx rfl (hb hby d1_421) rfl k)))) ?_
      show Comes p e below _ (T480.setTop (mkF m 422 #[.val (.ref self), .val (.int (8 : Int32)), .val (.ref ta), .val (.ref ha), .val (.int ec), .val (.ref sa), .val (.int (2 : Int32)), .val (.ref b128), .val (.int (1 : Int32)), .val (.int v341)] [(.int (8 : Int32)), (.int (1 : Int32))]))
      have hc422_483 : (1 : Int32) < (8 : Int32) := by decide
      refine Comes.st (fun t k => XS.icmpNo X480.here hx rfl (hb hby d1_422) rfl (tlt hc422_483).2.1 (XS.aloadN X480.here hx rfl (hb hby d1_425) rfl rfl k)) ?_
      show Comes p e below _ (T480.setTop (mkF m 426 #[.val (.ref self), .val (.int (8 : Int32)), .val (.ref ta), .val (.ref ha), .val (.int ec), .val (.ref sa), .val (.int (2 : Int32)), .val (.ref b128), .val (.int (1 : Int32)), .val (.int v341)] [(.ref self)]))
      have F484 : Fld Z h480 self "com/example/ordr/ordr/layout/LayerNetwork" "excesses" "[J" (.ref b467) := (Fw470.other W480 (Or.inl (Ne.symm ne478)))
      obtain ⟨T485, X485, e485, st485⟩ := getF X480 hx hZ hown (host := "") (Or.inl (hw _ (List.mem_of_getElem? (i := 33) rfl))) Via.refl e480 F484 (g := (mkF m 426 #[.val (.ref self), .val (.int (8 : Int32)), .val (.ref ta), .val (.ref ha), .val (.int ec), .val (.ref sa), .val (.int (2 : Int32)), .val (.ref b128), .val (.int (1 : Int32)), .val (.int v341)] [(.ref self)])) rfl rfl (hb hby d1_426)
      refine Comes.st st485 ?_
      show Comes p e below _ (T485.setTop (mkF m 429 #[.val (.ref self), .val (.int (8 : Int32)), .val (.ref ta), .val (.ref ha), .val (.int ec), .val (.ref sa), .val (.int (2 : Int32)), .val (.ref b128), .val (.int (1 : Int32)), .val (.int v341)] [(.ref b467)]))
      refine Comes.st (fun t k => XS.iload X485.here hx rfl (hb hby d1_429) rfl (XS.aloadN X485.here hx rfl (hb hby d1_431) rfl rfl k)) ?_
      show Comes p e below _ (T485.setTop (mkF m 432 #[.val (.ref self), .val (.int (8 : Int32)), .val (.ref ta), .val (.ref ha), .val (.int ec), .val (.ref sa), .val (.int (2 : Int32)), .val (.ref b128), .val (.int (1 : Int32)), .val (.int v341)] [(.ref self), (.int (1 : Int32)), (.ref b467)]))
      have F486 : Fld Z h480 self "com/example/ordr/ordr/layout/LayerNetwork" "supplies" "[I" (.ref b421) := (F473.other W480 (Or.inl (Ne.symm ne478)))
      obtain ⟨T487, X487, e487, st487⟩ := getF X485 hx hZ hown (host := "") (Or.inl (hw _ (List.mem_of_getElem? (i := 29) rfl))) Via.refl e485 F486 (g := (mkF m 432 #[.val (.ref self), .val (.int (8 : Int32)), .val (.ref ta), .val (.ref ha), .val (.int ec), .val (.ref sa), .val (.int (2 : Int32)), .val (.ref b128), .val (.int (1 : Int32)), .val (.int v341)] [(.ref self), (.int (1 : Int32)), (.ref b467)])) rfl rfl (hb hby d1_432)
      refine Comes.st st487 ?_
      show Comes p e below _ (T487.setTop (mkF m 435 #[.val (.ref self), .val (.int (8 : Int32)), .val (.ref ta), .val (.ref ha), .val (.int ec), .val (.ref sa), .val (.int (2 : Int32)), .val (.ref b128), .val (.int (1 : Int32)), .val (.int v341)] [(.ref b421), (.int (1 : Int32)), (.ref b467)]))
      refine Comes.st (fun t k => XS.iload X487.here hx rfl (hb hby d1_435) rfl k) ?_
      show Comes p e below _ (T487.setTop (mkF m 437 #[.val (.ref self), .val (.int (8 : Int32)), .val (.ref ta), .val (.ref ha), .val (.int ec), .val (.ref sa), .val (.int (2 : Int32)), .val (.ref b128), .val (.int (1 : Int32)), .val (.int v341)] [(.int (1 : Int32)), (.ref b421), (.int (1 : Int32)), (.ref b467)]))
      have ne488 : b421 ≠ b467 := by omega
      have F489 : Ari Z h480 b421 8 f461 := (F475.other W480 ne488)
      obtain ⟨cl490, Ar490, S490, H490⟩ := id F489
      have hin490 : ¬ ((1 : Int32) < 0 ∨ cl490.slots.size ≤ ((1 : Int32)).toNatClampNeg) := by rw [S490]; decide
      refine Comes.st (fun t k => X487.iaload hx (j := (1 : Int32)) (v := (.int (f461 1))) (by rw [e487]; exact Ar490.1) (State.isArrayOf_alike hZ.alike Ar490.2.1) Ar490.2.2 hin490 (H490 _ (Nat.lt_of_not_le fun y => hin490 (Or.inr (S490 ▸ y)))) (g := (mkF m 437 #[.val (.ref self), .val (.int (8 : Int32)), .val (.ref ta), .val (.ref ha), .val (.int ec), .val (.ref sa), .val (.int (2 : Int32)), .val (.ref b128), .val (.int (1 : Int32)), .val (.int v341)] [(.int (1 : Int32)), (.ref b421), (.int (1 : Int32)), (.ref b467)])) rfl rfl (hb hby d1_437) _ (XS.i2l X487.here hx rfl (hb hby d1_438) rfl k)) ?_
      show Comes p e below _ (T487.setTop (mkF m 439 #[.val (.ref self), .val (.int (8 : Int32)), .val (.ref ta), .val (.ref ha), .val (.int ec), .val (.ref sa), .val (.int (2 : Int32)), .val (.ref b128), .val (.int (1 : Int32)), .val (.int v341)] [(.long ((f461 1).toInt64)), (.int (1 : Int32)), (.ref b467)]))
      generalize hv_v491 : ((f461 1).toInt64) = v491
      show Comes p e below _ (T487.setTop (mkF m 439 #[.val (.ref self), .val (.int (8 : Int32)), .val (.ref ta), .val (.ref ha), .val (.int ec), .val (.ref sa), .val (.int (2 : Int32)), .val (.ref b128), .val (.int (1 : Int32)), .val (.int v341)] [(.long v491), (.int (1 : Int32)), (.ref b467)]))
      obtain ⟨cl492, Ar492, q492, S492, Ng492, H492, Gf492⟩ := id V480
      have hin492 : ¬ ((1 : Int32) < 0 ∨ cl492.slots.size ≤ ((1 : Int32)).toNatClampNeg) := inb_of S492 ⟨by decide, by decide⟩
      obtain ⟨T492, h492, X492, e492, W492, st492⟩ := stJ X487 hx hZ e487 Ar492 (j := (1 : Int32)) hin492 (g := (mkF m 439 #[.val (.ref self), .val (.int (8 : Int32)), .val (.ref ta), .val (.ref ha), .val (.int ec), .val (.ref sa), .val (.int (2 : Int32)), .val (.ref b128), .val (.int (1 : Int32)), .val (.int v341)] [(.long v491), (.int (1 : Int32)), (.ref b467)])) rfl rfl (hb hby d1_439)
      have V492 : Arv Z h492 b467 k467 .long (8 : Int32) [(.long v477), (.long v491), (.long (0 : Int64)), (.long (0 : Int64)), (.long (0 : Int64)), (.long (0 : Int64)), (.long (0 : Int64)), (.long (0 : Int64))] (.long (0 : Int64)) := Arv.set Ar492 q492 S492 Ng492 H492 Gf492 rfl W492 1 rfl (Nat.le_of_ble_eq_true rfl)
      have z492 : h492.size = h480.size := W492.size
      have N492 := Fr.snoc X492 N480 gn481
      have K492 : Keep h0 h492 [self] := K480.wr W492 (Or.inr gz482)
      refine Comes.st st492 ?_
      show Comes p e below _ (T492.setTop (mkF m 440 #[.val (.ref self), .val (.int (8 : Int32)), .val (.ref ta), .val (.ref ha), .val (.int ec), .val (.ref sa), .val (.int (2 : Int32)), .val (.ref b128), .val (.int (1 : Int32)), .val (.int v341)] []))
      refine Comes.st (fun t k => XS.iinc X492.here hx rfl (hb hby d1_440) rfl (l' := #[.val (.ref self), .val (.int (8 : Int32)), .val (.ref ta), .val (.ref ha), .val (.int ec), .val (.ref sa), .val (.int (2 : Int32)), .val (.ref b128), .val (.int (2 : Int32)), .val (.int v341)]) rfl (XS.goto X492.here hx rfl (pc0 := 443) (pc' := 419) rfl (hb hby d1_443) (by decide) (by decide) (XS.iload X492.here hx rfl (hb hby d1_419) rfl (XS.iloadN X492.here hx rfl (hb hby d1_421) rfl k)))) ?_
      show Comes p e below _ (T492.setTop (mkF m 422 #[.val (.ref self), .val (.int (8 : Int32)), .val (.ref ta), .val (.ref ha), .val (.int ec), .val (.ref sa), .val (.int (2 : Int32)), .val (.ref b128), .val (.int (2 : Int32)), .val (.int v341)] [(.int (8 : Int32)), (.int (2 : Int32))]))
      have hc422_493 : (2 : Int32) < (8 : Int32) := by decide
      refine Comes.st (fun t k => XS.icmpNo X492.here hx rfl (hb hby d1_422) rfl (tlt hc422_493).2.1 (XS.aloadN X492.here hx rfl (hb hby d1_425) rfl rfl k)) ?_
      show Comes p e below _ (T492.setTop (mkF m 426 #[.val (.ref self), .val (.int (8 : Int32)), .val (.ref ta), .val (.ref ha), .val (.int ec), .val (.ref sa), .val (.int (2 : Int32)), .val (.ref b128), .val (.int (2 : Int32)), .val (.int v341)] [(.ref self)]))
      have F494 : Fld Z h492 self "com/example/ordr/ordr/layout/LayerNetwork" "excesses" "[J" (.ref b467) := (F484.other W492 (Or.inl (Ne.symm ne478)))
      obtain ⟨T495, X495, e495, st495⟩ := getF X492 hx hZ hown (host := "") (Or.inl (hw _ (List.mem_of_getElem? (i := 33) rfl))) Via.refl e492 F494 (g := (mkF m 426 #[.val (.ref self), .val (.int (8 : Int32)), .val (.ref ta), .val (.ref ha), .val (.int ec), .val (.ref sa), .val (.int (2 : Int32)), .val (.ref b128), .val (.int (2 : Int32)), .val (.int v341)] [(.ref self)])) rfl rfl (hb hby d1_426)
      refine Comes.st st495 ?_
      show Comes p e below _ (T495.setTop (mkF m 429 #[.val (.ref self), .val (.int (8 : Int32)), .val (.ref ta), .val (.ref ha), .val (.int ec), .val (.ref sa), .val (.int (2 : Int32)), .val (.ref b128), .val (.int (2 : Int32)), .val (.int v341)] [(.ref b467)]))
      refine Comes.st (fun t k => XS.iload X495.here hx rfl (hb hby d1_429) rfl (XS.aloadN X495.here hx rfl (hb hby d1_431) rfl rfl k)) ?_
      show Comes p e below _ (T495.setTop (mkF m 432 #[.val (.ref self), .val (.int (8 : Int32)), .val (.ref ta), .val (.ref ha), .val (.int ec), .val (.ref sa), .val (.int (2 : Int32)), .val (.ref b128), .val (.int (2 : Int32)), .val (.int v341)] [(.ref self), (.int (2 : Int32)), (.ref b467)]))
      have F496 : Fld Z h492 self "com/example/ordr/ordr/layout/LayerNetwork" "supplies" "[I" (.ref b421) := (F486.other W492 (Or.inl (Ne.symm ne478)))
      obtain ⟨T497, X497, e497, st497⟩ := getF X495 hx hZ hown (host := "") (Or.inl (hw _ (List.mem_of_getElem? (i := 29) rfl))) Via.refl e495 F496 (g := (mkF m 432 #[.val (.ref self), .val (.int (8 : Int32)), .val (.ref ta), .val (.ref ha), .val (.int ec), .val (.ref sa), .val (.int (2 : Int32)), .val (.ref b128), .val (.int (2 : Int32)), .val (.int v341)] [(.ref self), (.int (2 : Int32)), (.ref b467)])) rfl rfl (hb hby d1_432)
      refine Comes.st st497 ?_
      show Comes p e below _ (T497.setTop (mkF m 435 #[.val (.ref self), .val (.int (8 : Int32)), .val (.ref ta), .val (.ref ha), .val (.int ec), .val (.ref sa), .val (.int (2 : Int32)), .val (.ref b128), .val (.int (2 : Int32)), .val (.int v341)] [(.ref b421), (.int (2 : Int32)), (.ref b467)]))
      refine Comes.st (fun t k => XS.iload X497.here hx rfl (hb hby d1_435) rfl k) ?_
      show Comes p e below _ (T497.setTop (mkF m 437 #[.val (.ref self), .val (.int (8 : Int32)), .val (.ref ta), .val (.ref ha), .val (.int ec), .val (.ref sa), .val (.int (2 : Int32)), .val (.ref b128), .val (.int (2 : Int32)), .val (.int v341)] [(.int (2 : Int32)), (.ref b421), (.int (2 : Int32)), (.ref b467)]))
      have F498 : Ari Z h492 b421 8 f461 := (F489.other W492 ne488)
      obtain ⟨cl499, Ar499, S499, H499⟩ := id F498
      have hin499 : ¬ ((2 : Int32) < 0 ∨ cl499.slots.size ≤ ((2 : Int32)).toNatClampNeg) := by rw [S499]; decide
      refine Comes.st (fun t k => X497.iaload hx (j := (2 : Int32)) (v := (.int (f461 2))) (by rw [e497]; exact Ar499.1) (State.isArrayOf_alike hZ.alike Ar499.2.1) Ar499.2.2 hin499 (H499 _ (Nat.lt_of_not_le fun y => hin499 (Or.inr (S499 ▸ y)))) (g := (mkF m 437 #[.val (.ref self), .val (.int (8 : Int32)), .val (.ref ta), .val (.ref ha), .val (.int ec), .val (.ref sa), .val (.int (2 : Int32)), .val (.ref b128), .val (.int (2 : Int32)), .val (.int v341)] [(.int (2 : Int32)), (.ref b421), (.int (2 : Int32)), (.ref b467)])) rfl rfl (hb hby d1_437) _ (XS.i2l X497.here hx rfl (hb hby d1_438) rfl k)) ?_
      show Comes p e below _ (T497.setTop (mkF m 439 #[.val (.ref self), .val (.int (8 : Int32)), .val (.ref ta), .val (.ref ha), .val (.int ec), .val (.ref sa), .val (.int (2 : Int32)), .val (.ref b128), .val (.int (2 : Int32)), .val (.int v341)] [(.long ((f461 2).toInt64)), (.int (2 : Int32)), (.ref b467)]))
      generalize hv_v500 : ((f461 2).toInt64) = v500
      show Comes p e below _ (T497.setTop (mkF m 439 #[.val (.ref self), .val (.int (8 : Int32)), .val (.ref ta), .val (.ref ha), .val (.int ec), .val (.ref sa), .val (.int (2 : Int32)), .val (.ref b128), .val (.int (2 : Int32)), .val (.int v341)] [(.long v500), (.int (2 : Int32)), (.ref b467)]))
      obtain ⟨cl501, Ar501, q501, S501, Ng501, H501, Gf501⟩ := id V492
      have hin501 : ¬ ((2 : Int32) < 0 ∨ cl501.slots.size ≤ ((2 : Int32)).toNatClampNeg) := inb_of S501 ⟨by decide, by decide⟩
      obtain ⟨T501, h501, X501, e501, W501, st501⟩ := stJ X497 hx hZ e497 Ar501 (j := (2 : Int32)) hin501 (g := (mkF m 439 #[.val (.ref self), .val (.int (8 : Int32)), .val (.ref ta), .val (.ref ha), .val (.int ec), .val (.ref sa), .val (.int (2 : Int32)), .val (.ref b128), .val (.int (2 : Int32)), .val (.int v341)] [(.long v500), (.int (2 : Int32)), (.ref b467)])) rfl rfl (hb hby d1_439)
      have V501 : Arv Z h501 b467 k467 .long (8 : Int32) [(.long v477), (.long v491), (.long v500), (.long (0 : Int64)), (.long (0 : Int64)), (.long (0 : Int64)), (.long (0 : Int64)), (.long (0 : Int64))] (.long (0 : Int64)) := Arv.set Ar501 q501 S501 Ng501 H501 Gf501 rfl W501 2 rfl (Nat.le_of_ble_eq_true rfl)
      have z501 : h501.size = h492.size := W501.size
      have N501 := Fr.snoc X501 N492 gn481
      have K501 : Keep h0 h501 [self] := K492.wr W501 (Or.inr gz482)
      refine Comes.st st501 ?_
      show Comes p e below _ (T501.setTop (mkF m 440 #[.val (.ref self), .val (.int (8 : Int32)), .val (.ref ta), .val (.ref ha), .val (.int ec), .val (.ref sa), .val (.int (2 : Int32)), .val (.ref b128), .val (.int (2 : Int32)), .val (.int v341)] []))
      refine Comes.st (fun t k => XS.iinc X501.here hx rfl (hb hby d1_440) rfl (l' := #[.val (.ref self), .val (.int (8 : Int32)), .val (.ref ta), .val (.ref ha), .val (.int ec), .val (.ref sa), .val (.int (2 : Int32)), .val (.ref b128), .val (.int (3 : Int32)), .val (.int v341)]) rfl (XS.goto X501.here hx rfl (pc0 := 443) (pc' := 419) rfl (hb hby d1_443) (by decide) (by decide) (XS.iload X501.here hx rfl (hb hby d1_419) rfl (XS.iloadN X501.here hx rfl (hb hby d1_421) rfl k)))) ?_
      show Comes p e below _ (T501.setTop (mkF m 422 #[.val (.ref self), .val (.int (8 : Int32)), .val (.ref ta), .val (.ref ha), .val (.int ec), .val (.ref sa), .val (.int (2 : Int32)), .val (.ref b128), .val (.int (3 : Int32)), .val (.int v341)] [(.int (8 : Int32)), (.int (3 : Int32))]))
      have hc422_502 : (3 : Int32) < (8 : Int32) := by decide
      refine Comes.st (fun t k => XS.icmpNo X501.here hx rfl (hb hby d1_422) rfl (tlt hc422_502).2.1 (XS.aloadN X501.here hx rfl (hb hby d1_425) rfl rfl k)) ?_
      show Comes p e below _ (T501.setTop (mkF m 426 #[.val (.ref self), .val (.int (8 : Int32)), .val (.ref ta), .val (.ref ha), .val (.int ec), .val (.ref sa), .val (.int (2 : Int32)), .val (.ref b128), .val (.int (3 : Int32)), .val (.int v341)] [(.ref self)]))
      have F503 : Fld Z h501 self "com/example/ordr/ordr/layout/LayerNetwork" "excesses" "[J" (.ref b467) := (F494.other W501 (Or.inl (Ne.symm ne478)))
      obtain ⟨T504, X504, e504, st504⟩ := getF X501 hx hZ hown (host := "") (Or.inl (hw _ (List.mem_of_getElem? (i := 33) rfl))) Via.refl e501 F503 (g := (mkF m 426 #[.val (.ref self), .val (.int (8 : Int32)), .val (.ref ta), .val (.ref ha), .val (.int ec), .val (.ref sa), .val (.int (2 : Int32)), .val (.ref b128), .val (.int (3 : Int32)), .val (.int v341)] [(.ref self)])) rfl rfl (hb hby d1_426)
      refine Comes.st st504 ?_
      show Comes p e below _ (T504.setTop (mkF m 429 #[.val (.ref self), .val (.int (8 : Int32)), .val (.ref ta), .val (.ref ha), .val (.int ec), .val (.ref sa), .val (.int (2 : Int32)), .val (.ref b128), .val (.int (3 : Int32)), .val (.int v341)] [(.ref b467)]))
      refine Comes.st (fun t k => XS.iload X504.here hx rfl (hb hby d1_429) rfl (XS.aloadN X504.here hx rfl (hb hby d1_431) rfl rfl k)) ?_
      show Comes p e below _ (T504.setTop (mkF m 432 #[.val (.ref self), .val (.int (8 : Int32)), .val (.ref ta), .val (.ref ha), .val (.int ec), .val (.ref sa), .val (.int (2 : Int32)), .val (.ref b128), .val (.int (3 : Int32)), .val (.int v341)] [(.ref self), (.int (3 : Int32)), (.ref b467)]))
      have F505 : Fld Z h501 self "com/example/ordr/ordr/layout/LayerNetwork" "supplies" "[I" (.ref b421) := (F496.other W501 (Or.inl (Ne.symm ne478)))
      obtain ⟨T506, X506, e506, st506⟩ := getF X504 hx hZ hown (host := "") (Or.inl (hw _ (List.mem_of_getElem? (i := 29) rfl))) Via.refl e504 F505 (g := (mkF m 432 #[.val (.ref self), .val (.int (8 : Int32)), .val (.ref ta), .val (.ref ha), .val (.int ec), .val (.ref sa), .val (.int (2 : Int32)), .val (.ref b128), .val (.int (3 : Int32)), .val (.int v341)] [(.ref self), (.int (3 : Int32)), (.ref b467)])) rfl rfl (hb hby d1_432)
      refine Comes.st st506 ?_
      show Comes p e below _ (T506.setTop (mkF m 435 #[.val (.ref self), .val (.int (8 : Int32)), .val (.ref ta), .val (.ref ha), .val (.int ec), .val (.ref sa), .val (.int (2 : Int32)), .val (.ref b128), .val (.int (3 : Int32)), .val (.int v341)] [(.ref b421), (.int (3 : Int32)), (.ref b467)]))
      refine Comes.st (fun t k => XS.iload X506.here hx rfl (hb hby d1_435) rfl k) ?_
      show Comes p e below _ (T506.setTop (mkF m 437 #[.val (.ref self), .val (.int (8 : Int32)), .val (.ref ta), .val (.ref ha), .val (.int ec), .val (.ref sa), .val (.int (2 : Int32)), .val (.ref b128), .val (.int (3 : Int32)), .val (.int v341)] [(.int (3 : Int32)), (.ref b421), (.int (3 : Int32)), (.ref b467)]))
      have F507 : Ari Z h501 b421 8 f461 := (F498.other W501 ne488)
      obtain ⟨cl508, Ar508, S508, H508⟩ := id F507
      have hin508 : ¬ ((3 : Int32) < 0 ∨ cl508.slots.size ≤ ((3 : Int32)).toNatClampNeg) := by rw [S508]; decide
      refine Comes.st (fun t k => X506.iaload hx (j := (3 : Int32)) (v := (.int (f461 3))) (by rw [e506]; exact Ar508.1) (State.isArrayOf_alike hZ.alike Ar508.2.1) Ar508.2.2 hin508 (H508 _ (Nat.lt_of_not_le fun y => hin508 (Or.inr (S508 ▸ y)))) (g := (mkF m 437 #[.val (.ref self), .val (.int (8 : Int32)), .val (.ref ta), .val (.ref ha), .val (.int ec), .val (.ref sa), .val (.int (2 : Int32)), .val (.ref b128), .val (.int (3 : Int32)), .val (.int v341)] [(.int (3 : Int32)), (.ref b421), (.int (3 : Int32)), (.ref b467)])) rfl rfl (hb hby d1_437) _ (XS.i2l X506.here hx rfl (hb hby d1_438) rfl k)) ?_
      show Comes p e below _ (T506.setTop (mkF m 439 #[.val (.ref self), .val (.int (8 : Int32)), .val (.ref ta), .val (.ref ha), .val (.int ec), .val (.ref sa), .val (.int (2 : Int32)), .val (.ref b128), .val (.int (3 : Int32)), .val (.int v341)] [(.long ((f461 3).toInt64)), (.int (3 : Int32)), (.ref b467)]))
      generalize hv_v509 : ((f461 3).toInt64) = v509
      show Comes p e below _ (T506.setTop (mkF m 439 #[.val (.ref self), .val (.int (8 : Int32)), .val (.ref ta), .val (.ref ha), .val (.int ec), .val (.ref sa), .val (.int (2 : Int32)), .val (.ref b128), .val (.int (3 : Int32)), .val (.int v341)] [(.long v509), (.int (3 : Int32)), (.ref b467)]))
      obtain ⟨cl510, Ar510, q510, S510, Ng510, H510, Gf510⟩ := id V501
      have hin510 : ¬ ((3 : Int32) < 0 ∨ cl510.slots.size ≤ ((3 : Int32)).toNatClampNeg) := inb_of S510 ⟨by decide, by decide⟩
      obtain ⟨T510, h510, X510, e510, W510, st510⟩ := stJ X506 hx hZ e506 Ar510 (j := (3 : Int32)) hin510 (g := (mkF m 439 #[.val (.ref self), .val (.int (8 : Int32)), .val (.ref ta), .val (.ref ha), .val (.int ec), .val (.ref sa), .val (.int (2 : Int32)), .val (.ref b128), .val (.int (3 : Int32)), .val (.int v341)] [(.long v509), (.int (3 : Int32)), (.ref b467)])) rfl rfl (hb hby d1_439)
      have V510 : Arv Z h510 b467 k467 .long (8 : Int32) [(.long v477), (.long v491), (.long v500), (.long v509), (.long (0 : Int64)), (.long (0 : Int64)), (.long (0 : Int64)), (.long (0 : Int64))] (.long (0 : Int64)) := Arv.set Ar510 q510 S510 Ng510 H510 Gf510 rfl W510 3 rfl (Nat.le_of_ble_eq_true rfl)
      have z510 : h510.size = h501.size := W510.size
      have N510 := Fr.snoc X510 N501 gn481
      have K510 : Keep h0 h510 [self] := K501.wr W510 (Or.inr gz482)
      refine Comes.st st510 ?_
      show Comes p e below _ (T510.setTop (mkF m 440 #[.val (.ref self), .val (.int (8 : Int32)), .val (.ref ta), .val (.ref ha), .val (.int ec), .val (.ref sa), .val (.int (2 : Int32)), .val (.ref b128), .val (.int (3 : Int32)), .val (.int v341)] []))
      refine Comes.st (fun t k => XS.iinc X510.here hx rfl (hb hby d1_440) rfl (l' := #[.val (.ref self), .val (.int (8 : Int32)), .val (.ref ta), .val (.ref ha), .val (.int ec), .val (.ref sa), .val (.int (2 : Int32)), .val (.ref b128), .val (.int (4 : Int32)), .val (.int v341)]) rfl (XS.goto X510.here hx rfl (pc0 := 443) (pc' := 419) rfl (hb hby d1_443) (by decide) (by decide) (XS.iload X510.here hx rfl (hb hby d1_419) rfl (XS.iloadN X510.here hx rfl (hb hby d1_421) rfl k)))) ?_
      show Comes p e below _ (T510.setTop (mkF m 422 #[.val (.ref self), .val (.int (8 : Int32)), .val (.ref ta), .val (.ref ha), .val (.int ec), .val (.ref sa), .val (.int (2 : Int32)), .val (.ref b128), .val (.int (4 : Int32)), .val (.int v341)] [(.int (8 : Int32)), (.int (4 : Int32))]))
      have hc422_511 : (4 : Int32) < (8 : Int32) := by decide
      refine Comes.st (fun t k => XS.icmpNo X510.here hx rfl (hb hby d1_422) rfl (tlt hc422_511).2.1 (XS.aloadN X510.here hx rfl (hb hby d1_425) rfl rfl k)) ?_
      show Comes p e below _ (T510.setTop (mkF m 426 #[.val (.ref self), .val (.int (8 : Int32)), .val (.ref ta), .val (.ref ha), .val (.int ec), .val (.ref sa), .val (.int (2 : Int32)), .val (.ref b128), .val (.int (4 : Int32)), .val (.int v341)] [(.ref self)]))
      have F512 : Fld Z h510 self "com/example/ordr/ordr/layout/LayerNetwork" "excesses" "[J" (.ref b467) := (F503.other W510 (Or.inl (Ne.symm ne478)))
      obtain ⟨T513, X513, e513, st513⟩ := getF X510 hx hZ hown (host := "") (Or.inl (hw _ (List.mem_of_getElem? (i := 33) rfl))) Via.refl e510 F512 (g := (mkF m 426 #[.val (.ref self), .val (.int (8 : Int32)), .val (.ref ta), .val (.ref ha), .val (.int ec), .val (.ref sa), .val (.int (2 : Int32)), .val (.ref b128), .val (.int (4 : Int32)), .val (.int v341)] [(.ref self)])) rfl rfl (hb hby d1_426)
      refine Comes.st st513 ?_
      show Comes p e below _ (T513.setTop (mkF m 429 #[.val (.ref self), .val (.int (8 : Int32)), .val (.ref ta), .val (.ref ha), .val (.int ec), .val (.ref sa), .val (.int (2 : Int32)), .val (.ref b128), .val (.int (4 : Int32)), .val (.int v341)] [(.ref b467)]))
      refine Comes.st (fun t k => XS.iload X513.here hx rfl (hb hby d1_429) rfl (XS.aloadN X513.here hx rfl (hb hby d1_431) rfl rfl k)) ?_
      show Comes p e below _ (T513.setTop (mkF m 432 #[.val (.ref self), .val (.int (8 : Int32)), .val (.ref ta), .val (.ref ha), .val (.int ec), .val (.ref sa), .val (.int (2 : Int32)), .val (.ref b128), .val (.int (4 : Int32)), .val (.int v341)] [(.ref self), (.int (4 : Int32)), (.ref b467)]))
      have F514 : Fld Z h510 self "com/example/ordr/ordr/layout/LayerNetwork" "supplies" "[I" (.ref b421) := (F505.other W510 (Or.inl (Ne.symm ne478)))
      obtain ⟨T515, X515, e515, st515⟩ := getF X513 hx hZ hown (host := "") (Or.inl (hw _ (List.mem_of_getElem? (i := 29) rfl))) Via.refl e513 F514 (g := (mkF m 432 #[.val (.ref self), .val (.int (8 : Int32)), .val (.ref ta), .val (.ref ha), .val (.int ec), .val (.ref sa), .val (.int (2 : Int32)), .val (.ref b128), .val (.int (4 : Int32)), .val (.int v341)] [(.ref self), (.int (4 : Int32)), (.ref b467)])) rfl rfl (hb hby d1_432)
      refine Comes.st st515 ?_
      show Comes p e below _ (T515.setTop (mkF m 435 #[.val (.ref self), .val (.int (8 : Int32)), .val (.ref ta), .val (.ref ha), .val (.int ec), .val (.ref sa), .val (.int (2 : Int32)), .val (.ref b128), .val (.int (4 : Int32)), .val (.int v341)] [(.ref b421), (.int (4 : Int32)), (.ref b467)]))
      refine Comes.st (fun t k => XS.iload X515.here hx rfl (hb hby d1_435) rfl k) ?_
      show Comes p e below _ (T515.setTop (mkF m 437 #[.val (.ref self), .val (.int (8 : Int32)), .val (.ref ta), .val (.ref ha), .val (.int ec), .val (.ref sa), .val (.int (2 : Int32)), .val (.ref b128), .val (.int (4 : Int32)), .val (.int v341)] [(.int (4 : Int32)), (.ref b421), (.int (4 : Int32)), (.ref b467)]))
      have F516 : Ari Z h510 b421 8 f461 := (F507.other W510 ne488)
      obtain ⟨cl517, Ar517, S517, H517⟩ := id F516
      have hin517 : ¬ ((4 : Int32) < 0 ∨ cl517.slots.size ≤ ((4 : Int32)).toNatClampNeg) := by rw [S517]; decide
      refine Comes.st (fun t k => X515.iaload hx (j := (4 : Int32)) (v := (.int (f461 4))) (by rw [e515]; exact Ar517.1) (State.isArrayOf_alike hZ.alike Ar517.2.1) Ar517.2.2 hin517 (H517 _ (Nat.lt_of_not_le fun y => hin517 (Or.inr (S517 ▸ y)))) (g := (mkF m 437 #[.val (.ref self), .val (.int (8 : Int32)), .val (.ref ta), .val (.ref ha), .val (.int ec), .val (.ref sa), .val (.int (2 : Int32)), .val (.ref b128), .val (.int (4 : Int32)), .val (.int v341)] [(.int (4 : Int32)), (.ref b421), (.int (4 : Int32)), (.ref b467)])) rfl rfl (hb hby d1_437) _ (XS.i2l X515.here hx rfl (hb hby d1_438) rfl k)) ?_
      show Comes p e below _ (T515.setTop (mkF m 439 #[.val (.ref self), .val (.int (8 : Int32)), .val (.ref ta), .val (.ref ha), .val (.int ec), .val (.ref sa), .val (.int (2 : Int32)), .val (.ref b128), .val (.int (4 : Int32)), .val (.int v341)] [(.long ((f461 4).toInt64)), (.int (4 : Int32)), (.ref b467)]))
      generalize hv_v518 : ((f461 4).toInt64) = v518
      show Comes p e below _ (T515.setTop (mkF m 439 #[.val (.ref self), .val (.int (8 : Int32)), .val (.ref ta), .val (.ref ha), .val (.int ec), .val (.ref sa), .val (.int (2 : Int32)), .val (.ref b128), .val (.int (4 : Int32)), .val (.int v341)] [(.long v518), (.int (4 : Int32)), (.ref b467)]))
      obtain ⟨cl519, Ar519, q519, S519, Ng519, H519, Gf519⟩ := id V510
      have hin519 : ¬ ((4 : Int32) < 0 ∨ cl519.slots.size ≤ ((4 : Int32)).toNatClampNeg) := inb_of S519 ⟨by decide, by decide⟩
      obtain ⟨T519, h519, X519, e519, W519, st519⟩ := stJ X515 hx hZ e515 Ar519 (j := (4 : Int32)) hin519 (g := (mkF m 439 #[.val (.ref self), .val (.int (8 : Int32)), .val (.ref ta), .val (.ref ha), .val (.int ec), .val (.ref sa), .val (.int (2 : Int32)), .val (.ref b128), .val (.int (4 : Int32)), .val (.int v341)] [(.long v518), (.int (4 : Int32)), (.ref b467)])) rfl rfl (hb hby d1_439)
      have V519 : Arv Z h519 b467 k467 .long (8 : Int32) [(.long v477), (.long v491), (.long v500), (.long v509), (.long v518), (.long (0 : Int64)), (.long (0 : Int64)), (.long (0 : Int64))] (.long (0 : Int64)) := Arv.set Ar519 q519 S519 Ng519 H519 Gf519 rfl W519 4 rfl (Nat.le_of_ble_eq_true rfl)
      have z519 : h519.size = h510.size := W519.size
      have N519 := Fr.snoc X519 N510 gn481
      have K519 : Keep h0 h519 [self] := K510.wr W519 (Or.inr gz482)
      refine Comes.st st519 ?_
      show Comes p e below _ (T519.setTop (mkF m 440 #[.val (.ref self), .val (.int (8 : Int32)), .val (.ref ta), .val (.ref ha), .val (.int ec), .val (.ref sa), .val (.int (2 : Int32)), .val (.ref b128), .val (.int (4 : Int32)), .val (.int v341)] []))
      refine Comes.st (fun t k => XS.iinc X519.here hx rfl (hb hby d1_440) rfl (l' := #[.val (.ref self), .val (.int (8 : Int32)), .val (.ref ta), .val (.ref ha), .val (.int ec), .val (.ref sa), .val (.int (2 : Int32)), .val (.ref b128), .val (.int (5 : Int32)), .val (.int v341)]) rfl (XS.goto X519.here hx rfl (pc0 := 443) (pc' := 419) rfl (hb hby d1_443) (by decide) (by decide) (XS.iload X519.here hx rfl (hb hby d1_419) rfl (XS.iloadN X519.here hx rfl (hb hby d1_421) rfl k)))) ?_
      show Comes p e below _ (T519.setTop (mkF m 422 #[.val (.ref self), .val (.int (8 : Int32)), .val (.ref ta), .val (.ref ha), .val (.int ec), .val (.ref sa), .val (.int (2 : Int32)), .val (.ref b128), .val (.int (5 : Int32)), .val (.int v341)] [(.int (8 : Int32)), (.int (5 : Int32))]))
      have hc422_520 : (5 : Int32) < (8 : Int32) := by decide
      refine Comes.st (fun t k => XS.icmpNo X519.here hx rfl (hb hby d1_422) rfl (tlt hc422_520).2.1 (XS.aloadN X519.here hx rfl (hb hby d1_425) rfl rfl k)) ?_
      show Comes p e below _ (T519.setTop (mkF m 426 #[.val (.ref self), .val (.int (8 : Int32)), .val (.ref ta), .val (.ref ha), .val (.int ec), .val (.ref sa), .val (.int (2 : Int32)), .val (.ref b128), .val (.int (5 : Int32)), .val (.int v341)] [(.ref self)]))
      have F521 : Fld Z h519 self "com/example/ordr/ordr/layout/LayerNetwork" "excesses" "[J" (.ref b467) := (F512.other W519 (Or.inl (Ne.symm ne478)))
      obtain ⟨T522, X522, e522, st522⟩ := getF X519 hx hZ hown (host := "") (Or.inl (hw _ (List.mem_of_getElem? (i := 33) rfl))) Via.refl e519 F521 (g := (mkF m 426 #[.val (.ref self), .val (.int (8 : Int32)), .val (.ref ta), .val (.ref ha), .val (.int ec), .val (.ref sa), .val (.int (2 : Int32)), .val (.ref b128), .val (.int (5 : Int32)), .val (.int v341)] [(.ref self)])) rfl rfl (hb hby d1_426)
      refine Comes.st st522 ?_
      show Comes p e below _ (T522.setTop (mkF m 429 #[.val (.ref self), .val (.int (8 : Int32)), .val (.ref ta), .val (.ref ha), .val (.int ec), .val (.ref sa), .val (.int (2 : Int32)), .val (.ref b128), .val (.int (5 : Int32)), .val (.int v341)] [(.ref b467)]))
      refine Comes.st (fun t k => XS.iload X522.here hx rfl (hb hby d1_429) rfl (XS.aloadN X522.here hx rfl (hb hby d1_431) rfl rfl k)) ?_
      show Comes p e below _ (T522.setTop (mkF m 432 #[.val (.ref self), .val (.int (8 : Int32)), .val (.ref ta), .val (.ref ha), .val (.int ec), .val (.ref sa), .val (.int (2 : Int32)), .val (.ref b128), .val (.int (5 : Int32)), .val (.int v341)] [(.ref self), (.int (5 : Int32)), (.ref b467)]))
      have F523 : Fld Z h519 self "com/example/ordr/ordr/layout/LayerNetwork" "supplies" "[I" (.ref b421) := (F514.other W519 (Or.inl (Ne.symm ne478)))
      obtain ⟨T524, X524, e524, st524⟩ := getF X522 hx hZ hown (host := "") (Or.inl (hw _ (List.mem_of_getElem? (i := 29) rfl))) Via.refl e522 F523 (g := (mkF m 432 #[.val (.ref self), .val (.int (8 : Int32)), .val (.ref ta), .val (.ref ha), .val (.int ec), .val (.ref sa), .val (.int (2 : Int32)), .val (.ref b128), .val (.int (5 : Int32)), .val (.int v341)] [(.ref self), (.int (5 : Int32)), (.ref b467)])) rfl rfl (hb hby d1_432)
      refine Comes.st st524 ?_
      show Comes p e below _ (T524.setTop (mkF m 435 #[.val (.ref self), .val (.int (8 : Int32)), .val (.ref ta), .val (.ref ha), .val (.int ec), .val (.ref sa), .val (.int (2 : Int32)), .val (.ref b128), .val (.int (5 : Int32)), .val (.int v341)] [(.ref b421), (.int (5 : Int32)), (.ref b467)]))
      refine Comes.st (fun t k => XS.iload X524.here hx rfl (hb hby d1_435) rfl k) ?_
      show Comes p e below _ (T524.setTop (mkF m 437 #[.val (.ref self), .val (.int (8 : Int32)), .val (.ref ta), .val (.ref ha), .val (.int ec), .val (.ref sa), .val (.int (2 : Int32)), .val (.ref b128), .val (.int (5 : Int32)), .val (.int v341)] [(.int (5 : Int32)), (.ref b421), (.int (5 : Int32)), (.ref b467)]))
      have F525 : Ari Z h519 b421 8 f461 := (F516.other W519 ne488)
      obtain ⟨cl526, Ar526, S526, H526⟩ := id F525
      have hin526 : ¬ ((5 : Int32) < 0 ∨ cl526.slots.size ≤ ((5 : Int32)).toNatClampNeg) := by rw [S526]; decide
      refine Comes.st (fun t k => X524.iaload hx (j := (5 : Int32)) (v := (.int (f461 5))) (by rw [e524]; exact Ar526.1) (State.isArrayOf_alike hZ.alike Ar526.2.1) Ar526.2.2 hin526 (H526 _ (Nat.lt_of_not_le fun y => hin526 (Or.inr (S526 ▸ y)))) (g := (mkF m 437 #[.val (.ref self), .val (.int (8 : Int32)), .val (.ref ta), .val (.ref ha), .val (.int ec), .val (.ref sa), .val (.int (2 : Int32)), .val (.ref b128), .val (.int (5 : Int32)), .val (.int v341)] [(.int (5 : Int32)), (.ref b421), (.int (5 : Int32)), (.ref b467)])) rfl rfl (hb hby d1_437) _ (XS.i2l X524.here hx rfl (hb hby d1_438) rfl k)) ?_
      show Comes p e below _ (T524.setTop (mkF m 439 #[.val (.ref self), .val (.int (8 : Int32)), .val (.ref ta), .val (.ref ha), .val (.int ec), .val (.ref sa), .val (.int (2 : Int32)), .val (.ref b128), .val (.int (5 : Int32)), .val (.int v341)] [(.long ((f461 5).toInt64)), (.int (5 : Int32)), (.ref b467)]))
      generalize hv_v527 : ((f461 5).toInt64) = v527
      show Comes p e below _ (T524.setTop (mkF m 439 #[.val (.ref self), .val (.int (8 : Int32)), .val (.ref ta), .val (.ref ha), .val (.int ec), .val (.ref sa), .val (.int (2 : Int32)), .val (.ref b128), .val (.int (5 : Int32)), .val (.int v341)] [(.long v527), (.int (5 : Int32)), (.ref b467)]))
      obtain ⟨cl528, Ar528, q528, S528, Ng528, H528, Gf528⟩ := id V519
      have hin528 : ¬ ((5 : Int32) < 0 ∨ cl528.slots.size ≤ ((5 : Int32)).toNatClampNeg) := inb_of S528 ⟨by decide, by decide⟩
      obtain ⟨T528, h528, X528, e528, W528, st528⟩ := stJ X524 hx hZ e524 Ar528 (j := (5 : Int32)) hin528 (g := (mkF m 439 #[.val (.ref self), .val (.int (8 : Int32)), .val (.ref ta), .val (.ref ha), .val (.int ec), .val (.ref sa), .val (.int (2 : Int32)), .val (.ref b128), .val (.int (5 : Int32)), .val (.int v341)] [(.long v527), (.int (5 : Int32)), (.ref b467)])) rfl rfl (hb hby d1_439)
      have V528 : Arv Z h528 b467 k467 .long (8 : Int32) [(.long v477), (.long v491), (.long v500), (.long v509), (.long v518), (.long v527), (.long (0 : Int64)), (.long (0 : Int64))] (.long (0 : Int64)) := Arv.set Ar528 q528 S528 Ng528 H528 Gf528 rfl W528 5 rfl (Nat.le_of_ble_eq_true rfl)
      have z528 : h528.size = h519.size := W528.size
      have N528 := Fr.snoc X528 N519 gn481
      have K528 : Keep h0 h528 [self] := K519.wr W528 (Or.inr gz482)
      refine Comes.st st528 ?_
      show Comes p e below _ (T528.setTop (mkF m 440 #[.val (.ref self), .val (.int (8 : Int32)), .val (.ref ta), .val (.ref ha), .val (.int ec), .val (.ref sa), .val (.int (2 : Int32)), .val (.ref b128), .val (.int (5 : Int32)), .val (.int v341)] []))
      refine Comes.st (fun t k => XS.iinc X528.here hx rfl (hb hby d1_440) rfl (l' := #[.val (.ref self), .val (.int (8 : Int32)), .val (.ref ta), .val (.ref ha), .val (.int ec), .val (.ref sa), .val (.int (2 : Int32)), .val (.ref b128), .val (.int (6 : Int32)), .val (.int v341)]) rfl (XS.goto X528.here hx rfl (pc0 := 443) (pc' := 419) rfl (hb hby d1_443) (by decide) (by decide) (XS.iload X528.here hx rfl (hb hby d1_419) rfl (XS.iloadN X528.here hx rfl (hb hby d1_421) rfl k)))) ?_
      show Comes p e below _ (T528.setTop (mkF m 422 #[.val (.ref self), .val (.int (8 : Int32)), .val (.ref ta), .val (.ref ha), .val (.int ec), .val (.ref sa), .val (.int (2 : Int32)), .val (.ref b128), .val (.int (6 : Int32)), .val (.int v341)] [(.int (8 : Int32)), (.int (6 : Int32))]))
      have hc422_529 : (6 : Int32) < (8 : Int32) := by decide
      refine Comes.st (fun t k => XS.icmpNo X528.here hx rfl (hb hby d1_422) rfl (tlt hc422_529).2.1 (XS.aloadN X528.here hx rfl (hb hby d1_425) rfl rfl k)) ?_
      show Comes p e below _ (T528.setTop (mkF m 426 #[.val (.ref self), .val (.int (8 : Int32)), .val (.ref ta), .val (.ref ha), .val (.int ec), .val (.ref sa), .val (.int (2 : Int32)), .val (.ref b128), .val (.int (6 : Int32)), .val (.int v341)] [(.ref self)]))
      have F530 : Fld Z h528 self "com/example/ordr/ordr/layout/LayerNetwork" "excesses" "[J" (.ref b467) := (F521.other W528 (Or.inl (Ne.symm ne478)))
      obtain ⟨T531, X531, e531, st531⟩ := getF X528 hx hZ hown (host := "") (Or.inl (hw _ (List.mem_of_getElem? (i := 33) rfl))) Via.refl e528 F530 (g := (mkF m 426 #[.val (.ref self), .val (.int (8 : Int32)), .val (.ref ta), .val (.ref ha), .val (.int ec), .val (.ref sa), .val (.int (2 : Int32)), .val (.ref b128), .val (.int (6 : Int32)), .val (.int v341)] [(.ref self)])) rfl rfl (hb hby d1_426)
      refine Comes.st st531 ?_
      show Comes p e below _ (T531.setTop (mkF m 429 #[.val (.ref self), .val (.int (8 : Int32)), .val (.ref ta), .val (.ref ha), .val (.int ec), .val (.ref sa), .val (.int (2 : Int32)), .val (.ref b128), .val (.int (6 : Int32)), .val (.int v341)] [(.ref b467)]))
      refine Comes.st (fun t k => XS.iload X531.here hx rfl (hb hby d1_429) rfl (XS.aloadN X531.here hx rfl (hb hby d1_431) rfl rfl k)) ?_
      show Comes p e below _ (T531.setTop (mkF m 432 #[.val (.ref self), .val (.int (8 : Int32)), .val (.ref ta), .val (.ref ha), .val (.int ec), .val (.ref sa), .val (.int (2 : Int32)), .val (.ref b128), .val (.int (6 : Int32)), .val (.int v341)] [(.ref self), (.int (6 : Int32)), (.ref b467)]))
      have F532 : Fld Z h528 self "com/example/ordr/ordr/layout/LayerNetwork" "supplies" "[I" (.ref b421) := (F523.other W528 (Or.inl (Ne.symm ne478)))
      obtain ⟨T533, X533, e533, st533⟩ := getF X531 hx hZ hown (host := "") (Or.inl (hw _ (List.mem_of_getElem? (i := 29) rfl))) Via.refl e531 F532 (g := (mkF m 432 #[.val (.ref self), .val (.int (8 : Int32)), .val (.ref ta), .val (.ref ha), .val (.int ec), .val (.ref sa), .val (.int (2 : Int32)), .val (.ref b128), .val (.int (6 : Int32)), .val (.int v341)] [(.ref self), (.int (6 : Int32)), (.ref b467)])) rfl rfl (hb hby d1_432)
      refine Comes.st st533 ?_
      show Comes p e below _ (T533.setTop (mkF m 435 #[.val (.ref self), .val (.int (8 : Int32)), .val (.ref ta), .val (.ref ha), .val (.int ec), .val (.ref sa), .val (.int (2 : Int32)), .val (.ref b128), .val (.int (6 : Int32)), .val (.int v341)] [(.ref b421), (.int (6 : Int32)), (.ref b467)]))
      refine Comes.st (fun t k => XS.iload X533.here hx rfl (hb hby d1_435) rfl k) ?_
      show Comes p e below _ (T533.setTop (mkF m 437 #[.val (.ref self), .val (.int (8 : Int32)), .val (.ref ta), .val (.ref ha), .val (.int ec), .val (.ref sa), .val (.int (2 : Int32)), .val (.ref b128), .val (.int (6 : Int32)), .val (.int v341)] [(.int (6 : Int32)), (.ref b421), (.int (6 : Int32)), (.ref b467)]))
      have F534 : Ari Z h528 b421 8 f461 := (F525.other W528 ne488)
      obtain ⟨cl535, Ar535, S535, H535⟩ := id F534
      have hin535 : ¬ ((6 : Int32) < 0 ∨ cl535.slots.size ≤ ((6 : Int32)).toNatClampNeg) := by rw [S535]; decide
      refine Comes.st (fun t k => X533.iaload hx (j := (6 : Int32)) (v := (.int (f461 6))) (by rw [e533]; exact Ar535.1) (State.isArrayOf_alike hZ.alike Ar535.2.1) Ar535.2.2 hin535 (H535 _ (Nat.lt_of_not_le fun y => hin535 (Or.inr (S535 ▸ y)))) (g := (mkF m 437 #[.val (.ref self), .val (.int (8 : Int32)), .val (.ref ta), .val (.ref ha), .val (.int ec), .val (.ref sa), .val (.int (2 : Int32)), .val (.ref b128), .val (.int (6 : Int32)), .val (.int v341)] [(.int (6 : Int32)), (.ref b421), (.int (6 : Int32)), (.ref b467)])) rfl rfl (hb hby d1_437) _ (XS.i2l X533.here hx rfl (hb hby d1_438) rfl k)) ?_
      show Comes p e below _ (T533.setTop (mkF m 439 #[.val (.ref self), .val (.int (8 : Int32)), .val (.ref ta), .val (.ref ha), .val (.int ec), .val (.ref sa), .val (.int (2 : Int32)), .val (.ref b128), .val (.int (6 : Int32)), .val (.int v341)] [(.long ((f461 6).toInt64)), (.int (6 : Int32)), (.ref b467)]))
      generalize hv_v536 : ((f461 6).toInt64) = v536
      show Comes p e below _ (T533.setTop (mkF m 439 #[.val (.ref self), .val (.int (8 : Int32)), .val (.ref ta), .val (.ref ha), .val (.int ec), .val (.ref sa), .val (.int (2 : Int32)), .val (.ref b128), .val (.int (6 : Int32)), .val (.int v341)] [(.long v536), (.int (6 : Int32)), (.ref b467)]))
      obtain ⟨cl537, Ar537, q537, S537, Ng537, H537, Gf537⟩ := id V528
      have hin537 : ¬ ((6 : Int32) < 0 ∨ cl537.slots.size ≤ ((6 : Int32)).toNatClampNeg) := inb_of S537 ⟨by decide, by decide⟩
      obtain ⟨T537, h537, X537, e537, W537, st537⟩ := stJ X533 hx hZ e533 Ar537 (j := (6 : Int32)) hin537 (g := (mkF m 439 #[.val (.ref self), .val (.int (8 : Int32)), .val (.ref ta), .val (.ref ha), .val (.int ec), .val (.ref sa), .val (.int (2 : Int32)), .val (.ref b128), .val (.int (6 : Int32)), .val (.int v341)] [(.long v536), (.int (6 : Int32)), (.ref b467)])) rfl rfl (hb hby d1_439)
      have V537 : Arv Z h537 b467 k467 .long (8 : Int32) [(.long v477), (.long v491), (.long v500), (.long v509), (.long v518), (.long v527), (.long v536), (.long (0 : Int64))] (.long (0 : Int64)) := Arv.set Ar537 q537 S537 Ng537 H537 Gf537 rfl W537 6 rfl (Nat.le_of_ble_eq_true rfl)
      have z537 : h537.size = h528.size := W537.size
      have N537 := Fr.snoc X537 N528 gn481
      have K537 : Keep h0 h537 [self] := K528.wr W537 (Or.inr gz482)
      refine Comes.st st537 ?_
      show Comes p e below _ (T537.setTop (mkF m 440 #[.val (.ref self), .val (.int (8 : Int32)), .val (.ref ta), .val (.ref ha), .val (.int ec), .val (.ref sa), .val (.int (2 : Int32)), .val (.ref b128), .val (.int (6 : Int32)), .val (.int v341)] []))
      refine Comes.st (fun t k => XS.iinc X537.here hx rfl (hb hby d1_440) rfl (l' := #[.val (.ref self), .val (.int (8 : Int32)), .val (.ref ta), .val (.ref ha), .val (.int ec), .val (.ref sa), .val (.int (2 : Int32)), .val (.ref b128), .val (.int (7 : Int32)), .val (.int v341)]) rfl (XS.goto X537.here hx rfl (pc0 := 443) (pc' := 419) rfl (hb hby d1_443) (by decide) (by decide) (XS.iload X537.here hx rfl (hb hby d1_419) rfl (XS.iloadN X537.here hx rfl (hb hby d1_421) rfl k)))) ?_
      show Comes p e below _ (T537.setTop (mkF m 422 #[.val (.ref self), .val (.int (8 : Int32)), .val (.ref ta), .val (.ref ha), .val (.int ec), .val (.ref sa), .val (.int (2 : Int32)), .val (.ref b128), .val (.int (7 : Int32)), .val (.int v341)] [(.int (8 : Int32)), (.int (7 : Int32))]))
      have hc422_538 : (7 : Int32) < (8 : Int32) := by decide
      refine Comes.st (fun t k => XS.icmpNo X537.here hx rfl (hb hby d1_422) rfl (tlt hc422_538).2.1 (XS.aloadN X537.here hx rfl (hb hby d1_425) rfl rfl k)) ?_
      show Comes p e below _ (T537.setTop (mkF m 426 #[.val (.ref self), .val (.int (8 : Int32)), .val (.ref ta), .val (.ref ha), .val (.int ec), .val (.ref sa), .val (.int (2 : Int32)), .val (.ref b128), .val (.int (7 : Int32)), .val (.int v341)] [(.ref self)]))
      have F539 : Fld Z h537 self "com/example/ordr/ordr/layout/LayerNetwork" "excesses" "[J" (.ref b467) := (F530.other W537 (Or.inl (Ne.symm ne478)))
      obtain ⟨T540, X540, e540, st540⟩ := getF X537 hx hZ hown (host := "") (Or.inl (hw _ (List.mem_of_getElem? (i := 33) rfl))) Via.refl e537 F539 (g := (mkF m 426 #[.val (.ref self), .val (.int (8 : Int32)), .val (.ref ta), .val (.ref ha), .val (.int ec), .val (.ref sa), .val (.int (2 : Int32)), .val (.ref b128), .val (.int (7 : Int32)), .val (.int v341)] [(.ref self)])) rfl rfl (hb hby d1_426)
      refine Comes.st st540 ?_
      show Comes p e below _ (T540.setTop (mkF m 429 #[.val (.ref self), .val (.int (8 : Int32)), .val (.ref ta), .val (.ref ha), .val (.int ec), .val (.ref sa), .val (.int (2 : Int32)), .val (.ref b128), .val (.int (7 : Int32)), .val (.int v341)] [(.ref b467)]))
      refine Comes.st (fun t k => XS.iload X540.here hx rfl (hb hby d1_429) rfl (XS.aloadN X540.here hx rfl (hb hby d1_431) rfl rfl k)) ?_
      show Comes p e below _ (T540.setTop (mkF m 432 #[.val (.ref self), .val (.int (8 : Int32)), .val (.ref ta), .val (.ref ha), .val (.int ec), .val (.ref sa), .val (.int (2 : Int32)), .val (.ref b128), .val (.int (7 : Int32)), .val (.int v341)] [(.ref self), (.int (7 : Int32)), (.ref b467)]))
      have F541 : Fld Z h537 self "com/example/ordr/ordr/layout/LayerNetwork" "supplies" "[I" (.ref b421) := (F532.other W537 (Or.inl (Ne.symm ne478)))
      obtain ⟨T542, X542, e542, st542⟩ := getF X540 hx hZ hown (host := "") (Or.inl (hw _ (List.mem_of_getElem? (i := 29) rfl))) Via.refl e540 F541 (g := (mkF m 432 #[.val (.ref self), .val (.int (8 : Int32)), .val (.ref ta), .val (.ref ha), .val (.int ec), .val (.ref sa), .val (.int (2 : Int32)), .val (.ref b128), .val (.int (7 : Int32)), .val (.int v341)] [(.ref self), (.int (7 : Int32)), (.ref b467)])) rfl rfl (hb hby d1_432)
      refine Comes.st st542 ?_
      show Comes p e below _ (T542.setTop (mkF m 435 #[.val (.ref self), .val (.int (8 : Int32)), .val (.ref ta), .val (.ref ha), .val (.int ec), .val (.ref sa), .val (.int (2 : Int32)), .val (.ref b128), .val (.int (7 : Int32)), .val (.int v341)] [(.ref b421), (.int (7 : Int32)), (.ref b467)]))
      refine Comes.st (fun t k => XS.iload X542.here hx rfl (hb hby d1_435) rfl k) ?_
      show Comes p e below _ (T542.setTop (mkF m 437 #[.val (.ref self), .val (.int (8 : Int32)), .val (.ref ta), .val (.ref ha), .val (.int ec), .val (.ref sa), .val (.int (2 : Int32)), .val (.ref b128), .val (.int (7 : Int32)), .val (.int v341)] [(.int (7 : Int32)), (.ref b421), (.int (7 : Int32)), (.ref b467)]))
      have F543 : Ari Z h537 b421 8 f461 := (F534.other W537 ne488)
      obtain ⟨cl544, Ar544, S544, H544⟩ := id F543
      have hin544 : ¬ ((7 : Int32) < 0 ∨ cl544.slots.size ≤ ((7 : Int32)).toNatClampNeg) := by rw [S544]; decide
      refine Comes.st (fun t k => X542.iaload hx (j := (7 : Int32)) (v := (.int (f461 7))) (by rw [e542]; exact Ar544.1) (State.isArrayOf_alike hZ.alike Ar544.2.1) Ar544.2.2 hin544 (H544 _ (Nat.lt_of_not_le fun y => hin544 (Or.inr (S544 ▸ y)))) (g := (mkF m 437 #[.val (.ref self), .val (.int (8 : Int32)), .val (.ref ta), .val (.ref ha), .val (.int ec), .val (.ref sa), .val (.int (2 : Int32)), .val (.ref b128), .val (.int (7 : Int32)), .val (.int v341)] [(.int (7 : Int32)), (.ref b421), (.int (7 : Int32)), (.ref b467)])) rfl rfl (hb hby d1_437) _ (XS.i2l X542.here hx rfl (hb hby d1_438) rfl k)) ?_
      show Comes p e below _ (T542.setTop (mkF m 439 #[.val (.ref self), .val (.int (8 : Int32)), .val (.ref ta), .val (.ref ha), .val (.int ec), .val (.ref sa), .val (.int (2 : Int32)), .val (.ref b128), .val (.int (7 : Int32)), .val (.int v341)] [(.long ((f461 7).toInt64)), (.int (7 : Int32)), (.ref b467)]))
      generalize hv_v545 : ((f461 7).toInt64) = v545
      show Comes p e below _ (T542.setTop (mkF m 439 #[.val (.ref self), .val (.int (8 : Int32)), .val (.ref ta), .val (.ref ha), .val (.int ec), .val (.ref sa), .val (.int (2 : Int32)), .val (.ref b128), .val (.int (7 : Int32)), .val (.int v341)] [(.long v545), (.int (7 : Int32)), (.ref b467)]))
      obtain ⟨cl546, Ar546, q546, S546, Ng546, H546, Gf546⟩ := id V537
      have hin546 : ¬ ((7 : Int32) < 0 ∨ cl546.slots.size ≤ ((7 : Int32)).toNatClampNeg) := inb_of S546 ⟨by decide, by decide⟩
      obtain ⟨T546, h546, X546, e546, W546, st546⟩ := stJ X542 hx hZ e542 Ar546 (j := (7 : Int32)) hin546 (g := (mkF m 439 #[.val (.ref self), .val (.int (8 : Int32)), .val (.ref ta), .val (.ref ha), .val (.int ec), .val (.ref sa), .val (.int (2 : Int32)), .val (.ref b128), .val (.int (7 : Int32)), .val (.int v341)] [(.long v545), (.int (7 : Int32)), (.ref b467)])) rfl rfl (hb hby d1_439)
      have V546 : Arv Z h546 b467 k467 .long (8 : Int32) [(.long v477), (.long v491), (.long v500), (.long v509), (.long v518), (.long v527), (.long v536), (.long v545)] (.long (0 : Int64)) := Arv.set Ar546 q546 S546 Ng546 H546 Gf546 rfl W546 7 rfl (Nat.le_of_ble_eq_true rfl)
      have z546 : h546.size = h537.size := W546.size
      have N546 := Fr.snoc X546 N537 gn481
      have K546 : Keep h0 h546 [self] := K537.wr W546 (Or.inr gz482)
      refine Comes.st st546 ?_
      show Comes p e below _ (T546.setTop (mkF m 440 #[.val (.ref self), .val (.int (8 : Int32)), .val (.ref ta), .val (.ref ha), .val (.int ec), .val (.ref sa), .val (.int (2 : Int32)), .val (.ref b128), .val (.int (7 : Int32)), .val (.int v341)] []))
      refine Comes.st (fun t k => XS.iinc X546.here hx rfl (hb hby d1_440) rfl (l' := #[.val (.ref self), .val (.int (8 : Int32)), .val (.ref ta), .val (.ref ha), .val (.int ec), .val (.ref sa), .val (.int (2 : Int32)), .val (.ref b128), .val (.int (8 : Int32)), .val (.int v341)]) rfl (XS.goto X546.here hx rfl (pc0 := 443) (pc' := 419) rfl (hb hby d1_443) (by decide) (by decide) (XS.iload X546.here hx rfl (hb hby d1_419) rfl (XS.iloadN X546.here hx rfl (hb hby d1_421) rfl k)))) ?_
      show Comes p e below _ (T546.setTop (mkF m 422 #[.val (.ref self), .val (.int (8 : Int32)), .val (.ref ta), .val (.ref ha), .val (.int ec), .val (.ref sa), .val (.int (2 : Int32)), .val (.ref b128), .val (.int (8 : Int32)), .val (.int v341)] [(.int (8 : Int32)), (.int (8 : Int32))]))
      have hc422_547 : ¬ ((8 : Int32) < (8 : Int32)) := by decide
      refine Comes.st (fun t k => XS.icmpYes X546.here hx rfl (pc0 := 422) (pc' := 446) rfl (hb hby d1_422) rfl (flt hc422_547).2.1 (by decide) (by decide) k) ?_
      show Comes p e below _ (T546.setTop (mkF m 446 #[.val (.ref self), .val (.int (8 : Int32)), .val (.ref ta), .val (.ref ha), .val (.int ec), .val (.ref sa), .val (.int (2 : Int32)), .val (.ref b128), .val (.int (8 : Int32)), .val (.int v341)] []))
      have F548 : Exa Z h546 self "com/example/ordr/ordr/layout/LayerNetwork" := (((((((((F468.wr W470).wr W480).wr W492).wr W501).wr W510).wr W519).wr W528).wr W537).wr W546)
      have F549 : Fld Z h546 self "com/example/ordr/ordr/layout/LayerNetwork" "tails" "[I" (.ref ta) := ((((((((((((((((((((((((((((((((((((((((((((((((((((((((((((((((((((((Fw9.other W12 (Or.inr (slot_ne (Or.inr (hw _ (List.mem_of_getElem? (i := 15) rfl))) (Or.inr (hw _ (List.mem_of_getElem? (i := 17) rfl))) (by decide) (t := (.array .int)) (t' := (.array .int)) (by decide) (by decide)))).ext E15).other W18 (Or.inr (slot_ne (Or.inr (hw _ (List.mem_of_getElem? (i := 15) rfl))) (Or.inr (hw _ (List.mem_of_getElem? (i := 19) rfl))) (by decide) (t := (.array .int)) (t' := (.array .int)) (by decide) (by decide)))).other W27 (Or.inl (Ne.symm ne23))).other W37 (Or.inl (Ne.symm ne23))).other W46 (Or.inl (Ne.symm ne23))).other W53 (Or.inl (Ne.symm ne23))).other W62 (Or.inl (Ne.symm ne23))).other W70 (Or.inl (Ne.symm ne23))).other W78 (Or.inl (Ne.symm ne23))).other W86 (Or.inl (Ne.symm ne23))).other W94 (Or.inl (Ne.symm ne23))).other W102 (Or.inl (Ne.symm ne23))).other W110 (Or.inl (Ne.symm ne23))).other W118 (Or.inl (Ne.symm ne23))).ext E120).other W123 (Or.inr (slot_ne (Or.inr (hw _ (List.mem_of_getElem? (i := 15) rfl))) (Or.inr (hw _ (List.mem_of_getElem? (i := 21) rfl))) (by decide) (t := (.array .int)) (t' := (.array .int)) (by decide) (by decide)))).ext E124).other W127 (Or.inr (slot_ne (Or.inr (hw _ (List.mem_of_getElem? (i := 15) rfl))) (Or.inr (hw _ (List.mem_of_getElem? (i := 23) rfl))) (by decide) (t := (.array .int)) (t' := (.array .int)) (by decide) (by decide)))).ext E128).other W143 (Or.inl (Ne.symm ne141))).other W154 (Or.inl (Ne.symm ne151))).other W166 (Or.inl ne170)).other W187 (Or.inl (Ne.symm ne141))).other W195 (Or.inl (Ne.symm ne151))).other W201 (Or.inl ne170)).ext E203).other W206 (Or.inr (slot_ne (Or.inr (hw _ (List.mem_of_getElem? (i := 15) rfl))) (Or.inr (hw _ (List.mem_of_getElem? (i := 25) rfl))) (by decide) (t := (.array .int)) (t' := (.array .int)) (by decide) (by decide)))).other W218 (Or.inl (Ne.symm ne216))).other W233 (Or.inl (Ne.symm ne216))).other W244 (Or.inl (Ne.symm ne216))).other W255 (Or.inl (Ne.symm ne216))).other W266 (Or.inl (Ne.symm ne216))).other W277 (Or.inl (Ne.symm ne216))).other W288 (Or.inl (Ne.symm ne216))).other W299 (Or.inl (Ne.symm ne216))).other W317 (Or.inl (Ne.symm ne141))).other W325 (Or.inl (Ne.symm ne151))).other W331 (Or.inl ne170)).other W345 (Or.inl (Ne.symm ne141))).other W351 (Or.inl (Ne.symm ne151))).other W357 (Or.inl ne170)).ext E359).other W362 (Or.inr (slot_ne (Or.inr (hw _ (List.mem_of_getElem? (i := 15) rfl))) (Or.inr (hw _ (List.mem_of_getElem? (i := 28) rfl))) (by decide) (t := (.array .int)) (t' := (.array .long)) (by decide) (by decide)))).other W374 (Or.inl (Ne.symm ne372))).other W383 (Or.inl (Ne.symm ne372))).other W389 (Or.inl (Ne.symm ne372))).other W395 (Or.inl (Ne.symm ne372))).other W401 (Or.inl (Ne.symm ne372))).other W407 (Or.inl (Ne.symm ne372))).other W413 (Or.inl (Ne.symm ne372))).other W419 (Or.inl (Ne.symm ne372))).ext E421).other W424 (Or.inr (slot_ne (Or.inr (hw _ (List.mem_of_getElem? (i := 15) rfl))) (Or.inr (hw _ (List.mem_of_getElem? (i := 30) rfl))) (by decide) (t := (.array .int)) (t' := (.array .int)) (by decide) (by decide)))).other W434 (Or.inl (Ne.symm ne430))).other W445 (Or.inl (Ne.symm ne430))).other W454 (Or.inl (Ne.symm ne430))).other W461 (Or.inl (Ne.symm ne430))).ext E463).other W466 (Or.inr (slot_ne (Or.inr (hw _ (List.mem_of_getElem? (i := 15) rfl))) (Or.inr (hw _ (List.mem_of_getElem? (i := 32) rfl))) (by decide) (t := (.array .int)) (t' := (.array .long)) (by decide) (by decide)))).ext E467).other W470 (Or.inr (slot_ne (Or.inr (hw _ (List.mem_of_getElem? (i := 15) rfl))) (Or.inr (hw _ (List.mem_of_getElem? (i := 34) rfl))) (by decide) (t := (.array .int)) (t' := (.array .long)) (by decide) (by decide)))).other W480 (Or.inl (Ne.symm ne478))).other W492 (Or.inl (Ne.symm ne478))).other W501 (Or.inl (Ne.symm ne478))).other W510 (Or.inl (Ne.symm ne478))).other W519 (Or.inl (Ne.symm ne478))).other W528 (Or.inl (Ne.symm ne478))).other W537 (Or.inl (Ne.symm ne478))).other W546 (Or.inl (Ne.symm ne478)))
      have F550 : Fld Z h546 self "com/example/ordr/ordr/layout/LayerNetwork" "heads" "[I" (.ref ha) := (((((((((((((((((((((((((((((((((((((((((((((((((((((((((((((((((((((Fw12.ext E15).other W18 (Or.inr (slot_ne (Or.inr (hw _ (List.mem_of_getElem? (i := 17) rfl))) (Or.inr (hw _ (List.mem_of_getElem? (i := 19) rfl))) (by decide) (t := (.array .int)) (t' := (.array .int)) (by decide) (by decide)))).other W27 (Or.inl (Ne.symm ne23))).other W37 (Or.inl (Ne.symm ne23))).other W46 (Or.inl (Ne.symm ne23))).other W53 (Or.inl (Ne.symm ne23))).other W62 (Or.inl (Ne.symm ne23))).other W70 (Or.inl (Ne.symm ne23))).other W78 (Or.inl (Ne.symm ne23))).other W86 (Or.inl (Ne.symm ne23))).other W94 (Or.inl (Ne.symm ne23))).other W102 (Or.inl (Ne.symm ne23))).other W110 (Or.inl (Ne.symm ne23))).other W118 (Or.inl (Ne.symm ne23))).ext E120).other W123 (Or.inr (slot_ne (Or.inr (hw _ (List.mem_of_getElem? (i := 17) rfl))) (Or.inr (hw _ (List.mem_of_getElem? (i := 21) rfl))) (by decide) (t := (.array .int)) (t' := (.array .int)) (by decide) (by decide)))).ext E124).other W127 (Or.inr (slot_ne (Or.inr (hw _ (List.mem_of_getElem? (i := 17) rfl))) (Or.inr (hw _ (List.mem_of_getElem? (i := 23) rfl))) (by decide) (t := (.array .int)) (t' := (.array .int)) (by decide) (by decide)))).ext E128).other W143 (Or.inl (Ne.symm ne141))).other W154 (Or.inl (Ne.symm ne151))).other W166 (Or.inl ne170)).other W187 (Or.inl (Ne.symm ne141))).other W195 (Or.inl (Ne.symm ne151))).other W201 (Or.inl ne170)).ext E203).other W206 (Or.inr (slot_ne (Or.inr (hw _ (List.mem_of_getElem? (i := 17) rfl))) (Or.inr (hw _ (List.mem_of_getElem? (i := 25) rfl))) (by decide) (t := (.array .int)) (t' := (.array .int)) (by decide) (by decide)))).other W218 (Or.inl (Ne.symm ne216))).other W233 (Or.inl (Ne.symm ne216))).other W244 (Or.inl (Ne.symm ne216))).other W255 (Or.inl (Ne.symm ne216))).other W266 (Or.inl (Ne.symm ne216))).other W277 (Or.inl (Ne.symm ne216))).other W288 (Or.inl (Ne.symm ne216))).other W299 (Or.inl (Ne.symm ne216))).other W317 (Or.inl (Ne.symm ne141))).other W325 (Or.inl (Ne.symm ne151))).other W331 (Or.inl ne170)).other W345 (Or.inl (Ne.symm ne141))).other W351 (Or.inl (Ne.symm ne151))).other W357 (Or.inl ne170)).ext E359).other W362 (Or.inr (slot_ne (Or.inr (hw _ (List.mem_of_getElem? (i := 17) rfl))) (Or.inr (hw _ (List.mem_of_getElem? (i := 28) rfl))) (by decide) (t := (.array .int)) (t' := (.array .long)) (by decide) (by decide)))).other W374 (Or.inl (Ne.symm ne372))).other W383 (Or.inl (Ne.symm ne372))).other W389 (Or.inl (Ne.symm ne372))).other W395 (Or.inl (Ne.symm ne372))).other W401 (Or.inl (Ne.symm ne372))).other W407 (Or.inl (Ne.symm ne372))).other W413 (Or.inl (Ne.symm ne372))).other W419 (Or.inl (Ne.symm ne372))).ext E421).other W424 (Or.inr (slot_ne (Or.inr (hw _ (List.mem_of_getElem? (i := 17) rfl))) (Or.inr (hw _ (List.mem_of_getElem? (i := 30) rfl))) (by decide) (t := (.array .int)) (t' := (.array .int)) (by decide) (by decide)))).other W434 (Or.inl (Ne.symm ne430))).other W445 (Or.inl (Ne.symm ne430))).other W454 (Or.inl (Ne.symm ne430))).other W461 (Or.inl (Ne.symm ne430))).ext E463).other W466 (Or.inr (slot_ne (Or.inr (hw _ (List.mem_of_getElem? (i := 17) rfl))) (Or.inr (hw _ (List.mem_of_getElem? (i := 32) rfl))) (by decide) (t := (.array .int)) (t' := (.array .long)) (by decide) (by decide)))).ext E467).other W470 (Or.inr (slot_ne (Or.inr (hw _ (List.mem_of_getElem? (i := 17) rfl))) (Or.inr (hw _ (List.mem_of_getElem? (i := 34) rfl))) (by decide) (t := (.array .int)) (t' := (.array .long)) (by decide) (by decide)))).other W480 (Or.inl (Ne.symm ne478))).other W492 (Or.inl (Ne.symm ne478))).other W501 (Or.inl (Ne.symm ne478))).other W510 (Or.inl (Ne.symm ne478))).other W519 (Or.inl (Ne.symm ne478))).other W528 (Or.inl (Ne.symm ne478))).other W537 (Or.inl (Ne.symm ne478))).other W546 (Or.inl (Ne.symm ne478)))
      exact Comes.ret0 X546 hx Bd.returns hlk (hb hby d1_446) e546 ⟨rfl, N546, K546, F548, F549, F550⟩ (by decide) (by decide)
    · refine Comes.st (fun t k => XS.icmpYes X445.here hx rfl (pc0 := 366) (pc' := 401) rfl (hb hby d1_366) rfl (flt hc366_446).2.1 (by decide) (by decide) (XS.aloadN X445.here hx rfl (hb hby d1_401) rfl rfl (XS.iload X445.here hx rfl (hb hby d1_402) rfl k))) ?_
      show Comes p e below _ (T445.setTop (mkF m 404 #[.val (.ref self), .val (.int (8 : Int32)), .val (.ref ta), .val (.ref ha), .val (.int ec), .val (.ref sa), .val (.int (2 : Int32)), .val (.ref b128), .val (.int (1 : Int32)), .val (.int v341)] [(.int (2 : Int32)), (.ref self)]))
      obtain ⟨T551, h551, k551, X551, e551, E551, A551, st551⟩ := newP X445 hx hZ (hw _ (List.mem_of_getElem? (i := 26) rfl)) e445 (g := (mkF m 404 #[.val (.ref self), .val (.int (8 : Int32)), .val (.ref ta), .val (.ref ha), .val (.int ec), .val (.ref sa), .val (.int (2 : Int32)), .val (.ref b128), .val (.int (1 : Int32)), .val (.int v341)] [(.int (2 : Int32)), (.ref self)])) rfl (hb hby d1_404) rfl (by decide) (cap := 2) (by decide) (by decide) (by decide) (by decide)
      obtain ⟨b551, g551⟩ : ∃ z, z = h445.size := ⟨_, rfl⟩
      rw [← g551] at A551 st551
      have z551 : h445.size ≤ h551.size := E551.1
      have lt551 : b551 < h551.size := A551.lt
      have V551 : Arv Z h551 b551 k551 .long (2 : Int32) [(.long (0 : Int64)), (.long (0 : Int64))] (.long (0 : Int64)) := (Arv.new A551 (by decide)).pad (pad_rep [] (.long (0 : Int64)) 2)
      have K551 : Keep h0 h551 [self] := K445.ext E551
      refine Comes.st st551 ?_
      show Comes p e below _ (T551.setTop (mkF m 406 #[.val (.ref self), .val (.int (8 : Int32)), .val (.ref ta), .val (.ref ha), .val (.int ec), .val (.ref sa), .val (.int (2 : Int32)), .val (.ref b128), .val (.int (1 : Int32)), .val (.int v341)] [(.ref b551), (.ref self)]))
      have F552 : Exa Z h551 self "com/example/ordr/ordr/layout/LayerNetwork" := ((((F422.wr W424).wr W434).wr W445).ext E551)
      have F553 : Fld Z h551 self "com/example/ordr/ordr/layout/LayerNetwork" "flows" "[J" .null := ((((((((((((((((((((((((((((((((((((((((((((((((((((((((((((G11.other W2 (Or.inr (slot_ne (Or.inr (hw _ (List.mem_of_getElem? (i := 32) rfl))) (Or.inr (hw _ (List.mem_of_getElem? (i := 11) rfl))) (by decide) (t := (.array .long)) (t' := .int) (by decide) (by decide)))).other W6 (Or.inr (slot_ne (Or.inr (hw _ (List.mem_of_getElem? (i := 32) rfl))) (Or.inr (hw _ (List.mem_of_getElem? (i := 13) rfl))) (by decide) (t := (.array .long)) (t' := .int) (by decide) (by decide)))).other W9 (Or.inr (slot_ne (Or.inr (hw _ (List.mem_of_getElem? (i := 32) rfl))) (Or.inr (hw _ (List.mem_of_getElem? (i := 15) rfl))) (by decide) (t := (.array .long)) (t' := (.array .int)) (by decide) (by decide)))).other W12 (Or.inr (slot_ne (Or.inr (hw _ (List.mem_of_getElem? (i := 32) rfl))) (Or.inr (hw _ (List.mem_of_getElem? (i := 17) rfl))) (by decide) (t := (.array .long)) (t' := (.array .int)) (by decide) (by decide)))).ext E15).other W18 (Or.inr (slot_ne (Or.inr (hw _ (List.mem_of_getElem? (i := 32) rfl))) (Or.inr (hw _ (List.mem_of_getElem? (i := 19) rfl))) (by decide) (t := (.array .long)) (t' := (.array .int)) (by decide) (by decide)))).other W27 (Or.inl (Ne.symm ne23))).other W37 (Or.inl (Ne.symm ne23))).other W46 (Or.inl (Ne.symm ne23))).other W53 (Or.inl (Ne.symm ne23))).other W62 (Or.inl (Ne.symm ne23))).other W70 (Or.inl (Ne.symm ne23))).other W78 (Or.inl (Ne.symm ne23))).other W86 (Or.inl (Ne.symm ne23))).other W94 (Or.inl (Ne.symm ne23))).other W102 (Or.inl (Ne.symm ne23))).other W110 (Or.inl (Ne.symm ne23))).other W118 (Or.inl (Ne.symm ne23))).ext E120).other W123 (Or.inr (slot_ne (Or.inr (hw _ (List.mem_of_getElem? (i := 32) rfl))) (Or.inr (hw _ (List.mem_of_getElem? (i := 21) rfl))) (by decide) (t := (.array .long)) (t' := (.array .int)) (by decide) (by decide)))).ext E124).other W127 (Or.inr (slot_ne (Or.inr (hw _ (List.mem_of_getElem? (i := 32) rfl))) (Or.inr (hw _ (List.mem_of_getElem? (i := 23) rfl))) (by decide) (t := (.array .long)) (t' := (.array .int)) (by decide) (by decide)))).ext E128).other W143 (Or.inl (Ne.symm ne141))).other W154 (Or.inl (Ne.symm ne151))).other W166 (Or.inl ne170)).other W187 (Or.inl (Ne.symm ne141))).other W195 (Or.inl (Ne.symm ne151))).other W201 (Or.inl ne170)).ext E203).other W206 (Or.inr (slot_ne (Or.inr (hw _ (List.mem_of_getElem? (i := 32) rfl))) (Or.inr (hw _ (List.mem_of_getElem? (i := 25) rfl))) (by decide) (t := (.array .long)) (t' := (.array .int)) (by decide) (by decide)))).other W218 (Or.inl (Ne.symm ne216))).other W233 (Or.inl (Ne.symm ne216))).other W244 (Or.inl (Ne.symm ne216))).other W255 (Or.inl (Ne.symm ne216))).other W266 (Or.inl (Ne.symm ne216))).other W277 (Or.inl (Ne.symm ne216))).other W288 (Or.inl (Ne.symm ne216))).other W299 (Or.inl (Ne.symm ne216))).other W317 (Or.inl (Ne.symm ne141))).other W325 (Or.inl (Ne.symm ne151))).other W331 (Or.inl ne170)).other W345 (Or.inl (Ne.symm ne141))).other W351 (Or.inl (Ne.symm ne151))).other W357 (Or.inl ne170)).ext E359).other W362 (Or.inr (slot_ne (Or.inr (hw _ (List.mem_of_getElem? (i := 32) rfl))) (Or.inr (hw _ (List.mem_of_getElem? (i := 28) rfl))) (by decide) (t := (.array .long)) (t' := (.array .long)) (by decide) (by decide)))).other W374 (Or.inl (Ne.symm ne372))).other W383 (Or.inl (Ne.symm ne372))).other W389 (Or.inl (Ne.symm ne372))).other W395 (Or.inl (Ne.symm ne372))).other W401 (Or.inl (Ne.symm ne372))).other W407 (Or.inl (Ne.symm ne372))).other W413 (Or.inl (Ne.symm ne372))).other W419 (Or.inl (Ne.symm ne372))).ext E421).other W424 (Or.inr (slot_ne (Or.inr (hw _ (List.mem_of_getElem? (i := 32) rfl))) (Or.inr (hw _ (List.mem_of_getElem? (i := 30) rfl))) (by decide) (t := (.array .long)) (t' := (.array .int)) (by decide) (by decide)))).other W434 (Or.inl (Ne.symm ne430))).other W445 (Or.inl (Ne.symm ne430))).ext E551)
      obtain ⟨T554, h554, X554, e554, W554, st554⟩ := putF X551 hx hZ hown (host := "") (Or.inl (hw _ (List.mem_of_getElem? (i := 31) rfl))) Via.refl e551 F553 F552 (Or.inr ⟨(hw _ (List.mem_of_getElem? (i := 32) rfl)), rfl, hnm⟩) (hw _ (List.mem_of_getElem? (i := 2) rfl)) (ty := (.array .long)) (by decide) rfl rfl (g := (mkF m 406 #[.val (.ref self), .val (.int (8 : Int32)), .val (.ref ta), .val (.ref ha), .val (.int ec), .val (.ref sa), .val (.int (2 : Int32)), .val (.ref b128), .val (.int (1 : Int32)), .val (.int v341)] [(.ref b551), (.ref self)])) rfl rfl (hb hby d1_406)
      have Fw554 := F553.same W554
      have z554 : h554.size = h551.size := W554.size
      have N554 := Fr.snoc X554 N445 gn3
      have K554 : Keep h0 h554 [self] := K551.wr W554 (Or.inl (List.mem_of_getElem? (i := 0) rfl))
      refine Comes.st st554 ?_
      show Comes p e below _ (T554.setTop (mkF m 409 #[.val (.ref self), .val (.int (8 : Int32)), .val (.ref ta), .val (.ref ha), .val (.int ec), .val (.ref sa), .val (.int (2 : Int32)), .val (.ref b128), .val (.int (1 : Int32)), .val (.int v341)] []))
      refine Comes.st (fun t k => XS.aloadN X554.here hx rfl (hb hby d1_409) rfl rfl (XS.iloadN X554.here hx rfl (hb hby d1_410) rfl k)) ?_
      show Comes p e below _ (T554.setTop (mkF m 411 #[.val (.ref self), .val (.int (8 : Int32)), .val (.ref ta), .val (.ref ha), .val (.int ec), .val (.ref sa), .val (.int (2 : Int32)), .val (.ref b128), .val (.int (1 : Int32)), .val (.int v341)] [(.int (8 : Int32)), (.ref self)]))
      obtain ⟨T555, h555, k555, X555, e555, E555, A555, st555⟩ := newP X554 hx hZ (hw _ (List.mem_of_getElem? (i := 26) rfl)) e554 (g := (mkF m 411 #[.val (.ref self), .val (.int (8 : Int32)), .val (.ref ta), .val (.ref ha), .val (.int ec), .val (.ref sa), .val (.int (2 : Int32)), .val (.ref b128), .val (.int (1 : Int32)), .val (.int v341)] [(.int (8 : Int32)), (.ref self)])) rfl (hb hby d1_411) rfl (by decide) (cap := 8) (by decide) (by decide) (by decide) (by decide)
      obtain ⟨b555, g555⟩ : ∃ z, z = h554.size := ⟨_, rfl⟩
      rw [← g555] at A555 st555
      have z555 : h554.size ≤ h555.size := E555.1
      have lt555 : b555 < h555.size := A555.lt
      have V555 : Arv Z h555 b555 k555 .long (8 : Int32) [(.long (0 : Int64)), (.long (0 : Int64)), (.long (0 : Int64)), (.long (0 : Int64)), (.long (0 : Int64)), (.long (0 : Int64)), (.long (0 : Int64)), (.long (0 : Int64))] (.long (0 : Int64)) := (Arv.new A555 (by decide)).pad (pad_rep [] (.long (0 : Int64)) 8)
      have K555 : Keep h0 h555 [self] := K554.ext E555
      refine Comes.st st555 ?_
      show Comes p e below _ (T555.setTop (mkF m 413 #[.val (.ref self), .val (.int (8 : Int32)), .val (.ref ta), .val (.ref ha), .val (.int ec), .val (.ref sa), .val (.int (2 : Int32)), .val (.ref b128), .val (.int (1 : Int32)), .val (.int v341)] [(.ref b555), (.ref self)]))
      have F556 : Exa Z h555 self "com/example/ordr/ordr/layout/LayerNetwork" := ((F552.wr W554).ext E555)
      have F557 : Fld Z h555 self "com/example/ordr/ordr/layout/LayerNetwork" "excesses" "[J" .null := ((((((((((((((((((((((((((((((((((((((((((((((((((((((((((((((G12.other W2 (Or.inr (slot_ne (Or.inr (hw _ (List.mem_of_getElem? (i := 34) rfl))) (Or.inr (hw _ (List.mem_of_getElem? (i := 11) rfl))) (by decide) (t := (.array .long)) (t' := .int) (by decide) (by decide)))).other W6 (Or.inr (slot_ne (Or.inr (hw _ (List.mem_of_getElem? (i := 34) rfl))) (Or.inr (hw _ (List.mem_of_getElem? (i := 13) rfl))) (by decide) (t := (.array .long)) (t' := .int) (by decide) (by decide)))).other W9 (Or.inr (slot_ne (Or.inr (hw _ (List.mem_of_getElem? (i := 34) rfl))) (Or.inr (hw _ (List.mem_of_getElem? (i := 15) rfl))) (by decide) (t := (.array .long)) (t' := (.array .int)) (by decide) (by decide)))).other W12 (Or.inr (slot_ne (Or.inr (hw _ (List.mem_of_getElem? (i := 34) rfl))) (Or.inr (hw _ (List.mem_of_getElem? (i := 17) rfl))) (by decide) (t := (.array .long)) (t' := (.array .int)) (by decide) (by decide)))).ext E15).other W18 (Or.inr (slot_ne (Or.inr (hw _ (List.mem_of_getElem? (i := 34) rfl))) (Or.inr (hw _ (List.mem_of_getElem? (i := 19) rfl))) (by decide) (t := (.array .long)) (t' := (.array .int)) (by decide) (by decide)))).other W27 (Or.inl (Ne.symm ne23))).other W37 (Or.inl (Ne.symm ne23))).other W46 (Or.inl (Ne.symm ne23))).other W53 (Or.inl (Ne.symm ne23))).other W62 (Or.inl (Ne.symm ne23))).other W70 (Or.inl (Ne.symm ne23))).other W78 (Or.inl (Ne.symm ne23))).other W86 (Or.inl (Ne.symm ne23))).other W94 (Or.inl (Ne.symm ne23))).other W102 (Or.inl (Ne.symm ne23))).other W110 (Or.inl (Ne.symm ne23))).other W118 (Or.inl (Ne.symm ne23))).ext E120).other W123 (Or.inr (slot_ne (Or.inr (hw _ (List.mem_of_getElem? (i := 34) rfl))) (Or.inr (hw _ (List.mem_of_getElem? (i := 21) rfl))) (by decide) (t := (.array .long)) (t' := (.array .int)) (by decide) (by decide)))).ext E124).other W127 (Or.inr (slot_ne (Or.inr (hw _ (List.mem_of_getElem? (i := 34) rfl))) (Or.inr (hw _ (List.mem_of_getElem? (i := 23) rfl))) (by decide) (t := (.array .long)) (t' := (.array .int)) (by decide) (by decide)))).ext E128).other W143 (Or.inl (Ne.symm ne141))).other W154 (Or.inl (Ne.symm ne151))).other W166 (Or.inl ne170)).other W187 (Or.inl (Ne.symm ne141))).other W195 (Or.inl (Ne.symm ne151))).other W201 (Or.inl ne170)).ext E203).other W206 (Or.inr (slot_ne (Or.inr (hw _ (List.mem_of_getElem? (i := 34) rfl))) (Or.inr (hw _ (List.mem_of_getElem? (i := 25) rfl))) (by decide) (t := (.array .long)) (t' := (.array .int)) (by decide) (by decide)))).other W218 (Or.inl (Ne.symm ne216))).other W233 (Or.inl (Ne.symm ne216))).other W244 (Or.inl (Ne.symm ne216))).other W255 (Or.inl (Ne.symm ne216))).other W266 (Or.inl (Ne.symm ne216))).other W277 (Or.inl (Ne.symm ne216))).other W288 (Or.inl (Ne.symm ne216))).other W299 (Or.inl (Ne.symm ne216))).other W317 (Or.inl (Ne.symm ne141))).other W325 (Or.inl (Ne.symm ne151))).other W331 (Or.inl ne170)).other W345 (Or.inl (Ne.symm ne141))).other W351 (Or.inl (Ne.symm ne151))).other W357 (Or.inl ne170)).ext E359).other W362 (Or.inr (slot_ne (Or.inr (hw _ (List.mem_of_getElem? (i := 34) rfl))) (Or.inr (hw _ (List.mem_of_getElem? (i := 28) rfl))) (by decide) (t := (.array .long)) (t' := (.array .long)) (by decide) (by decide)))).other W374 (Or.inl (Ne.symm ne372))).other W383 (Or.inl (Ne.symm ne372))).other W389 (Or.inl (Ne.symm ne372))).other W395 (Or.inl (Ne.symm ne372))).other W401 (Or.inl (Ne.symm ne372))).other W407 (Or.inl (Ne.symm ne372))).other W413 (Or.inl (Ne.symm ne372))).other W419 (Or.inl (Ne.symm ne372))).ext E421).other W424 (Or.inr (slot_ne (Or.inr (hw _ (List.mem_of_getElem? (i := 34) rfl))) (Or.inr (hw _ (List.mem_of_getElem? (i := 30) rfl))) (by decide) (t := (.array .long)) (t' := (.array .int)) (by decide) (by decide)))).other W434 (Or.inl (Ne.symm ne430))).other W445 (Or.inl (Ne.symm ne430))).ext E551).other W554 (Or.inr (slot_ne (Or.inr (hw _ (List.mem_of_getElem? (i := 34) rfl))) (Or.inr (hw _ (List.mem_of_getElem? (i := 32) rfl))) (by decide) (t := (.array .long)) (t' := (.array .long)) (by decide) (by decide)))).ext E555)
      obtain ⟨T558, h558, X558, e558, W558, st558⟩ := putF X555 hx hZ hown (host := "") (Or.inl (hw _ (List.mem_of_getElem? (i := 33) rfl))) Via.refl e555 F557 F556 (Or.inr ⟨(hw _ (List.mem_of_getElem? (i := 34) rfl)), rfl, hnm⟩) (hw _ (List.mem_of_getElem? (i := 2) rfl)) (ty := (.array .long)) (by decide) rfl rfl (g := (mkF m 413 #[.val (.ref self), .val (.int (8 : Int32)), .val (.ref ta), .val (.ref ha), .val (.int ec), .val (.ref sa), .val (.int (2 : Int32)), .val (.ref b128), .val (.int (1 : Int32)), .val (.int v341)] [(.ref b555), (.ref self)])) rfl rfl (hb hby d1_413)
      have Fw558 := F557.same W558
      have z558 : h558.size = h555.size := W558.size
      have N558 := Fr.snoc X558 N554 gn3
      have K558 : Keep h0 h558 [self] := K555.wr W558 (Or.inl (List.mem_of_getElem? (i := 0) rfl))
      refine Comes.st st558 ?_
      show Comes p e below _ (T558.setTop (mkF m 416 #[.val (.ref self), .val (.int (8 : Int32)), .val (.ref ta), .val (.ref ha), .val (.int ec), .val (.ref sa), .val (.int (2 : Int32)), .val (.ref b128), .val (.int (1 : Int32)), .val (.int v341)] []))
      refine Comes.st (fun t k => XS.iconst X558.here hx rfl (hb hby d1_416) (XS.istore X558.here hx rfl (hb hby d1_417) rfl (l' := #[.val (.ref self), .val (.int (8 : Int32)), .val (.ref ta), .val (.ref ha), .val (.int ec), .val (.ref sa), .val (.int (2 : Int32)), .val (.ref b128), .val (.int (0 : Int32)), .val (.int v341)]) rfl (XS.iload X558.here hx rfl (hb hby d1_419) rfl (XS.iloadN X558.here hx rfl (hb hby d1_421) rfl k)))) ?_
      show Comes p e below _ (T558.setTop (mkF m 422 #[.val (.ref self), .val (.int (8 : Int32)), .val (.ref ta), .val (.ref ha), .val (.int ec), .val (.ref sa), .val (.int (2 : Int32)), .val (.ref b128), .val (.int (0 : Int32)), .val (.int v341)] [(.int (8 : Int32)), (.int (0 : Int32))]))
      have hc422_559 : (0 : Int32) < (8 : Int32) := by decide
      refine Comes.st (fun t k => XS.icmpNo X558.here hx rfl (hb hby d1_422) rfl (tlt hc422_559).2.1 (XS.aloadN X558.here hx rfl (hb hby d1_425) rfl rfl k)) ?_
      show Comes p e below _ (T558.setTop (mkF m 426 #[.val (.ref self), .val (.int (8 : Int32)), .val (.ref ta), .val (.ref ha), .val (.int ec), .val (.ref sa), .val (.int (2 : Int32)), .val (.ref b128), .val (.int (0 : Int32)), .val (.int v341)] [(.ref self)]))
      obtain ⟨T560, X560, e560, st560⟩ := getF X558 hx hZ hown (host := "") (Or.inl (hw _ (List.mem_of_getElem? (i := 33) rfl))) Via.refl e558 Fw558 (g := (mkF m 426 #[.val (.ref self), .val (.int (8 : Int32)), .val (.ref ta), .val (.ref ha), .val (.int ec), .val (.ref sa), .val (.int (2 : Int32)), .val (.ref b128), .val (.int (0 : Int32)), .val (.int v341)] [(.ref self)])) rfl rfl (hb hby d1_426)
      refine Comes.st st560 ?_
      show Comes p e below _ (T560.setTop (mkF m 429 #[.val (.ref self), .val (.int (8 : Int32)), .val (.ref ta), .val (.ref ha), .val (.int ec), .val (.ref sa), .val (.int (2 : Int32)), .val (.ref b128), .val (.int (0 : Int32)), .val (.int v341)] [(.ref b555)]))
      refine Comes.st (fun t k => XS.iload X560.here hx rfl (hb hby d1_429) rfl (XS.aloadN X560.here hx rfl (hb hby d1_431) rfl rfl k)) ?_
      show Comes p e below _ (T560.setTop (mkF m 432 #[.val (.ref self), .val (.int (8 : Int32)), .val (.ref ta), .val (.ref ha), .val (.int ec), .val (.ref sa), .val (.int (2 : Int32)), .val (.ref b128), .val (.int (0 : Int32)), .val (.int v341)] [(.ref self), (.int (0 : Int32)), (.ref b555)]))
      have F561 : Fld Z h558 self "com/example/ordr/ordr/layout/LayerNetwork" "supplies" "[I" (.ref b421) := (((((F437.other W445 (Or.inl (Ne.symm ne430))).ext E551).other W554 (Or.inr (slot_ne (Or.inr (hw _ (List.mem_of_getElem? (i := 30) rfl))) (Or.inr (hw _ (List.mem_of_getElem? (i := 32) rfl))) (by decide) (t := (.array .int)) (t' := (.array .long)) (by decide) (by decide)))).ext E555).other W558 (Or.inr (slot_ne (Or.inr (hw _ (List.mem_of_getElem? (i := 30) rfl))) (Or.inr (hw _ (List.mem_of_getElem? (i := 34) rfl))) (by decide) (t := (.array .int)) (t' := (.array .long)) (by decide) (by decide))))
      obtain ⟨T562, X562, e562, st562⟩ := getF X560 hx hZ hown (host := "") (Or.inl (hw _ (List.mem_of_getElem? (i := 29) rfl))) Via.refl e560 F561 (g := (mkF m 432 #[.val (.ref self), .val (.int (8 : Int32)), .val (.ref ta), .val (.ref ha), .val (.int ec), .val (.ref sa), .val (.int (2 : Int32)), .val (.ref b128), .val (.int (0 : Int32)), .val (.int v341)] [(.ref self), (.int (0 : Int32)), (.ref b555)])) rfl rfl (hb hby d1_432)
      refine Comes.st st562 ?_
      show Comes p e below _ (T562.setTop (mkF m 435 #[.val (.ref self), .val (.int (8 : Int32)), .val (.ref ta), .val (.ref ha), .val (.int ec), .val (.ref sa), .val (.int (2 : Int32)), .val (.ref b128), .val (.int (0 : Int32)), .val (.int v341)] [(.ref b421), (.int (0 : Int32)), (.ref b555)]))
      refine Comes.st (fun t k => XS.iload X562.here hx rfl (hb hby d1_435) rfl k) ?_
      show Comes p e below _ (T562.setTop (mkF m 437 #[.val (.ref self), .val (.int (8 : Int32)), .val (.ref ta), .val (.ref ha), .val (.int ec), .val (.ref sa), .val (.int (2 : Int32)), .val (.ref b128), .val (.int (0 : Int32)), .val (.int v341)] [(.int (0 : Int32)), (.ref b421), (.int (0 : Int32)), (.ref b555)]))
      have F563 : Ari Z h558 b421 8 f445 := ((((V445.ext E551).other W554 ne430).ext E555).other W558 ne430)
      obtain ⟨cl564, Ar564, S564, H564⟩ := id F563
      have hin564 : ¬ ((0 : Int32) < 0 ∨ cl564.slots.size ≤ ((0 : Int32)).toNatClampNeg) := by rw [S564]; decide
      refine Comes.st (fun t k => X562.iaload hx (j := (0 : Int32)) (v := (.int (f445 0))) (by rw [e562]; exact Ar564.1) (State.isArrayOf_alike hZ.alike Ar564.2.1) Ar564.2.2 hin564 (H564 _ (Nat.lt_of_not_le fun y => hin564 (Or.inr (S564 ▸ y)))) (g := (mkF m 437 #[.val (.ref self), .val (.int (8 : Int32)), .val (.ref ta), .val (.ref ha), .val (.int ec), .val (.ref sa), .val (.int (2 : Int32)), .val (.ref b128), .val (.int (0 : Int32)), .val (.int v341)] [(.int (0 : Int32)), (.ref b421), (.int (0 : Int32)), (.ref b555)])) rfl rfl (hb hby d1_437) _ (XS.i2l X562.here hx rfl (hb hby d1_438) rfl k)) ?_
      show Comes p e below _ (T562.setTop (mkF m 439 #[.val (.ref self), .val (.int (8 : Int32)), .val (.ref ta), .val (.ref ha), .val (.int ec), .val (.ref sa), .val (.int (2 : Int32)), .val (.ref b128), .val (.int (0 : Int32)), .val (.int v341)] [(.long ((f445 0).toInt64)), (.int (0 : Int32)), (.ref b555)]))
      generalize hv_v565 : ((f445 0).toInt64) = v565
      show Comes p e below _ (T562.setTop (mkF m 439 #[.val (.ref self), .val (.int (8 : Int32)), .val (.ref ta), .val (.ref ha), .val (.int ec), .val (.ref sa), .val (.int (2 : Int32)), .val (.ref b128), .val (.int (0 : Int32)), .val (.int v341)] [(.long v565), (.int (0 : Int32)), (.ref b555)]))
      have ne566 : b555 ≠ self := by omega
      have F567 : Arv Z h558 b555 k555 .long (8 : Int32) [(.long (0 : Int64)), (.long (0 : Int64)), (.long (0 : Int64)), (.long (0 : Int64)), (.long (0 : Int64)), (.long (0 : Int64)), (.long (0 : Int64)), (.long (0 : Int64))] (.long (0 : Int64)) := (V555.other W558 ne566)
      obtain ⟨cl568, Ar568, q568, S568, Ng568, H568, Gf568⟩ := id F567
      have hin568 : ¬ ((0 : Int32) < 0 ∨ cl568.slots.size ≤ ((0 : Int32)).toNatClampNeg) := inb_of S568 ⟨by decide, by decide⟩
      obtain ⟨T568, h568, X568, e568, W568, st568⟩ := stJ X562 hx hZ e562 Ar568 (j := (0 : Int32)) hin568 (g := (mkF m 439 #[.val (.ref self), .val (.int (8 : Int32)), .val (.ref ta), .val (.ref ha), .val (.int ec), .val (.ref sa), .val (.int (2 : Int32)), .val (.ref b128), .val (.int (0 : Int32)), .val (.int v341)] [(.long v565), (.int (0 : Int32)), (.ref b555)])) rfl rfl (hb hby d1_439)
      have V568 : Arv Z h568 b555 k555 .long (8 : Int32) [(.long v565), (.long (0 : Int64)), (.long (0 : Int64)), (.long (0 : Int64)), (.long (0 : Int64)), (.long (0 : Int64)), (.long (0 : Int64)), (.long (0 : Int64))] (.long (0 : Int64)) := Arv.set Ar568 q568 S568 Ng568 H568 Gf568 rfl W568 0 rfl (Nat.le_of_ble_eq_true rfl)
      have z568 : h568.size = h558.size := W568.size
      have gn569 : n0 ≤ b555 := by omega
      have N568 := Fr.snoc X568 N558 gn569
      have gz570 : h0.size ≤ b555 := by omega
      have K568 : Keep h0 h568 [self] := K558.wr W568 (Or.inr gz570)
      refine Comes.st st568 ?_
      show Comes p e below _ (T568.setTop (mkF m 440 #[.val (.ref self), .val (.int (8 : Int32)), .val (.ref ta), .val (.ref ha), .val (.int ec), .val (.ref sa), .val (.int (2 : Int32)), .val (.ref b128), .val (.int (0 : Int32)), .val (.int v341)] []))
      refine Comes.st (fun t k => XS.iinc X568.here hx rfl (hb hby d1_440) rfl (l' := #[.val (.ref self), .val (.int (8 : Int32)), .val (.ref ta), .val (.ref ha), .val (.int ec), .val (.ref sa), .val (.int (2 : Int32)), .val (.ref b128), .val (.int (1 : Int32)), .val (.int v341)]) rfl (XS.goto X568.here hx rfl (pc0 := 443) (pc' := 419) rfl (hb hby d1_443) (by decide) (by decide) (XS.iload X568.here hx rfl (hb hby d1_419) rfl (XS.iloadN X568.here hx rfl (hb hby d1_421) rfl k)))) ?_
      show Comes p e below _ (T568.setTop (mkF m 422 #[.val (.ref self), .val (.int (8 : Int32)), .val (.ref ta), .val (.ref ha), .val (.int ec), .val (.ref sa), .val (.int (2 : Int32)), .val (.ref b128), .val (.int (1 : Int32)), .val (.int v341)] [(.int (8 : Int32)), (.int (1 : Int32))]))
      have hc422_571 : (1 : Int32) < (8 : Int32) := by decide
      refine Comes.st (fun t k => XS.icmpNo X568.here hx rfl (hb hby d1_422) rfl (tlt hc422_571).2.1 (XS.aloadN X568.here hx rfl (hb hby d1_425) rfl rfl k)) ?_
      show Comes p e below _ (T568.setTop (mkF m 426 #[.val (.ref self), .val (.int (8 : Int32)), .val (.ref ta), .val (.ref ha), .val (.int ec), .val (.ref sa), .val (.int (2 : Int32)), .val (.ref b128), .val (.int (1 : Int32)), .val (.int v341)] [(.ref self)]))
      have F572 : Fld Z h568 self "com/example/ordr/ordr/layout/LayerNetwork" "excesses" "[J" (.ref b555) := (Fw558.other W568 (Or.inl (Ne.symm ne566)))
      obtain ⟨T573, X573, e573, st573⟩ := getF X568 hx hZ hown (host := "") (Or.inl (hw _ (List.mem_of_getElem? (i := 33) rfl))) Via.refl e568 F572 (g := (mkF m 426 #[.val (.ref self), .val (.int (8 : Int32)), .val (.ref ta), .val (.ref ha), .val (.int ec), .val (.ref sa), .val (.int (2 : Int32)), .val (.ref b128), .val (.int (1 : Int32)), .val (.int v341)] [(.ref self)])) rfl rfl (hb hby d1_426)
      refine Comes.st st573 ?_
      show Comes p e below _ (T573.setTop (mkF m 429 #[.val (.ref self), .val (.int (8 : Int32)), .val (.ref ta), .val (.ref ha), .val (.int ec), .val (.ref sa), .val (.int (2 : Int32)), .val (.ref b128), .val (.int (1 : Int32)), .val (.int v341)] [(.ref b555)]))
      refine Comes.st (fun t k => XS.iload X573.here hx rfl (hb hby d1_429) rfl (XS.aloadN X573.here hx rfl (hb hby d1_431) rfl rfl k)) ?_
      show Comes p e below _ (T573.setTop (mkF m 432 #[.val (.ref self), .val (.int (8 : Int32)), .val (.ref ta), .val (.ref ha), .val (.int ec), .val (.ref sa), .val (.int (2 : Int32)), .val (.ref b128), .val (.int (1 : Int32)), .val (.int v341)] [(.ref self), (.int (1 : Int32)), (.ref b555)]))
      have F574 : Fld Z h568 self "com/example/ordr/ordr/layout/LayerNetwork" "supplies" "[I" (.ref b421) := (F561.other W568 (Or.inl (Ne.symm ne566)))
      obtain ⟨T575, X575, e575, st575⟩ := getF X573 hx hZ hown (host := "") (Or.inl (hw _ (List.mem_of_getElem? (i := 29) rfl))) Via.refl e573 F574 (g := (mkF m 432 #[.val (.ref self), .val (.int (8 : Int32)), .val (.ref ta), .val (.ref ha), .val (.int ec), .val (.ref sa), .val (.int (2 : Int32)), .val (.ref b128), .val (.int (1 : Int32)), .val (.int v341)] [(.ref self), (.int (1 : Int32)), (.ref b555)])) rfl rfl (hb hby d1_432)
      refine Comes.st st575 ?_
      show Comes p e below _ (T575.setTop (mkF m 435 #[.val (.ref self), .val (.int (8 : Int32)), .val (.ref ta), .val (.ref ha), .val (.int ec), .val (.ref sa), .val (.int (2 : Int32)), .val (.ref b128), .val (.int (1 : Int32)), .val (.int v341)] [(.ref b421), (.int (1 : Int32)), (.ref b555)]))
      refine Comes.st (fun t k => XS.iload X575.here hx rfl (hb hby d1_435) rfl k) ?_
      show Comes p e below _ (T575.setTop (mkF m 437 #[.val (.ref self), .val (.int (8 : Int32)), .val (.ref ta), .val (.ref ha), .val (.int ec), .val (.ref sa), .val (.int (2 : Int32)), .val (.ref b128), .val (.int (1 : Int32)), .val (.int v341)] [(.int (1 : Int32)), (.ref b421), (.int (1 : Int32)), (.ref b555)]))
      have ne576 : b421 ≠ b555 := by omega
      have F577 : Ari Z h568 b421 8 f445 := (F563.other W568 ne576)
      obtain ⟨cl578, Ar578, S578, H578⟩ := id F577
      have hin578 : ¬ ((1 : Int32) < 0 ∨ cl578.slots.size ≤ ((1 : Int32)).toNatClampNeg) := by rw [S578]; decide
      refine Comes.st (fun t k => X575.iaload hx (j := (1 : Int32)) (v := (.int (f445 1))) (by rw [e575]; exact Ar578.1) (State.isArrayOf_alike hZ.alike Ar578.2.1) Ar578.2.2 hin578 (H578 _ (Nat.lt_of_not_le fun y => hin578 (Or.inr (S578 ▸ y)))) (g := (mkF m 437 #[.val (.ref self), .val (.int (8 : Int32)), .val (.ref ta), .val (.ref ha), .val (.int ec), .val (.ref sa), .val (.int (2 : Int32)), .val (.ref b128), .val (.int (1 : Int32)), .val (.int v341)] [(.int (1 : Int32)), (.ref b421), (.int (1 : Int32)), (.ref b555)])) rfl rfl (hb hby d1_437) _ (XS.i2l X575.here hx rfl (hb hby d1_438) rfl k)) ?_
      show Comes p e below _ (T575.setTop (mkF m 439 #[.val (.ref self), .val (.int (8 : Int32)), .val (.ref ta), .val (.ref ha), .val (.int ec), .val (.ref sa), .val (.int (2 : Int32)), .val (.ref b128), .val (.int (1 : Int32)), .val (.int v341)] [(.long ((f445 1).toInt64)), (.int (1 : Int32)), (.ref b555)]))
      generalize hv_v579 : ((f445 1).toInt64) = v579
      show Comes p e below _ (T575.setTop (mkF m 439 #[.val (.ref self), .val (.int (8 : Int32)), .val (.ref ta), .val (.ref ha), .val (.int ec), .val (.ref sa), .val (.int (2 : Int32)), .val (.ref b128), .val (.int (1 : Int32)), .val (.int v341)] [(.long v579), (.int (1 : Int32)), (.ref b555)]))
      obtain ⟨cl580, Ar580, q580, S580, Ng580, H580, Gf580⟩ := id V568
      have hin580 : ¬ ((1 : Int32) < 0 ∨ cl580.slots.size ≤ ((1 : Int32)).toNatClampNeg) := inb_of S580 ⟨by decide, by decide⟩
      obtain ⟨T580, h580, X580, e580, W580, st580⟩ := stJ X575 hx hZ e575 Ar580 (j := (1 : Int32)) hin580 (g := (mkF m 439 #[.val (.ref self), .val (.int (8 : Int32)), .val (.ref ta), .val (.ref ha), .val (.int ec), .val (.ref sa), .val (.int (2 : Int32)), .val (.ref b128), .val (.int (1 : Int32)), .val (.int v341)] [(.long v579), (.int (1 : Int32)), (.ref b555)])) rfl rfl (hb hby d1_439)
      have V580 : Arv Z h580 b555 k555 .long (8 : Int32) [(.long v565), (.long v579), (.long (0 : Int64)), (.long (0 : Int64)), (.long (0 : Int64)), (.long (0 : Int64)), (.long (0 : Int64)), (.long (0 : Int64))] (.long (0 : Int64)) := Arv.set Ar580 q580 S580 Ng580 H580 Gf580 rfl W580 1 rfl (Nat.le_of_ble_eq_true rfl)
      have z580 : h580.size = h568.size := W580.size
      have N580 := Fr.snoc X580 N568 gn569
      have K580 : Keep h0 h580 [self] := K568.wr W580 (Or.inr gz570)
      refine Comes.st st580 ?_
      show Comes p e below _ (T580.setTop (mkF m 440 #[.val (.ref self), .val (.int (8 : Int32)), .val (.ref ta), .val (.ref ha), .val (.int ec), .val (.ref sa), .val (.int (2 : Int32)), .val (.ref b128), .val (.int (1 : Int32)), .val (.int v341)] []))
      refine Comes.st (fun t k => XS.iinc X580.here hx rfl (hb hby d1_440) rfl (l' := #[.val (.ref self), .val (.int (8 : Int32)), .val (.ref ta), .val (.ref ha), .val (.int ec), .val (.ref sa), .val (.int (2 : Int32)), .val (.ref b128), .val (.int (2 : Int32)), .val (.int v341)]) rfl (XS.goto X580.here hx rfl (pc0 := 443) (pc' := 419) rfl (hb hby d1_443) (by decide) (by decide) (XS.iload X580.here hx rfl (hb hby d1_419) rfl (XS.iloadN X580.here hx rfl (hb hby d1_421) rfl k)))) ?_
      show Comes p e below _ (T580.setTop (mkF m 422 #[.val (.ref self), .val (.int (8 : Int32)), .val (.ref ta), .val (.ref ha), .val (.int ec), .val (.ref sa), .val (.int (2 : Int32)), .val (.ref b128), .val (.int (2 : Int32)), .val (.int v341)] [(.int (8 : Int32)), (.int (2 : Int32))]))
      have hc422_581 : (2 : Int32) < (8 : Int32) := by decide
      refine Comes.st (fun t k => XS.icmpNo X580.here hx rfl (hb hby d1_422) rfl (tlt hc422_581).2.1 (XS.aloadN X580.here hx rfl (hb hby d1_425) rfl rfl k)) ?_
      show Comes p e below _ (T580.setTop (mkF m 426 #[.val (.ref self), .val (.int (8 : Int32)), .val (.ref ta), .val (.ref ha), .val (.int ec), .val (.ref sa), .val (.int (2 : Int32)), .val (.ref b128), .val (.int (2 : Int32)), .val (.int v341)] [(.ref self)]))
      have F582 : Fld Z h580 self "com/example/ordr/ordr/layout/LayerNetwork" "excesses" "[J" (.ref b555) := (F572.other W580 (Or.inl (Ne.symm ne566)))
      obtain ⟨T583, X583, e583, st583⟩ := getF X580 hx hZ hown (host := "") (Or.inl (hw _ (List.mem_of_getElem? (i := 33) rfl))) Via.refl e580 F582 (g := (mkF m 426 #[.val (.ref self), .val (.int (8 : Int32)), .val (.ref ta), .val (.ref ha), .val (.int ec), .val (.ref sa), .val (.int (2 : Int32)), .val (.ref b128), .val (.int (2 : Int32)), .val (.int v341)] [(.ref self)])) rfl rfl (hb hby d1_426)
      refine Comes.st st583 ?_
      show Comes p e below _ (T583.setTop (mkF m 429 #[.val (.ref self), .val (.int (8 : Int32)), .val (.ref ta), .val (.ref ha), .val (.int ec), .val (.ref sa), .val (.int (2 : Int32)), .val (.ref b128), .val (.int (2 : Int32)), .val (.int v341)] [(.ref b555)]))
      refine Comes.st (fun t k => XS.iload X583.here hx rfl (hb hby d1_429) rfl (XS.aloadN X583.here hx rfl (hb hby d1_431) rfl rfl k)) ?_
      show Comes p e below _ (T583.setTop (mkF m 432 #[.val (.ref self), .val (.int (8 : Int32)), .val (.ref ta), .val (.ref ha), .val (.int ec), .val (.ref sa), .val (.int (2 : Int32)), .val (.ref b128), .val (.int (2 : Int32)), .val (.int v341)] [(.ref self), (.int (2 : Int32)), (.ref b555)]))
      have F584 : Fld Z h580 self "com/example/ordr/ordr/layout/LayerNetwork" "supplies" "[I" (.ref b421) := (F574.other W580 (Or.inl (Ne.symm ne566)))
      obtain ⟨T585, X585, e585, st585⟩ := getF X583 hx hZ hown (host := "") (Or.inl (hw _ (List.mem_of_getElem? (i := 29) rfl))) Via.refl e583 F584 (g := (mkF m 432 #[.val (.ref self), .val (.int (8 : Int32)), .val (.ref ta), .val (.ref ha), .val (.int ec), .val (.ref sa), .val (.int (2 : Int32)), .val (.ref b128), .val (.int (2 : Int32)), .val (.int v341)] [(.ref self), (.int (2 : Int32)), (.ref b555)])) rfl rfl (hb hby d1_432)
      refine Comes.st st585 ?_
      show Comes p e below _ (T585.setTop (mkF m 435 #[.val (.ref self), .val (.int (8 : Int32)), .val (.ref ta), .val (.ref ha), .val (.int ec), .val (.ref sa), .val (.int (2 : Int32)), .val (.ref b128), .val (.int (2 : Int32)), .val (.int v341)] [(.ref b421), (.int (2 : Int32)), (.ref b555)]))
      refine Comes.st (fun t k => XS.iload X585.here hx rfl (hb hby d1_435) rfl k) ?_
      show Comes p e below _ (T585.setTop (mkF m 437 #[.val (.ref self), .val (.int (8 : Int32)), .val (.ref ta), .val (.ref ha), .val (.int ec), .val (.ref sa), .val (.int (2 : Int32)), .val (.ref b128), .val (.int (2 : Int32)), .val (.int v341)] [(.int (2 : Int32)), (.ref b421), (.int (2 : Int32)), (.ref b555)]))
      have F586 : Ari Z h580 b421 8 f445 := (F577.other W580 ne576)
      obtain ⟨cl587, Ar587, S587, H587⟩ := id F586
      have hin587 : ¬ ((2 : Int32) < 0 ∨ cl587.slots.size ≤ ((2 : Int32)).toNatClampNeg) := by rw [S587]; decide
      refine Comes.st (fun t k => X585.iaload hx (j := (2 : Int32)) (v := (.int (f445 2))) (by rw [e585]; exact Ar587.1) (State.isArrayOf_alike hZ.alike Ar587.2.1) Ar587.2.2 hin587 (H587 _ (Nat.lt_of_not_le fun y => hin587 (Or.inr (S587 ▸ y)))) (g := (mkF m 437 #[.val (.ref self), .val (.int (8 : Int32)), .val (.ref ta), .val (.ref ha), .val (.int ec), .val (.ref sa), .val (.int (2 : Int32)), .val (.ref b128), .val (.int (2 : Int32)), .val (.int v341)] [(.int (2 : Int32)), (.ref b421), (.int (2 : Int32)), (.ref b555)])) rfl rfl (hb hby d1_437) _ (XS.i2l X585.here hx rfl (hb hby d1_438) rfl k)) ?_
      show Comes p e below _ (T585.setTop (mkF m 439 #[.val (.ref self), .val (.int (8 : Int32)), .val (.ref ta), .val (.ref ha), .val (.int ec), .val (.ref sa), .val (.int (2 : Int32)), .val (.ref b128), .val (.int (2 : Int32)), .val (.int v341)] [(.long ((f445 2).toInt64)), (.int (2 : Int32)), (.ref b555)]))
      generalize hv_v588 : ((f445 2).toInt64) = v588
      show Comes p e below _ (T585.setTop (mkF m 439 #[.val (.ref self), .val (.int (8 : Int32)), .val (.ref ta), .val (.ref ha), .val (.int ec), .val (.ref sa), .val (.int (2 : Int32)), .val (.ref b128), .val (.int (2 : Int32)), .val (.int v341)] [(.long v588), (.int (2 : Int32)), (.ref b555)]))
      obtain ⟨cl589, Ar589, q589, S589, Ng589, H589, Gf589⟩ := id V580
      have hin589 : ¬ ((2 : Int32) < 0 ∨ cl589.slots.size ≤ ((2 : Int32)).toNatClampNeg) := inb_of S589 ⟨by decide, by decide⟩
      obtain ⟨T589, h589, X589, e589, W589, st589⟩ := stJ X585 hx hZ e585 Ar589 (j := (2 : Int32)) hin589 (g := (mkF m 439 #[.val (.ref self), .val (.int (8 : Int32)), .val (.ref ta), .val (.ref ha), .val (.int ec), .val (.ref sa), .val (.int (2 : Int32)), .val (.ref b128), .val (.int (2 : Int32)), .val (.int v341)] [(.long v588), (.int (2 : Int32)), (.ref b555)])) rfl rfl (hb hby d1_439)
      have V589 : Arv Z h589 b555 k555 .long (8 : Int32) [(.long v565), (.long v579), (.long v588), (.long (0 : Int64)), (.long (0 : Int64)), (.long (0 : Int64)), (.long (0 : Int64)), (.long (0 : Int64))] (.long (0 : Int64)) := Arv.set Ar589 q589 S589 Ng589 H589 Gf589 rfl W589 2 rfl (Nat.le_of_ble_eq_true rfl)
      have z589 : h589.size = h580.size := W589.size
      have N589 := Fr.snoc X589 N580 gn569
      have K589 : Keep h0 h589 [self] := K580.wr W589 (Or.inr gz570)
      refine Comes.st st589 ?_
      show Comes p e below _ (T589.setTop (mkF m 440 #[.val (.ref self), .val (.int (8 : Int32)), .val (.ref ta), .val (.ref ha), .val (.int ec), .val (.ref sa), .val (.int (2 : Int32)), .val (.ref b128), .val (.int (2 : Int32)), .val (.int v341)] []))
      refine Comes.st (fun t k => XS.iinc X589.here hx rfl (hb hby d1_440) rfl (l' := #[.val (.ref self), .val (.int (8 : Int32)), .val (.ref ta), .val (.ref ha), .val (.int ec), .val (.ref sa), .val (.int (2 : Int32)), .val (.ref b128), .val (.int (3 : Int32)), .val (.int v341)]) rfl (XS.goto X589.here hx rfl (pc0 := 443) (pc' := 419) rfl (hb hby d1_443) (by decide) (by decide) (XS.iload X589.here hx rfl (hb hby d1_419) rfl (XS.iloadN X589.here hx rfl (hb hby d1_421) rfl k)))) ?_
      show Comes p e below _ (T589.setTop (mkF m 422 #[.val (.ref self), .val (.int (8 : Int32)), .val (.ref ta), .val (.ref ha), .val (.int ec), .val (.ref sa), .val (.int (2 : Int32)), .val (.ref b128), .val (.int (3 : Int32)), .val (.int v341)] [(.int (8 : Int32)), (.int (3 : Int32))]))
      have hc422_590 : (3 : Int32) < (8 : Int32) := by decide
      refine Comes.st (fun t k => XS.icmpNo X589.here hx rfl (hb hby d1_422) rfl (tlt hc422_590).2.1 (XS.aloadN X589.here hx rfl (hb hby d1_425) rfl rfl k)) ?_
      show Comes p e below _ (T589.setTop (mkF m 426 #[.val (.ref self), .val (.int (8 : Int32)), .val (.ref ta), .val (.ref ha), .val (.int ec), .val (.ref sa), .val (.int (2 : Int32)), .val (.ref b128), .val (.int (3 : Int32)), .val (.int v341)] [(.ref self)]))
      have F591 : Fld Z h589 self "com/example/ordr/ordr/layout/LayerNetwork" "excesses" "[J" (.ref b555) := (F582.other W589 (Or.inl (Ne.symm ne566)))
      obtain ⟨T592, X592, e592, st592⟩ := getF X589 hx hZ hown (host := "") (Or.inl (hw _ (List.mem_of_getElem? (i := 33) rfl))) Via.refl e589 F591 (g := (mkF m 426 #[.val (.ref self), .val (.int (8 : Int32)), .val (.ref ta), .val (.ref ha), .val (.int ec), .val (.ref sa), .val (.int (2 : Int32)), .val (.ref b128), .val (.int (3 : Int32)), .val (.int v341)] [(.ref self)])) rfl rfl (hb hby d1_426)
      refine Comes.st st592 ?_
      show Comes p e below _ (T592.setTop (mkF m 429 #[.val (.ref self), .val (.int (8 : Int32)), .val (.ref ta), .val (.ref ha), .val (.int ec), .val (.ref sa), .val (.int (2 : Int32)), .val (.ref b128), .val (.int (3 : Int32)), .val (.int v341)] [(.ref b555)]))
      refine Comes.st (fun t k => XS.iload X592.here hx rfl (hb hby d1_429) rfl (XS.aloadN X592.here hx rfl (hb hby d1_431) rfl rfl k)) ?_
      show Comes p e below _ (T592.setTop (mkF m 432 #[.val (.ref self), .val (.int (8 : Int32)), .val (.ref ta), .val (.ref ha), .val (.int ec), .val (.ref sa), .val (.int (2 : Int32)), .val (.ref b128), .val (.int (3 : Int32)), .val (.int v341)] [(.ref self), (.int (3 : Int32)), (.ref b555)]))
      have F593 : Fld Z h589 self "com/example/ordr/ordr/layout/LayerNetwork" "supplies" "[I" (.ref b421) := (F584.other W589 (Or.inl (Ne.symm ne566)))
      obtain ⟨T594, X594, e594, st594⟩ := getF X592 hx hZ hown (host := "") (Or.inl (hw _ (List.mem_of_getElem? (i := 29) rfl))) Via.refl e592 F593 (g := (mkF m 432 #[.val (.ref self), .val (.int (8 : Int32)), .val (.ref ta), .val (.ref ha), .val (.int ec), .val (.ref sa), .val (.int (2 : Int32)), .val (.ref b128), .val (.int (3 : Int32)), .val (.int v341)] [(.ref self), (.int (3 : Int32)), (.ref b555)])) rfl rfl (hb hby d1_432)
      refine Comes.st st594 ?_
      show Comes p e below _ (T594.setTop (mkF m 435 #[.val (.ref self), .val (.int (8 : Int32)), .val (.ref ta), .val (.ref ha), .val (.int ec), .val (.ref sa), .val (.int (2 : Int32)), .val (.ref b128), .val (.int (3 : Int32)), .val (.int v341)] [(.ref b421), (.int (3 : Int32)), (.ref b555)]))
      refine Comes.st (fun t k => XS.iload X594.here hx rfl (hb hby d1_435) rfl k) ?_
      show Comes p e below _ (T594.setTop (mkF m 437 #[.val (.ref self), .val (.int (8 : Int32)), .val (.ref ta), .val (.ref ha), .val (.int ec), .val (.ref sa), .val (.int (2 : Int32)), .val (.ref b128), .val (.int (3 : Int32)), .val (.int v341)] [(.int (3 : Int32)), (.ref b421), (.int (3 : Int32)), (.ref b555)]))
      have F595 : Ari Z h589 b421 8 f445 := (F586.other W589 ne576)
      obtain ⟨cl596, Ar596, S596, H596⟩ := id F595
      have hin596 : ¬ ((3 : Int32) < 0 ∨ cl596.slots.size ≤ ((3 : Int32)).toNatClampNeg) := by rw [S596]; decide
      refine Comes.st (fun t k => X594.iaload hx (j := (3 : Int32)) (v := (.int (f445 3))) (by rw [e594]; exact Ar596.1) (State.isArrayOf_alike hZ.alike Ar596.2.1) Ar596.2.2 hin596 (H596 _ (Nat.lt_of_not_le fun y => hin596 (Or.inr (S596 ▸ y)))) (g := (mkF m 437 #[.val (.ref self), .val (.int (8 : Int32)), .val (.ref ta), .val (.ref ha), .val (.int ec), .val (.ref sa), .val (.int (2 : Int32)), .val (.ref b128), .val (.int (3 : Int32)), .val (.int v341)] [(.int (3 : Int32)), (.ref b421), (.int (3 : Int32)), (.ref b555)])) rfl rfl (hb hby d1_437) _ (XS.i2l X594.here hx rfl (hb hby d1_438) rfl k)) ?_
      show Comes p e below _ (T594.setTop (mkF m 439 #[.val (.ref self), .val (.int (8 : Int32)), .val (.ref ta), .val (.ref ha), .val (.int ec), .val (.ref sa), .val (.int (2 : Int32)), .val (.ref b128), .val (.int (3 : Int32)), .val (.int v341)] [(.long ((f445 3).toInt64)), (.int (3 : Int32)), (.ref b555)]))
      generalize hv_v597 : ((f445 3).toInt64) = v597
      show Comes p e below _ (T594.setTop (mkF m 439 #[.val (.ref self), .val (.int (8 : Int32)), .val (.ref ta), .val (.ref ha), .val (.int ec), .val (.ref sa), .val (.int (2 : Int32)), .val (.ref b128), .val (.int (3 : Int32)), .val (.int v341)] [(.long v597), (.int (3 : Int32)), (.ref b555)]))
      obtain ⟨cl598, Ar598, q598, S598, Ng598, H598, Gf598⟩ := id V589
      have hin598 : ¬ ((3 : Int32) < 0 ∨ cl598.slots.size ≤ ((3 : Int32)).toNatClampNeg) := inb_of S598 ⟨by decide, by decide⟩
      obtain ⟨T598, h598, X598, e598, W598, st598⟩ := stJ X594 hx hZ e594 Ar598 (j := (3 : Int32)) hin598 (g := (mkF m 439 #[.val (.ref self), .val (.int (8 : Int32)), .val (.ref ta), .val (.ref ha), .val (.int ec), .val (.ref sa), .val (.int (2 : Int32)), .val (.ref b128), .val (.int (3 : Int32)), .val (.int v341)] [(.long v597), (.int (3 : Int32)), (.ref b555)])) rfl rfl (hb hby d1_439)
      have V598 : Arv Z h598 b555 k555 .long (8 : Int32) [(.long v565), (.long v579), (.long v588), (.long v597), (.long (0 : Int64)), (.long (0 : Int64)), (.long (0 : Int64)), (.long (0 : Int64))] (.long (0 : Int64)) := Arv.set Ar598 q598 S598 Ng598 H598 Gf598 rfl W598 3 rfl (Nat.le_of_ble_eq_true rfl)
      have z598 : h598.size = h589.size := W598.size
      have N598 := Fr.snoc X598 N589 gn569
      have K598 : Keep h0 h598 [self] := K589.wr W598 (Or.inr gz570)
      refine Comes.st st598 ?_
      show Comes p e below _ (T598.setTop (mkF m 440 #[.val (.ref self), .val (.int (8 : Int32)), .val (.ref ta), .val (.ref ha), .val (.int ec), .val (.ref sa), .val (.int (2 : Int32)), .val (.ref b128), .val (.int (3 : Int32)), .val (.int v341)] []))
      refine Comes.st (fun t k => XS.iinc X598.here hx rfl (hb hby d1_440) rfl (l' := #[.val (.ref self), .val (.int (8 : Int32)), .val (.ref ta), .val (.ref ha), .val (.int ec), .val (.ref sa), .val (.int (2 : Int32)), .val (.ref b128), .val (.int (4 : Int32)), .val (.int v341)]) rfl (XS.goto X598.here hx rfl (pc0 := 443) (pc' := 419) rfl (hb hby d1_443) (by decide) (by decide) (XS.iload X598.here hx rfl (hb hby d1_419) rfl (XS.iloadN X598.here hx rfl (hb hby d1_421) rfl k)))) ?_
      show Comes p e below _ (T598.setTop (mkF m 422 #[.val (.ref self), .val (.int (8 : Int32)), .val (.ref ta), .val (.ref ha), .val (.int ec), .val (.ref sa), .val (.int (2 : Int32)), .val (.ref b128), .val (.int (4 : Int32)), .val (.int v341)] [(.int (8 : Int32)), (.int (4 : Int32))]))
      have hc422_599 : (4 : Int32) < (8 : Int32) := by decide
      refine Comes.st (fun t k => XS.icmpNo X598.here hx rfl (hb hby d1_422) rfl (tlt hc422_599).2.1 (XS.aloadN X598.here hx rfl (hb hby d1_425) rfl rfl k)) ?_
      show Comes p e below _ (T598.setTop (mkF m 426 #[.val (.ref self), .val (.int (8 : Int32)), .val (.ref ta), .val (.ref ha), .val (.int ec), .val (.ref sa), .val (.int (2 : Int32)), .val (.ref b128), .val (.int (4 : Int32)), .val (.int v341)] [(.ref self)]))
      have F600 : Fld Z h598 self "com/example/ordr/ordr/layout/LayerNetwork" "excesses" "[J" (.ref b555) := (F591.other W598 (Or.inl (Ne.symm ne566)))
      obtain ⟨T601, X601, e601, st601⟩ := getF X598 hx hZ hown (host := "") (Or.inl (hw _ (List.mem_of_getElem? (i := 33) rfl))) Via.refl e598 F600 (g := (mkF m 426 #[.val (.ref self), .val (.int (8 : Int32)), .val (.ref ta), .val (.ref ha), .val (.int ec), .val (.ref sa), .val (.int (2 : Int32)), .val (.ref b128), .val (.int (4 : Int32)), .val (.int v341)] [(.ref self)])) rfl rfl (hb hby d1_426)
      refine Comes.st st601 ?_
      show Comes p e below _ (T601.setTop (mkF m 429 #[.val (.ref self), .val (.int (8 : Int32)), .val (.ref ta), .val (.ref ha), .val (.int ec), .val (.ref sa), .val (.int (2 : Int32)), .val (.ref b128), .val (.int (4 : Int32)), .val (.int v341)] [(.ref b555)]))
      refine Comes.st (fun t k => XS.iload X601.here hx rfl (hb hby d1_429) rfl (XS.aloadN X601.here hx rfl (hb hby d1_431) rfl rfl k)) ?_
      show Comes p e below _ (T601.setTop (mkF m 432 #[.val (.ref self), .val (.int (8 : Int32)), .val (.ref ta), .val (.ref ha), .val (.int ec), .val (.ref sa), .val (.int (2 : Int32)), .val (.ref b128), .val (.int (4 : Int32)), .val (.int v341)] [(.ref self), (.int (4 : Int32)), (.ref b555)]))
      have F602 : Fld Z h598 self "com/example/ordr/ordr/layout/LayerNetwork" "supplies" "[I" (.ref b421) := (F593.other W598 (Or.inl (Ne.symm ne566)))
      obtain ⟨T603, X603, e603, st603⟩ := getF X601 hx hZ hown (host := "") (Or.inl (hw _ (List.mem_of_getElem? (i := 29) rfl))) Via.refl e601 F602 (g := (mkF m 432 #[.val (.ref self), .val (.int (8 : Int32)), .val (.ref ta), .val (.ref ha), .val (.int ec), .val (.ref sa), .val (.int (2 : Int32)), .val (.ref b128), .val (.int (4 : Int32)), .val (.int v341)] [(.ref self), (.int (4 : Int32)), (.ref b555)])) rfl rfl (hb hby d1_432)
      refine Comes.st st603 ?_
      show Comes p e below _ (T603.setTop (mkF m 435 #[.val (.ref self), .val (.int (8 : Int32)), .val (.ref ta), .val (.ref ha), .val (.int ec), .val (.ref sa), .val (.int (2 : Int32)), .val (.ref b128), .val (.int (4 : Int32)), .val (.int v341)] [(.ref b421), (.int (4 : Int32)), (.ref b555)]))
      refine Comes.st (fun t k => XS.iload X603.here hx rfl (hb hby d1_435) rfl k) ?_
      show Comes p e below _ (T603.setTop (mkF m 437 #[.val (.ref self), .val (.int (8 : Int32)), .val (.ref ta), .val (.ref ha), .val (.int ec), .val (.ref sa), .val (.int (2 : Int32)), .val (.ref b128), .val (.int (4 : Int32)), .val (.int v341)] [(.int (4 : Int32)), (.ref b421), (.int (4 : Int32)), (.ref b555)]))
      have F604 : Ari Z h598 b421 8 f445 := (F595.other W598 ne576)
      obtain ⟨cl605, Ar605, S605, H605⟩ := id F604
      have hin605 : ¬ ((4 : Int32) < 0 ∨ cl605.slots.size ≤ ((4 : Int32)).toNatClampNeg) := by rw [S605]; decide
      refine Comes.st (fun t k => X603.iaload hx (j := (4 : Int32)) (v := (.int (f445 4))) (by rw [e603]; exact Ar605.1) (State.isArrayOf_alike hZ.alike Ar605.2.1) Ar605.2.2 hin605 (H605 _ (Nat.lt_of_not_le fun y => hin605 (Or.inr (S605 ▸ y)))) (g := (mkF m 437 #[.val (.ref self), .val (.int (8 : Int32)), .val (.ref ta), .val (.ref ha), .val (.int ec), .val (.ref sa), .val (.int (2 : Int32)), .val (.ref b128), .val (.int (4 : Int32)), .val (.int v341)] [(.int (4 : Int32)), (.ref b421), (.int (4 : Int32)), (.ref b555)])) rfl rfl (hb hby d1_437) _ (XS.i2l X603.here hx rfl (hb hby d1_438) rfl k)) ?_
      show Comes p e below _ (T603.setTop (mkF m 439 #[.val (.ref self), .val (.int (8 : Int32)), .val (.ref ta), .val (.ref ha), .val (.int ec), .val (.ref sa), .val (.int (2 : Int32)), .val (.ref b128), .val (.int (4 : Int32)), .val (.int v341)] [(.long ((f445 4).toInt64)), (.int (4 : Int32)), (.ref b555)]))
      generalize hv_v606 : ((f445 4).toInt64) = v606
      show Comes p e below _ (T603.setTop (mkF m 439 #[.val (.ref self), .val (.int (8 : Int32)), .val (.ref ta), .val (.ref ha), .val (.int ec), .val (.ref sa), .val (.int (2 : Int32)), .val (.ref b128), .val (.int (4 : Int32)), .val (.int v341)] [(.long v606), (.int (4 : Int32)), (.ref b555)]))
      obtain ⟨cl607, Ar607, q607, S607, Ng607, H607, Gf607⟩ := id V598
      have hin607 : ¬ ((4 : Int32) < 0 ∨ cl607.slots.size ≤ ((4 : Int32)).toNatClampNeg) := inb_of S607 ⟨by decide, by decide⟩
      obtain ⟨T607, h607, X607, e607, W607, st607⟩ := stJ X603 hx hZ e603 Ar607 (j := (4 : Int32)) hin607 (g := (mkF m 439 #[.val (.ref self), .val (.int (8 : Int32)), .val (.ref ta), .val (.ref ha), .val (.int ec), .val (.ref sa), .val (.int (2 : Int32)), .val (.ref b128), .val (.int (4 : Int32)), .val (.int v341)] [(.long v606), (.int (4 : Int32)), (.ref b555)])) rfl rfl (hb hby d1_439)
      have V607 : Arv Z h607 b555 k555 .long (8 : Int32) [(.long v565), (.long v579), (.long v588), (.long v597), (.long v606), (.long (0 : Int64)), (.long (0 : Int64)), (.long (0 : Int64))] (.long (0 : Int64)) := Arv.set Ar607 q607 S607 Ng607 H607 Gf607 rfl W607 4 rfl (Nat.le_of_ble_eq_true rfl)
      have z607 : h607.size = h598.size := W607.size
      have N607 := Fr.snoc X607 N598 gn569
      have K607 : Keep h0 h607 [self] := K598.wr W607 (Or.inr gz570)
      refine Comes.st st607 ?_
      show Comes p e below _ (T607.setTop (mkF m 440 #[.val (.ref self), .val (.int (8 : Int32)), .val (.ref ta), .val (.ref ha), .val (.int ec), .val (.ref sa), .val (.int (2 : Int32)), .val (.ref b128), .val (.int (4 : Int32)), .val (.int v341)] []))
      refine Comes.st (fun t k => XS.iinc X607.here hx rfl (hb hby d1_440) rfl (l' := #[.val (.ref self), .val (.int (8 : Int32)), .val (.ref ta), .val (.ref ha), .val (.int ec), .val (.ref sa), .val (.int (2 : Int32)), .val (.ref b128), .val (.int (5 : Int32)), .val (.int v341)]) rfl (XS.goto X607.here hx rfl (pc0 := 443) (pc' := 419) rfl (hb hby d1_443) (by decide) (by decide) (XS.iload X607.here hx rfl (hb hby d1_419) rfl (XS.iloadN X607.here hx rfl (hb hby d1_421) rfl k)))) ?_
      show Comes p e below _ (T607.setTop (mkF m 422 #[.val (.ref self), .val (.int (8 : Int32)), .val (.ref ta), .val (.ref ha), .val (.int ec), .val (.ref sa), .val (.int (2 : Int32)), .val (.ref b128), .val (.int (5 : Int32)), .val (.int v341)] [(.int (8 : Int32)), (.int (5 : Int32))]))
      have hc422_608 : (5 : Int32) < (8 : Int32) := by decide
      refine Comes.st (fun t k => XS.icmpNo X607.here hx rfl (hb hby d1_422) rfl (tlt hc422_608).2.1 (XS.aloadN X607.here hx rfl (hb hby d1_425) rfl rfl k)) ?_
      show Comes p e below _ (T607.setTop (mkF m 426 #[.val (.ref self), .val (.int (8 : Int32)), .val (.ref ta), .val (.ref ha), .val (.int ec), .val (.ref sa), .val (.int (2 : Int32)), .val (.ref b128), .val (.int (5 : Int32)), .val (.int v341)] [(.ref self)]))
      have F609 : Fld Z h607 self "com/example/ordr/ordr/layout/LayerNetwork" "excesses" "[J" (.ref b555) := (F600.other W607 (Or.inl (Ne.symm ne566)))
      obtain ⟨T610, X610, e610, st610⟩ := getF X607 hx hZ hown (host := "") (Or.inl (hw _ (List.mem_of_getElem? (i := 33) rfl))) Via.refl e607 F609 (g := (mkF m 426 #[.val (.ref self), .val (.int (8 : Int32)), .val (.ref ta), .val (.ref ha), .val (.int ec), .val (.ref sa), .val (.int (2 : Int32)), .val (.ref b128), .val (.int (5 : Int32)), .val (.int v341)] [(.ref self)])) rfl rfl (hb hby d1_426)
      refine Comes.st st610 ?_
      show Comes p e below _ (T610.setTop (mkF m 429 #[.val (.ref self), .val (.int (8 : Int32)), .val (.ref ta), .val (.ref ha), .val (.int ec), .val (.ref sa), .val (.int (2 : Int32)), .val (.ref b128), .val (.int (5 : Int32)), .val (.int v341)] [(.ref b555)]))
      refine Comes.st (fun t k => XS.iload X610.here hx rfl (hb hby d1_429) rfl (XS.aloadN X610.here hx rfl (hb hby d1_431) rfl rfl k)) ?_
      show Comes p e below _ (T610.setTop (mkF m 432 #[.val (.ref self), .val (.int (8 : Int32)), .val (.ref ta), .val (.ref ha), .val (.int ec), .val (.ref sa), .val (.int (2 : Int32)), .val (.ref b128), .val (.int (5 : Int32)), .val (.int v341)] [(.ref self), (.int (5 : Int32)), (.ref b555)]))
      have F611 : Fld Z h607 self "com/example/ordr/ordr/layout/LayerNetwork" "supplies" "[I" (.ref b421) := (F602.other W607 (Or.inl (Ne.symm ne566)))
      obtain ⟨T612, X612, e612, st612⟩ := getF X610 hx hZ hown (host := "") (Or.inl (hw _ (List.mem_of_getElem? (i := 29) rfl))) Via.refl e610 F611 (g := (mkF m 432 #[.val (.ref self), .val (.int (8 : Int32)), .val (.ref ta), .val (.ref ha), .val (.int ec), .val (.ref sa), .val (.int (2 : Int32)), .val (.ref b128), .val (.int (5 : Int32)), .val (.int v341)] [(.ref self), (.int (5 : Int32)), (.ref b555)])) rfl rfl (hb hby d1_432)
      refine Comes.st st612 ?_
      show Comes p e below _ (T612.setTop (mkF m 435 #[.val (.ref self), .val (.int (8 : Int32)), .val (.ref ta), .val (.ref ha), .val (.int ec), .val (.ref sa), .val (.int (2 : Int32)), .val (.ref b128), .val (.int (5 : Int32)), .val (.int v341)] [(.ref b421), (.int (5 : Int32)), (.ref b555)]))
      refine Comes.st (fun t k => XS.iload X612.here hx rfl (hb hby d1_435) rfl k) ?_
      show Comes p e below _ (T612.setTop (mkF m 437 #[.val (.ref self), .val (.int (8 : Int32)), .val (.ref ta), .val (.ref ha), .val (.int ec), .val (.ref sa), .val (.int (2 : Int32)), .val (.ref b128), .val (.int (5 : Int32)), .val (.int v341)] [(.int (5 : Int32)), (.ref b421), (.int (5 : Int32)), (.ref b555)]))
      have F613 : Ari Z h607 b421 8 f445 := (F604.other W607 ne576)
      obtain ⟨cl614, Ar614, S614, H614⟩ := id F613
      have hin614 : ¬ ((5 : Int32) < 0 ∨ cl614.slots.size ≤ ((5 : Int32)).toNatClampNeg) := by rw [S614]; decide
      refine Comes.st (fun t k => X612.iaload hx (j := (5 : Int32)) (v := (.int (f445 5))) (by rw [e612]; exact Ar614.1) (State.isArrayOf_alike hZ.alike Ar614.2.1) Ar614.2.2 hin614 (H614 _ (Nat.lt_of_not_le fun y => hin614 (Or.inr (S614 ▸ y)))) (g := (mkF m 437 #[.val (.ref self), .val (.int (8 : Int32)), .val (.ref ta), .val (.ref ha), .val (.int ec), .val (.ref sa), .val (.int (2 : Int32)), .val (.ref b128), .val (.int (5 : Int32)), .val (.int v341)] [(.int (5 : Int32)), (.ref b421), (.int (5 : Int32)), (.ref b555)])) rfl rfl (hb hby d1_437) _ (XS.i2l X612.here hx rfl (hb hby d1_438) rfl k)) ?_
      show Comes p e below _ (T612.setTop (mkF m 439 #[.val (.ref self), .val (.int (8 : Int32)), .val (.ref ta), .val (.ref ha), .val (.int ec), .val (.ref sa), .val (.int (2 : Int32)), .val (.ref b128), .val (.int (5 : Int32)), .val (.int v341)] [(.long ((f445 5).toInt64)), (.int (5 : Int32)), (.ref b555)]))
      generalize hv_v615 : ((f445 5).toInt64) = v615
      show Comes p e below _ (T612.setTop (mkF m 439 #[.val (.ref self), .val (.int (8 : Int32)), .val (.ref ta), .val (.ref ha), .val (.int ec), .val (.ref sa), .val (.int (2 : Int32)), .val (.ref b128), .val (.int (5 : Int32)), .val (.int v341)] [(.long v615), (.int (5 : Int32)), (.ref b555)]))
      obtain ⟨cl616, Ar616, q616, S616, Ng616, H616, Gf616⟩ := id V607
      have hin616 : ¬ ((5 : Int32) < 0 ∨ cl616.slots.size ≤ ((5 : Int32)).toNatClampNeg) := inb_of S616 ⟨by decide, by decide⟩
      obtain ⟨T616, h616, X616, e616, W616, st616⟩ := stJ X612 hx hZ e612 Ar616 (j := (5 : Int32)) hin616 (g := (mkF m 439 #[.val (.ref self), .val (.int (8 : Int32)), .val (.ref ta), .val (.ref ha), .val (.int ec), .val (.ref sa), .val (.int (2 : Int32)), .val (.ref b128), .val (.int (5 : Int32)), .val (.int v341)] [(.long v615), (.int (5 : Int32)), (.ref b555)])) rfl rfl (hb hby d1_439)
      have V616 : Arv Z h616 b555 k555 .long (8 : Int32) [(.long v565), (.long v579), (.long v588), (.long v597), (.long v606), (.long v615), (.long (0 : Int64)), (.long (0 : Int64))] (.long (0 : Int64)) := Arv.set Ar616 q616 S616 Ng616 H616 Gf616 rfl W616 5 rfl (Nat.le_of_ble_eq_true rfl)
      have z616 : h616.size = h607.size := W616.size
      have N616 := Fr.snoc X616 N607 gn569
      have K616 : Keep h0 h616 [self] := K607.wr W616 (Or.inr gz570)
      refine Comes.st st616 ?_
      show Comes p e below _ (T616.setTop (mkF m 440 #[.val (.ref self), .val (.int (8 : Int32)), .val (.ref ta), .val (.ref ha), .val (.int ec), .val (.ref sa), .val (.int (2 : Int32)), .val (.ref b128), .val (.int (5 : Int32)), .val (.int v341)] []))
      refine Comes.st (fun t k => XS.iinc X616.here hx rfl (hb hby d1_440) rfl (l' := #[.val (.ref self), .val (.int (8 : Int32)), .val (.ref ta), .val (.ref ha), .val (.int ec), .val (.ref sa), .val (.int (2 : Int32)), .val (.ref b128), .val (.int (6 : Int32)), .val (.int v341)]) rfl (XS.goto X616.here hx rfl (pc0 := 443) (pc' := 419) rfl (hb hby d1_443) (by decide) (by decide) (XS.iload X616.here hx rfl (hb hby d1_419) rfl (XS.iloadN X616.here hx rfl (hb hby d1_421) rfl k)))) ?_
      show Comes p e below _ (T616.setTop (mkF m 422 #[.val (.ref self), .val (.int (8 : Int32)), .val (.ref ta), .val (.ref ha), .val (.int ec), .val (.ref sa), .val (.int (2 : Int32)), .val (.ref b128), .val (.int (6 : Int32)), .val (.int v341)] [(.int (8 : Int32)), (.int (6 : Int32))]))
      have hc422_617 : (6 : Int32) < (8 : Int32) := by decide
      refine Comes.st (fun t k => XS.icmpNo X616.here hx rfl (hb hby d1_422) rfl (tlt hc422_617).2.1 (XS.aloadN X616.here hx rfl (hb hby d1_425) rfl rfl k)) ?_
      show Comes p e below _ (T616.setTop (mkF m 426 #[.val (.ref self), .val (.int (8 : Int32)), .val (.ref ta), .val (.ref ha), .val (.int ec), .val (.ref sa), .val (.int (2 : Int32)), .val (.ref b128), .val (.int (6 : Int32)), .val (.int v341)] [(.ref self)]))
      have F618 : Fld Z h616 self "com/example/ordr/ordr/layout/LayerNetwork" "excesses" "[J" (.ref b555) := (F609.other W616 (Or.inl (Ne.symm ne566)))
      obtain ⟨T619, X619, e619, st619⟩ := getF X616 hx hZ hown (host := "") (Or.inl (hw _ (List.mem_of_getElem? (i := 33) rfl))) Via.refl e616 F618 (g := (mkF m 426 #[.val (.ref self), .val (.int (8 : Int32)), .val (.ref ta), .val (.ref ha), .val (.int ec), .val (.ref sa), .val (.int (2 : Int32)), .val (.ref b128), .val (.int (6 : Int32)), .val (.int v341)] [(.ref self)])) rfl rfl (hb hby d1_426)
      refine Comes.st st619 ?_
      show Comes p e below _ (T619.setTop (mkF m 429 #[.val (.ref self), .val (.int (8 : Int32)), .val (.ref ta), .val (.ref ha), .val (.int ec), .val (.ref sa), .val (.int (2 : Int32)), .val (.ref b128), .val (.int (6 : Int32)), .val (.int v341)] [(.ref b555)]))
      refine Comes.st (fun t k => XS.iload X619.here hx rfl (hb hby d1_429) rfl (XS.aloadN X619.here hx rfl (hb hby d1_431) rfl rfl k)) ?_
      show Comes p e below _ (T619.setTop (mkF m 432 #[.val (.ref self), .val (.int (8 : Int32)), .val (.ref ta), .val (.ref ha), .val (.int ec), .val (.ref sa), .val (.int (2 : Int32)), .val (.ref b128), .val (.int (6 : Int32)), .val (.int v341)] [(.ref self), (.int (6 : Int32)), (.ref b555)]))
      have F620 : Fld Z h616 self "com/example/ordr/ordr/layout/LayerNetwork" "supplies" "[I" (.ref b421) := (F611.other W616 (Or.inl (Ne.symm ne566)))
      obtain ⟨T621, X621, e621, st621⟩ := getF X619 hx hZ hown (host := "") (Or.inl (hw _ (List.mem_of_getElem? (i := 29) rfl))) Via.refl e619 F620 (g := (mkF m 432 #[.val (.ref self), .val (.int (8 : Int32)), .val (.ref ta), .val (.ref ha), .val (.int ec), .val (.ref sa), .val (.int (2 : Int32)), .val (.ref b128), .val (.int (6 : Int32)), .val (.int v341)] [(.ref self), (.int (6 : Int32)), (.ref b555)])) rfl rfl (hb hby d1_432)
      refine Comes.st st621 ?_
      show Comes p e below _ (T621.setTop (mkF m 435 #[.val (.ref self), .val (.int (8 : Int32)), .val (.ref ta), .val (.ref ha), .val (.int ec), .val (.ref sa), .val (.int (2 : Int32)), .val (.ref b128), .val (.int (6 : Int32)), .val (.int v341)] [(.ref b421), (.int (6 : Int32)), (.ref b555)]))
      refine Comes.st (fun t k => XS.iload X621.here hx rfl (hb hby d1_435) rfl k) ?_
      show Comes p e below _ (T621.setTop (mkF m 437 #[.val (.ref self), .val (.int (8 : Int32)), .val (.ref ta), .val (.ref ha), .val (.int ec), .val (.ref sa), .val (.int (2 : Int32)), .val (.ref b128), .val (.int (6 : Int32)), .val (.int v341)] [(.int (6 : Int32)), (.ref b421), (.int (6 : Int32)), (.ref b555)]))
      have F622 : Ari Z h616 b421 8 f445 := (F613.other W616 ne576)
      obtain ⟨cl623, Ar623, S623, H623⟩ := id F622
      have hin623 : ¬ ((6 : Int32) < 0 ∨ cl623.slots.size ≤ ((6 : Int32)).toNatClampNeg) := by rw [S623]; decide
      refine Comes.st (fun t k => X621.iaload hx (j := (6 : Int32)) (v := (.int (f445 6))) (by rw [e621]; exact Ar623.1) (State.isArrayOf_alike hZ.alike Ar623.2.1) Ar623.2.2 hin623 (H623 _ (Nat.lt_of_not_le fun y => hin623 (Or.inr (S623 ▸ y)))) (g := (mkF m 437 #[.val (.ref self), .val (.int (8 : Int32)), .val (.ref ta), .val (.ref ha), .val (.int ec), .val (.ref sa), .val (.int (2 : Int32)), .val (.ref b128), .val (.int (6 : Int32)), .val (.int v341)] [(.int (6 : Int32)), (.ref b421), (.int (6 : Int32)), (.ref b555)])) rfl rfl (hb hby d1_437) _ (XS.i2l X621.here hx rfl (hb hby d1_438) rfl k)) ?_
      show Comes p e below _ (T621.setTop (mkF m 439 #[.val (.ref self), .val (.int (8 : Int32)), .val (.ref ta), .val (.ref ha), .val (.int ec), .val (.ref sa), .val (.int (2 : Int32)), .val (.ref b128), .val (.int (6 : Int32)), .val (.int v341)] [(.long ((f445 6).toInt64)), (.int (6 : Int32)), (.ref b555)]))
      generalize hv_v624 : ((f445 6).toInt64) = v624
      show Comes p e below _ (T621.setTop (mkF m 439 #[.val (.ref self), .val (.int (8 : Int32)), .val (.ref ta), .val (.ref ha), .val (.int ec), .val (.ref sa), .val (.int (2 : Int32)), .val (.ref b128), .val (.int (6 : Int32)), .val (.int v341)] [(.long v624), (.int (6 : Int32)), (.ref b555)]))
      obtain ⟨cl625, Ar625, q625, S625, Ng625, H625, Gf625⟩ := id V616
      have hin625 : ¬ ((6 : Int32) < 0 ∨ cl625.slots.size ≤ ((6 : Int32)).toNatClampNeg) := inb_of S625 ⟨by decide, by decide⟩
      obtain ⟨T625, h625, X625, e625, W625, st625⟩ := stJ X621 hx hZ e621 Ar625 (j := (6 : Int32)) hin625 (g := (mkF m 439 #[.val (.ref self), .val (.int (8 : Int32)), .val (.ref ta), .val (.ref ha), .val (.int ec), .val (.ref sa), .val (.int (2 : Int32)), .val (.ref b128), .val (.int (6 : Int32)), .val (.int v341)] [(.long v624), (.int (6 : Int32)), (.ref b555)])) rfl rfl (hb hby d1_439)
      have V625 : Arv Z h625 b555 k555 .long (8 : Int32) [(.long v565), (.long v579), (.long v588), (.long v597), (.long v606), (.long v615), (.long v624), (.long (0 : Int64))] (.long (0 : Int64)) := Arv.set Ar625 q625 S625 Ng625 H625 Gf625 rfl W625 6 rfl (Nat.le_of_ble_eq_true rfl)
      have z625 : h625.size = h616.size := W625.size
      have N625 := Fr.snoc X625 N616 gn569
      have K625 : Keep h0 h625 [self] := K616.wr W625 (Or.inr gz570)
      refine Comes.st st625 ?_
      show Comes p e below _ (T625.setTop (mkF m 440 #[.val (.ref self), .val (.int (8 : Int32)), .val (.ref ta), .val (.ref ha), .val (.int ec), .val (.ref sa), .val (.int (2 : Int32)), .val (.ref b128), .val (.int (6 : Int32)), .val (.int v341)] []))
      refine Comes.st (fun t k => XS.iinc X625.here hx rfl (hb hby d1_440) rfl (l' := #[.val (.ref self), .val (.int (8 : Int32)), .val (.ref ta), .val (.ref ha), .val (.int ec), .val (.ref sa), .val (.int (2 : Int32)), .val (.ref b128), .val (.int (7 : Int32)), .val (.int v341)]) rfl (XS.goto X625.here hx rfl (pc0 := 443) (pc' := 419) rfl (hb hby d1_443) (by decide) (by decide) (XS.iload X625.here hx rfl (hb hby d1_419) rfl (XS.iloadN X625.here hx rfl (hb hby d1_421) rfl k)))) ?_
      show Comes p e below _ (T625.setTop (mkF m 422 #[.val (.ref self), .val (.int (8 : Int32)), .val (.ref ta), .val (.ref ha), .val (.int ec), .val (.ref sa), .val (.int (2 : Int32)), .val (.ref b128), .val (.int (7 : Int32)), .val (.int v341)] [(.int (8 : Int32)), (.int (7 : Int32))]))
      have hc422_626 : (7 : Int32) < (8 : Int32) := by decide
      refine Comes.st (fun t k => XS.icmpNo X625.here hx rfl (hb hby d1_422) rfl (tlt hc422_626).2.1 (XS.aloadN X625.here hx rfl (hb hby d1_425) rfl rfl k)) ?_
      show Comes p e below _ (T625.setTop (mkF m 426 #[.val (.ref self), .val (.int (8 : Int32)), .val (.ref ta), .val (.ref ha), .val (.int ec), .val (.ref sa), .val (.int (2 : Int32)), .val (.ref b128), .val (.int (7 : Int32)), .val (.int v341)] [(.ref self)]))
      have F627 : Fld Z h625 self "com/example/ordr/ordr/layout/LayerNetwork" "excesses" "[J" (.ref b555) := (F618.other W625 (Or.inl (Ne.symm ne566)))
      obtain ⟨T628, X628, e628, st628⟩ := getF X625 hx hZ hown (host := "") (Or.inl (hw _ (List.mem_of_getElem? (i := 33) rfl))) Via.refl e625 F627 (g := (mkF m 426 #[.val (.ref self), .val (.int (8 : Int32)), .val (.ref ta), .val (.ref ha), .val (.int ec), .val (.ref sa), .val (.int (2 : Int32)), .val (.ref b128), .val (.int (7 : Int32)), .val (.int v341)] [(.ref self)])) rfl rfl (hb hby d1_426)
      refine Comes.st st628 ?_
      show Comes p e below _ (T628.setTop (mkF m 429 #[.val (.ref self), .val (.int (8 : Int32)), .val (.ref ta), .val (.ref ha), .val (.int ec), .val (.ref sa), .val (.int (2 : Int32)), .val (.ref b128), .val (.int (7 : Int32)), .val (.int v341)] [(.ref b555)]))
      refine Comes.st (fun t k => XS.iload X628.here hx rfl (hb hby d1_429) rfl (XS.aloadN X628.here hx rfl (hb hby d1_431) rfl rfl k)) ?_
      show Comes p e below _ (T628.setTop (mkF m 432 #[.val (.ref self), .val (.int (8 : Int32)), .val (.ref ta), .val (.ref ha), .val (.int ec), .val (.ref sa), .val (.int (2 : Int32)), .val (.ref b128), .val (.int (7 : Int32)), .val (.int v341)] [(.ref self), (.int (7 : Int32)), (.ref b555)]))
      have F629 : Fld Z h625 self "com/example/ordr/ordr/layout/LayerNetwork" "supplies" "[I" (.ref b421) := (F620.other W625 (Or.inl (Ne.symm ne566)))
      obtain ⟨T630, X630, e630, st630⟩ := getF X628 hx hZ hown (host := "") (Or.inl (hw _ (List.mem_of_getElem? (i := 29) rfl))) Via.refl e628 F629 (g := (mkF m 432 #[.val (.ref self), .val (.int (8 : Int32)), .val (.ref ta), .val (.ref ha), .val (.int ec), .val (.ref sa), .val (.int (2 : Int32)), .val (.ref b128), .val (.int (7 : Int32)), .val (.int v341)] [(.ref self), (.int (7 : Int32)), (.ref b555)])) rfl rfl (hb hby d1_432)
      refine Comes.st st630 ?_
      show Comes p e below _ (T630.setTop (mkF m 435 #[.val (.ref self), .val (.int (8 : Int32)), .val (.ref ta), .val (.ref ha), .val (.int ec), .val (.ref sa), .val (.int (2 : Int32)), .val (.ref b128), .val (.int (7 : Int32)), .val (.int v341)] [(.ref b421), (.int (7 : Int32)), (.ref b555)]))
      refine Comes.st (fun t k => XS.iload X630.here hx rfl (hb hby d1_435) rfl k) ?_
      show Comes p e below _ (T630.setTop (mkF m 437 #[.val (.ref self), .val (.int (8 : Int32)), .val (.ref ta), .val (.ref ha), .val (.int ec), .val (.ref sa), .val (.int (2 : Int32)), .val (.ref b128), .val (.int (7 : Int32)), .val (.int v341)] [(.int (7 : Int32)), (.ref b421), (.int (7 : Int32)), (.ref b555)]))
      have F631 : Ari Z h625 b421 8 f445 := (F622.other W625 ne576)
      obtain ⟨cl632, Ar632, S632, H632⟩ := id F631
      have hin632 : ¬ ((7 : Int32) < 0 ∨ cl632.slots.size ≤ ((7 : Int32)).toNatClampNeg) := by rw [S632]; decide
      refine Comes.st (fun t k => X630.iaload hx (j := (7 : Int32)) (v := (.int (f445 7))) (by rw [e630]; exact Ar632.1) (State.isArrayOf_alike hZ.alike Ar632.2.1) Ar632.2.2 hin632 (H632 _ (Nat.lt_of_not_le fun y => hin632 (Or.inr (S632 ▸ y)))) (g := (mkF m 437 #[.val (.ref self), .val (.int (8 : Int32)), .val (.ref ta), .val (.ref ha), .val (.int ec), .val (.ref sa), .val (.int (2 : Int32)), .val (.ref b128), .val (.int (7 : Int32)), .val (.int v341)] [(.int (7 : Int32)), (.ref b421), (.int (7 : Int32)), (.ref b555)])) rfl rfl (hb hby d1_437) _ (XS.i2l X630.here hx rfl (hb hby d1_438) rfl k)) ?_
      show Comes p e below _ (T630.setTop (mkF m 439 #[.val (.ref self), .val (.int (8 : Int32)), .val (.ref ta), .val (.ref ha), .val (.int ec), .val (.ref sa), .val (.int (2 : Int32)), .val (.ref b128), .val (.int (7 : Int32)), .val (.int v341)] [(.long ((f445 7).toInt64)), (.int (7 : Int32)), (.ref b555)]))
      generalize hv_v633 : ((f445 7).toInt64) = v633
      show Comes p e below _ (T630.setTop (mkF m 439 #[.val (.ref self), .val (.int (8 : Int32)), .val (.ref ta), .val (.ref ha), .val (.int ec), .val (.ref sa), .val (.int (2 : Int32)), .val (.ref b128), .val (.int (7 : Int32)), .val (.int v341)] [(.long v633), (.int (7 : Int32)), (.ref b555)]))
      obtain ⟨cl634, Ar634, q634, S634, Ng634, H634, Gf634⟩ := id V625
      have hin634 : ¬ ((7 : Int32) < 0 ∨ cl634.slots.size ≤ ((7 : Int32)).toNatClampNeg) := inb_of S634 ⟨by decide, by decide⟩
      obtain ⟨T634, h634, X634, e634, W634, st634⟩ := stJ X630 hx hZ e630 Ar634 (j := (7 : Int32)) hin634 (g := (mkF m 439 #[.val (.ref self), .val (.int (8 : Int32)), .val (.ref ta), .val (.ref ha), .val (.int ec), .val (.ref sa), .val (.int (2 : Int32)), .val (.ref b128), .val (.int (7 : Int32)), .val (.int v341)] [(.long v633), (.int (7 : Int32)), (.ref b555)])) rfl rfl (hb hby d1_439)
      have V634 : Arv Z h634 b555 k555 .long (8 : Int32) [(.long v565), (.long v579), (.long v588), (.long v597), (.long v606), (.long v615), (.long v624), (.long v633)] (.long (0 : Int64)) := Arv.set Ar634 q634 S634 Ng634 H634 Gf634 rfl W634 7 rfl (Nat.le_of_ble_eq_true rfl)
      have z634 : h634.size = h625.size := W634.size
      have N634 := Fr.snoc X634 N625 gn569
      have K634 : Keep h0 h634 [self] := K625.wr W634 (Or.inr gz570)
      refine Comes.st st634 ?_
      show Comes p e below _ (T634.setTop (mkF m 440 #[.val (.ref self), .val (.int (8 : Int32)), .val (.ref ta), .val (.ref ha), .val (.int ec), .val (.ref sa), .val (.int (2 : Int32)), .val (.ref b128), .val (.int (7 : Int32)), .val (.int v341)] []))
      refine Comes.st (fun t k => XS.iinc X634.here hx rfl (hb hby d1_440) rfl (l' := #[.val (.ref self), .val (.int (8 : Int32)), .val (.ref ta), .val (.ref ha), .val (.int ec), .val (.ref sa), .val (.int (2 : Int32)), .val (.ref b128), .val (.int (8 : Int32)), .val (.int v341)]) rfl (XS.goto X634.here hx rfl (pc0 := 443) (pc' := 419) rfl (hb hby d1_443) (by decide) (by decide) (XS.iload X634.here hx rfl (hb hby d1_419) rfl (XS.iloadN X634.here hx rfl (hb hby d1_421) rfl k)))) ?_
      show Comes p e below _ (T634.setTop (mkF m 422 #[.val (.ref self), .val (.int (8 : Int32)), .val (.ref ta), .val (.ref ha), .val (.int ec), .val (.ref sa), .val (.int (2 : Int32)), .val (.ref b128), .val (.int (8 : Int32)), .val (.int v341)] [(.int (8 : Int32)), (.int (8 : Int32))]))
      have hc422_635 : ¬ ((8 : Int32) < (8 : Int32)) := by decide
      refine Comes.st (fun t k => XS.icmpYes X634.here hx rfl (pc0 := 422) (pc' := 446) rfl (hb hby d1_422) rfl (flt hc422_635).2.1 (by decide) (by decide) k) ?_
      show Comes p e below _ (T634.setTop (mkF m 446 #[.val (.ref self), .val (.int (8 : Int32)), .val (.ref ta), .val (.ref ha), .val (.int ec), .val (.ref sa), .val (.int (2 : Int32)), .val (.ref b128), .val (.int (8 : Int32)), .val (.int v341)] []))
      have F636 : Exa Z h634 self "com/example/ordr/ordr/layout/LayerNetwork" := (((((((((F556.wr W558).wr W568).wr W580).wr W589).wr W598).wr W607).wr W616).wr W625).wr W634)
      have F637 : Fld Z h634 self "com/example/ordr/ordr/layout/LayerNetwork" "tails" "[I" (.ref ta) := ((((((((((((((((((((((((((((((((((((((((((((((((((((((((((((((((((((Fw9.other W12 (Or.inr (slot_ne (Or.inr (hw _ (List.mem_of_getElem? (i := 15) rfl))) (Or.inr (hw _ (List.mem_of_getElem? (i := 17) rfl))) (by decide) (t := (.array .int)) (t' := (.array .int)) (by decide) (by decide)))).ext E15).other W18 (Or.inr (slot_ne (Or.inr (hw _ (List.mem_of_getElem? (i := 15) rfl))) (Or.inr (hw _ (List.mem_of_getElem? (i := 19) rfl))) (by decide) (t := (.array .int)) (t' := (.array .int)) (by decide) (by decide)))).other W27 (Or.inl (Ne.symm ne23))).other W37 (Or.inl (Ne.symm ne23))).other W46 (Or.inl (Ne.symm ne23))).other W53 (Or.inl (Ne.symm ne23))).other W62 (Or.inl (Ne.symm ne23))).other W70 (Or.inl (Ne.symm ne23))).other W78 (Or.inl (Ne.symm ne23))).other W86 (Or.inl (Ne.symm ne23))).other W94 (Or.inl (Ne.symm ne23))).other W102 (Or.inl (Ne.symm ne23))).other W110 (Or.inl (Ne.symm ne23))).other W118 (Or.inl (Ne.symm ne23))).ext E120).other W123 (Or.inr (slot_ne (Or.inr (hw _ (List.mem_of_getElem? (i := 15) rfl))) (Or.inr (hw _ (List.mem_of_getElem? (i := 21) rfl))) (by decide) (t := (.array .int)) (t' := (.array .int)) (by decide) (by decide)))).ext E124).other W127 (Or.inr (slot_ne (Or.inr (hw _ (List.mem_of_getElem? (i := 15) rfl))) (Or.inr (hw _ (List.mem_of_getElem? (i := 23) rfl))) (by decide) (t := (.array .int)) (t' := (.array .int)) (by decide) (by decide)))).ext E128).other W143 (Or.inl (Ne.symm ne141))).other W154 (Or.inl (Ne.symm ne151))).other W166 (Or.inl ne170)).other W187 (Or.inl (Ne.symm ne141))).other W195 (Or.inl (Ne.symm ne151))).other W201 (Or.inl ne170)).ext E203).other W206 (Or.inr (slot_ne (Or.inr (hw _ (List.mem_of_getElem? (i := 15) rfl))) (Or.inr (hw _ (List.mem_of_getElem? (i := 25) rfl))) (by decide) (t := (.array .int)) (t' := (.array .int)) (by decide) (by decide)))).other W218 (Or.inl (Ne.symm ne216))).other W233 (Or.inl (Ne.symm ne216))).other W244 (Or.inl (Ne.symm ne216))).other W255 (Or.inl (Ne.symm ne216))).other W266 (Or.inl (Ne.symm ne216))).other W277 (Or.inl (Ne.symm ne216))).other W288 (Or.inl (Ne.symm ne216))).other W299 (Or.inl (Ne.symm ne216))).other W317 (Or.inl (Ne.symm ne141))).other W325 (Or.inl (Ne.symm ne151))).other W331 (Or.inl ne170)).other W345 (Or.inl (Ne.symm ne141))).other W351 (Or.inl (Ne.symm ne151))).other W357 (Or.inl ne170)).ext E359).other W362 (Or.inr (slot_ne (Or.inr (hw _ (List.mem_of_getElem? (i := 15) rfl))) (Or.inr (hw _ (List.mem_of_getElem? (i := 28) rfl))) (by decide) (t := (.array .int)) (t' := (.array .long)) (by decide) (by decide)))).other W374 (Or.inl (Ne.symm ne372))).other W383 (Or.inl (Ne.symm ne372))).other W389 (Or.inl (Ne.symm ne372))).other W395 (Or.inl (Ne.symm ne372))).other W401 (Or.inl (Ne.symm ne372))).other W407 (Or.inl (Ne.symm ne372))).other W413 (Or.inl (Ne.symm ne372))).other W419 (Or.inl (Ne.symm ne372))).ext E421).other W424 (Or.inr (slot_ne (Or.inr (hw _ (List.mem_of_getElem? (i := 15) rfl))) (Or.inr (hw _ (List.mem_of_getElem? (i := 30) rfl))) (by decide) (t := (.array .int)) (t' := (.array .int)) (by decide) (by decide)))).other W434 (Or.inl (Ne.symm ne430))).other W445 (Or.inl (Ne.symm ne430))).ext E551).other W554 (Or.inr (slot_ne (Or.inr (hw _ (List.mem_of_getElem? (i := 15) rfl))) (Or.inr (hw _ (List.mem_of_getElem? (i := 32) rfl))) (by decide) (t := (.array .int)) (t' := (.array .long)) (by decide) (by decide)))).ext E555).other W558 (Or.inr (slot_ne (Or.inr (hw _ (List.mem_of_getElem? (i := 15) rfl))) (Or.inr (hw _ (List.mem_of_getElem? (i := 34) rfl))) (by decide) (t := (.array .int)) (t' := (.array .long)) (by decide) (by decide)))).other W568 (Or.inl (Ne.symm ne566))).other W580 (Or.inl (Ne.symm ne566))).other W589 (Or.inl (Ne.symm ne566))).other W598 (Or.inl (Ne.symm ne566))).other W607 (Or.inl (Ne.symm ne566))).other W616 (Or.inl (Ne.symm ne566))).other W625 (Or.inl (Ne.symm ne566))).other W634 (Or.inl (Ne.symm ne566)))
      have F638 : Fld Z h634 self "com/example/ordr/ordr/layout/LayerNetwork" "heads" "[I" (.ref ha) := (((((((((((((((((((((((((((((((((((((((((((((((((((((((((((((((((((Fw12.ext E15).other W18 (Or.inr (slot_ne (Or.inr (hw _ (List.mem_of_getElem? (i := 17) rfl))) (Or.inr (hw _ (List.mem_of_getElem? (i := 19) rfl))) (by decide) (t := (.array .int)) (t' := (.array .int)) (by decide) (by decide)))).other W27 (Or.inl (Ne.symm ne23))).other W37 (Or.inl (Ne.symm ne23))).other W46 (Or.inl (Ne.symm ne23))).other W53 (Or.inl (Ne.symm ne23))).other W62 (Or.inl (Ne.symm ne23))).other W70 (Or.inl (Ne.symm ne23))).other W78 (Or.inl (Ne.symm ne23))).other W86 (Or.inl (Ne.symm ne23))).other W94 (Or.inl (Ne.symm ne23))).other W102 (Or.inl (Ne.symm ne23))).other W110 (Or.inl (Ne.symm ne23))).other W118 (Or.inl (Ne.symm ne23))).ext E120).other W123 (Or.inr (slot_ne (Or.inr (hw _ (List.mem_of_getElem? (i := 17) rfl))) (Or.inr (hw _ (List.mem_of_getElem? (i := 21) rfl))) (by decide) (t := (.array .int)) (t' := (.array .int)) (by decide) (by decide)))).ext E124).other W127 (Or.inr (slot_ne (Or.inr (hw _ (List.mem_of_getElem? (i := 17) rfl))) (Or.inr (hw _ (List.mem_of_getElem? (i := 23) rfl))) (by decide) (t := (.array .int)) (t' := (.array .int)) (by decide) (by decide)))).ext E128).other W143 (Or.inl (Ne.symm ne141))).other W154 (Or.inl (Ne.symm ne151))).other W166 (Or.inl ne170)).other W187 (Or.inl (Ne.symm ne141))).other W195 (Or.inl (Ne.symm ne151))).other W201 (Or.inl ne170)).ext E203).other W206 (Or.inr (slot_ne (Or.inr (hw _ (List.mem_of_getElem? (i := 17) rfl))) (Or.inr (hw _ (List.mem_of_getElem? (i := 25) rfl))) (by decide) (t := (.array .int)) (t' := (.array .int)) (by decide) (by decide)))).other W218 (Or.inl (Ne.symm ne216))).other W233 (Or.inl (Ne.symm ne216))).other W244 (Or.inl (Ne.symm ne216))).other W255 (Or.inl (Ne.symm ne216))).other W266 (Or.inl (Ne.symm ne216))).other W277 (Or.inl (Ne.symm ne216))).other W288 (Or.inl (Ne.symm ne216))).other W299 (Or.inl (Ne.symm ne216))).other W317 (Or.inl (Ne.symm ne141))).other W325 (Or.inl (Ne.symm ne151))).other W331 (Or.inl ne170)).other W345 (Or.inl (Ne.symm ne141))).other W351 (Or.inl (Ne.symm ne151))).other W357 (Or.inl ne170)).ext E359).other W362 (Or.inr (slot_ne (Or.inr (hw _ (List.mem_of_getElem? (i := 17) rfl))) (Or.inr (hw _ (List.mem_of_getElem? (i := 28) rfl))) (by decide) (t := (.array .int)) (t' := (.array .long)) (by decide) (by decide)))).other W374 (Or.inl (Ne.symm ne372))).other W383 (Or.inl (Ne.symm ne372))).other W389 (Or.inl (Ne.symm ne372))).other W395 (Or.inl (Ne.symm ne372))).other W401 (Or.inl (Ne.symm ne372))).other W407 (Or.inl (Ne.symm ne372))).other W413 (Or.inl (Ne.symm ne372))).other W419 (Or.inl (Ne.symm ne372))).ext E421).other W424 (Or.inr (slot_ne (Or.inr (hw _ (List.mem_of_getElem? (i := 17) rfl))) (Or.inr (hw _ (List.mem_of_getElem? (i := 30) rfl))) (by decide) (t := (.array .int)) (t' := (.array .int)) (by decide) (by decide)))).other W434 (Or.inl (Ne.symm ne430))).other W445 (Or.inl (Ne.symm ne430))).ext E551).other W554 (Or.inr (slot_ne (Or.inr (hw _ (List.mem_of_getElem? (i := 17) rfl))) (Or.inr (hw _ (List.mem_of_getElem? (i := 32) rfl))) (by decide) (t := (.array .int)) (t' := (.array .long)) (by decide) (by decide)))).ext E555).other W558 (Or.inr (slot_ne (Or.inr (hw _ (List.mem_of_getElem? (i := 17) rfl))) (Or.inr (hw _ (List.mem_of_getElem? (i := 34) rfl))) (by decide) (t := (.array .int)) (t' := (.array .long)) (by decide) (by decide)))).other W568 (Or.inl (Ne.symm ne566))).other W580 (Or.inl (Ne.symm ne566))).other W589 (Or.inl (Ne.symm ne566))).other W598 (Or.inl (Ne.symm ne566))).other W607 (Or.inl (Ne.symm ne566))).other W616 (Or.inl (Ne.symm ne566))).other W625 (Or.inl (Ne.symm ne566))).other W634 (Or.inl (Ne.symm ne566)))
      exact Comes.ret0 X634 hx Bd.returns hlk (hb hby d1_446) e634 ⟨rfl, N634, K634, F636, F637, F638⟩ (by decide) (by decide)
  · refine Comes.st (fun t k => XS.icmpYes X424.here hx rfl (pc0 := 366) (pc' := 401) rfl (hb hby d1_366) rfl (flt hc366_425).2.1 (by decide) (by decide) (XS.aloadN X424.here hx rfl (hb hby d1_401) rfl rfl (XS.iload X424.here hx rfl (hb hby d1_402) rfl k))) ?_
    show Comes p e below _ (T424.setTop (mkF m 404 #[.val (.ref self), .val (.int (8 : Int32)), .val (.ref ta), .val (.ref ha), .val (.int ec), .val (.ref sa), .val (.int (2 : Int32)), .val (.ref b128), .val (.int (0 : Int32)), .val (.int v341)] [(.int (2 : Int32)), (.ref self)]))
    obtain ⟨T639, h639, k639, X639, e639, E639, A639, st639⟩ := newP X424 hx hZ (hw _ (List.mem_of_getElem? (i := 26) rfl)) e424 (g := (mkF m 404 #[.val (.ref self), .val (.int (8 : Int32)), .val (.ref ta), .val (.ref ha), .val (.int ec), .val (.ref sa), .val (.int (2 : Int32)), .val (.ref b128), .val (.int (0 : Int32)), .val (.int v341)] [(.int (2 : Int32)), (.ref self)])) rfl (hb hby d1_404) rfl (by decide) (cap := 2) (by decide) (by decide) (by decide) (by decide)
    obtain ⟨b639, g639⟩ : ∃ z, z = h424.size := ⟨_, rfl⟩
    rw [← g639] at A639 st639
    have z639 : h424.size ≤ h639.size := E639.1
    have lt639 : b639 < h639.size := A639.lt
    have V639 : Arv Z h639 b639 k639 .long (2 : Int32) [(.long (0 : Int64)), (.long (0 : Int64))] (.long (0 : Int64)) := (Arv.new A639 (by decide)).pad (pad_rep [] (.long (0 : Int64)) 2)
    have K639 : Keep h0 h639 [self] := K424.ext E639
    refine Comes.st st639 ?_
    show Comes p e below _ (T639.setTop (mkF m 406 #[.val (.ref self), .val (.int (8 : Int32)), .val (.ref ta), .val (.ref ha), .val (.int ec), .val (.ref sa), .val (.int (2 : Int32)), .val (.ref b128), .val (.int (0 : Int32)), .val (.int v341)] [(.ref b639), (.ref self)]))
    have F640 : Exa Z h639 self "com/example/ordr/ordr/layout/LayerNetwork" := ((F422.wr W424).ext E639)
    have F641 : Fld Z h639 self "com/example/ordr/ordr/layout/LayerNetwork" "flows" "[J" .null := ((((((((((((((((((((((((((((((((((((((((((((((((((((((((((G11.other W2 (Or.inr (slot_ne (Or.inr (hw _ (List.mem_of_getElem? (i := 32) rfl))) (Or.inr (hw _ (List.mem_of_getElem? (i := 11) rfl))) (by decide) (t := (.array .long)) (t' := .int) (by decide) (by decide)))).other W6 (Or.inr (slot_ne (Or.inr (hw _ (List.mem_of_getElem? (i := 32) rfl))) (Or.inr (hw _ (List.mem_of_getElem? (i := 13) rfl))) (by decide) (t := (.array .long)) (t' := .int) (by decide) (by decide)))).other W9 (Or.inr (slot_ne (Or.inr (hw _ (List.mem_of_getElem? (i := 32) rfl))) (Or.inr (hw _ (List.mem_of_getElem? (i := 15) rfl))) (by decide) (t := (.array .long)) (t' := (.array .int)) (by decide) (by decide)))).other W12 (Or.inr (slot_ne (Or.inr (hw _ (List.mem_of_getElem? (i := 32) rfl))) (Or.inr (hw _ (List.mem_of_getElem? (i := 17) rfl))) (by decide) (t := (.array .long)) (t' := (.array .int)) (by decide) (by decide)))).ext E15).other W18 (Or.inr (slot_ne (Or.inr (hw _ (List.mem_of_getElem? (i := 32) rfl))) (Or.inr (hw _ (List.mem_of_getElem? (i := 19) rfl))) (by decide) (t := (.array .long)) (t' := (.array .int)) (by decide) (by decide)))).other W27 (Or.inl (Ne.symm ne23))).other W37 (Or.inl (Ne.symm ne23))).other W46 (Or.inl (Ne.symm ne23))).other W53 (Or.inl (Ne.symm ne23))).other W62 (Or.inl (Ne.symm ne23))).other W70 (Or.inl (Ne.symm ne23))).other W78 (Or.inl (Ne.symm ne23))).other W86 (Or.inl (Ne.symm ne23))).other W94 (Or.inl (Ne.symm ne23))).other W102 (Or.inl (Ne.symm ne23))).other W110 (Or.inl (Ne.symm ne23))).other W118 (Or.inl (Ne.symm ne23))).ext E120).other W123 (Or.inr (slot_ne (Or.inr (hw _ (List.mem_of_getElem? (i := 32) rfl))) (Or.inr (hw _ (List.mem_of_getElem? (i := 21) rfl))) (by decide) (t := (.array .long)) (t' := (.array .int)) (by decide) (by decide)))).ext E124).other W127 (Or.inr (slot_ne (Or.inr (hw _ (List.mem_of_getElem? (i := 32) rfl))) (Or.inr (hw _ (List.mem_of_getElem? (i := 23) rfl))) (by decide) (t := (.array .long)) (t' := (.array .int)) (by decide) (by decide)))).ext E128).other W143 (Or.inl (Ne.symm ne141))).other W154 (Or.inl (Ne.symm ne151))).other W166 (Or.inl ne170)).other W187 (Or.inl (Ne.symm ne141))).other W195 (Or.inl (Ne.symm ne151))).other W201 (Or.inl ne170)).ext E203).other W206 (Or.inr (slot_ne (Or.inr (hw _ (List.mem_of_getElem? (i := 32) rfl))) (Or.inr (hw _ (List.mem_of_getElem? (i := 25) rfl))) (by decide) (t := (.array .long)) (t' := (.array .int)) (by decide) (by decide)))).other W218 (Or.inl (Ne.symm ne216))).other W233 (Or.inl (Ne.symm ne216))).other W244 (Or.inl (Ne.symm ne216))).other W255 (Or.inl (Ne.symm ne216))).other W266 (Or.inl (Ne.symm ne216))).other W277 (Or.inl (Ne.symm ne216))).other W288 (Or.inl (Ne.symm ne216))).other W299 (Or.inl (Ne.symm ne216))).other W317 (Or.inl (Ne.symm ne141))).other W325 (Or.inl (Ne.symm ne151))).other W331 (Or.inl ne170)).other W345 (Or.inl (Ne.symm ne141))).other W351 (Or.inl (Ne.symm ne151))).other W357 (Or.inl ne170)).ext E359).other W362 (Or.inr (slot_ne (Or.inr (hw _ (List.mem_of_getElem? (i := 32) rfl))) (Or.inr (hw _ (List.mem_of_getElem? (i := 28) rfl))) (by decide) (t := (.array .long)) (t' := (.array .long)) (by decide) (by decide)))).other W374 (Or.inl (Ne.symm ne372))).other W383 (Or.inl (Ne.symm ne372))).other W389 (Or.inl (Ne.symm ne372))).other W395 (Or.inl (Ne.symm ne372))).other W401 (Or.inl (Ne.symm ne372))).other W407 (Or.inl (Ne.symm ne372))).other W413 (Or.inl (Ne.symm ne372))).other W419 (Or.inl (Ne.symm ne372))).ext E421).other W424 (Or.inr (slot_ne (Or.inr (hw _ (List.mem_of_getElem? (i := 32) rfl))) (Or.inr (hw _ (List.mem_of_getElem? (i := 30) rfl))) (by decide) (t := (.array .long)) (t' := (.array .int)) (by decide) (by decide)))).ext E639)
    obtain ⟨T642, h642, X642, e642, W642, st642⟩ := putF X639 hx hZ hown (host := "") (Or.inl (hw _ (List.mem_of_getElem? (i := 31) rfl))) Via.refl e639 F641 F640 (Or.inr ⟨(hw _ (List.mem_of_getElem? (i := 32) rfl)), rfl, hnm⟩) (hw _ (List.mem_of_getElem? (i := 2) rfl)) (ty := (.array .long)) (by decide) rfl rfl (g := (mkF m 406 #[.val (.ref self), .val (.int (8 : Int32)), .val (.ref ta), .val (.ref ha), .val (.int ec), .val (.ref sa), .val (.int (2 : Int32)), .val (.ref b128), .val (.int (0 : Int32)), .val (.int v341)] [(.ref b639), (.ref self)])) rfl rfl (hb hby d1_406)
    have Fw642 := F641.same W642
    have z642 : h642.size = h639.size := W642.size
    have N642 := Fr.snoc X642 N424 gn3
    have K642 : Keep h0 h642 [self] := K639.wr W642 (Or.inl (List.mem_of_getElem? (i := 0) rfl))
    refine Comes.st st642 ?_
    show Comes p e below _ (T642.setTop (mkF m 409 #[.val (.ref self), .val (.int (8 : Int32)), .val (.ref ta), .val (.ref ha), .val (.int ec), .val (.ref sa), .val (.int (2 : Int32)), .val (.ref b128), .val (.int (0 : Int32)), .val (.int v341)] []))
    refine Comes.st (fun t k => XS.aloadN X642.here hx rfl (hb hby d1_409) rfl rfl (XS.iloadN X642.here hx rfl (hb hby d1_410) rfl k)) ?_
    show Comes p e below _ (T642.setTop (mkF m 411 #[.val (.ref self), .val (.int (8 : Int32)), .val (.ref ta), .val (.ref ha), .val (.int ec), .val (.ref sa), .val (.int (2 : Int32)), .val (.ref b128), .val (.int (0 : Int32)), .val (.int v341)] [(.int (8 : Int32)), (.ref self)]))
    obtain ⟨T643, h643, k643, X643, e643, E643, A643, st643⟩ := newP X642 hx hZ (hw _ (List.mem_of_getElem? (i := 26) rfl)) e642 (g := (mkF m 411 #[.val (.ref self), .val (.int (8 : Int32)), .val (.ref ta), .val (.ref ha), .val (.int ec), .val (.ref sa), .val (.int (2 : Int32)), .val (.ref b128), .val (.int (0 : Int32)), .val (.int v341)] [(.int (8 : Int32)), (.ref self)])) rfl (hb hby d1_411) rfl (by decide) (cap := 8) (by decide) (by decide) (by decide) (by decide)
    obtain ⟨b643, g643⟩ : ∃ z, z = h642.size := ⟨_, rfl⟩
    rw [← g643] at A643 st643
    have z643 : h642.size ≤ h643.size := E643.1
    have lt643 : b643 < h643.size := A643.lt
    have V643 : Arv Z h643 b643 k643 .long (8 : Int32) [(.long (0 : Int64)), (.long (0 : Int64)), (.long (0 : Int64)), (.long (0 : Int64)), (.long (0 : Int64)), (.long (0 : Int64)), (.long (0 : Int64)), (.long (0 : Int64))] (.long (0 : Int64)) := (Arv.new A643 (by decide)).pad (pad_rep [] (.long (0 : Int64)) 8)
    have K643 : Keep h0 h643 [self] := K642.ext E643
    refine Comes.st st643 ?_
    show Comes p e below _ (T643.setTop (mkF m 413 #[.val (.ref self), .val (.int (8 : Int32)), .val (.ref ta), .val (.ref ha), .val (.int ec), .val (.ref sa), .val (.int (2 : Int32)), .val (.ref b128), .val (.int (0 : Int32)), .val (.int v341)] [(.ref b643), (.ref self)]))
    have F644 : Exa Z h643 self "com/example/ordr/ordr/layout/LayerNetwork" := ((F640.wr W642).ext E643)
    have F645 : Fld Z h643 self "com/example/ordr/ordr/layout/LayerNetwork" "excesses" "[J" .null := ((((((((((((((((((((((((((((((((((((((((((((((((((((((((((((G12.other W2 (Or.inr (slot_ne (Or.inr (hw _ (List.mem_of_getElem? (i := 34) rfl))) (Or.inr (hw _ (List.mem_of_getElem? (i := 11) rfl))) (by decide) (t := (.array .long)) (t' := .int) (by decide) (by decide)))).other W6 (Or.inr (slot_ne (Or.inr (hw _ (List.mem_of_getElem? (i := 34) rfl))) (Or.inr (hw _ (List.mem_of_getElem? (i := 13) rfl))) (by decide) (t := (.array .long)) (t' := .int) (by decide) (by decide)))).other W9 (Or.inr (slot_ne (Or.inr (hw _ (List.mem_of_getElem? (i := 34) rfl))) (Or.inr (hw _ (List.mem_of_getElem? (i := 15) rfl))) (by decide) (t := (.array .long)) (t' := (.array .int)) (by decide) (by decide)))).other W12 (Or.inr (slot_ne (Or.inr (hw _ (List.mem_of_getElem? (i := 34) rfl))) (Or.inr (hw _ (List.mem_of_getElem? (i := 17) rfl))) (by decide) (t := (.array .long)) (t' := (.array .int)) (by decide) (by decide)))).ext E15).other W18 (Or.inr (slot_ne (Or.inr (hw _ (List.mem_of_getElem? (i := 34) rfl))) (Or.inr (hw _ (List.mem_of_getElem? (i := 19) rfl))) (by decide) (t := (.array .long)) (t' := (.array .int)) (by decide) (by decide)))).other W27 (Or.inl (Ne.symm ne23))).other W37 (Or.inl (Ne.symm ne23))).other W46 (Or.inl (Ne.symm ne23))).other W53 (Or.inl (Ne.symm ne23))).other W62 (Or.inl (Ne.symm ne23))).other W70 (Or.inl (Ne.symm ne23))).other W78 (Or.inl (Ne.symm ne23))).other W86 (Or.inl (Ne.symm ne23))).other W94 (Or.inl (Ne.symm ne23))).other W102 (Or.inl (Ne.symm ne23))).other W110 (Or.inl (Ne.symm ne23))).other W118 (Or.inl (Ne.symm ne23))).ext E120).other W123 (Or.inr (slot_ne (Or.inr (hw _ (List.mem_of_getElem? (i := 34) rfl))) (Or.inr (hw _ (List.mem_of_getElem? (i := 21) rfl))) (by decide) (t := (.array .long)) (t' := (.array .int)) (by decide) (by decide)))).ext E124).other W127 (Or.inr (slot_ne (Or.inr (hw _ (List.mem_of_getElem? (i := 34) rfl))) (Or.inr (hw _ (List.mem_of_getElem? (i := 23) rfl))) (by decide) (t := (.array .long)) (t' := (.array .int)) (by decide) (by decide)))).ext E128).other W143 (Or.inl (Ne.symm ne141))).other W154 (Or.inl (Ne.symm ne151))).other W166 (Or.inl ne170)).other W187 (Or.inl (Ne.symm ne141))).other W195 (Or.inl (Ne.symm ne151))).other W201 (Or.inl ne170)).ext E203).other W206 (Or.inr (slot_ne (Or.inr (hw _ (List.mem_of_getElem? (i := 34) rfl))) (Or.inr (hw _ (List.mem_of_getElem? (i := 25) rfl))) (by decide) (t := (.array .long)) (t' := (.array .int)) (by decide) (by decide)))).other W218 (Or.inl (Ne.symm ne216))).other W233 (Or.inl (Ne.symm ne216))).other W244 (Or.inl (Ne.symm ne216))).other W255 (Or.inl (Ne.symm ne216))).other W266 (Or.inl (Ne.symm ne216))).other W277 (Or.inl (Ne.symm ne216))).other W288 (Or.inl (Ne.symm ne216))).other W299 (Or.inl (Ne.symm ne216))).other W317 (Or.inl (Ne.symm ne141))).other W325 (Or.inl (Ne.symm ne151))).other W331 (Or.inl ne170)).other W345 (Or.inl (Ne.symm ne141))).other W351 (Or.inl (Ne.symm ne151))).other W357 (Or.inl ne170)).ext E359).other W362 (Or.inr (slot_ne (Or.inr (hw _ (List.mem_of_getElem? (i := 34) rfl))) (Or.inr (hw _ (List.mem_of_getElem? (i := 28) rfl))) (by decide) (t := (.array .long)) (t' := (.array .long)) (by decide) (by decide)))).other W374 (Or.inl (Ne.symm ne372))).other W383 (Or.inl (Ne.symm ne372))).other W389 (Or.inl (Ne.symm ne372))).other W395 (Or.inl (Ne.symm ne372))).other W401 (Or.inl (Ne.symm ne372))).other W407 (Or.inl (Ne.symm ne372))).other W413 (Or.inl (Ne.symm ne372))).other W419 (Or.inl (Ne.symm ne372))).ext E421).other W424 (Or.inr (slot_ne (Or.inr (hw _ (List.mem_of_getElem? (i := 34) rfl))) (Or.inr (hw _ (List.mem_of_getElem? (i := 30) rfl))) (by decide) (t := (.array .long)) (t' := (.array .int)) (by decide) (by decide)))).ext E639).other W642 (Or.inr (slot_ne (Or.inr (hw _ (List.mem_of_getElem? (i := 34) rfl))) (Or.inr (hw _ (List.mem_of_getElem? (i := 32) rfl))) (by decide) (t := (.array .long)) (t' := (.array .long)) (by decide) (by decide)))).ext E643)
    obtain ⟨T646, h646, X646, e646, W646, st646⟩ := putF X643 hx hZ hown (host := "") (Or.inl (hw _ (List.mem_of_getElem? (i := 33) rfl))) Via.refl e643 F645 F644 (Or.inr ⟨(hw _ (List.mem_of_getElem? (i := 34) rfl)), rfl, hnm⟩) (hw _ (List.mem_of_getElem? (i := 2) rfl)) (ty := (.array .long)) (by decide) rfl rfl (g := (mkF m 413 #[.val (.ref self), .val (.int (8 : Int32)), .val (.ref ta), .val (.ref ha), .val (.int ec), .val (.ref sa), .val (.int (2 : Int32)), .val (.ref b128), .val (.int (0 : Int32)), .val (.int v341)] [(.ref b643), (.ref self)])) rfl rfl (hb hby d1_413)
    have Fw646 := F645.same W646
    have z646 : h646.size = h643.size := W646.size
    have N646 := Fr.snoc X646 N642 gn3
    have K646 : Keep h0 h646 [self] := K643.wr W646 (Or.inl (List.mem_of_getElem? (i := 0) rfl))
    refine Comes.st st646 ?_
    show Comes p e below _ (T646.setTop (mkF m 416 #[.val (.ref self), .val (.int (8 : Int32)), .val (.ref ta), .val (.ref ha), .val (.int ec), .val (.ref sa), .val (.int (2 : Int32)), .val (.ref b128), .val (.int (0 : Int32)), .val (.int v341)] []))
    refine Comes.st (fun t k => XS.iconst X646.here hx rfl (hb hby d1_416) (XS.istore X646.here hx rfl (hb hby d1_417) rfl (l' := #[.val (.ref self), .val (.int (8 : Int32)), .val (.ref ta), .val (.ref ha), .val (.int ec), .val (.ref sa), .val (.int (2 : Int32)), .val (.ref b128), .val (.int (0 : Int32)), .val (.int v341)]) rfl (XS.iload X646.here hx rfl (hb hby d1_419) rfl (XS.iloadN X646.here hx rfl (hb hby d1_421) rfl k)))) ?_
    show Comes p e below _ (T646.setTop (mkF m 422 #[.val (.ref self), .val (.int (8 : Int32)), .val (.ref ta), .val (.ref ha), .val (.int ec), .val (.ref sa), .val (.int (2 : Int32)), .val (.ref b128), .val (.int (0 : Int32)), .val (.int v341)] [(.int (8 : Int32)), (.int (0 : Int32))]))
    have hc422_647 : (0 : Int32) < (8 : Int32) := by decide
    refine Comes.st (fun t k => XS.icmpNo X646.here hx rfl (hb hby d1_422) rfl (tlt hc422_647).2.1 (XS.aloadN X646.here hx rfl (hb hby d1_425) rfl rfl k)) ?_
    show Comes p e below _ (T646.setTop (mkF m 426 #[.val (.ref self), .val (.int (8 : Int32)), .val (.ref ta), .val (.ref ha), .val (.int ec), .val (.ref sa), .val (.int (2 : Int32)), .val (.ref b128), .val (.int (0 : Int32)), .val (.int v341)] [(.ref self)]))
    obtain ⟨T648, X648, e648, st648⟩ := getF X646 hx hZ hown (host := "") (Or.inl (hw _ (List.mem_of_getElem? (i := 33) rfl))) Via.refl e646 Fw646 (g := (mkF m 426 #[.val (.ref self), .val (.int (8 : Int32)), .val (.ref ta), .val (.ref ha), .val (.int ec), .val (.ref sa), .val (.int (2 : Int32)), .val (.ref b128), .val (.int (0 : Int32)), .val (.int v341)] [(.ref self)])) rfl rfl (hb hby d1_426)
    refine Comes.st st648 ?_
    show Comes p e below _ (T648.setTop (mkF m 429 #[.val (.ref self), .val (.int (8 : Int32)), .val (.ref ta), .val (.ref ha), .val (.int ec), .val (.ref sa), .val (.int (2 : Int32)), .val (.ref b128), .val (.int (0 : Int32)), .val (.int v341)] [(.ref b643)]))
    refine Comes.st (fun t k => XS.iload X648.here hx rfl (hb hby d1_429) rfl (XS.aloadN X648.here hx rfl (hb hby d1_431) rfl rfl k)) ?_
    show Comes p e below _ (T648.setTop (mkF m 432 #[.val (.ref self), .val (.int (8 : Int32)), .val (.ref ta), .val (.ref ha), .val (.int ec), .val (.ref sa), .val (.int (2 : Int32)), .val (.ref b128), .val (.int (0 : Int32)), .val (.int v341)] [(.ref self), (.int (0 : Int32)), (.ref b643)]))
    have F649 : Fld Z h646 self "com/example/ordr/ordr/layout/LayerNetwork" "supplies" "[I" (.ref b421) := ((((Fw424.ext E639).other W642 (Or.inr (slot_ne (Or.inr (hw _ (List.mem_of_getElem? (i := 30) rfl))) (Or.inr (hw _ (List.mem_of_getElem? (i := 32) rfl))) (by decide) (t := (.array .int)) (t' := (.array .long)) (by decide) (by decide)))).ext E643).other W646 (Or.inr (slot_ne (Or.inr (hw _ (List.mem_of_getElem? (i := 30) rfl))) (Or.inr (hw _ (List.mem_of_getElem? (i := 34) rfl))) (by decide) (t := (.array .int)) (t' := (.array .long)) (by decide) (by decide))))
    obtain ⟨T650, X650, e650, st650⟩ := getF X648 hx hZ hown (host := "") (Or.inl (hw _ (List.mem_of_getElem? (i := 29) rfl))) Via.refl e648 F649 (g := (mkF m 432 #[.val (.ref self), .val (.int (8 : Int32)), .val (.ref ta), .val (.ref ha), .val (.int ec), .val (.ref sa), .val (.int (2 : Int32)), .val (.ref b128), .val (.int (0 : Int32)), .val (.int v341)] [(.ref self), (.int (0 : Int32)), (.ref b643)])) rfl rfl (hb hby d1_432)
    refine Comes.st st650 ?_
    show Comes p e below _ (T650.setTop (mkF m 435 #[.val (.ref self), .val (.int (8 : Int32)), .val (.ref ta), .val (.ref ha), .val (.int ec), .val (.ref sa), .val (.int (2 : Int32)), .val (.ref b128), .val (.int (0 : Int32)), .val (.int v341)] [(.ref b421), (.int (0 : Int32)), (.ref b643)]))
    refine Comes.st (fun t k => XS.iload X650.here hx rfl (hb hby d1_435) rfl k) ?_
    show Comes p e below _ (T650.setTop (mkF m 437 #[.val (.ref self), .val (.int (8 : Int32)), .val (.ref ta), .val (.ref ha), .val (.int ec), .val (.ref sa), .val (.int (2 : Int32)), .val (.ref b128), .val (.int (0 : Int32)), .val (.int v341)] [(.int (0 : Int32)), (.ref b421), (.int (0 : Int32)), (.ref b643)]))
    have ne651 : b421 ≠ self := by omega
    have F652 : Ari Z h646 b421 8 f421 := (((((V421.other W424 ne651).ext E639).other W642 ne651).ext E643).other W646 ne651)
    obtain ⟨cl653, Ar653, S653, H653⟩ := id F652
    have hin653 : ¬ ((0 : Int32) < 0 ∨ cl653.slots.size ≤ ((0 : Int32)).toNatClampNeg) := by rw [S653]; decide
    refine Comes.st (fun t k => X650.iaload hx (j := (0 : Int32)) (v := (.int (f421 0))) (by rw [e650]; exact Ar653.1) (State.isArrayOf_alike hZ.alike Ar653.2.1) Ar653.2.2 hin653 (H653 _ (Nat.lt_of_not_le fun y => hin653 (Or.inr (S653 ▸ y)))) (g := (mkF m 437 #[.val (.ref self), .val (.int (8 : Int32)), .val (.ref ta), .val (.ref ha), .val (.int ec), .val (.ref sa), .val (.int (2 : Int32)), .val (.ref b128), .val (.int (0 : Int32)), .val (.int v341)] [(.int (0 : Int32)), (.ref b421), (.int (0 : Int32)), (.ref b643)])) rfl rfl (hb hby d1_437) _ (XS.i2l X650.here hx rfl (hb hby d1_438) rfl k)) ?_
    show Comes p e below _ (T650.setTop (mkF m 439 #[.val (.ref self), .val (.int (8 : Int32)), .val (.ref ta), .val (.ref ha), .val (.int ec), .val (.ref sa), .val (.int (2 : Int32)), .val (.ref b128), .val (.int (0 : Int32)), .val (.int v341)] [(.long ((f421 0).toInt64)), (.int (0 : Int32)), (.ref b643)]))
    generalize hv_v654 : ((f421 0).toInt64) = v654
    show Comes p e below _ (T650.setTop (mkF m 439 #[.val (.ref self), .val (.int (8 : Int32)), .val (.ref ta), .val (.ref ha), .val (.int ec), .val (.ref sa), .val (.int (2 : Int32)), .val (.ref b128), .val (.int (0 : Int32)), .val (.int v341)] [(.long v654), (.int (0 : Int32)), (.ref b643)]))
    have ne655 : b643 ≠ self := by omega
    have F656 : Arv Z h646 b643 k643 .long (8 : Int32) [(.long (0 : Int64)), (.long (0 : Int64)), (.long (0 : Int64)), (.long (0 : Int64)), (.long (0 : Int64)), (.long (0 : Int64)), (.long (0 : Int64)), (.long (0 : Int64))] (.long (0 : Int64)) := (V643.other W646 ne655)
    obtain ⟨cl657, Ar657, q657, S657, Ng657, H657, Gf657⟩ := id F656
    have hin657 : ¬ ((0 : Int32) < 0 ∨ cl657.slots.size ≤ ((0 : Int32)).toNatClampNeg) := inb_of S657 ⟨by decide, by decide⟩
    obtain ⟨T657, h657, X657, e657, W657, st657⟩ := stJ X650 hx hZ e650 Ar657 (j := (0 : Int32)) hin657 (g := (mkF m 439 #[.val (.ref self), .val (.int (8 : Int32)), .val (.ref ta), .val (.ref ha), .val (.int ec), .val (.ref sa), .val (.int (2 : Int32)), .val (.ref b128), .val (.int (0 : Int32)), .val (.int v341)] [(.long v654), (.int (0 : Int32)), (.ref b643)])) rfl rfl (hb hby d1_439)
    have V657 : Arv Z h657 b643 k643 .long (8 : Int32) [(.long v654), (.long (0 : Int64)), (.long (0 : Int64)), (.long (0 : Int64)), (.long (0 : Int64)), (.long (0 : Int64)), (.long (0 : Int64)), (.long (0 : Int64))] (.long (0 : Int64)) := Arv.set Ar657 q657 S657 Ng657 H657 Gf657 rfl W657 0 rfl (Nat.le_of_ble_eq_true rfl)
    have z657 : h657.size = h646.size := W657.size
    have gn658 : n0 ≤ b643 := by omega
    have N657 := Fr.snoc X657 N646 gn658
    have gz659 : h0.size ≤ b643 := by omega
    have K657 : Keep h0 h657 [self] := K646.wr W657 (Or.inr gz659)
    refine Comes.st st657 ?_
    show Comes p e below _ (T657.setTop (mkF m 440 #[.val (.ref self), .val (.int (8 : Int32)), .val (.ref ta), .val (.ref ha), .val (.int ec), .val (.ref sa), .val (.int (2 : Int32)), .val (.ref b128), .val (.int (0 : Int32)), .val (.int v341)] []))
    refine Comes.st (fun t k => XS.iinc X657.here hx rfl (hb hby d1_440) rfl (l' := #[.val (.ref self), .val (.int (8 : Int32)), .val (.ref ta), .val (.ref ha), .val (.int ec), .val (.ref sa), .val (.int (2 : Int32)), .val (.ref b128), .val (.int (1 : Int32)), .val (.int v341)]) rfl (XS.goto X657.here hx rfl (pc0 := 443) (pc' := 419) rfl (hb hby d1_443) (by decide) (by decide) (XS.iload X657.here hx rfl (hb hby d1_419) rfl (XS.iloadN X657.here hx rfl (hb hby d1_421) rfl k)))) ?_
    show Comes p e below _ (T657.setTop (mkF m 422 #[.val (.ref self), .val (.int (8 : Int32)), .val (.ref ta), .val (.ref ha), .val (.int ec), .val (.ref sa), .val (.int (2 : Int32)), .val (.ref b128), .val (.int (1 : Int32)), .val (.int v341)] [(.int (8 : Int32)), (.int (1 : Int32))]))
    have hc422_660 : (1 : Int32) < (8 : Int32) := by decide
    refine Comes.st (fun t k => XS.icmpNo X657.here hx rfl (hb hby d1_422) rfl (tlt hc422_660).2.1 (XS.aloadN X657.here hx rfl (hb hby d1_425) rfl rfl k)) ?_
    show Comes p e below _ (T657.setTop (mkF m 426 #[.val (.ref self), .val (.int (8 : Int32)), .val (.ref ta), .val (.ref ha), .val (.int ec), .val (.ref sa), .val (.int (2 : Int32)), .val (.ref b128), .val (.int (1 : Int32)), .val (.int v341)] [(.ref self)]))
    have F661 : Fld Z h657 self "com/example/ordr/ordr/layout/LayerNetwork" "excesses" "[J" (.ref b643) := (Fw646.other W657 (Or.inl (Ne.symm ne655)))
    obtain ⟨T662, X662, e662, st662⟩ := getF X657 hx hZ hown (host := "") (Or.inl (hw _ (List.mem_of_getElem? (i := 33) rfl))) Via.refl e657 F661 (g := (mkF m 426 #[.val (.ref self), .val (.int (8 : Int32)), .val (.ref ta), .val (.ref ha), .val (.int ec), .val (.ref sa), .val (.int (2 : Int32)), .val (.ref b128), .val (.int (1 : Int32)), .val (.int v341)] [(.ref self)])) rfl rfl (hb hby d1_426)
    refine Comes.st st662 ?_
    show Comes p e below _ (T662.setTop (mkF m 429 #[.val (.ref self), .val (.int (8 : Int32)), .val (.ref ta), .val (.ref ha), .val (.int ec), .val (.ref sa), .val (.int (2 : Int32)), .val (.ref b128), .val (.int (1 : Int32)), .val (.int v341)] [(.ref b643)]))
    refine Comes.st (fun t k => XS.iload X662.here hx rfl (hb hby d1_429) rfl (XS.aloadN X662.here hx rfl (hb hby d1_431) rfl rfl k)) ?_
    show Comes p e below _ (T662.setTop (mkF m 432 #[.val (.ref self), .val (.int (8 : Int32)), .val (.ref ta), .val (.ref ha), .val (.int ec), .val (.ref sa), .val (.int (2 : Int32)), .val (.ref b128), .val (.int (1 : Int32)), .val (.int v341)] [(.ref self), (.int (1 : Int32)), (.ref b643)]))
    have F663 : Fld Z h657 self "com/example/ordr/ordr/layout/LayerNetwork" "supplies" "[I" (.ref b421) := (F649.other W657 (Or.inl (Ne.symm ne655)))
    obtain ⟨T664, X664, e664, st664⟩ := getF X662 hx hZ hown (host := "") (Or.inl (hw _ (List.mem_of_getElem? (i := 29) rfl))) Via.refl e662 F663 (g := (mkF m 432 #[.val (.ref self), .val (.int (8 : Int32)), .val (.ref ta), .val (.ref ha), .val (.int ec), .val (.ref sa), .val (.int (2 : Int32)), .val (.ref b128), .val (.int (1 : Int32)), .val (.int v341)] [(.ref self), (.int (1 : Int32)), (.ref b643)])) rfl rfl (hb hby d1_432)
    refine Comes.st st664 ?_
    show Comes p e below _ (T664.setTop (mkF m 435 #[.val (.ref self), .val (.int (8 : Int32)), .val (.ref ta), .val (.ref ha), .val (.int ec), .val (.ref sa), .val (.int (2 : Int32)), .val (.ref b128), .val (.int (1 : Int32)), .val (.int v341)] [(.ref b421), (.int (1 : Int32)), (.ref b643)]))
    refine Comes.st (fun t k => XS.iload X664.here hx rfl (hb hby d1_435) rfl k) ?_
    show Comes p e below _ (T664.setTop (mkF m 437 #[.val (.ref self), .val (.int (8 : Int32)), .val (.ref ta), .val (.ref ha), .val (.int ec), .val (.ref sa), .val (.int (2 : Int32)), .val (.ref b128), .val (.int (1 : Int32)), .val (.int v341)] [(.int (1 : Int32)), (.ref b421), (.int (1 : Int32)), (.ref b643)]))
    have ne665 : b421 ≠ b643 := by omega
    have F666 : Ari Z h657 b421 8 f421 := (F652.other W657 ne665)
    obtain ⟨cl667, Ar667, S667, H667⟩ := id F666
    have hin667 : ¬ ((1 : Int32) < 0 ∨ cl667.slots.size ≤ ((1 : Int32)).toNatClampNeg) := by rw [S667]; decide
    refine Comes.st (fun t k => X664.iaload hx (j := (1 : Int32)) (v := (.int (f421 1))) (by rw [e664]; exact Ar667.1) (State.isArrayOf_alike hZ.alike Ar667.2.1) Ar667.2.2 hin667 (H667 _ (Nat.lt_of_not_le fun y => hin667 (Or.inr (S667 ▸ y)))) (g := (mkF m 437 #[.val (.ref self), .val (.int (8 : Int32)), .val (.ref ta), .val (.ref ha), .val (.int ec), .val (.ref sa), .val (.int (2 : Int32)), .val (.ref b128), .val (.int (1 : Int32)), .val (.int v341)] [(.int (1 : Int32)), (.ref b421), (.int (1 : Int32)), (.ref b643)])) rfl rfl (hb hby d1_437) _ (XS.i2l X664.here hx rfl (hb hby d1_438) rfl k)) ?_
    show Comes p e below _ (T664.setTop (mkF m 439 #[.val (.ref self), .val (.int (8 : Int32)), .val (.ref ta), .val (.ref ha), .val (.int ec), .val (.ref sa), .val (.int (2 : Int32)), .val (.ref b128), .val (.int (1 : Int32)), .val (.int v341)] [(.long ((f421 1).toInt64)), (.int (1 : Int32)), (.ref b643)]))
    generalize hv_v668 : ((f421 1).toInt64) = v668
    show Comes p e below _ (T664.setTop (mkF m 439 #[.val (.ref self), .val (.int (8 : Int32)), .val (.ref ta), .val (.ref ha), .val (.int ec), .val (.ref sa), .val (.int (2 : Int32)), .val (.ref b128), .val (.int (1 : Int32)), .val (.int v341)] [(.long v668), (.int (1 : Int32)), (.ref b643)]))
    obtain ⟨cl669, Ar669, q669, S669, Ng669, H669, Gf669⟩ := id V657
    have hin669 : ¬ ((1 : Int32) < 0 ∨ cl669.slots.size ≤ ((1 : Int32)).toNatClampNeg) := inb_of S669 ⟨by decide, by decide⟩
    obtain ⟨T669, h669, X669, e669, W669, st669⟩ := stJ X664 hx hZ e664 Ar669 (j := (1 : Int32)) hin669 (g := (mkF m 439 #[.val (.ref self), .val (.int (8 : Int32)), .val (.ref ta), .val (.ref ha), .val (.int ec), .val (.ref sa), .val (.int (2 : Int32)), .val (.ref b128), .val (.int (1 : Int32)), .val (.int v341)] [(.long v668), (.int (1 : Int32)), (.ref b643)])) rfl rfl (hb hby d1_439)
    have V669 : Arv Z h669 b643 k643 .long (8 : Int32) [(.long v654), (.long v668), (.long (0 : Int64)), (.long (0 : Int64)), (.long (0 : Int64)), (.long (0 : Int64)), (.long (0 : Int64)), (.long (0 : Int64))] (.long (0 : Int64)) := Arv.set Ar669 q669 S669 Ng669 H669 Gf669 rfl W669 1 rfl (Nat.le_of_ble_eq_true rfl)
    have z669 : h669.size = h657.size := W669.size
    have N669 := Fr.snoc X669 N657 gn658
    have K669 : Keep h0 h669 [self] := K657.wr W669 (Or.inr gz659)
    refine Comes.st st669 ?_
    show Comes p e below _ (T669.setTop (mkF m 440 #[.val (.ref self), .val (.int (8 : Int32)), .val (.ref ta), .val (.ref ha), .val (.int ec), .val (.ref sa), .val (.int (2 : Int32)), .val (.ref b128), .val (.int (1 : Int32)), .val (.int v341)] []))
    refine Comes.st (fun t k => XS.iinc X669.here hx rfl (hb hby d1_440) rfl (l' := #[.val (.ref self), .val (.int (8 : Int32)), .val (.ref ta), .val (.ref ha), .val (.int ec), .val (.ref sa), .val (.int (2 : Int32)), .val (.ref b128), .val (.int (2 : Int32)), .val (.int v341)]) rfl (XS.goto X669.here hx rfl (pc0 := 443) (pc' := 419) rfl (hb hby d1_443) (by decide) (by decide) (XS.iload X669.here hx rfl (hb hby d1_419) rfl (XS.iloadN X669.here hx rfl (hb hby d1_421) rfl k)))) ?_
    show Comes p e below _ (T669.setTop (mkF m 422 #[.val (.ref self), .val (.int (8 : Int32)), .val (.ref ta), .val (.ref ha), .val (.int ec), .val (.ref sa), .val (.int (2 : Int32)), .val (.ref b128), .val (.int (2 : Int32)), .val (.int v341)] [(.int (8 : Int32)), (.int (2 : Int32))]))
    have hc422_670 : (2 : Int32) < (8 : Int32) := by decide
    refine Comes.st (fun t k => XS.icmpNo X669.here hx rfl (hb hby d1_422) rfl (tlt hc422_670).2.1 (XS.aloadN X669.here hx rfl (hb hby d1_425) rfl rfl k)) ?_
    show Comes p e below _ (T669.setTop (mkF m 426 #[.val (.ref self), .val (.int (8 : Int32)), .val (.ref ta), .val (.ref ha), .val (.int ec), .val (.ref sa), .val (.int (2 : Int32)), .val (.ref b128), .val (.int (2 : Int32)), .val (.int v341)] [(.ref self)]))
    have F671 : Fld Z h669 self "com/example/ordr/ordr/layout/LayerNetwork" "excesses" "[J" (.ref b643) := (F661.other W669 (Or.inl (Ne.symm ne655)))
    obtain ⟨T672, X672, e672, st672⟩ := getF X669 hx hZ hown (host := "") (Or.inl (hw _ (List.mem_of_getElem? (i := 33) rfl))) Via.refl e669 F671 (g := (mkF m 426 #[.val (.ref self), .val (.int (8 : Int32)), .val (.ref ta), .val (.ref ha), .val (.int ec), .val (.ref sa), .val (.int (2 : Int32)), .val (.ref b128), .val (.int (2 : Int32)), .val (.int v341)] [(.ref self)])) rfl rfl (hb hby d1_426)
    refine Comes.st st672 ?_
    show Comes p e below _ (T672.setTop (mkF m 429 #[.val (.ref self), .val (.int (8 : Int32)), .val (.ref ta), .val (.ref ha), .val (.int ec), .val (.ref sa), .val (.int (2 : Int32)), .val (.ref b128), .val (.int (2 : Int32)), .val (.int v341)] [(.ref b643)]))
    refine Comes.st (fun t k => XS.iload X672.here hx rfl (hb hby d1_429) rfl (XS.aloadN X672.here hx rfl (hb hby d1_431) rfl rfl k)) ?_
    show Comes p e below _ (T672.setTop (mkF m 432 #[.val (.ref self), .val (.int (8 : Int32)), .val (.ref ta), .val (.ref ha), .val (.int ec), .val (.ref sa), .val (.int (2 : Int32)), .val (.ref b128), .val (.int (2 : Int32)), .val (.int v341)] [(.ref self), (.int (2 : Int32)), (.ref b643)]))
    have F673 : Fld Z h669 self "com/example/ordr/ordr/layout/LayerNetwork" "supplies" "[I" (.ref b421) := (F663.other W669 (Or.inl (Ne.symm ne655)))
    obtain ⟨T674, X674, e674, st674⟩ := getF X672 hx hZ hown (host := "") (Or.inl (hw _ (List.mem_of_getElem? (i := 29) rfl))) Via.refl e672 F673 (g := (mkF m 432 #[.val (.ref self), .val (.int (8 : Int32)), .val (.ref ta), .val (.ref ha), .val (.int ec), .val (.ref sa), .val (.int (2 : Int32)), .val (.ref b128), .val (.int (2 : Int32)), .val (.int v341)] [(.ref self), (.int (2 : Int32)), (.ref b643)])) rfl rfl (hb hby d1_432)
    refine Comes.st st674 ?_
    show Comes p e below _ (T674.setTop (mkF m 435 #[.val (.ref self), .val (.int (8 : Int32)), .val (.ref ta), .val (.ref ha), .val (.int ec), .val (.ref sa), .val (.int (2 : Int32)), .val (.ref b128), .val (.int (2 : Int32)), .val (.int v341)] [(.ref b421), (.int (2 : Int32)), (.ref b643)]))
    refine Comes.st (fun t k => XS.iload X674.here hx rfl (hb hby d1_435) rfl k) ?_
    show Comes p e below _ (T674.setTop (mkF m 437 #[.val (.ref self), .val (.int (8 : Int32)), .val (.ref ta), .val (.ref ha), .val (.int ec), .val (.ref sa), .val (.int (2 : Int32)), .val (.ref b128), .val (.int (2 : Int32)), .val (.int v341)] [(.int (2 : Int32)), (.ref b421), (.int (2 : Int32)), (.ref b643)]))
    have F675 : Ari Z h669 b421 8 f421 := (F666.other W669 ne665)
    obtain ⟨cl676, Ar676, S676, H676⟩ := id F675
    have hin676 : ¬ ((2 : Int32) < 0 ∨ cl676.slots.size ≤ ((2 : Int32)).toNatClampNeg) := by rw [S676]; decide
    refine Comes.st (fun t k => X674.iaload hx (j := (2 : Int32)) (v := (.int (f421 2))) (by rw [e674]; exact Ar676.1) (State.isArrayOf_alike hZ.alike Ar676.2.1) Ar676.2.2 hin676 (H676 _ (Nat.lt_of_not_le fun y => hin676 (Or.inr (S676 ▸ y)))) (g := (mkF m 437 #[.val (.ref self), .val (.int (8 : Int32)), .val (.ref ta), .val (.ref ha), .val (.int ec), .val (.ref sa), .val (.int (2 : Int32)), .val (.ref b128), .val (.int (2 : Int32)), .val (.int v341)] [(.int (2 : Int32)), (.ref b421), (.int (2 : Int32)), (.ref b643)])) rfl rfl (hb hby d1_437) _ (XS.i2l X674.here hx rfl (hb hby d1_438) rfl k)) ?_
    show Comes p e below _ (T674.setTop (mkF m 439 #[.val (.ref self), .val (.int (8 : Int32)), .val (.ref ta), .val (.ref ha), .val (.int ec), .val (.ref sa), .val (.int (2 : Int32)), .val (.ref b128), .val (.int (2 : Int32)), .val (.int v341)] [(.long ((f421 2).toInt64)), (.int (2 : Int32)), (.ref b643)]))
    generalize hv_v677 : ((f421 2).toInt64) = v677
    show Comes p e below _ (T674.setTop (mkF m 439 #[.val (.ref self), .val (.int (8 : Int32)), .val (.ref ta), .val (.ref ha), .val (.int ec), .val (.ref sa), .val (.int (2 : Int32)), .val (.ref b128), .val (.int (2 : Int32)), .val (.int v341)] [(.long v677), (.int (2 : Int32)), (.ref b643)]))
    obtain ⟨cl678, Ar678, q678, S678, Ng678, H678, Gf678⟩ := id V669
    have hin678 : ¬ ((2 : Int32) < 0 ∨ cl678.slots.size ≤ ((2 : Int32)).toNatClampNeg) := inb_of S678 ⟨by decide, by decide⟩
    obtain ⟨T678, h678, X678, e678, W678, st678⟩ := stJ X674 hx hZ e674 Ar678 (j := (2 : Int32)) hin678 (g := (mkF m 439 #[.val (.ref self), .val (.int (8 : Int32)), .val (.ref ta), .val (.ref ha), .val (.int ec), .val (.ref sa), .val (.int (2 : Int32)), .val (.ref b128), .val (.int (2 : Int32)), .val (.int v341)] [(.long v677), (.int (2 : Int32)), (.ref b643)])) rfl rfl (hb hby d1_439)
    have V678 : Arv Z h678 b643 k643 .long (8 : Int32) [(.long v654), (.long v668), (.long v677), (.long (0 : Int64)), (.long (0 : Int64)), (.long (0 : Int64)), (.long (0 : Int64)), (.long (0 : Int64))] (.long (0 : Int64)) := Arv.set Ar678 q678 S678 Ng678 H678 Gf678 rfl W678 2 rfl (Nat.le_of_ble_eq_true rfl)
    have z678 : h678.size = h669.size := W678.size
    have N678 := Fr.snoc X678 N669 gn658
    have K678 : Keep h0 h678 [self] := K669.wr W678 (Or.inr gz659)
    refine Comes.st st678 ?_
    show Comes p e below _ (T678.setTop (mkF m 440 #[.val (.ref self), .val (.int (8 : Int32)), .val (.ref ta), .val (.ref ha), .val (.int ec), .val (.ref sa), .val (.int (2 : Int32)), .val (.ref b128), .val (.int (2 : Int32)), .val (.int v341)] []))
    refine Comes.st (fun t k => XS.iinc X678.here hx rfl (hb hby d1_440) rfl (l' := #[.val (.ref self), .val (.int (8 : Int32)), .val (.ref ta), .val (.ref ha), .val (.int ec), .val (.ref sa), .val (.int (2 : Int32)), .val (.ref b128), .val (.int (3 : Int32)), .val (.int v341)]) rfl (XS.goto X678.here hx rfl (pc0 := 443) (pc' := 419) rfl (hb hby d1_443) (by decide) (by decide) (XS.iload X678.here hx rfl (hb hby d1_419) rfl (XS.iloadN X678.here hx rfl (hb hby d1_421) rfl k)))) ?_
    show Comes p e below _ (T678.setTop (mkF m 422 #[.val (.ref self), .val (.int (8 : Int32)), .val (.ref ta), .val (.ref ha), .val (.int ec), .val (.ref sa), .val (.int (2 : Int32)), .val (.ref b128), .val (.int (3 : Int32)), .val (.int v341)] [(.int (8 : Int32)), (.int (3 : Int32))]))
    have hc422_679 : (3 : Int32) < (8 : Int32) := by decide
    refine Comes.st (fun t k => XS.icmpNo X678.here hx rfl (hb hby d1_422) rfl (tlt hc422_679).2.1 (XS.aloadN X678.here hx rfl (hb hby d1_425) rfl rfl k)) ?_
    show Comes p e below _ (T678.setTop (mkF m 426 #[.val (.ref self), .val (.int (8 : Int32)), .val (.ref ta), .val (.ref ha), .val (.int ec), .val (.ref sa), .val (.int (2 : Int32)), .val (.ref b128), .val (.int (3 : Int32)), .val (.int v341)] [(.ref self)]))
    have F680 : Fld Z h678 self "com/example/ordr/ordr/layout/LayerNetwork" "excesses" "[J" (.ref b643) := (F671.other W678 (Or.inl (Ne.symm ne655)))
    obtain ⟨T681, X681, e681, st681⟩ := getF X678 hx hZ hown (host := "") (Or.inl (hw _ (List.mem_of_getElem? (i := 33) rfl))) Via.refl e678 F680 (g := (mkF m 426 #[.val (.ref self), .val (.int (8 : Int32)), .val (.ref ta), .val (.ref ha), .val (.int ec), .val (.ref sa), .val (.int (2 : Int32)), .val (.ref b128), .val (.int (3 : Int32)), .val (.int v341)] [(.ref self)])) rfl rfl (hb hby d1_426)
    refine Comes.st st681 ?_
    show Comes p e below _ (T681.setTop (mkF m 429 #[.val (.ref self), .val (.int (8 : Int32)), .val (.ref ta), .val (.ref ha), .val (.int ec), .val (.ref sa), .val (.int (2 : Int32)), .val (.ref b128), .val (.int (3 : Int32)), .val (.int v341)] [(.ref b643)]))
    refine Comes.st (fun t k => XS.iload X681.here hx rfl (hb hby d1_429) rfl (XS.aloadN X681.here hx rfl (hb hby d1_431) rfl rfl k)) ?_
    show Comes p e below _ (T681.setTop (mkF m 432 #[.val (.ref self), .val (.int (8 : Int32)), .val (.ref ta), .val (.ref ha), .val (.int ec), .val (.ref sa), .val (.int (2 : Int32)), .val (.ref b128), .val (.int (3 : Int32)), .val (.int v341)] [(.ref self), (.int (3 : Int32)), (.ref b643)]))
    have F682 : Fld Z h678 self "com/example/ordr/ordr/layout/LayerNetwork" "supplies" "[I" (.ref b421) := (F673.other W678 (Or.inl (Ne.symm ne655)))
    obtain ⟨T683, X683, e683, st683⟩ := getF X681 hx hZ hown (host := "") (Or.inl (hw _ (List.mem_of_getElem? (i := 29) rfl))) Via.refl e681 F682 (g := (mkF m 432 #[.val (.ref self), .val (.int (8 : Int32)), .val (.ref ta), .val (.ref ha), .val (.int ec), .val (.ref sa), .val (.int (2 : Int32)), .val (.ref b128), .val (.int (3 : Int32)), .val (.int v341)] [(.ref self), (.int (3 : Int32)), (.ref b643)])) rfl rfl (hb hby d1_432)
    refine Comes.st st683 ?_
    show Comes p e below _ (T683.setTop (mkF m 435 #[.val (.ref self), .val (.int (8 : Int32)), .val (.ref ta), .val (.ref ha), .val (.int ec), .val (.ref sa), .val (.int (2 : Int32)), .val (.ref b128), .val (.int (3 : Int32)), .val (.int v341)] [(.ref b421), (.int (3 : Int32)), (.ref b643)]))
    refine Comes.st (fun t k => XS.iload X683.here hx rfl (hb hby d1_435) rfl k) ?_
    show Comes p e below _ (T683.setTop (mkF m 437 #[.val (.ref self), .val (.int (8 : Int32)), .val (.ref ta), .val (.ref ha), .val (.int ec), .val (.ref sa), .val (.int (2 : Int32)), .val (.ref b128), .val (.int (3 : Int32)), .val (.int v341)] [(.int (3 : Int32)), (.ref b421), (.int (3 : Int32)), (.ref b643)]))
    have F684 : Ari Z h678 b421 8 f421 := (F675.other W678 ne665)
    obtain ⟨cl685, Ar685, S685, H685⟩ := id F684
    have hin685 : ¬ ((3 : Int32) < 0 ∨ cl685.slots.size ≤ ((3 : Int32)).toNatClampNeg) := by rw [S685]; decide
    refine Comes.st (fun t k => X683.iaload hx (j := (3 : Int32)) (v := (.int (f421 3))) (by rw [e683]; exact Ar685.1) (State.isArrayOf_alike hZ.alike Ar685.2.1) Ar685.2.2 hin685 (H685 _ (Nat.lt_of_not_le fun y => hin685 (Or.inr (S685 ▸ y)))) (g := (mkF m 437 #[.val (.ref self), .val (.int (8 : Int32)), .val (.ref ta), .val (.ref ha), .val (.int ec), .val (.ref sa), .val (.int (2 : Int32)), .val (.ref b128), .val (.int (3 : Int32)), .val (.int v341)] [(.int (3 : Int32)), (.ref b421), (.int (3 : Int32)), (.ref b643)])) rfl rfl (hb hby d1_437) _ (XS.i2l X683.here hx rfl (hb hby d1_438) rfl k)) ?_
    show Comes p e below _ (T683.setTop (mkF m 439 #[.val (.ref self), .val (.int (8 : Int32)), .val (.ref ta), .val (.ref ha), .val (.int ec), .val (.ref sa), .val (.int (2 : Int32)), .val (.ref b128), .val (.int (3 : Int32)), .val (.int v341)] [(.long ((f421 3).toInt64)), (.int (3 : Int32)), (.ref b643)]))
    generalize hv_v686 : ((f421 3).toInt64) = v686
    show Comes p e below _ (T683.setTop (mkF m 439 #[.val (.ref self), .val (.int (8 : Int32)), .val (.ref ta), .val (.ref ha), .val (.int ec), .val (.ref sa), .val (.int (2 : Int32)), .val (.ref b128), .val (.int (3 : Int32)), .val (.int v341)] [(.long v686), (.int (3 : Int32)), (.ref b643)]))
    obtain ⟨cl687, Ar687, q687, S687, Ng687, H687, Gf687⟩ := id V678
    have hin687 : ¬ ((3 : Int32) < 0 ∨ cl687.slots.size ≤ ((3 : Int32)).toNatClampNeg) := inb_of S687 ⟨by decide, by decide⟩
    obtain ⟨T687, h687, X687, e687, W687, st687⟩ := stJ X683 hx hZ e683 Ar687 (j := (3 : Int32)) hin687 (g := (mkF m 439 #[.val (.ref self), .val (.int (8 : Int32)), .val (.ref ta), .val (.ref ha), .val (.int ec), .val (.ref sa), .val (.int (2 : Int32)), .val (.ref b128), .val (.int (3 : Int32)), .val (.int v341)] [(.long v686), (.int (3 : Int32)), (.ref b643)])) rfl rfl (hb hby d1_439)
    have V687 : Arv Z h687 b643 k643 .long (8 : Int32) [(.long v654), (.long v668), (.long v677), (.long v686), (.long (0 : Int64)), (.long (0 : Int64)), (.long (0 : Int64)), (.long (0 : Int64))] (.long (0 : Int64)) := Arv.set Ar687 q687 S687 Ng687 H687 Gf687 rfl W687 3 rfl (Nat.le_of_ble_eq_true rfl)
    have z687 : h687.size = h678.size := W687.size
    have N687 := Fr.snoc X687 N678 gn658
    have K687 : Keep h0 h687 [self] := K678.wr W687 (Or.inr gz659)
    refine Comes.st st687 ?_
    show Comes p e below _ (T687.setTop (mkF m 440 #[.val (.ref self), .val (.int (8 : Int32)), .val (.ref ta), .val (.ref ha), .val (.int ec), .val (.ref sa), .val (.int (2 : Int32)), .val (.ref b128), .val (.int (3 : Int32)), .val (.int v341)] []))
    refine Comes.st (fun t k => XS.iinc X687.here hx rfl (hb hby d1_440) rfl (l' := #[.val (.ref self), .val (.int (8 : Int32)), .val (.ref ta), .val (.ref ha), .val (.int ec), .val (.ref sa), .val (.int (2 : Int32)), .val (.ref b128), .val (.int (4 : Int32)), .val (.int v341)]) rfl (XS.goto X687.here hx rfl (pc0 := 443) (pc' := 419) rfl (hb hby d1_443) (by decide) (by decide) (XS.iload X687.here hx rfl (hb hby d1_419) rfl (XS.iloadN X687.here hx rfl (hb hby d1_421) rfl k)))) ?_
    show Comes p e below _ (T687.setTop (mkF m 422 #[.val (.ref self), .val (.int (8 : Int32)), .val (.ref ta), .val (.ref ha), .val (.int ec), .val (.ref sa), .val (.int (2 : Int32)), .val (.ref b128), .val (.int (4 : Int32)), .val (.int v341)] [(.int (8 : Int32)), (.int (4 : Int32))]))
    have hc422_688 : (4 : Int32) < (8 : Int32) := by decide
    refine Comes.st (fun t k => XS.icmpNo X687.here hx rfl (hb hby d1_422) rfl (tlt hc422_688).2.1 (XS.aloadN X687.here hx rfl (hb hby d1_425) rfl rfl k)) ?_
    show Comes p e below _ (T687.setTop (mkF m 426 #[.val (.ref self), .val (.int (8 : Int32)), .val (.ref ta), .val (.ref ha), .val (.int ec), .val (.ref sa), .val (.int (2 : Int32)), .val (.ref b128), .val (.int (4 : Int32)), .val (.int v341)] [(.ref self)]))
    have F689 : Fld Z h687 self "com/example/ordr/ordr/layout/LayerNetwork" "excesses" "[J" (.ref b643) := (F680.other W687 (Or.inl (Ne.symm ne655)))
    obtain ⟨T690, X690, e690, st690⟩ := getF X687 hx hZ hown (host := "") (Or.inl (hw _ (List.mem_of_getElem? (i := 33) rfl))) Via.refl e687 F689 (g := (mkF m 426 #[.val (.ref self), .val (.int (8 : Int32)), .val (.ref ta), .val (.ref ha), .val (.int ec), .val (.ref sa), .val (.int (2 : Int32)), .val (.ref b128), .val (.int (4 : Int32)), .val (.int v341)] [(.ref self)])) rfl rfl (hb hby d1_426)
    refine Comes.st st690 ?_
    show Comes p e below _ (T690.setTop (mkF m 429 #[.val (.ref self), .val (.int (8 : Int32)), .val (.ref ta), .val (.ref ha), .val (.int ec), .val (.ref sa), .val (.int (2 : Int32)), .val (.ref b128), .val (.int (4 : Int32)), .val (.int v341)] [(.ref b643)]))
    refine Comes.st (fun t k => XS.iload X690.here hx rfl (hb hby d1_429) rfl (XS.aloadN X690.here hx rfl (hb hby d1_431) rfl rfl k)) ?_
    show Comes p e below _ (T690.setTop (mkF m 432 #[.val (.ref self), .val (.int (8 : Int32)), .val (.ref ta), .val (.ref ha), .val (.int ec), .val (.ref sa), .val (.int (2 : Int32)), .val (.ref b128), .val (.int (4 : Int32)), .val (.int v341)] [(.ref self), (.int (4 : Int32)), (.ref b643)]))
    have F691 : Fld Z h687 self "com/example/ordr/ordr/layout/LayerNetwork" "supplies" "[I" (.ref b421) := (F682.other W687 (Or.inl (Ne.symm ne655)))
    obtain ⟨T692, X692, e692, st692⟩ := getF X690 hx hZ hown (host := "") (Or.inl (hw _ (List.mem_of_getElem? (i := 29) rfl))) Via.refl e690 F691 (g := (mkF m 432 #[.val (.ref self), .val (.int (8 : Int32)), .val (.ref ta), .val (.ref ha), .val (.int ec), .val (.ref sa), .val (.int (2 : Int32)), .val (.ref b128), .val (.int (4 : Int32)), .val (.int v341)] [(.ref self), (.int (4 : Int32)), (.ref b643)])) rfl rfl (hb hby d1_432)
    refine Comes.st st692 ?_
    show Comes p e below _ (T692.setTop (mkF m 435 #[.val (.ref self), .val (.int (8 : Int32)), .val (.ref ta), .val (.ref ha), .val (.int ec), .val (.ref sa), .val (.int (2 : Int32)), .val (.ref b128), .val (.int (4 : Int32)), .val (.int v341)] [(.ref b421), (.int (4 : Int32)), (.ref b643)]))
    refine Comes.st (fun t k => XS.iload X692.here hx rfl (hb hby d1_435) rfl k) ?_
    show Comes p e below _ (T692.setTop (mkF m 437 #[.val (.ref self), .val (.int (8 : Int32)), .val (.ref ta), .val (.ref ha), .val (.int ec), .val (.ref sa), .val (.int (2 : Int32)), .val (.ref b128), .val (.int (4 : Int32)), .val (.int v341)] [(.int (4 : Int32)), (.ref b421), (.int (4 : Int32)), (.ref b643)]))
    have F693 : Ari Z h687 b421 8 f421 := (F684.other W687 ne665)
    obtain ⟨cl694, Ar694, S694, H694⟩ := id F693
    have hin694 : ¬ ((4 : Int32) < 0 ∨ cl694.slots.size ≤ ((4 : Int32)).toNatClampNeg) := by rw [S694]; decide
    refine Comes.st (fun t k => X692.iaload hx (j := (4 : Int32)) (v := (.int (f421 4))) (by rw [e692]; exact Ar694.1) (State.isArrayOf_alike hZ.alike Ar694.2.1) Ar694.2.2 hin694 (H694 _ (Nat.lt_of_not_le fun y => hin694 (Or.inr (S694 ▸ y)))) (g := (mkF m 437 #[.val (.ref self), .val (.int (8 : Int32)), .val (.ref ta), .val (.ref ha), .val (.int ec), .val (.ref sa), .val (.int (2 : Int32)), .val (.ref b128), .val (.int (4 : Int32)), .val (.int v341)] [(.int (4 : Int32)), (.ref b421), (.int (4 : Int32)), (.ref b643)])) rfl rfl (hb hby d1_437) _ (XS.i2l X692.here hx rfl (hb hby d1_438) rfl k)) ?_
    show Comes p e below _ (T692.setTop (mkF m 439 #[.val (.ref self), .val (.int (8 : Int32)), .val (.ref ta), .val (.ref ha), .val (.int ec), .val (.ref sa), .val (.int (2 : Int32)), .val (.ref b128), .val (.int (4 : Int32)), .val (.int v341)] [(.long ((f421 4).toInt64)), (.int (4 : Int32)), (.ref b643)]))
    generalize hv_v695 : ((f421 4).toInt64) = v695
    show Comes p e below _ (T692.setTop (mkF m 439 #[.val (.ref self), .val (.int (8 : Int32)), .val (.ref ta), .val (.ref ha), .val (.int ec), .val (.ref sa), .val (.int (2 : Int32)), .val (.ref b128), .val (.int (4 : Int32)), .val (.int v341)] [(.long v695), (.int (4 : Int32)), (.ref b643)]))
    obtain ⟨cl696, Ar696, q696, S696, Ng696, H696, Gf696⟩ := id V687
    have hin696 : ¬ ((4 : Int32) < 0 ∨ cl696.slots.size ≤ ((4 : Int32)).toNatClampNeg) := inb_of S696 ⟨by decide, by decide⟩
    obtain ⟨T696, h696, X696, e696, W696, st696⟩ := stJ X692 hx hZ e692 Ar696 (j := (4 : Int32)) hin696 (g := (mkF m 439 #[.val (.ref self), .val (.int (8 : Int32)), .val (.ref ta), .val (.ref ha), .val (.int ec), .val (.ref sa), .val (.int (2 : Int32)), .val (.ref b128), .val (.int (4 : Int32)), .val (.int v341)] [(.long v695), (.int (4 : Int32)), (.ref b643)])) rfl rfl (hb hby d1_439)
    have V696 : Arv Z h696 b643 k643 .long (8 : Int32) [(.long v654), (.long v668), (.long v677), (.long v686), (.long v695), (.long (0 : Int64)), (.long (0 : Int64)), (.long (0 : Int64))] (.long (0 : Int64)) := Arv.set Ar696 q696 S696 Ng696 H696 Gf696 rfl W696 4 rfl (Nat.le_of_ble_eq_true rfl)
    have z696 : h696.size = h687.size := W696.size
    have N696 := Fr.snoc X696 N687 gn658
    have K696 : Keep h0 h696 [self] := K687.wr W696 (Or.inr gz659)
    refine Comes.st st696 ?_
    show Comes p e below _ (T696.setTop (mkF m 440 #[.val (.ref self), .val (.int (8 : Int32)), .val (.ref ta), .val (.ref ha), .val (.int ec), .val (.ref sa), .val (.int (2 : Int32)), .val (.ref b128), .val (.int (4 : Int32)), .val (.int v341)] []))
    refine Comes.st (fun t k => XS.iinc X696.here hx rfl (hb hby d1_440) rfl (l' := #[.val (.ref self), .val (.int (8 : Int32)), .val (.ref ta), .val (.ref ha), .val (.int ec), .val (.ref sa), .val (.int (2 : Int32)), .val (.ref b128), .val (.int (5 : Int32)), .val (.int v341)]) rfl (XS.goto X696.here hx rfl (pc0 := 443) (pc' := 419) rfl (hb hby d1_443) (by decide) (by decide) (XS.iload X696.here hx rfl (hb hby d1_419) rfl (XS.iloadN X696.here hx rfl (hb hby d1_421) rfl k)))) ?_
    show Comes p e below _ (T696.setTop (mkF m 422 #[.val (.ref self), .val (.int (8 : Int32)), .val (.ref ta), .val (.ref ha), .val (.int ec), .val (.ref sa), .val (.int (2 : Int32)), .val (.ref b128), .val (.int (5 : Int32)), .val (.int v341)] [(.int (8 : Int32)), (.int (5 : Int32))]))
    have hc422_697 : (5 : Int32) < (8 : Int32) := by decide
    refine Comes.st (fun t k => XS.icmpNo X696.here hx rfl (hb hby d1_422) rfl (tlt hc422_697).2.1 (XS.aloadN X696.here hx rfl (hb hby d1_425) rfl rfl k)) ?_
    show Comes p e below _ (T696.setTop (mkF m 426 #[.val (.ref self), .val (.int (8 : Int32)), .val (.ref ta), .val (.ref ha), .val (.int ec), .val (.ref sa), .val (.int (2 : Int32)), .val (.ref b128), .val (.int (5 : Int32)), .val (.int v341)] [(.ref self)]))
    have F698 : Fld Z h696 self "com/example/ordr/ordr/layout/LayerNetwork" "excesses" "[J" (.ref b643) := (F689.other W696 (Or.inl (Ne.symm ne655)))
    obtain ⟨T699, X699, e699, st699⟩ := getF X696 hx hZ hown (host := "") (Or.inl (hw _ (List.mem_of_getElem? (i := 33) rfl))) Via.refl e696 F698 (g := (mkF m 426 #[.val (.ref self), .val (.int (8 : Int32)), .val (.ref ta), .val (.ref ha), .val (.int ec), .val (.ref sa), .val (.int (2 : Int32)), .val (.ref b128), .val (.int (5 : Int32)), .val (.int v341)] [(.ref self)])) rfl rfl (hb hby d1_426)
    refine Comes.st st699 ?_
    show Comes p e below _ (T699.setTop (mkF m 429 #[.val (.ref self), .val (.int (8 : Int32)), .val (.ref ta), .val (.ref ha), .val (.int ec), .val (.ref sa), .val (.int (2 : Int32)), .val (.ref b128), .val (.int (5 : Int32)), .val (.int v341)] [(.ref b643)]))
    refine Comes.st (fun t k => XS.iload X699.here hx rfl (hb hby d1_429) rfl (XS.aloadN X699.here hx rfl (hb hby d1_431) rfl rfl k)) ?_
    show Comes p e below _ (T699.setTop (mkF m 432 #[.val (.ref self), .val (.int (8 : Int32)), .val (.ref ta), .val (.ref ha), .val (.int ec), .val (.ref sa), .val (.int (2 : Int32)), .val (.ref b128), .val (.int (5 : Int32)), .val (.int v341)] [(.ref self), (.int (5 : Int32)), (.ref b643)]))
    have F700 : Fld Z h696 self "com/example/ordr/ordr/layout/LayerNetwork" "supplies" "[I" (.ref b421) := (F691.other W696 (Or.inl (Ne.symm ne655)))
    obtain ⟨T701, X701, e701, st701⟩ := getF X699 hx hZ hown (host := "") (Or.inl (hw _ (List.mem_of_getElem? (i := 29) rfl))) Via.refl e699 F700 (g := (mkF m 432 #[.val (.ref self), .val (.int (8 : Int32)), .val (.ref ta), .val (.ref ha), .val (.int ec), .val (.ref sa), .val (.int (2 : Int32)), .val (.ref b128), .val (.int (5 : Int32)), .val (.int v341)] [(.ref self), (.int (5 : Int32)), (.ref b643)])) rfl rfl (hb hby d1_432)
    refine Comes.st st701 ?_
    show Comes p e below _ (T701.setTop (mkF m 435 #[.val (.ref self), .val (.int (8 : Int32)), .val (.ref ta), .val (.ref ha), .val (.int ec), .val (.ref sa), .val (.int (2 : Int32)), .val (.ref b128), .val (.int (5 : Int32)), .val (.int v341)] [(.ref b421), (.int (5 : Int32)), (.ref b643)]))
    refine Comes.st (fun t k => XS.iload X701.here hx rfl (hb hby d1_435) rfl k) ?_
    show Comes p e below _ (T701.setTop (mkF m 437 #[.val (.ref self), .val (.int (8 : Int32)), .val (.ref ta), .val (.ref ha), .val (.int ec), .val (.ref sa), .val (.int (2 : Int32)), .val (.ref b128), .val (.int (5 : Int32)), .val (.int v341)] [(.int (5 : Int32)), (.ref b421), (.int (5 : Int32)), (.ref b643)]))
    have F702 : Ari Z h696 b421 8 f421 := (F693.other W696 ne665)
    obtain ⟨cl703, Ar703, S703, H703⟩ := id F702
    have hin703 : ¬ ((5 : Int32) < 0 ∨ cl703.slots.size ≤ ((5 : Int32)).toNatClampNeg) := by rw [S703]; decide
    refine Comes.st (fun t k => X701.iaload hx (j := (5 : Int32)) (v := (.int (f421 5))) (by rw [e701]; exact Ar703.1) (State.isArrayOf_alike hZ.alike Ar703.2.1) Ar703.2.2 hin703 (H703 _ (Nat.lt_of_not_le fun y => hin703 (Or.inr (S703 ▸ y)))) (g := (mkF m 437 #[.val (.ref self), .val (.int (8 : Int32)), .val (.ref ta), .val (.ref ha), .val (.int ec), .val (.ref sa), .val (.int (2 : Int32)), .val (.ref b128), .val (.int (5 : Int32)), .val (.int v341)] [(.int (5 : Int32)), (.ref b421), (.int (5 : Int32)), (.ref b643)])) rfl rfl (hb hby d1_437) _ (XS.i2l X701.here hx rfl (hb hby d1_438) rfl k)) ?_
    show Comes p e below _ (T701.setTop (mkF m 439 #[.val (.ref self), .val (.int (8 : Int32)), .val (.ref ta), .val (.ref ha), .val (.int ec), .val (.ref sa), .val (.int (2 : Int32)), .val (.ref b128), .val (.int (5 : Int32)), .val (.int v341)] [(.long ((f421 5).toInt64)), (.int (5 : Int32)), (.ref b643)]))
    generalize hv_v704 : ((f421 5).toInt64) = v704
    show Comes p e below _ (T701.setTop (mkF m 439 #[.val (.ref self), .val (.int (8 : Int32)), .val (.ref ta), .val (.ref ha), .val (.int ec), .val (.ref sa), .val (.int (2 : Int32)), .val (.ref b128), .val (.int (5 : Int32)), .val (.int v341)] [(.long v704), (.int (5 : Int32)), (.ref b643)]))
    obtain ⟨cl705, Ar705, q705, S705, Ng705, H705, Gf705⟩ := id V696
    have hin705 : ¬ ((5 : Int32) < 0 ∨ cl705.slots.size ≤ ((5 : Int32)).toNatClampNeg) := inb_of S705 ⟨by decide, by decide⟩
    obtain ⟨T705, h705, X705, e705, W705, st705⟩ := stJ X701 hx hZ e701 Ar705 (j := (5 : Int32)) hin705 (g := (mkF m 439 #[.val (.ref self), .val (.int (8 : Int32)), .val (.ref ta), .val (.ref ha), .val (.int ec), .val (.ref sa), .val (.int (2 : Int32)), .val (.ref b128), .val (.int (5 : Int32)), .val (.int v341)] [(.long v704), (.int (5 : Int32)), (.ref b643)])) rfl rfl (hb hby d1_439)
    have V705 : Arv Z h705 b643 k643 .long (8 : Int32) [(.long v654), (.long v668), (.long v677), (.long v686), (.long v695), (.long v704), (.long (0 : Int64)), (.long (0 : Int64))] (.long (0 : Int64)) := Arv.set Ar705 q705 S705 Ng705 H705 Gf705 rfl W705 5 rfl (Nat.le_of_ble_eq_true rfl)
    have z705 : h705.size = h696.size := W705.size
    have N705 := Fr.snoc X705 N696 gn658
    have K705 : Keep h0 h705 [self] := K696.wr W705 (Or.inr gz659)
    refine Comes.st st705 ?_
    show Comes p e below _ (T705.setTop (mkF m 440 #[.val (.ref self), .val (.int (8 : Int32)), .val (.ref ta), .val (.ref ha), .val (.int ec), .val (.ref sa), .val (.int (2 : Int32)), .val (.ref b128), .val (.int (5 : Int32)), .val (.int v341)] []))
    refine Comes.st (fun t k => XS.iinc X705.here hx rfl (hb hby d1_440) rfl (l' := #[.val (.ref self), .val (.int (8 : Int32)), .val (.ref ta), .val (.ref ha), .val (.int ec), .val (.ref sa), .val (.int (2 : Int32)), .val (.ref b128), .val (.int (6 : Int32)), .val (.int v341)]) rfl (XS.goto X705.here hx rfl (pc0 := 443) (pc' := 419) rfl (hb hby d1_443) (by decide) (by decide) (XS.iload X705.here hx rfl (hb hby d1_419) rfl (XS.iloadN X705.here hx rfl (hb hby d1_421) rfl k)))) ?_
    show Comes p e below _ (T705.setTop (mkF m 422 #[.val (.ref self), .val (.int (8 : Int32)), .val (.ref ta), .val (.ref ha), .val (.int ec), .val (.ref sa), .val (.int (2 : Int32)), .val (.ref b128), .val (.int (6 : Int32)), .val (.int v341)] [(.int (8 : Int32)), (.int (6 : Int32))]))
    have hc422_706 : (6 : Int32) < (8 : Int32) := by decide
    refine Comes.st (fun t k => XS.icmpNo X705.here hx rfl (hb hby d1_422) rfl (tlt hc422_706).2.1 (XS.aloadN X705.here hx rfl (hb hby d1_425) rfl rfl k)) ?_
    show Comes p e below _ (T705.setTop (mkF m 426 #[.val (.ref self), .val (.int (8 : Int32)), .val (.ref ta), .val (.ref ha), .val (.int ec), .val (.ref sa), .val (.int (2 : Int32)), .val (.ref b128), .val (.int (6 : Int32)), .val (.int v341)] [(.ref self)]))
    have F707 : Fld Z h705 self "com/example/ordr/ordr/layout/LayerNetwork" "excesses" "[J" (.ref b643) := (F698.other W705 (Or.inl (Ne.symm ne655)))
    obtain ⟨T708, X708, e708, st708⟩ := getF X705 hx hZ hown (host := "") (Or.inl (hw _ (List.mem_of_getElem? (i := 33) rfl))) Via.refl e705 F707 (g := (mkF m 426 #[.val (.ref self), .val (.int (8 : Int32)), .val (.ref ta), .val (.ref ha), .val (.int ec), .val (.ref sa), .val (.int (2 : Int32)), .val (.ref b128), .val (.int (6 : Int32)), .val (.int v341)] [(.ref self)])) rfl rfl (hb hby d1_426)
    refine Comes.st st708 ?_
    show Comes p e below _ (T708.setTop (mkF m 429 #[.val (.ref self), .val (.int (8 : Int32)), .val (.ref ta), .val (.ref ha), .val (.int ec), .val (.ref sa), .val (.int (2 : Int32)), .val (.ref b128), .val (.int (6 : Int32)), .val (.int v341)] [(.ref b643)]))
    refine Comes.st (fun t k => XS.iload X708.here hx rfl (hb hby d1_429) rfl (XS.aloadN X708.here hx rfl (hb hby d1_431) rfl rfl k)) ?_
    show Comes p e below _ (T708.setTop (mkF m 432 #[.val (.ref self), .val (.int (8 : Int32)), .val (.ref ta), .val (.ref ha), .val (.int ec), .val (.ref sa), .val (.int (2 : Int32)), .val (.ref b128), .val (.int (6 : Int32)), .val (.int v341)] [(.ref self), (.int (6 : Int32)), (.ref b643)]))
    have F709 : Fld Z h705 self "com/example/ordr/ordr/layout/LayerNetwork" "supplies" "[I" (.ref b421) := (F700.other W705 (Or.inl (Ne.symm ne655)))
    obtain ⟨T710, X710, e710, st710⟩ := getF X708 hx hZ hown (host := "") (Or.inl (hw _ (List.mem_of_getElem? (i := 29) rfl))) Via.refl e708 F709 (g := (mkF m 432 #[.val (.ref self), .val (.int (8 : Int32)), .val (.ref ta), .val (.ref ha), .val (.int ec), .val (.ref sa), .val (.int (2 : Int32)), .val (.ref b128), .val (.int (6 : Int32)), .val (.int v341)] [(.ref self), (.int (6 : Int32)), (.ref b643)])) rfl rfl (hb hby d1_432)
    refine Comes.st st710 ?_
    show Comes p e below _ (T710.setTop (mkF m 435 #[.val (.ref self), .val (.int (8 : Int32)), .val (.ref ta), .val (.ref ha), .val (.int ec), .val (.ref sa), .val (.int (2 : Int32)), .val (.ref b128), .val (.int (6 : Int32)), .val (.int v341)] [(.ref b421), (.int (6 : Int32)), (.ref b643)]))
    refine Comes.st (fun t k => XS.iload X710.here hx rfl (hb hby d1_435) rfl k) ?_
    show Comes p e below _ (T710.setTop (mkF m 437 #[.val (.ref self), .val (.int (8 : Int32)), .val (.ref ta), .val (.ref ha), .val (.int ec), .val (.ref sa), .val (.int (2 : Int32)), .val (.ref b128), .val (.int (6 : Int32)), .val (.int v341)] [(.int (6 : Int32)), (.ref b421), (.int (6 : Int32)), (.ref b643)]))
    have F711 : Ari Z h705 b421 8 f421 := (F702.other W705 ne665)
    obtain ⟨cl712, Ar712, S712, H712⟩ := id F711
    have hin712 : ¬ ((6 : Int32) < 0 ∨ cl712.slots.size ≤ ((6 : Int32)).toNatClampNeg) := by rw [S712]; decide
    refine Comes.st (fun t k => X710.iaload hx (j := (6 : Int32)) (v := (.int (f421 6))) (by rw [e710]; exact Ar712.1) (State.isArrayOf_alike hZ.alike Ar712.2.1) Ar712.2.2 hin712 (H712 _ (Nat.lt_of_not_le fun y => hin712 (Or.inr (S712 ▸ y)))) (g := (mkF m 437 #[.val (.ref self), .val (.int (8 : Int32)), .val (.ref ta), .val (.ref ha), .val (.int ec), .val (.ref sa), .val (.int (2 : Int32)), .val (.ref b128), .val (.int (6 : Int32)), .val (.int v341)] [(.int (6 : Int32)), (.ref b421), (.int (6 : Int32)), (.ref b643)])) rfl rfl (hb hby d1_437) _ (XS.i2l X710.here hx rfl (hb hby d1_438) rfl k)) ?_
    show Comes p e below _ (T710.setTop (mkF m 439 #[.val (.ref self), .val (.int (8 : Int32)), .val (.ref ta), .val (.ref ha), .val (.int ec), .val (.ref sa), .val (.int (2 : Int32)), .val (.ref b128), .val (.int (6 : Int32)), .val (.int v341)] [(.long ((f421 6).toInt64)), (.int (6 : Int32)), (.ref b643)]))
    generalize hv_v713 : ((f421 6).toInt64) = v713
    show Comes p e below _ (T710.setTop (mkF m 439 #[.val (.ref self), .val (.int (8 : Int32)), .val (.ref ta), .val (.ref ha), .val (.int ec), .val (.ref sa), .val (.int (2 : Int32)), .val (.ref b128), .val (.int (6 : Int32)), .val (.int v341)] [(.long v713), (.int (6 : Int32)), (.ref b643)]))
    obtain ⟨cl714, Ar714, q714, S714, Ng714, H714, Gf714⟩ := id V705
    have hin714 : ¬ ((6 : Int32) < 0 ∨ cl714.slots.size ≤ ((6 : Int32)).toNatClampNeg) := inb_of S714 ⟨by decide, by decide⟩
    obtain ⟨T714, h714, X714, e714, W714, st714⟩ := stJ X710 hx hZ e710 Ar714 (j := (6 : Int32)) hin714 (g := (mkF m 439 #[.val (.ref self), .val (.int (8 : Int32)), .val (.ref ta), .val (.ref ha), .val (.int ec), .val (.ref sa), .val (.int (2 : Int32)), .val (.ref b128), .val (.int (6 : Int32)), .val (.int v341)] [(.long v713), (.int (6 : Int32)), (.ref b643)])) rfl rfl (hb hby d1_439)
    have V714 : Arv Z h714 b643 k643 .long (8 : Int32) [(.long v654), (.long v668), (.long v677), (.long v686), (.long v695), (.long v704), (.long v713), (.long (0 : Int64))] (.long (0 : Int64)) := Arv.set Ar714 q714 S714 Ng714 H714 Gf714 rfl W714 6 rfl (Nat.le_of_ble_eq_true rfl)
    have z714 : h714.size = h705.size := W714.size
    have N714 := Fr.snoc X714 N705 gn658
    have K714 : Keep h0 h714 [self] := K705.wr W714 (Or.inr gz659)
    refine Comes.st st714 ?_
    show Comes p e below _ (T714.setTop (mkF m 440 #[.val (.ref self), .val (.int (8 : Int32)), .val (.ref ta), .val (.ref ha), .val (.int ec), .val (.ref sa), .val (.int (2 : Int32)), .val (.ref b128), .val (.int (6 : Int32)), .val (.int v341)] []))
    refine Comes.st (fun t k => XS.iinc X714.here hx rfl (hb hby d1_440) rfl (l' := #[.val (.ref self), .val (.int (8 : Int32)), .val (.ref ta), .val (.ref ha), .val (.int ec), .val (.ref sa), .val (.int (2 : Int32)), .val (.ref b128), .val (.int (7 : Int32)), .val (.int v341)]) rfl (XS.goto X714.here hx rfl (pc0 := 443) (pc' := 419) rfl (hb hby d1_443) (by decide) (by decide) (XS.iload X714.here hx rfl (hb hby d1_419) rfl (XS.iloadN X714.here hx rfl (hb hby d1_421) rfl k)))) ?_
    show Comes p e below _ (T714.setTop (mkF m 422 #[.val (.ref self), .val (.int (8 : Int32)), .val (.ref ta), .val (.ref ha), .val (.int ec), .val (.ref sa), .val (.int (2 : Int32)), .val (.ref b128), .val (.int (7 : Int32)), .val (.int v341)] [(.int (8 : Int32)), (.int (7 : Int32))]))
    have hc422_715 : (7 : Int32) < (8 : Int32) := by decide
    refine Comes.st (fun t k => XS.icmpNo X714.here hx rfl (hb hby d1_422) rfl (tlt hc422_715).2.1 (XS.aloadN X714.here hx rfl (hb hby d1_425) rfl rfl k)) ?_
    show Comes p e below _ (T714.setTop (mkF m 426 #[.val (.ref self), .val (.int (8 : Int32)), .val (.ref ta), .val (.ref ha), .val (.int ec), .val (.ref sa), .val (.int (2 : Int32)), .val (.ref b128), .val (.int (7 : Int32)), .val (.int v341)] [(.ref self)]))
    have F716 : Fld Z h714 self "com/example/ordr/ordr/layout/LayerNetwork" "excesses" "[J" (.ref b643) := (F707.other W714 (Or.inl (Ne.symm ne655)))
    obtain ⟨T717, X717, e717, st717⟩ := getF X714 hx hZ hown (host := "") (Or.inl (hw _ (List.mem_of_getElem? (i := 33) rfl))) Via.refl e714 F716 (g := (mkF m 426 #[.val (.ref self), .val (.int (8 : Int32)), .val (.ref ta), .val (.ref ha), .val (.int ec), .val (.ref sa), .val (.int (2 : Int32)), .val (.ref b128), .val (.int (7 : Int32)), .val (.int v341)] [(.ref self)])) rfl rfl (hb hby d1_426)
    refine Comes.st st717 ?_
    show Comes p e below _ (T717.setTop (mkF m 429 #[.val (.ref self), .val (.int (8 : Int32)), .val (.ref ta), .val (.ref ha), .val (.int ec), .val (.ref sa), .val (.int (2 : Int32)), .val (.ref b128), .val (.int (7 : Int32)), .val (.int v341)] [(.ref b643)]))
    refine Comes.st (fun t k => XS.iload X717.here hx rfl (hb hby d1_429) rfl (XS.aloadN X717.here hx rfl (hb hby d1_431) rfl rfl k)) ?_
    show Comes p e below _ (T717.setTop (mkF m 432 #[.val (.ref self), .val (.int (8 : Int32)), .val (.ref ta), .val (.ref ha), .val (.int ec), .val (.ref sa), .val (.int (2 : Int32)), .val (.ref b128), .val (.int (7 : Int32)), .val (.int v341)] [(.ref self), (.int (7 : Int32)), (.ref b643)]))
    have F718 : Fld Z h714 self "com/example/ordr/ordr/layout/LayerNetwork" "supplies" "[I" (.ref b421) := (F709.other W714 (Or.inl (Ne.symm ne655)))
    obtain ⟨T719, X719, e719, st719⟩ := getF X717 hx hZ hown (host := "") (Or.inl (hw _ (List.mem_of_getElem? (i := 29) rfl))) Via.refl e717 F718 (g := (mkF m 432 #[.val (.ref self), .val (.int (8 : Int32)), .val (.ref ta), .val (.ref ha), .val (.int ec), .val (.ref sa), .val (.int (2 : Int32)), .val (.ref b128), .val (.int (7 : Int32)), .val (.int v341)] [(.ref self), (.int (7 : Int32)), (.ref b643)])) rfl rfl (hb hby d1_432)
    refine Comes.st st719 ?_
    show Comes p e below _ (T719.setTop (mkF m 435 #[.val (.ref self), .val (.int (8 : Int32)), .val (.ref ta), .val (.ref ha), .val (.int ec), .val (.ref sa), .val (.int (2 : Int32)), .val (.ref b128), .val (.int (7 : Int32)), .val (.int v341)] [(.ref b421), (.int (7 : Int32)), (.ref b643)]))
    refine Comes.st (fun t k => XS.iload X719.here hx rfl (hb hby d1_435) rfl k) ?_
    show Comes p e below _ (T719.setTop (mkF m 437 #[.val (.ref self), .val (.int (8 : Int32)), .val (.ref ta), .val (.ref ha), .val (.int ec), .val (.ref sa), .val (.int (2 : Int32)), .val (.ref b128), .val (.int (7 : Int32)), .val (.int v341)] [(.int (7 : Int32)), (.ref b421), (.int (7 : Int32)), (.ref b643)]))
    have F720 : Ari Z h714 b421 8 f421 := (F711.other W714 ne665)
    obtain ⟨cl721, Ar721, S721, H721⟩ := id F720
    have hin721 : ¬ ((7 : Int32) < 0 ∨ cl721.slots.size ≤ ((7 : Int32)).toNatClampNeg) := by rw [S721]; decide
    refine Comes.st (fun t k => X719.iaload hx (j := (7 : Int32)) (v := (.int (f421 7))) (by rw [e719]; exact Ar721.1) (State.isArrayOf_alike hZ.alike Ar721.2.1) Ar721.2.2 hin721 (H721 _ (Nat.lt_of_not_le fun y => hin721 (Or.inr (S721 ▸ y)))) (g := (mkF m 437 #[.val (.ref self), .val (.int (8 : Int32)), .val (.ref ta), .val (.ref ha), .val (.int ec), .val (.ref sa), .val (.int (2 : Int32)), .val (.ref b128), .val (.int (7 : Int32)), .val (.int v341)] [(.int (7 : Int32)), (.ref b421), (.int (7 : Int32)), (.ref b643)])) rfl rfl (hb hby d1_437) _ (XS.i2l X719.here hx rfl (hb hby d1_438) rfl k)) ?_
    show Comes p e below _ (T719.setTop (mkF m 439 #[.val (.ref self), .val (.int (8 : Int32)), .val (.ref ta), .val (.ref ha), .val (.int ec), .val (.ref sa), .val (.int (2 : Int32)), .val (.ref b128), .val (.int (7 : Int32)), .val (.int v341)] [(.long ((f421 7).toInt64)), (.int (7 : Int32)), (.ref b643)]))
    generalize hv_v722 : ((f421 7).toInt64) = v722
    show Comes p e below _ (T719.setTop (mkF m 439 #[.val (.ref self), .val (.int (8 : Int32)), .val (.ref ta), .val (.ref ha), .val (.int ec), .val (.ref sa), .val (.int (2 : Int32)), .val (.ref b128), .val (.int (7 : Int32)), .val (.int v341)] [(.long v722), (.int (7 : Int32)), (.ref b643)]))
    obtain ⟨cl723, Ar723, q723, S723, Ng723, H723, Gf723⟩ := id V714
    have hin723 : ¬ ((7 : Int32) < 0 ∨ cl723.slots.size ≤ ((7 : Int32)).toNatClampNeg) := inb_of S723 ⟨by decide, by decide⟩
    obtain ⟨T723, h723, X723, e723, W723, st723⟩ := stJ X719 hx hZ e719 Ar723 (j := (7 : Int32)) hin723 (g := (mkF m 439 #[.val (.ref self), .val (.int (8 : Int32)), .val (.ref ta), .val (.ref ha), .val (.int ec), .val (.ref sa), .val (.int (2 : Int32)), .val (.ref b128), .val (.int (7 : Int32)), .val (.int v341)] [(.long v722), (.int (7 : Int32)), (.ref b643)])) rfl rfl (hb hby d1_439)
    have V723 : Arv Z h723 b643 k643 .long (8 : Int32) [(.long v654), (.long v668), (.long v677), (.long v686), (.long v695), (.long v704), (.long v713), (.long v722)] (.long (0 : Int64)) := Arv.set Ar723 q723 S723 Ng723 H723 Gf723 rfl W723 7 rfl (Nat.le_of_ble_eq_true rfl)
    have z723 : h723.size = h714.size := W723.size
    have N723 := Fr.snoc X723 N714 gn658
    have K723 : Keep h0 h723 [self] := K714.wr W723 (Or.inr gz659)
    refine Comes.st st723 ?_
    show Comes p e below _ (T723.setTop (mkF m 440 #[.val (.ref self), .val (.int (8 : Int32)), .val (.ref ta), .val (.ref ha), .val (.int ec), .val (.ref sa), .val (.int (2 : Int32)), .val (.ref b128), .val (.int (7 : Int32)), .val (.int v341)] []))
    refine Comes.st (fun t k => XS.iinc X723.here hx rfl (hb hby d1_440) rfl (l' := #[.val (.ref self), .val (.int (8 : Int32)), .val (.ref ta), .val (.ref ha), .val (.int ec), .val (.ref sa), .val (.int (2 : Int32)), .val (.ref b128), .val (.int (8 : Int32)), .val (.int v341)]) rfl (XS.goto X723.here hx rfl (pc0 := 443) (pc' := 419) rfl (hb hby d1_443) (by decide) (by decide) (XS.iload X723.here hx rfl (hb hby d1_419) rfl (XS.iloadN X723.here hx rfl (hb hby d1_421) rfl k)))) ?_
    show Comes p e below _ (T723.setTop (mkF m 422 #[.val (.ref self), .val (.int (8 : Int32)), .val (.ref ta), .val (.ref ha), .val (.int ec), .val (.ref sa), .val (.int (2 : Int32)), .val (.ref b128), .val (.int (8 : Int32)), .val (.int v341)] [(.int (8 : Int32)), (.int (8 : Int32))]))
    have hc422_724 : ¬ ((8 : Int32) < (8 : Int32)) := by decide
    refine Comes.st (fun t k => XS.icmpYes X723.here hx rfl (pc0 := 422) (pc' := 446) rfl (hb hby d1_422) rfl (flt hc422_724).2.1 (by decide) (by decide) k) ?_
    show Comes p e below _ (T723.setTop (mkF m 446 #[.val (.ref self), .val (.int (8 : Int32)), .val (.ref ta), .val (.ref ha), .val (.int ec), .val (.ref sa), .val (.int (2 : Int32)), .val (.ref b128), .val (.int (8 : Int32)), .val (.int v341)] []))
    have F725 : Exa Z h723 self "com/example/ordr/ordr/layout/LayerNetwork" := (((((((((F644.wr W646).wr W657).wr W669).wr W678).wr W687).wr W696).wr W705).wr W714).wr W723)
    have F726 : Fld Z h723 self "com/example/ordr/ordr/layout/LayerNetwork" "tails" "[I" (.ref ta) := ((((((((((((((((((((((((((((((((((((((((((((((((((((((((((((((((((Fw9.other W12 (Or.inr (slot_ne (Or.inr (hw _ (List.mem_of_getElem? (i := 15) rfl))) (Or.inr (hw _ (List.mem_of_getElem? (i := 17) rfl))) (by decide) (t := (.array .int)) (t' := (.array .int)) (by decide) (by decide)))).ext E15).other W18 (Or.inr (slot_ne (Or.inr (hw _ (List.mem_of_getElem? (i := 15) rfl))) (Or.inr (hw _ (List.mem_of_getElem? (i := 19) rfl))) (by decide) (t := (.array .int)) (t' := (.array .int)) (by decide) (by decide)))).other W27 (Or.inl (Ne.symm ne23))).other W37 (Or.inl (Ne.symm ne23))).other W46 (Or.inl (Ne.symm ne23))).other W53 (Or.inl (Ne.symm ne23))).other W62 (Or.inl (Ne.symm ne23))).other W70 (Or.inl (Ne.symm ne23))).other W78 (Or.inl (Ne.symm ne23))).other W86 (Or.inl (Ne.symm ne23))).other W94 (Or.inl (Ne.symm ne23))).other W102 (Or.inl (Ne.symm ne23))).other W110 (Or.inl (Ne.symm ne23))).other W118 (Or.inl (Ne.symm ne23))).ext E120).other W123 (Or.inr (slot_ne (Or.inr (hw _ (List.mem_of_getElem? (i := 15) rfl))) (Or.inr (hw _ (List.mem_of_getElem? (i := 21) rfl))) (by decide) (t := (.array .int)) (t' := (.array .int)) (by decide) (by decide)))).ext E124).other W127 (Or.inr (slot_ne (Or.inr (hw _ (List.mem_of_getElem? (i := 15) rfl))) (Or.inr (hw _ (List.mem_of_getElem? (i := 23) rfl))) (by decide) (t := (.array .int)) (t' := (.array .int)) (by decide) (by decide)))).ext E128).other W143 (Or.inl (Ne.symm ne141))).other W154 (Or.inl (Ne.symm ne151))).other W166 (Or.inl ne170)).other W187 (Or.inl (Ne.symm ne141))).other W195 (Or.inl (Ne.symm ne151))).other W201 (Or.inl ne170)).ext E203).other W206 (Or.inr (slot_ne (Or.inr (hw _ (List.mem_of_getElem? (i := 15) rfl))) (Or.inr (hw _ (List.mem_of_getElem? (i := 25) rfl))) (by decide) (t := (.array .int)) (t' := (.array .int)) (by decide) (by decide)))).other W218 (Or.inl (Ne.symm ne216))).other W233 (Or.inl (Ne.symm ne216))).other W244 (Or.inl (Ne.symm ne216))).other W255 (Or.inl (Ne.symm ne216))).other W266 (Or.inl (Ne.symm ne216))).other W277 (Or.inl (Ne.symm ne216))).other W288 (Or.inl (Ne.symm ne216))).other W299 (Or.inl (Ne.symm ne216))).other W317 (Or.inl (Ne.symm ne141))).other W325 (Or.inl (Ne.symm ne151))).other W331 (Or.inl ne170)).other W345 (Or.inl (Ne.symm ne141))).other W351 (Or.inl (Ne.symm ne151))).other W357 (Or.inl ne170)).ext E359).other W362 (Or.inr (slot_ne (Or.inr (hw _ (List.mem_of_getElem? (i := 15) rfl))) (Or.inr (hw _ (List.mem_of_getElem? (i := 28) rfl))) (by decide) (t := (.array .int)) (t' := (.array .long)) (by decide) (by decide)))).other W374 (Or.inl (Ne.symm ne372))).other W383 (Or.inl (Ne.symm ne372))).other W389 (Or.inl (Ne.symm ne372))).other W395 (Or.inl (Ne.symm ne372))).other W401 (Or.inl (Ne.symm ne372))).other W407 (Or.inl (Ne.symm ne372))).other W413 (Or.inl (Ne.symm ne372))).other W419 (Or.inl (Ne.symm ne372))).ext E421).other W424 (Or.inr (slot_ne (Or.inr (hw _ (List.mem_of_getElem? (i := 15) rfl))) (Or.inr (hw _ (List.mem_of_getElem? (i := 30) rfl))) (by decide) (t := (.array .int)) (t' := (.array .int)) (by decide) (by decide)))).ext E639).other W642 (Or.inr (slot_ne (Or.inr (hw _ (List.mem_of_getElem? (i := 15) rfl))) (Or.inr (hw _ (List.mem_of_getElem? (i := 32) rfl))) (by decide) (t := (.array .int)) (t' := (.array .long)) (by decide) (by decide)))).ext E643).other W646 (Or.inr (slot_ne (Or.inr (hw _ (List.mem_of_getElem? (i := 15) rfl))) (Or.inr (hw _ (List.mem_of_getElem? (i := 34) rfl))) (by decide) (t := (.array .int)) (t' := (.array .long)) (by decide) (by decide)))).other W657 (Or.inl (Ne.symm ne655))).other W669 (Or.inl (Ne.symm ne655))).other W678 (Or.inl (Ne.symm ne655))).other W687 (Or.inl (Ne.symm ne655))).other W696 (Or.inl (Ne.symm ne655))).other W705 (Or.inl (Ne.symm ne655))).other W714 (Or.inl (Ne.symm ne655))).other W723 (Or.inl (Ne.symm ne655)))
    have F727 : Fld Z h723 self "com/example/ordr/ordr/layout/LayerNetwork" "heads" "[I" (.ref ha) := (((((((((((((((((((((((((((((((((((((((((((((((((((((((((((((((((Fw12.ext E15).other W18 (Or.inr (slot_ne (Or.inr (hw _ (List.mem_of_getElem? (i := 17) rfl))) (Or.inr (hw _ (List.mem_of_getElem? (i := 19) rfl))) (by decide) (t := (.array .int)) (t' := (.array .int)) (by decide) (by decide)))).other W27 (Or.inl (Ne.symm ne23))).other W37 (Or.inl (Ne.symm ne23))).other W46 (Or.inl (Ne.symm ne23))).other W53 (Or.inl (Ne.symm ne23))).other W62 (Or.inl (Ne.symm ne23))).other W70 (Or.inl (Ne.symm ne23))).other W78 (Or.inl (Ne.symm ne23))).other W86 (Or.inl (Ne.symm ne23))).other W94 (Or.inl (Ne.symm ne23))).other W102 (Or.inl (Ne.symm ne23))).other W110 (Or.inl (Ne.symm ne23))).other W118 (Or.inl (Ne.symm ne23))).ext E120).other W123 (Or.inr (slot_ne (Or.inr (hw _ (List.mem_of_getElem? (i := 17) rfl))) (Or.inr (hw _ (List.mem_of_getElem? (i := 21) rfl))) (by decide) (t := (.array .int)) (t' := (.array .int)) (by decide) (by decide)))).ext E124).other W127 (Or.inr (slot_ne (Or.inr (hw _ (List.mem_of_getElem? (i := 17) rfl))) (Or.inr (hw _ (List.mem_of_getElem? (i := 23) rfl))) (by decide) (t := (.array .int)) (t' := (.array .int)) (by decide) (by decide)))).ext E128).other W143 (Or.inl (Ne.symm ne141))).other W154 (Or.inl (Ne.symm ne151))).other W166 (Or.inl ne170)).other W187 (Or.inl (Ne.symm ne141))).other W195 (Or.inl (Ne.symm ne151))).other W201 (Or.inl ne170)).ext E203).other W206 (Or.inr (slot_ne (Or.inr (hw _ (List.mem_of_getElem? (i := 17) rfl))) (Or.inr (hw _ (List.mem_of_getElem? (i := 25) rfl))) (by decide) (t := (.array .int)) (t' := (.array .int)) (by decide) (by decide)))).other W218 (Or.inl (Ne.symm ne216))).other W233 (Or.inl (Ne.symm ne216))).other W244 (Or.inl (Ne.symm ne216))).other W255 (Or.inl (Ne.symm ne216))).other W266 (Or.inl (Ne.symm ne216))).other W277 (Or.inl (Ne.symm ne216))).other W288 (Or.inl (Ne.symm ne216))).other W299 (Or.inl (Ne.symm ne216))).other W317 (Or.inl (Ne.symm ne141))).other W325 (Or.inl (Ne.symm ne151))).other W331 (Or.inl ne170)).other W345 (Or.inl (Ne.symm ne141))).other W351 (Or.inl (Ne.symm ne151))).other W357 (Or.inl ne170)).ext E359).other W362 (Or.inr (slot_ne (Or.inr (hw _ (List.mem_of_getElem? (i := 17) rfl))) (Or.inr (hw _ (List.mem_of_getElem? (i := 28) rfl))) (by decide) (t := (.array .int)) (t' := (.array .long)) (by decide) (by decide)))).other W374 (Or.inl (Ne.symm ne372))).other W383 (Or.inl (Ne.symm ne372))).other W389 (Or.inl (Ne.symm ne372))).other W395 (Or.inl (Ne.symm ne372))).other W401 (Or.inl (Ne.symm ne372))).other W407 (Or.inl (Ne.symm ne372))).other W413 (Or.inl (Ne.symm ne372))).other W419 (Or.inl (Ne.symm ne372))).ext E421).other W424 (Or.inr (slot_ne (Or.inr (hw _ (List.mem_of_getElem? (i := 17) rfl))) (Or.inr (hw _ (List.mem_of_getElem? (i := 30) rfl))) (by decide) (t := (.array .int)) (t' := (.array .int)) (by decide) (by decide)))).ext E639).other W642 (Or.inr (slot_ne (Or.inr (hw _ (List.mem_of_getElem? (i := 17) rfl))) (Or.inr (hw _ (List.mem_of_getElem? (i := 32) rfl))) (by decide) (t := (.array .int)) (t' := (.array .long)) (by decide) (by decide)))).ext E643).other W646 (Or.inr (slot_ne (Or.inr (hw _ (List.mem_of_getElem? (i := 17) rfl))) (Or.inr (hw _ (List.mem_of_getElem? (i := 34) rfl))) (by decide) (t := (.array .int)) (t' := (.array .long)) (by decide) (by decide)))).other W657 (Or.inl (Ne.symm ne655))).other W669 (Or.inl (Ne.symm ne655))).other W678 (Or.inl (Ne.symm ne655))).other W687 (Or.inl (Ne.symm ne655))).other W696 (Or.inl (Ne.symm ne655))).other W705 (Or.inl (Ne.symm ne655))).other W714 (Or.inl (Ne.symm ne655))).other W723 (Or.inl (Ne.symm ne655)))
    exact Comes.ret0 X723 hx Bd.returns hlk (hb hby d1_446) e723 ⟨rfl, N723, K723, F725, F726, F727⟩ (by decide) (by decide)
def Q_oe0 (Z : State) (self : Nat) (nd : Int32) (ta : Nat) (ha : Nat) (kt : ClassId) (kh : ClassId) (t0 : Int32) (h0_ : Int32) (t1 : Int32) (h1 : Int32) (h0 : Heap) (n0 : Nat) (v : Option Value) (h : Heap) (L : List Loc) : Prop := ∃ (r : Int32), (v = some (.int r)) ∧ (Fr n0 L) ∧ (h = h0) ∧ ((t0 = nd ∧ r = h0_) ∨ (¬ t0 = nd ∧ r = t0))
set_option maxRecDepth 65536 in
set_option maxHeartbeats 40000000 in
theorem oe0 (l : Launch) (Z : State) (a0 : Array Value) (hw : ∀ d ∈ tables_1, d.before a0 Z = true) (ws : List Jvm.Cond) (self : Nat) (nd : Int32) (ta : Nat) (ha : Nat) (kt : ClassId) (kh : ClassId) (t0 : Int32) (h0_ : Int32) (t1 : Int32) (h1 : Int32) (h0 : Heap) (n0 : Nat) (Z0 : n0 ≤ h0.size) (G0 : Fld Z h0 self "com/example/ordr/ordr/layout/LayerNetwork" "tails" "[I" (.ref ta)) (G1 : Fld Z h0 self "com/example/ordr/ordr/layout/LayerNetwork" "heads" "[I" (.ref ha)) (G2 : Arv Z h0 ta kt .int (2 : Int32) [(.int t0), (.int t1)] (.int (0 : Int32))) (G3 : Arv Z h0 ha kh .int (2 : Int32) [(.int h0_), (.int h1)] (.int (0 : Int32))) :
    MetFree l (⟨"com/example/ordr/ordr/layout/LayerNetwork", "otherEnd", "(II)I"⟩ : MethodName) (head1 (Jvm.Cond.code (⟨"com/example/ordr/ordr/layout/LayerNetwork", "otherEnd", "(II)I"⟩ : MethodName) prog_45_method_6_code 3 (some .int) :: ws) ({ frames := 0, cells := 0, slots := 0, locals := 0 } : Room)) (fun a U => a = #[(.ref self), (.int (0 : Int32)), (.int nd)] ∧ Z.Warmed39 U.vm ∧ U.heap = h0) (fun _ _ _ _ _ => True) (fun _ U o U' => ∃ v L, o = .returned v ∧ Q_oe0 Z self nd ta ha kt kh t0 h0_ t1 h1 h0 n0 v U'.heap L ∧ FrameEnd U o U' L ({ frames := 0, cells := 0, slots := 0, locals := 0 } : Room).cells ({ frames := 0, cells := 0, slots := 0, locals := 0 } : Room).slots) := by
  refine MetFree.of_bodySF (plainFor_of_name pn_3) hisR ?_
  intro p e s m args below meth c s₁ Bd hml0 hP hK
  obtain ⟨rfl, hZ, hh⟩ := hP
  have hx := Bd.exec
  have hby := Bd.bytes
  have hml : c.maxLocals = 3 := hml0
  have hown : s.vm.findClass "com/example/ordr/ordr/layout/LayerNetwork" = some m.cls := findClass_of_methodNamed Bd.named
  have hnm := (name_of_methodNamed Bd.named Bd.method).1
  have hlk : meth.locks = false := Bd.notSynchronized
  have X0 : Stand p l e ({ frames := 0, cells := 0, slots := 0, locals := 0 } : Room) s m #[(.ref self), (.int (0 : Int32)), (.int nd)] below meth c s₁ [] 0 0 := Stand.of_body Bd
  have e0 : s₁.heap = h0 := by rw [← hh, Bd.state]; rfl
  have N0 := Fr.nil n0
  refine Comes.out (Q := Q_oe0 Z self nd ta ha kt kh t0 h0_ t1 h1 h0 n0) (kc := ({ frames := 0, cells := 0, slots := 0, locals := 0 } : Room).cells) (ks := ({ frames := 0, cells := 0, slots := 0, locals := 0 } : Room).slots) ?_
  refine Comes.cast (ef_oe0 m self nd) ?_
  have lt_self : self < h0.size := G0.lt
  have lt_ta : ta < h0.size := G2.lt
  have lt_ha : ha < h0.size := G3.lt
  show Comes p e below _ (s₁.setTop (mkF m 0 #[.val (.ref self), .val (.int (0 : Int32)), .val (.int nd)] []))
  refine Comes.st (fun t k => XS.aloadN X0.here hx rfl (hb hby d3_0) rfl rfl k) ?_
  show Comes p e below _ (s₁.setTop (mkF m 1 #[.val (.ref self), .val (.int (0 : Int32)), .val (.int nd)] [(.ref self)]))
  obtain ⟨T1, X1, e1, st1⟩ := getF X0 hx hZ hown (host := "") (Or.inl (hw _ (List.mem_of_getElem? (i := 14) rfl))) Via.refl e0 G0 (g := (mkF m 1 #[.val (.ref self), .val (.int (0 : Int32)), .val (.int nd)] [(.ref self)])) rfl rfl (hb hby d3_1)
  refine Comes.st st1 ?_
  show Comes p e below _ (T1.setTop (mkF m 4 #[.val (.ref self), .val (.int (0 : Int32)), .val (.int nd)] [(.ref ta)]))
  refine Comes.st (fun t k => XS.iloadN X1.here hx rfl (hb hby d3_4) rfl k) ?_
  show Comes p e below _ (T1.setTop (mkF m 5 #[.val (.ref self), .val (.int (0 : Int32)), .val (.int nd)] [(.int (0 : Int32)), (.ref ta)]))
  obtain ⟨cl2, Ar2, q2, S2, Ng2, H2, Gf2⟩ := id G2
  have hin2 : ¬ ((0 : Int32) < 0 ∨ cl2.slots.size ≤ ((0 : Int32)).toNatClampNeg) := inb_of S2 ⟨by decide, by decide⟩
  refine Comes.st (fun t k => X1.iaload hx (j := (0 : Int32)) (v := (.int t0)) (by rw [e1]; exact Ar2.1) (State.isArrayOf_alike hZ.alike Ar2.2.1) Ar2.2.2 hin2 (Has.at H2 hin2 rfl) (g := (mkF m 5 #[.val (.ref self), .val (.int (0 : Int32)), .val (.int nd)] [(.int (0 : Int32)), (.ref ta)])) rfl rfl (hb hby d3_5) _ (XS.iloadN X1.here hx rfl (hb hby d3_6) rfl k)) ?_
  show Comes p e below _ (T1.setTop (mkF m 7 #[.val (.ref self), .val (.int (0 : Int32)), .val (.int nd)] [(.int nd), (.int t0)]))
  by_cases hc7_3 : t0 = nd
  · refine Comes.st (fun t k => XS.icmpNo X1.here hx rfl (hb hby d3_7) rfl (teq hc7_3).2 (XS.aloadN X1.here hx rfl (hb hby d3_10) rfl rfl k)) ?_
    show Comes p e below _ (T1.setTop (mkF m 11 #[.val (.ref self), .val (.int (0 : Int32)), .val (.int nd)] [(.ref self)]))
    obtain ⟨T4, X4, e4, st4⟩ := getF X1 hx hZ hown (host := "") (Or.inl (hw _ (List.mem_of_getElem? (i := 16) rfl))) Via.refl e1 G1 (g := (mkF m 11 #[.val (.ref self), .val (.int (0 : Int32)), .val (.int nd)] [(.ref self)])) rfl rfl (hb hby d3_11)
    refine Comes.st st4 ?_
    show Comes p e below _ (T4.setTop (mkF m 14 #[.val (.ref self), .val (.int (0 : Int32)), .val (.int nd)] [(.ref ha)]))
    refine Comes.st (fun t k => XS.iloadN X4.here hx rfl (hb hby d3_14) rfl k) ?_
    show Comes p e below _ (T4.setTop (mkF m 15 #[.val (.ref self), .val (.int (0 : Int32)), .val (.int nd)] [(.int (0 : Int32)), (.ref ha)]))
    obtain ⟨cl5, Ar5, q5, S5, Ng5, H5, Gf5⟩ := id G3
    have hin5 : ¬ ((0 : Int32) < 0 ∨ cl5.slots.size ≤ ((0 : Int32)).toNatClampNeg) := inb_of S5 ⟨by decide, by decide⟩
    refine Comes.st (fun t k => X4.iaload hx (j := (0 : Int32)) (v := (.int h0_)) (by rw [e4]; exact Ar5.1) (State.isArrayOf_alike hZ.alike Ar5.2.1) Ar5.2.2 hin5 (Has.at H5 hin5 rfl) (g := (mkF m 15 #[.val (.ref self), .val (.int (0 : Int32)), .val (.int nd)] [(.int (0 : Int32)), (.ref ha)])) rfl rfl (hb hby d3_15) _ (XS.goto X4.here hx rfl (pc0 := 16) (pc' := 25) rfl (hb hby d3_16) (by decide) (by decide) k)) ?_
    show Comes p e below _ (T4.setTop (mkF m 25 #[.val (.ref self), .val (.int (0 : Int32)), .val (.int nd)] [(.int h0_)]))
    exact Comes.retV X4 hx Bd.returns rfl (Or.inl ⟨rfl, Or.inl rfl, _, rfl⟩) hlk (hb hby d3_25) e4 ⟨h0_, rfl, N0, rfl, (by first | exact Or.inl ⟨by assumption, rfl⟩ | exact Or.inr ⟨by assumption, rfl⟩)⟩ (by decide) (by decide)
  · refine Comes.st (fun t k => XS.icmpYes X1.here hx rfl (pc0 := 7) (pc' := 19) rfl (hb hby d3_7) rfl (feq hc7_3).2 (by decide) (by decide) (XS.aloadN X1.here hx rfl (hb hby d3_19) rfl rfl k)) ?_
    show Comes p e below _ (T1.setTop (mkF m 20 #[.val (.ref self), .val (.int (0 : Int32)), .val (.int nd)] [(.ref self)]))
    obtain ⟨T6, X6, e6, st6⟩ := getF X1 hx hZ hown (host := "") (Or.inl (hw _ (List.mem_of_getElem? (i := 14) rfl))) Via.refl e1 G0 (g := (mkF m 20 #[.val (.ref self), .val (.int (0 : Int32)), .val (.int nd)] [(.ref self)])) rfl rfl (hb hby d3_20)
    refine Comes.st st6 ?_
    show Comes p e below _ (T6.setTop (mkF m 23 #[.val (.ref self), .val (.int (0 : Int32)), .val (.int nd)] [(.ref ta)]))
    refine Comes.st (fun t k => XS.iloadN X6.here hx rfl (hb hby d3_23) rfl k) ?_
    show Comes p e below _ (T6.setTop (mkF m 24 #[.val (.ref self), .val (.int (0 : Int32)), .val (.int nd)] [(.int (0 : Int32)), (.ref ta)]))
    obtain ⟨cl7, Ar7, q7, S7, Ng7, H7, Gf7⟩ := id G2
    have hin7 : ¬ ((0 : Int32) < 0 ∨ cl7.slots.size ≤ ((0 : Int32)).toNatClampNeg) := inb_of S7 ⟨by decide, by decide⟩
    refine Comes.st (fun t k => X6.iaload hx (j := (0 : Int32)) (v := (.int t0)) (by rw [e6]; exact Ar7.1) (State.isArrayOf_alike hZ.alike Ar7.2.1) Ar7.2.2 hin7 (Has.at H7 hin7 rfl) (g := (mkF m 24 #[.val (.ref self), .val (.int (0 : Int32)), .val (.int nd)] [(.int (0 : Int32)), (.ref ta)])) rfl rfl (hb hby d3_24) _ k) ?_
    show Comes p e below _ (T6.setTop (mkF m 25 #[.val (.ref self), .val (.int (0 : Int32)), .val (.int nd)] [(.int t0)]))
    exact Comes.retV X6 hx Bd.returns rfl (Or.inl ⟨rfl, Or.inl rfl, _, rfl⟩) hlk (hb hby d3_25) e6 ⟨t0, rfl, N0, rfl, (by first | exact Or.inl ⟨by assumption, rfl⟩ | exact Or.inr ⟨by assumption, rfl⟩)⟩ (by decide) (by decide)
def Q_oe1 (Z : State) (self : Nat) (nd : Int32) (ta : Nat) (ha : Nat) (kt : ClassId) (kh : ClassId) (t0 : Int32) (h0_ : Int32) (t1 : Int32) (h1 : Int32) (h0 : Heap) (n0 : Nat) (v : Option Value) (h : Heap) (L : List Loc) : Prop := ∃ (r : Int32), (v = some (.int r)) ∧ (Fr n0 L) ∧ (h = h0) ∧ ((t1 = nd ∧ r = h1) ∨ (¬ t1 = nd ∧ r = t1))
set_option maxRecDepth 65536 in
set_option maxHeartbeats 40000000 in
theorem oe1 (l : Launch) (Z : State) (a0 : Array Value) (hw : ∀ d ∈ tables_1, d.before a0 Z = true) (ws : List Jvm.Cond) (self : Nat) (nd : Int32) (ta : Nat) (ha : Nat) (kt : ClassId) (kh : ClassId) (t0 : Int32) (h0_ : Int32) (t1 : Int32) (h1 : Int32) (h0 : Heap) (n0 : Nat) (Z0 : n0 ≤ h0.size) (G0 : Fld Z h0 self "com/example/ordr/ordr/layout/LayerNetwork" "tails" "[I" (.ref ta)) (G1 : Fld Z h0 self "com/example/ordr/ordr/layout/LayerNetwork" "heads" "[I" (.ref ha)) (G2 : Arv Z h0 ta kt .int (2 : Int32) [(.int t0), (.int t1)] (.int (0 : Int32))) (G3 : Arv Z h0 ha kh .int (2 : Int32) [(.int h0_), (.int h1)] (.int (0 : Int32))) :
    MetFree l (⟨"com/example/ordr/ordr/layout/LayerNetwork", "otherEnd", "(II)I"⟩ : MethodName) (head1 (Jvm.Cond.code (⟨"com/example/ordr/ordr/layout/LayerNetwork", "otherEnd", "(II)I"⟩ : MethodName) prog_45_method_6_code 3 (some .int) :: ws) ({ frames := 0, cells := 0, slots := 0, locals := 0 } : Room)) (fun a U => a = #[(.ref self), (.int (1 : Int32)), (.int nd)] ∧ Z.Warmed39 U.vm ∧ U.heap = h0) (fun _ _ _ _ _ => True) (fun _ U o U' => ∃ v L, o = .returned v ∧ Q_oe1 Z self nd ta ha kt kh t0 h0_ t1 h1 h0 n0 v U'.heap L ∧ FrameEnd U o U' L ({ frames := 0, cells := 0, slots := 0, locals := 0 } : Room).cells ({ frames := 0, cells := 0, slots := 0, locals := 0 } : Room).slots) := by
  refine MetFree.of_bodySF (plainFor_of_name pn_3) hisR ?_
  intro p e s m args below meth c s₁ Bd hml0 hP hK
  obtain ⟨rfl, hZ, hh⟩ := hP
  have hx := Bd.exec
  have hby := Bd.bytes
  have hml : c.maxLocals = 3 := hml0
  have hown : s.vm.findClass "com/example/ordr/ordr/layout/LayerNetwork" = some m.cls := findClass_of_methodNamed Bd.named
  have hnm := (name_of_methodNamed Bd.named Bd.method).1
  have hlk : meth.locks = false := Bd.notSynchronized
  have X0 : Stand p l e ({ frames := 0, cells := 0, slots := 0, locals := 0 } : Room) s m #[(.ref self), (.int (1 : Int32)), (.int nd)] below meth c s₁ [] 0 0 := Stand.of_body Bd
  have e0 : s₁.heap = h0 := by rw [← hh, Bd.state]; rfl
  have N0 := Fr.nil n0
  refine Comes.out (Q := Q_oe1 Z self nd ta ha kt kh t0 h0_ t1 h1 h0 n0) (kc := ({ frames := 0, cells := 0, slots := 0, locals := 0 } : Room).cells) (ks := ({ frames := 0, cells := 0, slots := 0, locals := 0 } : Room).slots) ?_
  refine Comes.cast (ef_oe1 m self nd) ?_
  have lt_self : self < h0.size := G0.lt
  have lt_ta : ta < h0.size := G2.lt
  have lt_ha : ha < h0.size := G3.lt
  show Comes p e below _ (s₁.setTop (mkF m 0 #[.val (.ref self), .val (.int (1 : Int32)), .val (.int nd)] []))
  refine Comes.st (fun t k => XS.aloadN X0.here hx rfl (hb hby d3_0) rfl rfl k) ?_
  show Comes p e below _ (s₁.setTop (mkF m 1 #[.val (.ref self), .val (.int (1 : Int32)), .val (.int nd)] [(.ref self)]))
  obtain ⟨T1, X1, e1, st1⟩ := getF X0 hx hZ hown (host := "") (Or.inl (hw _ (List.mem_of_getElem? (i := 14) rfl))) Via.refl e0 G0 (g := (mkF m 1 #[.val (.ref self), .val (.int (1 : Int32)), .val (.int nd)] [(.ref self)])) rfl rfl (hb hby d3_1)
  refine Comes.st st1 ?_
  show Comes p e below _ (T1.setTop (mkF m 4 #[.val (.ref self), .val (.int (1 : Int32)), .val (.int nd)] [(.ref ta)]))
  refine Comes.st (fun t k => XS.iloadN X1.here hx rfl (hb hby d3_4) rfl k) ?_
  show Comes p e below _ (T1.setTop (mkF m 5 #[.val (.ref self), .val (.int (1 : Int32)), .val (.int nd)] [(.int (1 : Int32)), (.ref ta)]))
  obtain ⟨cl2, Ar2, q2, S2, Ng2, H2, Gf2⟩ := id G2
  have hin2 : ¬ ((1 : Int32) < 0 ∨ cl2.slots.size ≤ ((1 : Int32)).toNatClampNeg) := inb_of S2 ⟨by decide, by decide⟩
  refine Comes.st (fun t k => X1.iaload hx (j := (1 : Int32)) (v := (.int t1)) (by rw [e1]; exact Ar2.1) (State.isArrayOf_alike hZ.alike Ar2.2.1) Ar2.2.2 hin2 (Has.at H2 hin2 rfl) (g := (mkF m 5 #[.val (.ref self), .val (.int (1 : Int32)), .val (.int nd)] [(.int (1 : Int32)), (.ref ta)])) rfl rfl (hb hby d3_5) _ (XS.iloadN X1.here hx rfl (hb hby d3_6) rfl k)) ?_
  show Comes p e below _ (T1.setTop (mkF m 7 #[.val (.ref self), .val (.int (1 : Int32)), .val (.int nd)] [(.int nd), (.int t1)]))
  by_cases hc7_3 : t1 = nd
  · refine Comes.st (fun t k => XS.icmpNo X1.here hx rfl (hb hby d3_7) rfl (teq hc7_3).2 (XS.aloadN X1.here hx rfl (hb hby d3_10) rfl rfl k)) ?_
    show Comes p e below _ (T1.setTop (mkF m 11 #[.val (.ref self), .val (.int (1 : Int32)), .val (.int nd)] [(.ref self)]))
    obtain ⟨T4, X4, e4, st4⟩ := getF X1 hx hZ hown (host := "") (Or.inl (hw _ (List.mem_of_getElem? (i := 16) rfl))) Via.refl e1 G1 (g := (mkF m 11 #[.val (.ref self), .val (.int (1 : Int32)), .val (.int nd)] [(.ref self)])) rfl rfl (hb hby d3_11)
    refine Comes.st st4 ?_
    show Comes p e below _ (T4.setTop (mkF m 14 #[.val (.ref self), .val (.int (1 : Int32)), .val (.int nd)] [(.ref ha)]))
    refine Comes.st (fun t k => XS.iloadN X4.here hx rfl (hb hby d3_14) rfl k) ?_
    show Comes p e below _ (T4.setTop (mkF m 15 #[.val (.ref self), .val (.int (1 : Int32)), .val (.int nd)] [(.int (1 : Int32)), (.ref ha)]))
    obtain ⟨cl5, Ar5, q5, S5, Ng5, H5, Gf5⟩ := id G3
    have hin5 : ¬ ((1 : Int32) < 0 ∨ cl5.slots.size ≤ ((1 : Int32)).toNatClampNeg) := inb_of S5 ⟨by decide, by decide⟩
    refine Comes.st (fun t k => X4.iaload hx (j := (1 : Int32)) (v := (.int h1)) (by rw [e4]; exact Ar5.1) (State.isArrayOf_alike hZ.alike Ar5.2.1) Ar5.2.2 hin5 (Has.at H5 hin5 rfl) (g := (mkF m 15 #[.val (.ref self), .val (.int (1 : Int32)), .val (.int nd)] [(.int (1 : Int32)), (.ref ha)])) rfl rfl (hb hby d3_15) _ (XS.goto X4.here hx rfl (pc0 := 16) (pc' := 25) rfl (hb hby d3_16) (by decide) (by decide) k)) ?_
    show Comes p e below _ (T4.setTop (mkF m 25 #[.val (.ref self), .val (.int (1 : Int32)), .val (.int nd)] [(.int h1)]))
    exact Comes.retV X4 hx Bd.returns rfl (Or.inl ⟨rfl, Or.inl rfl, _, rfl⟩) hlk (hb hby d3_25) e4 ⟨h1, rfl, N0, rfl, (by first | exact Or.inl ⟨by assumption, rfl⟩ | exact Or.inr ⟨by assumption, rfl⟩)⟩ (by decide) (by decide)
  · refine Comes.st (fun t k => XS.icmpYes X1.here hx rfl (pc0 := 7) (pc' := 19) rfl (hb hby d3_7) rfl (feq hc7_3).2 (by decide) (by decide) (XS.aloadN X1.here hx rfl (hb hby d3_19) rfl rfl k)) ?_
    show Comes p e below _ (T1.setTop (mkF m 20 #[.val (.ref self), .val (.int (1 : Int32)), .val (.int nd)] [(.ref self)]))
    obtain ⟨T6, X6, e6, st6⟩ := getF X1 hx hZ hown (host := "") (Or.inl (hw _ (List.mem_of_getElem? (i := 14) rfl))) Via.refl e1 G0 (g := (mkF m 20 #[.val (.ref self), .val (.int (1 : Int32)), .val (.int nd)] [(.ref self)])) rfl rfl (hb hby d3_20)
    refine Comes.st st6 ?_
    show Comes p e below _ (T6.setTop (mkF m 23 #[.val (.ref self), .val (.int (1 : Int32)), .val (.int nd)] [(.ref ta)]))
    refine Comes.st (fun t k => XS.iloadN X6.here hx rfl (hb hby d3_23) rfl k) ?_
    show Comes p e below _ (T6.setTop (mkF m 24 #[.val (.ref self), .val (.int (1 : Int32)), .val (.int nd)] [(.int (1 : Int32)), (.ref ta)]))
    obtain ⟨cl7, Ar7, q7, S7, Ng7, H7, Gf7⟩ := id G2
    have hin7 : ¬ ((1 : Int32) < 0 ∨ cl7.slots.size ≤ ((1 : Int32)).toNatClampNeg) := inb_of S7 ⟨by decide, by decide⟩
    refine Comes.st (fun t k => X6.iaload hx (j := (1 : Int32)) (v := (.int t1)) (by rw [e6]; exact Ar7.1) (State.isArrayOf_alike hZ.alike Ar7.2.1) Ar7.2.2 hin7 (Has.at H7 hin7 rfl) (g := (mkF m 24 #[.val (.ref self), .val (.int (1 : Int32)), .val (.int nd)] [(.int (1 : Int32)), (.ref ta)])) rfl rfl (hb hby d3_24) _ k) ?_
    show Comes p e below _ (T6.setTop (mkF m 25 #[.val (.ref self), .val (.int (1 : Int32)), .val (.int nd)] [(.int t1)]))
    exact Comes.retV X6 hx Bd.returns rfl (Or.inl ⟨rfl, Or.inl rfl, _, rfl⟩) hlk (hb hby d3_25) e6 ⟨t1, rfl, N0, rfl, (by first | exact Or.inl ⟨by assumption, rfl⟩ | exact Or.inr ⟨by assumption, rfl⟩)⟩ (by decide) (by decide)
def Q_rm0 (Z : State) (i0 : Int32) (i1 : Int32) (i2 : Int32) (i3 : Int32) (sel : Int32) (h0 : Heap) (n0 : Nat) (v : Option Value) (h : Heap) (L : List Loc) : Prop := (v = some (.int (1 : Int32))) ∧ (Fr n0 L)
set_option maxRecDepth 65536 in
set_option maxHeartbeats 40000000 in
theorem rm0 (l : Launch) (Z : State) (a0 : Array Value) (hw : ∀ d ∈ tables_1, d.before a0 Z = true) (ws : List Jvm.Cond) (i0 : Int32) (i1 : Int32) (i2 : Int32) (i3 : Int32) (sel : Int32) (h0 : Heap) (n0 : Nat) (Z0 : n0 ≤ h0.size) :
    MetFree l x (head1 (Jvm.Cond.code x code maxLocals ret :: ws) room_1) (fun a U => a = #[(.int i0), (.int i1), (.int i2), (.int i3), (.int sel)] ∧ Z.Warmed39 U.vm ∧ U.heap = h0) (fun _ _ _ _ _ => True) (fun _ U o U' => ∃ v L, o = .returned v ∧ Q_rm0 Z i0 i1 i2 i3 sel h0 n0 v U'.heap L ∧ FrameEnd U o U' L room_1.cells room_1.slots) := by
  refine MetFree.of_bodySF (plainFor_of_name pn_0) hisR ?_
  intro p e s m args below meth c s₁ Bd hml0 hP hK
  obtain ⟨rfl, hZ, hh⟩ := hP
  have hx := Bd.exec
  have hby := Bd.bytes
  have hml : c.maxLocals = 16 := hml0
  have hown : s.vm.findClass "com/example/ordr/ordr/layout/LayerNetworkOtherEndPinLaw" = some m.cls := findClass_of_methodNamed Bd.named
  have hnm := (name_of_methodNamed Bd.named Bd.method).1
  have hlk : meth.locks = false := Bd.notSynchronized
  have X0 : Stand p l e room_1 s m #[(.int i0), (.int i1), (.int i2), (.int i3), (.int sel)] below meth c s₁ [] 0 0 := Stand.of_body Bd
  have e0 : s₁.heap = h0 := by rw [← hh, Bd.state]; rfl
  have N0 := Fr.nil n0
  refine Comes.out (Q := Q_rm0 Z i0 i1 i2 i3 sel h0 n0) (kc := room_1.cells) (ks := room_1.slots) ?_
  refine Comes.cast (ef_rm0 m i0 i1 i2 i3 sel) ?_
  show Comes p e below _ (s₁.setTop (mkF m 0 #[.val (.int i0), .val (.int i1), .val (.int i2), .val (.int i3), .val (.int sel), .unset, .unset, .unset, .unset, .unset, .unset, .unset, .unset, .unset, .unset, .unset] []))
  refine Comes.st (fun t k => XS.iconst X0.here hx rfl (hb hby at_0) k) ?_
  show Comes p e below _ (s₁.setTop (mkF m 1 #[.val (.int i0), .val (.int i1), .val (.int i2), .val (.int i3), .val (.int sel), .unset, .unset, .unset, .unset, .unset, .unset, .unset, .unset, .unset, .unset, .unset] [(.int (2 : Int32))]))
  obtain ⟨T1, h1, k1, X1, e1, E1, A1, st1⟩ := newP X0 hx hZ (hw _ (List.mem_of_getElem? (i := 0) rfl)) e0 (g := (mkF m 1 #[.val (.int i0), .val (.int i1), .val (.int i2), .val (.int i3), .val (.int sel), .unset, .unset, .unset, .unset, .unset, .unset, .unset, .unset, .unset, .unset, .unset] [(.int (2 : Int32))])) rfl (hb hby at_1) rfl (by decide) (cap := 2) (by decide) (by decide) (by decide) (by decide)
  obtain ⟨b1, g1⟩ : ∃ z, z = h0.size := ⟨_, rfl⟩
  rw [← g1] at A1 st1
  have z1 : h0.size ≤ h1.size := E1.1
  have lt1 : b1 < h1.size := A1.lt
  have V1 : Arv Z h1 b1 k1 .int (2 : Int32) [(.int (0 : Int32)), (.int (0 : Int32))] (.int (0 : Int32)) := (Arv.new A1 (by decide)).pad (pad_rep [] (.int (0 : Int32)) 2)
  refine Comes.st st1 ?_
  show Comes p e below _ (T1.setTop (mkF m 3 #[.val (.int i0), .val (.int i1), .val (.int i2), .val (.int i3), .val (.int sel), .unset, .unset, .unset, .unset, .unset, .unset, .unset, .unset, .unset, .unset, .unset] [(.ref b1)]))
  refine Comes.st (fun t k => XS.astore X1.here hx rfl (hb hby at_3) rfl rfl (l' := #[.val (.int i0), .val (.int i1), .val (.int i2), .val (.int i3), .val (.int sel), .val (.ref b1), .unset, .unset, .unset, .unset, .unset, .unset, .unset, .unset, .unset, .unset]) rfl (XS.iconst X1.here hx rfl (hb hby at_5) k)) ?_
  show Comes p e below _ (T1.setTop (mkF m 6 #[.val (.int i0), .val (.int i1), .val (.int i2), .val (.int i3), .val (.int sel), .val (.ref b1), .unset, .unset, .unset, .unset, .unset, .unset, .unset, .unset, .unset, .unset] [(.int (2 : Int32))]))
  obtain ⟨T2, h2, k2, X2, e2, E2, A2, st2⟩ := newP X1 hx hZ (hw _ (List.mem_of_getElem? (i := 0) rfl)) e1 (g := (mkF m 6 #[.val (.int i0), .val (.int i1), .val (.int i2), .val (.int i3), .val (.int sel), .val (.ref b1), .unset, .unset, .unset, .unset, .unset, .unset, .unset, .unset, .unset, .unset] [(.int (2 : Int32))])) rfl (hb hby at_6) rfl (by decide) (cap := 2) (by decide) (by decide) (by decide) (by decide)
  obtain ⟨b2, g2⟩ : ∃ z, z = h1.size := ⟨_, rfl⟩
  rw [← g2] at A2 st2
  have z2 : h1.size ≤ h2.size := E2.1
  have lt2 : b2 < h2.size := A2.lt
  have V2 : Arv Z h2 b2 k2 .int (2 : Int32) [(.int (0 : Int32)), (.int (0 : Int32))] (.int (0 : Int32)) := (Arv.new A2 (by decide)).pad (pad_rep [] (.int (0 : Int32)) 2)
  refine Comes.st st2 ?_
  show Comes p e below _ (T2.setTop (mkF m 8 #[.val (.int i0), .val (.int i1), .val (.int i2), .val (.int i3), .val (.int sel), .val (.ref b1), .unset, .unset, .unset, .unset, .unset, .unset, .unset, .unset, .unset, .unset] [(.ref b2)]))
  refine Comes.st (fun t k => XS.astore X2.here hx rfl (hb hby at_8) rfl rfl (l' := #[.val (.int i0), .val (.int i1), .val (.int i2), .val (.int i3), .val (.int sel), .val (.ref b1), .val (.ref b2), .unset, .unset, .unset, .unset, .unset, .unset, .unset, .unset, .unset]) rfl (XS.aload X2.here hx rfl (hb hby at_10) rfl rfl (XS.iconst X2.here hx rfl (hb hby at_12) (XS.iloadN X2.here hx rfl (hb hby at_13) rfl (XS.bipush X2.here hx rfl (hb hby at_14) (XS.iand X2.here hx rfl (hb hby at_16) rfl k)))))) ?_
  show Comes p e below _ (T2.setTop (mkF m 17 #[.val (.int i0), .val (.int i1), .val (.int i2), .val (.int i3), .val (.int sel), .val (.ref b1), .val (.ref b2), .unset, .unset, .unset, .unset, .unset, .unset, .unset, .unset, .unset] [(.int (i0 &&& (7 : Int32))), (.int (0 : Int32)), (.ref b1)]))
  generalize hv_v3 : (i0 &&& (7 : Int32)) = v3
  show Comes p e below _ (T2.setTop (mkF m 17 #[.val (.int i0), .val (.int i1), .val (.int i2), .val (.int i3), .val (.int sel), .val (.ref b1), .val (.ref b2), .unset, .unset, .unset, .unset, .unset, .unset, .unset, .unset, .unset] [(.int v3), (.int (0 : Int32)), (.ref b1)]))
  have F4 : Arv Z h2 b1 k1 .int (2 : Int32) [(.int (0 : Int32)), (.int (0 : Int32))] (.int (0 : Int32)) := (V1.ext E2)
  obtain ⟨cl5, Ar5, q5, S5, Ng5, H5, Gf5⟩ := id F4
  have hin5 : ¬ ((0 : Int32) < 0 ∨ cl5.slots.size ≤ ((0 : Int32)).toNatClampNeg) := inb_of S5 ⟨by decide, by decide⟩
  obtain ⟨T5, h5, X5, e5, W5, st5⟩ := stI X2 hx hZ e2 Ar5 (j := (0 : Int32)) hin5 (g := (mkF m 17 #[.val (.int i0), .val (.int i1), .val (.int i2), .val (.int i3), .val (.int sel), .val (.ref b1), .val (.ref b2), .unset, .unset, .unset, .unset, .unset, .unset, .unset, .unset, .unset] [(.int v3), (.int (0 : Int32)), (.ref b1)])) rfl rfl (hb hby at_17)
  have V5 : Arv Z h5 b1 k1 .int (2 : Int32) [(.int v3), (.int (0 : Int32))] (.int (0 : Int32)) := Arv.set Ar5 q5 S5 Ng5 H5 Gf5 rfl W5 0 rfl (Nat.le_of_ble_eq_true rfl)
  have z5 : h5.size = h2.size := W5.size
  have gn6 : n0 ≤ b1 := by omega
  have N5 := Fr.snoc X5 N0 gn6
  refine Comes.st st5 ?_
  show Comes p e below _ (T5.setTop (mkF m 18 #[.val (.int i0), .val (.int i1), .val (.int i2), .val (.int i3), .val (.int sel), .val (.ref b1), .val (.ref b2), .unset, .unset, .unset, .unset, .unset, .unset, .unset, .unset, .unset] []))
  refine Comes.st (fun t k => XS.aload X5.here hx rfl (hb hby at_18) rfl rfl (XS.iconst X5.here hx rfl (hb hby at_20) (XS.iloadN X5.here hx rfl (hb hby at_21) rfl (XS.bipush X5.here hx rfl (hb hby at_22) (XS.iand X5.here hx rfl (hb hby at_24) rfl k))))) ?_
  show Comes p e below _ (T5.setTop (mkF m 25 #[.val (.int i0), .val (.int i1), .val (.int i2), .val (.int i3), .val (.int sel), .val (.ref b1), .val (.ref b2), .unset, .unset, .unset, .unset, .unset, .unset, .unset, .unset, .unset] [(.int (i1 &&& (7 : Int32))), (.int (0 : Int32)), (.ref b2)]))
  generalize hv_v7 : (i1 &&& (7 : Int32)) = v7
  show Comes p e below _ (T5.setTop (mkF m 25 #[.val (.int i0), .val (.int i1), .val (.int i2), .val (.int i3), .val (.int sel), .val (.ref b1), .val (.ref b2), .unset, .unset, .unset, .unset, .unset, .unset, .unset, .unset, .unset] [(.int v7), (.int (0 : Int32)), (.ref b2)]))
  have ne8 : b2 ≠ b1 := by omega
  have F9 : Arv Z h5 b2 k2 .int (2 : Int32) [(.int (0 : Int32)), (.int (0 : Int32))] (.int (0 : Int32)) := (V2.other W5 ne8)
  obtain ⟨cl10, Ar10, q10, S10, Ng10, H10, Gf10⟩ := id F9
  have hin10 : ¬ ((0 : Int32) < 0 ∨ cl10.slots.size ≤ ((0 : Int32)).toNatClampNeg) := inb_of S10 ⟨by decide, by decide⟩
  obtain ⟨T10, h10, X10, e10, W10, st10⟩ := stI X5 hx hZ e5 Ar10 (j := (0 : Int32)) hin10 (g := (mkF m 25 #[.val (.int i0), .val (.int i1), .val (.int i2), .val (.int i3), .val (.int sel), .val (.ref b1), .val (.ref b2), .unset, .unset, .unset, .unset, .unset, .unset, .unset, .unset, .unset] [(.int v7), (.int (0 : Int32)), (.ref b2)])) rfl rfl (hb hby at_25)
  have V10 : Arv Z h10 b2 k2 .int (2 : Int32) [(.int v7), (.int (0 : Int32))] (.int (0 : Int32)) := Arv.set Ar10 q10 S10 Ng10 H10 Gf10 rfl W10 0 rfl (Nat.le_of_ble_eq_true rfl)
  have z10 : h10.size = h5.size := W10.size
  have gn11 : n0 ≤ b2 := by omega
  have N10 := Fr.snoc X10 N5 gn11
  refine Comes.st st10 ?_
  show Comes p e below _ (T10.setTop (mkF m 26 #[.val (.int i0), .val (.int i1), .val (.int i2), .val (.int i3), .val (.int sel), .val (.ref b1), .val (.ref b2), .unset, .unset, .unset, .unset, .unset, .unset, .unset, .unset, .unset] []))
  refine Comes.st (fun t k => XS.aload X10.here hx rfl (hb hby at_26) rfl rfl (XS.iconst X10.here hx rfl (hb hby at_28) (XS.iloadN X10.here hx rfl (hb hby at_29) rfl (XS.bipush X10.here hx rfl (hb hby at_30) (XS.iand X10.here hx rfl (hb hby at_32) rfl k))))) ?_
  show Comes p e below _ (T10.setTop (mkF m 33 #[.val (.int i0), .val (.int i1), .val (.int i2), .val (.int i3), .val (.int sel), .val (.ref b1), .val (.ref b2), .unset, .unset, .unset, .unset, .unset, .unset, .unset, .unset, .unset] [(.int (i2 &&& (7 : Int32))), (.int (1 : Int32)), (.ref b1)]))
  generalize hv_v12 : (i2 &&& (7 : Int32)) = v12
  show Comes p e below _ (T10.setTop (mkF m 33 #[.val (.int i0), .val (.int i1), .val (.int i2), .val (.int i3), .val (.int sel), .val (.ref b1), .val (.ref b2), .unset, .unset, .unset, .unset, .unset, .unset, .unset, .unset, .unset] [(.int v12), (.int (1 : Int32)), (.ref b1)]))
  have F13 : Arv Z h10 b1 k1 .int (2 : Int32) [(.int v3), (.int (0 : Int32))] (.int (0 : Int32)) := (V5.other W10 (Ne.symm ne8))
  obtain ⟨cl14, Ar14, q14, S14, Ng14, H14, Gf14⟩ := id F13
  have hin14 : ¬ ((1 : Int32) < 0 ∨ cl14.slots.size ≤ ((1 : Int32)).toNatClampNeg) := inb_of S14 ⟨by decide, by decide⟩
  obtain ⟨T14, h14, X14, e14, W14, st14⟩ := stI X10 hx hZ e10 Ar14 (j := (1 : Int32)) hin14 (g := (mkF m 33 #[.val (.int i0), .val (.int i1), .val (.int i2), .val (.int i3), .val (.int sel), .val (.ref b1), .val (.ref b2), .unset, .unset, .unset, .unset, .unset, .unset, .unset, .unset, .unset] [(.int v12), (.int (1 : Int32)), (.ref b1)])) rfl rfl (hb hby at_33)
  have V14 : Arv Z h14 b1 k1 .int (2 : Int32) [(.int v3), (.int v12)] (.int (0 : Int32)) := Arv.set Ar14 q14 S14 Ng14 H14 Gf14 rfl W14 1 rfl (Nat.le_of_ble_eq_true rfl)
  have z14 : h14.size = h10.size := W14.size
  have N14 := Fr.snoc X14 N10 gn6
  refine Comes.st st14 ?_
  show Comes p e below _ (T14.setTop (mkF m 34 #[.val (.int i0), .val (.int i1), .val (.int i2), .val (.int i3), .val (.int sel), .val (.ref b1), .val (.ref b2), .unset, .unset, .unset, .unset, .unset, .unset, .unset, .unset, .unset] []))
  refine Comes.st (fun t k => XS.aload X14.here hx rfl (hb hby at_34) rfl rfl (XS.iconst X14.here hx rfl (hb hby at_36) (XS.iloadN X14.here hx rfl (hb hby at_37) rfl (XS.bipush X14.here hx rfl (hb hby at_38) (XS.iand X14.here hx rfl (hb hby at_40) rfl k))))) ?_
  show Comes p e below _ (T14.setTop (mkF m 41 #[.val (.int i0), .val (.int i1), .val (.int i2), .val (.int i3), .val (.int sel), .val (.ref b1), .val (.ref b2), .unset, .unset, .unset, .unset, .unset, .unset, .unset, .unset, .unset] [(.int (i3 &&& (7 : Int32))), (.int (1 : Int32)), (.ref b2)]))
  generalize hv_v15 : (i3 &&& (7 : Int32)) = v15
  show Comes p e below _ (T14.setTop (mkF m 41 #[.val (.int i0), .val (.int i1), .val (.int i2), .val (.int i3), .val (.int sel), .val (.ref b1), .val (.ref b2), .unset, .unset, .unset, .unset, .unset, .unset, .unset, .unset, .unset] [(.int v15), (.int (1 : Int32)), (.ref b2)]))
  have F16 : Arv Z h14 b2 k2 .int (2 : Int32) [(.int v7), (.int (0 : Int32))] (.int (0 : Int32)) := (V10.other W14 ne8)
  obtain ⟨cl17, Ar17, q17, S17, Ng17, H17, Gf17⟩ := id F16
  have hin17 : ¬ ((1 : Int32) < 0 ∨ cl17.slots.size ≤ ((1 : Int32)).toNatClampNeg) := inb_of S17 ⟨by decide, by decide⟩
  obtain ⟨T17, h17, X17, e17, W17, st17⟩ := stI X14 hx hZ e14 Ar17 (j := (1 : Int32)) hin17 (g := (mkF m 41 #[.val (.int i0), .val (.int i1), .val (.int i2), .val (.int i3), .val (.int sel), .val (.ref b1), .val (.ref b2), .unset, .unset, .unset, .unset, .unset, .unset, .unset, .unset, .unset] [(.int v15), (.int (1 : Int32)), (.ref b2)])) rfl rfl (hb hby at_41)
  have V17 : Arv Z h17 b2 k2 .int (2 : Int32) [(.int v7), (.int v15)] (.int (0 : Int32)) := Arv.set Ar17 q17 S17 Ng17 H17 Gf17 rfl W17 1 rfl (Nat.le_of_ble_eq_true rfl)
  have z17 : h17.size = h14.size := W17.size
  have N17 := Fr.snoc X17 N14 gn11
  refine Comes.st st17 ?_
  show Comes p e below _ (T17.setTop (mkF m 42 #[.val (.int i0), .val (.int i1), .val (.int i2), .val (.int i3), .val (.int sel), .val (.ref b1), .val (.ref b2), .unset, .unset, .unset, .unset, .unset, .unset, .unset, .unset, .unset] []))
  refine Comes.st (fun t k => XS.iload X17.here hx rfl (hb hby at_42) rfl (XS.iconst X17.here hx rfl (hb hby at_44) (XS.iand X17.here hx rfl (hb hby at_45) rfl (XS.iconst X17.here hx rfl (hb hby at_46) k)))) ?_
  show Comes p e below _ (T17.setTop (mkF m 47 #[.val (.int i0), .val (.int i1), .val (.int i2), .val (.int i3), .val (.int sel), .val (.ref b1), .val (.ref b2), .unset, .unset, .unset, .unset, .unset, .unset, .unset, .unset, .unset] [(.int (3 : Int32)), (.int (sel &&& (3 : Int32)))]))
  have hnz18 : ¬ ((3 : Int32) = (0 : Int32)) := by decide
  refine Comes.st (fun t k => iremM X17 hx rfl (hb hby at_47) rfl hnz18 k) ?_
  show Comes p e below _ (T17.setTop (mkF m 48 #[.val (.int i0), .val (.int i1), .val (.int i2), .val (.int i3), .val (.int sel), .val (.ref b1), .val (.ref b2), .unset, .unset, .unset, .unset, .unset, .unset, .unset, .unset, .unset] [(.int ((sel &&& (3 : Int32)) % (3 : Int32)))]))
  generalize hv_v19 : ((sel &&& (3 : Int32)) % (3 : Int32)) = v19
  show Comes p e below _ (T17.setTop (mkF m 48 #[.val (.int i0), .val (.int i1), .val (.int i2), .val (.int i3), .val (.int sel), .val (.ref b1), .val (.ref b2), .unset, .unset, .unset, .unset, .unset, .unset, .unset, .unset, .unset] [(.int v19)]))
  refine Comes.st (fun t k => XS.istore X17.here hx rfl (hb hby at_48) rfl (l' := #[.val (.int i0), .val (.int i1), .val (.int i2), .val (.int i3), .val (.int sel), .val (.ref b1), .val (.ref b2), .val (.int v19), .unset, .unset, .unset, .unset, .unset, .unset, .unset, .unset]) rfl (XS.bipush X17.here hx rfl (hb hby at_50) k)) ?_
  show Comes p e below _ (T17.setTop (mkF m 52 #[.val (.int i0), .val (.int i1), .val (.int i2), .val (.int i3), .val (.int sel), .val (.ref b1), .val (.ref b2), .val (.int v19), .unset, .unset, .unset, .unset, .unset, .unset, .unset, .unset] [(.int (8 : Int32))]))
  obtain ⟨T20, h20, k20, X20, e20, E20, A20, st20⟩ := newP X17 hx hZ (hw _ (List.mem_of_getElem? (i := 0) rfl)) e17 (g := (mkF m 52 #[.val (.int i0), .val (.int i1), .val (.int i2), .val (.int i3), .val (.int sel), .val (.ref b1), .val (.ref b2), .val (.int v19), .unset, .unset, .unset, .unset, .unset, .unset, .unset, .unset] [(.int (8 : Int32))])) rfl (hb hby at_52) rfl (by decide) (cap := 8) (by decide) (by decide) (by decide) (by decide)
  obtain ⟨b20, g20⟩ : ∃ z, z = h17.size := ⟨_, rfl⟩
  rw [← g20] at A20 st20
  have z20 : h17.size ≤ h20.size := E20.1
  have lt20 : b20 < h20.size := A20.lt
  have V20 : Arv Z h20 b20 k20 .int (8 : Int32) [(.int (0 : Int32)), (.int (0 : Int32)), (.int (0 : Int32)), (.int (0 : Int32)), (.int (0 : Int32)), (.int (0 : Int32)), (.int (0 : Int32)), (.int (0 : Int32))] (.int (0 : Int32)) := (Arv.new A20 (by decide)).pad (pad_rep [] (.int (0 : Int32)) 8)
  refine Comes.st st20 ?_
  show Comes p e below _ (T20.setTop (mkF m 54 #[.val (.int i0), .val (.int i1), .val (.int i2), .val (.int i3), .val (.int sel), .val (.ref b1), .val (.ref b2), .val (.int v19), .unset, .unset, .unset, .unset, .unset, .unset, .unset, .unset] [(.ref b20)]))
  refine Comes.st (fun t k => XS.astore X20.here hx rfl (hb hby at_54) rfl rfl (l' := #[.val (.int i0), .val (.int i1), .val (.int i2), .val (.int i3), .val (.int sel), .val (.ref b1), .val (.ref b2), .val (.int v19), .val (.ref b20), .unset, .unset, .unset, .unset, .unset, .unset, .unset]) rfl (XS.aload X20.here hx rfl (hb hby at_56) rfl rfl (XS.iconst X20.here hx rfl (hb hby at_58) k))) ?_
  show Comes p e below _ (T20.setTop (mkF m 59 #[.val (.int i0), .val (.int i1), .val (.int i2), .val (.int i3), .val (.int sel), .val (.ref b1), .val (.ref b2), .val (.int v19), .val (.ref b20), .unset, .unset, .unset, .unset, .unset, .unset, .unset] [(.int (0 : Int32)), (.ref b1)]))
  have F21 : Arv Z h20 b1 k1 .int (2 : Int32) [(.int v3), (.int v12)] (.int (0 : Int32)) := ((V14.other W17 (Ne.symm ne8)).ext E20)
  obtain ⟨cl22, Ar22, q22, S22, Ng22, H22, Gf22⟩ := id F21
  have hin22 : ¬ ((0 : Int32) < 0 ∨ cl22.slots.size ≤ ((0 : Int32)).toNatClampNeg) := inb_of S22 ⟨by decide, by decide⟩
  refine Comes.st (fun t k => X20.iaload hx (j := (0 : Int32)) (v := (.int v3)) (by rw [e20]; exact Ar22.1) (State.isArrayOf_alike hZ.alike Ar22.2.1) Ar22.2.2 hin22 (Has.at H22 hin22 rfl) (g := (mkF m 59 #[.val (.int i0), .val (.int i1), .val (.int i2), .val (.int i3), .val (.int sel), .val (.ref b1), .val (.ref b2), .val (.int v19), .val (.ref b20), .unset, .unset, .unset, .unset, .unset, .unset, .unset] [(.int (0 : Int32)), (.ref b1)])) rfl rfl (hb hby at_59) _ (XS.istore X20.here hx rfl (hb hby at_60) rfl (l' := #[.val (.int i0), .val (.int i1), .val (.int i2), .val (.int i3), .val (.int sel), .val (.ref b1), .val (.ref b2), .val (.int v19), .val (.ref b20), .val (.int v3), .unset, .unset, .unset, .unset, .unset, .unset]) rfl (XS.aload X20.here hx rfl (hb hby at_62) rfl rfl (XS.iconst X20.here hx rfl (hb hby at_64) k)))) ?_
  show Comes p e below _ (T20.setTop (mkF m 65 #[.val (.int i0), .val (.int i1), .val (.int i2), .val (.int i3), .val (.int sel), .val (.ref b1), .val (.ref b2), .val (.int v19), .val (.ref b20), .val (.int v3), .unset, .unset, .unset, .unset, .unset, .unset] [(.int (0 : Int32)), (.ref b2)]))
  have F23 : Arv Z h20 b2 k2 .int (2 : Int32) [(.int v7), (.int v15)] (.int (0 : Int32)) := (V17.ext E20)
  obtain ⟨cl24, Ar24, q24, S24, Ng24, H24, Gf24⟩ := id F23
  have hin24 : ¬ ((0 : Int32) < 0 ∨ cl24.slots.size ≤ ((0 : Int32)).toNatClampNeg) := inb_of S24 ⟨by decide, by decide⟩
  refine Comes.st (fun t k => X20.iaload hx (j := (0 : Int32)) (v := (.int v7)) (by rw [e20]; exact Ar24.1) (State.isArrayOf_alike hZ.alike Ar24.2.1) Ar24.2.2 hin24 (Has.at H24 hin24 rfl) (g := (mkF m 65 #[.val (.int i0), .val (.int i1), .val (.int i2), .val (.int i3), .val (.int sel), .val (.ref b1), .val (.ref b2), .val (.int v19), .val (.ref b20), .val (.int v3), .unset, .unset, .unset, .unset, .unset, .unset] [(.int (0 : Int32)), (.ref b2)])) rfl rfl (hb hby at_65) _ (XS.istore X20.here hx rfl (hb hby at_66) rfl (l' := #[.val (.int i0), .val (.int i1), .val (.int i2), .val (.int i3), .val (.int sel), .val (.ref b1), .val (.ref b2), .val (.int v19), .val (.ref b20), .val (.int v3), .val (.int v7), .unset, .unset, .unset, .unset, .unset]) rfl (XS.aload X20.here hx rfl (hb hby at_68) rfl rfl (XS.iconst X20.here hx rfl (hb hby at_70) k)))) ?_
  show Comes p e below _ (T20.setTop (mkF m 71 #[.val (.int i0), .val (.int i1), .val (.int i2), .val (.int i3), .val (.int sel), .val (.ref b1), .val (.ref b2), .val (.int v19), .val (.ref b20), .val (.int v3), .val (.int v7), .unset, .unset, .unset, .unset, .unset] [(.int (1 : Int32)), (.ref b1)]))
  obtain ⟨cl25, Ar25, q25, S25, Ng25, H25, Gf25⟩ := id F21
  have hin25 : ¬ ((1 : Int32) < 0 ∨ cl25.slots.size ≤ ((1 : Int32)).toNatClampNeg) := inb_of S25 ⟨by decide, by decide⟩
  refine Comes.st (fun t k => X20.iaload hx (j := (1 : Int32)) (v := (.int v12)) (by rw [e20]; exact Ar25.1) (State.isArrayOf_alike hZ.alike Ar25.2.1) Ar25.2.2 hin25 (Has.at H25 hin25 rfl) (g := (mkF m 71 #[.val (.int i0), .val (.int i1), .val (.int i2), .val (.int i3), .val (.int sel), .val (.ref b1), .val (.ref b2), .val (.int v19), .val (.ref b20), .val (.int v3), .val (.int v7), .unset, .unset, .unset, .unset, .unset] [(.int (1 : Int32)), (.ref b1)])) rfl rfl (hb hby at_71) _ (XS.istore X20.here hx rfl (hb hby at_72) rfl (l' := #[.val (.int i0), .val (.int i1), .val (.int i2), .val (.int i3), .val (.int sel), .val (.ref b1), .val (.ref b2), .val (.int v19), .val (.ref b20), .val (.int v3), .val (.int v7), .val (.int v12), .unset, .unset, .unset, .unset]) rfl (XS.aload X20.here hx rfl (hb hby at_74) rfl rfl (XS.iconst X20.here hx rfl (hb hby at_76) k)))) ?_
  show Comes p e below _ (T20.setTop (mkF m 77 #[.val (.int i0), .val (.int i1), .val (.int i2), .val (.int i3), .val (.int sel), .val (.ref b1), .val (.ref b2), .val (.int v19), .val (.ref b20), .val (.int v3), .val (.int v7), .val (.int v12), .unset, .unset, .unset, .unset] [(.int (1 : Int32)), (.ref b2)]))
  obtain ⟨cl26, Ar26, q26, S26, Ng26, H26, Gf26⟩ := id F23
  have hin26 : ¬ ((1 : Int32) < 0 ∨ cl26.slots.size ≤ ((1 : Int32)).toNatClampNeg) := inb_of S26 ⟨by decide, by decide⟩
  refine Comes.st (fun t k => X20.iaload hx (j := (1 : Int32)) (v := (.int v15)) (by rw [e20]; exact Ar26.1) (State.isArrayOf_alike hZ.alike Ar26.2.1) Ar26.2.2 hin26 (Has.at H26 hin26 rfl) (g := (mkF m 77 #[.val (.int i0), .val (.int i1), .val (.int i2), .val (.int i3), .val (.int sel), .val (.ref b1), .val (.ref b2), .val (.int v19), .val (.ref b20), .val (.int v3), .val (.int v7), .val (.int v12), .unset, .unset, .unset, .unset] [(.int (1 : Int32)), (.ref b2)])) rfl rfl (hb hby at_77) _ (XS.istore X20.here hx rfl (hb hby at_78) rfl (l' := #[.val (.int i0), .val (.int i1), .val (.int i2), .val (.int i3), .val (.int sel), .val (.ref b1), .val (.ref b2), .val (.int v19), .val (.ref b20), .val (.int v3), .val (.int v7), .val (.int v12), .val (.int v15), .unset, .unset, .unset]) rfl k)) ?_
  show Comes p e below _ (T20.setTop (mkF m 80 #[.val (.int i0), .val (.int i1), .val (.int i2), .val (.int i3), .val (.int sel), .val (.ref b1), .val (.ref b2), .val (.int v19), .val (.ref b20), .val (.int v3), .val (.int v7), .val (.int v12), .val (.int v15), .unset, .unset, .unset] []))
  obtain ⟨T27, h27, X27, e27, E27, A27, D27, -, st27⟩ := newO X20 hx hZ hown (hw _ (List.mem_of_getElem? (i := 1) rfl)) (hw _ (List.mem_of_getElem? (i := 2) rfl)) (hw _ (List.mem_of_getElem? (i := 3) rfl)) e20 (g := (mkF m 80 #[.val (.int i0), .val (.int i1), .val (.int i2), .val (.int i3), .val (.int sel), .val (.ref b1), .val (.ref b2), .val (.int v19), .val (.ref b20), .val (.int v3), .val (.int v7), .val (.int v12), .val (.int v15), .unset, .unset, .unset] [])) rfl (hb hby at_80) (by decide) (by decide)
  obtain ⟨b27, g27⟩ : ∃ z, z = h20.size := ⟨_, rfl⟩
  rw [← g27] at A27 D27 st27
  have z27 : h20.size ≤ h27.size := E27.1
  have lt27 : b27 < h27.size := A27.lt
  have F28 : Fld Z h27 b27 "com/example/ordr/ordr/layout/LayerNetwork" "nodeCount" "I" (.int (0 : Int32)) := D27 (Or.inr (hw _ (List.mem_of_getElem? (i := 11) rfl))) (ty := .int) (by decide)
  have F29 : Fld Z h27 b27 "com/example/ordr/ordr/layout/LayerNetwork" "edgeCount" "I" (.int (0 : Int32)) := D27 (Or.inr (hw _ (List.mem_of_getElem? (i := 13) rfl))) (ty := .int) (by decide)
  have F30 : Fld Z h27 b27 "com/example/ordr/ordr/layout/LayerNetwork" "tails" "[I" .null := D27 (Or.inr (hw _ (List.mem_of_getElem? (i := 15) rfl))) (ty := (.array .int)) (by decide)
  have F31 : Fld Z h27 b27 "com/example/ordr/ordr/layout/LayerNetwork" "heads" "[I" .null := D27 (Or.inr (hw _ (List.mem_of_getElem? (i := 17) rfl))) (ty := (.array .int)) (by decide)
  have F32 : Fld Z h27 b27 "com/example/ordr/ordr/layout/LayerNetwork" "incidentStarts" "[I" .null := D27 (Or.inr (hw _ (List.mem_of_getElem? (i := 19) rfl))) (ty := (.array .int)) (by decide)
  have F33 : Fld Z h27 b27 "com/example/ordr/ordr/layout/LayerNetwork" "incident" "[I" .null := D27 (Or.inr (hw _ (List.mem_of_getElem? (i := 21) rfl))) (ty := (.array .int)) (by decide)
  have F34 : Fld Z h27 b27 "com/example/ordr/ordr/layout/LayerNetwork" "otherEnds" "[I" .null := D27 (Or.inr (hw _ (List.mem_of_getElem? (i := 23) rfl))) (ty := (.array .int)) (by decide)
  have F35 : Fld Z h27 b27 "com/example/ordr/ordr/layout/LayerNetwork" "incomingStarts" "[I" .null := D27 (Or.inr (hw _ (List.mem_of_getElem? (i := 25) rfl))) (ty := (.array .int)) (by decide)
  have F36 : Fld Z h27 b27 "com/example/ordr/ordr/layout/LayerNetwork" "layers" "[J" .null := D27 (Or.inr (hw _ (List.mem_of_getElem? (i := 28) rfl))) (ty := (.array .long)) (by decide)
  have F37 : Fld Z h27 b27 "com/example/ordr/ordr/layout/LayerNetwork" "supplies" "[I" .null := D27 (Or.inr (hw _ (List.mem_of_getElem? (i := 30) rfl))) (ty := (.array .int)) (by decide)
  have F38 : Fld Z h27 b27 "com/example/ordr/ordr/layout/LayerNetwork" "flows" "[J" .null := D27 (Or.inr (hw _ (List.mem_of_getElem? (i := 32) rfl))) (ty := (.array .long)) (by decide)
  have F39 : Fld Z h27 b27 "com/example/ordr/ordr/layout/LayerNetwork" "excesses" "[J" .null := D27 (Or.inr (hw _ (List.mem_of_getElem? (i := 34) rfl))) (ty := (.array .long)) (by decide)
  refine Comes.st st27 ?_
  show Comes p e below _ (T27.setTop (mkF m 83 #[.val (.int i0), .val (.int i1), .val (.int i2), .val (.int i3), .val (.int sel), .val (.ref b1), .val (.ref b2), .val (.int v19), .val (.ref b20), .val (.int v3), .val (.int v7), .val (.int v12), .val (.int v15), .unset, .unset, .unset] [(.ref b27)]))
  refine Comes.st (fun t k => XS.dup X27.here hx rfl (hb hby at_83) rfl rfl (XS.bipush X27.here hx rfl (hb hby at_84) (XS.aload X27.here hx rfl (hb hby at_86) rfl rfl (XS.aload X27.here hx rfl (hb hby at_88) rfl rfl (XS.iload X27.here hx rfl (hb hby at_90) rfl (XS.aload X27.here hx rfl (hb hby at_92) rfl rfl k)))))) ?_
  show Comes p e below _ (T27.setTop (mkF m 94 #[.val (.int i0), .val (.int i1), .val (.int i2), .val (.int i3), .val (.int sel), .val (.ref b1), .val (.ref b2), .val (.int v19), .val (.ref b20), .val (.int v3), .val (.int v7), .val (.int v12), .val (.int v15), .unset, .unset, .unset] [(.ref b20), (.int v19), (.ref b2), (.ref b1), (.int (8 : Int32)), (.ref b27), (.ref b27)]))
  have F40 : Arv Z h27 b1 k1 .int (2 : Int32) [(.int v3), (.int v12)] (.int (0 : Int32)) := (F21.ext E27)
  have F41 : Arv Z h27 b2 k2 .int (2 : Int32) [(.int v7), (.int v15)] (.int (0 : Int32)) := (F23.ext E27)
  have F42 : Arv Z h27 b20 k20 .int (8 : Int32) [(.int (0 : Int32)), (.int (0 : Int32)), (.int (0 : Int32)), (.int (0 : Int32)), (.int (0 : Int32)), (.int (0 : Int32)), (.int (0 : Int32)), (.int (0 : Int32))] (.int (0 : Int32)) := (V20.ext E27)
  have ne43 : b1 ≠ b27 := by omega
  have ne44 : b2 ≠ b27 := by omega
  have ne45 : b20 ≠ b27 := by omega
  obtain ⟨_, _, ⟨T46, L46, k46, n46⟩, -, X46, ⟨Lc46, hQ46, l46, y46, z46⟩, st46⟩ := X27.specialBack hx (y := (⟨"com/example/ordr/ordr/layout/LayerNetwork", "<init>", "(I[I[II[I)V"⟩ : MethodName)) rfl hown (mvT hZ (hw _ (List.mem_of_getElem? (i := 4) rfl))) (mvT hZ (hw _ (List.mem_of_getElem? (i := 5) rfl))) (mvT hZ (hw _ (List.mem_of_getElem? (i := 6) rfl))) (by decide) (backOf (W := 1) (rm1 l Z a0 hw [] b27 b1 b2 v19 b20 k1 k2 k20 v3 v7 v12 v15 h27 n0 (by omega)  A27 F28 F29 F30 F31 F32 F33 F34 F35 F37 F36 F38 F39 F40 F41 F42 (by omega) ne43 ne44 ne45 (by have a_0 := c_mask i0 (7 : Int32) 3 (by decide) (by decide); rw [hv_v3] at a_0; have a_1 := c_mask i1 (7 : Int32) 3 (by decide) (by decide); rw [hv_v7] at a_1; have a_2 := c_mask i2 (7 : Int32) 3 (by decide) (by decide); rw [hv_v12] at a_2; have a_3 := c_mask i3 (7 : Int32) 3 (by decide) (by decide); rw [hv_v15] at a_3; have a_4 := c_mask sel (3 : Int32) 2 (by decide) (by decide); have a_5 := c_irem (sel &&& (3 : Int32)) (3 : Int32) 3 (by decide); rw [hv_v19] at a_5; have a_6 := rng32 (sel &&& (3 : Int32)); have a_7 := rng32 i0; have a_8 := rng32 i1; have a_9 := rng32 i2; have a_10 := rng32 i3; have a_11 := rng32 sel; have a_12 := rng32 v12; have a_13 := rng32 v15; have a_14 := rng32 v19; have a_15 := rng32 v3; have a_16 := rng32 v7; (try simp only [Int32.lt_iff_toInt_lt, Int64.lt_iff_toInt_lt, ← Int32.toInt_inj, ← Int64.toInt_inj, Int32.reduceToInt, Int64.reduceToInt, eq_self, and_true, true_and, or_true, true_or, and_false, false_and, or_false, false_or, not_true_eq_false, not_false_eq_true] at a_0 a_1 a_2 a_3 a_4 a_5 a_6 a_7 a_8 a_9 a_10 a_11 a_12 a_13 a_14 a_15 a_16 ⊢) <;> omega) (by have a_0 := c_mask i0 (7 : Int32) 3 (by decide) (by decide); rw [hv_v3] at a_0; have a_1 := c_mask i1 (7 : Int32) 3 (by decide) (by decide); rw [hv_v7] at a_1; have a_2 := c_mask i2 (7 : Int32) 3 (by decide) (by decide); rw [hv_v12] at a_2; have a_3 := c_mask i3 (7 : Int32) 3 (by decide) (by decide); rw [hv_v15] at a_3; have a_4 := c_mask sel (3 : Int32) 2 (by decide) (by decide); have a_5 := c_irem (sel &&& (3 : Int32)) (3 : Int32) 3 (by decide); rw [hv_v19] at a_5; have a_6 := rng32 (sel &&& (3 : Int32)); have a_7 := rng32 i0; have a_8 := rng32 i1; have a_9 := rng32 i2; have a_10 := rng32 i3; have a_11 := rng32 sel; have a_12 := rng32 v12; have a_13 := rng32 v15; have a_14 := rng32 v19; have a_15 := rng32 v3; have a_16 := rng32 v7; (try simp only [Int32.lt_iff_toInt_lt, Int64.lt_iff_toInt_lt, ← Int32.toInt_inj, ← Int64.toInt_inj, Int32.reduceToInt, Int64.reduceToInt, eq_self, and_true, true_and, or_true, true_or, and_false, false_and, or_false, false_or, not_true_eq_false, not_false_eq_true] at a_0 a_1 a_2 a_3 a_4 a_5 a_6 a_7 a_8 a_9 a_10 a_11 a_12 a_13 a_14 a_15 a_16 ⊢) <;> omega) (by have a_0 := c_mask i0 (7 : Int32) 3 (by decide) (by decide); rw [hv_v3] at a_0; have a_1 := c_mask i1 (7 : Int32) 3 (by decide) (by decide); rw [hv_v7] at a_1; have a_2 := c_mask i2 (7 : Int32) 3 (by decide) (by decide); rw [hv_v12] at a_2; have a_3 := c_mask i3 (7 : Int32) 3 (by decide) (by decide); rw [hv_v15] at a_3; have a_4 := c_mask sel (3 : Int32) 2 (by decide) (by decide); have a_5 := c_irem (sel &&& (3 : Int32)) (3 : Int32) 3 (by decide); rw [hv_v19] at a_5; have a_6 := rng32 (sel &&& (3 : Int32)); have a_7 := rng32 i0; have a_8 := rng32 i1; have a_9 := rng32 i2; have a_10 := rng32 i3; have a_11 := rng32 sel; have a_12 := rng32 v12; have a_13 := rng32 v15; have a_14 := rng32 v19; have a_15 := rng32 v3; have a_16 := rng32 v7; (try simp only [Int32.lt_iff_toInt_lt, Int64.lt_iff_toInt_lt, ← Int32.toInt_inj, ← Int64.toInt_inj, Int32.reduceToInt, Int64.reduceToInt, eq_self, and_true, true_and, or_true, true_or, and_false, false_and, or_false, false_or, not_true_eq_false, not_false_eq_true] at a_0 a_1 a_2 a_3 a_4 a_5 a_6 a_7 a_8 a_9 a_10 a_11 a_12 a_13 a_14 a_15 a_16 ⊢) <;> omega) (by have a_0 := c_mask i0 (7 : Int32) 3 (by decide) (by decide); rw [hv_v3] at a_0; have a_1 := c_mask i1 (7 : Int32) 3 (by decide) (by decide); rw [hv_v7] at a_1; have a_2 := c_mask i2 (7 : Int32) 3 (by decide) (by decide); rw [hv_v12] at a_2; have a_3 := c_mask i3 (7 : Int32) 3 (by decide) (by decide); rw [hv_v15] at a_3; have a_4 := c_mask sel (3 : Int32) 2 (by decide) (by decide); have a_5 := c_irem (sel &&& (3 : Int32)) (3 : Int32) 3 (by decide); rw [hv_v19] at a_5; have a_6 := rng32 (sel &&& (3 : Int32)); have a_7 := rng32 i0; have a_8 := rng32 i1; have a_9 := rng32 i2; have a_10 := rng32 i3; have a_11 := rng32 sel; have a_12 := rng32 v12; have a_13 := rng32 v15; have a_14 := rng32 v19; have a_15 := rng32 v3; have a_16 := rng32 v7; (try simp only [Int32.lt_iff_toInt_lt, Int64.lt_iff_toInt_lt, ← Int32.toInt_inj, ← Int64.toInt_inj, Int32.reduceToInt, Int64.reduceToInt, eq_self, and_true, true_and, or_true, true_or, and_false, false_and, or_false, false_or, not_true_eq_false, not_false_eq_true] at a_0 a_1 a_2 a_3 a_4 a_5 a_6 a_7 a_8 a_9 a_10 a_11 a_12 a_13 a_14 a_15 a_16 ⊢) <;> omega) (by have a_0 := c_mask i0 (7 : Int32) 3 (by decide) (by decide); rw [hv_v3] at a_0; have a_1 := c_mask i1 (7 : Int32) 3 (by decide) (by decide); rw [hv_v7] at a_1; have a_2 := c_mask i2 (7 : Int32) 3 (by decide) (by decide); rw [hv_v12] at a_2; have a_3 := c_mask i3 (7 : Int32) 3 (by decide) (by decide); rw [hv_v15] at a_3; have a_4 := c_mask sel (3 : Int32) 2 (by decide) (by decide); have a_5 := c_irem (sel &&& (3 : Int32)) (3 : Int32) 3 (by decide); rw [hv_v19] at a_5; have a_6 := rng32 (sel &&& (3 : Int32)); have a_7 := rng32 i0; have a_8 := rng32 i1; have a_9 := rng32 i2; have a_10 := rng32 i3; have a_11 := rng32 sel; have a_12 := rng32 v12; have a_13 := rng32 v15; have a_14 := rng32 v19; have a_15 := rng32 v3; have a_16 := rng32 v7; (try simp only [Int32.lt_iff_toInt_lt, Int64.lt_iff_toInt_lt, ← Int32.toInt_inj, ← Int64.toInt_inj, Int32.reduceToInt, Int64.reduceToInt, eq_self, and_true, true_and, or_true, true_or, and_false, false_and, or_false, false_or, not_true_eq_false, not_false_eq_true] at a_0 a_1 a_2 a_3 a_4 a_5 a_6 a_7 a_8 a_9 a_10 a_11 a_12 a_13 a_14 a_15 a_16 ⊢) <;> omega)) hZ (hw _ (List.mem_of_getElem? (i := 6) rfl)) (hw _ (List.mem_of_getElem? (i := 3) rfl)) (by decide) (by decide)) (g := (mkF m 94 #[.val (.int i0), .val (.int i1), .val (.int i2), .val (.int i3), .val (.int sel), .val (.ref b1), .val (.ref b2), .val (.int v19), .val (.ref b20), .val (.int v3), .val (.int v7), .val (.int v12), .val (.int v15), .unset, .unset, .unset] [(.ref b20), (.int v19), (.ref b2), (.ref b1), (.int (8 : Int32)), (.ref b27), (.ref b27)])) rfl (by rw [hml]; rfl) (Steps.refl _) (a := b27) (argsL := [(.int (8 : Int32)), (.ref b1), (.ref b2), (.int v19), (.ref b20)]) (rest := [(.ref b27)]) (lenOf pd_0 rfl) rfl (by show 2 * 0 + _ ≤ _; exact Nat.le_of_eq rfl) (hb hby at_94) (fun _ _ => ⟨rfl, e27, (by decide : 4 + 9 ≤ _), (by decide : 24 + 59 ≤ _)⟩)
  dsimp only [Pt.U, Pt.locs, Pt.cells, Pt.slots] at X46 l46 y46 z46 st46 hQ46
  subst l46 y46 z46
  obtain ⟨rfl, Nq46, Kq46, P46_0, P46_1, P46_2⟩ := hQ46
  have N46 := Fr.app N17 Nq46
  have z46k : h27.size ≤ T46.heap.size := Kq46.1
  refine Comes.go st46 ?_
  have lt_47 : b27 < T46.heap.size := P46_0.lt
  show Comes p e below _ (T46.setTop (mkF m 97 #[.val (.int i0), .val (.int i1), .val (.int i2), .val (.int i3), .val (.int sel), .val (.ref b1), .val (.ref b2), .val (.int v19), .val (.ref b20), .val (.int v3), .val (.int v7), .val (.int v12), .val (.int v15), .unset, .unset, .unset] [(.ref b27)]))
  refine Comes.st (fun t k => XS.astore X46.here hx rfl (hb hby at_97) rfl rfl (l' := #[.val (.int i0), .val (.int i1), .val (.int i2), .val (.int i3), .val (.int sel), .val (.ref b1), .val (.ref b2), .val (.int v19), .val (.ref b20), .val (.int v3), .val (.int v7), .val (.int v12), .val (.int v15), .val (.ref b27), .unset, .unset]) rfl (XS.aload X46.here hx rfl (hb hby at_99) rfl rfl (XS.iconst X46.here hx rfl (hb hby at_101) (XS.iload X46.here hx rfl (hb hby at_102) rfl k)))) ?_
  show Comes p e below _ (T46.setTop (mkF m 104 #[.val (.int i0), .val (.int i1), .val (.int i2), .val (.int i3), .val (.int sel), .val (.ref b1), .val (.ref b2), .val (.int v19), .val (.ref b20), .val (.int v3), .val (.int v7), .val (.int v12), .val (.int v15), .val (.ref b27), .unset, .unset] [(.int v3), (.int (0 : Int32)), (.ref b27)]))
  have F48 : Arv Z T46.heap b1 k1 .int (2 : Int32) [(.int v3), (.int v12)] (.int (0 : Int32)) := (F40.keep Kq46 (ninS ne43 nin0))
  have F49 : Arv Z T46.heap b2 k2 .int (2 : Int32) [(.int v7), (.int v15)] (.int (0 : Int32)) := (F41.keep Kq46 (ninS ne44 nin0))
  obtain ⟨cq50, kq50, q50a, q50b, q50c⟩ := isOf hZ rfl P46_0
  obtain ⟨_, _, ⟨T50, L50, k50, n50⟩, -, X50, ⟨Lc50, hQ50, l50, y50, z50⟩, st50⟩ := X46.virtualBack hx (y := (⟨"com/example/ordr/ordr/layout/LayerNetwork", "otherEnd", "(II)I"⟩ : MethodName)) (z := (⟨"com/example/ordr/ordr/layout/LayerNetwork", "otherEnd", "(II)I"⟩ : MethodName)) hown (mvT hZ (hw _ (List.mem_of_getElem? (i := 35) rfl))) (mvT hZ (hw _ (List.mem_of_getElem? (i := 36) rfl))) (notFace_of_selects (args := #[]) (mvT hZ (hw _ (List.mem_of_getElem? (i := 38) rfl)))) (mvT hZ (hw _ (List.mem_of_getElem? (i := 38) rfl))) (mvT hZ (hw _ (List.mem_of_getElem? (i := 37) rfl))) (by decide) (backOf (W := 0) (oe0 l Z a0 hw [] b27 v3 b1 b2 k1 k2 v3 v7 v12 v15 T46.heap n0 (by omega)  P46_1 P46_2 F48 F49) hZ (hw _ (List.mem_of_getElem? (i := 39) rfl)) (hw _ (List.mem_of_getElem? (i := 3) rfl)) (by decide) (by decide)) q50a q50c (g := (mkF m 104 #[.val (.int i0), .val (.int i1), .val (.int i2), .val (.int i3), .val (.int sel), .val (.ref b1), .val (.ref b2), .val (.int v19), .val (.ref b20), .val (.int v3), .val (.int v7), .val (.int v12), .val (.int v15), .val (.ref b27), .unset, .unset] [(.int v3), (.int (0 : Int32)), (.ref b27)])) rfl (by rw [hml]; rfl) (Steps.refl _) (argsL := [(.int (0 : Int32)), (.int v3)]) (rest := []) (lenOf pd_1 rfl) rfl (by show 2 * 0 + _ ≤ _; exact Nat.le_of_eq rfl) (hb hby at_104) (fun _ _ => ⟨rfl, rfl, (by decide : 13 + 0 ≤ _), (by decide : 83 + 0 ≤ _)⟩)
  dsimp only [Pt.U, Pt.locs, Pt.cells, Pt.slots] at X50 l50 y50 z50 st50 hQ50
  subst l50 y50 z50
  obtain ⟨r51, rfl, Nq50, hs50, P50_0⟩ := hQ50
  have N50 := Fr.app N46 Nq50
  refine Comes.go st50 ?_
  show Comes p e below _ (T50.setTop (mkF m 107 #[.val (.int i0), .val (.int i1), .val (.int i2), .val (.int i3), .val (.int sel), .val (.ref b1), .val (.ref b2), .val (.int v19), .val (.ref b20), .val (.int v3), .val (.int v7), .val (.int v12), .val (.int v15), .val (.ref b27), .unset, .unset] [(.int r51)]))
  refine Comes.st (fun t k => XS.iload X50.here hx rfl (hb hby at_107) rfl k) ?_
  show Comes p e below _ (T50.setTop (mkF m 109 #[.val (.int i0), .val (.int i1), .val (.int i2), .val (.int i3), .val (.int sel), .val (.ref b1), .val (.ref b2), .val (.int v19), .val (.ref b20), .val (.int v3), .val (.int v7), .val (.int v12), .val (.int v15), .val (.ref b27), .unset, .unset] [(.int v7), (.int r51)]))
  have hc109_52 : r51 = v7 := by have a_0 := c_mask i0 (7 : Int32) 3 (by decide) (by decide); rw [hv_v3] at a_0; have a_1 := c_mask i1 (7 : Int32) 3 (by decide) (by decide); rw [hv_v7] at a_1; have a_2 := c_mask i2 (7 : Int32) 3 (by decide) (by decide); rw [hv_v12] at a_2; have a_3 := c_mask i3 (7 : Int32) 3 (by decide) (by decide); rw [hv_v15] at a_3; have a_4 := c_mask sel (3 : Int32) 2 (by decide) (by decide); have a_5 := c_irem (sel &&& (3 : Int32)) (3 : Int32) 3 (by decide); rw [hv_v19] at a_5; have a_6 := rng32 (sel &&& (3 : Int32)); have a_7 := rng32 i0; have a_8 := rng32 i1; have a_9 := rng32 i2; have a_10 := rng32 i3; have a_11 := rng32 sel; have a_12 := rng32 v12; have a_13 := rng32 v15; have a_14 := rng32 v19; have a_15 := rng32 v3; have a_16 := rng32 v7; have c_0 := P50_0; (try simp only [Int32.lt_iff_toInt_lt, Int64.lt_iff_toInt_lt, ← Int32.toInt_inj, ← Int64.toInt_inj, Int32.reduceToInt, Int64.reduceToInt, eq_self, and_true, true_and, or_true, true_or, and_false, false_and, or_false, false_or, not_true_eq_false, not_false_eq_true] at a_0 a_1 a_2 a_3 a_4 a_5 a_6 a_7 a_8 a_9 a_10 a_11 a_12 a_13 a_14 a_15 a_16 c_0 ⊢) <;> omega
  refine Comes.st (fun t k => XS.icmpNo X50.here hx rfl (hb hby at_109) rfl (teq hc109_52).2 (XS.aload X50.here hx rfl (hb hby at_112) rfl rfl (XS.iconst X50.here hx rfl (hb hby at_114) (XS.iload X50.here hx rfl (hb hby at_115) rfl k)))) ?_
  show Comes p e below _ (T50.setTop (mkF m 117 #[.val (.int i0), .val (.int i1), .val (.int i2), .val (.int i3), .val (.int sel), .val (.ref b1), .val (.ref b2), .val (.int v19), .val (.ref b20), .val (.int v3), .val (.int v7), .val (.int v12), .val (.int v15), .val (.ref b27), .unset, .unset] [(.int v7), (.int (0 : Int32)), (.ref b27)]))
  obtain ⟨cq53, kq53, q53a, q53b, q53c⟩ := isOf hZ hs50 P46_0
  obtain ⟨_, _, ⟨T53, L53, k53, n53⟩, -, X53, ⟨Lc53, hQ53, l53, y53, z53⟩, st53⟩ := X50.virtualBack hx (y := (⟨"com/example/ordr/ordr/layout/LayerNetwork", "otherEnd", "(II)I"⟩ : MethodName)) (z := (⟨"com/example/ordr/ordr/layout/LayerNetwork", "otherEnd", "(II)I"⟩ : MethodName)) hown (mvT hZ (hw _ (List.mem_of_getElem? (i := 35) rfl))) (mvT hZ (hw _ (List.mem_of_getElem? (i := 36) rfl))) (notFace_of_selects (args := #[]) (mvT hZ (hw _ (List.mem_of_getElem? (i := 38) rfl)))) (mvT hZ (hw _ (List.mem_of_getElem? (i := 38) rfl))) (mvT hZ (hw _ (List.mem_of_getElem? (i := 37) rfl))) (by decide) (backOf (W := 0) (oe0 l Z a0 hw [] b27 v7 b1 b2 k1 k2 v3 v7 v12 v15 T46.heap n0 (by omega)  P46_1 P46_2 F48 F49) hZ (hw _ (List.mem_of_getElem? (i := 39) rfl)) (hw _ (List.mem_of_getElem? (i := 3) rfl)) (by decide) (by decide)) q53a q53c (g := (mkF m 117 #[.val (.int i0), .val (.int i1), .val (.int i2), .val (.int i3), .val (.int sel), .val (.ref b1), .val (.ref b2), .val (.int v19), .val (.ref b20), .val (.int v3), .val (.int v7), .val (.int v12), .val (.int v15), .val (.ref b27), .unset, .unset] [(.int v7), (.int (0 : Int32)), (.ref b27)])) rfl (by rw [hml]; rfl) (Steps.refl _) (argsL := [(.int (0 : Int32)), (.int v7)]) (rest := []) (lenOf pd_1 rfl) rfl (by show 2 * 0 + _ ≤ _; exact Nat.le_of_eq rfl) (hb hby at_117) (fun _ _ => ⟨rfl, hs50, (by decide : 13 + 0 ≤ _), (by decide : 83 + 0 ≤ _)⟩)
  dsimp only [Pt.U, Pt.locs, Pt.cells, Pt.slots] at X53 l53 y53 z53 st53 hQ53
  subst l53 y53 z53
  obtain ⟨r54, rfl, Nq53, hs53, P53_0⟩ := hQ53
  have N53 := Fr.app N50 Nq53
  refine Comes.go st53 ?_
  show Comes p e below _ (T53.setTop (mkF m 120 #[.val (.int i0), .val (.int i1), .val (.int i2), .val (.int i3), .val (.int sel), .val (.ref b1), .val (.ref b2), .val (.int v19), .val (.ref b20), .val (.int v3), .val (.int v7), .val (.int v12), .val (.int v15), .val (.ref b27), .unset, .unset] [(.int r54)]))
  refine Comes.st (fun t k => XS.iload X53.here hx rfl (hb hby at_120) rfl k) ?_
  show Comes p e below _ (T53.setTop (mkF m 122 #[.val (.int i0), .val (.int i1), .val (.int i2), .val (.int i3), .val (.int sel), .val (.ref b1), .val (.ref b2), .val (.int v19), .val (.ref b20), .val (.int v3), .val (.int v7), .val (.int v12), .val (.int v15), .val (.ref b27), .unset, .unset] [(.int v3), (.int r54)]))
  have hc122_55 : r54 = v3 := by have a_0 := c_mask i0 (7 : Int32) 3 (by decide) (by decide); rw [hv_v3] at a_0; have a_1 := c_mask i1 (7 : Int32) 3 (by decide) (by decide); rw [hv_v7] at a_1; have a_2 := c_mask i2 (7 : Int32) 3 (by decide) (by decide); rw [hv_v12] at a_2; have a_3 := c_mask i3 (7 : Int32) 3 (by decide) (by decide); rw [hv_v15] at a_3; have a_4 := c_mask sel (3 : Int32) 2 (by decide) (by decide); have a_5 := c_irem (sel &&& (3 : Int32)) (3 : Int32) 3 (by decide); rw [hv_v19] at a_5; have a_6 := rng32 (sel &&& (3 : Int32)); have a_7 := rng32 i0; have a_8 := rng32 i1; have a_9 := rng32 i2; have a_10 := rng32 i3; have a_11 := rng32 sel; have a_12 := rng32 v12; have a_13 := rng32 v15; have a_14 := rng32 v19; have a_15 := rng32 v3; have a_16 := rng32 v7; have c_0 := hc109_52; have c_1 := P50_0; have c_2 := P53_0; (try simp only [Int32.lt_iff_toInt_lt, Int64.lt_iff_toInt_lt, ← Int32.toInt_inj, ← Int64.toInt_inj, Int32.reduceToInt, Int64.reduceToInt, eq_self, and_true, true_and, or_true, true_or, and_false, false_and, or_false, false_or, not_true_eq_false, not_false_eq_true] at a_0 a_1 a_2 a_3 a_4 a_5 a_6 a_7 a_8 a_9 a_10 a_11 a_12 a_13 a_14 a_15 a_16 c_0 c_1 c_2 ⊢) <;> omega
  refine Comes.st (fun t k => XS.icmpNo X53.here hx rfl (hb hby at_122) rfl (teq hc122_55).2 (XS.iconst X53.here hx rfl (hb hby at_125) (XS.goto X53.here hx rfl (pc0 := 126) (pc' := 130) rfl (hb hby at_126) (by decide) (by decide) (XS.istore X53.here hx rfl (hb hby at_130) rfl (l' := #[.val (.int i0), .val (.int i1), .val (.int i2), .val (.int i3), .val (.int sel), .val (.ref b1), .val (.ref b2), .val (.int v19), .val (.ref b20), .val (.int v3), .val (.int v7), .val (.int v12), .val (.int v15), .val (.ref b27), .val (.int (1 : Int32)), .unset]) rfl (XS.aload X53.here hx rfl (hb hby at_132) rfl rfl (XS.iconst X53.here hx rfl (hb hby at_134) k)))))) ?_
  show Comes p e below _ (T53.setTop (mkF m 135 #[.val (.int i0), .val (.int i1), .val (.int i2), .val (.int i3), .val (.int sel), .val (.ref b1), .val (.ref b2), .val (.int v19), .val (.ref b20), .val (.int v3), .val (.int v7), .val (.int v12), .val (.int v15), .val (.ref b27), .val (.int (1 : Int32)), .unset] [(.int (1 : Int32)), (.ref b27)]))
  refine Comes.st (fun t k => XS.iload X53.here hx rfl (hb hby at_135) rfl k) ?_
  show Comes p e below _ (T53.setTop (mkF m 137 #[.val (.int i0), .val (.int i1), .val (.int i2), .val (.int i3), .val (.int sel), .val (.ref b1), .val (.ref b2), .val (.int v19), .val (.ref b20), .val (.int v3), .val (.int v7), .val (.int v12), .val (.int v15), .val (.ref b27), .val (.int (1 : Int32)), .unset] [(.int v12), (.int (1 : Int32)), (.ref b27)]))
  obtain ⟨cq56, kq56, q56a, q56b, q56c⟩ := isOf hZ hs53 P46_0
  obtain ⟨_, _, ⟨T56, L56, k56, n56⟩, -, X56, ⟨Lc56, hQ56, l56, y56, z56⟩, st56⟩ := X53.virtualBack hx (y := (⟨"com/example/ordr/ordr/layout/LayerNetwork", "otherEnd", "(II)I"⟩ : MethodName)) (z := (⟨"com/example/ordr/ordr/layout/LayerNetwork", "otherEnd", "(II)I"⟩ : MethodName)) hown (mvT hZ (hw _ (List.mem_of_getElem? (i := 35) rfl))) (mvT hZ (hw _ (List.mem_of_getElem? (i := 36) rfl))) (notFace_of_selects (args := #[]) (mvT hZ (hw _ (List.mem_of_getElem? (i := 38) rfl)))) (mvT hZ (hw _ (List.mem_of_getElem? (i := 38) rfl))) (mvT hZ (hw _ (List.mem_of_getElem? (i := 37) rfl))) (by decide) (backOf (W := 0) (oe1 l Z a0 hw [] b27 v12 b1 b2 k1 k2 v3 v7 v12 v15 T46.heap n0 (by omega)  P46_1 P46_2 F48 F49) hZ (hw _ (List.mem_of_getElem? (i := 39) rfl)) (hw _ (List.mem_of_getElem? (i := 3) rfl)) (by decide) (by decide)) q56a q56c (g := (mkF m 137 #[.val (.int i0), .val (.int i1), .val (.int i2), .val (.int i3), .val (.int sel), .val (.ref b1), .val (.ref b2), .val (.int v19), .val (.ref b20), .val (.int v3), .val (.int v7), .val (.int v12), .val (.int v15), .val (.ref b27), .val (.int (1 : Int32)), .unset] [(.int v12), (.int (1 : Int32)), (.ref b27)])) rfl (by rw [hml]; rfl) (Steps.refl _) (argsL := [(.int (1 : Int32)), (.int v12)]) (rest := []) (lenOf pd_1 rfl) rfl (by show 2 * 0 + _ ≤ _; exact Nat.le_of_eq rfl) (hb hby at_137) (fun _ _ => ⟨rfl, hs53, (by decide : 13 + 0 ≤ _), (by decide : 83 + 0 ≤ _)⟩)
  dsimp only [Pt.U, Pt.locs, Pt.cells, Pt.slots] at X56 l56 y56 z56 st56 hQ56
  subst l56 y56 z56
  obtain ⟨r57, rfl, Nq56, hs56, P56_0⟩ := hQ56
  have N56 := Fr.app N53 Nq56
  refine Comes.go st56 ?_
  show Comes p e below _ (T56.setTop (mkF m 140 #[.val (.int i0), .val (.int i1), .val (.int i2), .val (.int i3), .val (.int sel), .val (.ref b1), .val (.ref b2), .val (.int v19), .val (.ref b20), .val (.int v3), .val (.int v7), .val (.int v12), .val (.int v15), .val (.ref b27), .val (.int (1 : Int32)), .unset] [(.int r57)]))
  refine Comes.st (fun t k => XS.iload X56.here hx rfl (hb hby at_140) rfl k) ?_
  show Comes p e below _ (T56.setTop (mkF m 142 #[.val (.int i0), .val (.int i1), .val (.int i2), .val (.int i3), .val (.int sel), .val (.ref b1), .val (.ref b2), .val (.int v19), .val (.ref b20), .val (.int v3), .val (.int v7), .val (.int v12), .val (.int v15), .val (.ref b27), .val (.int (1 : Int32)), .unset] [(.int v15), (.int r57)]))
  have hc142_58 : r57 = v15 := by have a_0 := c_mask i0 (7 : Int32) 3 (by decide) (by decide); rw [hv_v3] at a_0; have a_1 := c_mask i1 (7 : Int32) 3 (by decide) (by decide); rw [hv_v7] at a_1; have a_2 := c_mask i2 (7 : Int32) 3 (by decide) (by decide); rw [hv_v12] at a_2; have a_3 := c_mask i3 (7 : Int32) 3 (by decide) (by decide); rw [hv_v15] at a_3; have a_4 := c_mask sel (3 : Int32) 2 (by decide) (by decide); have a_5 := c_irem (sel &&& (3 : Int32)) (3 : Int32) 3 (by decide); rw [hv_v19] at a_5; have a_6 := rng32 (sel &&& (3 : Int32)); have a_7 := rng32 i0; have a_8 := rng32 i1; have a_9 := rng32 i2; have a_10 := rng32 i3; have a_11 := rng32 sel; have a_12 := rng32 v12; have a_13 := rng32 v15; have a_14 := rng32 v19; have a_15 := rng32 v3; have a_16 := rng32 v7; have c_0 := hc109_52; have c_1 := hc122_55; have c_2 := P50_0; have c_3 := P53_0; have c_4 := P56_0; (try simp only [Int32.lt_iff_toInt_lt, Int64.lt_iff_toInt_lt, ← Int32.toInt_inj, ← Int64.toInt_inj, Int32.reduceToInt, Int64.reduceToInt, eq_self, and_true, true_and, or_true, true_or, and_false, false_and, or_false, false_or, not_true_eq_false, not_false_eq_true] at a_0 a_1 a_2 a_3 a_4 a_5 a_6 a_7 a_8 a_9 a_10 a_11 a_12 a_13 a_14 a_15 a_16 c_0 c_1 c_2 c_3 c_4 ⊢) <;> omega
  refine Comes.st (fun t k => XS.icmpNo X56.here hx rfl (hb hby at_142) rfl (teq hc142_58).2 (XS.aload X56.here hx rfl (hb hby at_145) rfl rfl (XS.iconst X56.here hx rfl (hb hby at_147) (XS.iload X56.here hx rfl (hb hby at_148) rfl k)))) ?_
  show Comes p e below _ (T56.setTop (mkF m 150 #[.val (.int i0), .val (.int i1), .val (.int i2), .val (.int i3), .val (.int sel), .val (.ref b1), .val (.ref b2), .val (.int v19), .val (.ref b20), .val (.int v3), .val (.int v7), .val (.int v12), .val (.int v15), .val (.ref b27), .val (.int (1 : Int32)), .unset] [(.int v15), (.int (1 : Int32)), (.ref b27)]))
  obtain ⟨cq59, kq59, q59a, q59b, q59c⟩ := isOf hZ hs56 P46_0
  obtain ⟨_, _, ⟨T59, L59, k59, n59⟩, -, X59, ⟨Lc59, hQ59, l59, y59, z59⟩, st59⟩ := X56.virtualBack hx (y := (⟨"com/example/ordr/ordr/layout/LayerNetwork", "otherEnd", "(II)I"⟩ : MethodName)) (z := (⟨"com/example/ordr/ordr/layout/LayerNetwork", "otherEnd", "(II)I"⟩ : MethodName)) hown (mvT hZ (hw _ (List.mem_of_getElem? (i := 35) rfl))) (mvT hZ (hw _ (List.mem_of_getElem? (i := 36) rfl))) (notFace_of_selects (args := #[]) (mvT hZ (hw _ (List.mem_of_getElem? (i := 38) rfl)))) (mvT hZ (hw _ (List.mem_of_getElem? (i := 38) rfl))) (mvT hZ (hw _ (List.mem_of_getElem? (i := 37) rfl))) (by decide) (backOf (W := 0) (oe1 l Z a0 hw [] b27 v15 b1 b2 k1 k2 v3 v7 v12 v15 T46.heap n0 (by omega)  P46_1 P46_2 F48 F49) hZ (hw _ (List.mem_of_getElem? (i := 39) rfl)) (hw _ (List.mem_of_getElem? (i := 3) rfl)) (by decide) (by decide)) q59a q59c (g := (mkF m 150 #[.val (.int i0), .val (.int i1), .val (.int i2), .val (.int i3), .val (.int sel), .val (.ref b1), .val (.ref b2), .val (.int v19), .val (.ref b20), .val (.int v3), .val (.int v7), .val (.int v12), .val (.int v15), .val (.ref b27), .val (.int (1 : Int32)), .unset] [(.int v15), (.int (1 : Int32)), (.ref b27)])) rfl (by rw [hml]; rfl) (Steps.refl _) (argsL := [(.int (1 : Int32)), (.int v15)]) (rest := []) (lenOf pd_1 rfl) rfl (by show 2 * 0 + _ ≤ _; exact Nat.le_of_eq rfl) (hb hby at_150) (fun _ _ => ⟨rfl, hs56, (by decide : 13 + 0 ≤ _), (by decide : 83 + 0 ≤ _)⟩)
  dsimp only [Pt.U, Pt.locs, Pt.cells, Pt.slots] at X59 l59 y59 z59 st59 hQ59
  subst l59 y59 z59
  obtain ⟨r60, rfl, Nq59, hs59, P59_0⟩ := hQ59
  have N59 := Fr.app N56 Nq59
  refine Comes.go st59 ?_
  show Comes p e below _ (T59.setTop (mkF m 153 #[.val (.int i0), .val (.int i1), .val (.int i2), .val (.int i3), .val (.int sel), .val (.ref b1), .val (.ref b2), .val (.int v19), .val (.ref b20), .val (.int v3), .val (.int v7), .val (.int v12), .val (.int v15), .val (.ref b27), .val (.int (1 : Int32)), .unset] [(.int r60)]))
  refine Comes.st (fun t k => XS.iload X59.here hx rfl (hb hby at_153) rfl k) ?_
  show Comes p e below _ (T59.setTop (mkF m 155 #[.val (.int i0), .val (.int i1), .val (.int i2), .val (.int i3), .val (.int sel), .val (.ref b1), .val (.ref b2), .val (.int v19), .val (.ref b20), .val (.int v3), .val (.int v7), .val (.int v12), .val (.int v15), .val (.ref b27), .val (.int (1 : Int32)), .unset] [(.int v12), (.int r60)]))
  have hc155_61 : r60 = v12 := by have a_0 := c_mask i0 (7 : Int32) 3 (by decide) (by decide); rw [hv_v3] at a_0; have a_1 := c_mask i1 (7 : Int32) 3 (by decide) (by decide); rw [hv_v7] at a_1; have a_2 := c_mask i2 (7 : Int32) 3 (by decide) (by decide); rw [hv_v12] at a_2; have a_3 := c_mask i3 (7 : Int32) 3 (by decide) (by decide); rw [hv_v15] at a_3; have a_4 := c_mask sel (3 : Int32) 2 (by decide) (by decide); have a_5 := c_irem (sel &&& (3 : Int32)) (3 : Int32) 3 (by decide); rw [hv_v19] at a_5; have a_6 := rng32 (sel &&& (3 : Int32)); have a_7 := rng32 i0; have a_8 := rng32 i1; have a_9 := rng32 i2; have a_10 := rng32 i3; have a_11 := rng32 sel; have a_12 := rng32 v12; have a_13 := rng32 v15; have a_14 := rng32 v19; have a_15 := rng32 v3; have a_16 := rng32 v7; have c_0 := hc109_52; have c_1 := hc122_55; have c_2 := hc142_58; have c_3 := P50_0; have c_4 := P53_0; have c_5 := P56_0; have c_6 := P59_0; (try simp only [Int32.lt_iff_toInt_lt, Int64.lt_iff_toInt_lt, ← Int32.toInt_inj, ← Int64.toInt_inj, Int32.reduceToInt, Int64.reduceToInt, eq_self, and_true, true_and, or_true, true_or, and_false, false_and, or_false, false_or, not_true_eq_false, not_false_eq_true] at a_0 a_1 a_2 a_3 a_4 a_5 a_6 a_7 a_8 a_9 a_10 a_11 a_12 a_13 a_14 a_15 a_16 c_0 c_1 c_2 c_3 c_4 c_5 c_6 ⊢) <;> omega
  refine Comes.st (fun t k => XS.icmpNo X59.here hx rfl (hb hby at_155) rfl (teq hc155_61).2 (XS.iconst X59.here hx rfl (hb hby at_158) (XS.goto X59.here hx rfl (pc0 := 159) (pc' := 163) rfl (hb hby at_159) (by decide) (by decide) (XS.istore X59.here hx rfl (hb hby at_163) rfl (l' := #[.val (.int i0), .val (.int i1), .val (.int i2), .val (.int i3), .val (.int sel), .val (.ref b1), .val (.ref b2), .val (.int v19), .val (.ref b20), .val (.int v3), .val (.int v7), .val (.int v12), .val (.int v15), .val (.ref b27), .val (.int (1 : Int32)), .val (.int (1 : Int32))]) rfl (XS.iload X59.here hx rfl (hb hby at_165) rfl k))))) ?_
  show Comes p e below _ (T59.setTop (mkF m 167 #[.val (.int i0), .val (.int i1), .val (.int i2), .val (.int i3), .val (.int sel), .val (.ref b1), .val (.ref b2), .val (.int v19), .val (.ref b20), .val (.int v3), .val (.int v7), .val (.int v12), .val (.int v15), .val (.ref b27), .val (.int (1 : Int32)), .val (.int (1 : Int32))] [(.int (1 : Int32))]))
  have hc167_62 : ¬ ((1 : Int32) = (0 : Int32)) := by decide
  refine Comes.st (fun t k => XS.ifNo X59.here hx rfl (hb hby at_167) rfl ((if0 _ _).trans (feq hc167_62).1) (XS.iload X59.here hx rfl (hb hby at_170) rfl k)) ?_
  show Comes p e below _ (T59.setTop (mkF m 172 #[.val (.int i0), .val (.int i1), .val (.int i2), .val (.int i3), .val (.int sel), .val (.ref b1), .val (.ref b2), .val (.int v19), .val (.ref b20), .val (.int v3), .val (.int v7), .val (.int v12), .val (.int v15), .val (.ref b27), .val (.int (1 : Int32)), .val (.int (1 : Int32))] [(.int (1 : Int32))]))
  have hc172_63 : ¬ ((1 : Int32) = (0 : Int32)) := by decide
  refine Comes.st (fun t k => XS.ifNo X59.here hx rfl (hb hby at_172) rfl ((if0 _ _).trans (feq hc172_63).1) (XS.iconst X59.here hx rfl (hb hby at_175) (XS.goto X59.here hx rfl (pc0 := 176) (pc' := 180) rfl (hb hby at_176) (by decide) (by decide) k))) ?_
  show Comes p e below _ (T59.setTop (mkF m 180 #[.val (.int i0), .val (.int i1), .val (.int i2), .val (.int i3), .val (.int sel), .val (.ref b1), .val (.ref b2), .val (.int v19), .val (.ref b20), .val (.int v3), .val (.int v7), .val (.int v12), .val (.int v15), .val (.ref b27), .val (.int (1 : Int32)), .val (.int (1 : Int32))] [(.int (1 : Int32))]))
  exact Comes.retN X59 hx (t := .boolean) Bd.returns (by simp) hlk (hb hby at_180) hs59 ⟨rfl, N59⟩ (by decide) (by decide)
set_option maxRecDepth 65536 in
set_option maxHeartbeats 40000000 in
theorem comes_1 {Post : Tables → Env → Array Value → State → Outcome → State → Prop} (hpost : ∀ tb e args s v u, (limb_1_1.after args s (.returned v) u = true ∧ limb_1_2.after args s (.returned v) u = true ∧ True) → FrameEnd s (.returned v) u (Jvm.fieldLocs frame_1_writes args s ++ Jvm.arrayLocs frame_1_arrays args s ++ Jvm.staticLocs frame_1_statics s) 40 256 → Post tb e args s (.returned v) u) :
    ArmFor flags0 classFile x code maxLocals ret World_1 tables_1 room_1 Calls_1 rest_1 Pre_1 Post := by
  intro l hfl _ _ p e ha hc hk s m args below hf hA hF happ hP
  obtain ⟨hcalls, hrest, hpre⟩ := hP
  obtain ⟨-, -, -, hnamed, -, -, -, hat⟩ := (Spec.applies_iff hf).mp happ
  obtain ⟨hg, hn⟩ := and_e (Cond.before_iff.mp (show (Jvm.Cond.and given_1 narrow_1).before args s = true from hpre))
  obtain ⟨c0, d0⟩ := and_e hg
  obtain ⟨c1, d1⟩ := and_e d0
  obtain ⟨c2, d2⟩ := and_e d1
  obtain ⟨c3, d3⟩ := and_e d2
  obtain ⟨c4, d4⟩ := and_e d3
  obtain ⟨w0, w1, w2, w3, w4, rfl⟩ : ∃ w0 w1 w2 w3 w4 : Value, args = #[w0, w1, w2, w3, w4] := by
    have hs : args.size = 5 := by simpa [Cond.value, given_1] using c0
    obtain ⟨L⟩ := args
    match L, hs with
    | [w0, w1, w2, w3, w4], _ => exact ⟨w0, w1, w2, w3, w4, rfl⟩
  have hw := fun d (hd : d ∈ tables_1) => atoms_spec (ws := Jvm.Cond.code x code maxLocals ret :: tables_1) hat d (List.mem_cons_of_mem _ hd)
  have hfit : Fit s := fun {y c} hc i hi => by
    obtain ⟨ha, rfl⟩ := Array.getElem?_eq_some_iff.mp hc
    have q := List.all_eq_true.mp ((Array.all_eq_true_iff_forall_mem.mp hF) _ (Array.getElem_mem ha)) i (List.mem_range.mpr hi)
    simpa [Array.getElem?_eq_getElem hi] using q
  obtain ⟨i0, ei0⟩ := is_v c1
  obtain rfl : w0 = (.int i0) := Option.some.inj ei0
  obtain ⟨i1, ei1⟩ := is_v c2
  obtain rfl : w1 = (.int i1) := Option.some.inj ei1
  obtain ⟨i2, ei2⟩ := is_v c3
  obtain rfl : w2 = (.int i2) := Option.some.inj ei2
  obtain ⟨i3, ei3⟩ := is_v c4
  obtain rfl : w3 = (.int i3) := Option.some.inj ei3
  obtain ⟨i4, ei4⟩ := is_v d4
  obtain rfl : w4 = (.int i4) := Option.some.inj ei4
  obtain ⟨n, o, h1, h2, h3, _, L, rfl, ⟨rfl, N⟩, hq⟩ := rm0 l s _ hw tables_1 i0 i1 i2 i3 i4 s.heap s.heap.size (Nat.le_refl _)  p e ha hc hk s m _ below hf ((Spec.applies_iff_loose hf).mp happ).1 ⟨rfl, State.Warmed39.refl s, rfl⟩ trivial
  refine ⟨n, _, h1, h2, h3, hpost _ _ _ _ _ _ ⟨Cond.after_iff.mpr rfl, Cond.after_iff.mpr (eq_i res_at (Term.int_eval (1)) rfl), trivial⟩ ⟨hq.1, hq.2.1, (hq.2.2.sift fun y hy => Or.inr (N y hy)).mono (by decide) (by decide)⟩⟩
theorem main_1_1 : Claimed_1_1 := comes_1 fun _ _ _ _ _ _ h hF => ⟨h.1, hF⟩
theorem main_1_2 : Claimed_1_2 := comes_1 fun _ _ _ _ _ _ h hF => ⟨h.2.1, hF⟩
end Jvm.Pilot.@@N@@
namespace Jvm.Pilot.@@N@@
open Jvm Jvm.ClassFile Sem Op Lib Jvm.Free Jvm.Stand Jvm.Pilot.@@N@@.Jvm.D
/-! MADE BY PROGRAM (witnessworld.py) out of the Statement's table words and the real class files: 11 classes; the members and pool entries that the words name. The judged class is class 1, her method 1. -/
namespace start1
open Jvm.ClassFile
def u (s : String) : CpInfo := .utf8 (stringToUtf16 s)
/-- a pool by its gaps: so many unusable entries, then the entry; so many at the end -/
def gap : Nat → List CpInfo → List CpInfo
  | 0, r => r
  | n + 1, r => .unusable :: gap n r
def poolList (es : List (Nat × CpInfo)) (last : Nat) : List CpInfo := es.foldr (fun e r => gap e.1 (e.2 :: r)) (gap last [])
def pool (es : List (Nat × CpInfo)) (last : Nat) : Array CpInfo := ⟨poolList es last⟩
def fileOf (pool : Array CpInfo) (this : Nat) (attrs : Array Attribute := #[]) (ms : Array MethodInfo := #[]) (fl : Nat := 33) (sup : Nat := 0) (ifs : Array Nat := #[]) (fds : Array FieldInfo := #[]) : ClassFile where
  minorVersion := 0
  majorVersion := 65
  constantPool := pool
  accessFlags := fl
  thisClass := this
  superClass := sup
  interfaces := ifs
  fields := fds
  methods := ms
  attributes := attrs
def plain (name : String) (sup : Option ClassId) : Class where
  name := name
  kind := .ordinary
  loader := none
  accessFlags := 33
  super := sup
  interfaces := #[]
  cf := none
  fields := #[]
  methods := #[]
  instanceTypes := #[]
  staticTypes := #[]
  resolved := #[]
  callSites := []
  init := .initialized
  statics := none
  mirror := none

def pool0 : Array CpInfo := pool [(5, u "<init>"), (0, u "()V"), (1, .class_ 10), (1, u "java/lang/Object")] 113

def k0c0 : Code := { maxStack := 0, maxLocals := 1, code := object_method_1_code, exceptionTable := #[], attributes := #[] }
def k0m0 : Method := { name := "<init>", desc := "()V", sig := { parameters := [], returnType := none }, accessFlags := 1, code := some k0c0 }
/-- java/lang/Object -/
def k0 : Class := { plain "java/lang/Object" none with
  accessFlags := 33
  interfaces := #[]
  cf := some (fileOf pool0 8 #[] #[{ accessFlags := 1, nameIndex := 5, descriptorIndex := 6, attributes := #[] }] 33 0 #[] #[])
  fields := #[]
  methods := #[k0m0]
  instanceTypes := #[]
  staticTypes := #[]
  resolved := Array.replicate 124 none
  statics := none }

def pool1 : Array CpInfo := pool [(2, .class_ 4), (1, u "java/lang/Object"), (0, u "<init>"), (0, u "()V"), (0, .class_ 8), (0, u "com/example/ordr/ordr/layout/LayerNetwork"), (0, .methodref 7 10), (0, .nameAndType 5 11), (0, u "(I[I[II[I)V"), (0, .methodref 7 13), (0, .nameAndType 14 15), (0, u "otherEnd"), (0, u "(II)I"), (0, .class_ 17), (0, u "com/example/ordr/ordr/layout/LayerNetworkOtherEndPinLaw"), (2, u "law"), (0, u "(IIIII)Z")] 5

def k1m0 : Method := { name := "<init>", desc := "()V", sig := { parameters := [], returnType := none }, accessFlags := 1, code := none }
def k1c1 : Code := { maxStack := 7, maxLocals := 16, code := code, exceptionTable := #[], attributes := #[] }
def k1m1 : Method := { name := "law", desc := "(IIIII)Z", sig := { parameters := [.int, .int, .int, .int, .int], returnType := some .boolean }, accessFlags := 9, code := some k1c1 }
/-- com/example/ordr/ordr/layout/LayerNetworkOtherEndPinLaw -/
def k1 : Class := { plain "com/example/ordr/ordr/layout/LayerNetworkOtherEndPinLaw" (some 0) with
  accessFlags := 49
  interfaces := #[]
  cf := some (fileOf pool1 16 #[] #[{ accessFlags := 1, nameIndex := 5, descriptorIndex := 6, attributes := #[] }, { accessFlags := 9, nameIndex := 20, descriptorIndex := 21, attributes := #[] }] 49 2 #[] #[])
  fields := #[]
  methods := #[k1m0, k1m1]
  instanceTypes := #[]
  staticTypes := #[]
  resolved := Array.replicate 27 none
  statics := none }

def pool2 : Array CpInfo := pool [(5, u "nodeCount"), (2, .class_ 10), (1, u "com/example/ordr/ordr/layout/LayerNetwork"), (4, u "edgeCount"), (2, u "<init>"), (0, u "(I[I[II[I)V"), (0, .methodref 21 22), (0, .class_ 23), (0, .nameAndType 18 24), (0, u "java/lang/Object"), (0, u "()V"), (0, .fieldref 8 26), (0, .nameAndType 5 27), (0, u "I"), (0, .fieldref 8 29), (0, .nameAndType 15 27), (0, .fieldref 8 31), (0, .nameAndType 32 33), (0, u "tails"), (0, u "[I"), (0, .fieldref 8 35), (0, .nameAndType 36 33), (0, u "heads"), (0, .fieldref 8 38), (0, .nameAndType 39 33), (0, u "incidentStarts"), (0, .fieldref 8 41), (0, .nameAndType 42 33), (0, u "incident"), (0, .fieldref 8 44), (0, .nameAndType 45 33), (0, u "otherEnds"), (0, .fieldref 8 47), (0, .nameAndType 48 33), (0, u "incomingStarts"), (0, .fieldref 8 50), (0, .nameAndType 51 52), (0, u "layers"), (0, u "[J"), (0, .fieldref 8 54), (0, .nameAndType 55 33), (0, u "supplies"), (0, .fieldref 8 57), (0, .nameAndType 58 52), (0, u "flows"), (0, .fieldref 8 60), (0, .nameAndType 61 52), (0, u "excesses"), (30, .class_ 93), (0, u "com/example/ordr/ordr/layout/LayerNetwork$Forest"), (44, u "otherEnd"), (0, u "(II)I"), (13, u "NONE")] 20

def k2c0 : Code := { maxStack := 5, maxLocals := 10, code := prog_45_method_2_code, exceptionTable := #[], attributes := #[] }
def k2m0 : Method := { name := "<init>", desc := "(I[I[II[I)V", sig := { parameters := [.int, (.array .int), (.array .int), .int, (.array .int)], returnType := none }, accessFlags := 0, code := some k2c0 }
def k2c1 : Code := { maxStack := 2, maxLocals := 3, code := prog_45_method_6_code, exceptionTable := #[], attributes := #[] }
def k2m1 : Method := { name := "otherEnd", desc := "(II)I", sig := { parameters := [.int, .int], returnType := some .int }, accessFlags := 0, code := some k2c1 }
/-- com/example/ordr/ordr/layout/LayerNetwork -/
def k2 : Class := { plain "com/example/ordr/ordr/layout/LayerNetwork" (some 0) with
  accessFlags := 48
  interfaces := #[]
  cf := some (fileOf pool2 8 #[.nestMembers #[92]] #[{ accessFlags := 0, nameIndex := 18, descriptorIndex := 19, attributes := #[] }, { accessFlags := 0, nameIndex := 138, descriptorIndex := 139, attributes := #[] }] 48 21 #[] #[{ accessFlags := 24, nameIndex := 153, descriptorIndex := 27, attributes := #[] }, { accessFlags := 16, nameIndex := 5, descriptorIndex := 27, attributes := #[] }, { accessFlags := 16, nameIndex := 15, descriptorIndex := 27, attributes := #[] }, { accessFlags := 16, nameIndex := 32, descriptorIndex := 33, attributes := #[] }, { accessFlags := 16, nameIndex := 36, descriptorIndex := 33, attributes := #[] }, { accessFlags := 16, nameIndex := 39, descriptorIndex := 33, attributes := #[] }, { accessFlags := 16, nameIndex := 42, descriptorIndex := 33, attributes := #[] }, { accessFlags := 16, nameIndex := 45, descriptorIndex := 33, attributes := #[] }, { accessFlags := 16, nameIndex := 48, descriptorIndex := 33, attributes := #[] }, { accessFlags := 16, nameIndex := 55, descriptorIndex := 33, attributes := #[] }, { accessFlags := 16, nameIndex := 51, descriptorIndex := 52, attributes := #[] }, { accessFlags := 16, nameIndex := 58, descriptorIndex := 52, attributes := #[] }, { accessFlags := 16, nameIndex := 61, descriptorIndex := 52, attributes := #[] }])
  fields := #[{ name := "NONE", type := .int, accessFlags := 24, slot := 0, constantValue := 0 }, { name := "nodeCount", type := .int, accessFlags := 16, slot := 0, constantValue := 0 }, { name := "edgeCount", type := .int, accessFlags := 16, slot := 1, constantValue := 0 }, { name := "tails", type := (.array .int), accessFlags := 16, slot := 2, constantValue := 0 }, { name := "heads", type := (.array .int), accessFlags := 16, slot := 3, constantValue := 0 }, { name := "incidentStarts", type := (.array .int), accessFlags := 16, slot := 4, constantValue := 0 }, { name := "incident", type := (.array .int), accessFlags := 16, slot := 5, constantValue := 0 }, { name := "otherEnds", type := (.array .int), accessFlags := 16, slot := 6, constantValue := 0 }, { name := "incomingStarts", type := (.array .int), accessFlags := 16, slot := 7, constantValue := 0 }, { name := "supplies", type := (.array .int), accessFlags := 16, slot := 8, constantValue := 0 }, { name := "layers", type := (.array .long), accessFlags := 16, slot := 9, constantValue := 0 }, { name := "flows", type := (.array .long), accessFlags := 16, slot := 10, constantValue := 0 }, { name := "excesses", type := (.array .long), accessFlags := 16, slot := 11, constantValue := 0 }]
  methods := #[k2m0, k2m1]
  instanceTypes := #[.int, .int, (.array .int), (.array .int), (.array .int), (.array .int), (.array .int), (.array .int), (.array .int), (.array .long), (.array .long), (.array .long)]
  staticTypes := #[.int]
  resolved := Array.replicate 174 none
  statics := none }

def pool3 : Array CpInfo := pool [(1, u "java/lang/Cloneable"), (0, .class_ 1), (0, u "java/lang/Object"), (0, .class_ 3)] 3

/-- java/lang/Cloneable -/
def k3 : Class := { plain "java/lang/Cloneable" (some 0) with
  accessFlags := 1537
  interfaces := #[]
  cf := some (fileOf pool3 2 #[] #[] 1537 4 #[] #[])
  fields := #[]
  methods := #[]
  instanceTypes := #[]
  staticTypes := #[]
  resolved := Array.replicate 8 none
  statics := none }

def pool4 : Array CpInfo := pool [(1, u "java/io/Serializable"), (0, .class_ 1), (0, u "java/lang/Object"), (0, .class_ 3)] 3

/-- java/io/Serializable -/
def k4 : Class := { plain "java/io/Serializable" (some 0) with
  accessFlags := 1537
  interfaces := #[]
  cf := some (fileOf pool4 2 #[] #[] 1537 4 #[] #[])
  fields := #[]
  methods := #[]
  instanceTypes := #[]
  staticTypes := #[]
  resolved := Array.replicate 8 none
  statics := none }

/-- the primitive byte -/
def k5 : Class := { plain "byte" none with kind := .primitive 'B', accessFlags := 0x411 }
/-- [B -/
def k6 : Class := { plain "[B" (some 0) with kind := .array 5 .byte, interfaces := #[3, 4], accessFlags := 1041 }

/-- the primitive int -/
def k7 : Class := { plain "int" none with kind := .primitive 'I', accessFlags := 0x411 }
/-- [I -/
def k8 : Class := { plain "[I" (some 0) with kind := .array 7 .int, interfaces := #[3, 4], accessFlags := 1041 }

/-- the primitive long -/
def k9 : Class := { plain "long" none with kind := .primitive 'J', accessFlags := 0x411 }
/-- [J -/
def k10 : Class := { plain "[J" (some 0) with kind := .array 9 .long, interfaces := #[3, 4], accessFlags := 1041 }

def heap : Heap := #[]
def classes : Array Class := #[k0, k1, k2, k3, k4, k5, k6, k7, k8, k9, k10]
def interned : List (Array UInt16 × Addr) := []
def slotsUsed : Nat := 0
def theMethod : MethodId := ⟨1, 1⟩
def args0 : Array Value := #[.int 5, .int 7, .int 3, .int 9, .int 1]
def aboutOver (below : List Frame) : State where
  vm := { classes := classes, interned := interned.toArray }
  heap := heap
  slotsUsed := slotsUsed
  threads := #[{ frames := .invoking theMethod args0 :: below }]
def below0 : List Frame := [.native { method := ⟨0, 0⟩, args := #[] }]
def about1 : State := aboutOver below0
def p0 : Program := .bare "" "" ""
def e0 : Env := launch0.env 0 0 0
theorem w_frames : about1.frames = Frame.invoking theMethod args0 :: below0 := rfl
set_option maxRecDepth 65536 in
theorem w_args : argsFit about1.vm theMethod args0 = true := by decide +kernel
set_option maxRecDepth 65536 in
theorem w_heap : heapFits about1 = true := by decide +kernel
set_option maxRecDepth 65536 in
theorem w_runnable : about1.curStatus? = some .runnable := by decide +kernel
set_option maxRecDepth 65536 in
theorem w_alone : about1.alone = true := by decide +kernel
set_option maxRecDepth 65536 in
theorem w_named : about1.methodNamed? x = some theMethod := by decide +kernel
set_option maxRecDepth 65536 in
theorem w_hears : about1.hears theMethod below0 = true := by decide +kernel
set_option maxRecDepth 65536 in
theorem w_ripe : about1.ripe theMethod args0 below0 = true := by decide +kernel
theorem w_running : about1.status = .running := rfl
set_option maxRecDepth 65536 in
theorem w_room : about1.hasRoom e0.platform room_1 = true :=
  launch0.hasRoom_least _ room_1 (by decide +kernel) (by decide +kernel) (by decide +kernel) (by decide +kernel) (by decide +kernel) (by decide +kernel)
theorem allAtoms_all (ts : List Jvm.Cond) (a : Array Jvm.Value) (st : Jvm.State) : (allAtoms ts).before a st = ts.all (fun c => c.before a st) := by
  induction ts with
  | nil => rfl
  | cons c t ih =>
    show (Jvm.Cond.and c (allAtoms t)).before a st = _
    rw [Jvm.Cond.before_and, ih, List.all_cons]
def words1 : List Jvm.Cond := Jvm.Cond.code x code maxLocals ret :: tables_1
/-- a 'code' word, met by the world's own term for the bytes: nothing is compared byte by byte -/
theorem code_word {y : MethodName} {bytes : ByteArray} {mx : Nat} {rt : Option FieldType} {a : Array Value} {s : State} {m : MethodId} {meth : Method} {c : Code} (h1 : s.methodNamed? y = some m) (h2 : s.vm.method? m = some meth) (h3 : meth.code = some c) (h4 : c.code = bytes)
    (h5 : (c.maxLocals == mx && c.exceptionTable.isEmpty && decide (c.maxStack ≤ mostOperands) && decide (meth.sig.returnType = rt) && !meth.locks && decide (parseMethodDescriptor y.desc = some meth.sig)) = true) : (Jvm.Cond.code y bytes mx rt).before a s = true := by
  simp only [Bool.and_eq_true, beq_iff_eq, Bool.not_eq_true', decide_eq_true_eq] at h5
  obtain ⟨⟨⟨⟨⟨g1, g2⟩, g3⟩, g4⟩, g5⟩, g6⟩ := h5
  simp [Cond.before, Cond.holds, Cond.value, h1, h2, h3, h4, g1, g2, g3, g4, g5, g6]
def isCode : Jvm.Cond → Bool
  | .code _ _ _ _ => true
  | _ => false
theorem all_split {L : List Jvm.Cond} {P : Jvm.Cond → Bool} (h1 : L.all (fun c => isCode c || P c) = true) (h2 : ∀ c ∈ L.filter isCode, P c = true) : L.all P = true := by
  refine List.all_eq_true.mpr fun c hc => ?_
  have h := List.all_eq_true.mp h1 c hc
  rcases Bool.eq_false_or_eq_true (isCode c) with hi | hi
  · exact h2 c (List.mem_filter.mpr ⟨hc, hi⟩)
  · simpa [hi] using h
set_option maxRecDepth 65536 in
theorem w_c0 : (Jvm.Cond.code x code maxLocals ret).before args0 about1 = true := code_word (m := ⟨1, 1⟩) (meth := k1m1) (c := k1c1) (by decide +kernel) rfl rfl rfl (by decide +kernel)
set_option maxRecDepth 65536 in
theorem w_c1 : (Jvm.Cond.code ({ cls := "com/example/ordr/ordr/layout/LayerNetwork", name := "<init>", desc := "(I[I[II[I)V" } : Jvm.MethodName) prog_45_method_2_code (10 : Nat) (Option.none : Option Jvm.ClassFile.FieldType)).before args0 about1 = true := code_word (m := ⟨2, 0⟩) (meth := k2m0) (c := k2c0) (by decide +kernel) rfl rfl rfl (by decide +kernel)
set_option maxRecDepth 65536 in
theorem w_c2 : (Jvm.Cond.code ({ cls := "java/lang/Object", name := "<init>", desc := "()V" } : Jvm.MethodName) object_method_1_code (1 : Nat) (Option.none : Option Jvm.ClassFile.FieldType)).before args0 about1 = true := code_word (m := ⟨0, 0⟩) (meth := k0m0) (c := k0c0) (by decide +kernel) rfl rfl rfl (by decide +kernel)
set_option maxRecDepth 65536 in
theorem w_c3 : (Jvm.Cond.code ({ cls := "com/example/ordr/ordr/layout/LayerNetwork", name := "otherEnd", desc := "(II)I" } : Jvm.MethodName) prog_45_method_6_code (3 : Nat) (Option.some Jvm.ClassFile.FieldType.int)).before args0 about1 = true := code_word (m := ⟨2, 1⟩) (meth := k2m1) (c := k2c1) (by decide +kernel) rfl rfl rfl (by decide +kernel)
def codes1 : List Jvm.Cond := [Jvm.Cond.code x code maxLocals ret, Jvm.Cond.code ({ cls := "com/example/ordr/ordr/layout/LayerNetwork", name := "<init>", desc := "(I[I[II[I)V" } : Jvm.MethodName) prog_45_method_2_code (10 : Nat) (Option.none : Option Jvm.ClassFile.FieldType), Jvm.Cond.code ({ cls := "java/lang/Object", name := "<init>", desc := "()V" } : Jvm.MethodName) object_method_1_code (1 : Nat) (Option.none : Option Jvm.ClassFile.FieldType), Jvm.Cond.code ({ cls := "com/example/ordr/ordr/layout/LayerNetwork", name := "otherEnd", desc := "(II)I" } : Jvm.MethodName) prog_45_method_6_code (3 : Nat) (Option.some Jvm.ClassFile.FieldType.int)]
set_option maxRecDepth 65536 in
theorem codes_eq : words1.filter isCode = codes1 := rfl
theorem w_codes : ∀ c ∈ words1.filter isCode, c.before args0 about1 = true := by
  rw [codes_eq]
  intro c hc
  simp only [codes1, List.mem_cons, List.not_mem_nil, or_false] at hc
  rcases hc with rfl | rfl | rfl | rfl
  · exact w_c0
  · exact w_c1
  · exact w_c2
  · exact w_c3
set_option maxRecDepth 65536 in
theorem w_t1 : (words1.take 24).all (fun c => isCode c || c.before args0 about1) = true := by decide +kernel
set_option maxRecDepth 65536 in
theorem w_t2 : (words1.drop 24).all (fun c => isCode c || c.before args0 about1) = true := by decide +kernel
theorem w_tables : (allAtoms (Jvm.Cond.code x code maxLocals ret :: tables_1)).before args0 about1 = true := by
  rw [allAtoms_all]
  show words1.all (fun c => c.before args0 about1) = true
  refine all_split ?_ w_codes
  rw [← List.take_append_drop 24 words1, List.all_append, w_t1, w_t2]
  rfl
set_option maxRecDepth 65536 in
theorem w_case : (Jvm.Cond.and given_1 narrow_1).before args0 about1 = true := by decide +kernel
theorem w_applies : (headSpec (Jvm.Cond.code x code maxLocals ret :: tables_1) room_1).applies x e0.platform about1 = true :=
  (Spec.applies_iff w_frames).mpr ⟨w_running, w_runnable, w_alone, w_named, w_hears, w_ripe, w_room, w_tables⟩
theorem atStart : AtStart classFile x code maxLocals ret World_1 tables_1 room_1 Calls_1 rest_1 Pre_1 launch0 p0 e0 about1 theMethod args0 below0 :=
  ⟨lists_1, trivial, launch0.admits_env _ _ _, launch0.least_env, fairChoices_fair.cas, fairChoices_fair.clock, w_frames, w_args, w_heap, w_applies, trivial, trivial, w_case⟩
end start1
theorem witness_1 : WitnessClaimed_1 := ⟨start1.p0, start1.e0, start1.about1, start1.theMethod, start1.args0, start1.below0, start1.atStart⟩
end Jvm.Pilot.@@N@@
