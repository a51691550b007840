import JvmDerived
import JvmDerived.Pilot.@@N@@Statement
import JvmDerived.Pilot.@@N@@Code
set_option linter.unusedVariables false
set_option linter.unusedSimpArgs false
namespace Jvm.RoadKit
open Sem ClassFile Op Lib Jvm.Stand Jvm.Free Jvm.LawKit
section New
variable {p : Program} {l : Launch} {e : Env} {R : Room} {s : State} {m : MethodId} {args : Array Value} {below : List Frame} {meth : Method} {c : Code} {T : State} {locs : List Loc} {cells slots : Nat}
theorem retI (X : Stand p l e R s m args below meth c T locs cells slots) (hx : p.tables.exec = Jvm.exec) {pc : Nat} {Ls : Array Slot} {z : Int32} {rest : List Value} (hret : meth.sig.returnType = some .int) (hd : decode c.code pc = .ok (.ireturn, 1)) {fs : List Frame}
    (hl : ∀ (f : JFrame) (acts : List Action), f.method = m → f.locked = none → f.entered = [] → (doReturn e (T.setTop f) acts (some (.int z))).1 = T.setFrames fs) : Steps p.tables e below (T.setTop (mkF m pc Ls (.int z :: rest))) (T.setFrames fs) := by
  have hm' : T.vm.method? m = some meth := X.method'
  have hn : narrow .int (.int z) = .int z := rfl
  show Steps p.tables e below (T.setTop { method := m, pc := pc, locals := Ls, stack := _ :: rest, locked := none }) _
  jvm_step X.here [X.here.top, hx, hd, hm', hret, hn]
  first | (intro acts; rw [hl _ acts rfl rfl rfl]) | rw [hl _ _ rfl rfl rfl]
  exact Steps.refl _
theorem own_lremM {g : JFrame} {target : State} (X : Stand p l e R s m args below meth c T locs cells slots) (hx : p.tables.exec = Jvm.exec) (hg : g.method = m) {x y : Int64} {rest : List Value} (hd : decode c.code g.pc = .ok (.lrem, 1)) (hs : g.stack = .long y :: .long x :: rest) (hy : y ≠ 0)
    (hr : Steps p.tables e below (T.setTop { g with pc := g.pc + 1, stack := .long (x % y) :: rest }) target) : Steps p.tables e below (T.setTop g) target := by
  have q : x - (x / y) * y = x % y := lrem_mod x y
  exact XS.lrem X.here hx hg hd hs hy (by rw [q]; exact hr)
end New
end Jvm.RoadKit
namespace Jvm.Pilot.@@N@@
open Jvm Jvm.ClassFile Sem Op Lib Jvm.Free Jvm.Stand Jvm.LawKit Jvm.RoadKit Bundle Jvm.Pilot.@@N@@.Jvm.D
theorem own_notin0 {a : Addr} : a ∉ ([] : List Addr) := fun q => nomatch q
theorem own_notin1 {a b : Addr} (h : a ≠ b) : a ∉ [b] := fun q => h (List.mem_singleton.mp q)
theorem own_narb {x : Int32} (h : x = 0 ∨ x = 1) : nar .boolean x = x := by rcases h with rfl | rfl <;> rfl
theorem own_all0 {P : Addr → Prop} : ∀ x ∈ ([] : List Addr), P x := fun _ q => nomatch q
theorem own_all1 {P : Addr → Prop} {a : Addr} (h : P a) : ∀ x ∈ [a], P x := fun x q => by cases List.mem_singleton.mp q; exact h
def Cache (Z : State) (h : Heap) (wc : Addr) (cl : Cell) : Prop := Arr Z h wc cl (.object "java/lang/Long") ∧ cl.slots.size = 256 ∧ ∀ j, j < 256 → ∃ b : Addr, cl.slots[j]? = some (.ref b) ∧ Exa Z h b "java/lang/Long"
theorem Cache.ext {Z : State} {h h' : Heap} {wc : Addr} {cl : Cell} (F : Cache Z h wc cl) (E : Ext h h') : Cache Z h' wc cl := ⟨F.1.ext E, F.2.1, fun j hj => by obtain ⟨b, q1, q2⟩ := F.2.2 j hj; exact ⟨b, q1, q2.ext E⟩⟩
theorem own_no {Z : State} {a0 : Array Value} {A A' A'' K : String} {n : Nat} (w1 : (Jvm.Cond.superclass A A').before a0 Z = true) (w2 : (Jvm.Cond.superclass A' A'').before a0 Z = true) (w3 : (Jvm.Cond.noSuperclass A'').before a0 Z = true) (wi : (Jvm.Cond.instantiable K n).before a0 Z = true) (n1 : A ≠ K) (n2 : A' ≠ K) (n3 : A'' ≠ K) :
    ∃ c t, Z.vm.findClass A = some c ∧ Z.vm.findClass K = some t ∧ Z.vm.assignable c t = false := by
  obtain ⟨t, kt, g1, g2, g3, g4, -⟩ := Cond.instantiable_spec wi
  obtain ⟨c1, h1⟩ := found_sup w1
  obtain ⟨c2, k1, k2, i1, i2, i3, i4, i5, i6, i7⟩ := Cond.superclass_spec h1 w1
  obtain ⟨c3, k2', k3, j1, j2, j3, j4, j5, j6, j7⟩ := Cond.superclass_spec i1 w2
  cases i3.symm.trans j2
  obtain ⟨c4, k4, m1, m2, m3, -, -⟩ := Cond.noSuperclass_spec w3
  cases j1.symm.trans m1
  cases j3.symm.trans m2
  have e1 := ids_ne h1 g1 n1
  have e2 := ids_ne i1 g1 n2
  have e3 := ids_ne j1 g1 n3
  refine ⟨c1, t, h1, g1, ?_⟩
  have g5 : kt.isInterface = false := by simp only [Bool.or_eq_false_iff] at g4; exact g4.1
  have s3 : ∀ f, Z.vm.isSubclassAux f c3 t = false := fun f => by cases f with | zero => rfl | succ f => simp [Vm.isSubclassAux, e3, j3, m3]
  have s2 : ∀ f, Z.vm.isSubclassAux f c2 t = false := fun f => by cases f with | zero => rfl | succ f => simp [Vm.isSubclassAux, e2, i3, j4, s3]
  have s1 : ∀ f, Z.vm.isSubclassAux f c1 t = false := fun f => by cases f with | zero => rfl | succ f => simp [Vm.isSubclassAux, e1, i2, i4, s2]
  show Z.vm.assignableAux (255 + 1) c1 t = false
  simp [Vm.assignableAux, e1, i2, g2, i5, g3, g5, Vm.isSubclass, s1]
theorem own_cache {args : Array Value} {s : State} {wc : Addr} {cl : Cell} {X : Jvm.Cond} (ev : (Term.static "java/lang/Long$LongCache" "cache" "[Ljava/lang/Long;").eval args s none [] s = some (.ref wc)) (A : Arr s s.heap wc cl (.object "java/lang/Long"))
    (hl : (Jvm.Cond.eq (Term.length (Term.static "java/lang/Long$LongCache" "cache" "[Ljava/lang/Long;")) (Term.int (256 : Int32))).value args s none s [] = some true)
    (ha : (Jvm.Cond.all (Term.static "java/lang/Long$LongCache" "cache" "[Ljava/lang/Long;") (Jvm.Cond.and (Jvm.Cond.exactly (Term.elem (Term.static "java/lang/Long$LongCache" "cache" "[Ljava/lang/Long;") (Term.index (0 : Nat))) "java/lang/Long") X)).before args s = true) : Cache s s.heap wc cl := by
  have at_ : s.arrayAt? wc = some cl := A.fin (Vm.Alike.refl _)
  obtain ⟨hs, hn⟩ := Jvm.Free.IntBox.length_fwd (Cond.before_iff.mpr hl) ev A.1 A.2.1 A.2.2
  have h256 : cl.slots.size = 256 := by
    have q := len_toInt hs
    rw [hn] at q
    have e : (256 : Int32).toInt = 256 := rfl
    omega
  refine ⟨A, h256, fun j hj => ?_⟩
  have q := Cond.all_elim ev at_ (Cond.before_iff.mp ha) j (by omega)
  obtain ⟨q1, -⟩ := and_e q
  obtain ⟨b, c', cell, k, e1, e2, e3, e4, e5, rfl, e7⟩ := Cond.exactly_spec (beq_iff_eq.mpr q1)
  have ev' : (Term.static "java/lang/Long$LongCache" "cache" "[Ljava/lang/Long;").eval args s none [j] s = some (.ref wc) := by simpa [Term.eval] using ev
  obtain ⟨r1, r2⟩ := elem_in e1 ev' (show (Term.index 0).eval args s none [j] s = some (.int j.toInt32) from rfl) A.1
  refine ⟨b, ?_, cell, k, e3, e2, e4, e5, e7⟩
  have e8 : j.toInt32.toNatClampNeg = j := by simp only [Int32.toNatClampNeg, len_toInt (show j < 2 ^ 31 by omega)]; rfl
  rw [e8] at r2; exact r2
theorem own_lo (x lo : Int64) (h : lo = ((x &&& (4294967295 : Int64)) % (4294967295 : Int64))) : 0 ≤ lo.toInt ∧ lo.toInt < 4294967295 := by
  have a := c_maskL x (4294967295 : Int64) 32 (by decide) (by decide)
  have p : ((2 ^ 32 : Nat) : Int) = 4294967296 := by decide
  rw [p] at a
  have r := Int64.toInt_mod (x &&& (4294967295 : Int64)) (4294967295 : Int64)
  have e : ((4294967295 : Int64)).toInt = 4294967295 := rfl
  rw [← h, e, Int.tmod_eq_emod_of_nonneg (by omega)] at r
  omega
theorem own_sub (lo : Int64) (b : 0 ≤ lo.toInt ∧ lo.toInt < 4294967295) : ((4294967295 : Int64) - lo).toInt = 4294967295 - lo.toInt := by
  have := c_lsub (4294967295 : Int64) lo
  have e : ((4294967295 : Int64)).toInt = 4294967295 := rfl
  have r := rng64 ((4294967295 : Int64) - lo)
  omega
theorem own_nz (lo : Int64) (b : 0 ≤ lo.toInt ∧ lo.toInt < 4294967295) : ((4294967295 : Int64) - lo) ≠ 0 := fun q => by
  have e := own_sub lo b
  rw [q] at e
  have e0 : (0 : Int64).toInt = 0 := rfl
  omega
theorem own_hi (y lo hi : Int64) (b : 0 ≤ lo.toInt ∧ lo.toInt < 4294967295) (h : hi = ((lo + (1 : Int64)) + ((y &&& (4294967295 : Int64)) % ((4294967295 : Int64) - lo)))) : lo.toInt < hi.toInt ∧ hi.toInt ≤ 4294967295 := by
  have a := c_maskL y (4294967295 : Int64) 32 (by decide) (by decide)
  have p : ((2 ^ 32 : Nat) : Int) = 4294967296 := by decide
  rw [p] at a
  have r := Int64.toInt_mod (y &&& (4294967295 : Int64)) ((4294967295 : Int64) - lo)
  rw [own_sub lo b, Int.tmod_eq_emod_of_nonneg (by omega)] at r
  have r1 := Int.emod_nonneg (y &&& (4294967295 : Int64)).toInt (b := 4294967295 - lo.toInt) (by omega)
  have r2 := Int.emod_lt_of_pos (y &&& (4294967295 : Int64)).toInt (b := 4294967295 - lo.toInt) (by omega)
  generalize (y &&& (4294967295 : Int64)).toInt % (4294967295 - lo.toInt) = z at *
  have s1 := c_ladd lo 1
  have s2 := c_ladd (lo + 1) ((y &&& (4294967295 : Int64)) % ((4294967295 : Int64) - lo))
  rw [← h] at s2
  have e1 : (1 : Int64).toInt = 1 := rfl
  have q1 := rng64 (lo + 1)
  have q2 := rng64 hi
  omega
theorem own_rem (x hi lo : Int64) (b : 0 < hi.toInt) (h : lo = ((x &&& (4294967295 : Int64)) % hi)) : 0 ≤ lo.toInt ∧ lo.toInt < hi.toInt := by
  have a := c_maskL x (4294967295 : Int64) 32 (by decide) (by decide)
  have p : ((2 ^ 32 : Nat) : Int) = 4294967296 := by decide
  rw [p] at a
  have r := Int64.toInt_mod (x &&& (4294967295 : Int64)) hi
  rw [← h, Int.tmod_eq_emod_of_nonneg (by omega)] at r
  have r1 := Int.emod_nonneg (x &&& (4294967295 : Int64)).toInt (b := hi.toInt) (by omega)
  have r2 := Int.emod_lt_of_pos (x &&& (4294967295 : Int64)).toInt (b := hi.toInt) (by omega)
  omega
theorem own_two (mo : Int32) (xb yb lo hi lo2 hi2 : Int64) (b0 : 0 ≤ lo.toInt ∧ lo.toInt < 4294967295) (b1 : lo.toInt < hi.toInt ∧ hi.toInt ≤ 4294967295)
    (h1 : lo2 = (if mo = (0 : Int32) then ((xb &&& (4294967295 : Int64)) % (4294967295 : Int64)) else (if mo = (1 : Int32) then lo else (if mo = (2 : Int32) then ((xb &&& (4294967295 : Int64)) % hi) else lo))))
    (h2 : hi2 = (if mo = (0 : Int32) then ((((xb &&& (4294967295 : Int64)) % (4294967295 : Int64)) + (1 : Int64)) + ((yb &&& (4294967295 : Int64)) % ((4294967295 : Int64) - ((xb &&& (4294967295 : Int64)) % (4294967295 : Int64))))) else (if mo = (1 : Int32) then ((lo + (1 : Int64)) + ((yb &&& (4294967295 : Int64)) % ((4294967295 : Int64) - lo))) else hi))) : 0 ≤ lo2.toInt ∧ lo2.toInt < hi2.toInt ∧ hi2.toInt ≤ 4294967295 := by
  by_cases c0 : mo = 0
  · rw [if_pos c0] at h1 h2
    have q1 := own_lo xb lo2 h1
    rw [← h1] at h2
    have q2 := own_hi yb lo2 hi2 q1 h2
    omega
  · rw [if_neg c0] at h1 h2
    by_cases c1 : mo = 1
    · rw [if_pos c1] at h1 h2
      have q2 := own_hi yb lo hi2 b0 h2
      subst h1; omega
    · rw [if_neg c1] at h1 h2
      subst h2
      by_cases c2 : mo = 2
      · rw [if_pos c2] at h1
        have := own_rem xb hi2 lo2 (by omega) h1
        omega
      · rw [if_neg c2] at h1; subst h1; omega
theorem own_eqsym (a b c d : Int64) : (if c = a then (if d = b then (1 : Int32) else (0 : Int32)) else (0 : Int32)) = (if a = c then (if b = d then (1 : Int32) else (0 : Int32)) else (0 : Int32)) := by
  by_cases q : a = c <;> by_cases r : b = d <;> simp [q, r, eq_comm]
theorem own_eqself (a b : Int64) : ¬ (if a = a then (if b = b then (1 : Int32) else (0 : Int32)) else (0 : Int32)) = 0 := by simp
def QB (Z : State) (a1 : Addr) (lo hi : Int64) (h0 : Heap) (n0 : Nat) (v : Option Value) (h : Heap) (L : List Loc) : Prop := v = none ∧ Fr n0 L ∧ Keep h0 h [a1] ∧ Exa Z h a1 "com/example/calm_balancer/calmbalancer/BundleRange" ∧ Fld Z h a1 "com/example/calm_balancer/calmbalancer/BundleRange" "lower" "J" (.long lo) ∧ Fld Z h a1 "com/example/calm_balancer/calmbalancer/BundleRange" "upper" "J" (.long hi)
theorem ef_rmB (m : MethodId) (x0 : Addr) (x1 : Int64) (x2 : Int64) : entryFrame m #[(.ref x0), (.long x1), (.long x2)] 5 = mkF m 0 #[.val (.ref x0), .val (.long x1), .second, .val (.long x2), .second] [] := by first | (simp [entryFrame, mkF, argsToLocals, Value.category]; done) | rfl
theorem pn_com_example_calm_balancer_calmbalancer_BundleRange : plainName "com/example/calm_balancer/calmbalancer/BundleRange" = true := by first | (simp [plainName, overriddenIn]; done) | decide +kernel
theorem d1_0 : decode prog_5_method_1_code 0 = .ok (.aload_n 0, 1) := by decide +kernel
theorem d1_1 : decode prog_5_method_1_code 1 = .ok (.invokespecial 3, 3) := by decide +kernel
theorem d1_4 : decode prog_5_method_1_code 4 = .ok (.lload_n 1, 1) := by decide +kernel
theorem d1_5 : decode prog_5_method_1_code 5 = .ok (.lconst 0, 1) := by decide +kernel
theorem d1_6 : decode prog_5_method_1_code 6 = .ok (.lcmp, 1) := by decide +kernel
theorem d1_7 : decode prog_5_method_1_code 7 = .ok (.ifCond .lt 11, 3) := by decide +kernel
theorem d1_10 : decode prog_5_method_1_code 10 = .ok (.lload_n 3, 1) := by decide +kernel
theorem d1_11 : decode prog_5_method_1_code 11 = .ok (.ldc2_w 9, 3) := by decide +kernel
theorem d1_14 : decode prog_5_method_1_code 14 = .ok (.lcmp, 1) := by decide +kernel
theorem d1_15 : decode prog_5_method_1_code 15 = .ok (.ifCond .le 18, 3) := by decide +kernel
theorem d1_33 : decode prog_5_method_1_code 33 = .ok (.lload_n 1, 1) := by decide +kernel
theorem d1_34 : decode prog_5_method_1_code 34 = .ok (.lload_n 3, 1) := by decide +kernel
theorem d1_35 : decode prog_5_method_1_code 35 = .ok (.lcmp, 1) := by decide +kernel
theorem d1_36 : decode prog_5_method_1_code 36 = .ok (.ifCond .lt 21, 3) := by decide +kernel
theorem d1_57 : decode prog_5_method_1_code 57 = .ok (.aload_n 0, 1) := by decide +kernel
theorem d1_58 : decode prog_5_method_1_code 58 = .ok (.lload_n 1, 1) := by decide +kernel
theorem d1_59 : decode prog_5_method_1_code 59 = .ok (.putfield 26, 3) := by decide +kernel
theorem d1_62 : decode prog_5_method_1_code 62 = .ok (.aload_n 0, 1) := by decide +kernel
theorem d1_63 : decode prog_5_method_1_code 63 = .ok (.lload_n 3, 1) := by decide +kernel
theorem d1_64 : decode prog_5_method_1_code 64 = .ok (.putfield 30, 3) := by decide +kernel
theorem d1_67 : decode prog_5_method_1_code 67 = .ok (.return_, 1) := by decide +kernel
set_option maxRecDepth 65536 in
set_option maxHeartbeats 40000000 in
theorem rmB (l : Launch) (Z : State) (a0 : Array Value) (hw : ∀ d ∈ tables_1, d.before a0 Z = true) (ws : List Jvm.Cond) (a1 : Addr) (lo hi : Int64) (u1 u2 : Value) (h0 : Heap) (n0 : Nat) (Z0 : n0 ≤ h0.size) (E1 : Exa Z h0 a1 "com/example/calm_balancer/calmbalancer/BundleRange") (g1 : n0 ≤ a1) (F1 : Fld Z h0 a1 "com/example/calm_balancer/calmbalancer/BundleRange" "lower" "J" u1) (F2 : Fld Z h0 a1 "com/example/calm_balancer/calmbalancer/BundleRange" "upper" "J" u2) (q1 : ¬ lo < (0 : Int64)) (q2 : ¬ (4294967295 : Int64) < hi) (q3 : lo < hi) :
    MetFree l (⟨"com/example/calm_balancer/calmbalancer/BundleRange", "<init>", "(JJ)V"⟩ : MethodName) (head1 (Jvm.Cond.code (⟨"com/example/calm_balancer/calmbalancer/BundleRange", "<init>", "(JJ)V"⟩ : MethodName) prog_5_method_1_code 5 none :: ws) ({ frames := 1, cells := 0, slots := 0, locals := 12 } : Room)) (fun a U => a = #[(.ref a1), (.long lo), (.long hi)] ∧ Z.Warmed39 U.vm ∧ U.heap = h0) (fun _ _ _ _ _ => True) (fun _ U o U' => ∃ v L, o = .returned v ∧ QB Z a1 lo hi h0 n0 v U'.heap L ∧ FrameEnd U o U' L ({ frames := 1, cells := 0, slots := 0, locals := 12 } : Room).cells ({ frames := 1, cells := 0, slots := 0, locals := 12 } : Room).slots) := by
  refine MetFree.of_bodySF (plainFor_of_name pn_com_example_calm_balancer_calmbalancer_BundleRange) hisR ?_
  intro p e s m args below meth c s₁ Bd hml0 hP hK
  obtain ⟨rfl, hZ, hh⟩ := hP
  have hx := Bd.exec
  have hby := Bd.bytes
  have hml : c.maxLocals = 5 := hml0
  have hown : s.vm.findClass "com/example/calm_balancer/calmbalancer/BundleRange" = some m.cls := findClass_of_methodNamed Bd.named
  have hnm := (name_of_methodNamed Bd.named Bd.method).1
  have X0 : Stand p l e ({ frames := 1, cells := 0, slots := 0, locals := 12 } : Room) s m #[(.ref a1), (.long lo), (.long hi)] below meth c s₁ [] 0 0 := Stand.of_body Bd
  have e0 : s₁.heap = h0 := by rw [← hh, Bd.state]; rfl
  have N0 := Fr.nil n0
  have pre0 : ∀ t, Steps p.tables e below (s₁.setTop (mkF m 0 #[.val (.ref a1), .val (.long lo), .second, .val (.long hi), .second] [])) t → Steps p.tables e below (s₁.setTop (entryFrame m #[(.ref a1), (.long lo), (.long hi)] 5)) t := fun t kt => castTop (ef_rmB m a1 lo hi) kt
  have pre1 : ∀ t, Steps p.tables e below (s₁.setTop (mkF m 1 #[.val (.ref a1), .val (.long lo), .second, .val (.long hi), .second] [(.ref a1)])) t → Steps p.tables e below (s₁.setTop (entryFrame m #[(.ref a1), (.long lo), (.long hi)] 5)) t := fun t kt => pre0 t (by
    refine XS.aloadN X0.here hx rfl (hb hby d1_0) rfl rfl ?_
    show Steps p.tables e below (s₁.setTop (mkF m 1 #[.val (.ref a1), .val (.long lo), .second, .val (.long hi), .second] [(.ref a1)])) _
    exact kt)
  obtain ⟨T2, X2, e2, st2⟩ := initO X0 hx hZ hown (hw _ (List.mem_of_getElem? (i := 7) rfl)) (hw _ (List.mem_of_getElem? (i := 8) rfl)) (hw _ (List.mem_of_getElem? (i := 9) rfl)) e0 (g := (mkF m 1 #[.val (.ref a1), .val (.long lo), .second, .val (.long hi), .second] [(.ref a1)])) rfl (by rw [hml]; rfl) rfl (hb hby d1_1) (by decide) (W := 0) (by show 2 * 0 + _ ≤ _; exact Nat.le_of_eq rfl) (by decide)
  have pre3 : ∀ t, Steps p.tables e below (T2.setTop (mkF m 4 #[.val (.ref a1), .val (.long lo), .second, .val (.long hi), .second] [])) t → Steps p.tables e below (s₁.setTop (entryFrame m #[(.ref a1), (.long lo), (.long hi)] 5)) t := fun t kt => pre1 t (st2 _ kt)
  have pre4 : ∀ t, Steps p.tables e below (T2.setTop (mkF m 59 #[.val (.ref a1), .val (.long lo), .second, .val (.long hi), .second] [(.long lo), (.ref a1)])) t → Steps p.tables e below (s₁.setTop (entryFrame m #[(.ref a1), (.long lo), (.long hi)] 5)) t := fun t kt => pre3 t (by
    refine XS.lloadN X2.here hx rfl (hb hby d1_4) rfl ?_
    show Steps p.tables e below (T2.setTop (mkF m 5 #[.val (.ref a1), .val (.long lo), .second, .val (.long hi), .second] [(.long lo)])) _
    refine XS.lconst X2.here hx rfl (hb hby d1_5) ?_
    show Steps p.tables e below (T2.setTop (mkF m 6 #[.val (.ref a1), .val (.long lo), .second, .val (.long hi), .second] [(.long (0 : Int64)), (.long lo)])) _
    refine XS.lcmp X2.here hx rfl (hb hby d1_6) rfl ?_
    show Steps p.tables e below (T2.setTop (mkF m 7 #[.val (.ref a1), .val (.long lo), .second, .val (.long hi), .second] [(.int (lcmpW lo (0 : Int64)))])) _
    refine XS.ifNo X2.here hx rfl (hb hby d1_7) rfl ((if0 _ _).trans (flt (mt (lw_lt _ _).mp (q1 : ¬ (lo < (0 : Int64))))).1) ?_
    show Steps p.tables e below (T2.setTop (mkF m 10 #[.val (.ref a1), .val (.long lo), .second, .val (.long hi), .second] [])) _
    refine XS.lloadN X2.here hx rfl (hb hby d1_10) rfl ?_
    show Steps p.tables e below (T2.setTop (mkF m 11 #[.val (.ref a1), .val (.long lo), .second, .val (.long hi), .second] [(.long hi)])) _
    refine X2.ldc2Long hx hown (mvT hZ (hw _ (List.mem_of_getElem? (i := 10) rfl))) (g := (mkF m 11 #[.val (.ref a1), .val (.long lo), .second, .val (.long hi), .second] [(.long hi)])) rfl (hb hby d1_11) _ ?_
    show Steps p.tables e below (T2.setTop (mkF m 14 #[.val (.ref a1), .val (.long lo), .second, .val (.long hi), .second] [(.long (4294967295 : Int64)), (.long hi)])) _
    refine XS.lcmp X2.here hx rfl (hb hby d1_14) rfl ?_
    show Steps p.tables e below (T2.setTop (mkF m 15 #[.val (.ref a1), .val (.long lo), .second, .val (.long hi), .second] [(.int (lcmpW hi (4294967295 : Int64)))])) _
    refine XS.ifYes X2.here hx rfl (pc0 := 15) (pc' := 33) rfl (hb hby d1_15) rfl ((if0 _ _).trans (flt (mt (lw_gt _ _).mp (q2 : ¬ ((4294967295 : Int64) < hi)))).2.2.2) (by decide) (by decide) ?_
    show Steps p.tables e below (T2.setTop (mkF m 33 #[.val (.ref a1), .val (.long lo), .second, .val (.long hi), .second] [])) _
    refine XS.lloadN X2.here hx rfl (hb hby d1_33) rfl ?_
    show Steps p.tables e below (T2.setTop (mkF m 34 #[.val (.ref a1), .val (.long lo), .second, .val (.long hi), .second] [(.long lo)])) _
    refine XS.lloadN X2.here hx rfl (hb hby d1_34) rfl ?_
    show Steps p.tables e below (T2.setTop (mkF m 35 #[.val (.ref a1), .val (.long lo), .second, .val (.long hi), .second] [(.long hi), (.long lo)])) _
    refine XS.lcmp X2.here hx rfl (hb hby d1_35) rfl ?_
    show Steps p.tables e below (T2.setTop (mkF m 36 #[.val (.ref a1), .val (.long lo), .second, .val (.long hi), .second] [(.int (lcmpW lo hi))])) _
    refine XS.ifYes X2.here hx rfl (pc0 := 36) (pc' := 57) rfl (hb hby d1_36) rfl ((if0 _ _).trans (tlt ((lw_lt _ _).mpr (q3 : lo < hi))).1) (by decide) (by decide) ?_
    show Steps p.tables e below (T2.setTop (mkF m 57 #[.val (.ref a1), .val (.long lo), .second, .val (.long hi), .second] [])) _
    refine XS.aloadN X2.here hx rfl (hb hby d1_57) rfl rfl ?_
    show Steps p.tables e below (T2.setTop (mkF m 58 #[.val (.ref a1), .val (.long lo), .second, .val (.long hi), .second] [(.ref a1)])) _
    refine XS.lloadN X2.here hx rfl (hb hby d1_58) rfl ?_
    show Steps p.tables e below (T2.setTop (mkF m 59 #[.val (.ref a1), .val (.long lo), .second, .val (.long hi), .second] [(.long lo), (.ref a1)])) _
    exact kt)
  obtain ⟨T5, h5, X5, e5, W5, st5⟩ := putF X2 hx hZ hown (host := "") (Or.inl (hw _ (List.mem_of_getElem? (i := 11) rfl))) Via.refl e2 F1 E1 (Or.inr ⟨(hw _ (List.mem_of_getElem? (i := 12) rfl)), rfl, hnm⟩) (hw _ (List.mem_of_getElem? (i := 2) rfl)) (ty := .long) (by decide) rfl rfl (g := (mkF m 59 #[.val (.ref a1), .val (.long lo), .second, .val (.long hi), .second] [(.long lo), (.ref a1)])) rfl rfl (hb hby d1_59)
  have f6 := (E1).wr W5
  have f7 := ((Keep.refl h0 [a1])).wr W5 (Or.inl (List.mem_singleton.mpr rfl))
  have f8 := (F2).other W5 (Or.inr (slot_ne (Or.inr (hw _ (List.mem_of_getElem? (i := 14) rfl))) (Or.inr (hw _ (List.mem_of_getElem? (i := 12) rfl))) (by decide) (t := .long) (t' := .long) (by decide) (by decide)))
  have Fw5 := (F1).same W5
  have Nf9 := Fr.snoc X5 N0 g1
  have Zf10 : n0 ≤ h5.size := Nat.le_trans Z0 (Keep.of_wr W5).1
  have pre11 : ∀ t, Steps p.tables e below (T5.setTop (mkF m 62 #[.val (.ref a1), .val (.long lo), .second, .val (.long hi), .second] [])) t → Steps p.tables e below (s₁.setTop (entryFrame m #[(.ref a1), (.long lo), (.long hi)] 5)) t := fun t kt => pre4 t (st5 _ kt)
  have pre12 : ∀ t, Steps p.tables e below (T5.setTop (mkF m 64 #[.val (.ref a1), .val (.long lo), .second, .val (.long hi), .second] [(.long hi), (.ref a1)])) t → Steps p.tables e below (s₁.setTop (entryFrame m #[(.ref a1), (.long lo), (.long hi)] 5)) t := fun t kt => pre11 t (by
    refine XS.aloadN X5.here hx rfl (hb hby d1_62) rfl rfl ?_
    show Steps p.tables e below (T5.setTop (mkF m 63 #[.val (.ref a1), .val (.long lo), .second, .val (.long hi), .second] [(.ref a1)])) _
    refine XS.lloadN X5.here hx rfl (hb hby d1_63) rfl ?_
    show Steps p.tables e below (T5.setTop (mkF m 64 #[.val (.ref a1), .val (.long lo), .second, .val (.long hi), .second] [(.long hi), (.ref a1)])) _
    exact kt)
  obtain ⟨T13, h13, X13, e13, W13, st13⟩ := putF X5 hx hZ hown (host := "") (Or.inl (hw _ (List.mem_of_getElem? (i := 13) rfl))) Via.refl e5 f8 f6 (Or.inr ⟨(hw _ (List.mem_of_getElem? (i := 14) rfl)), rfl, hnm⟩) (hw _ (List.mem_of_getElem? (i := 2) rfl)) (ty := .long) (by decide) rfl rfl (g := (mkF m 64 #[.val (.ref a1), .val (.long lo), .second, .val (.long hi), .second] [(.long hi), (.ref a1)])) rfl rfl (hb hby d1_64)
  have f14 := (f6).wr W13
  have f15 := (f7).wr W13 (Or.inl (List.mem_singleton.mpr rfl))
  have f16 := (Fw5).other W13 (Or.inr (slot_ne (Or.inr (hw _ (List.mem_of_getElem? (i := 12) rfl))) (Or.inr (hw _ (List.mem_of_getElem? (i := 14) rfl))) (by decide) (t := .long) (t' := .long) (by decide) (by decide)))
  have Fw13 := (f8).same W13
  have Nf17 := Fr.snoc X13 Nf9 g1
  have Zf18 : n0 ≤ h13.size := Nat.le_trans Zf10 (Keep.of_wr W13).1
  have pre19 : ∀ t, Steps p.tables e below (T13.setTop (mkF m 67 #[.val (.ref a1), .val (.long lo), .second, .val (.long hi), .second] [])) t → Steps p.tables e below (s₁.setTop (entryFrame m #[(.ref a1), (.long lo), (.long hi)] 5)) t := fun t kt => pre12 t (st13 _ kt)
  obtain ⟨fs, hr, hrun, hended, hW, hsame⟩ := X13.leave (v := none) (fun _ => rfl)
  refine ⟨_, _, pre19 _ ?_, hrun, hended, _, _, rfl, ?_, ⟨_, rfl⟩, hW, hsame.mono (by decide) (by decide)⟩
  · exact X13.returnOut hx Bd.returns (hb hby d1_67) hr
  · show QB Z a1 lo hi h0 n0 _ T13.heap _
    rw [e13]
    exact ⟨rfl, Nf17, f15, f14, f16, Fw13⟩
def QN (Z : State) (a1 : Addr) (h0 : Heap) (n0 : Nat) (v : Option Value) (h : Heap) (L : List Loc) : Prop := v = none ∧ Fr n0 L ∧ h = h0
theorem ef_rmN (m : MethodId) (x0 : Addr) : entryFrame m #[(.ref x0)] 1 = mkF m 0 #[.val (.ref x0)] [] := by first | (simp [entryFrame, mkF, argsToLocals, Value.category]; done) | rfl
theorem pn_java_lang_Number : plainName "java/lang/Number" = true := by first | (simp [plainName, overriddenIn]; done) | decide +kernel
theorem d6_0 : decode jdk_18_method_1_code 0 = .ok (.aload_n 0, 1) := by decide +kernel
theorem d6_1 : decode jdk_18_method_1_code 1 = .ok (.invokespecial 1, 3) := by decide +kernel
theorem d6_4 : decode jdk_18_method_1_code 4 = .ok (.return_, 1) := by decide +kernel
set_option maxRecDepth 65536 in
set_option maxHeartbeats 40000000 in
theorem rmN (l : Launch) (Z : State) (a0 : Array Value) (hw : ∀ d ∈ tables_1, d.before a0 Z = true) (ws : List Jvm.Cond) (a1 : Addr) (h0 : Heap) (n0 : Nat) (Z0 : n0 ≤ h0.size)  :
    MetFree l (⟨"java/lang/Number", "<init>", "()V"⟩ : MethodName) (head1 (Jvm.Cond.code (⟨"java/lang/Number", "<init>", "()V"⟩ : MethodName) jdk_18_method_1_code 1 none :: ws) ({ frames := 1, cells := 0, slots := 0, locals := 12 } : Room)) (fun a U => a = #[(.ref a1)] ∧ Z.Warmed39 U.vm ∧ U.heap = h0) (fun _ _ _ _ _ => True) (fun _ U o U' => ∃ v L, o = .returned v ∧ QN Z a1 h0 n0 v U'.heap L ∧ FrameEnd U o U' L ({ frames := 1, cells := 0, slots := 0, locals := 12 } : Room).cells ({ frames := 1, cells := 0, slots := 0, locals := 12 } : Room).slots) := by
  refine MetFree.of_bodySF (plainFor_of_name pn_java_lang_Number) hisR ?_
  intro p e s m args below meth c s₁ Bd hml0 hP hK
  obtain ⟨rfl, hZ, hh⟩ := hP
  have hx := Bd.exec
  have hby := Bd.bytes
  have hml : c.maxLocals = 1 := hml0
  have hown : s.vm.findClass "java/lang/Number" = some m.cls := findClass_of_methodNamed Bd.named
  have hnm := (name_of_methodNamed Bd.named Bd.method).1
  have X0 : Stand p l e ({ frames := 1, cells := 0, slots := 0, locals := 12 } : Room) s m #[(.ref a1)] below meth c s₁ [] 0 0 := Stand.of_body Bd
  have e0 : s₁.heap = h0 := by rw [← hh, Bd.state]; rfl
  have N0 := Fr.nil n0
  have pre0 : ∀ t, Steps p.tables e below (s₁.setTop (mkF m 0 #[.val (.ref a1)] [])) t → Steps p.tables e below (s₁.setTop (entryFrame m #[(.ref a1)] 1)) t := fun t kt => castTop (ef_rmN m a1) kt
  have pre1 : ∀ t, Steps p.tables e below (s₁.setTop (mkF m 1 #[.val (.ref a1)] [(.ref a1)])) t → Steps p.tables e below (s₁.setTop (entryFrame m #[(.ref a1)] 1)) t := fun t kt => pre0 t (by
    refine XS.aloadN X0.here hx rfl (hb hby d6_0) rfl rfl ?_
    show Steps p.tables e below (s₁.setTop (mkF m 1 #[.val (.ref a1)] [(.ref a1)])) _
    exact kt)
  obtain ⟨T2, X2, e2, st2⟩ := initO X0 hx hZ hown (hw _ (List.mem_of_getElem? (i := 45) rfl)) (hw _ (List.mem_of_getElem? (i := 8) rfl)) (hw _ (List.mem_of_getElem? (i := 9) rfl)) e0 (g := (mkF m 1 #[.val (.ref a1)] [(.ref a1)])) rfl (by rw [hml]; rfl) rfl (hb hby d6_1) (by decide) (W := 0) (by show 2 * 0 + _ ≤ _; exact Nat.le_of_eq rfl) (by decide)
  have pre3 : ∀ t, Steps p.tables e below (T2.setTop (mkF m 4 #[.val (.ref a1)] [])) t → Steps p.tables e below (s₁.setTop (entryFrame m #[(.ref a1)] 1)) t := fun t kt => pre1 t (st2 _ kt)
  obtain ⟨fs, hr, hrun, hended, hW, hsame⟩ := X2.leave (v := none) (fun _ => rfl)
  refine ⟨_, _, pre3 _ ?_, hrun, hended, _, _, rfl, ?_, ⟨_, rfl⟩, hW, hsame.mono (by decide) (by decide)⟩
  · exact X2.returnOut hx Bd.returns (hb hby d6_4) hr
  · show QN Z a1 h0 n0 _ T2.heap _
    rw [e2]
    exact ⟨rfl, N0, rfl⟩
def QJ (Z : State) (a1 : Addr) (x : Int64) (h0 : Heap) (n0 : Nat) (v : Option Value) (h : Heap) (L : List Loc) : Prop := v = none ∧ Fr n0 L ∧ Keep h0 h [a1] ∧ Exa Z h a1 "java/lang/Long"
theorem ef_rmJ (m : MethodId) (x0 : Addr) (x1 : Int64) : entryFrame m #[(.ref x0), (.long x1)] 3 = mkF m 0 #[.val (.ref x0), .val (.long x1), .second] [] := by first | (simp [entryFrame, mkF, argsToLocals, Value.category]; done) | rfl
theorem pn_java_lang_Long : plainName "java/lang/Long" = true := by first | (simp [plainName, overriddenIn]; done) | decide +kernel
theorem d5_0 : decode jdk_35_method_26_code 0 = .ok (.aload_n 0, 1) := by decide +kernel
theorem pd__28_29V : parseMethodDescriptor "()V" = some ⟨[], none⟩ := by decide +kernel
theorem d5_1 : decode jdk_35_method_26_code 1 = .ok (.invokespecial 270, 3) := by decide +kernel
theorem d5_4 : decode jdk_35_method_26_code 4 = .ok (.aload_n 0, 1) := by decide +kernel
theorem d5_5 : decode jdk_35_method_26_code 5 = .ok (.lload_n 1, 1) := by decide +kernel
theorem d5_6 : decode jdk_35_method_26_code 6 = .ok (.putfield 273, 3) := by decide +kernel
theorem d5_9 : decode jdk_35_method_26_code 9 = .ok (.return_, 1) := by decide +kernel
set_option maxRecDepth 65536 in
set_option maxHeartbeats 40000000 in
theorem rmJ (l : Launch) (Z : State) (a0 : Array Value) (hw : ∀ d ∈ tables_1, d.before a0 Z = true) (ws : List Jvm.Cond) (a1 : Addr) (x : Int64) (u1 : Value) (h0 : Heap) (n0 : Nat) (Z0 : n0 ≤ h0.size) (E1 : Exa Z h0 a1 "java/lang/Long") (g1 : n0 ≤ a1) (F1 : Fld Z h0 a1 "java/lang/Long" "value" "J" u1) :
    MetFree l (⟨"java/lang/Long", "<init>", "(J)V"⟩ : MethodName) (head1 (Jvm.Cond.code (⟨"java/lang/Long", "<init>", "(J)V"⟩ : MethodName) jdk_35_method_26_code 3 none :: ws) ({ frames := 2, cells := 0, slots := 0, locals := 24 } : Room)) (fun a U => a = #[(.ref a1), (.long x)] ∧ Z.Warmed39 U.vm ∧ U.heap = h0) (fun _ _ _ _ _ => True) (fun _ U o U' => ∃ v L, o = .returned v ∧ QJ Z a1 x h0 n0 v U'.heap L ∧ FrameEnd U o U' L ({ frames := 2, cells := 0, slots := 0, locals := 24 } : Room).cells ({ frames := 2, cells := 0, slots := 0, locals := 24 } : Room).slots) := by
  refine MetFree.of_bodySF (plainFor_of_name pn_java_lang_Long) hisR ?_
  intro p e s m args below meth c s₁ Bd hml0 hP hK
  obtain ⟨rfl, hZ, hh⟩ := hP
  have hx := Bd.exec
  have hby := Bd.bytes
  have hml : c.maxLocals = 3 := hml0
  have hown : s.vm.findClass "java/lang/Long" = some m.cls := findClass_of_methodNamed Bd.named
  have hnm := (name_of_methodNamed Bd.named Bd.method).1
  have X0 : Stand p l e ({ frames := 2, cells := 0, slots := 0, locals := 24 } : Room) s m #[(.ref a1), (.long x)] below meth c s₁ [] 0 0 := Stand.of_body Bd
  have e0 : s₁.heap = h0 := by rw [← hh, Bd.state]; rfl
  have N0 := Fr.nil n0
  have pre0 : ∀ t, Steps p.tables e below (s₁.setTop (mkF m 0 #[.val (.ref a1), .val (.long x), .second] [])) t → Steps p.tables e below (s₁.setTop (entryFrame m #[(.ref a1), (.long x)] 3)) t := fun t kt => castTop (ef_rmJ m a1 x) kt
  have pre1 : ∀ t, Steps p.tables e below (s₁.setTop (mkF m 1 #[.val (.ref a1), .val (.long x), .second] [(.ref a1)])) t → Steps p.tables e below (s₁.setTop (entryFrame m #[(.ref a1), (.long x)] 3)) t := fun t kt => pre0 t (by
    refine XS.aloadN X0.here hx rfl (hb hby d5_0) rfl rfl ?_
    show Steps p.tables e below (s₁.setTop (mkF m 1 #[.val (.ref a1), .val (.long x), .second] [(.ref a1)])) _
    exact kt)
  obtain ⟨_, _, ⟨T2, L2, k2, n2⟩, -, X2, ⟨Lc2, hQ2, l2, y2, z2⟩, st2⟩ := X0.specialBack hx (y := (⟨"java/lang/Number", "<init>", "()V"⟩ : MethodName)) rfl hown (mvT hZ (hw _ (List.mem_of_getElem? (i := 39) rfl))) (mvT hZ (hw _ (List.mem_of_getElem? (i := 40) rfl))) (mvT hZ (hw _ (List.mem_of_getElem? (i := 44) rfl))) (by decide) (backOf (W := 0) (rmN l Z a0 hw [] a1 h0 n0 Z0) hZ (hw _ (List.mem_of_getElem? (i := 44) rfl)) (hw _ (List.mem_of_getElem? (i := 43) rfl)) (by decide) (by decide)) (g := (mkF m 1 #[.val (.ref a1), .val (.long x), .second] [(.ref a1)])) rfl (by rw [hml]; rfl) (Steps.refl _) (a := a1) (argsL := []) (rest := []) (lenOf pd__28_29V rfl) rfl (by show 2 * 0 + _ ≤ _; exact Nat.le_of_eq rfl) (hb hby d5_1) (fun _ _ => ⟨rfl, e0, (by decide : 0 + 0 ≤ _), (by decide : 0 + 0 ≤ _)⟩)
  dsimp only [Pt.U, Pt.locs, Pt.cells, Pt.slots] at X2 l2 y2 z2 st2 hQ2
  subst l2 y2 z2
  obtain ⟨rfl, N2q, e2q⟩ := hQ2
  have N2 := Fr.app N0 N2q
  have pre3 : ∀ t, Steps p.tables e below (T2.setTop (mkF m 4 #[.val (.ref a1), .val (.long x), .second] [])) t → Steps p.tables e below (s₁.setTop (entryFrame m #[(.ref a1), (.long x)] 3)) t := fun t kt => pre1 t (st2.trans kt)
  have pre4 : ∀ t, Steps p.tables e below (T2.setTop (mkF m 6 #[.val (.ref a1), .val (.long x), .second] [(.long x), (.ref a1)])) t → Steps p.tables e below (s₁.setTop (entryFrame m #[(.ref a1), (.long x)] 3)) t := fun t kt => pre3 t (by
    refine XS.aloadN X2.here hx rfl (hb hby d5_4) rfl rfl ?_
    show Steps p.tables e below (T2.setTop (mkF m 5 #[.val (.ref a1), .val (.long x), .second] [(.ref a1)])) _
    refine XS.lloadN X2.here hx rfl (hb hby d5_5) rfl ?_
    show Steps p.tables e below (T2.setTop (mkF m 6 #[.val (.ref a1), .val (.long x), .second] [(.long x), (.ref a1)])) _
    exact kt)
  obtain ⟨T5, h5, X5, e5, W5, st5⟩ := putF X2 hx hZ hown (host := "") (Or.inl (hw _ (List.mem_of_getElem? (i := 46) rfl))) Via.refl e2q F1 E1 (Or.inr ⟨(hw _ (List.mem_of_getElem? (i := 47) rfl)), rfl, hnm⟩) (hw _ (List.mem_of_getElem? (i := 34) rfl)) (ty := .long) (by decide) rfl rfl (g := (mkF m 6 #[.val (.ref a1), .val (.long x), .second] [(.long x), (.ref a1)])) rfl rfl (hb hby d5_6)
  have f6 := (E1).wr W5
  have f7 := ((Keep.refl h0 [a1])).wr W5 (Or.inl (List.mem_singleton.mpr rfl))
  have Fw5 := (F1).same W5
  have Nf8 := Fr.snoc X5 N2 g1
  have Zf9 : n0 ≤ h5.size := Nat.le_trans Z0 (Keep.of_wr W5).1
  have pre10 : ∀ t, Steps p.tables e below (T5.setTop (mkF m 9 #[.val (.ref a1), .val (.long x), .second] [])) t → Steps p.tables e below (s₁.setTop (entryFrame m #[(.ref a1), (.long x)] 3)) t := fun t kt => pre4 t (st5 _ kt)
  obtain ⟨fs, hr, hrun, hended, hW, hsame⟩ := X5.leave (v := none) (fun _ => rfl)
  refine ⟨_, _, pre10 _ ?_, hrun, hended, _, _, rfl, ?_, ⟨_, rfl⟩, hW, hsame.mono (by decide) (by decide)⟩
  · exact X5.returnOut hx Bd.returns (hb hby d5_9) hr
  · show QJ Z a1 x h0 n0 _ T5.heap _
    rw [e5]
    exact ⟨rfl, Nf8, f7, f6⟩
def QV (Z : State) (h0 : Heap) (n0 : Nat) (v : Option Value) (h : Heap) (L : List Loc) : Prop := ∃ b : Addr, v = some (.ref b) ∧ Fr n0 L ∧ Keep h0 h [] ∧ Exa Z h b "java/lang/Long"
theorem ef_rmV (m : MethodId) (x0 : Int64) : entryFrame m #[(.long x0)] 3 = mkF m 0 #[.val (.long x0), .second, .unset] [] := by first | (simp [entryFrame, mkF, argsToLocals, Value.category]; done) | rfl
theorem d3_0 : decode jdk_35_method_24_code 0 = .ok (.sipush 128, 3) := by decide +kernel
theorem d3_3 : decode jdk_35_method_24_code 3 = .ok (.istore_n 2, 1) := by decide +kernel
theorem d3_4 : decode jdk_35_method_24_code 4 = .ok (.lload_n 0, 1) := by decide +kernel
theorem d3_5 : decode jdk_35_method_24_code 5 = .ok (.ldc2_w 230, 3) := by decide +kernel
theorem d3_8 : decode jdk_35_method_24_code 8 = .ok (.lcmp, 1) := by decide +kernel
theorem d3_9 : decode jdk_35_method_24_code 9 = .ok (.ifCond .lt 22, 3) := by decide +kernel
theorem d3_12 : decode jdk_35_method_24_code 12 = .ok (.lload_n 0, 1) := by decide +kernel
theorem d3_13 : decode jdk_35_method_24_code 13 = .ok (.ldc2_w 232, 3) := by decide +kernel
theorem d3_16 : decode jdk_35_method_24_code 16 = .ok (.lcmp, 1) := by decide +kernel
theorem d3_17 : decode jdk_35_method_24_code 17 = .ok (.ifCond .gt 14, 3) := by decide +kernel
theorem d3_31 : decode jdk_35_method_24_code 31 = .ok (.new 1, 3) := by decide +kernel
theorem d3_34 : decode jdk_35_method_24_code 34 = .ok (.dup, 1) := by decide +kernel
theorem d3_35 : decode jdk_35_method_24_code 35 = .ok (.lload_n 0, 1) := by decide +kernel
theorem pd__28J_29V : parseMethodDescriptor "(J)V" = some ⟨[.long], none⟩ := by decide +kernel
theorem d3_36 : decode jdk_35_method_24_code 36 = .ok (.invokespecial 240, 3) := by decide +kernel
theorem d3_39 : decode jdk_35_method_24_code 39 = .ok (.areturn, 1) := by decide +kernel
theorem d3_20 : decode jdk_35_method_24_code 20 = .ok (.getstatic 234, 3) := by decide +kernel
theorem d3_23 : decode jdk_35_method_24_code 23 = .ok (.lload_n 0, 1) := by decide +kernel
theorem d3_24 : decode jdk_35_method_24_code 24 = .ok (.l2i, 1) := by decide +kernel
theorem d3_25 : decode jdk_35_method_24_code 25 = .ok (.sipush 128, 3) := by decide +kernel
theorem d3_28 : decode jdk_35_method_24_code 28 = .ok (.iadd, 1) := by decide +kernel
theorem d3_29 : decode jdk_35_method_24_code 29 = .ok (.aaload, 1) := by decide +kernel
theorem d3_30 : decode jdk_35_method_24_code 30 = .ok (.areturn, 1) := by decide +kernel
set_option maxRecDepth 65536 in
set_option maxHeartbeats 40000000 in
theorem rmV (l : Launch) (Z : State) (a0 : Array Value) (hw : ∀ d ∈ tables_1, d.before a0 Z = true) (ws : List Jvm.Cond) (x : Int64) (wc : Addr) (cl : Cell) (h0 : Heap) (n0 : Nat) (Z0 : n0 ≤ h0.size) (q0 : 0 ≤ x.toInt) (S0 : Sta Z h0 "java/lang/Long$LongCache" "cache" "[Ljava/lang/Long;" (.ref wc)) (CC : Cache Z h0 wc cl) :
    MetFree l (⟨"java/lang/Long", "valueOf", "(J)Ljava/lang/Long;"⟩ : MethodName) (head1 (Jvm.Cond.code (⟨"java/lang/Long", "valueOf", "(J)Ljava/lang/Long;"⟩ : MethodName) jdk_35_method_24_code 3 (some (.object "java/lang/Long")) :: ws) ({ frames := 3, cells := 1, slots := 1, locals := 40 } : Room)) (fun a U => a = #[(.long x)] ∧ Z.Warmed39 U.vm ∧ U.heap = h0) (fun _ _ _ _ _ => True) (fun _ U o U' => ∃ v L, o = .returned v ∧ QV Z  h0 n0 v U'.heap L ∧ FrameEnd U o U' L ({ frames := 3, cells := 1, slots := 1, locals := 40 } : Room).cells ({ frames := 3, cells := 1, slots := 1, locals := 40 } : Room).slots) := by
  refine MetFree.of_bodySF (plainFor_of_name pn_java_lang_Long) hisR ?_
  intro p e s m args below meth c s₁ Bd hml0 hP hK
  obtain ⟨rfl, hZ, hh⟩ := hP
  have hx := Bd.exec
  have hby := Bd.bytes
  have hml : c.maxLocals = 3 := hml0
  have hown : s.vm.findClass "java/lang/Long" = some m.cls := findClass_of_methodNamed Bd.named
  have hnm := (name_of_methodNamed Bd.named Bd.method).1
  have X0 : Stand p l e ({ frames := 3, cells := 1, slots := 1, locals := 40 } : Room) s m #[(.long x)] below meth c s₁ [] 0 0 := Stand.of_body Bd
  have e0 : s₁.heap = h0 := by rw [← hh, Bd.state]; rfl
  have N0 := Fr.nil n0
  have pre0 : ∀ t, Steps p.tables e below (s₁.setTop (mkF m 0 #[.val (.long x), .second, .unset] [])) t → Steps p.tables e below (s₁.setTop (entryFrame m #[(.long x)] 3)) t := fun t kt => castTop (ef_rmV m x) kt
  have pre1 : ∀ t, Steps p.tables e below (s₁.setTop (mkF m 17 #[.val (.long x), .second, .val (.int (128 : Int32))] [(.int (lcmpW x (127 : Int64)))])) t → Steps p.tables e below (s₁.setTop (entryFrame m #[(.long x)] 3)) t := fun t kt => pre0 t (by
    refine XS.sipush X0.here hx rfl (hb hby d3_0) ?_
    show Steps p.tables e below (s₁.setTop (mkF m 3 #[.val (.long x), .second, .unset] [(.int (128 : Int32))])) _
    refine XS.istoreN X0.here hx rfl (hb hby d3_3) rfl (l' := #[.val (.long x), .second, .val (.int (128 : Int32))]) rfl ?_
    show Steps p.tables e below (s₁.setTop (mkF m 4 #[.val (.long x), .second, .val (.int (128 : Int32))] [])) _
    refine XS.lloadN X0.here hx rfl (hb hby d3_4) rfl ?_
    show Steps p.tables e below (s₁.setTop (mkF m 5 #[.val (.long x), .second, .val (.int (128 : Int32))] [(.long x)])) _
    refine X0.ldc2Long hx hown (mvT hZ (hw _ (List.mem_of_getElem? (i := 19) rfl))) (g := (mkF m 5 #[.val (.long x), .second, .val (.int (128 : Int32))] [(.long x)])) rfl (hb hby d3_5) _ ?_
    show Steps p.tables e below (s₁.setTop (mkF m 8 #[.val (.long x), .second, .val (.int (128 : Int32))] [(.long (-128 : Int64)), (.long x)])) _
    refine XS.lcmp X0.here hx rfl (hb hby d3_8) rfl ?_
    show Steps p.tables e below (s₁.setTop (mkF m 9 #[.val (.long x), .second, .val (.int (128 : Int32))] [(.int (lcmpW x (-128 : Int64)))])) _
    refine XS.ifNo X0.here hx rfl (hb hby d3_9) rfl ((if0 _ _).trans (flt (mt (lw_lt _ _).mp (by rw [Int64.lt_iff_toInt_lt]; have e : (-128 : Int64).toInt = -128 := rfl; omega : ¬ (x < (-128 : Int64))))).1) ?_
    show Steps p.tables e below (s₁.setTop (mkF m 12 #[.val (.long x), .second, .val (.int (128 : Int32))] [])) _
    refine XS.lloadN X0.here hx rfl (hb hby d3_12) rfl ?_
    show Steps p.tables e below (s₁.setTop (mkF m 13 #[.val (.long x), .second, .val (.int (128 : Int32))] [(.long x)])) _
    refine X0.ldc2Long hx hown (mvT hZ (hw _ (List.mem_of_getElem? (i := 20) rfl))) (g := (mkF m 13 #[.val (.long x), .second, .val (.int (128 : Int32))] [(.long x)])) rfl (hb hby d3_13) _ ?_
    show Steps p.tables e below (s₁.setTop (mkF m 16 #[.val (.long x), .second, .val (.int (128 : Int32))] [(.long (127 : Int64)), (.long x)])) _
    refine XS.lcmp X0.here hx rfl (hb hby d3_16) rfl ?_
    show Steps p.tables e below (s₁.setTop (mkF m 17 #[.val (.long x), .second, .val (.int (128 : Int32))] [(.int (lcmpW x (127 : Int64)))])) _
    exact kt)
  by_cases c17_1 : (127 : Int64) < x
  · have pre2 : ∀ t, Steps p.tables e below (s₁.setTop (mkF m 31 #[.val (.long x), .second, .val (.int (128 : Int32))] [])) t → Steps p.tables e below (s₁.setTop (entryFrame m #[(.long x)] 3)) t := fun t kt => pre1 t (by
      refine XS.ifYes X0.here hx rfl (pc0 := 17) (pc' := 31) rfl (hb hby d3_17) rfl ((if0 _ _).trans (tlt ((lw_gt _ _).mpr c17_1)).2.2.1) (by decide) (by decide) ?_
      show Steps p.tables e below (s₁.setTop (mkF m 31 #[.val (.long x), .second, .val (.int (128 : Int32))] [])) _
      exact kt)
    obtain ⟨T3, h3, X3, e3, E3, A3, D3, -, st3⟩ := newO X0 hx hZ hown (hw _ (List.mem_of_getElem? (i := 33) rfl)) (hw _ (List.mem_of_getElem? (i := 34) rfl)) (hw _ (List.mem_of_getElem? (i := 17) rfl)) e0 (g := (mkF m 31 #[.val (.long x), .second, .val (.int (128 : Int32))] [])) rfl (hb hby d3_31) (by decide) (by decide)
    obtain ⟨b3, g3⟩ : ∃ z, z = h0.size := ⟨_, rfl⟩
    rw [← g3] at A3 D3 st3
    have gz4 : n0 ≤ b3 := Nat.le_trans Z0 (Nat.le_of_eq g3.symm)
    have f6 := (S0).ext E3
    have f7 := ((Keep.refl h0 [])).ext E3
    have Zf8 : n0 ≤ h3.size := Nat.le_trans Z0 E3.1
    have F3_value : Fld Z h3 b3 "java/lang/Long" "value" "J" (.long (0 : Int64)) := D3 (Or.inr (hw _ (List.mem_of_getElem? (i := 47) rfl))) (ty := .long) (by decide)
    have pre9 : ∀ t, Steps p.tables e below (T3.setTop (mkF m 34 #[.val (.long x), .second, .val (.int (128 : Int32))] [(.ref b3)])) t → Steps p.tables e below (s₁.setTop (entryFrame m #[(.long x)] 3)) t := fun t kt => pre2 t (st3 _ kt)
    have pre10 : ∀ t, Steps p.tables e below (T3.setTop (mkF m 36 #[.val (.long x), .second, .val (.int (128 : Int32))] [(.long x), (.ref b3), (.ref b3)])) t → Steps p.tables e below (s₁.setTop (entryFrame m #[(.long x)] 3)) t := fun t kt => pre9 t (by
      refine XS.dup X3.here hx rfl (hb hby d3_34) rfl rfl ?_
      show Steps p.tables e below (T3.setTop (mkF m 35 #[.val (.long x), .second, .val (.int (128 : Int32))] [(.ref b3), (.ref b3)])) _
      refine XS.lloadN X3.here hx rfl (hb hby d3_35) rfl ?_
      show Steps p.tables e below (T3.setTop (mkF m 36 #[.val (.long x), .second, .val (.int (128 : Int32))] [(.long x), (.ref b3), (.ref b3)])) _
      exact kt)
    obtain ⟨_, _, ⟨T11, L11, k11, n11⟩, -, X11, ⟨Lc11, hQ11, l11, y11, z11⟩, st11⟩ := X3.specialBack hx (y := (⟨"java/lang/Long", "<init>", "(J)V"⟩ : MethodName)) rfl hown (mvT hZ (hw _ (List.mem_of_getElem? (i := 35) rfl))) (mvT hZ (hw _ (List.mem_of_getElem? (i := 36) rfl))) (mvT hZ (hw _ (List.mem_of_getElem? (i := 38) rfl))) (by decide) (backOf (W := 1) (rmJ l Z a0 hw [] b3 x _ h3 n0 Zf8 A3 gz4 F3_value) hZ (hw _ (List.mem_of_getElem? (i := 38) rfl)) (hw _ (List.mem_of_getElem? (i := 17) rfl)) (by decide) (by decide)) (g := (mkF m 36 #[.val (.long x), .second, .val (.int (128 : Int32))] [(.long x), (.ref b3), (.ref b3)])) rfl (by rw [hml]; rfl) (Steps.refl _) (a := b3) (argsL := [(.long x)]) (rest := [(.ref b3)]) (lenOf pd__28J_29V rfl) rfl (by show 2 * 0 + _ ≤ _; exact Nat.le_of_eq rfl) (hb hby d3_36) (fun _ _ => ⟨rfl, e3, (by decide : 1 + 0 ≤ _), (by decide : 1 + 0 ≤ _)⟩)
    dsimp only [Pt.U, Pt.locs, Pt.cells, Pt.slots] at X11 l11 y11 z11 st11 hQ11
    subst l11 y11 z11
    obtain ⟨rfl, N11q, K11, E11x⟩ := hQ11
    have N11 := Fr.app N0 N11q
    have f12 := (f7).trans K11 (own_all1 ((Or.inr (Nat.le_trans ((Keep.refl h0 [])).1 (Nat.le_of_eq g3.symm)))))
    have f13 := (A3).keep K11
    have Zf14 : n0 ≤ T11.heap.size := Nat.le_trans Zf8 (K11).1
    have pre15 : ∀ t, Steps p.tables e below (T11.setTop (mkF m 39 #[.val (.long x), .second, .val (.int (128 : Int32))] [(.ref b3)])) t → Steps p.tables e below (s₁.setTop (entryFrame m #[(.long x)] 3)) t := fun t kt => pre10 t (st11.trans kt)
    obtain ⟨fs, hr, hrun, hended, hW, hsame⟩ := X11.leave (v := (some (.ref b3))) (fun h => by rw [Bd.returns] at h; cases h)
    refine ⟨_, _, pre15 _ ?_, hrun, hended, _, _, rfl, ?_, ⟨_, rfl⟩, hW, hsame.mono (by decide) (by decide)⟩
    · exact retOut X11 hx Bd.returns rfl (Or.inr (Or.inr (Or.inr (Or.inr ⟨rfl, rfl, rfl⟩)))) (hb hby d3_39) hr
    · show QV Z  h0 n0 _ T11.heap _
      exact ⟨_, rfl, N11, f12, f13⟩
  · have pre17 : ∀ t, Steps p.tables e below (s₁.setTop (mkF m 20 #[.val (.long x), .second, .val (.int (128 : Int32))] [])) t → Steps p.tables e below (s₁.setTop (entryFrame m #[(.long x)] 3)) t := fun t kt => pre1 t (by
      refine XS.ifNo X0.here hx rfl (hb hby d3_17) rfl ((if0 _ _).trans (flt (mt (lw_gt _ _).mp c17_1)).2.2.1) ?_
      show Steps p.tables e below (s₁.setTop (mkF m 20 #[.val (.long x), .second, .val (.int (128 : Int32))] [])) _
      exact kt)
    obtain ⟨T18, X18, e18, st18⟩ := getS2 X0 hx hZ hown (host := "") (Or.inl (hw _ (List.mem_of_getElem? (i := 21) rfl))) Via.refl e0 S0 (g := (mkF m 20 #[.val (.long x), .second, .val (.int (128 : Int32))] [])) rfl (hb hby d3_20)
    have pre19 : ∀ t, Steps p.tables e below (T18.setTop (mkF m 23 #[.val (.long x), .second, .val (.int (128 : Int32))] [(.ref wc)])) t → Steps p.tables e below (s₁.setTop (entryFrame m #[(.long x)] 3)) t := fun t kt => pre17 t (st18 _ kt)
    have pre20 : ∀ t, Steps p.tables e below (T18.setTop (mkF m 29 #[.val (.long x), .second, .val (.int (128 : Int32))] [(.int (x.toInt32 + (128 : Int32))), (.ref wc)])) t → Steps p.tables e below (s₁.setTop (entryFrame m #[(.long x)] 3)) t := fun t kt => pre19 t (by
      refine XS.lloadN X18.here hx rfl (hb hby d3_23) rfl ?_
      show Steps p.tables e below (T18.setTop (mkF m 24 #[.val (.long x), .second, .val (.int (128 : Int32))] [(.long x), (.ref wc)])) _
      refine XS.l2i X18.here hx rfl (hb hby d3_24) rfl ?_
      show Steps p.tables e below (T18.setTop (mkF m 25 #[.val (.long x), .second, .val (.int (128 : Int32))] [(.int x.toInt32), (.ref wc)])) _
      refine XS.sipush X18.here hx rfl (hb hby d3_25) ?_
      show Steps p.tables e below (T18.setTop (mkF m 28 #[.val (.long x), .second, .val (.int (128 : Int32))] [(.int (128 : Int32)), (.int x.toInt32), (.ref wc)])) _
      refine XS.iadd X18.here hx rfl (hb hby d3_28) rfl ?_
      show Steps p.tables e below (T18.setTop (mkF m 29 #[.val (.long x), .second, .val (.int (128 : Int32))] [(.int (x.toInt32 + (128 : Int32))), (.ref wc)])) _
      exact kt)
    have hj : ((x.toInt32 + (128 : Int32))).toInt = x.toInt + 128 := by
      have i1 := mt Int64.lt_iff_toInt_lt.mpr c17_1
      have e1 : (127 : Int64).toInt = 127 := rfl
      have s1 := c_l2i x
      have s2 := c_iadd x.toInt32 (128 : Int32)
      have e2 : (128 : Int32).toInt = 128 := rfl
      have r1 := rng32 x.toInt32
      have r2 := rng32 (x.toInt32 + (128 : Int32))
      omega
    have hj2 : ((x.toInt32 + (128 : Int32))).toNatClampNeg < 256 := by
      have i1 := mt Int64.lt_iff_toInt_lt.mpr c17_1
      have e1 : (127 : Int64).toInt = 127 := rfl
      simp only [Int32.toNatClampNeg]; omega
    obtain ⟨b, hb1, hb2⟩ := CC.2.2 _ hj2
    have hin : ¬ ((x.toInt32 + (128 : Int32)) < 0 ∨ cl.slots.size ≤ ((x.toInt32 + (128 : Int32))).toNatClampNeg) := by
      rw [CC.2.1, Int32.lt_iff_toInt_lt, hj]; have e0 : (0 : Int32).toInt = 0 := rfl; omega
    have pre21 : ∀ t, Steps p.tables e below (T18.setTop (mkF m 30 #[.val (.long x), .second, .val (.int (128 : Int32))] [(.ref b)])) t → Steps p.tables e below (s₁.setTop (entryFrame m #[(.long x)] 3)) t := fun t kt => pre20 t (X18.aaload hx (j := (x.toInt32 + (128 : Int32))) (v := .ref b) (by rw [e18]; exact CC.1.1) (State.isArrayOf_alike hZ.alike CC.1.2.1) rfl CC.1.2.2 hin hb1 (g := (mkF m 29 #[.val (.long x), .second, .val (.int (128 : Int32))] [(.int (x.toInt32 + (128 : Int32))), (.ref wc)])) rfl rfl (hb hby d3_29) _ kt)
    obtain ⟨fs, hr, hrun, hended, hW, hsame⟩ := X18.leave (v := (some (.ref b))) (fun h => by rw [Bd.returns] at h; cases h)
    refine ⟨_, _, pre21 _ ?_, hrun, hended, _, _, rfl, ?_, ⟨_, rfl⟩, hW, hsame.mono (by decide) (by decide)⟩
    · exact retOut X18 hx Bd.returns rfl (Or.inr (Or.inr (Or.inr (Or.inr ⟨rfl, rfl, rfl⟩)))) (hb hby d3_30) hr
    · show QV Z  h0 n0 _ T18.heap _
      rw [e18]
      exact ⟨_, rfl, N0, (Keep.refl h0 []), hb2⟩
def QE (Z : State) (lo hi lo2 hi2 : Int64) (h0 : Heap) (n0 : Nat) (v : Option Value) (h : Heap) (L : List Loc) : Prop := v = some (.int (if lo = lo2 then (if hi = hi2 then (1 : Int32) else (0 : Int32)) else (0 : Int32))) ∧ Fr n0 L ∧ h = h0
theorem ef_rmE (m : MethodId) (x0 : Addr) (x1 : Addr) : entryFrame m #[(.ref x0), (.ref x1)] 3 = mkF m 0 #[.val (.ref x0), .val (.ref x1), .unset] [] := by first | (simp [entryFrame, mkF, argsToLocals, Value.category]; done) | rfl
theorem d4_0 : decode prog_5_method_14_code 0 = .ok (.aload_n 1, 1) := by decide +kernel
theorem d4_1 : decode prog_5_method_14_code 1 = .ok (.instanceof 1, 3) := by decide +kernel
theorem d4_4 : decode prog_5_method_14_code 4 = .ok (.ifCond .eq 11, 3) := by decide +kernel
theorem d4_7 : decode prog_5_method_14_code 7 = .ok (.aload_n 1, 1) := by decide +kernel
theorem d4_8 : decode prog_5_method_14_code 8 = .ok (.checkcast 1, 3) := by decide +kernel
theorem d4_11 : decode prog_5_method_14_code 11 = .ok (.astore_n 2, 1) := by decide +kernel
theorem d4_12 : decode prog_5_method_14_code 12 = .ok (.goto 5, 3) := by decide +kernel
theorem d4_17 : decode prog_5_method_14_code 17 = .ok (.aload_n 0, 1) := by decide +kernel
theorem d4_18 : decode prog_5_method_14_code 18 = .ok (.getfield 26, 3) := by decide +kernel
theorem d4_21 : decode prog_5_method_14_code 21 = .ok (.aload_n 2, 1) := by decide +kernel
theorem d4_22 : decode prog_5_method_14_code 22 = .ok (.getfield 26, 3) := by decide +kernel
theorem d4_25 : decode prog_5_method_14_code 25 = .ok (.lcmp, 1) := by decide +kernel
theorem d4_26 : decode prog_5_method_14_code 26 = .ok (.ifCond .ne 19, 3) := by decide +kernel
theorem d4_29 : decode prog_5_method_14_code 29 = .ok (.aload_n 0, 1) := by decide +kernel
theorem d4_30 : decode prog_5_method_14_code 30 = .ok (.getfield 30, 3) := by decide +kernel
theorem d4_33 : decode prog_5_method_14_code 33 = .ok (.aload_n 2, 1) := by decide +kernel
theorem d4_34 : decode prog_5_method_14_code 34 = .ok (.getfield 30, 3) := by decide +kernel
theorem d4_37 : decode prog_5_method_14_code 37 = .ok (.lcmp, 1) := by decide +kernel
theorem d4_38 : decode prog_5_method_14_code 38 = .ok (.ifCond .ne 7, 3) := by decide +kernel
theorem d4_41 : decode prog_5_method_14_code 41 = .ok (.iconst 1, 1) := by decide +kernel
theorem d4_42 : decode prog_5_method_14_code 42 = .ok (.goto 4, 3) := by decide +kernel
theorem d4_46 : decode prog_5_method_14_code 46 = .ok (.ireturn, 1) := by decide +kernel
theorem d4_45 : decode prog_5_method_14_code 45 = .ok (.iconst 0, 1) := by decide +kernel
set_option maxRecDepth 65536 in
set_option maxHeartbeats 40000000 in
theorem rmE (l : Launch) (Z : State) (a0 : Array Value) (hw : ∀ d ∈ tables_1, d.before a0 Z = true) (ws : List Jvm.Cond) (a1 a2 : Addr) (lo hi lo2 hi2 : Int64) (h0 : Heap) (n0 : Nat) (Z0 : n0 ≤ h0.size) (F1 : Fld Z h0 a1 "com/example/calm_balancer/calmbalancer/BundleRange" "lower" "J" (.long lo)) (F2 : Fld Z h0 a1 "com/example/calm_balancer/calmbalancer/BundleRange" "upper" "J" (.long hi)) (F3 : Fld Z h0 a2 "com/example/calm_balancer/calmbalancer/BundleRange" "lower" "J" (.long lo2)) (F4 : Fld Z h0 a2 "com/example/calm_balancer/calmbalancer/BundleRange" "upper" "J" (.long hi2)) (E2 : Exa Z h0 a2 "com/example/calm_balancer/calmbalancer/BundleRange") :
    MetFree l (⟨"com/example/calm_balancer/calmbalancer/BundleRange", "equals", "(Ljava/lang/Object;)Z"⟩ : MethodName) (head1 (Jvm.Cond.code (⟨"com/example/calm_balancer/calmbalancer/BundleRange", "equals", "(Ljava/lang/Object;)Z"⟩ : MethodName) prog_5_method_14_code 3 (some .boolean) :: ws) ({ frames := 0, cells := 0, slots := 0, locals := 0 } : Room)) (fun a U => a = #[(.ref a1), (.ref a2)] ∧ Z.Warmed39 U.vm ∧ U.heap = h0) (fun _ _ _ _ _ => True) (fun _ U o U' => ∃ v L, o = .returned v ∧ QE Z lo hi lo2 hi2 h0 n0 v U'.heap L ∧ FrameEnd U o U' L ({ frames := 0, cells := 0, slots := 0, locals := 0 } : Room).cells ({ frames := 0, cells := 0, slots := 0, locals := 0 } : Room).slots) := by
  refine MetFree.of_bodySF (plainFor_of_name pn_com_example_calm_balancer_calmbalancer_BundleRange) hisR ?_
  intro p e s m args below meth c s₁ Bd hml0 hP hK
  obtain ⟨rfl, hZ, hh⟩ := hP
  have hx := Bd.exec
  have hby := Bd.bytes
  have hml : c.maxLocals = 3 := hml0
  have hown : s.vm.findClass "com/example/calm_balancer/calmbalancer/BundleRange" = some m.cls := findClass_of_methodNamed Bd.named
  have hnm := (name_of_methodNamed Bd.named Bd.method).1
  have X0 : Stand p l e ({ frames := 0, cells := 0, slots := 0, locals := 0 } : Room) s m #[(.ref a1), (.ref a2)] below meth c s₁ [] 0 0 := Stand.of_body Bd
  have e0 : s₁.heap = h0 := by rw [← hh, Bd.state]; rfl
  have N0 := Fr.nil n0
  have pre0 : ∀ t, Steps p.tables e below (s₁.setTop (mkF m 0 #[.val (.ref a1), .val (.ref a2), .unset] [])) t → Steps p.tables e below (s₁.setTop (entryFrame m #[(.ref a1), (.ref a2)] 3)) t := fun t kt => castTop (ef_rmE m a1 a2) kt
  have pre1 : ∀ t, Steps p.tables e below (s₁.setTop (mkF m 1 #[.val (.ref a1), .val (.ref a2), .unset] [(.ref a2)])) t → Steps p.tables e below (s₁.setTop (entryFrame m #[(.ref a1), (.ref a2)] 3)) t := fun t kt => pre0 t (by
    refine XS.aloadN X0.here hx rfl (hb hby d4_0) rfl rfl ?_
    show Steps p.tables e below (s₁.setTop (mkF m 1 #[.val (.ref a1), .val (.ref a2), .unset] [(.ref a2)])) _
    exact kt)
  obtain ⟨T2, X2, e2, st2⟩ := instY X0 hx hZ hown (hw _ (List.mem_of_getElem? (i := 28) rfl)) e0 (Ins.self E2) (g := (mkF m 1 #[.val (.ref a1), .val (.ref a2), .unset] [(.ref a2)])) rfl rfl (hb hby d4_1)
  have pre3 : ∀ t, Steps p.tables e below (T2.setTop (mkF m 4 #[.val (.ref a1), .val (.ref a2), .unset] [(.int (1 : Int32))])) t → Steps p.tables e below (s₁.setTop (entryFrame m #[(.ref a1), (.ref a2)] 3)) t := fun t kt => pre1 t (st2 _ kt)
  have pre4 : ∀ t, Steps p.tables e below (T2.setTop (mkF m 8 #[.val (.ref a1), .val (.ref a2), .unset] [(.ref a2)])) t → Steps p.tables e below (s₁.setTop (entryFrame m #[(.ref a1), (.ref a2)] 3)) t := fun t kt => pre3 t (by
    refine XS.ifNo X2.here hx rfl (hb hby d4_4) rfl ((if0 _ _).trans (feq (by decide : ¬ ((1 : Int32) = (0 : Int32)))).1) ?_
    show Steps p.tables e below (T2.setTop (mkF m 7 #[.val (.ref a1), .val (.ref a2), .unset] [])) _
    refine XS.aloadN X2.here hx rfl (hb hby d4_7) rfl rfl ?_
    show Steps p.tables e below (T2.setTop (mkF m 8 #[.val (.ref a1), .val (.ref a2), .unset] [(.ref a2)])) _
    exact kt)
  obtain ⟨T5, X5, e5, st5⟩ := castY X2 hx hZ hown (hw _ (List.mem_of_getElem? (i := 28) rfl)) e2 (Ins.self E2) (g := (mkF m 8 #[.val (.ref a1), .val (.ref a2), .unset] [(.ref a2)])) rfl rfl (hb hby d4_8)
  have pre6 : ∀ t, Steps p.tables e below (T5.setTop (mkF m 11 #[.val (.ref a1), .val (.ref a2), .unset] [(.ref a2)])) t → Steps p.tables e below (s₁.setTop (entryFrame m #[(.ref a1), (.ref a2)] 3)) t := fun t kt => pre4 t (st5 _ kt)
  have pre7 : ∀ t, Steps p.tables e below (T5.setTop (mkF m 18 #[.val (.ref a1), .val (.ref a2), .val (.ref a2)] [(.ref a1)])) t → Steps p.tables e below (s₁.setTop (entryFrame m #[(.ref a1), (.ref a2)] 3)) t := fun t kt => pre6 t (by
    refine XS.astoreN X5.here hx rfl (hb hby d4_11) rfl rfl (l' := #[.val (.ref a1), .val (.ref a2), .val (.ref a2)]) rfl ?_
    show Steps p.tables e below (T5.setTop (mkF m 12 #[.val (.ref a1), .val (.ref a2), .val (.ref a2)] [])) _
    refine XS.goto X5.here hx rfl (pc0 := 12) (pc' := 17) rfl (hb hby d4_12) (by decide) (by decide) ?_
    show Steps p.tables e below (T5.setTop (mkF m 17 #[.val (.ref a1), .val (.ref a2), .val (.ref a2)] [])) _
    refine XS.aloadN X5.here hx rfl (hb hby d4_17) rfl rfl ?_
    show Steps p.tables e below (T5.setTop (mkF m 18 #[.val (.ref a1), .val (.ref a2), .val (.ref a2)] [(.ref a1)])) _
    exact kt)
  obtain ⟨T8, X8, e8, st8⟩ := getF X5 hx hZ hown (host := "") (Or.inl (hw _ (List.mem_of_getElem? (i := 11) rfl))) Via.refl e5 F1 (g := (mkF m 18 #[.val (.ref a1), .val (.ref a2), .val (.ref a2)] [(.ref a1)])) rfl rfl (hb hby d4_18)
  have pre9 : ∀ t, Steps p.tables e below (T8.setTop (mkF m 21 #[.val (.ref a1), .val (.ref a2), .val (.ref a2)] [(.long lo)])) t → Steps p.tables e below (s₁.setTop (entryFrame m #[(.ref a1), (.ref a2)] 3)) t := fun t kt => pre7 t (st8 _ kt)
  have pre10 : ∀ t, Steps p.tables e below (T8.setTop (mkF m 22 #[.val (.ref a1), .val (.ref a2), .val (.ref a2)] [(.ref a2), (.long lo)])) t → Steps p.tables e below (s₁.setTop (entryFrame m #[(.ref a1), (.ref a2)] 3)) t := fun t kt => pre9 t (by
    refine XS.aloadN X8.here hx rfl (hb hby d4_21) rfl rfl ?_
    show Steps p.tables e below (T8.setTop (mkF m 22 #[.val (.ref a1), .val (.ref a2), .val (.ref a2)] [(.ref a2), (.long lo)])) _
    exact kt)
  obtain ⟨T11, X11, e11, st11⟩ := getF X8 hx hZ hown (host := "") (Or.inl (hw _ (List.mem_of_getElem? (i := 11) rfl))) Via.refl e8 F3 (g := (mkF m 22 #[.val (.ref a1), .val (.ref a2), .val (.ref a2)] [(.ref a2), (.long lo)])) rfl rfl (hb hby d4_22)
  have pre12 : ∀ t, Steps p.tables e below (T11.setTop (mkF m 25 #[.val (.ref a1), .val (.ref a2), .val (.ref a2)] [(.long lo2), (.long lo)])) t → Steps p.tables e below (s₁.setTop (entryFrame m #[(.ref a1), (.ref a2)] 3)) t := fun t kt => pre10 t (st11 _ kt)
  have pre13 : ∀ t, Steps p.tables e below (T11.setTop (mkF m 26 #[.val (.ref a1), .val (.ref a2), .val (.ref a2)] [(.int (lcmpW lo lo2))])) t → Steps p.tables e below (s₁.setTop (entryFrame m #[(.ref a1), (.ref a2)] 3)) t := fun t kt => pre12 t (by
    refine XS.lcmp X11.here hx rfl (hb hby d4_25) rfl ?_
    show Steps p.tables e below (T11.setTop (mkF m 26 #[.val (.ref a1), .val (.ref a2), .val (.ref a2)] [(.int (lcmpW lo lo2))])) _
    exact kt)
  by_cases c26_1 : lo = lo2
  · have pre14 : ∀ t, Steps p.tables e below (T11.setTop (mkF m 30 #[.val (.ref a1), .val (.ref a2), .val (.ref a2)] [(.ref a1)])) t → Steps p.tables e below (s₁.setTop (entryFrame m #[(.ref a1), (.ref a2)] 3)) t := fun t kt => pre13 t (by
      refine XS.ifNo X11.here hx rfl (hb hby d4_26) rfl ((if0 _ _).trans (teq ((lw_eq _ _).mpr c26_1)).2) ?_
      show Steps p.tables e below (T11.setTop (mkF m 29 #[.val (.ref a1), .val (.ref a2), .val (.ref a2)] [])) _
      refine XS.aloadN X11.here hx rfl (hb hby d4_29) rfl rfl ?_
      show Steps p.tables e below (T11.setTop (mkF m 30 #[.val (.ref a1), .val (.ref a2), .val (.ref a2)] [(.ref a1)])) _
      exact kt)
    obtain ⟨T15, X15, e15, st15⟩ := getF X11 hx hZ hown (host := "") (Or.inl (hw _ (List.mem_of_getElem? (i := 13) rfl))) Via.refl e11 F2 (g := (mkF m 30 #[.val (.ref a1), .val (.ref a2), .val (.ref a2)] [(.ref a1)])) rfl rfl (hb hby d4_30)
    have pre16 : ∀ t, Steps p.tables e below (T15.setTop (mkF m 33 #[.val (.ref a1), .val (.ref a2), .val (.ref a2)] [(.long hi)])) t → Steps p.tables e below (s₁.setTop (entryFrame m #[(.ref a1), (.ref a2)] 3)) t := fun t kt => pre14 t (st15 _ kt)
    have pre17 : ∀ t, Steps p.tables e below (T15.setTop (mkF m 34 #[.val (.ref a1), .val (.ref a2), .val (.ref a2)] [(.ref a2), (.long hi)])) t → Steps p.tables e below (s₁.setTop (entryFrame m #[(.ref a1), (.ref a2)] 3)) t := fun t kt => pre16 t (by
      refine XS.aloadN X15.here hx rfl (hb hby d4_33) rfl rfl ?_
      show Steps p.tables e below (T15.setTop (mkF m 34 #[.val (.ref a1), .val (.ref a2), .val (.ref a2)] [(.ref a2), (.long hi)])) _
      exact kt)
    obtain ⟨T18, X18, e18, st18⟩ := getF X15 hx hZ hown (host := "") (Or.inl (hw _ (List.mem_of_getElem? (i := 13) rfl))) Via.refl e15 F4 (g := (mkF m 34 #[.val (.ref a1), .val (.ref a2), .val (.ref a2)] [(.ref a2), (.long hi)])) rfl rfl (hb hby d4_34)
    have pre19 : ∀ t, Steps p.tables e below (T18.setTop (mkF m 37 #[.val (.ref a1), .val (.ref a2), .val (.ref a2)] [(.long hi2), (.long hi)])) t → Steps p.tables e below (s₁.setTop (entryFrame m #[(.ref a1), (.ref a2)] 3)) t := fun t kt => pre17 t (st18 _ kt)
    have pre20 : ∀ t, Steps p.tables e below (T18.setTop (mkF m 38 #[.val (.ref a1), .val (.ref a2), .val (.ref a2)] [(.int (lcmpW hi hi2))])) t → Steps p.tables e below (s₁.setTop (entryFrame m #[(.ref a1), (.ref a2)] 3)) t := fun t kt => pre19 t (by
      refine XS.lcmp X18.here hx rfl (hb hby d4_37) rfl ?_
      show Steps p.tables e below (T18.setTop (mkF m 38 #[.val (.ref a1), .val (.ref a2), .val (.ref a2)] [(.int (lcmpW hi hi2))])) _
      exact kt)
    by_cases c38_2 : hi = hi2
    · have pre21 : ∀ t, Steps p.tables e below (T18.setTop (mkF m 46 #[.val (.ref a1), .val (.ref a2), .val (.ref a2)] [(.int (1 : Int32))])) t → Steps p.tables e below (s₁.setTop (entryFrame m #[(.ref a1), (.ref a2)] 3)) t := fun t kt => pre20 t (by
        refine XS.ifNo X18.here hx rfl (hb hby d4_38) rfl ((if0 _ _).trans (teq ((lw_eq _ _).mpr c38_2)).2) ?_
        show Steps p.tables e below (T18.setTop (mkF m 41 #[.val (.ref a1), .val (.ref a2), .val (.ref a2)] [])) _
        refine XS.iconst X18.here hx rfl (hb hby d4_41) ?_
        show Steps p.tables e below (T18.setTop (mkF m 42 #[.val (.ref a1), .val (.ref a2), .val (.ref a2)] [(.int (1 : Int32))])) _
        refine XS.goto X18.here hx rfl (pc0 := 42) (pc' := 46) rfl (hb hby d4_42) (by decide) (by decide) ?_
        show Steps p.tables e below (T18.setTop (mkF m 46 #[.val (.ref a1), .val (.ref a2), .val (.ref a2)] [(.int (1 : Int32))])) _
        exact kt)
      obtain ⟨fs, hr, hrun, hended, hW, hsame⟩ := X18.leave (v := (some (.int (1 : Int32)))) (fun h => by rw [Bd.returns] at h; cases h)
      refine ⟨_, _, pre21 _ ?_, hrun, hended, _, _, rfl, ?_, ⟨_, rfl⟩, hW, hsame.mono (by decide) (by decide)⟩
      · exact retN X18 hx (t := .boolean) Bd.returns (by simp) (hb hby d4_46) hr
      · show QE Z lo hi lo2 hi2 h0 n0 _ T18.heap _
        rw [e18]
        exact ⟨(by rw [if_pos c26_1, if_pos c38_2]), N0, rfl⟩
    · have pre23 : ∀ t, Steps p.tables e below (T18.setTop (mkF m 46 #[.val (.ref a1), .val (.ref a2), .val (.ref a2)] [(.int (0 : Int32))])) t → Steps p.tables e below (s₁.setTop (entryFrame m #[(.ref a1), (.ref a2)] 3)) t := fun t kt => pre20 t (by
        refine XS.ifYes X18.here hx rfl (pc0 := 38) (pc' := 45) rfl (hb hby d4_38) rfl ((if0 _ _).trans (feq (mt (lw_eq _ _).mp c38_2)).2) (by decide) (by decide) ?_
        show Steps p.tables e below (T18.setTop (mkF m 45 #[.val (.ref a1), .val (.ref a2), .val (.ref a2)] [])) _
        refine XS.iconst X18.here hx rfl (hb hby d4_45) ?_
        show Steps p.tables e below (T18.setTop (mkF m 46 #[.val (.ref a1), .val (.ref a2), .val (.ref a2)] [(.int (0 : Int32))])) _
        exact kt)
      obtain ⟨fs, hr, hrun, hended, hW, hsame⟩ := X18.leave (v := (some (.int (0 : Int32)))) (fun h => by rw [Bd.returns] at h; cases h)
      refine ⟨_, _, pre23 _ ?_, hrun, hended, _, _, rfl, ?_, ⟨_, rfl⟩, hW, hsame.mono (by decide) (by decide)⟩
      · exact retN X18 hx (t := .boolean) Bd.returns (by simp) (hb hby d4_46) hr
      · show QE Z lo hi lo2 hi2 h0 n0 _ T18.heap _
        rw [e18]
        exact ⟨(by rw [if_pos c26_1, if_neg c38_2]), N0, rfl⟩
  · have pre25 : ∀ t, Steps p.tables e below (T11.setTop (mkF m 46 #[.val (.ref a1), .val (.ref a2), .val (.ref a2)] [(.int (0 : Int32))])) t → Steps p.tables e below (s₁.setTop (entryFrame m #[(.ref a1), (.ref a2)] 3)) t := fun t kt => pre13 t (by
      refine XS.ifYes X11.here hx rfl (pc0 := 26) (pc' := 45) rfl (hb hby d4_26) rfl ((if0 _ _).trans (feq (mt (lw_eq _ _).mp c26_1)).2) (by decide) (by decide) ?_
      show Steps p.tables e below (T11.setTop (mkF m 45 #[.val (.ref a1), .val (.ref a2), .val (.ref a2)] [])) _
      refine XS.iconst X11.here hx rfl (hb hby d4_45) ?_
      show Steps p.tables e below (T11.setTop (mkF m 46 #[.val (.ref a1), .val (.ref a2), .val (.ref a2)] [(.int (0 : Int32))])) _
      exact kt)
    obtain ⟨fs, hr, hrun, hended, hW, hsame⟩ := X11.leave (v := (some (.int (0 : Int32)))) (fun h => by rw [Bd.returns] at h; cases h)
    refine ⟨_, _, pre25 _ ?_, hrun, hended, _, _, rfl, ?_, ⟨_, rfl⟩, hW, hsame.mono (by decide) (by decide)⟩
    · exact retN X11 hx (t := .boolean) Bd.returns (by simp) (hb hby d4_46) hr
    · show QE Z lo hi lo2 hi2 h0 n0 _ T11.heap _
      rw [e11]
      exact ⟨(by rw [if_neg c26_1]), N0, rfl⟩
def QZ (Z : State) (h0 : Heap) (n0 : Nat) (v : Option Value) (h : Heap) (L : List Loc) : Prop := v = some (.int (0 : Int32)) ∧ Fr n0 L ∧ h = h0
theorem ef_rmEn (m : MethodId) (x0 : Addr) : entryFrame m #[(.ref x0), .null] 3 = mkF m 0 #[.val (.ref x0), .val .null, .unset] [] := by first | (simp [entryFrame, mkF, argsToLocals, Value.category]; done) | rfl
theorem d4_15 : decode prog_5_method_14_code 15 = .ok (.iconst 0, 1) := by decide +kernel
theorem d4_16 : decode prog_5_method_14_code 16 = .ok (.ireturn, 1) := by decide +kernel
set_option maxRecDepth 65536 in
set_option maxHeartbeats 40000000 in
theorem rmEn (l : Launch) (Z : State) (a0 : Array Value) (hw : ∀ d ∈ tables_1, d.before a0 Z = true) (ws : List Jvm.Cond) (a1 : Addr) (h0 : Heap) (n0 : Nat) (Z0 : n0 ≤ h0.size)  :
    MetFree l (⟨"com/example/calm_balancer/calmbalancer/BundleRange", "equals", "(Ljava/lang/Object;)Z"⟩ : MethodName) (head1 (Jvm.Cond.code (⟨"com/example/calm_balancer/calmbalancer/BundleRange", "equals", "(Ljava/lang/Object;)Z"⟩ : MethodName) prog_5_method_14_code 3 (some .boolean) :: ws) ({ frames := 0, cells := 0, slots := 0, locals := 0 } : Room)) (fun a U => a = #[(.ref a1), .null] ∧ Z.Warmed39 U.vm ∧ U.heap = h0) (fun _ _ _ _ _ => True) (fun _ U o U' => ∃ v L, o = .returned v ∧ QZ Z  h0 n0 v U'.heap L ∧ FrameEnd U o U' L ({ frames := 0, cells := 0, slots := 0, locals := 0 } : Room).cells ({ frames := 0, cells := 0, slots := 0, locals := 0 } : Room).slots) := by
  refine MetFree.of_bodySF (plainFor_of_name pn_com_example_calm_balancer_calmbalancer_BundleRange) hisR ?_
  intro p e s m args below meth c s₁ Bd hml0 hP hK
  obtain ⟨rfl, hZ, hh⟩ := hP
  have hx := Bd.exec
  have hby := Bd.bytes
  have hml : c.maxLocals = 3 := hml0
  have hown : s.vm.findClass "com/example/calm_balancer/calmbalancer/BundleRange" = some m.cls := findClass_of_methodNamed Bd.named
  have hnm := (name_of_methodNamed Bd.named Bd.method).1
  have X0 : Stand p l e ({ frames := 0, cells := 0, slots := 0, locals := 0 } : Room) s m #[(.ref a1), .null] below meth c s₁ [] 0 0 := Stand.of_body Bd
  have e0 : s₁.heap = h0 := by rw [← hh, Bd.state]; rfl
  have N0 := Fr.nil n0
  have pre0 : ∀ t, Steps p.tables e below (s₁.setTop (mkF m 0 #[.val (.ref a1), .val .null, .unset] [])) t → Steps p.tables e below (s₁.setTop (entryFrame m #[(.ref a1), .null] 3)) t := fun t kt => castTop (ef_rmEn m a1) kt
  have pre1 : ∀ t, Steps p.tables e below (s₁.setTop (mkF m 16 #[.val (.ref a1), .val .null, .unset] [(.int (0 : Int32))])) t → Steps p.tables e below (s₁.setTop (entryFrame m #[(.ref a1), .null] 3)) t := fun t kt => pre0 t (by
    refine XS.aloadN X0.here hx rfl (hb hby d4_0) rfl rfl ?_
    show Steps p.tables e below (s₁.setTop (mkF m 1 #[.val (.ref a1), .val .null, .unset] [.null])) _
    refine X0.instanceofNull hx (g := (mkF m 1 #[.val (.ref a1), .val .null, .unset] [.null])) rfl rfl (hb hby d4_1) _ ?_
    show Steps p.tables e below (s₁.setTop (mkF m 4 #[.val (.ref a1), .val .null, .unset] [(.int (0 : Int32))])) _
    refine XS.ifYes X0.here hx rfl (pc0 := 4) (pc' := 15) rfl (hb hby d4_4) rfl ((if0 _ _).trans (teq (by decide : (0 : Int32) = (0 : Int32))).1) (by decide) (by decide) ?_
    show Steps p.tables e below (s₁.setTop (mkF m 15 #[.val (.ref a1), .val .null, .unset] [])) _
    refine XS.iconst X0.here hx rfl (hb hby d4_15) ?_
    show Steps p.tables e below (s₁.setTop (mkF m 16 #[.val (.ref a1), .val .null, .unset] [(.int (0 : Int32))])) _
    exact kt)
  obtain ⟨fs, hr, hrun, hended, hW, hsame⟩ := X0.leave (v := (some (.int (0 : Int32)))) (fun h => by rw [Bd.returns] at h; cases h)
  refine ⟨_, _, pre1 _ ?_, hrun, hended, _, _, rfl, ?_, ⟨_, rfl⟩, hW, hsame.mono (by decide) (by decide)⟩
  · exact retN X0 hx (t := .boolean) Bd.returns (by simp) (hb hby d4_16) hr
  · show QZ Z  h0 n0 _ s₁.heap _
    rw [e0]
    exact ⟨rfl, N0, rfl⟩
theorem ef_rmEl (m : MethodId) (x0 : Addr) (x1 : Addr) : entryFrame m #[(.ref x0), (.ref x1)] 3 = mkF m 0 #[.val (.ref x0), .val (.ref x1), .unset] [] := by first | (simp [entryFrame, mkF, argsToLocals, Value.category]; done) | rfl
set_option maxRecDepth 65536 in
set_option maxHeartbeats 40000000 in
theorem rmEl (l : Launch) (Z : State) (a0 : Array Value) (hw : ∀ d ∈ tables_1, d.before a0 Z = true) (ws : List Jvm.Cond) (a1 a2 : Addr) (h0 : Heap) (n0 : Nat) (Z0 : n0 ≤ h0.size) (E2 : Exa Z h0 a2 "java/lang/Long") :
    MetFree l (⟨"com/example/calm_balancer/calmbalancer/BundleRange", "equals", "(Ljava/lang/Object;)Z"⟩ : MethodName) (head1 (Jvm.Cond.code (⟨"com/example/calm_balancer/calmbalancer/BundleRange", "equals", "(Ljava/lang/Object;)Z"⟩ : MethodName) prog_5_method_14_code 3 (some .boolean) :: ws) ({ frames := 0, cells := 0, slots := 0, locals := 0 } : Room)) (fun a U => a = #[(.ref a1), (.ref a2)] ∧ Z.Warmed39 U.vm ∧ U.heap = h0) (fun _ _ _ _ _ => True) (fun _ U o U' => ∃ v L, o = .returned v ∧ QZ Z  h0 n0 v U'.heap L ∧ FrameEnd U o U' L ({ frames := 0, cells := 0, slots := 0, locals := 0 } : Room).cells ({ frames := 0, cells := 0, slots := 0, locals := 0 } : Room).slots) := by
  refine MetFree.of_bodySF (plainFor_of_name pn_com_example_calm_balancer_calmbalancer_BundleRange) hisR ?_
  intro p e s m args below meth c s₁ Bd hml0 hP hK
  obtain ⟨rfl, hZ, hh⟩ := hP
  have hx := Bd.exec
  have hby := Bd.bytes
  have hml : c.maxLocals = 3 := hml0
  have hown : s.vm.findClass "com/example/calm_balancer/calmbalancer/BundleRange" = some m.cls := findClass_of_methodNamed Bd.named
  have hnm := (name_of_methodNamed Bd.named Bd.method).1
  have X0 : Stand p l e ({ frames := 0, cells := 0, slots := 0, locals := 0 } : Room) s m #[(.ref a1), (.ref a2)] below meth c s₁ [] 0 0 := Stand.of_body Bd
  have e0 : s₁.heap = h0 := by rw [← hh, Bd.state]; rfl
  have N0 := Fr.nil n0
  have pre0 : ∀ t, Steps p.tables e below (s₁.setTop (mkF m 0 #[.val (.ref a1), .val (.ref a2), .unset] [])) t → Steps p.tables e below (s₁.setTop (entryFrame m #[(.ref a1), (.ref a2)] 3)) t := fun t kt => castTop (ef_rmEl m a1 a2) kt
  have pre1 : ∀ t, Steps p.tables e below (s₁.setTop (mkF m 1 #[.val (.ref a1), .val (.ref a2), .unset] [(.ref a2)])) t → Steps p.tables e below (s₁.setTop (entryFrame m #[(.ref a1), (.ref a2)] 3)) t := fun t kt => pre0 t (by
    refine XS.aloadN X0.here hx rfl (hb hby d4_0) rfl rfl ?_
    show Steps p.tables e below (s₁.setTop (mkF m 1 #[.val (.ref a1), .val (.ref a2), .unset] [(.ref a2)])) _
    exact kt)
  obtain ⟨T2, X2, e2, st2⟩ := instNo X0 hx hZ hown (hw _ (List.mem_of_getElem? (i := 28) rfl)) e0 E2 (own_no (hw _ (List.mem_of_getElem? (i := 30) rfl)) (hw _ (List.mem_of_getElem? (i := 31) rfl)) (hw _ (List.mem_of_getElem? (i := 32) rfl)) (hw _ (List.mem_of_getElem? (i := 2) rfl)) (by decide) (by decide) (by decide)) (g := (mkF m 1 #[.val (.ref a1), .val (.ref a2), .unset] [(.ref a2)])) rfl rfl (hb hby d4_1)
  have pre3 : ∀ t, Steps p.tables e below (T2.setTop (mkF m 4 #[.val (.ref a1), .val (.ref a2), .unset] [(.int (0 : Int32))])) t → Steps p.tables e below (s₁.setTop (entryFrame m #[(.ref a1), (.ref a2)] 3)) t := fun t kt => pre1 t (st2 _ kt)
  have pre4 : ∀ t, Steps p.tables e below (T2.setTop (mkF m 16 #[.val (.ref a1), .val (.ref a2), .unset] [(.int (0 : Int32))])) t → Steps p.tables e below (s₁.setTop (entryFrame m #[(.ref a1), (.ref a2)] 3)) t := fun t kt => pre3 t (by
    refine XS.ifYes X2.here hx rfl (pc0 := 4) (pc' := 15) rfl (hb hby d4_4) rfl ((if0 _ _).trans (teq (by decide : (0 : Int32) = (0 : Int32))).1) (by decide) (by decide) ?_
    show Steps p.tables e below (T2.setTop (mkF m 15 #[.val (.ref a1), .val (.ref a2), .unset] [])) _
    refine XS.iconst X2.here hx rfl (hb hby d4_15) ?_
    show Steps p.tables e below (T2.setTop (mkF m 16 #[.val (.ref a1), .val (.ref a2), .unset] [(.int (0 : Int32))])) _
    exact kt)
  obtain ⟨fs, hr, hrun, hended, hW, hsame⟩ := X2.leave (v := (some (.int (0 : Int32)))) (fun h => by rw [Bd.returns] at h; cases h)
  refine ⟨_, _, pre4 _ ?_, hrun, hended, _, _, rfl, ?_, ⟨_, rfl⟩, hW, hsame.mono (by decide) (by decide)⟩
  · exact retN X2 hx (t := .boolean) Bd.returns (by simp) (hb hby d4_16) hr
  · show QZ Z  h0 n0 _ T2.heap _
    rw [e2]
    exact ⟨rfl, N0, rfl⟩
def Q0 (Z : State) (h0 : Heap) (n0 : Nat) (v : Option Value) (h : Heap) (L : List Loc) : Prop := v = some (.int (1 : Int32)) ∧ Fr n0 L
theorem ef_rm0 (m : MethodId) (x0 : Int64) (x1 : Int64) (x2 : Int64) (x3 : Int64) (x4 : Int32) : entryFrame m #[(.long x0), (.long x1), (.long x2), (.long x3), (.int x4)] maxLocals = mkF m 0 #[.val (.long x0), .second, .val (.long x1), .second, .val (.long x2), .second, .val (.long x3), .second, .val (.int x4), .unset, .unset, .unset, .unset, .unset, .unset, .unset, .unset, .unset, .unset, .unset, .unset, .unset, .unset, .unset] [] := by first | (simp [entryFrame, mkF, argsToLocals, Value.category, maxLocals]; done) | rfl
theorem pn_com_example_calm_balancer_calmbalancer_BundleRangeEqualsPinLaw : plainName "com/example/calm_balancer/calmbalancer/BundleRangeEqualsPinLaw" = true := by first | (simp [plainName, overriddenIn]; done) | decide +kernel
theorem pd__28JJ_29V : parseMethodDescriptor "(JJ)V" = some ⟨[.long, .long], none⟩ := by decide +kernel
theorem pd__28J_29Ljava_2flang_2fLong_3b : parseMethodDescriptor "(J)Ljava/lang/Long;" = some ⟨[.long], some (.object "java/lang/Long")⟩ := by decide +kernel
theorem pd__28Ljava_2flang_2fObject_3b_29Z : parseMethodDescriptor "(Ljava/lang/Object;)Z" = some ⟨[(.object "java/lang/Object")], some .boolean⟩ := by decide +kernel
set_option maxRecDepth 65536 in
set_option maxHeartbeats 40000000 in
theorem rm0 (l : Launch) (Z : State) (a0 : Array Value) (hw : ∀ d ∈ tables_1, d.before a0 Z = true) (ws : List Jvm.Cond) (xa ya xb yb : Int64) (mo : Int32) (wc : Addr) (cl : Cell) (h0 : Heap) (n0 : Nat) (Z0 : n0 ≤ h0.size) (O0 : Old Z n0 h0) (S0 : Sta Z Z.heap "java/lang/Long$LongCache" "cache" "[Ljava/lang/Long;" (.ref wc)) (CC : Cache Z Z.heap wc cl) :
    MetFree l x (head1 (Jvm.Cond.code x code maxLocals ret :: ws) room_1) (fun a U => a = #[(.long xa), (.long ya), (.long xb), (.long yb), (.int mo)] ∧ Z.Warmed39 U.vm ∧ U.heap = h0) (fun _ _ _ _ _ => True) (fun _ U o U' => ∃ v L, o = .returned v ∧ Q0 Z  h0 n0 v U'.heap L ∧ FrameEnd U o U' L room_1.cells room_1.slots) := by
  refine MetFree.of_bodySF (plainFor_of_name pn_com_example_calm_balancer_calmbalancer_BundleRangeEqualsPinLaw) hisR ?_
  intro p e s m args below meth c s₁ Bd hml0 hP hK
  obtain ⟨rfl, hZ, hh⟩ := hP
  have hx := Bd.exec
  have hby := Bd.bytes
  have hml : c.maxLocals = 24 := hml0
  have hown : s.vm.findClass "com/example/calm_balancer/calmbalancer/BundleRangeEqualsPinLaw" = some m.cls := findClass_of_methodNamed Bd.named
  have hnm := (name_of_methodNamed Bd.named Bd.method).1
  have X0 : Stand p l e room_1 s m #[(.long xa), (.long ya), (.long xb), (.long yb), (.int mo)] below meth c s₁ [] 0 0 := Stand.of_body Bd
  have e0 : s₁.heap = h0 := by rw [← hh, Bd.state]; rfl
  have N0 := Fr.nil n0
  have pre0 : ∀ t, Steps p.tables e below (s₁.setTop (mkF m 0 #[.val (.long xa), .second, .val (.long ya), .second, .val (.long xb), .second, .val (.long yb), .second, .val (.int mo), .unset, .unset, .unset, .unset, .unset, .unset, .unset, .unset, .unset, .unset, .unset, .unset, .unset, .unset, .unset] [])) t → Steps p.tables e below (s₁.setTop (entryFrame m #[(.long xa), (.long ya), (.long xb), (.long yb), (.int mo)] maxLocals)) t := fun t kt => castTop (ef_rm0 m xa ya xb yb mo) kt
  have pre1 : ∀ t, Steps p.tables e below (s₁.setTop (mkF m 14 #[.val (.long xa), .second, .val (.long ya), .second, .val (.long xb), .second, .val (.long yb), .second, .val (.int mo), .val (.long (4294967295 : Int64)), .second, .val (.long ((xa &&& (4294967295 : Int64)) % (4294967295 : Int64))), .second, .unset, .unset, .unset, .unset, .unset, .unset, .unset, .unset, .unset, .unset, .unset] [])) t → Steps p.tables e below (s₁.setTop (entryFrame m #[(.long xa), (.long ya), (.long xb), (.long yb), (.int mo)] maxLocals)) t := fun t kt => pre0 t (by
    refine X0.ldc2Long hx hown (mvT hZ (hw _ (List.mem_of_getElem? (i := 0) rfl))) (g := (mkF m 0 #[.val (.long xa), .second, .val (.long ya), .second, .val (.long xb), .second, .val (.long yb), .second, .val (.int mo), .unset, .unset, .unset, .unset, .unset, .unset, .unset, .unset, .unset, .unset, .unset, .unset, .unset, .unset, .unset] [])) rfl (hb hby at_0) _ ?_
    show Steps p.tables e below (s₁.setTop (mkF m 3 #[.val (.long xa), .second, .val (.long ya), .second, .val (.long xb), .second, .val (.long yb), .second, .val (.int mo), .unset, .unset, .unset, .unset, .unset, .unset, .unset, .unset, .unset, .unset, .unset, .unset, .unset, .unset, .unset] [(.long (4294967295 : Int64))])) _
    refine XS.lstore X0.here hx rfl (hb hby at_3) rfl (l' := #[.val (.long xa), .second, .val (.long ya), .second, .val (.long xb), .second, .val (.long yb), .second, .val (.int mo), .val (.long (4294967295 : Int64)), .second, .unset, .unset, .unset, .unset, .unset, .unset, .unset, .unset, .unset, .unset, .unset, .unset, .unset]) rfl ?_
    show Steps p.tables e below (s₁.setTop (mkF m 5 #[.val (.long xa), .second, .val (.long ya), .second, .val (.long xb), .second, .val (.long yb), .second, .val (.int mo), .val (.long (4294967295 : Int64)), .second, .unset, .unset, .unset, .unset, .unset, .unset, .unset, .unset, .unset, .unset, .unset, .unset, .unset] [])) _
    refine XS.lloadN X0.here hx rfl (hb hby at_5) rfl ?_
    show Steps p.tables e below (s₁.setTop (mkF m 6 #[.val (.long xa), .second, .val (.long ya), .second, .val (.long xb), .second, .val (.long yb), .second, .val (.int mo), .val (.long (4294967295 : Int64)), .second, .unset, .unset, .unset, .unset, .unset, .unset, .unset, .unset, .unset, .unset, .unset, .unset, .unset] [(.long xa)])) _
    refine XS.lload X0.here hx rfl (hb hby at_6) rfl ?_
    show Steps p.tables e below (s₁.setTop (mkF m 8 #[.val (.long xa), .second, .val (.long ya), .second, .val (.long xb), .second, .val (.long yb), .second, .val (.int mo), .val (.long (4294967295 : Int64)), .second, .unset, .unset, .unset, .unset, .unset, .unset, .unset, .unset, .unset, .unset, .unset, .unset, .unset] [(.long (4294967295 : Int64)), (.long xa)])) _
    refine XS.land X0.here hx rfl (hb hby at_8) rfl ?_
    show Steps p.tables e below (s₁.setTop (mkF m 9 #[.val (.long xa), .second, .val (.long ya), .second, .val (.long xb), .second, .val (.long yb), .second, .val (.int mo), .val (.long (4294967295 : Int64)), .second, .unset, .unset, .unset, .unset, .unset, .unset, .unset, .unset, .unset, .unset, .unset, .unset, .unset] [(.long (xa &&& (4294967295 : Int64)))])) _
    refine XS.lload X0.here hx rfl (hb hby at_9) rfl ?_
    show Steps p.tables e below (s₁.setTop (mkF m 11 #[.val (.long xa), .second, .val (.long ya), .second, .val (.long xb), .second, .val (.long yb), .second, .val (.int mo), .val (.long (4294967295 : Int64)), .second, .unset, .unset, .unset, .unset, .unset, .unset, .unset, .unset, .unset, .unset, .unset, .unset, .unset] [(.long (4294967295 : Int64)), (.long (xa &&& (4294967295 : Int64)))])) _
    refine own_lremM X0 hx rfl (hb hby at_11) rfl (by decide) ?_
    show Steps p.tables e below (s₁.setTop (mkF m 12 #[.val (.long xa), .second, .val (.long ya), .second, .val (.long xb), .second, .val (.long yb), .second, .val (.int mo), .val (.long (4294967295 : Int64)), .second, .unset, .unset, .unset, .unset, .unset, .unset, .unset, .unset, .unset, .unset, .unset, .unset, .unset] [(.long ((xa &&& (4294967295 : Int64)) % (4294967295 : Int64)))])) _
    refine XS.lstore X0.here hx rfl (hb hby at_12) rfl (l' := #[.val (.long xa), .second, .val (.long ya), .second, .val (.long xb), .second, .val (.long yb), .second, .val (.int mo), .val (.long (4294967295 : Int64)), .second, .val (.long ((xa &&& (4294967295 : Int64)) % (4294967295 : Int64))), .second, .unset, .unset, .unset, .unset, .unset, .unset, .unset, .unset, .unset, .unset, .unset]) rfl ?_
    show Steps p.tables e below (s₁.setTop (mkF m 14 #[.val (.long xa), .second, .val (.long ya), .second, .val (.long xb), .second, .val (.long yb), .second, .val (.int mo), .val (.long (4294967295 : Int64)), .second, .val (.long ((xa &&& (4294967295 : Int64)) % (4294967295 : Int64))), .second, .unset, .unset, .unset, .unset, .unset, .unset, .unset, .unset, .unset, .unset, .unset] [])) _
    exact kt)
  obtain ⟨lo, hlo⟩ : ∃ z, z = ((xa &&& (4294967295 : Int64)) % (4294967295 : Int64)) := ⟨_, rfl⟩
  have pre2 : ∀ t, Steps p.tables e below (s₁.setTop (mkF m 14 #[.val (.long xa), .second, .val (.long ya), .second, .val (.long xb), .second, .val (.long yb), .second, .val (.int mo), .val (.long (4294967295 : Int64)), .second, .val (.long lo), .second, .unset, .unset, .unset, .unset, .unset, .unset, .unset, .unset, .unset, .unset, .unset] [])) t → Steps p.tables e below (s₁.setTop (entryFrame m #[(.long xa), (.long ya), (.long xb), (.long yb), (.int mo)] maxLocals)) t := by
    rw [hlo]; exact pre1
  have b0 := own_lo xa lo hlo
  have pre3 : ∀ t, Steps p.tables e below (s₁.setTop (mkF m 31 #[.val (.long xa), .second, .val (.long ya), .second, .val (.long xb), .second, .val (.long yb), .second, .val (.int mo), .val (.long (4294967295 : Int64)), .second, .val (.long lo), .second, .val (.long ((lo + (1 : Int64)) + ((ya &&& (4294967295 : Int64)) % ((4294967295 : Int64) - lo)))), .second, .unset, .unset, .unset, .unset, .unset, .unset, .unset, .unset, .unset] [])) t → Steps p.tables e below (s₁.setTop (entryFrame m #[(.long xa), (.long ya), (.long xb), (.long yb), (.int mo)] maxLocals)) t := fun t kt => pre2 t (by
    refine XS.lload X0.here hx rfl (hb hby at_14) rfl ?_
    show Steps p.tables e below (s₁.setTop (mkF m 16 #[.val (.long xa), .second, .val (.long ya), .second, .val (.long xb), .second, .val (.long yb), .second, .val (.int mo), .val (.long (4294967295 : Int64)), .second, .val (.long lo), .second, .unset, .unset, .unset, .unset, .unset, .unset, .unset, .unset, .unset, .unset, .unset] [(.long lo)])) _
    refine XS.lconst X0.here hx rfl (hb hby at_16) ?_
    show Steps p.tables e below (s₁.setTop (mkF m 17 #[.val (.long xa), .second, .val (.long ya), .second, .val (.long xb), .second, .val (.long yb), .second, .val (.int mo), .val (.long (4294967295 : Int64)), .second, .val (.long lo), .second, .unset, .unset, .unset, .unset, .unset, .unset, .unset, .unset, .unset, .unset, .unset] [(.long (1 : Int64)), (.long lo)])) _
    refine XS.ladd X0.here hx rfl (hb hby at_17) rfl ?_
    show Steps p.tables e below (s₁.setTop (mkF m 18 #[.val (.long xa), .second, .val (.long ya), .second, .val (.long xb), .second, .val (.long yb), .second, .val (.int mo), .val (.long (4294967295 : Int64)), .second, .val (.long lo), .second, .unset, .unset, .unset, .unset, .unset, .unset, .unset, .unset, .unset, .unset, .unset] [(.long (lo + (1 : Int64)))])) _
    refine XS.lloadN X0.here hx rfl (hb hby at_18) rfl ?_
    show Steps p.tables e below (s₁.setTop (mkF m 19 #[.val (.long xa), .second, .val (.long ya), .second, .val (.long xb), .second, .val (.long yb), .second, .val (.int mo), .val (.long (4294967295 : Int64)), .second, .val (.long lo), .second, .unset, .unset, .unset, .unset, .unset, .unset, .unset, .unset, .unset, .unset, .unset] [(.long ya), (.long (lo + (1 : Int64)))])) _
    refine XS.lload X0.here hx rfl (hb hby at_19) rfl ?_
    show Steps p.tables e below (s₁.setTop (mkF m 21 #[.val (.long xa), .second, .val (.long ya), .second, .val (.long xb), .second, .val (.long yb), .second, .val (.int mo), .val (.long (4294967295 : Int64)), .second, .val (.long lo), .second, .unset, .unset, .unset, .unset, .unset, .unset, .unset, .unset, .unset, .unset, .unset] [(.long (4294967295 : Int64)), (.long ya), (.long (lo + (1 : Int64)))])) _
    refine XS.land X0.here hx rfl (hb hby at_21) rfl ?_
    show Steps p.tables e below (s₁.setTop (mkF m 22 #[.val (.long xa), .second, .val (.long ya), .second, .val (.long xb), .second, .val (.long yb), .second, .val (.int mo), .val (.long (4294967295 : Int64)), .second, .val (.long lo), .second, .unset, .unset, .unset, .unset, .unset, .unset, .unset, .unset, .unset, .unset, .unset] [(.long (ya &&& (4294967295 : Int64))), (.long (lo + (1 : Int64)))])) _
    refine XS.lload X0.here hx rfl (hb hby at_22) rfl ?_
    show Steps p.tables e below (s₁.setTop (mkF m 24 #[.val (.long xa), .second, .val (.long ya), .second, .val (.long xb), .second, .val (.long yb), .second, .val (.int mo), .val (.long (4294967295 : Int64)), .second, .val (.long lo), .second, .unset, .unset, .unset, .unset, .unset, .unset, .unset, .unset, .unset, .unset, .unset] [(.long (4294967295 : Int64)), (.long (ya &&& (4294967295 : Int64))), (.long (lo + (1 : Int64)))])) _
    refine XS.lload X0.here hx rfl (hb hby at_24) rfl ?_
    show Steps p.tables e below (s₁.setTop (mkF m 26 #[.val (.long xa), .second, .val (.long ya), .second, .val (.long xb), .second, .val (.long yb), .second, .val (.int mo), .val (.long (4294967295 : Int64)), .second, .val (.long lo), .second, .unset, .unset, .unset, .unset, .unset, .unset, .unset, .unset, .unset, .unset, .unset] [(.long lo), (.long (4294967295 : Int64)), (.long (ya &&& (4294967295 : Int64))), (.long (lo + (1 : Int64)))])) _
    refine XS.lsub X0.here hx rfl (hb hby at_26) rfl ?_
    show Steps p.tables e below (s₁.setTop (mkF m 27 #[.val (.long xa), .second, .val (.long ya), .second, .val (.long xb), .second, .val (.long yb), .second, .val (.int mo), .val (.long (4294967295 : Int64)), .second, .val (.long lo), .second, .unset, .unset, .unset, .unset, .unset, .unset, .unset, .unset, .unset, .unset, .unset] [(.long ((4294967295 : Int64) - lo)), (.long (ya &&& (4294967295 : Int64))), (.long (lo + (1 : Int64)))])) _
    refine own_lremM X0 hx rfl (hb hby at_27) rfl (own_nz lo b0) ?_
    show Steps p.tables e below (s₁.setTop (mkF m 28 #[.val (.long xa), .second, .val (.long ya), .second, .val (.long xb), .second, .val (.long yb), .second, .val (.int mo), .val (.long (4294967295 : Int64)), .second, .val (.long lo), .second, .unset, .unset, .unset, .unset, .unset, .unset, .unset, .unset, .unset, .unset, .unset] [(.long ((ya &&& (4294967295 : Int64)) % ((4294967295 : Int64) - lo))), (.long (lo + (1 : Int64)))])) _
    refine XS.ladd X0.here hx rfl (hb hby at_28) rfl ?_
    show Steps p.tables e below (s₁.setTop (mkF m 29 #[.val (.long xa), .second, .val (.long ya), .second, .val (.long xb), .second, .val (.long yb), .second, .val (.int mo), .val (.long (4294967295 : Int64)), .second, .val (.long lo), .second, .unset, .unset, .unset, .unset, .unset, .unset, .unset, .unset, .unset, .unset, .unset] [(.long ((lo + (1 : Int64)) + ((ya &&& (4294967295 : Int64)) % ((4294967295 : Int64) - lo))))])) _
    refine XS.lstore X0.here hx rfl (hb hby at_29) rfl (l' := #[.val (.long xa), .second, .val (.long ya), .second, .val (.long xb), .second, .val (.long yb), .second, .val (.int mo), .val (.long (4294967295 : Int64)), .second, .val (.long lo), .second, .val (.long ((lo + (1 : Int64)) + ((ya &&& (4294967295 : Int64)) % ((4294967295 : Int64) - lo)))), .second, .unset, .unset, .unset, .unset, .unset, .unset, .unset, .unset, .unset]) rfl ?_
    show Steps p.tables e below (s₁.setTop (mkF m 31 #[.val (.long xa), .second, .val (.long ya), .second, .val (.long xb), .second, .val (.long yb), .second, .val (.int mo), .val (.long (4294967295 : Int64)), .second, .val (.long lo), .second, .val (.long ((lo + (1 : Int64)) + ((ya &&& (4294967295 : Int64)) % ((4294967295 : Int64) - lo)))), .second, .unset, .unset, .unset, .unset, .unset, .unset, .unset, .unset, .unset] [])) _
    exact kt)
  obtain ⟨hi, hhi⟩ : ∃ z, z = ((lo + (1 : Int64)) + ((ya &&& (4294967295 : Int64)) % ((4294967295 : Int64) - lo))) := ⟨_, rfl⟩
  have pre4 : ∀ t, Steps p.tables e below (s₁.setTop (mkF m 31 #[.val (.long xa), .second, .val (.long ya), .second, .val (.long xb), .second, .val (.long yb), .second, .val (.int mo), .val (.long (4294967295 : Int64)), .second, .val (.long lo), .second, .val (.long hi), .second, .unset, .unset, .unset, .unset, .unset, .unset, .unset, .unset, .unset] [])) t → Steps p.tables e below (s₁.setTop (entryFrame m #[(.long xa), (.long ya), (.long xb), (.long yb), (.int mo)] maxLocals)) t := by
    rw [hhi]; exact pre3
  have b1 := own_hi ya lo hi b0 hhi
  have pre5 : ∀ t, Steps p.tables e below (s₁.setTop (mkF m 37 #[.val (.long xa), .second, .val (.long ya), .second, .val (.long xb), .second, .val (.long yb), .second, .val (.int mo), .val (.long (4294967295 : Int64)), .second, .val (.long lo), .second, .val (.long hi), .second, .unset, .unset, .unset, .unset, .val (.int (mo &&& (3 : Int32))), .unset, .unset, .unset, .unset] [])) t → Steps p.tables e below (s₁.setTop (entryFrame m #[(.long xa), (.long ya), (.long xb), (.long yb), (.int mo)] maxLocals)) t := fun t kt => pre4 t (by
    refine XS.iload X0.here hx rfl (hb hby at_31) rfl ?_
    show Steps p.tables e below (s₁.setTop (mkF m 33 #[.val (.long xa), .second, .val (.long ya), .second, .val (.long xb), .second, .val (.long yb), .second, .val (.int mo), .val (.long (4294967295 : Int64)), .second, .val (.long lo), .second, .val (.long hi), .second, .unset, .unset, .unset, .unset, .unset, .unset, .unset, .unset, .unset] [(.int mo)])) _
    refine XS.iconst X0.here hx rfl (hb hby at_33) ?_
    show Steps p.tables e below (s₁.setTop (mkF m 34 #[.val (.long xa), .second, .val (.long ya), .second, .val (.long xb), .second, .val (.long yb), .second, .val (.int mo), .val (.long (4294967295 : Int64)), .second, .val (.long lo), .second, .val (.long hi), .second, .unset, .unset, .unset, .unset, .unset, .unset, .unset, .unset, .unset] [(.int (3 : Int32)), (.int mo)])) _
    refine XS.iand X0.here hx rfl (hb hby at_34) rfl ?_
    show Steps p.tables e below (s₁.setTop (mkF m 35 #[.val (.long xa), .second, .val (.long ya), .second, .val (.long xb), .second, .val (.long yb), .second, .val (.int mo), .val (.long (4294967295 : Int64)), .second, .val (.long lo), .second, .val (.long hi), .second, .unset, .unset, .unset, .unset, .unset, .unset, .unset, .unset, .unset] [(.int (mo &&& (3 : Int32)))])) _
    refine XS.istore X0.here hx rfl (hb hby at_35) rfl (l' := #[.val (.long xa), .second, .val (.long ya), .second, .val (.long xb), .second, .val (.long yb), .second, .val (.int mo), .val (.long (4294967295 : Int64)), .second, .val (.long lo), .second, .val (.long hi), .second, .unset, .unset, .unset, .unset, .val (.int (mo &&& (3 : Int32))), .unset, .unset, .unset, .unset]) rfl ?_
    show Steps p.tables e below (s₁.setTop (mkF m 37 #[.val (.long xa), .second, .val (.long ya), .second, .val (.long xb), .second, .val (.long yb), .second, .val (.int mo), .val (.long (4294967295 : Int64)), .second, .val (.long lo), .second, .val (.long hi), .second, .unset, .unset, .unset, .unset, .val (.int (mo &&& (3 : Int32))), .unset, .unset, .unset, .unset] [])) _
    exact kt)
  obtain ⟨mm, hmm⟩ : ∃ z, z = (mo &&& (3 : Int32)) := ⟨_, rfl⟩
  have pre6 : ∀ t, Steps p.tables e below (s₁.setTop (mkF m 37 #[.val (.long xa), .second, .val (.long ya), .second, .val (.long xb), .second, .val (.long yb), .second, .val (.int mo), .val (.long (4294967295 : Int64)), .second, .val (.long lo), .second, .val (.long hi), .second, .unset, .unset, .unset, .unset, .val (.int mm), .unset, .unset, .unset, .unset] [])) t → Steps p.tables e below (s₁.setTop (entryFrame m #[(.long xa), (.long ya), (.long xb), (.long yb), (.int mo)] maxLocals)) t := by
    rw [hmm]; exact pre5
  have pre7 : ∀ t, Steps p.tables e below (s₁.setTop (mkF m 39 #[.val (.long xa), .second, .val (.long ya), .second, .val (.long xb), .second, .val (.long yb), .second, .val (.int mo), .val (.long (4294967295 : Int64)), .second, .val (.long lo), .second, .val (.long hi), .second, .unset, .unset, .unset, .unset, .val (.int mm), .unset, .unset, .unset, .unset] [(.int mm)])) t → Steps p.tables e below (s₁.setTop (entryFrame m #[(.long xa), (.long ya), (.long xb), (.long yb), (.int mo)] maxLocals)) t := fun t kt => pre6 t (by
    refine XS.iload X0.here hx rfl (hb hby at_37) rfl ?_
    show Steps p.tables e below (s₁.setTop (mkF m 39 #[.val (.long xa), .second, .val (.long ya), .second, .val (.long xb), .second, .val (.long yb), .second, .val (.int mo), .val (.long (4294967295 : Int64)), .second, .val (.long lo), .second, .val (.long hi), .second, .unset, .unset, .unset, .unset, .val (.int mm), .unset, .unset, .unset, .unset] [(.int mm)])) _
    exact kt)
  have pre8 : ∀ t, Steps p.tables e below (s₁.setTop (mkF m 135 #[.val (.long xa), .second, .val (.long ya), .second, .val (.long xb), .second, .val (.long yb), .second, .val (.int mo), .val (.long (4294967295 : Int64)), .second, .val (.long lo), .second, .val (.long hi), .second, .val (.long (if mm = (0 : Int32) then ((xb &&& (4294967295 : Int64)) % (4294967295 : Int64)) else (if mm = (1 : Int32) then lo else (if mm = (2 : Int32) then ((xb &&& (4294967295 : Int64)) % hi) else lo)))), .second, .val (.long (if mm = (0 : Int32) then ((((xb &&& (4294967295 : Int64)) % (4294967295 : Int64)) + (1 : Int64)) + ((yb &&& (4294967295 : Int64)) % ((4294967295 : Int64) - ((xb &&& (4294967295 : Int64)) % (4294967295 : Int64))))) else (if mm = (1 : Int32) then ((lo + (1 : Int64)) + ((yb &&& (4294967295 : Int64)) % ((4294967295 : Int64) - lo))) else hi))), .second, .val (.int mm), .unset, .unset, .unset, .unset] [])) t → Steps p.tables e below (s₁.setTop (entryFrame m #[(.long xa), (.long ya), (.long xb), (.long yb), (.int mo)] maxLocals)) t := fun t kt => pre7 t (by
    by_cases c39_1 : mm = (0 : Int32)
    · rw [if_pos c39_1] at kt
      rw [if_pos c39_1] at kt
      refine XS.ifNo X0.here hx rfl (hb hby at_39) rfl ((if0 _ _).trans (teq c39_1).2) ?_
      show Steps p.tables e below (s₁.setTop (mkF m 42 #[.val (.long xa), .second, .val (.long ya), .second, .val (.long xb), .second, .val (.long yb), .second, .val (.int mo), .val (.long (4294967295 : Int64)), .second, .val (.long lo), .second, .val (.long hi), .second, .unset, .unset, .unset, .unset, .val (.int mm), .unset, .unset, .unset, .unset] [])) _
      refine XS.lload X0.here hx rfl (hb hby at_42) rfl ?_
      show Steps p.tables e below (s₁.setTop (mkF m 44 #[.val (.long xa), .second, .val (.long ya), .second, .val (.long xb), .second, .val (.long yb), .second, .val (.int mo), .val (.long (4294967295 : Int64)), .second, .val (.long lo), .second, .val (.long hi), .second, .unset, .unset, .unset, .unset, .val (.int mm), .unset, .unset, .unset, .unset] [(.long xb)])) _
      refine XS.lload X0.here hx rfl (hb hby at_44) rfl ?_
      show Steps p.tables e below (s₁.setTop (mkF m 46 #[.val (.long xa), .second, .val (.long ya), .second, .val (.long xb), .second, .val (.long yb), .second, .val (.int mo), .val (.long (4294967295 : Int64)), .second, .val (.long lo), .second, .val (.long hi), .second, .unset, .unset, .unset, .unset, .val (.int mm), .unset, .unset, .unset, .unset] [(.long (4294967295 : Int64)), (.long xb)])) _
      refine XS.land X0.here hx rfl (hb hby at_46) rfl ?_
      show Steps p.tables e below (s₁.setTop (mkF m 47 #[.val (.long xa), .second, .val (.long ya), .second, .val (.long xb), .second, .val (.long yb), .second, .val (.int mo), .val (.long (4294967295 : Int64)), .second, .val (.long lo), .second, .val (.long hi), .second, .unset, .unset, .unset, .unset, .val (.int mm), .unset, .unset, .unset, .unset] [(.long (xb &&& (4294967295 : Int64)))])) _
      refine XS.lload X0.here hx rfl (hb hby at_47) rfl ?_
      show Steps p.tables e below (s₁.setTop (mkF m 49 #[.val (.long xa), .second, .val (.long ya), .second, .val (.long xb), .second, .val (.long yb), .second, .val (.int mo), .val (.long (4294967295 : Int64)), .second, .val (.long lo), .second, .val (.long hi), .second, .unset, .unset, .unset, .unset, .val (.int mm), .unset, .unset, .unset, .unset] [(.long (4294967295 : Int64)), (.long (xb &&& (4294967295 : Int64)))])) _
      refine own_lremM X0 hx rfl (hb hby at_49) rfl (by decide) ?_
      show Steps p.tables e below (s₁.setTop (mkF m 50 #[.val (.long xa), .second, .val (.long ya), .second, .val (.long xb), .second, .val (.long yb), .second, .val (.int mo), .val (.long (4294967295 : Int64)), .second, .val (.long lo), .second, .val (.long hi), .second, .unset, .unset, .unset, .unset, .val (.int mm), .unset, .unset, .unset, .unset] [(.long ((xb &&& (4294967295 : Int64)) % (4294967295 : Int64)))])) _
      refine XS.lstore X0.here hx rfl (hb hby at_50) rfl (l' := #[.val (.long xa), .second, .val (.long ya), .second, .val (.long xb), .second, .val (.long yb), .second, .val (.int mo), .val (.long (4294967295 : Int64)), .second, .val (.long lo), .second, .val (.long hi), .second, .val (.long ((xb &&& (4294967295 : Int64)) % (4294967295 : Int64))), .second, .unset, .unset, .val (.int mm), .unset, .unset, .unset, .unset]) rfl ?_
      show Steps p.tables e below (s₁.setTop (mkF m 52 #[.val (.long xa), .second, .val (.long ya), .second, .val (.long xb), .second, .val (.long yb), .second, .val (.int mo), .val (.long (4294967295 : Int64)), .second, .val (.long lo), .second, .val (.long hi), .second, .val (.long ((xb &&& (4294967295 : Int64)) % (4294967295 : Int64))), .second, .unset, .unset, .val (.int mm), .unset, .unset, .unset, .unset] [])) _
      refine XS.lload X0.here hx rfl (hb hby at_52) rfl ?_
      show Steps p.tables e below (s₁.setTop (mkF m 54 #[.val (.long xa), .second, .val (.long ya), .second, .val (.long xb), .second, .val (.long yb), .second, .val (.int mo), .val (.long (4294967295 : Int64)), .second, .val (.long lo), .second, .val (.long hi), .second, .val (.long ((xb &&& (4294967295 : Int64)) % (4294967295 : Int64))), .second, .unset, .unset, .val (.int mm), .unset, .unset, .unset, .unset] [(.long ((xb &&& (4294967295 : Int64)) % (4294967295 : Int64)))])) _
      refine XS.lconst X0.here hx rfl (hb hby at_54) ?_
      show Steps p.tables e below (s₁.setTop (mkF m 55 #[.val (.long xa), .second, .val (.long ya), .second, .val (.long xb), .second, .val (.long yb), .second, .val (.int mo), .val (.long (4294967295 : Int64)), .second, .val (.long lo), .second, .val (.long hi), .second, .val (.long ((xb &&& (4294967295 : Int64)) % (4294967295 : Int64))), .second, .unset, .unset, .val (.int mm), .unset, .unset, .unset, .unset] [(.long (1 : Int64)), (.long ((xb &&& (4294967295 : Int64)) % (4294967295 : Int64)))])) _
      refine XS.ladd X0.here hx rfl (hb hby at_55) rfl ?_
      show Steps p.tables e below (s₁.setTop (mkF m 56 #[.val (.long xa), .second, .val (.long ya), .second, .val (.long xb), .second, .val (.long yb), .second, .val (.int mo), .val (.long (4294967295 : Int64)), .second, .val (.long lo), .second, .val (.long hi), .second, .val (.long ((xb &&& (4294967295 : Int64)) % (4294967295 : Int64))), .second, .unset, .unset, .val (.int mm), .unset, .unset, .unset, .unset] [(.long (((xb &&& (4294967295 : Int64)) % (4294967295 : Int64)) + (1 : Int64)))])) _
      refine XS.lload X0.here hx rfl (hb hby at_56) rfl ?_
      show Steps p.tables e below (s₁.setTop (mkF m 58 #[.val (.long xa), .second, .val (.long ya), .second, .val (.long xb), .second, .val (.long yb), .second, .val (.int mo), .val (.long (4294967295 : Int64)), .second, .val (.long lo), .second, .val (.long hi), .second, .val (.long ((xb &&& (4294967295 : Int64)) % (4294967295 : Int64))), .second, .unset, .unset, .val (.int mm), .unset, .unset, .unset, .unset] [(.long yb), (.long (((xb &&& (4294967295 : Int64)) % (4294967295 : Int64)) + (1 : Int64)))])) _
      refine XS.lload X0.here hx rfl (hb hby at_58) rfl ?_
      show Steps p.tables e below (s₁.setTop (mkF m 60 #[.val (.long xa), .second, .val (.long ya), .second, .val (.long xb), .second, .val (.long yb), .second, .val (.int mo), .val (.long (4294967295 : Int64)), .second, .val (.long lo), .second, .val (.long hi), .second, .val (.long ((xb &&& (4294967295 : Int64)) % (4294967295 : Int64))), .second, .unset, .unset, .val (.int mm), .unset, .unset, .unset, .unset] [(.long (4294967295 : Int64)), (.long yb), (.long (((xb &&& (4294967295 : Int64)) % (4294967295 : Int64)) + (1 : Int64)))])) _
      refine XS.land X0.here hx rfl (hb hby at_60) rfl ?_
      show Steps p.tables e below (s₁.setTop (mkF m 61 #[.val (.long xa), .second, .val (.long ya), .second, .val (.long xb), .second, .val (.long yb), .second, .val (.int mo), .val (.long (4294967295 : Int64)), .second, .val (.long lo), .second, .val (.long hi), .second, .val (.long ((xb &&& (4294967295 : Int64)) % (4294967295 : Int64))), .second, .unset, .unset, .val (.int mm), .unset, .unset, .unset, .unset] [(.long (yb &&& (4294967295 : Int64))), (.long (((xb &&& (4294967295 : Int64)) % (4294967295 : Int64)) + (1 : Int64)))])) _
      refine XS.lload X0.here hx rfl (hb hby at_61) rfl ?_
      show Steps p.tables e below (s₁.setTop (mkF m 63 #[.val (.long xa), .second, .val (.long ya), .second, .val (.long xb), .second, .val (.long yb), .second, .val (.int mo), .val (.long (4294967295 : Int64)), .second, .val (.long lo), .second, .val (.long hi), .second, .val (.long ((xb &&& (4294967295 : Int64)) % (4294967295 : Int64))), .second, .unset, .unset, .val (.int mm), .unset, .unset, .unset, .unset] [(.long (4294967295 : Int64)), (.long (yb &&& (4294967295 : Int64))), (.long (((xb &&& (4294967295 : Int64)) % (4294967295 : Int64)) + (1 : Int64)))])) _
      refine XS.lload X0.here hx rfl (hb hby at_63) rfl ?_
      show Steps p.tables e below (s₁.setTop (mkF m 65 #[.val (.long xa), .second, .val (.long ya), .second, .val (.long xb), .second, .val (.long yb), .second, .val (.int mo), .val (.long (4294967295 : Int64)), .second, .val (.long lo), .second, .val (.long hi), .second, .val (.long ((xb &&& (4294967295 : Int64)) % (4294967295 : Int64))), .second, .unset, .unset, .val (.int mm), .unset, .unset, .unset, .unset] [(.long ((xb &&& (4294967295 : Int64)) % (4294967295 : Int64))), (.long (4294967295 : Int64)), (.long (yb &&& (4294967295 : Int64))), (.long (((xb &&& (4294967295 : Int64)) % (4294967295 : Int64)) + (1 : Int64)))])) _
      refine XS.lsub X0.here hx rfl (hb hby at_65) rfl ?_
      show Steps p.tables e below (s₁.setTop (mkF m 66 #[.val (.long xa), .second, .val (.long ya), .second, .val (.long xb), .second, .val (.long yb), .second, .val (.int mo), .val (.long (4294967295 : Int64)), .second, .val (.long lo), .second, .val (.long hi), .second, .val (.long ((xb &&& (4294967295 : Int64)) % (4294967295 : Int64))), .second, .unset, .unset, .val (.int mm), .unset, .unset, .unset, .unset] [(.long ((4294967295 : Int64) - ((xb &&& (4294967295 : Int64)) % (4294967295 : Int64)))), (.long (yb &&& (4294967295 : Int64))), (.long (((xb &&& (4294967295 : Int64)) % (4294967295 : Int64)) + (1 : Int64)))])) _
      refine own_lremM X0 hx rfl (hb hby at_66) rfl (own_nz _ (own_lo xb _ rfl)) ?_
      show Steps p.tables e below (s₁.setTop (mkF m 67 #[.val (.long xa), .second, .val (.long ya), .second, .val (.long xb), .second, .val (.long yb), .second, .val (.int mo), .val (.long (4294967295 : Int64)), .second, .val (.long lo), .second, .val (.long hi), .second, .val (.long ((xb &&& (4294967295 : Int64)) % (4294967295 : Int64))), .second, .unset, .unset, .val (.int mm), .unset, .unset, .unset, .unset] [(.long ((yb &&& (4294967295 : Int64)) % ((4294967295 : Int64) - ((xb &&& (4294967295 : Int64)) % (4294967295 : Int64))))), (.long (((xb &&& (4294967295 : Int64)) % (4294967295 : Int64)) + (1 : Int64)))])) _
      refine XS.ladd X0.here hx rfl (hb hby at_67) rfl ?_
      show Steps p.tables e below (s₁.setTop (mkF m 68 #[.val (.long xa), .second, .val (.long ya), .second, .val (.long xb), .second, .val (.long yb), .second, .val (.int mo), .val (.long (4294967295 : Int64)), .second, .val (.long lo), .second, .val (.long hi), .second, .val (.long ((xb &&& (4294967295 : Int64)) % (4294967295 : Int64))), .second, .unset, .unset, .val (.int mm), .unset, .unset, .unset, .unset] [(.long ((((xb &&& (4294967295 : Int64)) % (4294967295 : Int64)) + (1 : Int64)) + ((yb &&& (4294967295 : Int64)) % ((4294967295 : Int64) - ((xb &&& (4294967295 : Int64)) % (4294967295 : Int64))))))])) _
      refine XS.lstore X0.here hx rfl (hb hby at_68) rfl (l' := #[.val (.long xa), .second, .val (.long ya), .second, .val (.long xb), .second, .val (.long yb), .second, .val (.int mo), .val (.long (4294967295 : Int64)), .second, .val (.long lo), .second, .val (.long hi), .second, .val (.long ((xb &&& (4294967295 : Int64)) % (4294967295 : Int64))), .second, .val (.long ((((xb &&& (4294967295 : Int64)) % (4294967295 : Int64)) + (1 : Int64)) + ((yb &&& (4294967295 : Int64)) % ((4294967295 : Int64) - ((xb &&& (4294967295 : Int64)) % (4294967295 : Int64)))))), .second, .val (.int mm), .unset, .unset, .unset, .unset]) rfl ?_
      show Steps p.tables e below (s₁.setTop (mkF m 70 #[.val (.long xa), .second, .val (.long ya), .second, .val (.long xb), .second, .val (.long yb), .second, .val (.int mo), .val (.long (4294967295 : Int64)), .second, .val (.long lo), .second, .val (.long hi), .second, .val (.long ((xb &&& (4294967295 : Int64)) % (4294967295 : Int64))), .second, .val (.long ((((xb &&& (4294967295 : Int64)) % (4294967295 : Int64)) + (1 : Int64)) + ((yb &&& (4294967295 : Int64)) % ((4294967295 : Int64) - ((xb &&& (4294967295 : Int64)) % (4294967295 : Int64)))))), .second, .val (.int mm), .unset, .unset, .unset, .unset] [])) _
      refine XS.goto X0.here hx rfl (pc0 := 70) (pc' := 135) rfl (hb hby at_70) (by decide) (by decide) ?_
      show Steps p.tables e below (s₁.setTop (mkF m 135 #[.val (.long xa), .second, .val (.long ya), .second, .val (.long xb), .second, .val (.long yb), .second, .val (.int mo), .val (.long (4294967295 : Int64)), .second, .val (.long lo), .second, .val (.long hi), .second, .val (.long ((xb &&& (4294967295 : Int64)) % (4294967295 : Int64))), .second, .val (.long ((((xb &&& (4294967295 : Int64)) % (4294967295 : Int64)) + (1 : Int64)) + ((yb &&& (4294967295 : Int64)) % ((4294967295 : Int64) - ((xb &&& (4294967295 : Int64)) % (4294967295 : Int64)))))), .second, .val (.int mm), .unset, .unset, .unset, .unset] [])) _
      exact kt
    · rw [if_neg c39_1] at kt
      rw [if_neg c39_1] at kt
      refine XS.ifYes X0.here hx rfl (pc0 := 39) (pc' := 73) rfl (hb hby at_39) rfl ((if0 _ _).trans (feq c39_1).2) (by decide) (by decide) ?_
      show Steps p.tables e below (s₁.setTop (mkF m 73 #[.val (.long xa), .second, .val (.long ya), .second, .val (.long xb), .second, .val (.long yb), .second, .val (.int mo), .val (.long (4294967295 : Int64)), .second, .val (.long lo), .second, .val (.long hi), .second, .unset, .unset, .unset, .unset, .val (.int mm), .unset, .unset, .unset, .unset] [])) _
      refine XS.iload X0.here hx rfl (hb hby at_73) rfl ?_
      show Steps p.tables e below (s₁.setTop (mkF m 75 #[.val (.long xa), .second, .val (.long ya), .second, .val (.long xb), .second, .val (.long yb), .second, .val (.int mo), .val (.long (4294967295 : Int64)), .second, .val (.long lo), .second, .val (.long hi), .second, .unset, .unset, .unset, .unset, .val (.int mm), .unset, .unset, .unset, .unset] [(.int mm)])) _
      refine XS.iconst X0.here hx rfl (hb hby at_75) ?_
      show Steps p.tables e below (s₁.setTop (mkF m 76 #[.val (.long xa), .second, .val (.long ya), .second, .val (.long xb), .second, .val (.long yb), .second, .val (.int mo), .val (.long (4294967295 : Int64)), .second, .val (.long lo), .second, .val (.long hi), .second, .unset, .unset, .unset, .unset, .val (.int mm), .unset, .unset, .unset, .unset] [(.int (1 : Int32)), (.int mm)])) _
      by_cases c76_2 : mm = (1 : Int32)
      · rw [if_pos c76_2] at kt
        rw [if_pos c76_2] at kt
        refine XS.icmpNo X0.here hx rfl (hb hby at_76) rfl (teq c76_2).2 ?_
        show Steps p.tables e below (s₁.setTop (mkF m 79 #[.val (.long xa), .second, .val (.long ya), .second, .val (.long xb), .second, .val (.long yb), .second, .val (.int mo), .val (.long (4294967295 : Int64)), .second, .val (.long lo), .second, .val (.long hi), .second, .unset, .unset, .unset, .unset, .val (.int mm), .unset, .unset, .unset, .unset] [])) _
        refine XS.lload X0.here hx rfl (hb hby at_79) rfl ?_
        show Steps p.tables e below (s₁.setTop (mkF m 81 #[.val (.long xa), .second, .val (.long ya), .second, .val (.long xb), .second, .val (.long yb), .second, .val (.int mo), .val (.long (4294967295 : Int64)), .second, .val (.long lo), .second, .val (.long hi), .second, .unset, .unset, .unset, .unset, .val (.int mm), .unset, .unset, .unset, .unset] [(.long lo)])) _
        refine XS.lstore X0.here hx rfl (hb hby at_81) rfl (l' := #[.val (.long xa), .second, .val (.long ya), .second, .val (.long xb), .second, .val (.long yb), .second, .val (.int mo), .val (.long (4294967295 : Int64)), .second, .val (.long lo), .second, .val (.long hi), .second, .val (.long lo), .second, .unset, .unset, .val (.int mm), .unset, .unset, .unset, .unset]) rfl ?_
        show Steps p.tables e below (s₁.setTop (mkF m 83 #[.val (.long xa), .second, .val (.long ya), .second, .val (.long xb), .second, .val (.long yb), .second, .val (.int mo), .val (.long (4294967295 : Int64)), .second, .val (.long lo), .second, .val (.long hi), .second, .val (.long lo), .second, .unset, .unset, .val (.int mm), .unset, .unset, .unset, .unset] [])) _
        refine XS.lload X0.here hx rfl (hb hby at_83) rfl ?_
        show Steps p.tables e below (s₁.setTop (mkF m 85 #[.val (.long xa), .second, .val (.long ya), .second, .val (.long xb), .second, .val (.long yb), .second, .val (.int mo), .val (.long (4294967295 : Int64)), .second, .val (.long lo), .second, .val (.long hi), .second, .val (.long lo), .second, .unset, .unset, .val (.int mm), .unset, .unset, .unset, .unset] [(.long lo)])) _
        refine XS.lconst X0.here hx rfl (hb hby at_85) ?_
        show Steps p.tables e below (s₁.setTop (mkF m 86 #[.val (.long xa), .second, .val (.long ya), .second, .val (.long xb), .second, .val (.long yb), .second, .val (.int mo), .val (.long (4294967295 : Int64)), .second, .val (.long lo), .second, .val (.long hi), .second, .val (.long lo), .second, .unset, .unset, .val (.int mm), .unset, .unset, .unset, .unset] [(.long (1 : Int64)), (.long lo)])) _
        refine XS.ladd X0.here hx rfl (hb hby at_86) rfl ?_
        show Steps p.tables e below (s₁.setTop (mkF m 87 #[.val (.long xa), .second, .val (.long ya), .second, .val (.long xb), .second, .val (.long yb), .second, .val (.int mo), .val (.long (4294967295 : Int64)), .second, .val (.long lo), .second, .val (.long hi), .second, .val (.long lo), .second, .unset, .unset, .val (.int mm), .unset, .unset, .unset, .unset] [(.long (lo + (1 : Int64)))])) _
        refine XS.lload X0.here hx rfl (hb hby at_87) rfl ?_
        show Steps p.tables e below (s₁.setTop (mkF m 89 #[.val (.long xa), .second, .val (.long ya), .second, .val (.long xb), .second, .val (.long yb), .second, .val (.int mo), .val (.long (4294967295 : Int64)), .second, .val (.long lo), .second, .val (.long hi), .second, .val (.long lo), .second, .unset, .unset, .val (.int mm), .unset, .unset, .unset, .unset] [(.long yb), (.long (lo + (1 : Int64)))])) _
        refine XS.lload X0.here hx rfl (hb hby at_89) rfl ?_
        show Steps p.tables e below (s₁.setTop (mkF m 91 #[.val (.long xa), .second, .val (.long ya), .second, .val (.long xb), .second, .val (.long yb), .second, .val (.int mo), .val (.long (4294967295 : Int64)), .second, .val (.long lo), .second, .val (.long hi), .second, .val (.long lo), .second, .unset, .unset, .val (.int mm), .unset, .unset, .unset, .unset] [(.long (4294967295 : Int64)), (.long yb), (.long (lo + (1 : Int64)))])) _
        refine XS.land X0.here hx rfl (hb hby at_91) rfl ?_
        show Steps p.tables e below (s₁.setTop (mkF m 92 #[.val (.long xa), .second, .val (.long ya), .second, .val (.long xb), .second, .val (.long yb), .second, .val (.int mo), .val (.long (4294967295 : Int64)), .second, .val (.long lo), .second, .val (.long hi), .second, .val (.long lo), .second, .unset, .unset, .val (.int mm), .unset, .unset, .unset, .unset] [(.long (yb &&& (4294967295 : Int64))), (.long (lo + (1 : Int64)))])) _
        refine XS.lload X0.here hx rfl (hb hby at_92) rfl ?_
        show Steps p.tables e below (s₁.setTop (mkF m 94 #[.val (.long xa), .second, .val (.long ya), .second, .val (.long xb), .second, .val (.long yb), .second, .val (.int mo), .val (.long (4294967295 : Int64)), .second, .val (.long lo), .second, .val (.long hi), .second, .val (.long lo), .second, .unset, .unset, .val (.int mm), .unset, .unset, .unset, .unset] [(.long (4294967295 : Int64)), (.long (yb &&& (4294967295 : Int64))), (.long (lo + (1 : Int64)))])) _
        refine XS.lload X0.here hx rfl (hb hby at_94) rfl ?_
        show Steps p.tables e below (s₁.setTop (mkF m 96 #[.val (.long xa), .second, .val (.long ya), .second, .val (.long xb), .second, .val (.long yb), .second, .val (.int mo), .val (.long (4294967295 : Int64)), .second, .val (.long lo), .second, .val (.long hi), .second, .val (.long lo), .second, .unset, .unset, .val (.int mm), .unset, .unset, .unset, .unset] [(.long lo), (.long (4294967295 : Int64)), (.long (yb &&& (4294967295 : Int64))), (.long (lo + (1 : Int64)))])) _
        refine XS.lsub X0.here hx rfl (hb hby at_96) rfl ?_
        show Steps p.tables e below (s₁.setTop (mkF m 97 #[.val (.long xa), .second, .val (.long ya), .second, .val (.long xb), .second, .val (.long yb), .second, .val (.int mo), .val (.long (4294967295 : Int64)), .second, .val (.long lo), .second, .val (.long hi), .second, .val (.long lo), .second, .unset, .unset, .val (.int mm), .unset, .unset, .unset, .unset] [(.long ((4294967295 : Int64) - lo)), (.long (yb &&& (4294967295 : Int64))), (.long (lo + (1 : Int64)))])) _
        refine own_lremM X0 hx rfl (hb hby at_97) rfl (own_nz lo b0) ?_
        show Steps p.tables e below (s₁.setTop (mkF m 98 #[.val (.long xa), .second, .val (.long ya), .second, .val (.long xb), .second, .val (.long yb), .second, .val (.int mo), .val (.long (4294967295 : Int64)), .second, .val (.long lo), .second, .val (.long hi), .second, .val (.long lo), .second, .unset, .unset, .val (.int mm), .unset, .unset, .unset, .unset] [(.long ((yb &&& (4294967295 : Int64)) % ((4294967295 : Int64) - lo))), (.long (lo + (1 : Int64)))])) _
        refine XS.ladd X0.here hx rfl (hb hby at_98) rfl ?_
        show Steps p.tables e below (s₁.setTop (mkF m 99 #[.val (.long xa), .second, .val (.long ya), .second, .val (.long xb), .second, .val (.long yb), .second, .val (.int mo), .val (.long (4294967295 : Int64)), .second, .val (.long lo), .second, .val (.long hi), .second, .val (.long lo), .second, .unset, .unset, .val (.int mm), .unset, .unset, .unset, .unset] [(.long ((lo + (1 : Int64)) + ((yb &&& (4294967295 : Int64)) % ((4294967295 : Int64) - lo))))])) _
        refine XS.lstore X0.here hx rfl (hb hby at_99) rfl (l' := #[.val (.long xa), .second, .val (.long ya), .second, .val (.long xb), .second, .val (.long yb), .second, .val (.int mo), .val (.long (4294967295 : Int64)), .second, .val (.long lo), .second, .val (.long hi), .second, .val (.long lo), .second, .val (.long ((lo + (1 : Int64)) + ((yb &&& (4294967295 : Int64)) % ((4294967295 : Int64) - lo)))), .second, .val (.int mm), .unset, .unset, .unset, .unset]) rfl ?_
        show Steps p.tables e below (s₁.setTop (mkF m 101 #[.val (.long xa), .second, .val (.long ya), .second, .val (.long xb), .second, .val (.long yb), .second, .val (.int mo), .val (.long (4294967295 : Int64)), .second, .val (.long lo), .second, .val (.long hi), .second, .val (.long lo), .second, .val (.long ((lo + (1 : Int64)) + ((yb &&& (4294967295 : Int64)) % ((4294967295 : Int64) - lo)))), .second, .val (.int mm), .unset, .unset, .unset, .unset] [])) _
        refine XS.goto X0.here hx rfl (pc0 := 101) (pc' := 135) rfl (hb hby at_101) (by decide) (by decide) ?_
        show Steps p.tables e below (s₁.setTop (mkF m 135 #[.val (.long xa), .second, .val (.long ya), .second, .val (.long xb), .second, .val (.long yb), .second, .val (.int mo), .val (.long (4294967295 : Int64)), .second, .val (.long lo), .second, .val (.long hi), .second, .val (.long lo), .second, .val (.long ((lo + (1 : Int64)) + ((yb &&& (4294967295 : Int64)) % ((4294967295 : Int64) - lo)))), .second, .val (.int mm), .unset, .unset, .unset, .unset] [])) _
        exact kt
      · rw [if_neg c76_2] at kt
        rw [if_neg c76_2] at kt
        refine XS.icmpYes X0.here hx rfl (pc0 := 76) (pc' := 104) rfl (hb hby at_76) rfl (feq c76_2).2 (by decide) (by decide) ?_
        show Steps p.tables e below (s₁.setTop (mkF m 104 #[.val (.long xa), .second, .val (.long ya), .second, .val (.long xb), .second, .val (.long yb), .second, .val (.int mo), .val (.long (4294967295 : Int64)), .second, .val (.long lo), .second, .val (.long hi), .second, .unset, .unset, .unset, .unset, .val (.int mm), .unset, .unset, .unset, .unset] [])) _
        refine XS.iload X0.here hx rfl (hb hby at_104) rfl ?_
        show Steps p.tables e below (s₁.setTop (mkF m 106 #[.val (.long xa), .second, .val (.long ya), .second, .val (.long xb), .second, .val (.long yb), .second, .val (.int mo), .val (.long (4294967295 : Int64)), .second, .val (.long lo), .second, .val (.long hi), .second, .unset, .unset, .unset, .unset, .val (.int mm), .unset, .unset, .unset, .unset] [(.int mm)])) _
        refine XS.iconst X0.here hx rfl (hb hby at_106) ?_
        show Steps p.tables e below (s₁.setTop (mkF m 107 #[.val (.long xa), .second, .val (.long ya), .second, .val (.long xb), .second, .val (.long yb), .second, .val (.int mo), .val (.long (4294967295 : Int64)), .second, .val (.long lo), .second, .val (.long hi), .second, .unset, .unset, .unset, .unset, .val (.int mm), .unset, .unset, .unset, .unset] [(.int (2 : Int32)), (.int mm)])) _
        by_cases c107_3 : mm = (2 : Int32)
        · rw [if_pos c107_3] at kt
          refine XS.icmpNo X0.here hx rfl (hb hby at_107) rfl (teq c107_3).2 ?_
          show Steps p.tables e below (s₁.setTop (mkF m 110 #[.val (.long xa), .second, .val (.long ya), .second, .val (.long xb), .second, .val (.long yb), .second, .val (.int mo), .val (.long (4294967295 : Int64)), .second, .val (.long lo), .second, .val (.long hi), .second, .unset, .unset, .unset, .unset, .val (.int mm), .unset, .unset, .unset, .unset] [])) _
          refine XS.lload X0.here hx rfl (hb hby at_110) rfl ?_
          show Steps p.tables e below (s₁.setTop (mkF m 112 #[.val (.long xa), .second, .val (.long ya), .second, .val (.long xb), .second, .val (.long yb), .second, .val (.int mo), .val (.long (4294967295 : Int64)), .second, .val (.long lo), .second, .val (.long hi), .second, .unset, .unset, .unset, .unset, .val (.int mm), .unset, .unset, .unset, .unset] [(.long hi)])) _
          refine XS.lstore X0.here hx rfl (hb hby at_112) rfl (l' := #[.val (.long xa), .second, .val (.long ya), .second, .val (.long xb), .second, .val (.long yb), .second, .val (.int mo), .val (.long (4294967295 : Int64)), .second, .val (.long lo), .second, .val (.long hi), .second, .unset, .unset, .val (.long hi), .second, .val (.int mm), .unset, .unset, .unset, .unset]) rfl ?_
          show Steps p.tables e below (s₁.setTop (mkF m 114 #[.val (.long xa), .second, .val (.long ya), .second, .val (.long xb), .second, .val (.long yb), .second, .val (.int mo), .val (.long (4294967295 : Int64)), .second, .val (.long lo), .second, .val (.long hi), .second, .unset, .unset, .val (.long hi), .second, .val (.int mm), .unset, .unset, .unset, .unset] [])) _
          refine XS.lload X0.here hx rfl (hb hby at_114) rfl ?_
          show Steps p.tables e below (s₁.setTop (mkF m 116 #[.val (.long xa), .second, .val (.long ya), .second, .val (.long xb), .second, .val (.long yb), .second, .val (.int mo), .val (.long (4294967295 : Int64)), .second, .val (.long lo), .second, .val (.long hi), .second, .unset, .unset, .val (.long hi), .second, .val (.int mm), .unset, .unset, .unset, .unset] [(.long xb)])) _
          refine XS.lload X0.here hx rfl (hb hby at_116) rfl ?_
          show Steps p.tables e below (s₁.setTop (mkF m 118 #[.val (.long xa), .second, .val (.long ya), .second, .val (.long xb), .second, .val (.long yb), .second, .val (.int mo), .val (.long (4294967295 : Int64)), .second, .val (.long lo), .second, .val (.long hi), .second, .unset, .unset, .val (.long hi), .second, .val (.int mm), .unset, .unset, .unset, .unset] [(.long (4294967295 : Int64)), (.long xb)])) _
          refine XS.land X0.here hx rfl (hb hby at_118) rfl ?_
          show Steps p.tables e below (s₁.setTop (mkF m 119 #[.val (.long xa), .second, .val (.long ya), .second, .val (.long xb), .second, .val (.long yb), .second, .val (.int mo), .val (.long (4294967295 : Int64)), .second, .val (.long lo), .second, .val (.long hi), .second, .unset, .unset, .val (.long hi), .second, .val (.int mm), .unset, .unset, .unset, .unset] [(.long (xb &&& (4294967295 : Int64)))])) _
          refine XS.lload X0.here hx rfl (hb hby at_119) rfl ?_
          show Steps p.tables e below (s₁.setTop (mkF m 121 #[.val (.long xa), .second, .val (.long ya), .second, .val (.long xb), .second, .val (.long yb), .second, .val (.int mo), .val (.long (4294967295 : Int64)), .second, .val (.long lo), .second, .val (.long hi), .second, .unset, .unset, .val (.long hi), .second, .val (.int mm), .unset, .unset, .unset, .unset] [(.long hi), (.long (xb &&& (4294967295 : Int64)))])) _
          refine own_lremM X0 hx rfl (hb hby at_121) rfl (fun q => by rw [q] at b1; have e0 : (0 : Int64).toInt = 0 := rfl; omega) ?_
          show Steps p.tables e below (s₁.setTop (mkF m 122 #[.val (.long xa), .second, .val (.long ya), .second, .val (.long xb), .second, .val (.long yb), .second, .val (.int mo), .val (.long (4294967295 : Int64)), .second, .val (.long lo), .second, .val (.long hi), .second, .unset, .unset, .val (.long hi), .second, .val (.int mm), .unset, .unset, .unset, .unset] [(.long ((xb &&& (4294967295 : Int64)) % hi))])) _
          refine XS.lstore X0.here hx rfl (hb hby at_122) rfl (l' := #[.val (.long xa), .second, .val (.long ya), .second, .val (.long xb), .second, .val (.long yb), .second, .val (.int mo), .val (.long (4294967295 : Int64)), .second, .val (.long lo), .second, .val (.long hi), .second, .val (.long ((xb &&& (4294967295 : Int64)) % hi)), .second, .val (.long hi), .second, .val (.int mm), .unset, .unset, .unset, .unset]) rfl ?_
          show Steps p.tables e below (s₁.setTop (mkF m 124 #[.val (.long xa), .second, .val (.long ya), .second, .val (.long xb), .second, .val (.long yb), .second, .val (.int mo), .val (.long (4294967295 : Int64)), .second, .val (.long lo), .second, .val (.long hi), .second, .val (.long ((xb &&& (4294967295 : Int64)) % hi)), .second, .val (.long hi), .second, .val (.int mm), .unset, .unset, .unset, .unset] [])) _
          refine XS.goto X0.here hx rfl (pc0 := 124) (pc' := 135) rfl (hb hby at_124) (by decide) (by decide) ?_
          show Steps p.tables e below (s₁.setTop (mkF m 135 #[.val (.long xa), .second, .val (.long ya), .second, .val (.long xb), .second, .val (.long yb), .second, .val (.int mo), .val (.long (4294967295 : Int64)), .second, .val (.long lo), .second, .val (.long hi), .second, .val (.long ((xb &&& (4294967295 : Int64)) % hi)), .second, .val (.long hi), .second, .val (.int mm), .unset, .unset, .unset, .unset] [])) _
          exact kt
        · rw [if_neg c107_3] at kt
          refine XS.icmpYes X0.here hx rfl (pc0 := 107) (pc' := 127) rfl (hb hby at_107) rfl (feq c107_3).2 (by decide) (by decide) ?_
          show Steps p.tables e below (s₁.setTop (mkF m 127 #[.val (.long xa), .second, .val (.long ya), .second, .val (.long xb), .second, .val (.long yb), .second, .val (.int mo), .val (.long (4294967295 : Int64)), .second, .val (.long lo), .second, .val (.long hi), .second, .unset, .unset, .unset, .unset, .val (.int mm), .unset, .unset, .unset, .unset] [])) _
          refine XS.lload X0.here hx rfl (hb hby at_127) rfl ?_
          show Steps p.tables e below (s₁.setTop (mkF m 129 #[.val (.long xa), .second, .val (.long ya), .second, .val (.long xb), .second, .val (.long yb), .second, .val (.int mo), .val (.long (4294967295 : Int64)), .second, .val (.long lo), .second, .val (.long hi), .second, .unset, .unset, .unset, .unset, .val (.int mm), .unset, .unset, .unset, .unset] [(.long lo)])) _
          refine XS.lstore X0.here hx rfl (hb hby at_129) rfl (l' := #[.val (.long xa), .second, .val (.long ya), .second, .val (.long xb), .second, .val (.long yb), .second, .val (.int mo), .val (.long (4294967295 : Int64)), .second, .val (.long lo), .second, .val (.long hi), .second, .val (.long lo), .second, .unset, .unset, .val (.int mm), .unset, .unset, .unset, .unset]) rfl ?_
          show Steps p.tables e below (s₁.setTop (mkF m 131 #[.val (.long xa), .second, .val (.long ya), .second, .val (.long xb), .second, .val (.long yb), .second, .val (.int mo), .val (.long (4294967295 : Int64)), .second, .val (.long lo), .second, .val (.long hi), .second, .val (.long lo), .second, .unset, .unset, .val (.int mm), .unset, .unset, .unset, .unset] [])) _
          refine XS.lload X0.here hx rfl (hb hby at_131) rfl ?_
          show Steps p.tables e below (s₁.setTop (mkF m 133 #[.val (.long xa), .second, .val (.long ya), .second, .val (.long xb), .second, .val (.long yb), .second, .val (.int mo), .val (.long (4294967295 : Int64)), .second, .val (.long lo), .second, .val (.long hi), .second, .val (.long lo), .second, .unset, .unset, .val (.int mm), .unset, .unset, .unset, .unset] [(.long hi)])) _
          refine XS.lstore X0.here hx rfl (hb hby at_133) rfl (l' := #[.val (.long xa), .second, .val (.long ya), .second, .val (.long xb), .second, .val (.long yb), .second, .val (.int mo), .val (.long (4294967295 : Int64)), .second, .val (.long lo), .second, .val (.long hi), .second, .val (.long lo), .second, .val (.long hi), .second, .val (.int mm), .unset, .unset, .unset, .unset]) rfl ?_
          show Steps p.tables e below (s₁.setTop (mkF m 135 #[.val (.long xa), .second, .val (.long ya), .second, .val (.long xb), .second, .val (.long yb), .second, .val (.int mo), .val (.long (4294967295 : Int64)), .second, .val (.long lo), .second, .val (.long hi), .second, .val (.long lo), .second, .val (.long hi), .second, .val (.int mm), .unset, .unset, .unset, .unset] [])) _
          exact kt)
  obtain ⟨lo2, hlo2⟩ : ∃ z, z = (if mm = (0 : Int32) then ((xb &&& (4294967295 : Int64)) % (4294967295 : Int64)) else (if mm = (1 : Int32) then lo else (if mm = (2 : Int32) then ((xb &&& (4294967295 : Int64)) % hi) else lo))) := ⟨_, rfl⟩
  have pre9 : ∀ t, Steps p.tables e below (s₁.setTop (mkF m 135 #[.val (.long xa), .second, .val (.long ya), .second, .val (.long xb), .second, .val (.long yb), .second, .val (.int mo), .val (.long (4294967295 : Int64)), .second, .val (.long lo), .second, .val (.long hi), .second, .val (.long lo2), .second, .val (.long (if mm = (0 : Int32) then ((((xb &&& (4294967295 : Int64)) % (4294967295 : Int64)) + (1 : Int64)) + ((yb &&& (4294967295 : Int64)) % ((4294967295 : Int64) - ((xb &&& (4294967295 : Int64)) % (4294967295 : Int64))))) else (if mm = (1 : Int32) then ((lo + (1 : Int64)) + ((yb &&& (4294967295 : Int64)) % ((4294967295 : Int64) - lo))) else hi))), .second, .val (.int mm), .unset, .unset, .unset, .unset] [])) t → Steps p.tables e below (s₁.setTop (entryFrame m #[(.long xa), (.long ya), (.long xb), (.long yb), (.int mo)] maxLocals)) t := by
    rw [hlo2]; exact pre8
  obtain ⟨hi2, hhi2⟩ : ∃ z, z = (if mm = (0 : Int32) then ((((xb &&& (4294967295 : Int64)) % (4294967295 : Int64)) + (1 : Int64)) + ((yb &&& (4294967295 : Int64)) % ((4294967295 : Int64) - ((xb &&& (4294967295 : Int64)) % (4294967295 : Int64))))) else (if mm = (1 : Int32) then ((lo + (1 : Int64)) + ((yb &&& (4294967295 : Int64)) % ((4294967295 : Int64) - lo))) else hi)) := ⟨_, rfl⟩
  have pre10 : ∀ t, Steps p.tables e below (s₁.setTop (mkF m 135 #[.val (.long xa), .second, .val (.long ya), .second, .val (.long xb), .second, .val (.long yb), .second, .val (.int mo), .val (.long (4294967295 : Int64)), .second, .val (.long lo), .second, .val (.long hi), .second, .val (.long lo2), .second, .val (.long hi2), .second, .val (.int mm), .unset, .unset, .unset, .unset] [])) t → Steps p.tables e below (s₁.setTop (entryFrame m #[(.long xa), (.long ya), (.long xb), (.long yb), (.int mo)] maxLocals)) t := by
    rw [hhi2]; exact pre9
  have b2 := own_two mm xb yb lo hi lo2 hi2 b0 b1 hlo2 hhi2
  have e_mx : (4294967295 : Int64).toInt = 4294967295 := rfl
  have e_0 : (0 : Int64).toInt = 0 := rfl
  have q10 : ¬ lo < (0 : Int64) := by rw [Int64.lt_iff_toInt_lt]; omega
  have q20 : ¬ (4294967295 : Int64) < hi := by rw [Int64.lt_iff_toInt_lt]; omega
  have q30 : lo < hi := by rw [Int64.lt_iff_toInt_lt]; omega
  have q11 : ¬ lo2 < (0 : Int64) := by rw [Int64.lt_iff_toInt_lt]; omega
  have q21 : ¬ (4294967295 : Int64) < hi2 := by rw [Int64.lt_iff_toInt_lt]; omega
  have q31 : lo2 < hi2 := by rw [Int64.lt_iff_toInt_lt]; omega
  obtain ⟨T11, h11, X11, e11, E11, A11, D11, -, st11⟩ := newO X0 hx hZ hown (hw _ (List.mem_of_getElem? (i := 1) rfl)) (hw _ (List.mem_of_getElem? (i := 2) rfl)) (hw _ (List.mem_of_getElem? (i := 3) rfl)) e0 (g := (mkF m 135 #[.val (.long xa), .second, .val (.long ya), .second, .val (.long xb), .second, .val (.long yb), .second, .val (.int mo), .val (.long (4294967295 : Int64)), .second, .val (.long lo), .second, .val (.long hi), .second, .val (.long lo2), .second, .val (.long hi2), .second, .val (.int mm), .unset, .unset, .unset, .unset] [])) rfl (hb hby at_135) (by decide) (by decide)
  obtain ⟨b11, g11⟩ : ∃ z, z = h0.size := ⟨_, rfl⟩
  rw [← g11] at A11 D11 st11
  have gz12 : n0 ≤ b11 := Nat.le_trans Z0 (Nat.le_of_eq g11.symm)
  have f13 := (O0).ext E11
  have Zf14 : n0 ≤ h11.size := Nat.le_trans Z0 E11.1
  have F11_lower : Fld Z h11 b11 "com/example/calm_balancer/calmbalancer/BundleRange" "lower" "J" (.long (0 : Int64)) := D11 (Or.inr (hw _ (List.mem_of_getElem? (i := 12) rfl))) (ty := .long) (by decide)
  have F11_upper : Fld Z h11 b11 "com/example/calm_balancer/calmbalancer/BundleRange" "upper" "J" (.long (0 : Int64)) := D11 (Or.inr (hw _ (List.mem_of_getElem? (i := 14) rfl))) (ty := .long) (by decide)
  have pre15 : ∀ t, Steps p.tables e below (T11.setTop (mkF m 138 #[.val (.long xa), .second, .val (.long ya), .second, .val (.long xb), .second, .val (.long yb), .second, .val (.int mo), .val (.long (4294967295 : Int64)), .second, .val (.long lo), .second, .val (.long hi), .second, .val (.long lo2), .second, .val (.long hi2), .second, .val (.int mm), .unset, .unset, .unset, .unset] [(.ref b11)])) t → Steps p.tables e below (s₁.setTop (entryFrame m #[(.long xa), (.long ya), (.long xb), (.long yb), (.int mo)] maxLocals)) t := fun t kt => pre10 t (st11 _ kt)
  have pre16 : ∀ t, Steps p.tables e below (T11.setTop (mkF m 143 #[.val (.long xa), .second, .val (.long ya), .second, .val (.long xb), .second, .val (.long yb), .second, .val (.int mo), .val (.long (4294967295 : Int64)), .second, .val (.long lo), .second, .val (.long hi), .second, .val (.long lo2), .second, .val (.long hi2), .second, .val (.int mm), .unset, .unset, .unset, .unset] [(.long hi), (.long lo), (.ref b11), (.ref b11)])) t → Steps p.tables e below (s₁.setTop (entryFrame m #[(.long xa), (.long ya), (.long xb), (.long yb), (.int mo)] maxLocals)) t := fun t kt => pre15 t (by
    refine XS.dup X11.here hx rfl (hb hby at_138) rfl rfl ?_
    show Steps p.tables e below (T11.setTop (mkF m 139 #[.val (.long xa), .second, .val (.long ya), .second, .val (.long xb), .second, .val (.long yb), .second, .val (.int mo), .val (.long (4294967295 : Int64)), .second, .val (.long lo), .second, .val (.long hi), .second, .val (.long lo2), .second, .val (.long hi2), .second, .val (.int mm), .unset, .unset, .unset, .unset] [(.ref b11), (.ref b11)])) _
    refine XS.lload X11.here hx rfl (hb hby at_139) rfl ?_
    show Steps p.tables e below (T11.setTop (mkF m 141 #[.val (.long xa), .second, .val (.long ya), .second, .val (.long xb), .second, .val (.long yb), .second, .val (.int mo), .val (.long (4294967295 : Int64)), .second, .val (.long lo), .second, .val (.long hi), .second, .val (.long lo2), .second, .val (.long hi2), .second, .val (.int mm), .unset, .unset, .unset, .unset] [(.long lo), (.ref b11), (.ref b11)])) _
    refine XS.lload X11.here hx rfl (hb hby at_141) rfl ?_
    show Steps p.tables e below (T11.setTop (mkF m 143 #[.val (.long xa), .second, .val (.long ya), .second, .val (.long xb), .second, .val (.long yb), .second, .val (.int mo), .val (.long (4294967295 : Int64)), .second, .val (.long lo), .second, .val (.long hi), .second, .val (.long lo2), .second, .val (.long hi2), .second, .val (.int mm), .unset, .unset, .unset, .unset] [(.long hi), (.long lo), (.ref b11), (.ref b11)])) _
    exact kt)
  obtain ⟨_, _, ⟨T17, L17, k17, n17⟩, -, X17, ⟨Lc17, hQ17, l17, y17, z17⟩, st17⟩ := X11.specialBack hx (y := (⟨"com/example/calm_balancer/calmbalancer/BundleRange", "<init>", "(JJ)V"⟩ : MethodName)) rfl hown (mvT hZ (hw _ (List.mem_of_getElem? (i := 4) rfl))) (mvT hZ (hw _ (List.mem_of_getElem? (i := 5) rfl))) (mvT hZ (hw _ (List.mem_of_getElem? (i := 6) rfl))) (by decide) (backOf (W := 1) (rmB l Z a0 hw [] b11 lo hi _ _ h11 n0 Zf14 A11 gz12 F11_lower F11_upper q10 q20 q30) hZ (hw _ (List.mem_of_getElem? (i := 6) rfl)) (hw _ (List.mem_of_getElem? (i := 3) rfl)) (by decide) (by decide)) (g := (mkF m 143 #[.val (.long xa), .second, .val (.long ya), .second, .val (.long xb), .second, .val (.long yb), .second, .val (.int mo), .val (.long (4294967295 : Int64)), .second, .val (.long lo), .second, .val (.long hi), .second, .val (.long lo2), .second, .val (.long hi2), .second, .val (.int mm), .unset, .unset, .unset, .unset] [(.long hi), (.long lo), (.ref b11), (.ref b11)])) rfl (by rw [hml]; rfl) (Steps.refl _) (a := b11) (argsL := [(.long lo), (.long hi)]) (rest := [(.ref b11)]) (lenOf pd__28JJ_29V rfl) rfl (by show 2 * 0 + _ ≤ _; exact Nat.le_of_eq rfl) (hb hby at_143) (fun _ _ => ⟨rfl, e11, (by decide : 1 + 0 ≤ _), (by decide : 2 + 0 ≤ _)⟩)
  dsimp only [Pt.U, Pt.locs, Pt.cells, Pt.slots] at X17 l17 y17 z17 st17 hQ17
  subst l17 y17 z17
  obtain ⟨rfl, N17q, K17, E17x, Fl17, Fu17⟩ := hQ17
  have N17 := Fr.app N0 N17q
  have f18 := (f13).keep K17 (own_all1 gz12)
  have f19 := (A11).keep K17
  have Zf20 : n0 ≤ T17.heap.size := Nat.le_trans Zf14 (K17).1
  have pre21 : ∀ t, Steps p.tables e below (T17.setTop (mkF m 146 #[.val (.long xa), .second, .val (.long ya), .second, .val (.long xb), .second, .val (.long yb), .second, .val (.int mo), .val (.long (4294967295 : Int64)), .second, .val (.long lo), .second, .val (.long hi), .second, .val (.long lo2), .second, .val (.long hi2), .second, .val (.int mm), .unset, .unset, .unset, .unset] [(.ref b11)])) t → Steps p.tables e below (s₁.setTop (entryFrame m #[(.long xa), (.long ya), (.long xb), (.long yb), (.int mo)] maxLocals)) t := fun t kt => pre16 t (st17.trans kt)
  have pre22 : ∀ t, Steps p.tables e below (T17.setTop (mkF m 148 #[.val (.long xa), .second, .val (.long ya), .second, .val (.long xb), .second, .val (.long yb), .second, .val (.int mo), .val (.long (4294967295 : Int64)), .second, .val (.long lo), .second, .val (.long hi), .second, .val (.long lo2), .second, .val (.long hi2), .second, .val (.int mm), .val (.ref b11), .unset, .unset, .unset] [])) t → Steps p.tables e below (s₁.setTop (entryFrame m #[(.long xa), (.long ya), (.long xb), (.long yb), (.int mo)] maxLocals)) t := fun t kt => pre21 t (by
    refine XS.astore X17.here hx rfl (hb hby at_146) rfl rfl (l' := #[.val (.long xa), .second, .val (.long ya), .second, .val (.long xb), .second, .val (.long yb), .second, .val (.int mo), .val (.long (4294967295 : Int64)), .second, .val (.long lo), .second, .val (.long hi), .second, .val (.long lo2), .second, .val (.long hi2), .second, .val (.int mm), .val (.ref b11), .unset, .unset, .unset]) rfl ?_
    show Steps p.tables e below (T17.setTop (mkF m 148 #[.val (.long xa), .second, .val (.long ya), .second, .val (.long xb), .second, .val (.long yb), .second, .val (.int mo), .val (.long (4294967295 : Int64)), .second, .val (.long lo), .second, .val (.long hi), .second, .val (.long lo2), .second, .val (.long hi2), .second, .val (.int mm), .val (.ref b11), .unset, .unset, .unset] [])) _
    exact kt)
  obtain ⟨T23, h23, X23, e23, E23, A23, D23, -, st23⟩ := newO X17 hx hZ hown (hw _ (List.mem_of_getElem? (i := 1) rfl)) (hw _ (List.mem_of_getElem? (i := 2) rfl)) (hw _ (List.mem_of_getElem? (i := 3) rfl)) rfl (g := (mkF m 148 #[.val (.long xa), .second, .val (.long ya), .second, .val (.long xb), .second, .val (.long yb), .second, .val (.int mo), .val (.long (4294967295 : Int64)), .second, .val (.long lo), .second, .val (.long hi), .second, .val (.long lo2), .second, .val (.long hi2), .second, .val (.int mm), .val (.ref b11), .unset, .unset, .unset] [])) rfl (hb hby at_148) (by decide) (by decide)
  obtain ⟨b23, g23⟩ : ∃ z, z = T17.heap.size := ⟨_, rfl⟩
  rw [← g23] at A23 D23 st23
  have ne24 : b11 ≠ b23 := Nat.ne_of_lt (Nat.lt_of_lt_of_le (f19).lt (Nat.le_of_eq g23.symm))
  have gz25 : n0 ≤ b23 := Nat.le_trans Zf20 (Nat.le_of_eq g23.symm)
  have f26 := (f18).ext E23
  have f27 := (f19).ext E23
  have f28 := (Fl17).ext E23
  have f29 := (Fu17).ext E23
  have Zf30 : n0 ≤ h23.size := Nat.le_trans Zf20 E23.1
  have F23_lower : Fld Z h23 b23 "com/example/calm_balancer/calmbalancer/BundleRange" "lower" "J" (.long (0 : Int64)) := D23 (Or.inr (hw _ (List.mem_of_getElem? (i := 12) rfl))) (ty := .long) (by decide)
  have F23_upper : Fld Z h23 b23 "com/example/calm_balancer/calmbalancer/BundleRange" "upper" "J" (.long (0 : Int64)) := D23 (Or.inr (hw _ (List.mem_of_getElem? (i := 14) rfl))) (ty := .long) (by decide)
  have pre31 : ∀ t, Steps p.tables e below (T23.setTop (mkF m 151 #[.val (.long xa), .second, .val (.long ya), .second, .val (.long xb), .second, .val (.long yb), .second, .val (.int mo), .val (.long (4294967295 : Int64)), .second, .val (.long lo), .second, .val (.long hi), .second, .val (.long lo2), .second, .val (.long hi2), .second, .val (.int mm), .val (.ref b11), .unset, .unset, .unset] [(.ref b23)])) t → Steps p.tables e below (s₁.setTop (entryFrame m #[(.long xa), (.long ya), (.long xb), (.long yb), (.int mo)] maxLocals)) t := fun t kt => pre22 t (st23 _ kt)
  have pre32 : ∀ t, Steps p.tables e below (T23.setTop (mkF m 156 #[.val (.long xa), .second, .val (.long ya), .second, .val (.long xb), .second, .val (.long yb), .second, .val (.int mo), .val (.long (4294967295 : Int64)), .second, .val (.long lo), .second, .val (.long hi), .second, .val (.long lo2), .second, .val (.long hi2), .second, .val (.int mm), .val (.ref b11), .unset, .unset, .unset] [(.long hi2), (.long lo2), (.ref b23), (.ref b23)])) t → Steps p.tables e below (s₁.setTop (entryFrame m #[(.long xa), (.long ya), (.long xb), (.long yb), (.int mo)] maxLocals)) t := fun t kt => pre31 t (by
    refine XS.dup X23.here hx rfl (hb hby at_151) rfl rfl ?_
    show Steps p.tables e below (T23.setTop (mkF m 152 #[.val (.long xa), .second, .val (.long ya), .second, .val (.long xb), .second, .val (.long yb), .second, .val (.int mo), .val (.long (4294967295 : Int64)), .second, .val (.long lo), .second, .val (.long hi), .second, .val (.long lo2), .second, .val (.long hi2), .second, .val (.int mm), .val (.ref b11), .unset, .unset, .unset] [(.ref b23), (.ref b23)])) _
    refine XS.lload X23.here hx rfl (hb hby at_152) rfl ?_
    show Steps p.tables e below (T23.setTop (mkF m 154 #[.val (.long xa), .second, .val (.long ya), .second, .val (.long xb), .second, .val (.long yb), .second, .val (.int mo), .val (.long (4294967295 : Int64)), .second, .val (.long lo), .second, .val (.long hi), .second, .val (.long lo2), .second, .val (.long hi2), .second, .val (.int mm), .val (.ref b11), .unset, .unset, .unset] [(.long lo2), (.ref b23), (.ref b23)])) _
    refine XS.lload X23.here hx rfl (hb hby at_154) rfl ?_
    show Steps p.tables e below (T23.setTop (mkF m 156 #[.val (.long xa), .second, .val (.long ya), .second, .val (.long xb), .second, .val (.long yb), .second, .val (.int mo), .val (.long (4294967295 : Int64)), .second, .val (.long lo), .second, .val (.long hi), .second, .val (.long lo2), .second, .val (.long hi2), .second, .val (.int mm), .val (.ref b11), .unset, .unset, .unset] [(.long hi2), (.long lo2), (.ref b23), (.ref b23)])) _
    exact kt)
  obtain ⟨_, _, ⟨T33, L33, k33, n33⟩, -, X33, ⟨Lc33, hQ33, l33, y33, z33⟩, st33⟩ := X23.specialBack hx (y := (⟨"com/example/calm_balancer/calmbalancer/BundleRange", "<init>", "(JJ)V"⟩ : MethodName)) rfl hown (mvT hZ (hw _ (List.mem_of_getElem? (i := 4) rfl))) (mvT hZ (hw _ (List.mem_of_getElem? (i := 5) rfl))) (mvT hZ (hw _ (List.mem_of_getElem? (i := 6) rfl))) (by decide) (backOf (W := 1) (rmB l Z a0 hw [] b23 lo2 hi2 _ _ h23 n0 Zf30 A23 gz25 F23_lower F23_upper q11 q21 q31) hZ (hw _ (List.mem_of_getElem? (i := 6) rfl)) (hw _ (List.mem_of_getElem? (i := 3) rfl)) (by decide) (by decide)) (g := (mkF m 156 #[.val (.long xa), .second, .val (.long ya), .second, .val (.long xb), .second, .val (.long yb), .second, .val (.int mo), .val (.long (4294967295 : Int64)), .second, .val (.long lo), .second, .val (.long hi), .second, .val (.long lo2), .second, .val (.long hi2), .second, .val (.int mm), .val (.ref b11), .unset, .unset, .unset] [(.long hi2), (.long lo2), (.ref b23), (.ref b23)])) rfl (by rw [hml]; rfl) (Steps.refl _) (a := b23) (argsL := [(.long lo2), (.long hi2)]) (rest := [(.ref b23)]) (lenOf pd__28JJ_29V rfl) rfl (by show 2 * 0 + _ ≤ _; exact Nat.le_of_eq rfl) (hb hby at_156) (fun _ _ => ⟨rfl, e23, (by decide : 2 + 0 ≤ _), (by decide : 4 + 0 ≤ _)⟩)
  dsimp only [Pt.U, Pt.locs, Pt.cells, Pt.slots] at X33 l33 y33 z33 st33 hQ33
  subst l33 y33 z33
  obtain ⟨rfl, N33q, K33, E33x, Fl33, Fu33⟩ := hQ33
  have N33 := Fr.app N17 N33q
  have f34 := (f26).keep K33 (own_all1 gz25)
  have f35 := (f27).keep K33
  have f36 := (f28).keep K33 (own_notin1 ne24)
  have f37 := (f29).keep K33 (own_notin1 ne24)
  have f38 := (A23).keep K33
  have Zf39 : n0 ≤ T33.heap.size := Nat.le_trans Zf30 (K33).1
  have pre40 : ∀ t, Steps p.tables e below (T33.setTop (mkF m 159 #[.val (.long xa), .second, .val (.long ya), .second, .val (.long xb), .second, .val (.long yb), .second, .val (.int mo), .val (.long (4294967295 : Int64)), .second, .val (.long lo), .second, .val (.long hi), .second, .val (.long lo2), .second, .val (.long hi2), .second, .val (.int mm), .val (.ref b11), .unset, .unset, .unset] [(.ref b23)])) t → Steps p.tables e below (s₁.setTop (entryFrame m #[(.long xa), (.long ya), (.long xb), (.long yb), (.int mo)] maxLocals)) t := fun t kt => pre32 t (st33.trans kt)
  have pre41 : ∀ t, Steps p.tables e below (T33.setTop (mkF m 166 #[.val (.long xa), .second, .val (.long ya), .second, .val (.long xb), .second, .val (.long yb), .second, .val (.int mo), .val (.long (4294967295 : Int64)), .second, .val (.long lo), .second, .val (.long hi), .second, .val (.long lo2), .second, .val (.long hi2), .second, .val (.int mm), .val (.ref b11), .val (.ref b23), .unset, .unset] [(.int (lcmpW lo lo2))])) t → Steps p.tables e below (s₁.setTop (entryFrame m #[(.long xa), (.long ya), (.long xb), (.long yb), (.int mo)] maxLocals)) t := fun t kt => pre40 t (by
    refine XS.astore X33.here hx rfl (hb hby at_159) rfl rfl (l' := #[.val (.long xa), .second, .val (.long ya), .second, .val (.long xb), .second, .val (.long yb), .second, .val (.int mo), .val (.long (4294967295 : Int64)), .second, .val (.long lo), .second, .val (.long hi), .second, .val (.long lo2), .second, .val (.long hi2), .second, .val (.int mm), .val (.ref b11), .val (.ref b23), .unset, .unset]) rfl ?_
    show Steps p.tables e below (T33.setTop (mkF m 161 #[.val (.long xa), .second, .val (.long ya), .second, .val (.long xb), .second, .val (.long yb), .second, .val (.int mo), .val (.long (4294967295 : Int64)), .second, .val (.long lo), .second, .val (.long hi), .second, .val (.long lo2), .second, .val (.long hi2), .second, .val (.int mm), .val (.ref b11), .val (.ref b23), .unset, .unset] [])) _
    refine XS.lload X33.here hx rfl (hb hby at_161) rfl ?_
    show Steps p.tables e below (T33.setTop (mkF m 163 #[.val (.long xa), .second, .val (.long ya), .second, .val (.long xb), .second, .val (.long yb), .second, .val (.int mo), .val (.long (4294967295 : Int64)), .second, .val (.long lo), .second, .val (.long hi), .second, .val (.long lo2), .second, .val (.long hi2), .second, .val (.int mm), .val (.ref b11), .val (.ref b23), .unset, .unset] [(.long lo)])) _
    refine XS.lload X33.here hx rfl (hb hby at_163) rfl ?_
    show Steps p.tables e below (T33.setTop (mkF m 165 #[.val (.long xa), .second, .val (.long ya), .second, .val (.long xb), .second, .val (.long yb), .second, .val (.int mo), .val (.long (4294967295 : Int64)), .second, .val (.long lo), .second, .val (.long hi), .second, .val (.long lo2), .second, .val (.long hi2), .second, .val (.int mm), .val (.ref b11), .val (.ref b23), .unset, .unset] [(.long lo2), (.long lo)])) _
    refine XS.lcmp X33.here hx rfl (hb hby at_165) rfl ?_
    show Steps p.tables e below (T33.setTop (mkF m 166 #[.val (.long xa), .second, .val (.long ya), .second, .val (.long xb), .second, .val (.long yb), .second, .val (.int mo), .val (.long (4294967295 : Int64)), .second, .val (.long lo), .second, .val (.long hi), .second, .val (.long lo2), .second, .val (.long hi2), .second, .val (.int mm), .val (.ref b11), .val (.ref b23), .unset, .unset] [(.int (lcmpW lo lo2))])) _
    exact kt)
  have pre42 : ∀ t, Steps p.tables e below (T33.setTop (mkF m 182 #[.val (.long xa), .second, .val (.long ya), .second, .val (.long xb), .second, .val (.long yb), .second, .val (.int mo), .val (.long (4294967295 : Int64)), .second, .val (.long lo), .second, .val (.long hi), .second, .val (.long lo2), .second, .val (.long hi2), .second, .val (.int mm), .val (.ref b11), .val (.ref b23), .unset, .unset] [(.int (if lo = lo2 then (if hi = hi2 then (1 : Int32) else (0 : Int32)) else (0 : Int32)))])) t → Steps p.tables e below (s₁.setTop (entryFrame m #[(.long xa), (.long ya), (.long xb), (.long yb), (.int mo)] maxLocals)) t := fun t kt => pre41 t (by
    by_cases c166_4 : lo = lo2
    · rw [if_pos c166_4] at kt
      refine XS.ifNo X33.here hx rfl (hb hby at_166) rfl ((if0 _ _).trans (teq ((lw_eq _ _).mpr c166_4)).2) ?_
      show Steps p.tables e below (T33.setTop (mkF m 169 #[.val (.long xa), .second, .val (.long ya), .second, .val (.long xb), .second, .val (.long yb), .second, .val (.int mo), .val (.long (4294967295 : Int64)), .second, .val (.long lo), .second, .val (.long hi), .second, .val (.long lo2), .second, .val (.long hi2), .second, .val (.int mm), .val (.ref b11), .val (.ref b23), .unset, .unset] [])) _
      refine XS.lload X33.here hx rfl (hb hby at_169) rfl ?_
      show Steps p.tables e below (T33.setTop (mkF m 171 #[.val (.long xa), .second, .val (.long ya), .second, .val (.long xb), .second, .val (.long yb), .second, .val (.int mo), .val (.long (4294967295 : Int64)), .second, .val (.long lo), .second, .val (.long hi), .second, .val (.long lo2), .second, .val (.long hi2), .second, .val (.int mm), .val (.ref b11), .val (.ref b23), .unset, .unset] [(.long hi)])) _
      refine XS.lload X33.here hx rfl (hb hby at_171) rfl ?_
      show Steps p.tables e below (T33.setTop (mkF m 173 #[.val (.long xa), .second, .val (.long ya), .second, .val (.long xb), .second, .val (.long yb), .second, .val (.int mo), .val (.long (4294967295 : Int64)), .second, .val (.long lo), .second, .val (.long hi), .second, .val (.long lo2), .second, .val (.long hi2), .second, .val (.int mm), .val (.ref b11), .val (.ref b23), .unset, .unset] [(.long hi2), (.long hi)])) _
      refine XS.lcmp X33.here hx rfl (hb hby at_173) rfl ?_
      show Steps p.tables e below (T33.setTop (mkF m 174 #[.val (.long xa), .second, .val (.long ya), .second, .val (.long xb), .second, .val (.long yb), .second, .val (.int mo), .val (.long (4294967295 : Int64)), .second, .val (.long lo), .second, .val (.long hi), .second, .val (.long lo2), .second, .val (.long hi2), .second, .val (.int mm), .val (.ref b11), .val (.ref b23), .unset, .unset] [(.int (lcmpW hi hi2))])) _
      by_cases c174_5 : hi = hi2
      · rw [if_pos c174_5] at kt
        refine XS.ifNo X33.here hx rfl (hb hby at_174) rfl ((if0 _ _).trans (teq ((lw_eq _ _).mpr c174_5)).2) ?_
        show Steps p.tables e below (T33.setTop (mkF m 177 #[.val (.long xa), .second, .val (.long ya), .second, .val (.long xb), .second, .val (.long yb), .second, .val (.int mo), .val (.long (4294967295 : Int64)), .second, .val (.long lo), .second, .val (.long hi), .second, .val (.long lo2), .second, .val (.long hi2), .second, .val (.int mm), .val (.ref b11), .val (.ref b23), .unset, .unset] [])) _
        refine XS.iconst X33.here hx rfl (hb hby at_177) ?_
        show Steps p.tables e below (T33.setTop (mkF m 178 #[.val (.long xa), .second, .val (.long ya), .second, .val (.long xb), .second, .val (.long yb), .second, .val (.int mo), .val (.long (4294967295 : Int64)), .second, .val (.long lo), .second, .val (.long hi), .second, .val (.long lo2), .second, .val (.long hi2), .second, .val (.int mm), .val (.ref b11), .val (.ref b23), .unset, .unset] [(.int (1 : Int32))])) _
        refine XS.goto X33.here hx rfl (pc0 := 178) (pc' := 182) rfl (hb hby at_178) (by decide) (by decide) ?_
        show Steps p.tables e below (T33.setTop (mkF m 182 #[.val (.long xa), .second, .val (.long ya), .second, .val (.long xb), .second, .val (.long yb), .second, .val (.int mo), .val (.long (4294967295 : Int64)), .second, .val (.long lo), .second, .val (.long hi), .second, .val (.long lo2), .second, .val (.long hi2), .second, .val (.int mm), .val (.ref b11), .val (.ref b23), .unset, .unset] [(.int (1 : Int32))])) _
        exact kt
      · rw [if_neg c174_5] at kt
        refine XS.ifYes X33.here hx rfl (pc0 := 174) (pc' := 181) rfl (hb hby at_174) rfl ((if0 _ _).trans (feq (mt (lw_eq _ _).mp c174_5)).2) (by decide) (by decide) ?_
        show Steps p.tables e below (T33.setTop (mkF m 181 #[.val (.long xa), .second, .val (.long ya), .second, .val (.long xb), .second, .val (.long yb), .second, .val (.int mo), .val (.long (4294967295 : Int64)), .second, .val (.long lo), .second, .val (.long hi), .second, .val (.long lo2), .second, .val (.long hi2), .second, .val (.int mm), .val (.ref b11), .val (.ref b23), .unset, .unset] [])) _
        refine XS.iconst X33.here hx rfl (hb hby at_181) ?_
        show Steps p.tables e below (T33.setTop (mkF m 182 #[.val (.long xa), .second, .val (.long ya), .second, .val (.long xb), .second, .val (.long yb), .second, .val (.int mo), .val (.long (4294967295 : Int64)), .second, .val (.long lo), .second, .val (.long hi), .second, .val (.long lo2), .second, .val (.long hi2), .second, .val (.int mm), .val (.ref b11), .val (.ref b23), .unset, .unset] [(.int (0 : Int32))])) _
        exact kt
    · rw [if_neg c166_4] at kt
      refine XS.ifYes X33.here hx rfl (pc0 := 166) (pc' := 181) rfl (hb hby at_166) rfl ((if0 _ _).trans (feq (mt (lw_eq _ _).mp c166_4)).2) (by decide) (by decide) ?_
      show Steps p.tables e below (T33.setTop (mkF m 181 #[.val (.long xa), .second, .val (.long ya), .second, .val (.long xb), .second, .val (.long yb), .second, .val (.int mo), .val (.long (4294967295 : Int64)), .second, .val (.long lo), .second, .val (.long hi), .second, .val (.long lo2), .second, .val (.long hi2), .second, .val (.int mm), .val (.ref b11), .val (.ref b23), .unset, .unset] [])) _
      refine XS.iconst X33.here hx rfl (hb hby at_181) ?_
      show Steps p.tables e below (T33.setTop (mkF m 182 #[.val (.long xa), .second, .val (.long ya), .second, .val (.long xb), .second, .val (.long yb), .second, .val (.int mo), .val (.long (4294967295 : Int64)), .second, .val (.long lo), .second, .val (.long hi), .second, .val (.long lo2), .second, .val (.long hi2), .second, .val (.int mm), .val (.ref b11), .val (.ref b23), .unset, .unset] [(.int (0 : Int32))])) _
      exact kt)
  have pre43 : ∀ t, Steps p.tables e below (T33.setTop (mkF m 188 #[.val (.long xa), .second, .val (.long ya), .second, .val (.long xb), .second, .val (.long yb), .second, .val (.int mo), .val (.long (4294967295 : Int64)), .second, .val (.long lo), .second, .val (.long hi), .second, .val (.long lo2), .second, .val (.long hi2), .second, .val (.int mm), .val (.ref b11), .val (.ref b23), .val (.int (if lo = lo2 then (if hi = hi2 then (1 : Int32) else (0 : Int32)) else (0 : Int32))), .unset] [(.int (mo &&& (4 : Int32)))])) t → Steps p.tables e below (s₁.setTop (entryFrame m #[(.long xa), (.long ya), (.long xb), (.long yb), (.int mo)] maxLocals)) t := fun t kt => pre42 t (by
    refine XS.istore X33.here hx rfl (hb hby at_182) rfl (l' := #[.val (.long xa), .second, .val (.long ya), .second, .val (.long xb), .second, .val (.long yb), .second, .val (.int mo), .val (.long (4294967295 : Int64)), .second, .val (.long lo), .second, .val (.long hi), .second, .val (.long lo2), .second, .val (.long hi2), .second, .val (.int mm), .val (.ref b11), .val (.ref b23), .val (.int (if lo = lo2 then (if hi = hi2 then (1 : Int32) else (0 : Int32)) else (0 : Int32))), .unset]) rfl ?_
    show Steps p.tables e below (T33.setTop (mkF m 184 #[.val (.long xa), .second, .val (.long ya), .second, .val (.long xb), .second, .val (.long yb), .second, .val (.int mo), .val (.long (4294967295 : Int64)), .second, .val (.long lo), .second, .val (.long hi), .second, .val (.long lo2), .second, .val (.long hi2), .second, .val (.int mm), .val (.ref b11), .val (.ref b23), .val (.int (if lo = lo2 then (if hi = hi2 then (1 : Int32) else (0 : Int32)) else (0 : Int32))), .unset] [])) _
    refine XS.iload X33.here hx rfl (hb hby at_184) rfl ?_
    show Steps p.tables e below (T33.setTop (mkF m 186 #[.val (.long xa), .second, .val (.long ya), .second, .val (.long xb), .second, .val (.long yb), .second, .val (.int mo), .val (.long (4294967295 : Int64)), .second, .val (.long lo), .second, .val (.long hi), .second, .val (.long lo2), .second, .val (.long hi2), .second, .val (.int mm), .val (.ref b11), .val (.ref b23), .val (.int (if lo = lo2 then (if hi = hi2 then (1 : Int32) else (0 : Int32)) else (0 : Int32))), .unset] [(.int mo)])) _
    refine XS.iconst X33.here hx rfl (hb hby at_186) ?_
    show Steps p.tables e below (T33.setTop (mkF m 187 #[.val (.long xa), .second, .val (.long ya), .second, .val (.long xb), .second, .val (.long yb), .second, .val (.int mo), .val (.long (4294967295 : Int64)), .second, .val (.long lo), .second, .val (.long hi), .second, .val (.long lo2), .second, .val (.long hi2), .second, .val (.int mm), .val (.ref b11), .val (.ref b23), .val (.int (if lo = lo2 then (if hi = hi2 then (1 : Int32) else (0 : Int32)) else (0 : Int32))), .unset] [(.int (4 : Int32)), (.int mo)])) _
    refine XS.iand X33.here hx rfl (hb hby at_187) rfl ?_
    show Steps p.tables e below (T33.setTop (mkF m 188 #[.val (.long xa), .second, .val (.long ya), .second, .val (.long xb), .second, .val (.long yb), .second, .val (.int mo), .val (.long (4294967295 : Int64)), .second, .val (.long lo), .second, .val (.long hi), .second, .val (.long lo2), .second, .val (.long hi2), .second, .val (.int mm), .val (.ref b11), .val (.ref b23), .val (.int (if lo = lo2 then (if hi = hi2 then (1 : Int32) else (0 : Int32)) else (0 : Int32))), .unset] [(.int (mo &&& (4 : Int32)))])) _
    exact kt)
  by_cases c188_6 : (mo &&& (4 : Int32)) = (0 : Int32)
  · have pre44 : ∀ t, Steps p.tables e below (T33.setTop (mkF m 197 #[.val (.long xa), .second, .val (.long ya), .second, .val (.long xb), .second, .val (.long yb), .second, .val (.int mo), .val (.long (4294967295 : Int64)), .second, .val (.long lo), .second, .val (.long hi), .second, .val (.long lo2), .second, .val (.long hi2), .second, .val (.int mm), .val (.ref b11), .val (.ref b23), .val (.int (if lo = lo2 then (if hi = hi2 then (1 : Int32) else (0 : Int32)) else (0 : Int32))), .unset] [(.long lo)])) t → Steps p.tables e below (s₁.setTop (entryFrame m #[(.long xa), (.long ya), (.long xb), (.long yb), (.int mo)] maxLocals)) t := fun t kt => pre43 t (by
      refine XS.ifYes X33.here hx rfl (pc0 := 188) (pc' := 195) rfl (hb hby at_188) rfl ((if0 _ _).trans (teq c188_6).1) (by decide) (by decide) ?_
      show Steps p.tables e below (T33.setTop (mkF m 195 #[.val (.long xa), .second, .val (.long ya), .second, .val (.long xb), .second, .val (.long yb), .second, .val (.int mo), .val (.long (4294967295 : Int64)), .second, .val (.long lo), .second, .val (.long hi), .second, .val (.long lo2), .second, .val (.long hi2), .second, .val (.int mm), .val (.ref b11), .val (.ref b23), .val (.int (if lo = lo2 then (if hi = hi2 then (1 : Int32) else (0 : Int32)) else (0 : Int32))), .unset] [])) _
      refine XS.lload X33.here hx rfl (hb hby at_195) rfl ?_
      show Steps p.tables e below (T33.setTop (mkF m 197 #[.val (.long xa), .second, .val (.long ya), .second, .val (.long xb), .second, .val (.long yb), .second, .val (.int mo), .val (.long (4294967295 : Int64)), .second, .val (.long lo), .second, .val (.long hi), .second, .val (.long lo2), .second, .val (.long hi2), .second, .val (.int mm), .val (.ref b11), .val (.ref b23), .val (.int (if lo = lo2 then (if hi = hi2 then (1 : Int32) else (0 : Int32)) else (0 : Int32))), .unset] [(.long lo)])) _
      exact kt)
    obtain ⟨_, _, ⟨T45, L45, k45, n45⟩, -, X45, ⟨Lc45, hQ45, l45, y45, z45⟩, st45⟩ := Jvm.LawKit.callS X33 hx (y := (⟨"java/lang/Long", "valueOf", "(J)Ljava/lang/Long;"⟩ : MethodName)) hown (mvT hZ (hw _ (List.mem_of_getElem? (i := 15) rfl))) (mvT hZ (hw _ (List.mem_of_getElem? (i := 16) rfl))) (mvT hZ (hw _ (List.mem_of_getElem? (i := 17) rfl))) (mvT hZ (hw _ (List.mem_of_getElem? (i := 18) rfl))) (by decide) (backOf (W := 0) (rmV l Z a0 hw [] lo wc cl T33.heap n0 Zf39 b0.1 (S0.ext (f34).2) (CC.ext (f34).2)) hZ (hw _ (List.mem_of_getElem? (i := 18) rfl)) (hw _ (List.mem_of_getElem? (i := 17) rfl)) (by decide) (by decide)) (g := (mkF m 197 #[.val (.long xa), .second, .val (.long ya), .second, .val (.long xb), .second, .val (.long yb), .second, .val (.int mo), .val (.long (4294967295 : Int64)), .second, .val (.long lo), .second, .val (.long hi), .second, .val (.long lo2), .second, .val (.long hi2), .second, .val (.int mm), .val (.ref b11), .val (.ref b23), .val (.int (if lo = lo2 then (if hi = hi2 then (1 : Int32) else (0 : Int32)) else (0 : Int32))), .unset] [(.long lo)])) rfl (by rw [hml]; rfl) (argsL := [(.long lo)]) (rest := []) (lenOf pd__28J_29Ljava_2flang_2fLong_3b rfl) rfl (by show 2 * 0 + _ ≤ _; exact Nat.le_of_eq rfl) (hb hby at_197) (fun _ _ => ⟨rfl, rfl, (by decide : 2 + 1 ≤ _), (by decide : 4 + 1 ≤ _)⟩)
    dsimp only [Pt.U, Pt.locs, Pt.cells, Pt.slots] at X45 l45 y45 z45 st45 hQ45
    subst l45 y45 z45
    obtain ⟨lg, rfl, N45q, K45, E45x⟩ := hQ45
    have N45 := Fr.app N33 N45q
    have f46 := (f34).keep K45 (own_all0 )
    have f47 := (f35).keep K45
    have f48 := (f36).keep K45 own_notin0
    have f49 := (f37).keep K45 own_notin0
    have f50 := (f38).keep K45
    have f51 := (Fl33).keep K45 own_notin0
    have f52 := (Fu33).keep K45 own_notin0
    have Zf53 : n0 ≤ T45.heap.size := Nat.le_trans Zf39 (K45).1
    have pre54 : ∀ t, Steps p.tables e below (T45.setTop (mkF m 200 #[.val (.long xa), .second, .val (.long ya), .second, .val (.long xb), .second, .val (.long yb), .second, .val (.int mo), .val (.long (4294967295 : Int64)), .second, .val (.long lo), .second, .val (.long hi), .second, .val (.long lo2), .second, .val (.long hi2), .second, .val (.int mm), .val (.ref b11), .val (.ref b23), .val (.int (if lo = lo2 then (if hi = hi2 then (1 : Int32) else (0 : Int32)) else (0 : Int32))), .unset] [(.ref lg)])) t → Steps p.tables e below (s₁.setTop (entryFrame m #[(.long xa), (.long ya), (.long xb), (.long yb), (.int mo)] maxLocals)) t := fun t kt => pre44 t (st45 _ kt)
    have pre55 : ∀ t, Steps p.tables e below (T45.setTop (mkF m 206 #[.val (.long xa), .second, .val (.long ya), .second, .val (.long xb), .second, .val (.long yb), .second, .val (.int mo), .val (.long (4294967295 : Int64)), .second, .val (.long lo), .second, .val (.long hi), .second, .val (.long lo2), .second, .val (.long hi2), .second, .val (.int mm), .val (.ref b11), .val (.ref b23), .val (.int (if lo = lo2 then (if hi = hi2 then (1 : Int32) else (0 : Int32)) else (0 : Int32))), .val (.ref lg)] [(.ref b23), (.ref b11)])) t → Steps p.tables e below (s₁.setTop (entryFrame m #[(.long xa), (.long ya), (.long xb), (.long yb), (.int mo)] maxLocals)) t := fun t kt => pre54 t (by
      refine XS.astore X45.here hx rfl (hb hby at_200) rfl rfl (l' := #[.val (.long xa), .second, .val (.long ya), .second, .val (.long xb), .second, .val (.long yb), .second, .val (.int mo), .val (.long (4294967295 : Int64)), .second, .val (.long lo), .second, .val (.long hi), .second, .val (.long lo2), .second, .val (.long hi2), .second, .val (.int mm), .val (.ref b11), .val (.ref b23), .val (.int (if lo = lo2 then (if hi = hi2 then (1 : Int32) else (0 : Int32)) else (0 : Int32))), .val (.ref lg)]) rfl ?_
      show Steps p.tables e below (T45.setTop (mkF m 202 #[.val (.long xa), .second, .val (.long ya), .second, .val (.long xb), .second, .val (.long yb), .second, .val (.int mo), .val (.long (4294967295 : Int64)), .second, .val (.long lo), .second, .val (.long hi), .second, .val (.long lo2), .second, .val (.long hi2), .second, .val (.int mm), .val (.ref b11), .val (.ref b23), .val (.int (if lo = lo2 then (if hi = hi2 then (1 : Int32) else (0 : Int32)) else (0 : Int32))), .val (.ref lg)] [])) _
      refine XS.aload X45.here hx rfl (hb hby at_202) rfl rfl ?_
      show Steps p.tables e below (T45.setTop (mkF m 204 #[.val (.long xa), .second, .val (.long ya), .second, .val (.long xb), .second, .val (.long yb), .second, .val (.int mo), .val (.long (4294967295 : Int64)), .second, .val (.long lo), .second, .val (.long hi), .second, .val (.long lo2), .second, .val (.long hi2), .second, .val (.int mm), .val (.ref b11), .val (.ref b23), .val (.int (if lo = lo2 then (if hi = hi2 then (1 : Int32) else (0 : Int32)) else (0 : Int32))), .val (.ref lg)] [(.ref b11)])) _
      refine XS.aload X45.here hx rfl (hb hby at_204) rfl rfl ?_
      show Steps p.tables e below (T45.setTop (mkF m 206 #[.val (.long xa), .second, .val (.long ya), .second, .val (.long xb), .second, .val (.long yb), .second, .val (.int mo), .val (.long (4294967295 : Int64)), .second, .val (.long lo), .second, .val (.long hi), .second, .val (.long lo2), .second, .val (.long hi2), .second, .val (.int mm), .val (.ref b11), .val (.ref b23), .val (.int (if lo = lo2 then (if hi = hi2 then (1 : Int32) else (0 : Int32)) else (0 : Int32))), .val (.ref lg)] [(.ref b23), (.ref b11)])) _
      exact kt)
    obtain ⟨cq56, kq56, q56a, q56b, q56c⟩ := isOf hZ rfl (f47)
    obtain ⟨_, _, ⟨T56, L56, k56, n56⟩, -, X56, ⟨Lc56, hQ56, l56, y56, z56⟩, st56⟩ := X45.virtualBack hx (y := (⟨"com/example/calm_balancer/calmbalancer/BundleRange", "equals", "(Ljava/lang/Object;)Z"⟩ : MethodName)) (z := (⟨"com/example/calm_balancer/calmbalancer/BundleRange", "equals", "(Ljava/lang/Object;)Z"⟩ : MethodName)) hown (mvT hZ (hw _ (List.mem_of_getElem? (i := 23) rfl))) (mvT hZ (hw _ (List.mem_of_getElem? (i := 24) rfl))) (notFace_of_selects (args := #[]) (mvT hZ (hw _ (List.mem_of_getElem? (i := 26) rfl)))) (mvT hZ (hw _ (List.mem_of_getElem? (i := 26) rfl))) (mvT hZ (hw _ (List.mem_of_getElem? (i := 25) rfl))) (by decide) (backOf (W := 0) (rmE l Z a0 hw [] b11 b23 lo hi lo2 hi2 T45.heap n0 Zf53 f48 f49 f51 f52 f50) hZ (hw _ (List.mem_of_getElem? (i := 27) rfl)) (hw _ (List.mem_of_getElem? (i := 3) rfl)) (by decide) (by decide)) q56a q56c (g := (mkF m 206 #[.val (.long xa), .second, .val (.long ya), .second, .val (.long xb), .second, .val (.long yb), .second, .val (.int mo), .val (.long (4294967295 : Int64)), .second, .val (.long lo), .second, .val (.long hi), .second, .val (.long lo2), .second, .val (.long hi2), .second, .val (.int mm), .val (.ref b11), .val (.ref b23), .val (.int (if lo = lo2 then (if hi = hi2 then (1 : Int32) else (0 : Int32)) else (0 : Int32))), .val (.ref lg)] [(.ref b23), (.ref b11)])) rfl (by rw [hml]; rfl) (Steps.refl _) (argsL := [(.ref b23)]) (rest := []) (lenOf pd__28Ljava_2flang_2fObject_3b_29Z rfl) rfl (by show 2 * 0 + _ ≤ _; exact Nat.le_of_eq rfl) (hb hby at_206) (fun _ _ => ⟨rfl, rfl, (by decide : 3 + 0 ≤ _), (by decide : 5 + 0 ≤ _)⟩)
    dsimp only [Pt.U, Pt.locs, Pt.cells, Pt.slots] at X56 l56 y56 z56 st56 hQ56
    subst l56 y56 z56
    obtain ⟨rfl, N56q, e56q⟩ := hQ56
    have N56 := Fr.app N45 N56q
    have pre57 : ∀ t, Steps p.tables e below (T56.setTop (mkF m 209 #[.val (.long xa), .second, .val (.long ya), .second, .val (.long xb), .second, .val (.long yb), .second, .val (.int mo), .val (.long (4294967295 : Int64)), .second, .val (.long lo), .second, .val (.long hi), .second, .val (.long lo2), .second, .val (.long hi2), .second, .val (.int mm), .val (.ref b11), .val (.ref b23), .val (.int (if lo = lo2 then (if hi = hi2 then (1 : Int32) else (0 : Int32)) else (0 : Int32))), .val (.ref lg)] [(.int (if lo = lo2 then (if hi = hi2 then (1 : Int32) else (0 : Int32)) else (0 : Int32)))])) t → Steps p.tables e below (s₁.setTop (entryFrame m #[(.long xa), (.long ya), (.long xb), (.long yb), (.int mo)] maxLocals)) t := fun t kt => pre55 t (st56.trans kt)
    have pre58 : ∀ t, Steps p.tables e below (T56.setTop (mkF m 218 #[.val (.long xa), .second, .val (.long ya), .second, .val (.long xb), .second, .val (.long yb), .second, .val (.int mo), .val (.long (4294967295 : Int64)), .second, .val (.long lo), .second, .val (.long hi), .second, .val (.long lo2), .second, .val (.long hi2), .second, .val (.int mm), .val (.ref b11), .val (.ref b23), .val (.int (if lo = lo2 then (if hi = hi2 then (1 : Int32) else (0 : Int32)) else (0 : Int32))), .val (.ref lg)] [(.ref b11), (.ref b23)])) t → Steps p.tables e below (s₁.setTop (entryFrame m #[(.long xa), (.long ya), (.long xb), (.long yb), (.int mo)] maxLocals)) t := fun t kt => pre57 t (by
      refine XS.iload X56.here hx rfl (hb hby at_209) rfl ?_
      show Steps p.tables e below (T56.setTop (mkF m 211 #[.val (.long xa), .second, .val (.long ya), .second, .val (.long xb), .second, .val (.long yb), .second, .val (.int mo), .val (.long (4294967295 : Int64)), .second, .val (.long lo), .second, .val (.long hi), .second, .val (.long lo2), .second, .val (.long hi2), .second, .val (.int mm), .val (.ref b11), .val (.ref b23), .val (.int (if lo = lo2 then (if hi = hi2 then (1 : Int32) else (0 : Int32)) else (0 : Int32))), .val (.ref lg)] [(.int (if lo = lo2 then (if hi = hi2 then (1 : Int32) else (0 : Int32)) else (0 : Int32))), (.int (if lo = lo2 then (if hi = hi2 then (1 : Int32) else (0 : Int32)) else (0 : Int32)))])) _
      refine XS.icmpNo X56.here hx rfl (hb hby at_211) rfl (teq (rfl : (if lo = lo2 then (if hi = hi2 then (1 : Int32) else (0 : Int32)) else (0 : Int32)) = (if lo = lo2 then (if hi = hi2 then (1 : Int32) else (0 : Int32)) else (0 : Int32)))).2 ?_
      show Steps p.tables e below (T56.setTop (mkF m 214 #[.val (.long xa), .second, .val (.long ya), .second, .val (.long xb), .second, .val (.long yb), .second, .val (.int mo), .val (.long (4294967295 : Int64)), .second, .val (.long lo), .second, .val (.long hi), .second, .val (.long lo2), .second, .val (.long hi2), .second, .val (.int mm), .val (.ref b11), .val (.ref b23), .val (.int (if lo = lo2 then (if hi = hi2 then (1 : Int32) else (0 : Int32)) else (0 : Int32))), .val (.ref lg)] [])) _
      refine XS.aload X56.here hx rfl (hb hby at_214) rfl rfl ?_
      show Steps p.tables e below (T56.setTop (mkF m 216 #[.val (.long xa), .second, .val (.long ya), .second, .val (.long xb), .second, .val (.long yb), .second, .val (.int mo), .val (.long (4294967295 : Int64)), .second, .val (.long lo), .second, .val (.long hi), .second, .val (.long lo2), .second, .val (.long hi2), .second, .val (.int mm), .val (.ref b11), .val (.ref b23), .val (.int (if lo = lo2 then (if hi = hi2 then (1 : Int32) else (0 : Int32)) else (0 : Int32))), .val (.ref lg)] [(.ref b23)])) _
      refine XS.aload X56.here hx rfl (hb hby at_216) rfl rfl ?_
      show Steps p.tables e below (T56.setTop (mkF m 218 #[.val (.long xa), .second, .val (.long ya), .second, .val (.long xb), .second, .val (.long yb), .second, .val (.int mo), .val (.long (4294967295 : Int64)), .second, .val (.long lo), .second, .val (.long hi), .second, .val (.long lo2), .second, .val (.long hi2), .second, .val (.int mm), .val (.ref b11), .val (.ref b23), .val (.int (if lo = lo2 then (if hi = hi2 then (1 : Int32) else (0 : Int32)) else (0 : Int32))), .val (.ref lg)] [(.ref b11), (.ref b23)])) _
      exact kt)
    obtain ⟨cq59, kq59, q59a, q59b, q59c⟩ := isOf hZ e56q (f50)
    obtain ⟨_, _, ⟨T59, L59, k59, n59⟩, -, X59, ⟨Lc59, hQ59, l59, y59, z59⟩, st59⟩ := X56.virtualBack hx (y := (⟨"com/example/calm_balancer/calmbalancer/BundleRange", "equals", "(Ljava/lang/Object;)Z"⟩ : MethodName)) (z := (⟨"com/example/calm_balancer/calmbalancer/BundleRange", "equals", "(Ljava/lang/Object;)Z"⟩ : MethodName)) hown (mvT hZ (hw _ (List.mem_of_getElem? (i := 23) rfl))) (mvT hZ (hw _ (List.mem_of_getElem? (i := 24) rfl))) (notFace_of_selects (args := #[]) (mvT hZ (hw _ (List.mem_of_getElem? (i := 26) rfl)))) (mvT hZ (hw _ (List.mem_of_getElem? (i := 26) rfl))) (mvT hZ (hw _ (List.mem_of_getElem? (i := 25) rfl))) (by decide) (backOf (W := 0) (rmE l Z a0 hw [] b23 b11 lo2 hi2 lo hi T45.heap n0 Zf53 f51 f52 f48 f49 f47) hZ (hw _ (List.mem_of_getElem? (i := 27) rfl)) (hw _ (List.mem_of_getElem? (i := 3) rfl)) (by decide) (by decide)) q59a q59c (g := (mkF m 218 #[.val (.long xa), .second, .val (.long ya), .second, .val (.long xb), .second, .val (.long yb), .second, .val (.int mo), .val (.long (4294967295 : Int64)), .second, .val (.long lo), .second, .val (.long hi), .second, .val (.long lo2), .second, .val (.long hi2), .second, .val (.int mm), .val (.ref b11), .val (.ref b23), .val (.int (if lo = lo2 then (if hi = hi2 then (1 : Int32) else (0 : Int32)) else (0 : Int32))), .val (.ref lg)] [(.ref b11), (.ref b23)])) rfl (by rw [hml]; rfl) (Steps.refl _) (argsL := [(.ref b11)]) (rest := []) (lenOf pd__28Ljava_2flang_2fObject_3b_29Z rfl) rfl (by show 2 * 0 + _ ≤ _; exact Nat.le_of_eq rfl) (hb hby at_218) (fun _ _ => ⟨rfl, e56q, (by decide : 3 + 0 ≤ _), (by decide : 5 + 0 ≤ _)⟩)
    dsimp only [Pt.U, Pt.locs, Pt.cells, Pt.slots] at X59 l59 y59 z59 st59 hQ59
    subst l59 y59 z59
    obtain ⟨rfl, N59q, e59q⟩ := hQ59
    have N59 := Fr.app N56 N59q
    have pre60 : ∀ t, Steps p.tables e below (T59.setTop (mkF m 221 #[.val (.long xa), .second, .val (.long ya), .second, .val (.long xb), .second, .val (.long yb), .second, .val (.int mo), .val (.long (4294967295 : Int64)), .second, .val (.long lo), .second, .val (.long hi), .second, .val (.long lo2), .second, .val (.long hi2), .second, .val (.int mm), .val (.ref b11), .val (.ref b23), .val (.int (if lo = lo2 then (if hi = hi2 then (1 : Int32) else (0 : Int32)) else (0 : Int32))), .val (.ref lg)] [(.int (if lo2 = lo then (if hi2 = hi then (1 : Int32) else (0 : Int32)) else (0 : Int32)))])) t → Steps p.tables e below (s₁.setTop (entryFrame m #[(.long xa), (.long ya), (.long xb), (.long yb), (.int mo)] maxLocals)) t := fun t kt => pre58 t (st59.trans kt)
    have pre61 : ∀ t, Steps p.tables e below (T59.setTop (mkF m 230 #[.val (.long xa), .second, .val (.long ya), .second, .val (.long xb), .second, .val (.long yb), .second, .val (.int mo), .val (.long (4294967295 : Int64)), .second, .val (.long lo), .second, .val (.long hi), .second, .val (.long lo2), .second, .val (.long hi2), .second, .val (.int mm), .val (.ref b11), .val (.ref b23), .val (.int (if lo = lo2 then (if hi = hi2 then (1 : Int32) else (0 : Int32)) else (0 : Int32))), .val (.ref lg)] [(.ref b11), (.ref b11)])) t → Steps p.tables e below (s₁.setTop (entryFrame m #[(.long xa), (.long ya), (.long xb), (.long yb), (.int mo)] maxLocals)) t := fun t kt => pre60 t (by
      refine XS.iload X59.here hx rfl (hb hby at_221) rfl ?_
      show Steps p.tables e below (T59.setTop (mkF m 223 #[.val (.long xa), .second, .val (.long ya), .second, .val (.long xb), .second, .val (.long yb), .second, .val (.int mo), .val (.long (4294967295 : Int64)), .second, .val (.long lo), .second, .val (.long hi), .second, .val (.long lo2), .second, .val (.long hi2), .second, .val (.int mm), .val (.ref b11), .val (.ref b23), .val (.int (if lo = lo2 then (if hi = hi2 then (1 : Int32) else (0 : Int32)) else (0 : Int32))), .val (.ref lg)] [(.int (if lo = lo2 then (if hi = hi2 then (1 : Int32) else (0 : Int32)) else (0 : Int32))), (.int (if lo2 = lo then (if hi2 = hi then (1 : Int32) else (0 : Int32)) else (0 : Int32)))])) _
      refine XS.icmpNo X59.here hx rfl (hb hby at_223) rfl (teq (own_eqsym lo hi lo2 hi2 : (if lo2 = lo then (if hi2 = hi then (1 : Int32) else (0 : Int32)) else (0 : Int32)) = (if lo = lo2 then (if hi = hi2 then (1 : Int32) else (0 : Int32)) else (0 : Int32)))).2 ?_
      show Steps p.tables e below (T59.setTop (mkF m 226 #[.val (.long xa), .second, .val (.long ya), .second, .val (.long xb), .second, .val (.long yb), .second, .val (.int mo), .val (.long (4294967295 : Int64)), .second, .val (.long lo), .second, .val (.long hi), .second, .val (.long lo2), .second, .val (.long hi2), .second, .val (.int mm), .val (.ref b11), .val (.ref b23), .val (.int (if lo = lo2 then (if hi = hi2 then (1 : Int32) else (0 : Int32)) else (0 : Int32))), .val (.ref lg)] [])) _
      refine XS.aload X59.here hx rfl (hb hby at_226) rfl rfl ?_
      show Steps p.tables e below (T59.setTop (mkF m 228 #[.val (.long xa), .second, .val (.long ya), .second, .val (.long xb), .second, .val (.long yb), .second, .val (.int mo), .val (.long (4294967295 : Int64)), .second, .val (.long lo), .second, .val (.long hi), .second, .val (.long lo2), .second, .val (.long hi2), .second, .val (.int mm), .val (.ref b11), .val (.ref b23), .val (.int (if lo = lo2 then (if hi = hi2 then (1 : Int32) else (0 : Int32)) else (0 : Int32))), .val (.ref lg)] [(.ref b11)])) _
      refine XS.aload X59.here hx rfl (hb hby at_228) rfl rfl ?_
      show Steps p.tables e below (T59.setTop (mkF m 230 #[.val (.long xa), .second, .val (.long ya), .second, .val (.long xb), .second, .val (.long yb), .second, .val (.int mo), .val (.long (4294967295 : Int64)), .second, .val (.long lo), .second, .val (.long hi), .second, .val (.long lo2), .second, .val (.long hi2), .second, .val (.int mm), .val (.ref b11), .val (.ref b23), .val (.int (if lo = lo2 then (if hi = hi2 then (1 : Int32) else (0 : Int32)) else (0 : Int32))), .val (.ref lg)] [(.ref b11), (.ref b11)])) _
      exact kt)
    obtain ⟨cq62, kq62, q62a, q62b, q62c⟩ := isOf hZ e59q (f47)
    obtain ⟨_, _, ⟨T62, L62, k62, n62⟩, -, X62, ⟨Lc62, hQ62, l62, y62, z62⟩, st62⟩ := X59.virtualBack hx (y := (⟨"com/example/calm_balancer/calmbalancer/BundleRange", "equals", "(Ljava/lang/Object;)Z"⟩ : MethodName)) (z := (⟨"com/example/calm_balancer/calmbalancer/BundleRange", "equals", "(Ljava/lang/Object;)Z"⟩ : MethodName)) hown (mvT hZ (hw _ (List.mem_of_getElem? (i := 23) rfl))) (mvT hZ (hw _ (List.mem_of_getElem? (i := 24) rfl))) (notFace_of_selects (args := #[]) (mvT hZ (hw _ (List.mem_of_getElem? (i := 26) rfl)))) (mvT hZ (hw _ (List.mem_of_getElem? (i := 26) rfl))) (mvT hZ (hw _ (List.mem_of_getElem? (i := 25) rfl))) (by decide) (backOf (W := 0) (rmE l Z a0 hw [] b11 b11 lo hi lo hi T45.heap n0 Zf53 f48 f49 f48 f49 f47) hZ (hw _ (List.mem_of_getElem? (i := 27) rfl)) (hw _ (List.mem_of_getElem? (i := 3) rfl)) (by decide) (by decide)) q62a q62c (g := (mkF m 230 #[.val (.long xa), .second, .val (.long ya), .second, .val (.long xb), .second, .val (.long yb), .second, .val (.int mo), .val (.long (4294967295 : Int64)), .second, .val (.long lo), .second, .val (.long hi), .second, .val (.long lo2), .second, .val (.long hi2), .second, .val (.int mm), .val (.ref b11), .val (.ref b23), .val (.int (if lo = lo2 then (if hi = hi2 then (1 : Int32) else (0 : Int32)) else (0 : Int32))), .val (.ref lg)] [(.ref b11), (.ref b11)])) rfl (by rw [hml]; rfl) (Steps.refl _) (argsL := [(.ref b11)]) (rest := []) (lenOf pd__28Ljava_2flang_2fObject_3b_29Z rfl) rfl (by show 2 * 0 + _ ≤ _; exact Nat.le_of_eq rfl) (hb hby at_230) (fun _ _ => ⟨rfl, e59q, (by decide : 3 + 0 ≤ _), (by decide : 5 + 0 ≤ _)⟩)
    dsimp only [Pt.U, Pt.locs, Pt.cells, Pt.slots] at X62 l62 y62 z62 st62 hQ62
    subst l62 y62 z62
    obtain ⟨rfl, N62q, e62q⟩ := hQ62
    have N62 := Fr.app N59 N62q
    have pre63 : ∀ t, Steps p.tables e below (T62.setTop (mkF m 233 #[.val (.long xa), .second, .val (.long ya), .second, .val (.long xb), .second, .val (.long yb), .second, .val (.int mo), .val (.long (4294967295 : Int64)), .second, .val (.long lo), .second, .val (.long hi), .second, .val (.long lo2), .second, .val (.long hi2), .second, .val (.int mm), .val (.ref b11), .val (.ref b23), .val (.int (if lo = lo2 then (if hi = hi2 then (1 : Int32) else (0 : Int32)) else (0 : Int32))), .val (.ref lg)] [(.int (if lo = lo then (if hi = hi then (1 : Int32) else (0 : Int32)) else (0 : Int32)))])) t → Steps p.tables e below (s₁.setTop (entryFrame m #[(.long xa), (.long ya), (.long xb), (.long yb), (.int mo)] maxLocals)) t := fun t kt => pre61 t (st62.trans kt)
    have pre64 : ∀ t, Steps p.tables e below (T62.setTop (mkF m 240 #[.val (.long xa), .second, .val (.long ya), .second, .val (.long xb), .second, .val (.long yb), .second, .val (.int mo), .val (.long (4294967295 : Int64)), .second, .val (.long lo), .second, .val (.long hi), .second, .val (.long lo2), .second, .val (.long hi2), .second, .val (.int mm), .val (.ref b11), .val (.ref b23), .val (.int (if lo = lo2 then (if hi = hi2 then (1 : Int32) else (0 : Int32)) else (0 : Int32))), .val (.ref lg)] [(.ref lg), (.ref b11)])) t → Steps p.tables e below (s₁.setTop (entryFrame m #[(.long xa), (.long ya), (.long xb), (.long yb), (.int mo)] maxLocals)) t := fun t kt => pre63 t (by
      refine XS.ifNo X62.here hx rfl (hb hby at_233) rfl ((if0 _ _).trans (feq (own_eqself lo hi : ¬ ((if lo = lo then (if hi = hi then (1 : Int32) else (0 : Int32)) else (0 : Int32)) = (0 : Int32)))).1) ?_
      show Steps p.tables e below (T62.setTop (mkF m 236 #[.val (.long xa), .second, .val (.long ya), .second, .val (.long xb), .second, .val (.long yb), .second, .val (.int mo), .val (.long (4294967295 : Int64)), .second, .val (.long lo), .second, .val (.long hi), .second, .val (.long lo2), .second, .val (.long hi2), .second, .val (.int mm), .val (.ref b11), .val (.ref b23), .val (.int (if lo = lo2 then (if hi = hi2 then (1 : Int32) else (0 : Int32)) else (0 : Int32))), .val (.ref lg)] [])) _
      refine XS.aload X62.here hx rfl (hb hby at_236) rfl rfl ?_
      show Steps p.tables e below (T62.setTop (mkF m 238 #[.val (.long xa), .second, .val (.long ya), .second, .val (.long xb), .second, .val (.long yb), .second, .val (.int mo), .val (.long (4294967295 : Int64)), .second, .val (.long lo), .second, .val (.long hi), .second, .val (.long lo2), .second, .val (.long hi2), .second, .val (.int mm), .val (.ref b11), .val (.ref b23), .val (.int (if lo = lo2 then (if hi = hi2 then (1 : Int32) else (0 : Int32)) else (0 : Int32))), .val (.ref lg)] [(.ref b11)])) _
      refine XS.aload X62.here hx rfl (hb hby at_238) rfl rfl ?_
      show Steps p.tables e below (T62.setTop (mkF m 240 #[.val (.long xa), .second, .val (.long ya), .second, .val (.long xb), .second, .val (.long yb), .second, .val (.int mo), .val (.long (4294967295 : Int64)), .second, .val (.long lo), .second, .val (.long hi), .second, .val (.long lo2), .second, .val (.long hi2), .second, .val (.int mm), .val (.ref b11), .val (.ref b23), .val (.int (if lo = lo2 then (if hi = hi2 then (1 : Int32) else (0 : Int32)) else (0 : Int32))), .val (.ref lg)] [(.ref lg), (.ref b11)])) _
      exact kt)
    obtain ⟨cq65, kq65, q65a, q65b, q65c⟩ := isOf hZ e62q (f47)
    obtain ⟨_, _, ⟨T65, L65, k65, n65⟩, -, X65, ⟨Lc65, hQ65, l65, y65, z65⟩, st65⟩ := X62.virtualBack hx (y := (⟨"com/example/calm_balancer/calmbalancer/BundleRange", "equals", "(Ljava/lang/Object;)Z"⟩ : MethodName)) (z := (⟨"com/example/calm_balancer/calmbalancer/BundleRange", "equals", "(Ljava/lang/Object;)Z"⟩ : MethodName)) hown (mvT hZ (hw _ (List.mem_of_getElem? (i := 23) rfl))) (mvT hZ (hw _ (List.mem_of_getElem? (i := 24) rfl))) (notFace_of_selects (args := #[]) (mvT hZ (hw _ (List.mem_of_getElem? (i := 26) rfl)))) (mvT hZ (hw _ (List.mem_of_getElem? (i := 26) rfl))) (mvT hZ (hw _ (List.mem_of_getElem? (i := 25) rfl))) (by decide) (backOf (W := 0) (rmEl l Z a0 hw [] b11 lg T45.heap n0 Zf53 E45x) hZ (hw _ (List.mem_of_getElem? (i := 27) rfl)) (hw _ (List.mem_of_getElem? (i := 3) rfl)) (by decide) (by decide)) q65a q65c (g := (mkF m 240 #[.val (.long xa), .second, .val (.long ya), .second, .val (.long xb), .second, .val (.long yb), .second, .val (.int mo), .val (.long (4294967295 : Int64)), .second, .val (.long lo), .second, .val (.long hi), .second, .val (.long lo2), .second, .val (.long hi2), .second, .val (.int mm), .val (.ref b11), .val (.ref b23), .val (.int (if lo = lo2 then (if hi = hi2 then (1 : Int32) else (0 : Int32)) else (0 : Int32))), .val (.ref lg)] [(.ref lg), (.ref b11)])) rfl (by rw [hml]; rfl) (Steps.refl _) (argsL := [(.ref lg)]) (rest := []) (lenOf pd__28Ljava_2flang_2fObject_3b_29Z rfl) rfl (by show 2 * 0 + _ ≤ _; exact Nat.le_of_eq rfl) (hb hby at_240) (fun _ _ => ⟨rfl, e62q, (by decide : 3 + 0 ≤ _), (by decide : 5 + 0 ≤ _)⟩)
    dsimp only [Pt.U, Pt.locs, Pt.cells, Pt.slots] at X65 l65 y65 z65 st65 hQ65
    subst l65 y65 z65
    obtain ⟨rfl, N65q, e65q⟩ := hQ65
    have N65 := Fr.app N62 N65q
    have pre66 : ∀ t, Steps p.tables e below (T65.setTop (mkF m 243 #[.val (.long xa), .second, .val (.long ya), .second, .val (.long xb), .second, .val (.long yb), .second, .val (.int mo), .val (.long (4294967295 : Int64)), .second, .val (.long lo), .second, .val (.long hi), .second, .val (.long lo2), .second, .val (.long hi2), .second, .val (.int mm), .val (.ref b11), .val (.ref b23), .val (.int (if lo = lo2 then (if hi = hi2 then (1 : Int32) else (0 : Int32)) else (0 : Int32))), .val (.ref lg)] [(.int (0 : Int32))])) t → Steps p.tables e below (s₁.setTop (entryFrame m #[(.long xa), (.long ya), (.long xb), (.long yb), (.int mo)] maxLocals)) t := fun t kt => pre64 t (st65.trans kt)
    have pre67 : ∀ t, Steps p.tables e below (T65.setTop (mkF m 251 #[.val (.long xa), .second, .val (.long ya), .second, .val (.long xb), .second, .val (.long yb), .second, .val (.int mo), .val (.long (4294967295 : Int64)), .second, .val (.long lo), .second, .val (.long hi), .second, .val (.long lo2), .second, .val (.long hi2), .second, .val (.int mm), .val (.ref b11), .val (.ref b23), .val (.int (if lo = lo2 then (if hi = hi2 then (1 : Int32) else (0 : Int32)) else (0 : Int32))), .val (.ref lg)] [(.int (1 : Int32))])) t → Steps p.tables e below (s₁.setTop (entryFrame m #[(.long xa), (.long ya), (.long xb), (.long yb), (.int mo)] maxLocals)) t := fun t kt => pre66 t (by
      refine XS.ifNo X65.here hx rfl (hb hby at_243) rfl ((if0 _ _).trans (teq (by decide : (0 : Int32) = (0 : Int32))).2) ?_
      show Steps p.tables e below (T65.setTop (mkF m 246 #[.val (.long xa), .second, .val (.long ya), .second, .val (.long xb), .second, .val (.long yb), .second, .val (.int mo), .val (.long (4294967295 : Int64)), .second, .val (.long lo), .second, .val (.long hi), .second, .val (.long lo2), .second, .val (.long hi2), .second, .val (.int mm), .val (.ref b11), .val (.ref b23), .val (.int (if lo = lo2 then (if hi = hi2 then (1 : Int32) else (0 : Int32)) else (0 : Int32))), .val (.ref lg)] [])) _
      refine XS.iconst X65.here hx rfl (hb hby at_246) ?_
      show Steps p.tables e below (T65.setTop (mkF m 247 #[.val (.long xa), .second, .val (.long ya), .second, .val (.long xb), .second, .val (.long yb), .second, .val (.int mo), .val (.long (4294967295 : Int64)), .second, .val (.long lo), .second, .val (.long hi), .second, .val (.long lo2), .second, .val (.long hi2), .second, .val (.int mm), .val (.ref b11), .val (.ref b23), .val (.int (if lo = lo2 then (if hi = hi2 then (1 : Int32) else (0 : Int32)) else (0 : Int32))), .val (.ref lg)] [(.int (1 : Int32))])) _
      refine XS.goto X65.here hx rfl (pc0 := 247) (pc' := 251) rfl (hb hby at_247) (by decide) (by decide) ?_
      show Steps p.tables e below (T65.setTop (mkF m 251 #[.val (.long xa), .second, .val (.long ya), .second, .val (.long xb), .second, .val (.long yb), .second, .val (.int mo), .val (.long (4294967295 : Int64)), .second, .val (.long lo), .second, .val (.long hi), .second, .val (.long lo2), .second, .val (.long hi2), .second, .val (.int mm), .val (.ref b11), .val (.ref b23), .val (.int (if lo = lo2 then (if hi = hi2 then (1 : Int32) else (0 : Int32)) else (0 : Int32))), .val (.ref lg)] [(.int (1 : Int32))])) _
      exact kt)
    obtain ⟨fs, hr, hrun, hended, hW, hsame⟩ := X65.leave (v := (some (.int (1 : Int32)))) (fun h => by rw [Bd.returns] at h; cases h)
    refine ⟨_, _, pre67 _ ?_, hrun, hended, _, _, rfl, ?_, ⟨_, rfl⟩, hW, hsame.mono (by decide) (by decide)⟩
    · exact retN X65 hx (t := .boolean) Bd.returns (by simp) (hb hby at_251) hr
    · show Q0 Z  h0 n0 _ T65.heap _
      rw [e65q]
      exact ⟨rfl, N65⟩
  · have pre69 : ∀ t, Steps p.tables e below (T33.setTop (mkF m 206 #[.val (.long xa), .second, .val (.long ya), .second, .val (.long xb), .second, .val (.long yb), .second, .val (.int mo), .val (.long (4294967295 : Int64)), .second, .val (.long lo), .second, .val (.long hi), .second, .val (.long lo2), .second, .val (.long hi2), .second, .val (.int mm), .val (.ref b11), .val (.ref b23), .val (.int (if lo = lo2 then (if hi = hi2 then (1 : Int32) else (0 : Int32)) else (0 : Int32))), .val .null] [(.ref b23), (.ref b11)])) t → Steps p.tables e below (s₁.setTop (entryFrame m #[(.long xa), (.long ya), (.long xb), (.long yb), (.int mo)] maxLocals)) t := fun t kt => pre43 t (by
      refine XS.ifNo X33.here hx rfl (hb hby at_188) rfl ((if0 _ _).trans (feq c188_6).1) ?_
      show Steps p.tables e below (T33.setTop (mkF m 191 #[.val (.long xa), .second, .val (.long ya), .second, .val (.long xb), .second, .val (.long yb), .second, .val (.int mo), .val (.long (4294967295 : Int64)), .second, .val (.long lo), .second, .val (.long hi), .second, .val (.long lo2), .second, .val (.long hi2), .second, .val (.int mm), .val (.ref b11), .val (.ref b23), .val (.int (if lo = lo2 then (if hi = hi2 then (1 : Int32) else (0 : Int32)) else (0 : Int32))), .unset] [])) _
      refine XS.aconstNull X33.here hx rfl (hb hby at_191) ?_
      show Steps p.tables e below (T33.setTop (mkF m 192 #[.val (.long xa), .second, .val (.long ya), .second, .val (.long xb), .second, .val (.long yb), .second, .val (.int mo), .val (.long (4294967295 : Int64)), .second, .val (.long lo), .second, .val (.long hi), .second, .val (.long lo2), .second, .val (.long hi2), .second, .val (.int mm), .val (.ref b11), .val (.ref b23), .val (.int (if lo = lo2 then (if hi = hi2 then (1 : Int32) else (0 : Int32)) else (0 : Int32))), .unset] [.null])) _
      refine XS.goto X33.here hx rfl (pc0 := 192) (pc' := 200) rfl (hb hby at_192) (by decide) (by decide) ?_
      show Steps p.tables e below (T33.setTop (mkF m 200 #[.val (.long xa), .second, .val (.long ya), .second, .val (.long xb), .second, .val (.long yb), .second, .val (.int mo), .val (.long (4294967295 : Int64)), .second, .val (.long lo), .second, .val (.long hi), .second, .val (.long lo2), .second, .val (.long hi2), .second, .val (.int mm), .val (.ref b11), .val (.ref b23), .val (.int (if lo = lo2 then (if hi = hi2 then (1 : Int32) else (0 : Int32)) else (0 : Int32))), .unset] [.null])) _
      refine XS.astore X33.here hx rfl (hb hby at_200) rfl rfl (l' := #[.val (.long xa), .second, .val (.long ya), .second, .val (.long xb), .second, .val (.long yb), .second, .val (.int mo), .val (.long (4294967295 : Int64)), .second, .val (.long lo), .second, .val (.long hi), .second, .val (.long lo2), .second, .val (.long hi2), .second, .val (.int mm), .val (.ref b11), .val (.ref b23), .val (.int (if lo = lo2 then (if hi = hi2 then (1 : Int32) else (0 : Int32)) else (0 : Int32))), .val .null]) rfl ?_
      show Steps p.tables e below (T33.setTop (mkF m 202 #[.val (.long xa), .second, .val (.long ya), .second, .val (.long xb), .second, .val (.long yb), .second, .val (.int mo), .val (.long (4294967295 : Int64)), .second, .val (.long lo), .second, .val (.long hi), .second, .val (.long lo2), .second, .val (.long hi2), .second, .val (.int mm), .val (.ref b11), .val (.ref b23), .val (.int (if lo = lo2 then (if hi = hi2 then (1 : Int32) else (0 : Int32)) else (0 : Int32))), .val .null] [])) _
      refine XS.aload X33.here hx rfl (hb hby at_202) rfl rfl ?_
      show Steps p.tables e below (T33.setTop (mkF m 204 #[.val (.long xa), .second, .val (.long ya), .second, .val (.long xb), .second, .val (.long yb), .second, .val (.int mo), .val (.long (4294967295 : Int64)), .second, .val (.long lo), .second, .val (.long hi), .second, .val (.long lo2), .second, .val (.long hi2), .second, .val (.int mm), .val (.ref b11), .val (.ref b23), .val (.int (if lo = lo2 then (if hi = hi2 then (1 : Int32) else (0 : Int32)) else (0 : Int32))), .val .null] [(.ref b11)])) _
      refine XS.aload X33.here hx rfl (hb hby at_204) rfl rfl ?_
      show Steps p.tables e below (T33.setTop (mkF m 206 #[.val (.long xa), .second, .val (.long ya), .second, .val (.long xb), .second, .val (.long yb), .second, .val (.int mo), .val (.long (4294967295 : Int64)), .second, .val (.long lo), .second, .val (.long hi), .second, .val (.long lo2), .second, .val (.long hi2), .second, .val (.int mm), .val (.ref b11), .val (.ref b23), .val (.int (if lo = lo2 then (if hi = hi2 then (1 : Int32) else (0 : Int32)) else (0 : Int32))), .val .null] [(.ref b23), (.ref b11)])) _
      exact kt)
    obtain ⟨cq70, kq70, q70a, q70b, q70c⟩ := isOf hZ rfl (f35)
    obtain ⟨_, _, ⟨T70, L70, k70, n70⟩, -, X70, ⟨Lc70, hQ70, l70, y70, z70⟩, st70⟩ := X33.virtualBack hx (y := (⟨"com/example/calm_balancer/calmbalancer/BundleRange", "equals", "(Ljava/lang/Object;)Z"⟩ : MethodName)) (z := (⟨"com/example/calm_balancer/calmbalancer/BundleRange", "equals", "(Ljava/lang/Object;)Z"⟩ : MethodName)) hown (mvT hZ (hw _ (List.mem_of_getElem? (i := 23) rfl))) (mvT hZ (hw _ (List.mem_of_getElem? (i := 24) rfl))) (notFace_of_selects (args := #[]) (mvT hZ (hw _ (List.mem_of_getElem? (i := 26) rfl)))) (mvT hZ (hw _ (List.mem_of_getElem? (i := 26) rfl))) (mvT hZ (hw _ (List.mem_of_getElem? (i := 25) rfl))) (by decide) (backOf (W := 0) (rmE l Z a0 hw [] b11 b23 lo hi lo2 hi2 T33.heap n0 Zf39 f36 f37 Fl33 Fu33 f38) hZ (hw _ (List.mem_of_getElem? (i := 27) rfl)) (hw _ (List.mem_of_getElem? (i := 3) rfl)) (by decide) (by decide)) q70a q70c (g := (mkF m 206 #[.val (.long xa), .second, .val (.long ya), .second, .val (.long xb), .second, .val (.long yb), .second, .val (.int mo), .val (.long (4294967295 : Int64)), .second, .val (.long lo), .second, .val (.long hi), .second, .val (.long lo2), .second, .val (.long hi2), .second, .val (.int mm), .val (.ref b11), .val (.ref b23), .val (.int (if lo = lo2 then (if hi = hi2 then (1 : Int32) else (0 : Int32)) else (0 : Int32))), .val .null] [(.ref b23), (.ref b11)])) rfl (by rw [hml]; rfl) (Steps.refl _) (argsL := [(.ref b23)]) (rest := []) (lenOf pd__28Ljava_2flang_2fObject_3b_29Z rfl) rfl (by show 2 * 0 + _ ≤ _; exact Nat.le_of_eq rfl) (hb hby at_206) (fun _ _ => ⟨rfl, rfl, (by decide : 2 + 0 ≤ _), (by decide : 4 + 0 ≤ _)⟩)
    dsimp only [Pt.U, Pt.locs, Pt.cells, Pt.slots] at X70 l70 y70 z70 st70 hQ70
    subst l70 y70 z70
    obtain ⟨rfl, N70q, e70q⟩ := hQ70
    have N70 := Fr.app N33 N70q
    have pre71 : ∀ t, Steps p.tables e below (T70.setTop (mkF m 209 #[.val (.long xa), .second, .val (.long ya), .second, .val (.long xb), .second, .val (.long yb), .second, .val (.int mo), .val (.long (4294967295 : Int64)), .second, .val (.long lo), .second, .val (.long hi), .second, .val (.long lo2), .second, .val (.long hi2), .second, .val (.int mm), .val (.ref b11), .val (.ref b23), .val (.int (if lo = lo2 then (if hi = hi2 then (1 : Int32) else (0 : Int32)) else (0 : Int32))), .val .null] [(.int (if lo = lo2 then (if hi = hi2 then (1 : Int32) else (0 : Int32)) else (0 : Int32)))])) t → Steps p.tables e below (s₁.setTop (entryFrame m #[(.long xa), (.long ya), (.long xb), (.long yb), (.int mo)] maxLocals)) t := fun t kt => pre69 t (st70.trans kt)
    have pre72 : ∀ t, Steps p.tables e below (T70.setTop (mkF m 218 #[.val (.long xa), .second, .val (.long ya), .second, .val (.long xb), .second, .val (.long yb), .second, .val (.int mo), .val (.long (4294967295 : Int64)), .second, .val (.long lo), .second, .val (.long hi), .second, .val (.long lo2), .second, .val (.long hi2), .second, .val (.int mm), .val (.ref b11), .val (.ref b23), .val (.int (if lo = lo2 then (if hi = hi2 then (1 : Int32) else (0 : Int32)) else (0 : Int32))), .val .null] [(.ref b11), (.ref b23)])) t → Steps p.tables e below (s₁.setTop (entryFrame m #[(.long xa), (.long ya), (.long xb), (.long yb), (.int mo)] maxLocals)) t := fun t kt => pre71 t (by
      refine XS.iload X70.here hx rfl (hb hby at_209) rfl ?_
      show Steps p.tables e below (T70.setTop (mkF m 211 #[.val (.long xa), .second, .val (.long ya), .second, .val (.long xb), .second, .val (.long yb), .second, .val (.int mo), .val (.long (4294967295 : Int64)), .second, .val (.long lo), .second, .val (.long hi), .second, .val (.long lo2), .second, .val (.long hi2), .second, .val (.int mm), .val (.ref b11), .val (.ref b23), .val (.int (if lo = lo2 then (if hi = hi2 then (1 : Int32) else (0 : Int32)) else (0 : Int32))), .val .null] [(.int (if lo = lo2 then (if hi = hi2 then (1 : Int32) else (0 : Int32)) else (0 : Int32))), (.int (if lo = lo2 then (if hi = hi2 then (1 : Int32) else (0 : Int32)) else (0 : Int32)))])) _
      refine XS.icmpNo X70.here hx rfl (hb hby at_211) rfl (teq (rfl : (if lo = lo2 then (if hi = hi2 then (1 : Int32) else (0 : Int32)) else (0 : Int32)) = (if lo = lo2 then (if hi = hi2 then (1 : Int32) else (0 : Int32)) else (0 : Int32)))).2 ?_
      show Steps p.tables e below (T70.setTop (mkF m 214 #[.val (.long xa), .second, .val (.long ya), .second, .val (.long xb), .second, .val (.long yb), .second, .val (.int mo), .val (.long (4294967295 : Int64)), .second, .val (.long lo), .second, .val (.long hi), .second, .val (.long lo2), .second, .val (.long hi2), .second, .val (.int mm), .val (.ref b11), .val (.ref b23), .val (.int (if lo = lo2 then (if hi = hi2 then (1 : Int32) else (0 : Int32)) else (0 : Int32))), .val .null] [])) _
      refine XS.aload X70.here hx rfl (hb hby at_214) rfl rfl ?_
      show Steps p.tables e below (T70.setTop (mkF m 216 #[.val (.long xa), .second, .val (.long ya), .second, .val (.long xb), .second, .val (.long yb), .second, .val (.int mo), .val (.long (4294967295 : Int64)), .second, .val (.long lo), .second, .val (.long hi), .second, .val (.long lo2), .second, .val (.long hi2), .second, .val (.int mm), .val (.ref b11), .val (.ref b23), .val (.int (if lo = lo2 then (if hi = hi2 then (1 : Int32) else (0 : Int32)) else (0 : Int32))), .val .null] [(.ref b23)])) _
      refine XS.aload X70.here hx rfl (hb hby at_216) rfl rfl ?_
      show Steps p.tables e below (T70.setTop (mkF m 218 #[.val (.long xa), .second, .val (.long ya), .second, .val (.long xb), .second, .val (.long yb), .second, .val (.int mo), .val (.long (4294967295 : Int64)), .second, .val (.long lo), .second, .val (.long hi), .second, .val (.long lo2), .second, .val (.long hi2), .second, .val (.int mm), .val (.ref b11), .val (.ref b23), .val (.int (if lo = lo2 then (if hi = hi2 then (1 : Int32) else (0 : Int32)) else (0 : Int32))), .val .null] [(.ref b11), (.ref b23)])) _
      exact kt)
    obtain ⟨cq73, kq73, q73a, q73b, q73c⟩ := isOf hZ e70q (f38)
    obtain ⟨_, _, ⟨T73, L73, k73, n73⟩, -, X73, ⟨Lc73, hQ73, l73, y73, z73⟩, st73⟩ := X70.virtualBack hx (y := (⟨"com/example/calm_balancer/calmbalancer/BundleRange", "equals", "(Ljava/lang/Object;)Z"⟩ : MethodName)) (z := (⟨"com/example/calm_balancer/calmbalancer/BundleRange", "equals", "(Ljava/lang/Object;)Z"⟩ : MethodName)) hown (mvT hZ (hw _ (List.mem_of_getElem? (i := 23) rfl))) (mvT hZ (hw _ (List.mem_of_getElem? (i := 24) rfl))) (notFace_of_selects (args := #[]) (mvT hZ (hw _ (List.mem_of_getElem? (i := 26) rfl)))) (mvT hZ (hw _ (List.mem_of_getElem? (i := 26) rfl))) (mvT hZ (hw _ (List.mem_of_getElem? (i := 25) rfl))) (by decide) (backOf (W := 0) (rmE l Z a0 hw [] b23 b11 lo2 hi2 lo hi T33.heap n0 Zf39 Fl33 Fu33 f36 f37 f35) hZ (hw _ (List.mem_of_getElem? (i := 27) rfl)) (hw _ (List.mem_of_getElem? (i := 3) rfl)) (by decide) (by decide)) q73a q73c (g := (mkF m 218 #[.val (.long xa), .second, .val (.long ya), .second, .val (.long xb), .second, .val (.long yb), .second, .val (.int mo), .val (.long (4294967295 : Int64)), .second, .val (.long lo), .second, .val (.long hi), .second, .val (.long lo2), .second, .val (.long hi2), .second, .val (.int mm), .val (.ref b11), .val (.ref b23), .val (.int (if lo = lo2 then (if hi = hi2 then (1 : Int32) else (0 : Int32)) else (0 : Int32))), .val .null] [(.ref b11), (.ref b23)])) rfl (by rw [hml]; rfl) (Steps.refl _) (argsL := [(.ref b11)]) (rest := []) (lenOf pd__28Ljava_2flang_2fObject_3b_29Z rfl) rfl (by show 2 * 0 + _ ≤ _; exact Nat.le_of_eq rfl) (hb hby at_218) (fun _ _ => ⟨rfl, e70q, (by decide : 2 + 0 ≤ _), (by decide : 4 + 0 ≤ _)⟩)
    dsimp only [Pt.U, Pt.locs, Pt.cells, Pt.slots] at X73 l73 y73 z73 st73 hQ73
    subst l73 y73 z73
    obtain ⟨rfl, N73q, e73q⟩ := hQ73
    have N73 := Fr.app N70 N73q
    have pre74 : ∀ t, Steps p.tables e below (T73.setTop (mkF m 221 #[.val (.long xa), .second, .val (.long ya), .second, .val (.long xb), .second, .val (.long yb), .second, .val (.int mo), .val (.long (4294967295 : Int64)), .second, .val (.long lo), .second, .val (.long hi), .second, .val (.long lo2), .second, .val (.long hi2), .second, .val (.int mm), .val (.ref b11), .val (.ref b23), .val (.int (if lo = lo2 then (if hi = hi2 then (1 : Int32) else (0 : Int32)) else (0 : Int32))), .val .null] [(.int (if lo2 = lo then (if hi2 = hi then (1 : Int32) else (0 : Int32)) else (0 : Int32)))])) t → Steps p.tables e below (s₁.setTop (entryFrame m #[(.long xa), (.long ya), (.long xb), (.long yb), (.int mo)] maxLocals)) t := fun t kt => pre72 t (st73.trans kt)
    have pre75 : ∀ t, Steps p.tables e below (T73.setTop (mkF m 230 #[.val (.long xa), .second, .val (.long ya), .second, .val (.long xb), .second, .val (.long yb), .second, .val (.int mo), .val (.long (4294967295 : Int64)), .second, .val (.long lo), .second, .val (.long hi), .second, .val (.long lo2), .second, .val (.long hi2), .second, .val (.int mm), .val (.ref b11), .val (.ref b23), .val (.int (if lo = lo2 then (if hi = hi2 then (1 : Int32) else (0 : Int32)) else (0 : Int32))), .val .null] [(.ref b11), (.ref b11)])) t → Steps p.tables e below (s₁.setTop (entryFrame m #[(.long xa), (.long ya), (.long xb), (.long yb), (.int mo)] maxLocals)) t := fun t kt => pre74 t (by
      refine XS.iload X73.here hx rfl (hb hby at_221) rfl ?_
      show Steps p.tables e below (T73.setTop (mkF m 223 #[.val (.long xa), .second, .val (.long ya), .second, .val (.long xb), .second, .val (.long yb), .second, .val (.int mo), .val (.long (4294967295 : Int64)), .second, .val (.long lo), .second, .val (.long hi), .second, .val (.long lo2), .second, .val (.long hi2), .second, .val (.int mm), .val (.ref b11), .val (.ref b23), .val (.int (if lo = lo2 then (if hi = hi2 then (1 : Int32) else (0 : Int32)) else (0 : Int32))), .val .null] [(.int (if lo = lo2 then (if hi = hi2 then (1 : Int32) else (0 : Int32)) else (0 : Int32))), (.int (if lo2 = lo then (if hi2 = hi then (1 : Int32) else (0 : Int32)) else (0 : Int32)))])) _
      refine XS.icmpNo X73.here hx rfl (hb hby at_223) rfl (teq (own_eqsym lo hi lo2 hi2 : (if lo2 = lo then (if hi2 = hi then (1 : Int32) else (0 : Int32)) else (0 : Int32)) = (if lo = lo2 then (if hi = hi2 then (1 : Int32) else (0 : Int32)) else (0 : Int32)))).2 ?_
      show Steps p.tables e below (T73.setTop (mkF m 226 #[.val (.long xa), .second, .val (.long ya), .second, .val (.long xb), .second, .val (.long yb), .second, .val (.int mo), .val (.long (4294967295 : Int64)), .second, .val (.long lo), .second, .val (.long hi), .second, .val (.long lo2), .second, .val (.long hi2), .second, .val (.int mm), .val (.ref b11), .val (.ref b23), .val (.int (if lo = lo2 then (if hi = hi2 then (1 : Int32) else (0 : Int32)) else (0 : Int32))), .val .null] [])) _
      refine XS.aload X73.here hx rfl (hb hby at_226) rfl rfl ?_
      show Steps p.tables e below (T73.setTop (mkF m 228 #[.val (.long xa), .second, .val (.long ya), .second, .val (.long xb), .second, .val (.long yb), .second, .val (.int mo), .val (.long (4294967295 : Int64)), .second, .val (.long lo), .second, .val (.long hi), .second, .val (.long lo2), .second, .val (.long hi2), .second, .val (.int mm), .val (.ref b11), .val (.ref b23), .val (.int (if lo = lo2 then (if hi = hi2 then (1 : Int32) else (0 : Int32)) else (0 : Int32))), .val .null] [(.ref b11)])) _
      refine XS.aload X73.here hx rfl (hb hby at_228) rfl rfl ?_
      show Steps p.tables e below (T73.setTop (mkF m 230 #[.val (.long xa), .second, .val (.long ya), .second, .val (.long xb), .second, .val (.long yb), .second, .val (.int mo), .val (.long (4294967295 : Int64)), .second, .val (.long lo), .second, .val (.long hi), .second, .val (.long lo2), .second, .val (.long hi2), .second, .val (.int mm), .val (.ref b11), .val (.ref b23), .val (.int (if lo = lo2 then (if hi = hi2 then (1 : Int32) else (0 : Int32)) else (0 : Int32))), .val .null] [(.ref b11), (.ref b11)])) _
      exact kt)
    obtain ⟨cq76, kq76, q76a, q76b, q76c⟩ := isOf hZ e73q (f35)
    obtain ⟨_, _, ⟨T76, L76, k76, n76⟩, -, X76, ⟨Lc76, hQ76, l76, y76, z76⟩, st76⟩ := X73.virtualBack hx (y := (⟨"com/example/calm_balancer/calmbalancer/BundleRange", "equals", "(Ljava/lang/Object;)Z"⟩ : MethodName)) (z := (⟨"com/example/calm_balancer/calmbalancer/BundleRange", "equals", "(Ljava/lang/Object;)Z"⟩ : MethodName)) hown (mvT hZ (hw _ (List.mem_of_getElem? (i := 23) rfl))) (mvT hZ (hw _ (List.mem_of_getElem? (i := 24) rfl))) (notFace_of_selects (args := #[]) (mvT hZ (hw _ (List.mem_of_getElem? (i := 26) rfl)))) (mvT hZ (hw _ (List.mem_of_getElem? (i := 26) rfl))) (mvT hZ (hw _ (List.mem_of_getElem? (i := 25) rfl))) (by decide) (backOf (W := 0) (rmE l Z a0 hw [] b11 b11 lo hi lo hi T33.heap n0 Zf39 f36 f37 f36 f37 f35) hZ (hw _ (List.mem_of_getElem? (i := 27) rfl)) (hw _ (List.mem_of_getElem? (i := 3) rfl)) (by decide) (by decide)) q76a q76c (g := (mkF m 230 #[.val (.long xa), .second, .val (.long ya), .second, .val (.long xb), .second, .val (.long yb), .second, .val (.int mo), .val (.long (4294967295 : Int64)), .second, .val (.long lo), .second, .val (.long hi), .second, .val (.long lo2), .second, .val (.long hi2), .second, .val (.int mm), .val (.ref b11), .val (.ref b23), .val (.int (if lo = lo2 then (if hi = hi2 then (1 : Int32) else (0 : Int32)) else (0 : Int32))), .val .null] [(.ref b11), (.ref b11)])) rfl (by rw [hml]; rfl) (Steps.refl _) (argsL := [(.ref b11)]) (rest := []) (lenOf pd__28Ljava_2flang_2fObject_3b_29Z rfl) rfl (by show 2 * 0 + _ ≤ _; exact Nat.le_of_eq rfl) (hb hby at_230) (fun _ _ => ⟨rfl, e73q, (by decide : 2 + 0 ≤ _), (by decide : 4 + 0 ≤ _)⟩)
    dsimp only [Pt.U, Pt.locs, Pt.cells, Pt.slots] at X76 l76 y76 z76 st76 hQ76
    subst l76 y76 z76
    obtain ⟨rfl, N76q, e76q⟩ := hQ76
    have N76 := Fr.app N73 N76q
    have pre77 : ∀ t, Steps p.tables e below (T76.setTop (mkF m 233 #[.val (.long xa), .second, .val (.long ya), .second, .val (.long xb), .second, .val (.long yb), .second, .val (.int mo), .val (.long (4294967295 : Int64)), .second, .val (.long lo), .second, .val (.long hi), .second, .val (.long lo2), .second, .val (.long hi2), .second, .val (.int mm), .val (.ref b11), .val (.ref b23), .val (.int (if lo = lo2 then (if hi = hi2 then (1 : Int32) else (0 : Int32)) else (0 : Int32))), .val .null] [(.int (if lo = lo then (if hi = hi then (1 : Int32) else (0 : Int32)) else (0 : Int32)))])) t → Steps p.tables e below (s₁.setTop (entryFrame m #[(.long xa), (.long ya), (.long xb), (.long yb), (.int mo)] maxLocals)) t := fun t kt => pre75 t (st76.trans kt)
    have pre78 : ∀ t, Steps p.tables e below (T76.setTop (mkF m 240 #[.val (.long xa), .second, .val (.long ya), .second, .val (.long xb), .second, .val (.long yb), .second, .val (.int mo), .val (.long (4294967295 : Int64)), .second, .val (.long lo), .second, .val (.long hi), .second, .val (.long lo2), .second, .val (.long hi2), .second, .val (.int mm), .val (.ref b11), .val (.ref b23), .val (.int (if lo = lo2 then (if hi = hi2 then (1 : Int32) else (0 : Int32)) else (0 : Int32))), .val .null] [.null, (.ref b11)])) t → Steps p.tables e below (s₁.setTop (entryFrame m #[(.long xa), (.long ya), (.long xb), (.long yb), (.int mo)] maxLocals)) t := fun t kt => pre77 t (by
      refine XS.ifNo X76.here hx rfl (hb hby at_233) rfl ((if0 _ _).trans (feq (own_eqself lo hi : ¬ ((if lo = lo then (if hi = hi then (1 : Int32) else (0 : Int32)) else (0 : Int32)) = (0 : Int32)))).1) ?_
      show Steps p.tables e below (T76.setTop (mkF m 236 #[.val (.long xa), .second, .val (.long ya), .second, .val (.long xb), .second, .val (.long yb), .second, .val (.int mo), .val (.long (4294967295 : Int64)), .second, .val (.long lo), .second, .val (.long hi), .second, .val (.long lo2), .second, .val (.long hi2), .second, .val (.int mm), .val (.ref b11), .val (.ref b23), .val (.int (if lo = lo2 then (if hi = hi2 then (1 : Int32) else (0 : Int32)) else (0 : Int32))), .val .null] [])) _
      refine XS.aload X76.here hx rfl (hb hby at_236) rfl rfl ?_
      show Steps p.tables e below (T76.setTop (mkF m 238 #[.val (.long xa), .second, .val (.long ya), .second, .val (.long xb), .second, .val (.long yb), .second, .val (.int mo), .val (.long (4294967295 : Int64)), .second, .val (.long lo), .second, .val (.long hi), .second, .val (.long lo2), .second, .val (.long hi2), .second, .val (.int mm), .val (.ref b11), .val (.ref b23), .val (.int (if lo = lo2 then (if hi = hi2 then (1 : Int32) else (0 : Int32)) else (0 : Int32))), .val .null] [(.ref b11)])) _
      refine XS.aload X76.here hx rfl (hb hby at_238) rfl rfl ?_
      show Steps p.tables e below (T76.setTop (mkF m 240 #[.val (.long xa), .second, .val (.long ya), .second, .val (.long xb), .second, .val (.long yb), .second, .val (.int mo), .val (.long (4294967295 : Int64)), .second, .val (.long lo), .second, .val (.long hi), .second, .val (.long lo2), .second, .val (.long hi2), .second, .val (.int mm), .val (.ref b11), .val (.ref b23), .val (.int (if lo = lo2 then (if hi = hi2 then (1 : Int32) else (0 : Int32)) else (0 : Int32))), .val .null] [.null, (.ref b11)])) _
      exact kt)
    obtain ⟨cq79, kq79, q79a, q79b, q79c⟩ := isOf hZ e76q (f35)
    obtain ⟨_, _, ⟨T79, L79, k79, n79⟩, -, X79, ⟨Lc79, hQ79, l79, y79, z79⟩, st79⟩ := X76.virtualBack hx (y := (⟨"com/example/calm_balancer/calmbalancer/BundleRange", "equals", "(Ljava/lang/Object;)Z"⟩ : MethodName)) (z := (⟨"com/example/calm_balancer/calmbalancer/BundleRange", "equals", "(Ljava/lang/Object;)Z"⟩ : MethodName)) hown (mvT hZ (hw _ (List.mem_of_getElem? (i := 23) rfl))) (mvT hZ (hw _ (List.mem_of_getElem? (i := 24) rfl))) (notFace_of_selects (args := #[]) (mvT hZ (hw _ (List.mem_of_getElem? (i := 26) rfl)))) (mvT hZ (hw _ (List.mem_of_getElem? (i := 26) rfl))) (mvT hZ (hw _ (List.mem_of_getElem? (i := 25) rfl))) (by decide) (backOf (W := 0) (rmEn l Z a0 hw [] b11 T33.heap n0 Zf39) hZ (hw _ (List.mem_of_getElem? (i := 27) rfl)) (hw _ (List.mem_of_getElem? (i := 3) rfl)) (by decide) (by decide)) q79a q79c (g := (mkF m 240 #[.val (.long xa), .second, .val (.long ya), .second, .val (.long xb), .second, .val (.long yb), .second, .val (.int mo), .val (.long (4294967295 : Int64)), .second, .val (.long lo), .second, .val (.long hi), .second, .val (.long lo2), .second, .val (.long hi2), .second, .val (.int mm), .val (.ref b11), .val (.ref b23), .val (.int (if lo = lo2 then (if hi = hi2 then (1 : Int32) else (0 : Int32)) else (0 : Int32))), .val .null] [.null, (.ref b11)])) rfl (by rw [hml]; rfl) (Steps.refl _) (argsL := [.null]) (rest := []) (lenOf pd__28Ljava_2flang_2fObject_3b_29Z rfl) rfl (by show 2 * 0 + _ ≤ _; exact Nat.le_of_eq rfl) (hb hby at_240) (fun _ _ => ⟨rfl, e76q, (by decide : 2 + 0 ≤ _), (by decide : 4 + 0 ≤ _)⟩)
    dsimp only [Pt.U, Pt.locs, Pt.cells, Pt.slots] at X79 l79 y79 z79 st79 hQ79
    subst l79 y79 z79
    obtain ⟨rfl, N79q, e79q⟩ := hQ79
    have N79 := Fr.app N76 N79q
    have pre80 : ∀ t, Steps p.tables e below (T79.setTop (mkF m 243 #[.val (.long xa), .second, .val (.long ya), .second, .val (.long xb), .second, .val (.long yb), .second, .val (.int mo), .val (.long (4294967295 : Int64)), .second, .val (.long lo), .second, .val (.long hi), .second, .val (.long lo2), .second, .val (.long hi2), .second, .val (.int mm), .val (.ref b11), .val (.ref b23), .val (.int (if lo = lo2 then (if hi = hi2 then (1 : Int32) else (0 : Int32)) else (0 : Int32))), .val .null] [(.int (0 : Int32))])) t → Steps p.tables e below (s₁.setTop (entryFrame m #[(.long xa), (.long ya), (.long xb), (.long yb), (.int mo)] maxLocals)) t := fun t kt => pre78 t (st79.trans kt)
    have pre81 : ∀ t, Steps p.tables e below (T79.setTop (mkF m 251 #[.val (.long xa), .second, .val (.long ya), .second, .val (.long xb), .second, .val (.long yb), .second, .val (.int mo), .val (.long (4294967295 : Int64)), .second, .val (.long lo), .second, .val (.long hi), .second, .val (.long lo2), .second, .val (.long hi2), .second, .val (.int mm), .val (.ref b11), .val (.ref b23), .val (.int (if lo = lo2 then (if hi = hi2 then (1 : Int32) else (0 : Int32)) else (0 : Int32))), .val .null] [(.int (1 : Int32))])) t → Steps p.tables e below (s₁.setTop (entryFrame m #[(.long xa), (.long ya), (.long xb), (.long yb), (.int mo)] maxLocals)) t := fun t kt => pre80 t (by
      refine XS.ifNo X79.here hx rfl (hb hby at_243) rfl ((if0 _ _).trans (teq (by decide : (0 : Int32) = (0 : Int32))).2) ?_
      show Steps p.tables e below (T79.setTop (mkF m 246 #[.val (.long xa), .second, .val (.long ya), .second, .val (.long xb), .second, .val (.long yb), .second, .val (.int mo), .val (.long (4294967295 : Int64)), .second, .val (.long lo), .second, .val (.long hi), .second, .val (.long lo2), .second, .val (.long hi2), .second, .val (.int mm), .val (.ref b11), .val (.ref b23), .val (.int (if lo = lo2 then (if hi = hi2 then (1 : Int32) else (0 : Int32)) else (0 : Int32))), .val .null] [])) _
      refine XS.iconst X79.here hx rfl (hb hby at_246) ?_
      show Steps p.tables e below (T79.setTop (mkF m 247 #[.val (.long xa), .second, .val (.long ya), .second, .val (.long xb), .second, .val (.long yb), .second, .val (.int mo), .val (.long (4294967295 : Int64)), .second, .val (.long lo), .second, .val (.long hi), .second, .val (.long lo2), .second, .val (.long hi2), .second, .val (.int mm), .val (.ref b11), .val (.ref b23), .val (.int (if lo = lo2 then (if hi = hi2 then (1 : Int32) else (0 : Int32)) else (0 : Int32))), .val .null] [(.int (1 : Int32))])) _
      refine XS.goto X79.here hx rfl (pc0 := 247) (pc' := 251) rfl (hb hby at_247) (by decide) (by decide) ?_
      show Steps p.tables e below (T79.setTop (mkF m 251 #[.val (.long xa), .second, .val (.long ya), .second, .val (.long xb), .second, .val (.long yb), .second, .val (.int mo), .val (.long (4294967295 : Int64)), .second, .val (.long lo), .second, .val (.long hi), .second, .val (.long lo2), .second, .val (.long hi2), .second, .val (.int mm), .val (.ref b11), .val (.ref b23), .val (.int (if lo = lo2 then (if hi = hi2 then (1 : Int32) else (0 : Int32)) else (0 : Int32))), .val .null] [(.int (1 : Int32))])) _
      exact kt)
    obtain ⟨fs, hr, hrun, hended, hW, hsame⟩ := X79.leave (v := (some (.int (1 : Int32)))) (fun h => by rw [Bd.returns] at h; cases h)
    refine ⟨_, _, pre81 _ ?_, hrun, hended, _, _, rfl, ?_, ⟨_, rfl⟩, hW, hsame.mono (by decide) (by decide)⟩
    · exact retN X79 hx (t := .boolean) Bd.returns (by simp) (hb hby at_251) hr
    · show Q0 Z  h0 n0 _ T79.heap _
      rw [e79q]
      exact ⟨rfl, N79⟩
set_option maxRecDepth 65536 in
set_option maxHeartbeats 40000000 in
theorem comes_1 {Post : Tables → Env → Array Value → State → Outcome → State → Prop} (hpost : ∀ tb e args s v u, (limb_1_1.after args s (.returned v) u = true ∧ limb_1_2.after args s (.returned v) u = true ∧ True) → FrameEnd s (.returned v) u (Jvm.fieldLocs frame_1_writes args s ++ Jvm.arrayLocs frame_1_arrays args s ++ Jvm.staticLocs frame_1_statics s) 16 128 → Post tb e args s (.returned v) u) :
    ArmFor flags0 classFile x code maxLocals ret World_1 tables_1 room_1 Calls_1 rest_1 Pre_1 Post := by
  intro l hfl _ _ p e ha hc hk s m args below hf hA hF happ hP
  obtain ⟨hcalls, hrest, hpre⟩ := hP
  obtain ⟨-, -, -, hnamed, -, -, -, hat⟩ := (Spec.applies_iff hf).mp happ
  obtain ⟨hg, hn⟩ := and_e (Cond.before_iff.mp (show (Jvm.Cond.and given_1 narrow_1).before args s = true from hpre))
  obtain ⟨gc, ga⟩ := and_e hg
  obtain ⟨g0, r0⟩ := and_e ga
  obtain ⟨g1, r1⟩ := and_e r0
  obtain ⟨g2, r2⟩ := and_e r1
  obtain ⟨g3, r3⟩ := and_e r2
  obtain ⟨w0, w1, w2, w3, w4, rfl⟩ : ∃ w0 w1 w2 w3 w4 : Value, args = #[w0, w1, w2, w3, w4] := by
    have hs : args.size = 5 := by simpa [Cond.value, given_1] using gc
    obtain ⟨L⟩ := args
    match L, hs with
    | [w0, w1, w2, w3, w4], _ => exact ⟨w0, w1, w2, w3, w4, rfl⟩
  have hw := fun d (hd : d ∈ tables_1) => atoms_spec (ws := Jvm.Cond.code x code maxLocals ret :: tables_1) hat d (List.mem_cons_of_mem _ hd)
  have hfit : Fit s := fun {y c} hc i hi => by
    obtain ⟨ha, rfl⟩ := Array.getElem?_eq_some_iff.mp hc
    have q := List.all_eq_true.mp ((Array.all_eq_true_iff_forall_mem.mp hF) _ (Array.getElem_mem ha)) i (List.mem_range.mpr hi)
    simpa [Array.getElem?_eq_getElem hi] using q
  obtain ⟨hsets, hown0⟩ := atoms_of _ (rest_1_c_eq ▸ (show rest_1_c.before _ s = true from hrest))
  have hr0 := Cond.before_iff.mp hown0
  obtain ⟨i0, ei0⟩ := isL_v g0
  obtain rfl : w0 = (.long i0) := Option.some.inj ei0
  obtain ⟨i1, ei1⟩ := isL_v g1
  obtain rfl : w1 = (.long i1) := Option.some.inj ei1
  obtain ⟨i2, ei2⟩ := isL_v g2
  obtain rfl : w2 = (.long i2) := Option.some.inj ei2
  obtain ⟨i3, ei3⟩ := isL_v g3
  obtain rfl : w3 = (.long i3) := Option.some.inj ei3
  obtain ⟨i4, ei4⟩ := is_v r3
  obtain rfl : w4 = (.int i4) := Option.some.inj ei4
  obtain ⟨wc, evc⟩ := arr_v (Cond.before_iff.mp (hsets _ (List.mem_of_getElem? (i := 2) rfl)))
  have S0 := Sta.start evc (Or.inl (hsets _ (List.mem_of_getElem? (i := 1) rfl)))
  obtain ⟨cl, Ac⟩ := Arr.start evc (Cond.before_iff.mp (hsets _ (List.mem_of_getElem? (i := 2) rfl)))
  have CC : Cache s s.heap wc cl := own_cache evc Ac (Cond.before_iff.mp (hsets _ (List.mem_of_getElem? (i := 4) rfl))) (hsets _ (List.mem_of_getElem? (i := 5) rfl))
  obtain ⟨n, o, h1, h2, h3, _, L, rfl, ⟨rfl, N⟩, hq⟩ := rm0 l s _ hw tables_1 i0 i1 i2 i3 i4 wc cl s.heap s.heap.size (Nat.le_refl _) (Old.start s) S0 CC p e ha hc hk s m _ below hf ((Spec.applies_iff_loose hf).mp happ).1 ⟨rfl, State.Warmed39.refl s, rfl⟩ trivial
  refine ⟨n, _, h1, h2, h3, hpost _ _ _ _ _ _ ⟨Cond.after_iff.mpr rfl, Cond.after_iff.mpr (eq_i res_at (Term.int_eval (1)) rfl), trivial⟩ ⟨hq.1, hq.2.1, (hq.2.2.sift fun y hy => Or.inr (N y hy)).mono (by decide) (by decide)⟩⟩
theorem main_1_1 : Claimed_1_1 := comes_1 fun _ _ _ _ _ _ h hF => ⟨h.1, hF⟩
theorem main_1_2 : Claimed_1_2 := comes_1 fun _ _ _ _ _ _ h hF => ⟨h.2.1, hF⟩
end Jvm.Pilot.@@N@@
namespace Jvm.Pilot.@@N@@
open Jvm Jvm.ClassFile Sem Op Lib Jvm.Free Jvm.Stand Jvm.Pilot.@@N@@.Jvm.D
/-! MADE BY PROGRAM (witnessworld.py) out of the Statement's table words and the real class files: 16 classes; the members and pool entries that the words name. The judged class is class 1, her method 1. -/
namespace start1
open Jvm.ClassFile
def u (s : String) : CpInfo := .utf8 (stringToUtf16 s)
/-- a pool by its gaps: so many unusable entries, then the entry; so many at the end -/
def gap : Nat → List CpInfo → List CpInfo
  | 0, r => r
  | n + 1, r => .unusable :: gap n r
def poolList (es : List (Nat × CpInfo)) (last : Nat) : List CpInfo := es.foldr (fun e r => gap e.1 (e.2 :: r)) (gap last [])
def pool (es : List (Nat × CpInfo)) (last : Nat) : Array CpInfo := ⟨poolList es last⟩
def fileOf (pool : Array CpInfo) (this : Nat) (attrs : Array Attribute := #[]) (ms : Array MethodInfo := #[]) (fl : Nat := 33) (sup : Nat := 0) (ifs : Array Nat := #[]) (fds : Array FieldInfo := #[]) : ClassFile where
  minorVersion := 0
  majorVersion := 65
  constantPool := pool
  accessFlags := fl
  thisClass := this
  superClass := sup
  interfaces := ifs
  fields := fds
  methods := ms
  attributes := attrs
def plain (name : String) (sup : Option ClassId) : Class where
  name := name
  kind := .ordinary
  loader := none
  accessFlags := 33
  super := sup
  interfaces := #[]
  cf := none
  fields := #[]
  methods := #[]
  instanceTypes := #[]
  staticTypes := #[]
  resolved := #[]
  callSites := []
  init := .initialized
  statics := none
  mirror := none

def pool0 : Array CpInfo := pool [(5, u "<init>"), (0, u "()V"), (1, .class_ 10), (1, u "java/lang/Object")] 113

def k0c0 : Code := { maxStack := 0, maxLocals := 1, code := object_method_1_code, exceptionTable := #[], attributes := #[] }
def k0m0 : Method := { name := "<init>", desc := "()V", sig := { parameters := [], returnType := none }, accessFlags := 1, code := some k0c0 }
/-- java/lang/Object -/
def k0 : Class := { plain "java/lang/Object" none with
  accessFlags := 33
  interfaces := #[]
  cf := some (fileOf pool0 8 #[] #[{ accessFlags := 1, nameIndex := 5, descriptorIndex := 6, attributes := #[] }] 33 0 #[] #[])
  fields := #[]
  methods := #[k0m0]
  instanceTypes := #[]
  staticTypes := #[]
  resolved := Array.replicate 124 none
  statics := none }

def pool1 : Array CpInfo := pool [(2, .class_ 4), (1, u "java/lang/Object"), (0, u "<init>"), (0, u "()V"), (0, .class_ 8), (0, u "com/example/calm_balancer/calmbalancer/BundleRange"), (0, .long 4294967295), (1, .methodref 7 12), (0, .nameAndType 5 13), (0, u "(JJ)V"), (0, .methodref 15 16), (0, .class_ 17), (0, .nameAndType 18 19), (0, u "java/lang/Long"), (0, u "valueOf"), (0, u "(J)Ljava/lang/Long;"), (0, .methodref 7 21), (0, .nameAndType 22 23), (0, u "equals"), (0, u "(Ljava/lang/Object;)Z"), (0, .class_ 25), (0, u "com/example/calm_balancer/calmbalancer/BundleRangeEqualsPinLaw"), (2, u "law"), (0, u "(JJJJI)Z")] 3

def k1m0 : Method := { name := "<init>", desc := "()V", sig := { parameters := [], returnType := none }, accessFlags := 1, code := none }
def k1c1 : Code := { maxStack := 8, maxLocals := 24, code := code, exceptionTable := #[], attributes := #[] }
def k1m1 : Method := { name := "law", desc := "(JJJJI)Z", sig := { parameters := [.long, .long, .long, .long, .int], returnType := some .boolean }, accessFlags := 9, code := some k1c1 }
/-- com/example/calm_balancer/calmbalancer/BundleRangeEqualsPinLaw -/
def k1 : Class := { plain "com/example/calm_balancer/calmbalancer/BundleRangeEqualsPinLaw" (some 0) with
  accessFlags := 49
  interfaces := #[]
  cf := some (fileOf pool1 24 #[] #[{ accessFlags := 1, nameIndex := 5, descriptorIndex := 6, attributes := #[] }, { accessFlags := 9, nameIndex := 28, descriptorIndex := 29, attributes := #[] }] 49 2 #[] #[])
  fields := #[]
  methods := #[k1m0, k1m1]
  instanceTypes := #[]
  staticTypes := #[]
  resolved := Array.replicate 33 none
  statics := none }

def pool2 : Array CpInfo := pool [(1, .class_ 2), (0, u "com/example/calm_balancer/calmbalancer/BundleRange"), (0, .methodref 4 5), (0, .class_ 6), (0, .nameAndType 7 8), (0, u "java/lang/Object"), (0, u "<init>"), (0, u "()V"), (0, .long 4294967295), (16, .fieldref 1 27), (0, .nameAndType 28 29), (0, u "lower"), (0, u "J"), (0, .fieldref 1 31), (0, .nameAndType 32 29), (0, u "upper"), (2, u "WRITTEN_FORM"), (0, u "Ljava/util/regex/Pattern;"), (25, u "(JJ)V"), (2, u "GIVEN_HASH"), (44, u "(Ljava/lang/Object;)Z"), (54, u "MAX_HASH"), (1, u "HASH_COUNT"), (0, u "HASH_SPACE"), (0, u "Ljava/lang/String;"), (2, u "WRITTEN_FORMAT"), (27, u "equals")] 42

def k2c0 : Code := { maxStack := 6, maxLocals := 5, code := prog_5_method_1_code, exceptionTable := #[], attributes := #[] }
def k2m0 : Method := { name := "<init>", desc := "(JJ)V", sig := { parameters := [.long, .long], returnType := none }, accessFlags := 1, code := some k2c0 }
def k2c1 : Code := { maxStack := 4, maxLocals := 3, code := prog_5_method_14_code, exceptionTable := #[], attributes := #[] }
def k2m1 : Method := { name := "equals", desc := "(Ljava/lang/Object;)Z", sig := { parameters := [(.object "java/lang/Object")], returnType := some .boolean }, accessFlags := 1, code := some k2c1 }
/-- com/example/calm_balancer/calmbalancer/BundleRange -/
def k2 : Class := { plain "com/example/calm_balancer/calmbalancer/BundleRange" (some 0) with
  accessFlags := 33
  interfaces := #[]
  cf := some (fileOf pool2 1 #[] #[{ accessFlags := 1, nameIndex := 7, descriptorIndex := 62, attributes := #[] }, { accessFlags := 1, nameIndex := 200, descriptorIndex := 110, attributes := #[] }] 33 4 #[] #[{ accessFlags := 25, nameIndex := 165, descriptorIndex := 29, attributes := #[] }, { accessFlags := 26, nameIndex := 167, descriptorIndex := 29, attributes := #[] }, { accessFlags := 26, nameIndex := 168, descriptorIndex := 169, attributes := #[] }, { accessFlags := 26, nameIndex := 172, descriptorIndex := 169, attributes := #[] }, { accessFlags := 26, nameIndex := 35, descriptorIndex := 36, attributes := #[] }, { accessFlags := 26, nameIndex := 65, descriptorIndex := 36, attributes := #[] }, { accessFlags := 18, nameIndex := 28, descriptorIndex := 29, attributes := #[] }, { accessFlags := 18, nameIndex := 32, descriptorIndex := 29, attributes := #[] }])
  fields := #[{ name := "MAX_HASH", type := .long, accessFlags := 25, slot := 0, constantValue := 0 }, { name := "HASH_COUNT", type := .long, accessFlags := 26, slot := 1, constantValue := 0 }, { name := "HASH_SPACE", type := (.object "java/lang/String"), accessFlags := 26, slot := 2, constantValue := 0 }, { name := "WRITTEN_FORMAT", type := (.object "java/lang/String"), accessFlags := 26, slot := 3, constantValue := 0 }, { name := "WRITTEN_FORM", type := (.object "java/util/regex/Pattern"), accessFlags := 26, slot := 4, constantValue := 0 }, { name := "GIVEN_HASH", type := (.object "java/util/regex/Pattern"), accessFlags := 26, slot := 5, constantValue := 0 }, { name := "lower", type := .long, accessFlags := 18, slot := 0, constantValue := 0 }, { name := "upper", type := .long, accessFlags := 18, slot := 1, constantValue := 0 }]
  methods := #[k2m0, k2m1]
  instanceTypes := #[.long, .long]
  staticTypes := #[.long, .long, (.object "java/lang/String"), (.object "java/lang/String"), (.object "java/util/regex/Pattern"), (.object "java/util/regex/Pattern")]
  resolved := Array.replicate 243 none
  statics := none }

def pool3 : Array CpInfo := pool [(1, .class_ 2), (0, u "java/io/Serializable"), (0, .class_ 4), (0, u "java/lang/Object")] 2

/-- java/io/Serializable -/
def k3 : Class := { plain "java/io/Serializable" (some 0) with
  accessFlags := 1537
  interfaces := #[]
  cf := some (fileOf pool3 1 #[] #[] 1537 3 #[] #[])
  fields := #[]
  methods := #[]
  instanceTypes := #[]
  staticTypes := #[]
  resolved := Array.replicate 7 none
  statics := none }

def pool4 : Array CpInfo := pool [(1, .methodref 2 3), (0, .class_ 4), (0, .nameAndType 5 6), (0, u "java/lang/Object"), (0, u "<init>"), (0, u "()V"), (1, .class_ 10), (1, u "java/lang/Number"), (2, .class_ 14), (0, u "java/io/Serializable"), (0, u "serialVersionUID"), (0, u "J")] 20

def k4c0 : Code := { maxStack := 1, maxLocals := 1, code := jdk_18_method_1_code, exceptionTable := #[], attributes := #[] }
def k4m0 : Method := { name := "<init>", desc := "()V", sig := { parameters := [], returnType := none }, accessFlags := 1, code := some k4c0 }
/-- java/lang/Number -/
def k4 : Class := { plain "java/lang/Number" (some 0) with
  accessFlags := 1057
  interfaces := #[3]
  cf := some (fileOf pool4 8 #[] #[{ accessFlags := 1, nameIndex := 5, descriptorIndex := 6, attributes := #[] }] 1057 2 #[13] #[{ accessFlags := 26, nameIndex := 15, descriptorIndex := 16, attributes := #[] }])
  fields := #[{ name := "serialVersionUID", type := .long, accessFlags := 26, slot := 0, constantValue := 0 }]
  methods := #[k4m0]
  instanceTypes := #[]
  staticTypes := #[.long]
  resolved := Array.replicate 37 none
  statics := none }

def pool5 : Array CpInfo := pool [(1, .class_ 2), (0, u "java/lang/Comparable"), (0, .class_ 4), (0, u "java/lang/Object")] 7

/-- java/lang/Comparable -/
def k5 : Class := { plain "java/lang/Comparable" (some 0) with
  accessFlags := 1537
  interfaces := #[]
  cf := some (fileOf pool5 1 #[] #[] 1537 3 #[] #[])
  fields := #[]
  methods := #[]
  instanceTypes := #[]
  staticTypes := #[]
  resolved := Array.replicate 12 none
  statics := none }

def pool6 : Array CpInfo := pool [(1, .class_ 2), (0, u "java/lang/constant/Constable"), (0, .class_ 4), (0, u "java/lang/Object")] 6

/-- java/lang/constant/Constable -/
def k6 : Class := { plain "java/lang/constant/Constable" (some 0) with
  accessFlags := 1537
  interfaces := #[]
  cf := some (fileOf pool6 1 #[] #[] 1537 3 #[] #[])
  fields := #[]
  methods := #[]
  instanceTypes := #[]
  staticTypes := #[]
  resolved := Array.replicate 11 none
  statics := none }

def pool7 : Array CpInfo := pool [(1, .class_ 2), (0, u "java/lang/constant/ConstantDesc"), (0, .class_ 4), (0, u "java/lang/Object")] 32

/-- java/lang/constant/ConstantDesc -/
def k7 : Class := { plain "java/lang/constant/ConstantDesc" (some 0) with
  accessFlags := 1537
  interfaces := #[]
  cf := some (fileOf pool7 1 #[] #[] 1537 3 #[] #[])
  fields := #[]
  methods := #[]
  instanceTypes := #[]
  staticTypes := #[]
  resolved := Array.replicate 37 none
  statics := none }

def pool8 : Array CpInfo := pool [(1, .class_ 2), (0, u "java/lang/Long"), (55, .nameAndType 59 60), (0, u "<init>"), (0, u "()V"), (24, u "valueOf"), (143, u "(J)Ljava/lang/Long;"), (0, .long 18446744073709551488), (1, .long 127), (1, .fieldref 235 236), (0, .class_ 237), (0, .nameAndType 238 239), (0, u "java/lang/Long$LongCache"), (0, u "cache"), (0, u "[Ljava/lang/Long;"), (0, .methodref 1 241), (0, .nameAndType 59 242), (0, u "(J)V"), (27, .methodref 271 58), (0, .class_ 272), (0, u "java/lang/Number"), (0, .fieldref 1 274), (0, .nameAndType 275 276), (0, u "value"), (0, u "J"), (84, u "TYPE"), (0, u "Ljava/lang/Class;"), (0, .class_ 364), (0, u "java/lang/Comparable"), (0, .class_ 366), (0, u "java/lang/constant/Constable"), (0, .class_ 368), (0, u "java/lang/constant/ConstantDesc"), (0, u "MIN_VALUE"), (1, u "MAX_VALUE"), (4, u "SIZE"), (0, u "I"), (1, u "BYTES"), (1, u "serialVersionUID")] 142

def k8c0 : Code := { maxStack := 4, maxLocals := 3, code := jdk_35_method_24_code, exceptionTable := #[], attributes := #[] }
def k8m0 : Method := { name := "valueOf", desc := "(J)Ljava/lang/Long;", sig := { parameters := [.long], returnType := some (.object "java/lang/Long") }, accessFlags := 9, code := some k8c0 }
def k8c1 : Code := { maxStack := 3, maxLocals := 3, code := jdk_35_method_26_code, exceptionTable := #[], attributes := #[] }
def k8m1 : Method := { name := "<init>", desc := "(J)V", sig := { parameters := [.long], returnType := none }, accessFlags := 1, code := some k8c1 }
/-- java/lang/Long -/
def k8 : Class := { plain "java/lang/Long" (some 4) with
  accessFlags := 49
  interfaces := #[5, 6, 7]
  cf := some (fileOf pool8 1 #[.nestMembers #[235]] #[{ accessFlags := 9, nameIndex := 85, descriptorIndex := 229, attributes := #[] }, { accessFlags := 1, nameIndex := 59, descriptorIndex := 242, attributes := #[] }] 49 271 #[363, 365, 367] #[{ accessFlags := 25, nameIndex := 369, descriptorIndex := 276, attributes := #[] }, { accessFlags := 25, nameIndex := 371, descriptorIndex := 276, attributes := #[] }, { accessFlags := 25, nameIndex := 361, descriptorIndex := 362, attributes := #[] }, { accessFlags := 18, nameIndex := 275, descriptorIndex := 276, attributes := #[] }, { accessFlags := 25, nameIndex := 376, descriptorIndex := 377, attributes := #[] }, { accessFlags := 25, nameIndex := 379, descriptorIndex := 377, attributes := #[] }, { accessFlags := 26, nameIndex := 381, descriptorIndex := 276, attributes := #[] }])
  fields := #[{ name := "MIN_VALUE", type := .long, accessFlags := 25, slot := 0, constantValue := 0 }, { name := "MAX_VALUE", type := .long, accessFlags := 25, slot := 1, constantValue := 0 }, { name := "TYPE", type := (.object "java/lang/Class"), accessFlags := 25, slot := 2, constantValue := 0 }, { name := "value", type := .long, accessFlags := 18, slot := 0, constantValue := 0 }, { name := "SIZE", type := .int, accessFlags := 25, slot := 3, constantValue := 0 }, { name := "BYTES", type := .int, accessFlags := 25, slot := 4, constantValue := 0 }, { name := "serialVersionUID", type := .long, accessFlags := 26, slot := 5, constantValue := 0 }]
  methods := #[k8m0, k8m1]
  instanceTypes := #[.long]
  staticTypes := #[.long, .long, (.object "java/lang/Class"), .int, .int, .long]
  resolved := Array.replicate 524 none
  statics := none }

def pool9 : Array CpInfo := pool [(2, .class_ 4), (1, u "java/lang/Object"), (0, u "<init>"), (0, u "()V"), (0, .class_ 8), (0, u "java/lang/Long"), (7, .class_ 18), (1, u "java/lang/Long$LongCache"), (0, u "$assertionsDisabled"), (0, u "Z"), (8, u "archivedCache"), (0, u "[Ljava/lang/Long;"), (7, u "cache")] 24

def k9m0 : Method := { name := "<init>", desc := "()V", sig := { parameters := [], returnType := none }, accessFlags := 2, code := none }
/-- java/lang/Long$LongCache -/
def k9 : Class := { plain "java/lang/Long$LongCache" (some 0) with
  accessFlags := 48
  interfaces := #[]
  cf := some (fileOf pool9 16 #[.nestHost 7] #[{ accessFlags := 2, nameIndex := 5, descriptorIndex := 6, attributes := #[] }] 48 2 #[] #[{ accessFlags := 24, nameIndex := 38, descriptorIndex := 30, attributes := #[] }, { accessFlags := 8, nameIndex := 29, descriptorIndex := 30, attributes := #[] }, { accessFlags := 4120, nameIndex := 19, descriptorIndex := 20, attributes := #[] }])
  fields := #[{ name := "cache", type := (.array (.object "java/lang/Long")), accessFlags := 24, slot := 0, constantValue := 0 }, { name := "archivedCache", type := (.array (.object "java/lang/Long")), accessFlags := 8, slot := 1, constantValue := 0 }, { name := "$assertionsDisabled", type := .boolean, accessFlags := 4120, slot := 2, constantValue := 0 }]
  methods := #[k9m0]
  instanceTypes := #[]
  staticTypes := #[(.array (.object "java/lang/Long")), (.array (.object "java/lang/Long")), .boolean]
  resolved := Array.replicate 63 none
  statics := some 0 }

def pool10 : Array CpInfo := pool [(1, u "java/lang/Cloneable"), (0, .class_ 1), (0, u "java/lang/Object"), (0, .class_ 3)] 3

/-- java/lang/Cloneable -/
def k10 : Class := { plain "java/lang/Cloneable" (some 0) with
  accessFlags := 1537
  interfaces := #[]
  cf := some (fileOf pool10 2 #[] #[] 1537 4 #[] #[])
  fields := #[]
  methods := #[]
  instanceTypes := #[]
  staticTypes := #[]
  resolved := Array.replicate 8 none
  statics := none }

/-- the primitive byte -/
def k11 : Class := { plain "byte" none with kind := .primitive 'B', accessFlags := 0x411 }
/-- [B -/
def k12 : Class := { plain "[B" (some 0) with kind := .array 11 .byte, interfaces := #[10, 3], accessFlags := 1041 }

/-- the primitive int -/
def k13 : Class := { plain "int" none with kind := .primitive 'I', accessFlags := 0x411 }
/-- [I -/
def k14 : Class := { plain "[I" (some 0) with kind := .array 13 .int, interfaces := #[10, 3], accessFlags := 1041 }

/-- [Ljava/lang/Long; -/
def k15 : Class := { plain "[Ljava/lang/Long;" (some 0) with kind := .array 8 (.object "java/lang/Long"), interfaces := #[10, 3], accessFlags := 1041 }

def heap : Heap := #[{ cls := 9, slots := #[.ref 1, .null, .int 0], vm := .statics 9 },
  { cls := 15, slots := #[.ref 2, .ref 3, .ref 4, .ref 5, .ref 6, .ref 7, .ref 8, .ref 9, .ref 10, .ref 11, .ref 12, .ref 13, .ref 14, .ref 15, .ref 16, .ref 17, .ref 18, .ref 19, .ref 20, .ref 21, .ref 22, .ref 23, .ref 24, .ref 25, .ref 26, .ref 27, .ref 28, .ref 29, .ref 30, .ref 31, .ref 32, .ref 33, .ref 34, .ref 35, .ref 36, .ref 37, .ref 38, .ref 39, .ref 40, .ref 41, .ref 42, .ref 43, .ref 44, .ref 45, .ref 46, .ref 47, .ref 48, .ref 49, .ref 50, .ref 51, .ref 52, .ref 53, .ref 54, .ref 55, .ref 56, .ref 57, .ref 58, .ref 59, .ref 60, .ref 61, .ref 62, .ref 63, .ref 64, .ref 65, .ref 66, .ref 67, .ref 68, .ref 69, .ref 70, .ref 71, .ref 72, .ref 73, .ref 74, .ref 75, .ref 76, .ref 77, .ref 78, .ref 79, .ref 80, .ref 81, .ref 82, .ref 83, .ref 84, .ref 85, .ref 86, .ref 87, .ref 88, .ref 89, .ref 90, .ref 91, .ref 92, .ref 93, .ref 94, .ref 95, .ref 96, .ref 97, .ref 98, .ref 99, .ref 100, .ref 101, .ref 102, .ref 103, .ref 104, .ref 105, .ref 106, .ref 107, .ref 108, .ref 109, .ref 110, .ref 111, .ref 112, .ref 113, .ref 114, .ref 115, .ref 116, .ref 117, .ref 118, .ref 119, .ref 120, .ref 121, .ref 122, .ref 123, .ref 124, .ref 125, .ref 126, .ref 127, .ref 128, .ref 129, .ref 130, .ref 131, .ref 132, .ref 133, .ref 134, .ref 135, .ref 136, .ref 137, .ref 138, .ref 139, .ref 140, .ref 141, .ref 142, .ref 143, .ref 144, .ref 145, .ref 146, .ref 147, .ref 148, .ref 149, .ref 150, .ref 151, .ref 152, .ref 153, .ref 154, .ref 155, .ref 156, .ref 157, .ref 158, .ref 159, .ref 160, .ref 161, .ref 162, .ref 163, .ref 164, .ref 165, .ref 166, .ref 167, .ref 168, .ref 169, .ref 170, .ref 171, .ref 172, .ref 173, .ref 174, .ref 175, .ref 176, .ref 177, .ref 178, .ref 179, .ref 180, .ref 181, .ref 182, .ref 183, .ref 184, .ref 185, .ref 186, .ref 187, .ref 188, .ref 189, .ref 190, .ref 191, .ref 192, .ref 193, .ref 194, .ref 195, .ref 196, .ref 197, .ref 198, .ref 199, .ref 200, .ref 201, .ref 202, .ref 203, .ref 204, .ref 205, .ref 206, .ref 207, .ref 208, .ref 209, .ref 210, .ref 211, .ref 212, .ref 213, .ref 214, .ref 215, .ref 216, .ref 217, .ref 218, .ref 219, .ref 220, .ref 221, .ref 222, .ref 223, .ref 224, .ref 225, .ref 226, .ref 227, .ref 228, .ref 229, .ref 230, .ref 231, .ref 232, .ref 233, .ref 234, .ref 235, .ref 236, .ref 237, .ref 238, .ref 239, .ref 240, .ref 241, .ref 242, .ref 243, .ref 244, .ref 245, .ref 246, .ref 247, .ref 248, .ref 249, .ref 250, .ref 251, .ref 252, .ref 253, .ref 254, .ref 255, .ref 256, .ref 257], vm := .none },
  { cls := 8, slots := #[.long (-128)], vm := .none },
  { cls := 8, slots := #[.long (-127)], vm := .none },
  { cls := 8, slots := #[.long (-126)], vm := .none },
  { cls := 8, slots := #[.long (-125)], vm := .none },
  { cls := 8, slots := #[.long (-124)], vm := .none },
  { cls := 8, slots := #[.long (-123)], vm := .none },
  { cls := 8, slots := #[.long (-122)], vm := .none },
  { cls := 8, slots := #[.long (-121)], vm := .none },
  { cls := 8, slots := #[.long (-120)], vm := .none },
  { cls := 8, slots := #[.long (-119)], vm := .none },
  { cls := 8, slots := #[.long (-118)], vm := .none },
  { cls := 8, slots := #[.long (-117)], vm := .none },
  { cls := 8, slots := #[.long (-116)], vm := .none },
  { cls := 8, slots := #[.long (-115)], vm := .none },
  { cls := 8, slots := #[.long (-114)], vm := .none },
  { cls := 8, slots := #[.long (-113)], vm := .none },
  { cls := 8, slots := #[.long (-112)], vm := .none },
  { cls := 8, slots := #[.long (-111)], vm := .none },
  { cls := 8, slots := #[.long (-110)], vm := .none },
  { cls := 8, slots := #[.long (-109)], vm := .none },
  { cls := 8, slots := #[.long (-108)], vm := .none },
  { cls := 8, slots := #[.long (-107)], vm := .none },
  { cls := 8, slots := #[.long (-106)], vm := .none },
  { cls := 8, slots := #[.long (-105)], vm := .none },
  { cls := 8, slots := #[.long (-104)], vm := .none },
  { cls := 8, slots := #[.long (-103)], vm := .none },
  { cls := 8, slots := #[.long (-102)], vm := .none },
  { cls := 8, slots := #[.long (-101)], vm := .none },
  { cls := 8, slots := #[.long (-100)], vm := .none },
  { cls := 8, slots := #[.long (-99)], vm := .none },
  { cls := 8, slots := #[.long (-98)], vm := .none },
  { cls := 8, slots := #[.long (-97)], vm := .none },
  { cls := 8, slots := #[.long (-96)], vm := .none },
  { cls := 8, slots := #[.long (-95)], vm := .none },
  { cls := 8, slots := #[.long (-94)], vm := .none },
  { cls := 8, slots := #[.long (-93)], vm := .none },
  { cls := 8, slots := #[.long (-92)], vm := .none },
  { cls := 8, slots := #[.long (-91)], vm := .none },
  { cls := 8, slots := #[.long (-90)], vm := .none },
  { cls := 8, slots := #[.long (-89)], vm := .none },
  { cls := 8, slots := #[.long (-88)], vm := .none },
  { cls := 8, slots := #[.long (-87)], vm := .none },
  { cls := 8, slots := #[.long (-86)], vm := .none },
  { cls := 8, slots := #[.long (-85)], vm := .none },
  { cls := 8, slots := #[.long (-84)], vm := .none },
  { cls := 8, slots := #[.long (-83)], vm := .none },
  { cls := 8, slots := #[.long (-82)], vm := .none },
  { cls := 8, slots := #[.long (-81)], vm := .none },
  { cls := 8, slots := #[.long (-80)], vm := .none },
  { cls := 8, slots := #[.long (-79)], vm := .none },
  { cls := 8, slots := #[.long (-78)], vm := .none },
  { cls := 8, slots := #[.long (-77)], vm := .none },
  { cls := 8, slots := #[.long (-76)], vm := .none },
  { cls := 8, slots := #[.long (-75)], vm := .none },
  { cls := 8, slots := #[.long (-74)], vm := .none },
  { cls := 8, slots := #[.long (-73)], vm := .none },
  { cls := 8, slots := #[.long (-72)], vm := .none },
  { cls := 8, slots := #[.long (-71)], vm := .none },
  { cls := 8, slots := #[.long (-70)], vm := .none },
  { cls := 8, slots := #[.long (-69)], vm := .none },
  { cls := 8, slots := #[.long (-68)], vm := .none },
  { cls := 8, slots := #[.long (-67)], vm := .none },
  { cls := 8, slots := #[.long (-66)], vm := .none },
  { cls := 8, slots := #[.long (-65)], vm := .none },
  { cls := 8, slots := #[.long (-64)], vm := .none },
  { cls := 8, slots := #[.long (-63)], vm := .none },
  { cls := 8, slots := #[.long (-62)], vm := .none },
  { cls := 8, slots := #[.long (-61)], vm := .none },
  { cls := 8, slots := #[.long (-60)], vm := .none },
  { cls := 8, slots := #[.long (-59)], vm := .none },
  { cls := 8, slots := #[.long (-58)], vm := .none },
  { cls := 8, slots := #[.long (-57)], vm := .none },
  { cls := 8, slots := #[.long (-56)], vm := .none },
  { cls := 8, slots := #[.long (-55)], vm := .none },
  { cls := 8, slots := #[.long (-54)], vm := .none },
  { cls := 8, slots := #[.long (-53)], vm := .none },
  { cls := 8, slots := #[.long (-52)], vm := .none },
  { cls := 8, slots := #[.long (-51)], vm := .none },
  { cls := 8, slots := #[.long (-50)], vm := .none },
  { cls := 8, slots := #[.long (-49)], vm := .none },
  { cls := 8, slots := #[.long (-48)], vm := .none },
  { cls := 8, slots := #[.long (-47)], vm := .none },
  { cls := 8, slots := #[.long (-46)], vm := .none },
  { cls := 8, slots := #[.long (-45)], vm := .none },
  { cls := 8, slots := #[.long (-44)], vm := .none },
  { cls := 8, slots := #[.long (-43)], vm := .none },
  { cls := 8, slots := #[.long (-42)], vm := .none },
  { cls := 8, slots := #[.long (-41)], vm := .none },
  { cls := 8, slots := #[.long (-40)], vm := .none },
  { cls := 8, slots := #[.long (-39)], vm := .none },
  { cls := 8, slots := #[.long (-38)], vm := .none },
  { cls := 8, slots := #[.long (-37)], vm := .none },
  { cls := 8, slots := #[.long (-36)], vm := .none },
  { cls := 8, slots := #[.long (-35)], vm := .none },
  { cls := 8, slots := #[.long (-34)], vm := .none },
  { cls := 8, slots := #[.long (-33)], vm := .none },
  { cls := 8, slots := #[.long (-32)], vm := .none },
  { cls := 8, slots := #[.long (-31)], vm := .none },
  { cls := 8, slots := #[.long (-30)], vm := .none },
  { cls := 8, slots := #[.long (-29)], vm := .none },
  { cls := 8, slots := #[.long (-28)], vm := .none },
  { cls := 8, slots := #[.long (-27)], vm := .none },
  { cls := 8, slots := #[.long (-26)], vm := .none },
  { cls := 8, slots := #[.long (-25)], vm := .none },
  { cls := 8, slots := #[.long (-24)], vm := .none },
  { cls := 8, slots := #[.long (-23)], vm := .none },
  { cls := 8, slots := #[.long (-22)], vm := .none },
  { cls := 8, slots := #[.long (-21)], vm := .none },
  { cls := 8, slots := #[.long (-20)], vm := .none },
  { cls := 8, slots := #[.long (-19)], vm := .none },
  { cls := 8, slots := #[.long (-18)], vm := .none },
  { cls := 8, slots := #[.long (-17)], vm := .none },
  { cls := 8, slots := #[.long (-16)], vm := .none },
  { cls := 8, slots := #[.long (-15)], vm := .none },
  { cls := 8, slots := #[.long (-14)], vm := .none },
  { cls := 8, slots := #[.long (-13)], vm := .none },
  { cls := 8, slots := #[.long (-12)], vm := .none },
  { cls := 8, slots := #[.long (-11)], vm := .none },
  { cls := 8, slots := #[.long (-10)], vm := .none },
  { cls := 8, slots := #[.long (-9)], vm := .none },
  { cls := 8, slots := #[.long (-8)], vm := .none },
  { cls := 8, slots := #[.long (-7)], vm := .none },
  { cls := 8, slots := #[.long (-6)], vm := .none },
  { cls := 8, slots := #[.long (-5)], vm := .none },
  { cls := 8, slots := #[.long (-4)], vm := .none },
  { cls := 8, slots := #[.long (-3)], vm := .none },
  { cls := 8, slots := #[.long (-2)], vm := .none },
  { cls := 8, slots := #[.long (-1)], vm := .none },
  { cls := 8, slots := #[.long (0)], vm := .none },
  { cls := 8, slots := #[.long (1)], vm := .none },
  { cls := 8, slots := #[.long (2)], vm := .none },
  { cls := 8, slots := #[.long (3)], vm := .none },
  { cls := 8, slots := #[.long (4)], vm := .none },
  { cls := 8, slots := #[.long (5)], vm := .none },
  { cls := 8, slots := #[.long (6)], vm := .none },
  { cls := 8, slots := #[.long (7)], vm := .none },
  { cls := 8, slots := #[.long (8)], vm := .none },
  { cls := 8, slots := #[.long (9)], vm := .none },
  { cls := 8, slots := #[.long (10)], vm := .none },
  { cls := 8, slots := #[.long (11)], vm := .none },
  { cls := 8, slots := #[.long (12)], vm := .none },
  { cls := 8, slots := #[.long (13)], vm := .none },
  { cls := 8, slots := #[.long (14)], vm := .none },
  { cls := 8, slots := #[.long (15)], vm := .none },
  { cls := 8, slots := #[.long (16)], vm := .none },
  { cls := 8, slots := #[.long (17)], vm := .none },
  { cls := 8, slots := #[.long (18)], vm := .none },
  { cls := 8, slots := #[.long (19)], vm := .none },
  { cls := 8, slots := #[.long (20)], vm := .none },
  { cls := 8, slots := #[.long (21)], vm := .none },
  { cls := 8, slots := #[.long (22)], vm := .none },
  { cls := 8, slots := #[.long (23)], vm := .none },
  { cls := 8, slots := #[.long (24)], vm := .none },
  { cls := 8, slots := #[.long (25)], vm := .none },
  { cls := 8, slots := #[.long (26)], vm := .none },
  { cls := 8, slots := #[.long (27)], vm := .none },
  { cls := 8, slots := #[.long (28)], vm := .none },
  { cls := 8, slots := #[.long (29)], vm := .none },
  { cls := 8, slots := #[.long (30)], vm := .none },
  { cls := 8, slots := #[.long (31)], vm := .none },
  { cls := 8, slots := #[.long (32)], vm := .none },
  { cls := 8, slots := #[.long (33)], vm := .none },
  { cls := 8, slots := #[.long (34)], vm := .none },
  { cls := 8, slots := #[.long (35)], vm := .none },
  { cls := 8, slots := #[.long (36)], vm := .none },
  { cls := 8, slots := #[.long (37)], vm := .none },
  { cls := 8, slots := #[.long (38)], vm := .none },
  { cls := 8, slots := #[.long (39)], vm := .none },
  { cls := 8, slots := #[.long (40)], vm := .none },
  { cls := 8, slots := #[.long (41)], vm := .none },
  { cls := 8, slots := #[.long (42)], vm := .none },
  { cls := 8, slots := #[.long (43)], vm := .none },
  { cls := 8, slots := #[.long (44)], vm := .none },
  { cls := 8, slots := #[.long (45)], vm := .none },
  { cls := 8, slots := #[.long (46)], vm := .none },
  { cls := 8, slots := #[.long (47)], vm := .none },
  { cls := 8, slots := #[.long (48)], vm := .none },
  { cls := 8, slots := #[.long (49)], vm := .none },
  { cls := 8, slots := #[.long (50)], vm := .none },
  { cls := 8, slots := #[.long (51)], vm := .none },
  { cls := 8, slots := #[.long (52)], vm := .none },
  { cls := 8, slots := #[.long (53)], vm := .none },
  { cls := 8, slots := #[.long (54)], vm := .none },
  { cls := 8, slots := #[.long (55)], vm := .none },
  { cls := 8, slots := #[.long (56)], vm := .none },
  { cls := 8, slots := #[.long (57)], vm := .none },
  { cls := 8, slots := #[.long (58)], vm := .none },
  { cls := 8, slots := #[.long (59)], vm := .none },
  { cls := 8, slots := #[.long (60)], vm := .none },
  { cls := 8, slots := #[.long (61)], vm := .none },
  { cls := 8, slots := #[.long (62)], vm := .none },
  { cls := 8, slots := #[.long (63)], vm := .none },
  { cls := 8, slots := #[.long (64)], vm := .none },
  { cls := 8, slots := #[.long (65)], vm := .none },
  { cls := 8, slots := #[.long (66)], vm := .none },
  { cls := 8, slots := #[.long (67)], vm := .none },
  { cls := 8, slots := #[.long (68)], vm := .none },
  { cls := 8, slots := #[.long (69)], vm := .none },
  { cls := 8, slots := #[.long (70)], vm := .none },
  { cls := 8, slots := #[.long (71)], vm := .none },
  { cls := 8, slots := #[.long (72)], vm := .none },
  { cls := 8, slots := #[.long (73)], vm := .none },
  { cls := 8, slots := #[.long (74)], vm := .none },
  { cls := 8, slots := #[.long (75)], vm := .none },
  { cls := 8, slots := #[.long (76)], vm := .none },
  { cls := 8, slots := #[.long (77)], vm := .none },
  { cls := 8, slots := #[.long (78)], vm := .none },
  { cls := 8, slots := #[.long (79)], vm := .none },
  { cls := 8, slots := #[.long (80)], vm := .none },
  { cls := 8, slots := #[.long (81)], vm := .none },
  { cls := 8, slots := #[.long (82)], vm := .none },
  { cls := 8, slots := #[.long (83)], vm := .none },
  { cls := 8, slots := #[.long (84)], vm := .none },
  { cls := 8, slots := #[.long (85)], vm := .none },
  { cls := 8, slots := #[.long (86)], vm := .none },
  { cls := 8, slots := #[.long (87)], vm := .none },
  { cls := 8, slots := #[.long (88)], vm := .none },
  { cls := 8, slots := #[.long (89)], vm := .none },
  { cls := 8, slots := #[.long (90)], vm := .none },
  { cls := 8, slots := #[.long (91)], vm := .none },
  { cls := 8, slots := #[.long (92)], vm := .none },
  { cls := 8, slots := #[.long (93)], vm := .none },
  { cls := 8, slots := #[.long (94)], vm := .none },
  { cls := 8, slots := #[.long (95)], vm := .none },
  { cls := 8, slots := #[.long (96)], vm := .none },
  { cls := 8, slots := #[.long (97)], vm := .none },
  { cls := 8, slots := #[.long (98)], vm := .none },
  { cls := 8, slots := #[.long (99)], vm := .none },
  { cls := 8, slots := #[.long (100)], vm := .none },
  { cls := 8, slots := #[.long (101)], vm := .none },
  { cls := 8, slots := #[.long (102)], vm := .none },
  { cls := 8, slots := #[.long (103)], vm := .none },
  { cls := 8, slots := #[.long (104)], vm := .none },
  { cls := 8, slots := #[.long (105)], vm := .none },
  { cls := 8, slots := #[.long (106)], vm := .none },
  { cls := 8, slots := #[.long (107)], vm := .none },
  { cls := 8, slots := #[.long (108)], vm := .none },
  { cls := 8, slots := #[.long (109)], vm := .none },
  { cls := 8, slots := #[.long (110)], vm := .none },
  { cls := 8, slots := #[.long (111)], vm := .none },
  { cls := 8, slots := #[.long (112)], vm := .none },
  { cls := 8, slots := #[.long (113)], vm := .none },
  { cls := 8, slots := #[.long (114)], vm := .none },
  { cls := 8, slots := #[.long (115)], vm := .none },
  { cls := 8, slots := #[.long (116)], vm := .none },
  { cls := 8, slots := #[.long (117)], vm := .none },
  { cls := 8, slots := #[.long (118)], vm := .none },
  { cls := 8, slots := #[.long (119)], vm := .none },
  { cls := 8, slots := #[.long (120)], vm := .none },
  { cls := 8, slots := #[.long (121)], vm := .none },
  { cls := 8, slots := #[.long (122)], vm := .none },
  { cls := 8, slots := #[.long (123)], vm := .none },
  { cls := 8, slots := #[.long (124)], vm := .none },
  { cls := 8, slots := #[.long (125)], vm := .none },
  { cls := 8, slots := #[.long (126)], vm := .none },
  { cls := 8, slots := #[.long (127)], vm := .none }]
def classes : Array Class := #[k0, k1, k2, k3, k4, k5, k6, k7, k8, k9, k10, k11, k12, k13, k14, k15]
def interned : List (Array UInt16 × Addr) := []
def slotsUsed : Nat := 515
def theMethod : MethodId := ⟨1, 1⟩
def args0 : Array Value := #[.long 5, .long 9, .long 1, .long 3, .int 2]
def aboutOver (below : List Frame) : State where
  vm := { classes := classes, interned := interned.toArray }
  heap := heap
  slotsUsed := slotsUsed
  threads := #[{ frames := .invoking theMethod args0 :: below }]
def below0 : List Frame := [.native { method := ⟨0, 0⟩, args := #[] }]
def about1 : State := aboutOver below0
def p0 : Program := .bare "" "" ""
def e0 : Env := launch0.env 0 0 0
theorem w_frames : about1.frames = Frame.invoking theMethod args0 :: below0 := rfl
set_option maxRecDepth 65536 in
theorem w_args : argsFit about1.vm theMethod args0 = true := by decide +kernel
set_option maxRecDepth 65536 in
theorem w_heap : heapFits about1 = true := by decide +kernel
set_option maxRecDepth 65536 in
theorem w_runnable : about1.curStatus? = some .runnable := by decide +kernel
set_option maxRecDepth 65536 in
theorem w_alone : about1.alone = true := by decide +kernel
set_option maxRecDepth 65536 in
theorem w_named : about1.methodNamed? x = some theMethod := by decide +kernel
set_option maxRecDepth 65536 in
theorem w_hears : about1.hears theMethod below0 = true := by decide +kernel
set_option maxRecDepth 65536 in
theorem w_ripe : about1.ripe theMethod args0 below0 = true := by decide +kernel
theorem w_running : about1.status = .running := rfl
set_option maxRecDepth 65536 in
theorem w_room : about1.hasRoom e0.platform room_1 = true :=
  launch0.hasRoom_least _ room_1 (by decide +kernel) (by decide +kernel) (by decide +kernel) (by decide +kernel) (by decide +kernel) (by decide +kernel)
theorem allAtoms_all (ts : List Jvm.Cond) (a : Array Jvm.Value) (st : Jvm.State) : (allAtoms ts).before a st = ts.all (fun c => c.before a st) := by
  induction ts with
  | nil => rfl
  | cons c t ih =>
    show (Jvm.Cond.and c (allAtoms t)).before a st = _
    rw [Jvm.Cond.before_and, ih, List.all_cons]
def words1 : List Jvm.Cond := Jvm.Cond.code x code maxLocals ret :: tables_1
/-- a 'code' word, met by the world's own term for the bytes: nothing is compared byte by byte -/
theorem code_word {y : MethodName} {bytes : ByteArray} {mx : Nat} {rt : Option FieldType} {a : Array Value} {s : State} {m : MethodId} {meth : Method} {c : Code} (h1 : s.methodNamed? y = some m) (h2 : s.vm.method? m = some meth) (h3 : meth.code = some c) (h4 : c.code = bytes)
    (h5 : (c.maxLocals == mx && c.exceptionTable.isEmpty && decide (c.maxStack ≤ mostOperands) && decide (meth.sig.returnType = rt) && !meth.locks && decide (parseMethodDescriptor y.desc = some meth.sig)) = true) : (Jvm.Cond.code y bytes mx rt).before a s = true := by
  simp only [Bool.and_eq_true, beq_iff_eq, Bool.not_eq_true', decide_eq_true_eq] at h5
  obtain ⟨⟨⟨⟨⟨g1, g2⟩, g3⟩, g4⟩, g5⟩, g6⟩ := h5
  simp [Cond.before, Cond.holds, Cond.value, h1, h2, h3, h4, g1, g2, g3, g4, g5, g6]
def isCode : Jvm.Cond → Bool
  | .code _ _ _ _ => true
  | _ => false
theorem all_split {L : List Jvm.Cond} {P : Jvm.Cond → Bool} (h1 : L.all (fun c => isCode c || P c) = true) (h2 : ∀ c ∈ L.filter isCode, P c = true) : L.all P = true := by
  refine List.all_eq_true.mpr fun c hc => ?_
  have h := List.all_eq_true.mp h1 c hc
  rcases Bool.eq_false_or_eq_true (isCode c) with hi | hi
  · exact h2 c (List.mem_filter.mpr ⟨hc, hi⟩)
  · simpa [hi] using h
set_option maxRecDepth 65536 in
theorem w_c0 : (Jvm.Cond.code x code maxLocals ret).before args0 about1 = true := code_word (m := ⟨1, 1⟩) (meth := k1m1) (c := k1c1) (by decide +kernel) rfl rfl rfl (by decide +kernel)
set_option maxRecDepth 65536 in
theorem w_c1 : (Jvm.Cond.code ({ cls := "com/example/calm_balancer/calmbalancer/BundleRange", name := "<init>", desc := "(JJ)V" } : Jvm.MethodName) prog_5_method_1_code (5 : Nat) (Option.none : Option Jvm.ClassFile.FieldType)).before args0 about1 = true := code_word (m := ⟨2, 0⟩) (meth := k2m0) (c := k2c0) (by decide +kernel) rfl rfl rfl (by decide +kernel)
set_option maxRecDepth 65536 in
theorem w_c2 : (Jvm.Cond.code ({ cls := "java/lang/Object", name := "<init>", desc := "()V" } : Jvm.MethodName) object_method_1_code (1 : Nat) (Option.none : Option Jvm.ClassFile.FieldType)).before args0 about1 = true := code_word (m := ⟨0, 0⟩) (meth := k0m0) (c := k0c0) (by decide +kernel) rfl rfl rfl (by decide +kernel)
set_option maxRecDepth 65536 in
theorem w_c3 : (Jvm.Cond.code ({ cls := "java/lang/Long", name := "valueOf", desc := "(J)Ljava/lang/Long;" } : Jvm.MethodName) jdk_35_method_24_code (3 : Nat) (Option.some (Jvm.ClassFile.FieldType.object "java/lang/Long"))).before args0 about1 = true := code_word (m := ⟨8, 0⟩) (meth := k8m0) (c := k8c0) (by decide +kernel) rfl rfl rfl (by decide +kernel)
set_option maxRecDepth 65536 in
theorem w_c4 : (Jvm.Cond.code ({ cls := "com/example/calm_balancer/calmbalancer/BundleRange", name := "equals", desc := "(Ljava/lang/Object;)Z" } : Jvm.MethodName) prog_5_method_14_code (3 : Nat) (Option.some Jvm.ClassFile.FieldType.boolean)).before args0 about1 = true := code_word (m := ⟨2, 1⟩) (meth := k2m1) (c := k2c1) (by decide +kernel) rfl rfl rfl (by decide +kernel)
set_option maxRecDepth 65536 in
theorem w_c5 : (Jvm.Cond.code ({ cls := "java/lang/Long", name := "<init>", desc := "(J)V" } : Jvm.MethodName) jdk_35_method_26_code (3 : Nat) (Option.none : Option Jvm.ClassFile.FieldType)).before args0 about1 = true := code_word (m := ⟨8, 1⟩) (meth := k8m1) (c := k8c1) (by decide +kernel) rfl rfl rfl (by decide +kernel)
set_option maxRecDepth 65536 in
theorem w_c6 : (Jvm.Cond.code ({ cls := "java/lang/Number", name := "<init>", desc := "()V" } : Jvm.MethodName) jdk_18_method_1_code (1 : Nat) (Option.none : Option Jvm.ClassFile.FieldType)).before args0 about1 = true := code_word (m := ⟨4, 0⟩) (meth := k4m0) (c := k4c0) (by decide +kernel) rfl rfl rfl (by decide +kernel)
def codes1 : List Jvm.Cond := [Jvm.Cond.code x code maxLocals ret, Jvm.Cond.code ({ cls := "com/example/calm_balancer/calmbalancer/BundleRange", name := "<init>", desc := "(JJ)V" } : Jvm.MethodName) prog_5_method_1_code (5 : Nat) (Option.none : Option Jvm.ClassFile.FieldType), Jvm.Cond.code ({ cls := "java/lang/Object", name := "<init>", desc := "()V" } : Jvm.MethodName) object_method_1_code (1 : Nat) (Option.none : Option Jvm.ClassFile.FieldType), Jvm.Cond.code ({ cls := "java/lang/Long", name := "valueOf", desc := "(J)Ljava/lang/Long;" } : Jvm.MethodName) jdk_35_method_24_code (3 : Nat) (Option.some (Jvm.ClassFile.FieldType.object "java/lang/Long")), Jvm.Cond.code ({ cls := "com/example/calm_balancer/calmbalancer/BundleRange", name := "equals", desc := "(Ljava/lang/Object;)Z" } : Jvm.MethodName) prog_5_method_14_code (3 : Nat) (Option.some Jvm.ClassFile.FieldType.boolean), Jvm.Cond.code ({ cls := "java/lang/Long", name := "<init>", desc := "(J)V" } : Jvm.MethodName) jdk_35_method_26_code (3 : Nat) (Option.none : Option Jvm.ClassFile.FieldType), Jvm.Cond.code ({ cls := "java/lang/Number", name := "<init>", desc := "()V" } : Jvm.MethodName) jdk_18_method_1_code (1 : Nat) (Option.none : Option Jvm.ClassFile.FieldType)]
set_option maxRecDepth 65536 in
theorem codes_eq : words1.filter isCode = codes1 := rfl
theorem w_codes : ∀ c ∈ words1.filter isCode, c.before args0 about1 = true := by
  rw [codes_eq]
  intro c hc
  simp only [codes1, List.mem_cons, List.not_mem_nil, or_false] at hc
  rcases hc with rfl | rfl | rfl | rfl | rfl | rfl | rfl
  · exact w_c0
  · exact w_c1
  · exact w_c2
  · exact w_c3
  · exact w_c4
  · exact w_c5
  · exact w_c6
set_option maxRecDepth 65536 in
theorem w_t1 : (words1.take 24).all (fun c => isCode c || c.before args0 about1) = true := by decide +kernel
set_option maxRecDepth 65536 in
theorem w_t2 : ((words1.drop 24).take 24).all (fun c => isCode c || c.before args0 about1) = true := by decide +kernel
set_option maxRecDepth 65536 in
theorem w_t3 : ((words1.drop 24).drop 24).all (fun c => isCode c || c.before args0 about1) = true := by decide +kernel
theorem w_tables : (allAtoms (Jvm.Cond.code x code maxLocals ret :: tables_1)).before args0 about1 = true := by
  rw [allAtoms_all]
  show words1.all (fun c => c.before args0 about1) = true
  refine all_split ?_ w_codes
  rw [← List.take_append_drop 24 words1, List.all_append, w_t1, ← List.take_append_drop 24 (words1.drop 24), List.all_append, w_t2, w_t3]
  rfl
set_option maxRecDepth 65536 in
theorem w_rest : rest_1_c.before args0 about1 = true := by decide +kernel
set_option maxRecDepth 65536 in
theorem w_case : (Jvm.Cond.and given_1 narrow_1).before args0 about1 = true := by decide +kernel
theorem w_applies : (headSpec (Jvm.Cond.code x code maxLocals ret :: tables_1) room_1).applies x e0.platform about1 = true :=
  (Spec.applies_iff w_frames).mpr ⟨w_running, w_runnable, w_alone, w_named, w_hears, w_ripe, w_room, w_tables⟩
theorem atStart : AtStart classFile x code maxLocals ret World_1 tables_1 room_1 Calls_1 rest_1 Pre_1 launch0 p0 e0 about1 theMethod args0 below0 :=
  ⟨lists_1, trivial, launch0.admits_env _ _ _, launch0.least_env, fairChoices_fair.cas, fairChoices_fair.clock, w_frames, w_args, w_heap, w_applies, trivial, w_rest, w_case⟩
end start1
theorem witness_1 : WitnessClaimed_1 := ⟨start1.p0, start1.e0, start1.about1, start1.theMethod, start1.args0, start1.below0, start1.atStart⟩
end Jvm.Pilot.@@N@@
