import JvmDerived
import JvmDerived.Pilot.@@N@@Statement
import JvmDerived.Pilot.@@N@@Code
set_option linter.unusedVariables false
set_option linter.unusedSimpArgs false
namespace Jvm.RoadKit
open Sem ClassFile Op Lib Jvm.Stand Jvm.Free Jvm.LawKit
section New
variable {p : Program} {l : Launch} {e : Env} {R : Room} {s : State} {m : MethodId} {args : Array Value} {below : List Frame} {meth : Method} {c : Code} {T : State} {locs : List Loc} {cells slots : Nat}
theorem retI (X : Stand p l e R s m args below meth c T locs cells slots) (hx : p.tables.exec = Jvm.exec) {pc : Nat} {Ls : Array Slot} {z : Int32} {rest : List Value} (hret : meth.sig.returnType = some .int) (hd : decode c.code pc = .ok (.ireturn, 1)) {fs : List Frame}
    (hl : ∀ (f : JFrame) (acts : List Action), f.method = m → f.locked = none → f.entered = [] → (doReturn e (T.setTop f) acts (some (.int z))).1 = T.setFrames fs) : Steps p.tables e below (T.setTop (mkF m pc Ls (.int z :: rest))) (T.setFrames fs) := by
  have hm' : T.vm.method? m = some meth := X.method'
  have hn : narrow .int (.int z) = .int z := rfl
  show Steps p.tables e below (T.setTop { method := m, pc := pc, locals := Ls, stack := _ :: rest, locked := none }) _
  jvm_step X.here [X.here.top, hx, hd, hm', hret, hn]
  first | (intro acts; rw [hl _ acts rfl rfl rfl]) | rw [hl _ _ rfl rfl rfl]
  exact Steps.refl _
theorem own_lremM {g : JFrame} {target : State} (X : Stand p l e R s m args below meth c T locs cells slots) (hx : p.tables.exec = Jvm.exec) (hg : g.method = m) {x y : Int64} {rest : List Value} (hd : decode c.code g.pc = .ok (.lrem, 1)) (hs : g.stack = .long y :: .long x :: rest) (hy : y ≠ 0)
    (hr : Steps p.tables e below (T.setTop { g with pc := g.pc + 1, stack := .long (x % y) :: rest }) target) : Steps p.tables e below (T.setTop g) target := by
  have q : x - (x / y) * y = x % y := lrem_mod x y
  exact XS.lrem X.here hx hg hd hs hy (by rw [q]; exact hr)
end New
end Jvm.RoadKit
namespace Jvm.Pilot.@@N@@
open Jvm Jvm.ClassFile Sem Op Lib Jvm.Free Jvm.Stand Jvm.LawKit Jvm.RoadKit Bundle Jvm.Pilot.@@N@@.Jvm.D
theorem own_notin0 {a : Addr} : a ∉ ([] : List Addr) := fun q => nomatch q
theorem own_notin1 {a b : Addr} (h : a ≠ b) : a ∉ [b] := fun q => h (List.mem_singleton.mp q)
theorem own_narb {x : Int32} (h : x = 0 ∨ x = 1) : nar .boolean x = x := by rcases h with rfl | rfl <;> rfl
theorem own_all0 {P : Addr → Prop} : ∀ x ∈ ([] : List Addr), P x := fun _ q => nomatch q
theorem own_all1 {P : Addr → Prop} {a : Addr} (h : P a) : ∀ x ∈ [a], P x := fun x q => by cases List.mem_singleton.mp q; exact h
theorem own_fldu {Z : State} {h : Heap} {a : Addr} {C n d : String} {v w : Value} (F : Fld Z h a C n d v) (G : Fld Z h a C n d w) : v = w := by
  obtain ⟨cell, cf, k, i, f, h1, h2, -, -, -, -, h7⟩ := F
  obtain ⟨cell', cf', k', i', f', g1, g2, -, -, -, -, g7⟩ := G
  rw [h1] at g1; cases g1
  rw [h2] at g2; cases g2
  exact Option.some.inj (h7.symm.trans g7)
theorem own_fldne {Z : State} {h : Heap} {a b : Addr} {C n d : String} {v w : Int32} (F : Fld Z h a C n d (.int v)) (G : Fld Z h b C n d (.int w)) (q : v ≠ w) : a ≠ b := fun e => by
  subst e; exact q (Value.int.inj (own_fldu F G))
theorem own_fldI {args : Array Value} {s : State} {t : Term} {C n d : String} {z : Int32} {x : Addr} (h : (Jvm.Cond.eq (Term.field t C n d) (Term.int z)).value args s none s [] = some true) (ht : t.eval args s none [] s = some (.ref x)) : Fld s s.heap x C n d (.int z) := by
  obtain ⟨X, Y, h1, h2, k1, k2⟩ := cmp_v (Or.inl h)
  rw [Term.int_eval] at h2
  obtain rfl := Option.some.inj h2
  obtain ⟨w, rfl⟩ : ∃ w, X = .int w := k2
  have q : (Jvm.Cond.eq (Term.field t C n d) (Term.int z)).value args s none s [] = some (decide (w = z)) := by simp [Cond.value, h1, Term.int_eval]
  have e := gotT q h
  subst e
  exact Fld.start ((fld_at ht).symm.trans h1)
theorem own_fldR {args : Array Value} {s : State} {t u : Term} {C n d : String} {x y : Addr} (h : (Jvm.Cond.eq (Term.field t C n d) u).value args s none s [] = some true) (ht : t.eval args s none [] s = some (.ref x)) (hu : u.eval args s none [] s = some (.ref y)) : Fld s s.heap x C n d (.ref y) := by
  obtain ⟨X, Y, h1, h2, k1, k2⟩ := cmp_v (Or.inl h)
  obtain rfl := Option.some.inj (hu.symm.trans h2)
  have kx : X.isRef = true := by cases X <;> simp [Kin, Value.isRef] at k1 k2 ⊢
  have e := gotT (eq_R h1 h2 kx rfl) h
  subst e
  exact Fld.start ((fld_at ht).symm.trans h1)
theorem own_k8 (x : Int32) (k : Int32) (hk : k = ((x &&& (2147483647 : Int32)) % (8 : Int32))) : k = 0 ∨ k = 1 ∨ k = 2 ∨ k = 3 ∨ k = 4 ∨ k = 5 ∨ k = 6 ∨ k = 7 := by
  have b := c_and x (2147483647 : Int32) (by decide)
  have r := (c_irem (x &&& (2147483647 : Int32)) (8 : Int32) 8 rfl).1 b.1
  rw [← hk] at r
  have e0 : (0 : Int32).toInt = 0 := rfl
  have e1 : (1 : Int32).toInt = 1 := rfl
  have e2 : (2 : Int32).toInt = 2 := rfl
  have e3 : (3 : Int32).toInt = 3 := rfl
  have e4 : (4 : Int32).toInt = 4 := rfl
  have e5 : (5 : Int32).toInt = 5 := rfl
  have e6 : (6 : Int32).toInt = 6 := rfl
  have e7 : (7 : Int32).toInt = 7 := rfl
  simp only [← Int32.toInt_inj, e0, e1, e2, e3, e4, e5, e6, e7]
  omega
theorem own_fin (k : Int32) (w_SMALLINT w_INTEGER w_BIGINT w_NUMERIC w_TEXT w_CHARACTER_VARYING w_BOOLEAN w_UNKNOWN : Addr) (hk : k = 0 ∨ k = 1 ∨ k = 2 ∨ k = 3 ∨ k = 4 ∨ k = 5 ∨ k = 6 ∨ k = 7) (n_SMALLINT_TEXT : w_SMALLINT ≠ w_TEXT) (n_INTEGER_TEXT : w_INTEGER ≠ w_TEXT) (n_BIGINT_TEXT : w_BIGINT ≠ w_TEXT) (n_NUMERIC_TEXT : w_NUMERIC ≠ w_TEXT) (n_CHARACTER_VARYING_TEXT : w_CHARACTER_VARYING ≠ w_TEXT) (n_BOOLEAN_TEXT : w_BOOLEAN ≠ w_TEXT) (n_UNKNOWN_TEXT : w_UNKNOWN ≠ w_TEXT) (n_SMALLINT_CHARACTER_VARYING : w_SMALLINT ≠ w_CHARACTER_VARYING) (n_INTEGER_CHARACTER_VARYING : w_INTEGER ≠ w_CHARACTER_VARYING) (n_BIGINT_CHARACTER_VARYING : w_BIGINT ≠ w_CHARACTER_VARYING) (n_NUMERIC_CHARACTER_VARYING : w_NUMERIC ≠ w_CHARACTER_VARYING) (n_TEXT_CHARACTER_VARYING : w_TEXT ≠ w_CHARACTER_VARYING) (n_BOOLEAN_CHARACTER_VARYING : w_BOOLEAN ≠ w_CHARACTER_VARYING) (n_UNKNOWN_CHARACTER_VARYING : w_UNKNOWN ≠ w_CHARACTER_VARYING) : (if (if k = (0 : Int32) then w_SMALLINT else (if k = (1 : Int32) then w_INTEGER else (if k = (2 : Int32) then w_BIGINT else (if k = (3 : Int32) then w_NUMERIC else (if k = (4 : Int32) then w_TEXT else (if k = (5 : Int32) then w_CHARACTER_VARYING else (if k = (6 : Int32) then w_BOOLEAN else w_UNKNOWN))))))) = w_TEXT then (1 : Int32) else (if (if k = (0 : Int32) then w_SMALLINT else (if k = (1 : Int32) then w_INTEGER else (if k = (2 : Int32) then w_BIGINT else (if k = (3 : Int32) then w_NUMERIC else (if k = (4 : Int32) then w_TEXT else (if k = (5 : Int32) then w_CHARACTER_VARYING else (if k = (6 : Int32) then w_BOOLEAN else w_UNKNOWN))))))) = w_CHARACTER_VARYING then (1 : Int32) else (0 : Int32))) = (if k = (4 : Int32) then (1 : Int32) else (if k = (5 : Int32) then (1 : Int32) else (0 : Int32))) := by
  rcases hk with rfl | rfl | rfl | rfl | rfl | rfl | rfl | rfl <;> simp [*]
def QP (Z : State) (k : Int32) (w_SMALLINT w_INTEGER w_BIGINT w_NUMERIC w_TEXT w_CHARACTER_VARYING w_BOOLEAN w_UNKNOWN : Addr) (h0 : Heap) (n0 : Nat) (v : Option Value) (h : Heap) (L : List Loc) : Prop := v = some (.ref (if k = (0 : Int32) then w_SMALLINT else (if k = (1 : Int32) then w_INTEGER else (if k = (2 : Int32) then w_BIGINT else (if k = (3 : Int32) then w_NUMERIC else (if k = (4 : Int32) then w_TEXT else (if k = (5 : Int32) then w_CHARACTER_VARYING else (if k = (6 : Int32) then w_BOOLEAN else w_UNKNOWN)))))))) ∧ Fr n0 L ∧ h = h0
theorem ef_rmP (m : MethodId) (x0 : Int32) : entryFrame m #[(.int x0)] 1 = mkF m 0 #[.val (.int x0)] [] := by first | (simp [entryFrame, mkF, argsToLocals, Value.category]; done) | rfl
theorem pn_com_example_terms_of_isolation_termsofisolation_SqlTypeIsStringPinLaw : plainName "com/example/terms_of_isolation/termsofisolation/SqlTypeIsStringPinLaw" = true := by first | (simp [plainName, overriddenIn]; done) | decide +kernel
theorem d1_0 : decode method_3_code 0 = .ok (.iload_n 0, 1) := by decide +kernel
theorem d1_1 : decode method_3_code 1 = .ok (.ifCond .ne 7, 3) := by decide +kernel
theorem d1_4 : decode method_3_code 4 = .ok (.getstatic 20, 3) := by decide +kernel
theorem d1_7 : decode method_3_code 7 = .ok (.areturn, 1) := by decide +kernel
theorem d1_8 : decode method_3_code 8 = .ok (.iload_n 0, 1) := by decide +kernel
theorem d1_9 : decode method_3_code 9 = .ok (.iconst 1, 1) := by decide +kernel
theorem d1_10 : decode method_3_code 10 = .ok (.if_icmp .ne 7, 3) := by decide +kernel
theorem d1_13 : decode method_3_code 13 = .ok (.getstatic 24, 3) := by decide +kernel
theorem d1_16 : decode method_3_code 16 = .ok (.areturn, 1) := by decide +kernel
theorem d1_17 : decode method_3_code 17 = .ok (.iload_n 0, 1) := by decide +kernel
theorem d1_18 : decode method_3_code 18 = .ok (.iconst 2, 1) := by decide +kernel
theorem d1_19 : decode method_3_code 19 = .ok (.if_icmp .ne 7, 3) := by decide +kernel
theorem d1_22 : decode method_3_code 22 = .ok (.getstatic 27, 3) := by decide +kernel
theorem d1_25 : decode method_3_code 25 = .ok (.areturn, 1) := by decide +kernel
theorem d1_26 : decode method_3_code 26 = .ok (.iload_n 0, 1) := by decide +kernel
theorem d1_27 : decode method_3_code 27 = .ok (.iconst 3, 1) := by decide +kernel
theorem d1_28 : decode method_3_code 28 = .ok (.if_icmp .ne 7, 3) := by decide +kernel
theorem d1_31 : decode method_3_code 31 = .ok (.getstatic 30, 3) := by decide +kernel
theorem d1_34 : decode method_3_code 34 = .ok (.areturn, 1) := by decide +kernel
theorem d1_35 : decode method_3_code 35 = .ok (.iload_n 0, 1) := by decide +kernel
theorem d1_36 : decode method_3_code 36 = .ok (.iconst 4, 1) := by decide +kernel
theorem d1_37 : decode method_3_code 37 = .ok (.if_icmp .ne 7, 3) := by decide +kernel
theorem d1_40 : decode method_3_code 40 = .ok (.getstatic 33, 3) := by decide +kernel
theorem d1_43 : decode method_3_code 43 = .ok (.areturn, 1) := by decide +kernel
theorem d1_44 : decode method_3_code 44 = .ok (.iload_n 0, 1) := by decide +kernel
theorem d1_45 : decode method_3_code 45 = .ok (.iconst 5, 1) := by decide +kernel
theorem d1_46 : decode method_3_code 46 = .ok (.if_icmp .ne 7, 3) := by decide +kernel
theorem d1_49 : decode method_3_code 49 = .ok (.getstatic 36, 3) := by decide +kernel
theorem d1_52 : decode method_3_code 52 = .ok (.areturn, 1) := by decide +kernel
theorem d1_53 : decode method_3_code 53 = .ok (.iload_n 0, 1) := by decide +kernel
theorem d1_54 : decode method_3_code 54 = .ok (.bipush 6, 2) := by decide +kernel
theorem d1_56 : decode method_3_code 56 = .ok (.if_icmp .ne 7, 3) := by decide +kernel
theorem d1_59 : decode method_3_code 59 = .ok (.getstatic 39, 3) := by decide +kernel
theorem d1_62 : decode method_3_code 62 = .ok (.areturn, 1) := by decide +kernel
theorem d1_63 : decode method_3_code 63 = .ok (.getstatic 42, 3) := by decide +kernel
theorem d1_66 : decode method_3_code 66 = .ok (.areturn, 1) := by decide +kernel
set_option maxRecDepth 65536 in
set_option maxHeartbeats 40000000 in
theorem rmP (l : Launch) (Z : State) (a0 : Array Value) (hw : ∀ d ∈ tables_1, d.before a0 Z = true) (ws : List Jvm.Cond) (k : Int32) (w_SMALLINT w_INTEGER w_BIGINT w_NUMERIC w_TEXT w_CHARACTER_VARYING w_BOOLEAN w_UNKNOWN : Addr) (h0 : Heap) (n0 : Nat) (Z0 : n0 ≤ h0.size) (S_SMALLINT : Sta Z h0 "com/example/terms_of_isolation/termsofisolation/SqlType" "SMALLINT" "Lcom/example/terms_of_isolation/termsofisolation/SqlType;" (.ref w_SMALLINT)) (S_INTEGER : Sta Z h0 "com/example/terms_of_isolation/termsofisolation/SqlType" "INTEGER" "Lcom/example/terms_of_isolation/termsofisolation/SqlType;" (.ref w_INTEGER)) (S_BIGINT : Sta Z h0 "com/example/terms_of_isolation/termsofisolation/SqlType" "BIGINT" "Lcom/example/terms_of_isolation/termsofisolation/SqlType;" (.ref w_BIGINT)) (S_NUMERIC : Sta Z h0 "com/example/terms_of_isolation/termsofisolation/SqlType" "NUMERIC" "Lcom/example/terms_of_isolation/termsofisolation/SqlType;" (.ref w_NUMERIC)) (S_TEXT : Sta Z h0 "com/example/terms_of_isolation/termsofisolation/SqlType" "TEXT" "Lcom/example/terms_of_isolation/termsofisolation/SqlType;" (.ref w_TEXT)) (S_CHARACTER_VARYING : Sta Z h0 "com/example/terms_of_isolation/termsofisolation/SqlType" "CHARACTER_VARYING" "Lcom/example/terms_of_isolation/termsofisolation/SqlType;" (.ref w_CHARACTER_VARYING)) (S_BOOLEAN : Sta Z h0 "com/example/terms_of_isolation/termsofisolation/SqlType" "BOOLEAN" "Lcom/example/terms_of_isolation/termsofisolation/SqlType;" (.ref w_BOOLEAN)) (S_UNKNOWN : Sta Z h0 "com/example/terms_of_isolation/termsofisolation/SqlType" "UNKNOWN" "Lcom/example/terms_of_isolation/termsofisolation/SqlType;" (.ref w_UNKNOWN)) :
    MetFree l (⟨"com/example/terms_of_isolation/termsofisolation/SqlTypeIsStringPinLaw", "pick", "(I)Lcom/example/terms_of_isolation/termsofisolation/SqlType;"⟩ : MethodName) (head1 (Jvm.Cond.code (⟨"com/example/terms_of_isolation/termsofisolation/SqlTypeIsStringPinLaw", "pick", "(I)Lcom/example/terms_of_isolation/termsofisolation/SqlType;"⟩ : MethodName) method_3_code 1 (some (.object "com/example/terms_of_isolation/termsofisolation/SqlType")) :: ws) ({ frames := 0, cells := 0, slots := 0, locals := 0 } : Room)) (fun a U => a = #[(.int k)] ∧ Z.Warmed39 U.vm ∧ U.heap = h0) (fun _ _ _ _ _ => True) (fun _ U o U' => ∃ v L, o = .returned v ∧ QP Z k w_SMALLINT w_INTEGER w_BIGINT w_NUMERIC w_TEXT w_CHARACTER_VARYING w_BOOLEAN w_UNKNOWN h0 n0 v U'.heap L ∧ FrameEnd U o U' L ({ frames := 0, cells := 0, slots := 0, locals := 0 } : Room).cells ({ frames := 0, cells := 0, slots := 0, locals := 0 } : Room).slots) := by
  refine MetFree.of_bodySF (plainFor_of_name pn_com_example_terms_of_isolation_termsofisolation_SqlTypeIsStringPinLaw) hisR ?_
  intro p e s m args below meth c s₁ Bd hml0 hP hK
  obtain ⟨rfl, hZ, hh⟩ := hP
  have hx := Bd.exec
  have hby := Bd.bytes
  have hml : c.maxLocals = 1 := hml0
  have hown : s.vm.findClass "com/example/terms_of_isolation/termsofisolation/SqlTypeIsStringPinLaw" = some m.cls := findClass_of_methodNamed Bd.named
  have hnm := (name_of_methodNamed Bd.named Bd.method).1
  have X0 : Stand p l e ({ frames := 0, cells := 0, slots := 0, locals := 0 } : Room) s m #[(.int k)] below meth c s₁ [] 0 0 := Stand.of_body Bd
  have e0 : s₁.heap = h0 := by rw [← hh, Bd.state]; rfl
  have N0 := Fr.nil n0
  have pre0 : ∀ t, Steps p.tables e below (s₁.setTop (mkF m 0 #[.val (.int k)] [])) t → Steps p.tables e below (s₁.setTop (entryFrame m #[(.int k)] 1)) t := fun t kt => castTop (ef_rmP m k) kt
  have pre1 : ∀ t, Steps p.tables e below (s₁.setTop (mkF m 1 #[.val (.int k)] [(.int k)])) t → Steps p.tables e below (s₁.setTop (entryFrame m #[(.int k)] 1)) t := fun t kt => pre0 t (by
    refine XS.iloadN X0.here hx rfl (hb hby d1_0) rfl ?_
    show Steps p.tables e below (s₁.setTop (mkF m 1 #[.val (.int k)] [(.int k)])) _
    exact kt)
  by_cases c1_1 : k = (0 : Int32)
  · have pre2 : ∀ t, Steps p.tables e below (s₁.setTop (mkF m 4 #[.val (.int k)] [])) t → Steps p.tables e below (s₁.setTop (entryFrame m #[(.int k)] 1)) t := fun t kt => pre1 t (by
      refine XS.ifNo X0.here hx rfl (hb hby d1_1) rfl ((if0 _ _).trans (teq c1_1).2) ?_
      show Steps p.tables e below (s₁.setTop (mkF m 4 #[.val (.int k)] [])) _
      exact kt)
    obtain ⟨T3, X3, e3, st3⟩ := getS2 X0 hx hZ hown (host := "") (Or.inl (hw _ (List.mem_of_getElem? (i := 5) rfl))) Via.refl e0 S_SMALLINT (g := (mkF m 4 #[.val (.int k)] [])) rfl (hb hby d1_4)
    have pre4 : ∀ t, Steps p.tables e below (T3.setTop (mkF m 7 #[.val (.int k)] [(.ref w_SMALLINT)])) t → Steps p.tables e below (s₁.setTop (entryFrame m #[(.int k)] 1)) t := fun t kt => pre2 t (st3 _ kt)
    obtain ⟨fs, hr, hrun, hended, hW, hsame⟩ := X3.leave (v := (some (.ref w_SMALLINT))) (fun h => by rw [Bd.returns] at h; cases h)
    refine ⟨_, _, pre4 _ ?_, hrun, hended, _, _, rfl, ?_, ⟨_, rfl⟩, hW, hsame.mono (by decide) (by decide)⟩
    · exact retOut X3 hx Bd.returns rfl (Or.inr (Or.inr (Or.inr (Or.inr ⟨rfl, rfl, rfl⟩)))) (hb hby d1_7) hr
    · show QP Z k w_SMALLINT w_INTEGER w_BIGINT w_NUMERIC w_TEXT w_CHARACTER_VARYING w_BOOLEAN w_UNKNOWN h0 n0 _ T3.heap _
      rw [e3]
      exact ⟨(by rw [if_pos c1_1]), N0, rfl⟩
  · have pre6 : ∀ t, Steps p.tables e below (s₁.setTop (mkF m 10 #[.val (.int k)] [(.int (1 : Int32)), (.int k)])) t → Steps p.tables e below (s₁.setTop (entryFrame m #[(.int k)] 1)) t := fun t kt => pre1 t (by
      refine XS.ifYes X0.here hx rfl (pc0 := 1) (pc' := 8) rfl (hb hby d1_1) rfl ((if0 _ _).trans (feq c1_1).2) (by decide) (by decide) ?_
      show Steps p.tables e below (s₁.setTop (mkF m 8 #[.val (.int k)] [])) _
      refine XS.iloadN X0.here hx rfl (hb hby d1_8) rfl ?_
      show Steps p.tables e below (s₁.setTop (mkF m 9 #[.val (.int k)] [(.int k)])) _
      refine XS.iconst X0.here hx rfl (hb hby d1_9) ?_
      show Steps p.tables e below (s₁.setTop (mkF m 10 #[.val (.int k)] [(.int (1 : Int32)), (.int k)])) _
      exact kt)
    by_cases c10_2 : k = (1 : Int32)
    · have pre7 : ∀ t, Steps p.tables e below (s₁.setTop (mkF m 13 #[.val (.int k)] [])) t → Steps p.tables e below (s₁.setTop (entryFrame m #[(.int k)] 1)) t := fun t kt => pre6 t (by
        refine XS.icmpNo X0.here hx rfl (hb hby d1_10) rfl (teq c10_2).2 ?_
        show Steps p.tables e below (s₁.setTop (mkF m 13 #[.val (.int k)] [])) _
        exact kt)
      obtain ⟨T8, X8, e8, st8⟩ := getS2 X0 hx hZ hown (host := "") (Or.inl (hw _ (List.mem_of_getElem? (i := 25) rfl))) Via.refl e0 S_INTEGER (g := (mkF m 13 #[.val (.int k)] [])) rfl (hb hby d1_13)
      have pre9 : ∀ t, Steps p.tables e below (T8.setTop (mkF m 16 #[.val (.int k)] [(.ref w_INTEGER)])) t → Steps p.tables e below (s₁.setTop (entryFrame m #[(.int k)] 1)) t := fun t kt => pre7 t (st8 _ kt)
      obtain ⟨fs, hr, hrun, hended, hW, hsame⟩ := X8.leave (v := (some (.ref w_INTEGER))) (fun h => by rw [Bd.returns] at h; cases h)
      refine ⟨_, _, pre9 _ ?_, hrun, hended, _, _, rfl, ?_, ⟨_, rfl⟩, hW, hsame.mono (by decide) (by decide)⟩
      · exact retOut X8 hx Bd.returns rfl (Or.inr (Or.inr (Or.inr (Or.inr ⟨rfl, rfl, rfl⟩)))) (hb hby d1_16) hr
      · show QP Z k w_SMALLINT w_INTEGER w_BIGINT w_NUMERIC w_TEXT w_CHARACTER_VARYING w_BOOLEAN w_UNKNOWN h0 n0 _ T8.heap _
        rw [e8]
        exact ⟨(by rw [if_neg c1_1, if_pos c10_2]), N0, rfl⟩
    · have pre11 : ∀ t, Steps p.tables e below (s₁.setTop (mkF m 19 #[.val (.int k)] [(.int (2 : Int32)), (.int k)])) t → Steps p.tables e below (s₁.setTop (entryFrame m #[(.int k)] 1)) t := fun t kt => pre6 t (by
        refine XS.icmpYes X0.here hx rfl (pc0 := 10) (pc' := 17) rfl (hb hby d1_10) rfl (feq c10_2).2 (by decide) (by decide) ?_
        show Steps p.tables e below (s₁.setTop (mkF m 17 #[.val (.int k)] [])) _
        refine XS.iloadN X0.here hx rfl (hb hby d1_17) rfl ?_
        show Steps p.tables e below (s₁.setTop (mkF m 18 #[.val (.int k)] [(.int k)])) _
        refine XS.iconst X0.here hx rfl (hb hby d1_18) ?_
        show Steps p.tables e below (s₁.setTop (mkF m 19 #[.val (.int k)] [(.int (2 : Int32)), (.int k)])) _
        exact kt)
      by_cases c19_3 : k = (2 : Int32)
      · have pre12 : ∀ t, Steps p.tables e below (s₁.setTop (mkF m 22 #[.val (.int k)] [])) t → Steps p.tables e below (s₁.setTop (entryFrame m #[(.int k)] 1)) t := fun t kt => pre11 t (by
          refine XS.icmpNo X0.here hx rfl (hb hby d1_19) rfl (teq c19_3).2 ?_
          show Steps p.tables e below (s₁.setTop (mkF m 22 #[.val (.int k)] [])) _
          exact kt)
        obtain ⟨T13, X13, e13, st13⟩ := getS2 X0 hx hZ hown (host := "") (Or.inl (hw _ (List.mem_of_getElem? (i := 23) rfl))) Via.refl e0 S_BIGINT (g := (mkF m 22 #[.val (.int k)] [])) rfl (hb hby d1_22)
        have pre14 : ∀ t, Steps p.tables e below (T13.setTop (mkF m 25 #[.val (.int k)] [(.ref w_BIGINT)])) t → Steps p.tables e below (s₁.setTop (entryFrame m #[(.int k)] 1)) t := fun t kt => pre12 t (st13 _ kt)
        obtain ⟨fs, hr, hrun, hended, hW, hsame⟩ := X13.leave (v := (some (.ref w_BIGINT))) (fun h => by rw [Bd.returns] at h; cases h)
        refine ⟨_, _, pre14 _ ?_, hrun, hended, _, _, rfl, ?_, ⟨_, rfl⟩, hW, hsame.mono (by decide) (by decide)⟩
        · exact retOut X13 hx Bd.returns rfl (Or.inr (Or.inr (Or.inr (Or.inr ⟨rfl, rfl, rfl⟩)))) (hb hby d1_25) hr
        · show QP Z k w_SMALLINT w_INTEGER w_BIGINT w_NUMERIC w_TEXT w_CHARACTER_VARYING w_BOOLEAN w_UNKNOWN h0 n0 _ T13.heap _
          rw [e13]
          exact ⟨(by rw [if_neg c1_1, if_neg c10_2, if_pos c19_3]), N0, rfl⟩
      · have pre16 : ∀ t, Steps p.tables e below (s₁.setTop (mkF m 28 #[.val (.int k)] [(.int (3 : Int32)), (.int k)])) t → Steps p.tables e below (s₁.setTop (entryFrame m #[(.int k)] 1)) t := fun t kt => pre11 t (by
          refine XS.icmpYes X0.here hx rfl (pc0 := 19) (pc' := 26) rfl (hb hby d1_19) rfl (feq c19_3).2 (by decide) (by decide) ?_
          show Steps p.tables e below (s₁.setTop (mkF m 26 #[.val (.int k)] [])) _
          refine XS.iloadN X0.here hx rfl (hb hby d1_26) rfl ?_
          show Steps p.tables e below (s₁.setTop (mkF m 27 #[.val (.int k)] [(.int k)])) _
          refine XS.iconst X0.here hx rfl (hb hby d1_27) ?_
          show Steps p.tables e below (s₁.setTop (mkF m 28 #[.val (.int k)] [(.int (3 : Int32)), (.int k)])) _
          exact kt)
        by_cases c28_4 : k = (3 : Int32)
        · have pre17 : ∀ t, Steps p.tables e below (s₁.setTop (mkF m 31 #[.val (.int k)] [])) t → Steps p.tables e below (s₁.setTop (entryFrame m #[(.int k)] 1)) t := fun t kt => pre16 t (by
            refine XS.icmpNo X0.here hx rfl (hb hby d1_28) rfl (teq c28_4).2 ?_
            show Steps p.tables e below (s₁.setTop (mkF m 31 #[.val (.int k)] [])) _
            exact kt)
          obtain ⟨T18, X18, e18, st18⟩ := getS2 X0 hx hZ hown (host := "") (Or.inl (hw _ (List.mem_of_getElem? (i := 17) rfl))) Via.refl e0 S_NUMERIC (g := (mkF m 31 #[.val (.int k)] [])) rfl (hb hby d1_31)
          have pre19 : ∀ t, Steps p.tables e below (T18.setTop (mkF m 34 #[.val (.int k)] [(.ref w_NUMERIC)])) t → Steps p.tables e below (s₁.setTop (entryFrame m #[(.int k)] 1)) t := fun t kt => pre17 t (st18 _ kt)
          obtain ⟨fs, hr, hrun, hended, hW, hsame⟩ := X18.leave (v := (some (.ref w_NUMERIC))) (fun h => by rw [Bd.returns] at h; cases h)
          refine ⟨_, _, pre19 _ ?_, hrun, hended, _, _, rfl, ?_, ⟨_, rfl⟩, hW, hsame.mono (by decide) (by decide)⟩
          · exact retOut X18 hx Bd.returns rfl (Or.inr (Or.inr (Or.inr (Or.inr ⟨rfl, rfl, rfl⟩)))) (hb hby d1_34) hr
          · show QP Z k w_SMALLINT w_INTEGER w_BIGINT w_NUMERIC w_TEXT w_CHARACTER_VARYING w_BOOLEAN w_UNKNOWN h0 n0 _ T18.heap _
            rw [e18]
            exact ⟨(by rw [if_neg c1_1, if_neg c10_2, if_neg c19_3, if_pos c28_4]), N0, rfl⟩
        · have pre21 : ∀ t, Steps p.tables e below (s₁.setTop (mkF m 37 #[.val (.int k)] [(.int (4 : Int32)), (.int k)])) t → Steps p.tables e below (s₁.setTop (entryFrame m #[(.int k)] 1)) t := fun t kt => pre16 t (by
            refine XS.icmpYes X0.here hx rfl (pc0 := 28) (pc' := 35) rfl (hb hby d1_28) rfl (feq c28_4).2 (by decide) (by decide) ?_
            show Steps p.tables e below (s₁.setTop (mkF m 35 #[.val (.int k)] [])) _
            refine XS.iloadN X0.here hx rfl (hb hby d1_35) rfl ?_
            show Steps p.tables e below (s₁.setTop (mkF m 36 #[.val (.int k)] [(.int k)])) _
            refine XS.iconst X0.here hx rfl (hb hby d1_36) ?_
            show Steps p.tables e below (s₁.setTop (mkF m 37 #[.val (.int k)] [(.int (4 : Int32)), (.int k)])) _
            exact kt)
          by_cases c37_5 : k = (4 : Int32)
          · have pre22 : ∀ t, Steps p.tables e below (s₁.setTop (mkF m 40 #[.val (.int k)] [])) t → Steps p.tables e below (s₁.setTop (entryFrame m #[(.int k)] 1)) t := fun t kt => pre21 t (by
              refine XS.icmpNo X0.here hx rfl (hb hby d1_37) rfl (teq c37_5).2 ?_
              show Steps p.tables e below (s₁.setTop (mkF m 40 #[.val (.int k)] [])) _
              exact kt)
            obtain ⟨T23, X23, e23, st23⟩ := getS2 X0 hx hZ hown (host := "") (Or.inl (hw _ (List.mem_of_getElem? (i := 27) rfl))) Via.refl e0 S_TEXT (g := (mkF m 40 #[.val (.int k)] [])) rfl (hb hby d1_40)
            have pre24 : ∀ t, Steps p.tables e below (T23.setTop (mkF m 43 #[.val (.int k)] [(.ref w_TEXT)])) t → Steps p.tables e below (s₁.setTop (entryFrame m #[(.int k)] 1)) t := fun t kt => pre22 t (st23 _ kt)
            obtain ⟨fs, hr, hrun, hended, hW, hsame⟩ := X23.leave (v := (some (.ref w_TEXT))) (fun h => by rw [Bd.returns] at h; cases h)
            refine ⟨_, _, pre24 _ ?_, hrun, hended, _, _, rfl, ?_, ⟨_, rfl⟩, hW, hsame.mono (by decide) (by decide)⟩
            · exact retOut X23 hx Bd.returns rfl (Or.inr (Or.inr (Or.inr (Or.inr ⟨rfl, rfl, rfl⟩)))) (hb hby d1_43) hr
            · show QP Z k w_SMALLINT w_INTEGER w_BIGINT w_NUMERIC w_TEXT w_CHARACTER_VARYING w_BOOLEAN w_UNKNOWN h0 n0 _ T23.heap _
              rw [e23]
              exact ⟨(by rw [if_neg c1_1, if_neg c10_2, if_neg c19_3, if_neg c28_4, if_pos c37_5]), N0, rfl⟩
          · have pre26 : ∀ t, Steps p.tables e below (s₁.setTop (mkF m 46 #[.val (.int k)] [(.int (5 : Int32)), (.int k)])) t → Steps p.tables e below (s₁.setTop (entryFrame m #[(.int k)] 1)) t := fun t kt => pre21 t (by
              refine XS.icmpYes X0.here hx rfl (pc0 := 37) (pc' := 44) rfl (hb hby d1_37) rfl (feq c37_5).2 (by decide) (by decide) ?_
              show Steps p.tables e below (s₁.setTop (mkF m 44 #[.val (.int k)] [])) _
              refine XS.iloadN X0.here hx rfl (hb hby d1_44) rfl ?_
              show Steps p.tables e below (s₁.setTop (mkF m 45 #[.val (.int k)] [(.int k)])) _
              refine XS.iconst X0.here hx rfl (hb hby d1_45) ?_
              show Steps p.tables e below (s₁.setTop (mkF m 46 #[.val (.int k)] [(.int (5 : Int32)), (.int k)])) _
              exact kt)
            by_cases c46_6 : k = (5 : Int32)
            · have pre27 : ∀ t, Steps p.tables e below (s₁.setTop (mkF m 49 #[.val (.int k)] [])) t → Steps p.tables e below (s₁.setTop (entryFrame m #[(.int k)] 1)) t := fun t kt => pre26 t (by
                refine XS.icmpNo X0.here hx rfl (hb hby d1_46) rfl (teq c46_6).2 ?_
                show Steps p.tables e below (s₁.setTop (mkF m 49 #[.val (.int k)] [])) _
                exact kt)
              obtain ⟨T28, X28, e28, st28⟩ := getS2 X0 hx hZ hown (host := "") (Or.inl (hw _ (List.mem_of_getElem? (i := 28) rfl))) Via.refl e0 S_CHARACTER_VARYING (g := (mkF m 49 #[.val (.int k)] [])) rfl (hb hby d1_49)
              have pre29 : ∀ t, Steps p.tables e below (T28.setTop (mkF m 52 #[.val (.int k)] [(.ref w_CHARACTER_VARYING)])) t → Steps p.tables e below (s₁.setTop (entryFrame m #[(.int k)] 1)) t := fun t kt => pre27 t (st28 _ kt)
              obtain ⟨fs, hr, hrun, hended, hW, hsame⟩ := X28.leave (v := (some (.ref w_CHARACTER_VARYING))) (fun h => by rw [Bd.returns] at h; cases h)
              refine ⟨_, _, pre29 _ ?_, hrun, hended, _, _, rfl, ?_, ⟨_, rfl⟩, hW, hsame.mono (by decide) (by decide)⟩
              · exact retOut X28 hx Bd.returns rfl (Or.inr (Or.inr (Or.inr (Or.inr ⟨rfl, rfl, rfl⟩)))) (hb hby d1_52) hr
              · show QP Z k w_SMALLINT w_INTEGER w_BIGINT w_NUMERIC w_TEXT w_CHARACTER_VARYING w_BOOLEAN w_UNKNOWN h0 n0 _ T28.heap _
                rw [e28]
                exact ⟨(by rw [if_neg c1_1, if_neg c10_2, if_neg c19_3, if_neg c28_4, if_neg c37_5, if_pos c46_6]), N0, rfl⟩
            · have pre31 : ∀ t, Steps p.tables e below (s₁.setTop (mkF m 56 #[.val (.int k)] [(.int (6 : Int32)), (.int k)])) t → Steps p.tables e below (s₁.setTop (entryFrame m #[(.int k)] 1)) t := fun t kt => pre26 t (by
                refine XS.icmpYes X0.here hx rfl (pc0 := 46) (pc' := 53) rfl (hb hby d1_46) rfl (feq c46_6).2 (by decide) (by decide) ?_
                show Steps p.tables e below (s₁.setTop (mkF m 53 #[.val (.int k)] [])) _
                refine XS.iloadN X0.here hx rfl (hb hby d1_53) rfl ?_
                show Steps p.tables e below (s₁.setTop (mkF m 54 #[.val (.int k)] [(.int k)])) _
                refine XS.bipush X0.here hx rfl (hb hby d1_54) ?_
                show Steps p.tables e below (s₁.setTop (mkF m 56 #[.val (.int k)] [(.int (6 : Int32)), (.int k)])) _
                exact kt)
              by_cases c56_7 : k = (6 : Int32)
              · have pre32 : ∀ t, Steps p.tables e below (s₁.setTop (mkF m 59 #[.val (.int k)] [])) t → Steps p.tables e below (s₁.setTop (entryFrame m #[(.int k)] 1)) t := fun t kt => pre31 t (by
                  refine XS.icmpNo X0.here hx rfl (hb hby d1_56) rfl (teq c56_7).2 ?_
                  show Steps p.tables e below (s₁.setTop (mkF m 59 #[.val (.int k)] [])) _
                  exact kt)
                obtain ⟨T33, X33, e33, st33⟩ := getS2 X0 hx hZ hown (host := "") (Or.inl (hw _ (List.mem_of_getElem? (i := 19) rfl))) Via.refl e0 S_BOOLEAN (g := (mkF m 59 #[.val (.int k)] [])) rfl (hb hby d1_59)
                have pre34 : ∀ t, Steps p.tables e below (T33.setTop (mkF m 62 #[.val (.int k)] [(.ref w_BOOLEAN)])) t → Steps p.tables e below (s₁.setTop (entryFrame m #[(.int k)] 1)) t := fun t kt => pre32 t (st33 _ kt)
                obtain ⟨fs, hr, hrun, hended, hW, hsame⟩ := X33.leave (v := (some (.ref w_BOOLEAN))) (fun h => by rw [Bd.returns] at h; cases h)
                refine ⟨_, _, pre34 _ ?_, hrun, hended, _, _, rfl, ?_, ⟨_, rfl⟩, hW, hsame.mono (by decide) (by decide)⟩
                · exact retOut X33 hx Bd.returns rfl (Or.inr (Or.inr (Or.inr (Or.inr ⟨rfl, rfl, rfl⟩)))) (hb hby d1_62) hr
                · show QP Z k w_SMALLINT w_INTEGER w_BIGINT w_NUMERIC w_TEXT w_CHARACTER_VARYING w_BOOLEAN w_UNKNOWN h0 n0 _ T33.heap _
                  rw [e33]
                  exact ⟨(by rw [if_neg c1_1, if_neg c10_2, if_neg c19_3, if_neg c28_4, if_neg c37_5, if_neg c46_6, if_pos c56_7]), N0, rfl⟩
              · have pre36 : ∀ t, Steps p.tables e below (s₁.setTop (mkF m 63 #[.val (.int k)] [])) t → Steps p.tables e below (s₁.setTop (entryFrame m #[(.int k)] 1)) t := fun t kt => pre31 t (by
                  refine XS.icmpYes X0.here hx rfl (pc0 := 56) (pc' := 63) rfl (hb hby d1_56) rfl (feq c56_7).2 (by decide) (by decide) ?_
                  show Steps p.tables e below (s₁.setTop (mkF m 63 #[.val (.int k)] [])) _
                  exact kt)
                obtain ⟨T37, X37, e37, st37⟩ := getS2 X0 hx hZ hown (host := "") (Or.inl (hw _ (List.mem_of_getElem? (i := 21) rfl))) Via.refl e0 S_UNKNOWN (g := (mkF m 63 #[.val (.int k)] [])) rfl (hb hby d1_63)
                have pre38 : ∀ t, Steps p.tables e below (T37.setTop (mkF m 66 #[.val (.int k)] [(.ref w_UNKNOWN)])) t → Steps p.tables e below (s₁.setTop (entryFrame m #[(.int k)] 1)) t := fun t kt => pre36 t (st37 _ kt)
                obtain ⟨fs, hr, hrun, hended, hW, hsame⟩ := X37.leave (v := (some (.ref w_UNKNOWN))) (fun h => by rw [Bd.returns] at h; cases h)
                refine ⟨_, _, pre38 _ ?_, hrun, hended, _, _, rfl, ?_, ⟨_, rfl⟩, hW, hsame.mono (by decide) (by decide)⟩
                · exact retOut X37 hx Bd.returns rfl (Or.inr (Or.inr (Or.inr (Or.inr ⟨rfl, rfl, rfl⟩)))) (hb hby d1_66) hr
                · show QP Z k w_SMALLINT w_INTEGER w_BIGINT w_NUMERIC w_TEXT w_CHARACTER_VARYING w_BOOLEAN w_UNKNOWN h0 n0 _ T37.heap _
                  rw [e37]
                  exact ⟨(by rw [if_neg c1_1, if_neg c10_2, if_neg c19_3, if_neg c28_4, if_neg c37_5, if_neg c46_6, if_neg c56_7]), N0, rfl⟩
def QS (Z : State) (a1 w_TEXT w_CHARACTER_VARYING : Addr) (h0 : Heap) (n0 : Nat) (v : Option Value) (h : Heap) (L : List Loc) : Prop := v = some (.int (if a1 = w_TEXT then (1 : Int32) else (if a1 = w_CHARACTER_VARYING then (1 : Int32) else (0 : Int32)))) ∧ Fr n0 L ∧ h = h0
theorem ef_rmS (m : MethodId) (x0 : Addr) : entryFrame m #[(.ref x0)] 1 = mkF m 0 #[.val (.ref x0)] [] := by first | (simp [entryFrame, mkF, argsToLocals, Value.category]; done) | rfl
theorem pn_com_example_terms_of_isolation_termsofisolation_SqlType : plainName "com/example/terms_of_isolation/termsofisolation/SqlType" = true := by first | (simp [plainName, overriddenIn]; done) | decide +kernel
theorem d2_0 : decode prog_134_method_9_code 0 = .ok (.aload_n 0, 1) := by decide +kernel
theorem d2_1 : decode prog_134_method_9_code 1 = .ok (.getstatic 18, 3) := by decide +kernel
theorem d2_4 : decode prog_134_method_9_code 4 = .ok (.if_acmp .eq 10, 3) := by decide +kernel
theorem d2_14 : decode prog_134_method_9_code 14 = .ok (.iconst 1, 1) := by decide +kernel
theorem d2_15 : decode prog_134_method_9_code 15 = .ok (.goto 4, 3) := by decide +kernel
theorem d2_19 : decode prog_134_method_9_code 19 = .ok (.ireturn, 1) := by decide +kernel
theorem d2_7 : decode prog_134_method_9_code 7 = .ok (.aload_n 0, 1) := by decide +kernel
theorem d2_8 : decode prog_134_method_9_code 8 = .ok (.getstatic 21, 3) := by decide +kernel
theorem d2_11 : decode prog_134_method_9_code 11 = .ok (.if_acmp .ne 7, 3) := by decide +kernel
theorem d2_18 : decode prog_134_method_9_code 18 = .ok (.iconst 0, 1) := by decide +kernel
set_option maxRecDepth 65536 in
set_option maxHeartbeats 40000000 in
theorem rmS (l : Launch) (Z : State) (a0 : Array Value) (hw : ∀ d ∈ tables_1, d.before a0 Z = true) (ws : List Jvm.Cond) (a1 w_TEXT w_CHARACTER_VARYING : Addr) (h0 : Heap) (n0 : Nat) (Z0 : n0 ≤ h0.size) (S_TEXT : Sta Z h0 "com/example/terms_of_isolation/termsofisolation/SqlType" "TEXT" "Lcom/example/terms_of_isolation/termsofisolation/SqlType;" (.ref w_TEXT)) (S_CHARACTER_VARYING : Sta Z h0 "com/example/terms_of_isolation/termsofisolation/SqlType" "CHARACTER_VARYING" "Lcom/example/terms_of_isolation/termsofisolation/SqlType;" (.ref w_CHARACTER_VARYING)) :
    MetFree l (⟨"com/example/terms_of_isolation/termsofisolation/SqlType", "isString", "()Z"⟩ : MethodName) (head1 (Jvm.Cond.code (⟨"com/example/terms_of_isolation/termsofisolation/SqlType", "isString", "()Z"⟩ : MethodName) prog_134_method_9_code 1 (some .boolean) :: ws) ({ frames := 0, cells := 0, slots := 0, locals := 0 } : Room)) (fun a U => a = #[(.ref a1)] ∧ Z.Warmed39 U.vm ∧ U.heap = h0) (fun _ _ _ _ _ => True) (fun _ U o U' => ∃ v L, o = .returned v ∧ QS Z a1 w_TEXT w_CHARACTER_VARYING h0 n0 v U'.heap L ∧ FrameEnd U o U' L ({ frames := 0, cells := 0, slots := 0, locals := 0 } : Room).cells ({ frames := 0, cells := 0, slots := 0, locals := 0 } : Room).slots) := by
  refine MetFree.of_bodySF (plainFor_of_name pn_com_example_terms_of_isolation_termsofisolation_SqlType) hisR ?_
  intro p e s m args below meth c s₁ Bd hml0 hP hK
  obtain ⟨rfl, hZ, hh⟩ := hP
  have hx := Bd.exec
  have hby := Bd.bytes
  have hml : c.maxLocals = 1 := hml0
  have hown : s.vm.findClass "com/example/terms_of_isolation/termsofisolation/SqlType" = some m.cls := findClass_of_methodNamed Bd.named
  have hnm := (name_of_methodNamed Bd.named Bd.method).1
  have X0 : Stand p l e ({ frames := 0, cells := 0, slots := 0, locals := 0 } : Room) s m #[(.ref a1)] below meth c s₁ [] 0 0 := Stand.of_body Bd
  have e0 : s₁.heap = h0 := by rw [← hh, Bd.state]; rfl
  have N0 := Fr.nil n0
  have pre0 : ∀ t, Steps p.tables e below (s₁.setTop (mkF m 0 #[.val (.ref a1)] [])) t → Steps p.tables e below (s₁.setTop (entryFrame m #[(.ref a1)] 1)) t := fun t kt => castTop (ef_rmS m a1) kt
  have pre1 : ∀ t, Steps p.tables e below (s₁.setTop (mkF m 1 #[.val (.ref a1)] [(.ref a1)])) t → Steps p.tables e below (s₁.setTop (entryFrame m #[(.ref a1)] 1)) t := fun t kt => pre0 t (by
    refine XS.aloadN X0.here hx rfl (hb hby d2_0) rfl rfl ?_
    show Steps p.tables e below (s₁.setTop (mkF m 1 #[.val (.ref a1)] [(.ref a1)])) _
    exact kt)
  obtain ⟨T2, X2, e2, st2⟩ := getS2 X0 hx hZ hown (host := "") (Or.inl (hw _ (List.mem_of_getElem? (i := 13) rfl))) Via.refl e0 S_TEXT (g := (mkF m 1 #[.val (.ref a1)] [(.ref a1)])) rfl (hb hby d2_1)
  have pre3 : ∀ t, Steps p.tables e below (T2.setTop (mkF m 4 #[.val (.ref a1)] [(.ref w_TEXT), (.ref a1)])) t → Steps p.tables e below (s₁.setTop (entryFrame m #[(.ref a1)] 1)) t := fun t kt => pre1 t (st2 _ kt)
  by_cases c4_1 : a1 = w_TEXT
  · have pre4 : ∀ t, Steps p.tables e below (T2.setTop (mkF m 19 #[.val (.ref a1)] [(.int (1 : Int32))])) t → Steps p.tables e below (s₁.setTop (entryFrame m #[(.ref a1)] 1)) t := fun t kt => pre3 t (by
      refine Jvm.RoadKit.acmp (g := (mkF m 4 #[.val (.ref a1)] [(.ref w_TEXT), (.ref a1)])) X2 hx rfl rfl rfl (pc0 := 4) (pc' := 14) (same := true) rfl (hb hby d2_4) rfl (decide_eq_true (congrArg Value.ref c4_1)) (by decide) (by decide) ?_
      show Steps p.tables e below (T2.setTop (mkF m 14 #[.val (.ref a1)] [])) _
      refine XS.iconst X2.here hx rfl (hb hby d2_14) ?_
      show Steps p.tables e below (T2.setTop (mkF m 15 #[.val (.ref a1)] [(.int (1 : Int32))])) _
      refine XS.goto X2.here hx rfl (pc0 := 15) (pc' := 19) rfl (hb hby d2_15) (by decide) (by decide) ?_
      show Steps p.tables e below (T2.setTop (mkF m 19 #[.val (.ref a1)] [(.int (1 : Int32))])) _
      exact kt)
    obtain ⟨fs, hr, hrun, hended, hW, hsame⟩ := X2.leave (v := (some (.int (1 : Int32)))) (fun h => by rw [Bd.returns] at h; cases h)
    refine ⟨_, _, pre4 _ ?_, hrun, hended, _, _, rfl, ?_, ⟨_, rfl⟩, hW, hsame.mono (by decide) (by decide)⟩
    · exact retN X2 hx (t := .boolean) Bd.returns (by simp) (hb hby d2_19) hr
    · show QS Z a1 w_TEXT w_CHARACTER_VARYING h0 n0 _ T2.heap _
      rw [e2]
      exact ⟨(by rw [if_pos c4_1]), N0, rfl⟩
  · have pre6 : ∀ t, Steps p.tables e below (T2.setTop (mkF m 8 #[.val (.ref a1)] [(.ref a1)])) t → Steps p.tables e below (s₁.setTop (entryFrame m #[(.ref a1)] 1)) t := fun t kt => pre3 t (by
      refine Jvm.RoadKit.acmp (g := (mkF m 4 #[.val (.ref a1)] [(.ref w_TEXT), (.ref a1)])) X2 hx rfl rfl rfl (pc0 := 4) (pc' := 7) (same := false) rfl (hb hby d2_4) rfl (decide_eq_false fun q => c4_1 (Value.ref.inj q)) (by decide) (by decide) ?_
      show Steps p.tables e below (T2.setTop (mkF m 7 #[.val (.ref a1)] [])) _
      refine XS.aloadN X2.here hx rfl (hb hby d2_7) rfl rfl ?_
      show Steps p.tables e below (T2.setTop (mkF m 8 #[.val (.ref a1)] [(.ref a1)])) _
      exact kt)
    obtain ⟨T7, X7, e7, st7⟩ := getS2 X2 hx hZ hown (host := "") (Or.inl (hw _ (List.mem_of_getElem? (i := 15) rfl))) Via.refl e2 S_CHARACTER_VARYING (g := (mkF m 8 #[.val (.ref a1)] [(.ref a1)])) rfl (hb hby d2_8)
    have pre8 : ∀ t, Steps p.tables e below (T7.setTop (mkF m 11 #[.val (.ref a1)] [(.ref w_CHARACTER_VARYING), (.ref a1)])) t → Steps p.tables e below (s₁.setTop (entryFrame m #[(.ref a1)] 1)) t := fun t kt => pre6 t (st7 _ kt)
    by_cases c11_2 : a1 = w_CHARACTER_VARYING
    · have pre9 : ∀ t, Steps p.tables e below (T7.setTop (mkF m 19 #[.val (.ref a1)] [(.int (1 : Int32))])) t → Steps p.tables e below (s₁.setTop (entryFrame m #[(.ref a1)] 1)) t := fun t kt => pre8 t (by
        refine Jvm.RoadKit.acmp (g := (mkF m 11 #[.val (.ref a1)] [(.ref w_CHARACTER_VARYING), (.ref a1)])) X7 hx rfl rfl rfl (pc0 := 11) (pc' := 14) (same := true) rfl (hb hby d2_11) rfl (decide_eq_true (congrArg Value.ref c11_2)) (by decide) (by decide) ?_
        show Steps p.tables e below (T7.setTop (mkF m 14 #[.val (.ref a1)] [])) _
        refine XS.iconst X7.here hx rfl (hb hby d2_14) ?_
        show Steps p.tables e below (T7.setTop (mkF m 15 #[.val (.ref a1)] [(.int (1 : Int32))])) _
        refine XS.goto X7.here hx rfl (pc0 := 15) (pc' := 19) rfl (hb hby d2_15) (by decide) (by decide) ?_
        show Steps p.tables e below (T7.setTop (mkF m 19 #[.val (.ref a1)] [(.int (1 : Int32))])) _
        exact kt)
      obtain ⟨fs, hr, hrun, hended, hW, hsame⟩ := X7.leave (v := (some (.int (1 : Int32)))) (fun h => by rw [Bd.returns] at h; cases h)
      refine ⟨_, _, pre9 _ ?_, hrun, hended, _, _, rfl, ?_, ⟨_, rfl⟩, hW, hsame.mono (by decide) (by decide)⟩
      · exact retN X7 hx (t := .boolean) Bd.returns (by simp) (hb hby d2_19) hr
      · show QS Z a1 w_TEXT w_CHARACTER_VARYING h0 n0 _ T7.heap _
        rw [e7]
        exact ⟨(by rw [if_neg c4_1, if_pos c11_2]), N0, rfl⟩
    · have pre11 : ∀ t, Steps p.tables e below (T7.setTop (mkF m 19 #[.val (.ref a1)] [(.int (0 : Int32))])) t → Steps p.tables e below (s₁.setTop (entryFrame m #[(.ref a1)] 1)) t := fun t kt => pre8 t (by
        refine Jvm.RoadKit.acmp (g := (mkF m 11 #[.val (.ref a1)] [(.ref w_CHARACTER_VARYING), (.ref a1)])) X7 hx rfl rfl rfl (pc0 := 11) (pc' := 18) (same := false) rfl (hb hby d2_11) rfl (decide_eq_false fun q => c11_2 (Value.ref.inj q)) (by decide) (by decide) ?_
        show Steps p.tables e below (T7.setTop (mkF m 18 #[.val (.ref a1)] [])) _
        refine XS.iconst X7.here hx rfl (hb hby d2_18) ?_
        show Steps p.tables e below (T7.setTop (mkF m 19 #[.val (.ref a1)] [(.int (0 : Int32))])) _
        exact kt)
      obtain ⟨fs, hr, hrun, hended, hW, hsame⟩ := X7.leave (v := (some (.int (0 : Int32)))) (fun h => by rw [Bd.returns] at h; cases h)
      refine ⟨_, _, pre11 _ ?_, hrun, hended, _, _, rfl, ?_, ⟨_, rfl⟩, hW, hsame.mono (by decide) (by decide)⟩
      · exact retN X7 hx (t := .boolean) Bd.returns (by simp) (hb hby d2_19) hr
      · show QS Z a1 w_TEXT w_CHARACTER_VARYING h0 n0 _ T7.heap _
        rw [e7]
        exact ⟨(by rw [if_neg c4_1, if_neg c11_2]), N0, rfl⟩
def Q0 (Z : State) (h0 : Heap) (n0 : Nat) (v : Option Value) (h : Heap) (L : List Loc) : Prop := v = some (.int (1 : Int32)) ∧ Fr n0 L
theorem ef_rm0 (m : MethodId) (x0 : Int32) : entryFrame m #[(.int x0)] maxLocals = mkF m 0 #[.val (.int x0), .unset, .unset, .unset] [] := by first | (simp [entryFrame, mkF, argsToLocals, Value.category, maxLocals]; done) | rfl
theorem pd__28I_29Lcom_2fexample_2fterms_of_isolation_2ftermsofisolation_2fSqlType_3b : parseMethodDescriptor "(I)Lcom/example/terms_of_isolation/termsofisolation/SqlType;" = some ⟨[.int], some (.object "com/example/terms_of_isolation/termsofisolation/SqlType")⟩ := by decide +kernel
theorem pd__28_29Z : parseMethodDescriptor "()Z" = some ⟨[], some .boolean⟩ := by decide +kernel
set_option maxRecDepth 65536 in
set_option maxHeartbeats 40000000 in
theorem rm0 (l : Launch) (Z : State) (a0 : Array Value) (hw : ∀ d ∈ tables_1, d.before a0 Z = true) (ws : List Jvm.Cond) (p1 : Int32) (w_SMALLINT w_INTEGER w_BIGINT w_NUMERIC w_TEXT w_CHARACTER_VARYING w_BOOLEAN w_UNKNOWN : Addr) (h0 : Heap) (n0 : Nat) (Z0 : n0 ≤ h0.size) (S_SMALLINT : Sta Z h0 "com/example/terms_of_isolation/termsofisolation/SqlType" "SMALLINT" "Lcom/example/terms_of_isolation/termsofisolation/SqlType;" (.ref w_SMALLINT)) (S_INTEGER : Sta Z h0 "com/example/terms_of_isolation/termsofisolation/SqlType" "INTEGER" "Lcom/example/terms_of_isolation/termsofisolation/SqlType;" (.ref w_INTEGER)) (S_BIGINT : Sta Z h0 "com/example/terms_of_isolation/termsofisolation/SqlType" "BIGINT" "Lcom/example/terms_of_isolation/termsofisolation/SqlType;" (.ref w_BIGINT)) (S_NUMERIC : Sta Z h0 "com/example/terms_of_isolation/termsofisolation/SqlType" "NUMERIC" "Lcom/example/terms_of_isolation/termsofisolation/SqlType;" (.ref w_NUMERIC)) (S_TEXT : Sta Z h0 "com/example/terms_of_isolation/termsofisolation/SqlType" "TEXT" "Lcom/example/terms_of_isolation/termsofisolation/SqlType;" (.ref w_TEXT)) (S_CHARACTER_VARYING : Sta Z h0 "com/example/terms_of_isolation/termsofisolation/SqlType" "CHARACTER_VARYING" "Lcom/example/terms_of_isolation/termsofisolation/SqlType;" (.ref w_CHARACTER_VARYING)) (S_BOOLEAN : Sta Z h0 "com/example/terms_of_isolation/termsofisolation/SqlType" "BOOLEAN" "Lcom/example/terms_of_isolation/termsofisolation/SqlType;" (.ref w_BOOLEAN)) (S_UNKNOWN : Sta Z h0 "com/example/terms_of_isolation/termsofisolation/SqlType" "UNKNOWN" "Lcom/example/terms_of_isolation/termsofisolation/SqlType;" (.ref w_UNKNOWN)) (E_SMALLINT : Exa Z h0 w_SMALLINT "com/example/terms_of_isolation/termsofisolation/SqlType") (E_INTEGER : Exa Z h0 w_INTEGER "com/example/terms_of_isolation/termsofisolation/SqlType") (E_BIGINT : Exa Z h0 w_BIGINT "com/example/terms_of_isolation/termsofisolation/SqlType") (E_NUMERIC : Exa Z h0 w_NUMERIC "com/example/terms_of_isolation/termsofisolation/SqlType") (E_TEXT : Exa Z h0 w_TEXT "com/example/terms_of_isolation/termsofisolation/SqlType") (E_CHARACTER_VARYING : Exa Z h0 w_CHARACTER_VARYING "com/example/terms_of_isolation/termsofisolation/SqlType") (E_BOOLEAN : Exa Z h0 w_BOOLEAN "com/example/terms_of_isolation/termsofisolation/SqlType") (E_UNKNOWN : Exa Z h0 w_UNKNOWN "com/example/terms_of_isolation/termsofisolation/SqlType") (n_SMALLINT_TEXT : w_SMALLINT ≠ w_TEXT) (n_INTEGER_TEXT : w_INTEGER ≠ w_TEXT) (n_BIGINT_TEXT : w_BIGINT ≠ w_TEXT) (n_NUMERIC_TEXT : w_NUMERIC ≠ w_TEXT) (n_CHARACTER_VARYING_TEXT : w_CHARACTER_VARYING ≠ w_TEXT) (n_BOOLEAN_TEXT : w_BOOLEAN ≠ w_TEXT) (n_UNKNOWN_TEXT : w_UNKNOWN ≠ w_TEXT) (n_SMALLINT_CHARACTER_VARYING : w_SMALLINT ≠ w_CHARACTER_VARYING) (n_INTEGER_CHARACTER_VARYING : w_INTEGER ≠ w_CHARACTER_VARYING) (n_BIGINT_CHARACTER_VARYING : w_BIGINT ≠ w_CHARACTER_VARYING) (n_NUMERIC_CHARACTER_VARYING : w_NUMERIC ≠ w_CHARACTER_VARYING) (n_TEXT_CHARACTER_VARYING : w_TEXT ≠ w_CHARACTER_VARYING) (n_BOOLEAN_CHARACTER_VARYING : w_BOOLEAN ≠ w_CHARACTER_VARYING) (n_UNKNOWN_CHARACTER_VARYING : w_UNKNOWN ≠ w_CHARACTER_VARYING) :
    MetFree l x (head1 (Jvm.Cond.code x code maxLocals ret :: ws) room_1) (fun a U => a = #[(.int p1)] ∧ Z.Warmed39 U.vm ∧ U.heap = h0) (fun _ _ _ _ _ => True) (fun _ U o U' => ∃ v L, o = .returned v ∧ Q0 Z  h0 n0 v U'.heap L ∧ FrameEnd U o U' L room_1.cells room_1.slots) := by
  refine MetFree.of_bodySF (plainFor_of_name pn_com_example_terms_of_isolation_termsofisolation_SqlTypeIsStringPinLaw) hisR ?_
  intro p e s m args below meth c s₁ Bd hml0 hP hK
  obtain ⟨rfl, hZ, hh⟩ := hP
  have hx := Bd.exec
  have hby := Bd.bytes
  have hml : c.maxLocals = 4 := hml0
  have hown : s.vm.findClass "com/example/terms_of_isolation/termsofisolation/SqlTypeIsStringPinLaw" = some m.cls := findClass_of_methodNamed Bd.named
  have hnm := (name_of_methodNamed Bd.named Bd.method).1
  have X0 : Stand p l e room_1 s m #[(.int p1)] below meth c s₁ [] 0 0 := Stand.of_body Bd
  have e0 : s₁.heap = h0 := by rw [← hh, Bd.state]; rfl
  have N0 := Fr.nil n0
  have pre0 : ∀ t, Steps p.tables e below (s₁.setTop (mkF m 0 #[.val (.int p1), .unset, .unset, .unset] [])) t → Steps p.tables e below (s₁.setTop (entryFrame m #[(.int p1)] maxLocals)) t := fun t kt => castTop (ef_rm0 m p1) kt
  have pre1 : ∀ t, Steps p.tables e below (s₁.setTop (mkF m 8 #[.val (.int p1), .val (.int ((p1 &&& (2147483647 : Int32)) % (8 : Int32))), .unset, .unset] [])) t → Steps p.tables e below (s₁.setTop (entryFrame m #[(.int p1)] maxLocals)) t := fun t kt => pre0 t (by
    refine XS.iloadN X0.here hx rfl (hb hby at_0) rfl ?_
    show Steps p.tables e below (s₁.setTop (mkF m 1 #[.val (.int p1), .unset, .unset, .unset] [(.int p1)])) _
    refine X0.ldcInt hx hown (mvT hZ (hw _ (List.mem_of_getElem? (i := 0) rfl))) (g := (mkF m 1 #[.val (.int p1), .unset, .unset, .unset] [(.int p1)])) rfl (hb hby at_1) _ ?_
    show Steps p.tables e below (s₁.setTop (mkF m 3 #[.val (.int p1), .unset, .unset, .unset] [(.int (2147483647 : Int32)), (.int p1)])) _
    refine XS.iand X0.here hx rfl (hb hby at_3) rfl ?_
    show Steps p.tables e below (s₁.setTop (mkF m 4 #[.val (.int p1), .unset, .unset, .unset] [(.int (p1 &&& (2147483647 : Int32)))])) _
    refine XS.bipush X0.here hx rfl (hb hby at_4) ?_
    show Steps p.tables e below (s₁.setTop (mkF m 6 #[.val (.int p1), .unset, .unset, .unset] [(.int (8 : Int32)), (.int (p1 &&& (2147483647 : Int32)))])) _
    refine iremM X0 hx rfl (hb hby at_6) rfl (by decide) ?_
    show Steps p.tables e below (s₁.setTop (mkF m 7 #[.val (.int p1), .unset, .unset, .unset] [(.int ((p1 &&& (2147483647 : Int32)) % (8 : Int32)))])) _
    refine XS.istoreN X0.here hx rfl (hb hby at_7) rfl (l' := #[.val (.int p1), .val (.int ((p1 &&& (2147483647 : Int32)) % (8 : Int32))), .unset, .unset]) rfl ?_
    show Steps p.tables e below (s₁.setTop (mkF m 8 #[.val (.int p1), .val (.int ((p1 &&& (2147483647 : Int32)) % (8 : Int32))), .unset, .unset] [])) _
    exact kt)
  obtain ⟨k, hk⟩ : ∃ z, z = ((p1 &&& (2147483647 : Int32)) % (8 : Int32)) := ⟨_, rfl⟩
  have pre2 : ∀ t, Steps p.tables e below (s₁.setTop (mkF m 8 #[.val (.int p1), .val (.int k), .unset, .unset] [])) t → Steps p.tables e below (s₁.setTop (entryFrame m #[(.int p1)] maxLocals)) t := by
    rw [hk]; exact pre1
  have pre3 : ∀ t, Steps p.tables e below (s₁.setTop (mkF m 9 #[.val (.int p1), .val (.int k), .unset, .unset] [(.int k)])) t → Steps p.tables e below (s₁.setTop (entryFrame m #[(.int p1)] maxLocals)) t := fun t kt => pre2 t (by
    refine XS.iloadN X0.here hx rfl (hb hby at_8) rfl ?_
    show Steps p.tables e below (s₁.setTop (mkF m 9 #[.val (.int p1), .val (.int k), .unset, .unset] [(.int k)])) _
    exact kt)
  obtain ⟨_, _, ⟨T4, L4, k4, n4⟩, -, X4, ⟨Lc4, hQ4, l4, y4, z4⟩, st4⟩ := Jvm.LawKit.callS X0 hx (y := (⟨"com/example/terms_of_isolation/termsofisolation/SqlTypeIsStringPinLaw", "pick", "(I)Lcom/example/terms_of_isolation/termsofisolation/SqlType;"⟩ : MethodName)) hown (mvT hZ (hw _ (List.mem_of_getElem? (i := 1) rfl))) (mvT hZ (hw _ (List.mem_of_getElem? (i := 2) rfl))) (mvT hZ (hw _ (List.mem_of_getElem? (i := 3) rfl))) (mvT hZ (hw _ (List.mem_of_getElem? (i := 4) rfl))) (by decide) (backOf (W := 0) (rmP l Z a0 hw [] k w_SMALLINT w_INTEGER w_BIGINT w_NUMERIC w_TEXT w_CHARACTER_VARYING w_BOOLEAN w_UNKNOWN h0 n0 Z0 S_SMALLINT S_INTEGER S_BIGINT S_NUMERIC S_TEXT S_CHARACTER_VARYING S_BOOLEAN S_UNKNOWN) hZ (hw _ (List.mem_of_getElem? (i := 4) rfl)) (hw _ (List.mem_of_getElem? (i := 3) rfl)) (by decide) (by decide)) (g := (mkF m 9 #[.val (.int p1), .val (.int k), .unset, .unset] [(.int k)])) rfl (by rw [hml]; rfl) (argsL := [(.int k)]) (rest := []) (lenOf pd__28I_29Lcom_2fexample_2fterms_of_isolation_2ftermsofisolation_2fSqlType_3b rfl) rfl (by show 2 * 0 + _ ≤ _; exact Nat.le_of_eq rfl) (hb hby at_9) (fun _ _ => ⟨rfl, e0, (by decide : 0 + 0 ≤ _), (by decide : 0 + 0 ≤ _)⟩)
  dsimp only [Pt.U, Pt.locs, Pt.cells, Pt.slots] at X4 l4 y4 z4 st4 hQ4
  subst l4 y4 z4
  obtain ⟨rfl, N4q, e4q⟩ := hQ4
  have N4 := Fr.app N0 N4q
  have pre5 : ∀ t, Steps p.tables e below (T4.setTop (mkF m 12 #[.val (.int p1), .val (.int k), .unset, .unset] [(.ref (if k = (0 : Int32) then w_SMALLINT else (if k = (1 : Int32) then w_INTEGER else (if k = (2 : Int32) then w_BIGINT else (if k = (3 : Int32) then w_NUMERIC else (if k = (4 : Int32) then w_TEXT else (if k = (5 : Int32) then w_CHARACTER_VARYING else (if k = (6 : Int32) then w_BOOLEAN else w_UNKNOWN))))))))])) t → Steps p.tables e below (s₁.setTop (entryFrame m #[(.int p1)] maxLocals)) t := fun t kt => pre3 t (st4 _ kt)
  have pre6 : ∀ t, Steps p.tables e below (T4.setTop (mkF m 13 #[.val (.int p1), .val (.int k), .val (.ref (if k = (0 : Int32) then w_SMALLINT else (if k = (1 : Int32) then w_INTEGER else (if k = (2 : Int32) then w_BIGINT else (if k = (3 : Int32) then w_NUMERIC else (if k = (4 : Int32) then w_TEXT else (if k = (5 : Int32) then w_CHARACTER_VARYING else (if k = (6 : Int32) then w_BOOLEAN else w_UNKNOWN)))))))), .unset] [])) t → Steps p.tables e below (s₁.setTop (entryFrame m #[(.int p1)] maxLocals)) t := fun t kt => pre5 t (by
    refine XS.astoreN X4.here hx rfl (hb hby at_12) rfl rfl (l' := #[.val (.int p1), .val (.int k), .val (.ref (if k = (0 : Int32) then w_SMALLINT else (if k = (1 : Int32) then w_INTEGER else (if k = (2 : Int32) then w_BIGINT else (if k = (3 : Int32) then w_NUMERIC else (if k = (4 : Int32) then w_TEXT else (if k = (5 : Int32) then w_CHARACTER_VARYING else (if k = (6 : Int32) then w_BOOLEAN else w_UNKNOWN)))))))), .unset]) rfl ?_
    show Steps p.tables e below (T4.setTop (mkF m 13 #[.val (.int p1), .val (.int k), .val (.ref (if k = (0 : Int32) then w_SMALLINT else (if k = (1 : Int32) then w_INTEGER else (if k = (2 : Int32) then w_BIGINT else (if k = (3 : Int32) then w_NUMERIC else (if k = (4 : Int32) then w_TEXT else (if k = (5 : Int32) then w_CHARACTER_VARYING else (if k = (6 : Int32) then w_BOOLEAN else w_UNKNOWN)))))))), .unset] [])) _
    exact kt)
  have E_ob : Exa Z h0 (if k = (0 : Int32) then w_SMALLINT else (if k = (1 : Int32) then w_INTEGER else (if k = (2 : Int32) then w_BIGINT else (if k = (3 : Int32) then w_NUMERIC else (if k = (4 : Int32) then w_TEXT else (if k = (5 : Int32) then w_CHARACTER_VARYING else (if k = (6 : Int32) then w_BOOLEAN else w_UNKNOWN))))))) "com/example/terms_of_isolation/termsofisolation/SqlType" := by (repeat' split) <;> assumption
  obtain ⟨ob, hob⟩ : ∃ z, z = (if k = (0 : Int32) then w_SMALLINT else (if k = (1 : Int32) then w_INTEGER else (if k = (2 : Int32) then w_BIGINT else (if k = (3 : Int32) then w_NUMERIC else (if k = (4 : Int32) then w_TEXT else (if k = (5 : Int32) then w_CHARACTER_VARYING else (if k = (6 : Int32) then w_BOOLEAN else w_UNKNOWN))))))) := ⟨_, rfl⟩
  have pre7 : ∀ t, Steps p.tables e below (T4.setTop (mkF m 13 #[.val (.int p1), .val (.int k), .val (.ref ob), .unset] [])) t → Steps p.tables e below (s₁.setTop (entryFrame m #[(.int p1)] maxLocals)) t := by
    rw [hob]; exact pre6
  rw [← hob] at E_ob
  have pre8 : ∀ t, Steps p.tables e below (T4.setTop (mkF m 15 #[.val (.int p1), .val (.int k), .val (.ref ob), .unset] [(.int (4 : Int32)), (.int k)])) t → Steps p.tables e below (s₁.setTop (entryFrame m #[(.int p1)] maxLocals)) t := fun t kt => pre7 t (by
    refine XS.iloadN X4.here hx rfl (hb hby at_13) rfl ?_
    show Steps p.tables e below (T4.setTop (mkF m 14 #[.val (.int p1), .val (.int k), .val (.ref ob), .unset] [(.int k)])) _
    refine XS.iconst X4.here hx rfl (hb hby at_14) ?_
    show Steps p.tables e below (T4.setTop (mkF m 15 #[.val (.int p1), .val (.int k), .val (.ref ob), .unset] [(.int (4 : Int32)), (.int k)])) _
    exact kt)
  have pre9 : ∀ t, Steps p.tables e below (T4.setTop (mkF m 28 #[.val (.int p1), .val (.int k), .val (.ref ob), .unset] [(.int (if k = (4 : Int32) then (1 : Int32) else (if k = (5 : Int32) then (1 : Int32) else (0 : Int32))))])) t → Steps p.tables e below (s₁.setTop (entryFrame m #[(.int p1)] maxLocals)) t := fun t kt => pre8 t (by
    by_cases c15_1 : k = (4 : Int32)
    · rw [if_pos c15_1] at kt
      refine XS.icmpYes X4.here hx rfl (pc0 := 15) (pc' := 23) rfl (hb hby at_15) rfl (teq c15_1).1 (by decide) (by decide) ?_
      show Steps p.tables e below (T4.setTop (mkF m 23 #[.val (.int p1), .val (.int k), .val (.ref ob), .unset] [])) _
      refine XS.iconst X4.here hx rfl (hb hby at_23) ?_
      show Steps p.tables e below (T4.setTop (mkF m 24 #[.val (.int p1), .val (.int k), .val (.ref ob), .unset] [(.int (1 : Int32))])) _
      refine XS.goto X4.here hx rfl (pc0 := 24) (pc' := 28) rfl (hb hby at_24) (by decide) (by decide) ?_
      show Steps p.tables e below (T4.setTop (mkF m 28 #[.val (.int p1), .val (.int k), .val (.ref ob), .unset] [(.int (1 : Int32))])) _
      exact kt
    · rw [if_neg c15_1] at kt
      refine XS.icmpNo X4.here hx rfl (hb hby at_15) rfl (feq c15_1).1 ?_
      show Steps p.tables e below (T4.setTop (mkF m 18 #[.val (.int p1), .val (.int k), .val (.ref ob), .unset] [])) _
      refine XS.iloadN X4.here hx rfl (hb hby at_18) rfl ?_
      show Steps p.tables e below (T4.setTop (mkF m 19 #[.val (.int p1), .val (.int k), .val (.ref ob), .unset] [(.int k)])) _
      refine XS.iconst X4.here hx rfl (hb hby at_19) ?_
      show Steps p.tables e below (T4.setTop (mkF m 20 #[.val (.int p1), .val (.int k), .val (.ref ob), .unset] [(.int (5 : Int32)), (.int k)])) _
      by_cases c20_2 : k = (5 : Int32)
      · rw [if_pos c20_2] at kt
        refine XS.icmpNo X4.here hx rfl (hb hby at_20) rfl (teq c20_2).2 ?_
        show Steps p.tables e below (T4.setTop (mkF m 23 #[.val (.int p1), .val (.int k), .val (.ref ob), .unset] [])) _
        refine XS.iconst X4.here hx rfl (hb hby at_23) ?_
        show Steps p.tables e below (T4.setTop (mkF m 24 #[.val (.int p1), .val (.int k), .val (.ref ob), .unset] [(.int (1 : Int32))])) _
        refine XS.goto X4.here hx rfl (pc0 := 24) (pc' := 28) rfl (hb hby at_24) (by decide) (by decide) ?_
        show Steps p.tables e below (T4.setTop (mkF m 28 #[.val (.int p1), .val (.int k), .val (.ref ob), .unset] [(.int (1 : Int32))])) _
        exact kt
      · rw [if_neg c20_2] at kt
        refine XS.icmpYes X4.here hx rfl (pc0 := 20) (pc' := 27) rfl (hb hby at_20) rfl (feq c20_2).2 (by decide) (by decide) ?_
        show Steps p.tables e below (T4.setTop (mkF m 27 #[.val (.int p1), .val (.int k), .val (.ref ob), .unset] [])) _
        refine XS.iconst X4.here hx rfl (hb hby at_27) ?_
        show Steps p.tables e below (T4.setTop (mkF m 28 #[.val (.int p1), .val (.int k), .val (.ref ob), .unset] [(.int (0 : Int32))])) _
        exact kt)
  have pre10 : ∀ t, Steps p.tables e below (T4.setTop (mkF m 30 #[.val (.int p1), .val (.int k), .val (.ref ob), .val (.int (if k = (4 : Int32) then (1 : Int32) else (if k = (5 : Int32) then (1 : Int32) else (0 : Int32))))] [(.ref ob)])) t → Steps p.tables e below (s₁.setTop (entryFrame m #[(.int p1)] maxLocals)) t := fun t kt => pre9 t (by
    refine XS.istoreN X4.here hx rfl (hb hby at_28) rfl (l' := #[.val (.int p1), .val (.int k), .val (.ref ob), .val (.int (if k = (4 : Int32) then (1 : Int32) else (if k = (5 : Int32) then (1 : Int32) else (0 : Int32))))]) rfl ?_
    show Steps p.tables e below (T4.setTop (mkF m 29 #[.val (.int p1), .val (.int k), .val (.ref ob), .val (.int (if k = (4 : Int32) then (1 : Int32) else (if k = (5 : Int32) then (1 : Int32) else (0 : Int32))))] [])) _
    refine XS.aloadN X4.here hx rfl (hb hby at_29) rfl rfl ?_
    show Steps p.tables e below (T4.setTop (mkF m 30 #[.val (.int p1), .val (.int k), .val (.ref ob), .val (.int (if k = (4 : Int32) then (1 : Int32) else (if k = (5 : Int32) then (1 : Int32) else (0 : Int32))))] [(.ref ob)])) _
    exact kt)
  obtain ⟨cq11, kq11, q11a, q11b, q11c⟩ := isOf hZ e4q (E_ob)
  obtain ⟨_, _, ⟨T11, L11, k11, n11⟩, -, X11, ⟨Lc11, hQ11, l11, y11, z11⟩, st11⟩ := X4.virtualBack hx (y := (⟨"com/example/terms_of_isolation/termsofisolation/SqlType", "isString", "()Z"⟩ : MethodName)) (z := (⟨"com/example/terms_of_isolation/termsofisolation/SqlType", "isString", "()Z"⟩ : MethodName)) hown (mvT hZ (hw _ (List.mem_of_getElem? (i := 8) rfl))) (mvT hZ (hw _ (List.mem_of_getElem? (i := 9) rfl))) (notFace_of_selects (args := #[]) (mvT hZ (hw _ (List.mem_of_getElem? (i := 11) rfl)))) (mvT hZ (hw _ (List.mem_of_getElem? (i := 11) rfl))) (mvT hZ (hw _ (List.mem_of_getElem? (i := 10) rfl))) (by decide) (backOf (W := 0) (rmS l Z a0 hw [] ob w_TEXT w_CHARACTER_VARYING h0 n0 Z0 S_TEXT S_CHARACTER_VARYING) hZ (hw _ (List.mem_of_getElem? (i := 12) rfl)) (hw _ (List.mem_of_getElem? (i := 6) rfl)) (by decide) (by decide)) q11a q11c (g := (mkF m 30 #[.val (.int p1), .val (.int k), .val (.ref ob), .val (.int (if k = (4 : Int32) then (1 : Int32) else (if k = (5 : Int32) then (1 : Int32) else (0 : Int32))))] [(.ref ob)])) rfl (by rw [hml]; rfl) (Steps.refl _) (argsL := []) (rest := []) (lenOf pd__28_29Z rfl) rfl (by show 2 * 0 + _ ≤ _; exact Nat.le_of_eq rfl) (hb hby at_30) (fun _ _ => ⟨rfl, e4q, (by decide : 0 + 0 ≤ _), (by decide : 0 + 0 ≤ _)⟩)
  dsimp only [Pt.U, Pt.locs, Pt.cells, Pt.slots] at X11 l11 y11 z11 st11 hQ11
  subst l11 y11 z11
  obtain ⟨rfl, N11q, e11q⟩ := hQ11
  have N11 := Fr.app N4 N11q
  have pre12 : ∀ t, Steps p.tables e below (T11.setTop (mkF m 33 #[.val (.int p1), .val (.int k), .val (.ref ob), .val (.int (if k = (4 : Int32) then (1 : Int32) else (if k = (5 : Int32) then (1 : Int32) else (0 : Int32))))] [(.int (if ob = w_TEXT then (1 : Int32) else (if ob = w_CHARACTER_VARYING then (1 : Int32) else (0 : Int32))))])) t → Steps p.tables e below (s₁.setTop (entryFrame m #[(.int p1)] maxLocals)) t := fun t kt => pre10 t (st11.trans kt)
  have pre13 : ∀ t, Steps p.tables e below (T11.setTop (mkF m 42 #[.val (.int p1), .val (.int k), .val (.ref ob), .val (.int (if k = (4 : Int32) then (1 : Int32) else (if k = (5 : Int32) then (1 : Int32) else (0 : Int32))))] [(.int (1 : Int32))])) t → Steps p.tables e below (s₁.setTop (entryFrame m #[(.int p1)] maxLocals)) t := fun t kt => pre12 t (by
    refine XS.iloadN X11.here hx rfl (hb hby at_33) rfl ?_
    show Steps p.tables e below (T11.setTop (mkF m 34 #[.val (.int p1), .val (.int k), .val (.ref ob), .val (.int (if k = (4 : Int32) then (1 : Int32) else (if k = (5 : Int32) then (1 : Int32) else (0 : Int32))))] [(.int (if k = (4 : Int32) then (1 : Int32) else (if k = (5 : Int32) then (1 : Int32) else (0 : Int32)))), (.int (if ob = w_TEXT then (1 : Int32) else (if ob = w_CHARACTER_VARYING then (1 : Int32) else (0 : Int32))))])) _
    refine XS.icmpNo X11.here hx rfl (hb hby at_34) rfl (teq (by rw [hob]; exact own_fin k w_SMALLINT w_INTEGER w_BIGINT w_NUMERIC w_TEXT w_CHARACTER_VARYING w_BOOLEAN w_UNKNOWN (own_k8 p1 k hk) n_SMALLINT_TEXT n_INTEGER_TEXT n_BIGINT_TEXT n_NUMERIC_TEXT n_CHARACTER_VARYING_TEXT n_BOOLEAN_TEXT n_UNKNOWN_TEXT n_SMALLINT_CHARACTER_VARYING n_INTEGER_CHARACTER_VARYING n_BIGINT_CHARACTER_VARYING n_NUMERIC_CHARACTER_VARYING n_TEXT_CHARACTER_VARYING n_BOOLEAN_CHARACTER_VARYING n_UNKNOWN_CHARACTER_VARYING : (if ob = w_TEXT then (1 : Int32) else (if ob = w_CHARACTER_VARYING then (1 : Int32) else (0 : Int32))) = (if k = (4 : Int32) then (1 : Int32) else (if k = (5 : Int32) then (1 : Int32) else (0 : Int32))))).2 ?_
    show Steps p.tables e below (T11.setTop (mkF m 37 #[.val (.int p1), .val (.int k), .val (.ref ob), .val (.int (if k = (4 : Int32) then (1 : Int32) else (if k = (5 : Int32) then (1 : Int32) else (0 : Int32))))] [])) _
    refine XS.iconst X11.here hx rfl (hb hby at_37) ?_
    show Steps p.tables e below (T11.setTop (mkF m 38 #[.val (.int p1), .val (.int k), .val (.ref ob), .val (.int (if k = (4 : Int32) then (1 : Int32) else (if k = (5 : Int32) then (1 : Int32) else (0 : Int32))))] [(.int (1 : Int32))])) _
    refine XS.goto X11.here hx rfl (pc0 := 38) (pc' := 42) rfl (hb hby at_38) (by decide) (by decide) ?_
    show Steps p.tables e below (T11.setTop (mkF m 42 #[.val (.int p1), .val (.int k), .val (.ref ob), .val (.int (if k = (4 : Int32) then (1 : Int32) else (if k = (5 : Int32) then (1 : Int32) else (0 : Int32))))] [(.int (1 : Int32))])) _
    exact kt)
  obtain ⟨fs, hr, hrun, hended, hW, hsame⟩ := X11.leave (v := (some (.int (1 : Int32)))) (fun h => by rw [Bd.returns] at h; cases h)
  refine ⟨_, _, pre13 _ ?_, hrun, hended, _, _, rfl, ?_, ⟨_, rfl⟩, hW, hsame.mono (by decide) (by decide)⟩
  · exact retN X11 hx (t := .boolean) Bd.returns (by simp) (hb hby at_42) hr
  · show Q0 Z  h0 n0 _ T11.heap _
    rw [e11q]
    exact ⟨rfl, N11⟩
set_option maxRecDepth 65536 in
set_option maxHeartbeats 40000000 in
theorem comes_1 {Post : Tables → Env → Array Value → State → Outcome → State → Prop} (hpost : ∀ tb e args s v u, (limb_1_1.after args s (.returned v) u = true ∧ limb_1_2.after args s (.returned v) u = true ∧ True) → FrameEnd s (.returned v) u (Jvm.fieldLocs frame_1_writes args s ++ Jvm.arrayLocs frame_1_arrays args s ++ Jvm.staticLocs frame_1_statics s) 0 0 → Post tb e args s (.returned v) u) :
    ArmFor flags0 classFile x code maxLocals ret World_1 tables_1 room_1 Calls_1 rest_1 Pre_1 Post := by
  intro l hfl _ _ p e ha hc hk s m args below hf hA hF happ hP
  obtain ⟨hcalls, hrest, hpre⟩ := hP
  obtain ⟨-, -, -, hnamed, -, -, -, hat⟩ := (Spec.applies_iff hf).mp happ
  obtain ⟨hg, hn⟩ := and_e (Cond.before_iff.mp (show (Jvm.Cond.and given_1 narrow_1).before args s = true from hpre))
  obtain ⟨gc, ga⟩ := and_e hg
  obtain ⟨w0, rfl⟩ : ∃ w0 : Value, args = #[w0] := by
    have hs : args.size = 1 := by simpa [Cond.value, given_1] using gc
    obtain ⟨L⟩ := args
    match L, hs with
    | [w0], _ => exact ⟨w0, rfl⟩
  have hw := fun d (hd : d ∈ tables_1) => atoms_spec (ws := Jvm.Cond.code x code maxLocals ret :: tables_1) hat d (List.mem_cons_of_mem _ hd)
  have hfit : Fit s := fun {y c} hc i hi => by
    obtain ⟨ha, rfl⟩ := Array.getElem?_eq_some_iff.mp hc
    have q := List.all_eq_true.mp ((Array.all_eq_true_iff_forall_mem.mp hF) _ (Array.getElem_mem ha)) i (List.mem_range.mpr hi)
    simpa [Array.getElem?_eq_getElem hi] using q
  obtain ⟨i0, ei0⟩ := is_v ga
  obtain rfl : w0 = (.int i0) := Option.some.inj ei0
  obtain ⟨q0, t0⟩ := and_e hn
  obtain ⟨q1, t1⟩ := and_e t0
  obtain ⟨q2, t2⟩ := and_e t1
  obtain ⟨q3, t3⟩ := and_e t2
  obtain ⟨q4, t4⟩ := and_e t3
  obtain ⟨q5, t5⟩ := and_e t4
  obtain ⟨q6, t6⟩ := and_e t5
  obtain ⟨q7, t7⟩ := and_e t6
  obtain ⟨q8, t8⟩ := and_e t7
  obtain ⟨q9, t9⟩ := and_e t8
  obtain ⟨q10, t10⟩ := and_e t9
  obtain ⟨q11, t11⟩ := and_e t10
  obtain ⟨q12, t12⟩ := and_e t11
  obtain ⟨q13, t13⟩ := and_e t12
  obtain ⟨q14, t14⟩ := and_e t13
  have q15 := t14
  obtain ⟨w_SMALLINT, ev_SMALLINT⟩ := exa_v q0
  have S_SMALLINT := Sta.start ev_SMALLINT (Or.inr ⟨(hw _ (List.mem_of_getElem? (i := 6) rfl)), (hw _ (List.mem_of_getElem? (i := 7) rfl))⟩)
  have E_SMALLINT := Exa.start ev_SMALLINT q0
  obtain ⟨w_TEXT, ev_TEXT⟩ := exa_v q1
  have S_TEXT := Sta.start ev_TEXT (Or.inr ⟨(hw _ (List.mem_of_getElem? (i := 6) rfl)), (hw _ (List.mem_of_getElem? (i := 14) rfl))⟩)
  have E_TEXT := Exa.start ev_TEXT q1
  obtain ⟨w_CHARACTER_VARYING, ev_CHARACTER_VARYING⟩ := exa_v q4
  have S_CHARACTER_VARYING := Sta.start ev_CHARACTER_VARYING (Or.inr ⟨(hw _ (List.mem_of_getElem? (i := 6) rfl)), (hw _ (List.mem_of_getElem? (i := 16) rfl))⟩)
  have E_CHARACTER_VARYING := Exa.start ev_CHARACTER_VARYING q4
  obtain ⟨w_NUMERIC, ev_NUMERIC⟩ := exa_v q6
  have S_NUMERIC := Sta.start ev_NUMERIC (Or.inr ⟨(hw _ (List.mem_of_getElem? (i := 6) rfl)), (hw _ (List.mem_of_getElem? (i := 18) rfl))⟩)
  have E_NUMERIC := Exa.start ev_NUMERIC q6
  obtain ⟨w_BOOLEAN, ev_BOOLEAN⟩ := exa_v q8
  have S_BOOLEAN := Sta.start ev_BOOLEAN (Or.inr ⟨(hw _ (List.mem_of_getElem? (i := 6) rfl)), (hw _ (List.mem_of_getElem? (i := 20) rfl))⟩)
  have E_BOOLEAN := Exa.start ev_BOOLEAN q8
  obtain ⟨w_UNKNOWN, ev_UNKNOWN⟩ := exa_v q10
  have S_UNKNOWN := Sta.start ev_UNKNOWN (Or.inr ⟨(hw _ (List.mem_of_getElem? (i := 6) rfl)), (hw _ (List.mem_of_getElem? (i := 22) rfl))⟩)
  have E_UNKNOWN := Exa.start ev_UNKNOWN q10
  obtain ⟨w_BIGINT, ev_BIGINT⟩ := exa_v q12
  have S_BIGINT := Sta.start ev_BIGINT (Or.inr ⟨(hw _ (List.mem_of_getElem? (i := 6) rfl)), (hw _ (List.mem_of_getElem? (i := 24) rfl))⟩)
  have E_BIGINT := Exa.start ev_BIGINT q12
  obtain ⟨w_INTEGER, ev_INTEGER⟩ := exa_v q14
  have S_INTEGER := Sta.start ev_INTEGER (Or.inr ⟨(hw _ (List.mem_of_getElem? (i := 6) rfl)), (hw _ (List.mem_of_getElem? (i := 26) rfl))⟩)
  have E_INTEGER := Exa.start ev_INTEGER q14
  have F2 := own_fldI q2 ev_SMALLINT
  have F3 := own_fldI q3 ev_TEXT
  have F5 := own_fldI q5 ev_CHARACTER_VARYING
  have F7 := own_fldI q7 ev_NUMERIC
  have F9 := own_fldI q9 ev_BOOLEAN
  have F11 := own_fldI q11 ev_UNKNOWN
  have F13 := own_fldI q13 ev_BIGINT
  have F15 := own_fldI q15 ev_INTEGER
  obtain ⟨n, o, h1, h2, h3, _, L, rfl, ⟨rfl, N⟩, hq⟩ := rm0 l s _ hw tables_1 i0 w_SMALLINT w_INTEGER w_BIGINT w_NUMERIC w_TEXT w_CHARACTER_VARYING w_BOOLEAN w_UNKNOWN s.heap s.heap.size (Nat.le_refl _) S_SMALLINT S_INTEGER S_BIGINT S_NUMERIC S_TEXT S_CHARACTER_VARYING S_BOOLEAN S_UNKNOWN E_SMALLINT E_INTEGER E_BIGINT E_NUMERIC E_TEXT E_CHARACTER_VARYING E_BOOLEAN E_UNKNOWN (own_fldne F2 F3 (by decide)) (own_fldne F15 F3 (by decide)) (own_fldne F13 F3 (by decide)) (own_fldne F7 F3 (by decide)) (own_fldne F5 F3 (by decide)) (own_fldne F9 F3 (by decide)) (own_fldne F11 F3 (by decide)) (own_fldne F2 F5 (by decide)) (own_fldne F15 F5 (by decide)) (own_fldne F13 F5 (by decide)) (own_fldne F7 F5 (by decide)) (own_fldne F3 F5 (by decide)) (own_fldne F9 F5 (by decide)) (own_fldne F11 F5 (by decide)) p e ha hc hk s m _ below hf ((Spec.applies_iff_loose hf).mp happ).1 ⟨rfl, State.Warmed39.refl s, rfl⟩ trivial
  refine ⟨n, _, h1, h2, h3, hpost _ _ _ _ _ _ ⟨Cond.after_iff.mpr rfl, Cond.after_iff.mpr (eq_i res_at (Term.int_eval (1)) rfl), trivial⟩ ⟨hq.1, hq.2.1, (hq.2.2.sift fun y hy => Or.inr (N y hy)).mono (by decide) (by decide)⟩⟩
theorem main_1_1 : Claimed_1_1 := comes_1 fun _ _ _ _ _ _ h hF => ⟨h.1, hF⟩
theorem main_1_2 : Claimed_1_2 := comes_1 fun _ _ _ _ _ _ h hF => ⟨h.2.1, hF⟩
end Jvm.Pilot.@@N@@
namespace Jvm.Pilot.@@N@@
open Jvm Jvm.ClassFile Sem Op Lib Jvm.Free Jvm.Stand Jvm.Pilot.@@N@@.Jvm.D
/-! MADE BY PROGRAM (witnessworld.py) out of the Statement's table words and the real class files: 12 classes; the members and pool entries that the words name. The judged class is class 1, her method 1. -/
namespace start1
open Jvm.ClassFile
def u (s : String) : CpInfo := .utf8 (stringToUtf16 s)
/-- a pool by its gaps: so many unusable entries, then the entry; so many at the end -/
def gap : Nat → List CpInfo → List CpInfo
  | 0, r => r
  | n + 1, r => .unusable :: gap n r
def poolList (es : List (Nat × CpInfo)) (last : Nat) : List CpInfo := es.foldr (fun e r => gap e.1 (e.2 :: r)) (gap last [])
def pool (es : List (Nat × CpInfo)) (last : Nat) : Array CpInfo := ⟨poolList es last⟩
def fileOf (pool : Array CpInfo) (this : Nat) (attrs : Array Attribute := #[]) (ms : Array MethodInfo := #[]) (fl : Nat := 33) (sup : Nat := 0) (ifs : Array Nat := #[]) (fds : Array FieldInfo := #[]) : ClassFile where
  minorVersion := 0
  majorVersion := 65
  constantPool := pool
  accessFlags := fl
  thisClass := this
  superClass := sup
  interfaces := ifs
  fields := fds
  methods := ms
  attributes := attrs
def plain (name : String) (sup : Option ClassId) : Class where
  name := name
  kind := .ordinary
  loader := none
  accessFlags := 33
  super := sup
  interfaces := #[]
  cf := none
  fields := #[]
  methods := #[]
  instanceTypes := #[]
  staticTypes := #[]
  resolved := #[]
  callSites := []
  init := .initialized
  statics := none
  mirror := none

def pool0 : Array CpInfo := pool [(5, u "<init>"), (0, u "()V"), (1, .class_ 10), (1, u "java/lang/Object")] 113

def k0m0 : Method := { name := "<init>", desc := "()V", sig := { parameters := [], returnType := none }, accessFlags := 1, code := none }
/-- java/lang/Object -/
def k0 : Class := { plain "java/lang/Object" none with
  accessFlags := 33
  interfaces := #[]
  cf := some (fileOf pool0 8 #[] #[{ accessFlags := 1, nameIndex := 5, descriptorIndex := 6, attributes := #[] }] 33 0 #[] #[])
  fields := #[]
  methods := #[k0m0]
  instanceTypes := #[]
  staticTypes := #[]
  resolved := Array.replicate 124 none
  statics := none }

def pool1 : Array CpInfo := pool [(2, .class_ 4), (1, u "java/lang/Object"), (0, u "<init>"), (0, u "()V"), (0, .integer 2147483647), (0, .methodref 9 10), (0, .class_ 11), (0, .nameAndType 12 13), (0, u "com/example/terms_of_isolation/termsofisolation/SqlTypeIsStringPinLaw"), (0, u "pick"), (0, u "(I)Lcom/example/terms_of_isolation/termsofisolation/SqlType;"), (0, .methodref 15 16), (0, .class_ 17), (0, .nameAndType 18 19), (0, u "com/example/terms_of_isolation/termsofisolation/SqlType"), (0, u "isString"), (0, u "()Z"), (0, .fieldref 15 21), (0, .nameAndType 22 23), (0, u "SMALLINT"), (0, u "Lcom/example/terms_of_isolation/termsofisolation/SqlType;"), (0, .fieldref 15 25), (0, .nameAndType 26 23), (0, u "INTEGER"), (0, .fieldref 15 28), (0, .nameAndType 29 23), (0, u "BIGINT"), (0, .fieldref 15 31), (0, .nameAndType 32 23), (0, u "NUMERIC"), (0, .fieldref 15 34), (0, .nameAndType 35 23), (0, u "TEXT"), (0, .fieldref 15 37), (0, .nameAndType 38 23), (0, u "CHARACTER_VARYING"), (0, .fieldref 15 40), (0, .nameAndType 41 23), (0, u "BOOLEAN"), (0, .fieldref 15 43), (0, .nameAndType 44 23), (0, u "UNKNOWN"), (2, u "law"), (0, u "(I)Z")] 3

def k1m0 : Method := { name := "<init>", desc := "()V", sig := { parameters := [], returnType := none }, accessFlags := 2, code := none }
def k1c1 : Code := { maxStack := 2, maxLocals := 4, code := code, exceptionTable := #[], attributes := #[] }
def k1m1 : Method := { name := "law", desc := "(I)Z", sig := { parameters := [.int], returnType := some .boolean }, accessFlags := 9, code := some k1c1 }
def k1c2 : Code := { maxStack := 2, maxLocals := 1, code := method_3_code, exceptionTable := #[], attributes := #[] }
def k1m2 : Method := { name := "pick", desc := "(I)Lcom/example/terms_of_isolation/termsofisolation/SqlType;", sig := { parameters := [.int], returnType := some (.object "com/example/terms_of_isolation/termsofisolation/SqlType") }, accessFlags := 10, code := some k1c2 }
/-- com/example/terms_of_isolation/termsofisolation/SqlTypeIsStringPinLaw -/
def k1 : Class := { plain "com/example/terms_of_isolation/termsofisolation/SqlTypeIsStringPinLaw" (some 0) with
  accessFlags := 49
  interfaces := #[]
  cf := some (fileOf pool1 9 #[] #[{ accessFlags := 2, nameIndex := 5, descriptorIndex := 6, attributes := #[] }, { accessFlags := 9, nameIndex := 47, descriptorIndex := 48, attributes := #[] }, { accessFlags := 10, nameIndex := 12, descriptorIndex := 13, attributes := #[] }] 49 2 #[] #[])
  fields := #[]
  methods := #[k1m0, k1m1, k1m2]
  instanceTypes := #[]
  staticTypes := #[]
  resolved := Array.replicate 52 none
  statics := none }

def pool2 : Array CpInfo := pool [(1, .class_ 2), (0, u "java/lang/constant/Constable"), (0, .class_ 4), (0, u "java/lang/Object")] 6

/-- java/lang/constant/Constable -/
def k2 : Class := { plain "java/lang/constant/Constable" (some 0) with
  accessFlags := 1537
  interfaces := #[]
  cf := some (fileOf pool2 1 #[] #[] 1537 3 #[] #[])
  fields := #[]
  methods := #[]
  instanceTypes := #[]
  staticTypes := #[]
  resolved := Array.replicate 11 none
  statics := none }

def pool3 : Array CpInfo := pool [(1, .class_ 2), (0, u "java/lang/Comparable"), (0, .class_ 4), (0, u "java/lang/Object")] 7

/-- java/lang/Comparable -/
def k3 : Class := { plain "java/lang/Comparable" (some 0) with
  accessFlags := 1537
  interfaces := #[]
  cf := some (fileOf pool3 1 #[] #[] 1537 3 #[] #[])
  fields := #[]
  methods := #[]
  instanceTypes := #[]
  staticTypes := #[]
  resolved := Array.replicate 12 none
  statics := none }

def pool4 : Array CpInfo := pool [(1, .class_ 2), (0, u "java/io/Serializable"), (0, .class_ 4), (0, u "java/lang/Object")] 2

/-- java/io/Serializable -/
def k4 : Class := { plain "java/io/Serializable" (some 0) with
  accessFlags := 1537
  interfaces := #[]
  cf := some (fileOf pool4 1 #[] #[] 1537 3 #[] #[])
  fields := #[]
  methods := #[]
  instanceTypes := #[]
  staticTypes := #[]
  resolved := Array.replicate 7 none
  statics := none }

def pool5 : Array CpInfo := pool [(2, .class_ 4), (1, u "java/lang/Enum"), (0, u "name"), (0, u "Ljava/lang/String;"), (2, u "ordinal"), (0, u "I"), (1, .class_ 14), (1, u "java/lang/Object"), (4, u "hash"), (86, .class_ 108), (1, u "java/lang/Enum$EnumDesc"), (2, .class_ 112), (0, u "java/lang/constant/Constable"), (0, .class_ 114), (0, u "java/lang/Comparable"), (0, .class_ 116), (0, u "java/io/Serializable")] 87

/-- java/lang/Enum -/
def k5 : Class := { plain "java/lang/Enum" (some 0) with
  accessFlags := 1057
  interfaces := #[2, 3, 4]
  cf := some (fileOf pool5 2 #[.nestMembers #[106]] #[] 1057 12 #[111, 113, 115] #[{ accessFlags := 18, nameIndex := 5, descriptorIndex := 6, attributes := #[] }, { accessFlags := 18, nameIndex := 9, descriptorIndex := 10, attributes := #[] }, { accessFlags := 2, nameIndex := 19, descriptorIndex := 10, attributes := #[] }])
  fields := #[{ name := "name", type := (.object "java/lang/String"), accessFlags := 18, slot := 0, constantValue := 0 }, { name := "ordinal", type := .int, accessFlags := 18, slot := 1, constantValue := 0 }, { name := "hash", type := .int, accessFlags := 2, slot := 2, constantValue := 0 }]
  methods := #[]
  instanceTypes := #[(.object "java/lang/String"), .int, .int]
  staticTypes := #[]
  resolved := Array.replicate 204 none
  statics := none }

def pool6 : Array CpInfo := pool [(1, .class_ 2), (0, u "com/example/terms_of_isolation/termsofisolation/SqlType"), (4, u "SMALLINT"), (0, u "Lcom/example/terms_of_isolation/termsofisolation/SqlType;"), (2, u "INTEGER"), (2, u "BIGINT"), (2, u "NUMERIC"), (0, .fieldref 1 19), (0, .nameAndType 20 8), (0, u "TEXT"), (0, .fieldref 1 22), (0, .nameAndType 23 8), (0, u "CHARACTER_VARYING"), (2, u "BOOLEAN"), (2, u "UNKNOWN"), (2, u "$VALUES"), (0, u "[Lcom/example/terms_of_isolation/termsofisolation/SqlType;"), (6, .class_ 42), (1, u "java/lang/Enum"), (8, u "displayName"), (0, u "Ljava/lang/String;"), (2, u "oid"), (0, u "I"), (2, u "size"), (3, u "()Z"), (2, u "isString"), (105, u "NUMERIC_INPUT"), (0, u "Ljava/util/regex/Pattern;"), (123, u "INTEGER_INPUT"), (124, u "MAX_NUMERIC_SCALE"), (2, u "MAX_NUMERIC_INTEGER_DIGITS"), (1, u "MAX_NUMERIC_PRECISION"), (0, u "MAX_NUMERIC_EXPONENT"), (0, u "J"), (0, u "MAX_NUMERIC_EXPONENT_DIGITS"), (1, u "MAX_BIGINT_DIGITS")] 75

def k6c0 : Code := { maxStack := 2, maxLocals := 1, code := prog_134_method_9_code, exceptionTable := #[], attributes := #[] }
def k6m0 : Method := { name := "isString", desc := "()Z", sig := { parameters := [], returnType := some .boolean }, accessFlags := 0, code := some k6c0 }
/-- com/example/terms_of_isolation/termsofisolation/SqlType -/
def k6 : Class := { plain "com/example/terms_of_isolation/termsofisolation/SqlType" (some 5) with
  accessFlags := 16432
  interfaces := #[]
  cf := some (fileOf pool6 1 #[] #[{ accessFlags := 0, nameIndex := 66, descriptorIndex := 63, attributes := #[] }] 16432 40 #[] #[{ accessFlags := 16409, nameIndex := 7, descriptorIndex := 8, attributes := #[] }, { accessFlags := 16409, nameIndex := 11, descriptorIndex := 8, attributes := #[] }, { accessFlags := 16409, nameIndex := 14, descriptorIndex := 8, attributes := #[] }, { accessFlags := 16409, nameIndex := 17, descriptorIndex := 8, attributes := #[] }, { accessFlags := 16409, nameIndex := 20, descriptorIndex := 8, attributes := #[] }, { accessFlags := 16409, nameIndex := 23, descriptorIndex := 8, attributes := #[] }, { accessFlags := 16409, nameIndex := 26, descriptorIndex := 8, attributes := #[] }, { accessFlags := 16409, nameIndex := 29, descriptorIndex := 8, attributes := #[] }, { accessFlags := 24, nameIndex := 422, descriptorIndex := 56, attributes := #[] }, { accessFlags := 26, nameIndex := 425, descriptorIndex := 56, attributes := #[] }, { accessFlags := 26, nameIndex := 427, descriptorIndex := 56, attributes := #[] }, { accessFlags := 26, nameIndex := 428, descriptorIndex := 429, attributes := #[] }, { accessFlags := 26, nameIndex := 430, descriptorIndex := 56, attributes := #[] }, { accessFlags := 26, nameIndex := 432, descriptorIndex := 56, attributes := #[] }, { accessFlags := 26, nameIndex := 297, descriptorIndex := 173, attributes := #[] }, { accessFlags := 26, nameIndex := 172, descriptorIndex := 173, attributes := #[] }, { accessFlags := 18, nameIndex := 51, descriptorIndex := 52, attributes := #[] }, { accessFlags := 18, nameIndex := 55, descriptorIndex := 56, attributes := #[] }, { accessFlags := 18, nameIndex := 59, descriptorIndex := 56, attributes := #[] }, { accessFlags := 4122, nameIndex := 32, descriptorIndex := 33, attributes := #[] }])
  fields := #[{ name := "SMALLINT", type := (.object "com/example/terms_of_isolation/termsofisolation/SqlType"), accessFlags := 16409, slot := 0, constantValue := 0 }, { name := "INTEGER", type := (.object "com/example/terms_of_isolation/termsofisolation/SqlType"), accessFlags := 16409, slot := 1, constantValue := 0 }, { name := "BIGINT", type := (.object "com/example/terms_of_isolation/termsofisolation/SqlType"), accessFlags := 16409, slot := 2, constantValue := 0 }, { name := "NUMERIC", type := (.object "com/example/terms_of_isolation/termsofisolation/SqlType"), accessFlags := 16409, slot := 3, constantValue := 0 }, { name := "TEXT", type := (.object "com/example/terms_of_isolation/termsofisolation/SqlType"), accessFlags := 16409, slot := 4, constantValue := 0 }, { name := "CHARACTER_VARYING", type := (.object "com/example/terms_of_isolation/termsofisolation/SqlType"), accessFlags := 16409, slot := 5, constantValue := 0 }, { name := "BOOLEAN", type := (.object "com/example/terms_of_isolation/termsofisolation/SqlType"), accessFlags := 16409, slot := 6, constantValue := 0 }, { name := "UNKNOWN", type := (.object "com/example/terms_of_isolation/termsofisolation/SqlType"), accessFlags := 16409, slot := 7, constantValue := 0 }, { name := "MAX_NUMERIC_SCALE", type := .int, accessFlags := 24, slot := 8, constantValue := 0 }, { name := "MAX_NUMERIC_INTEGER_DIGITS", type := .int, accessFlags := 26, slot := 9, constantValue := 0 }, { name := "MAX_NUMERIC_PRECISION", type := .int, accessFlags := 26, slot := 10, constantValue := 0 }, { name := "MAX_NUMERIC_EXPONENT", type := .long, accessFlags := 26, slot := 11, constantValue := 0 }, { name := "MAX_NUMERIC_EXPONENT_DIGITS", type := .int, accessFlags := 26, slot := 12, constantValue := 0 }, { name := "MAX_BIGINT_DIGITS", type := .int, accessFlags := 26, slot := 13, constantValue := 0 }, { name := "INTEGER_INPUT", type := (.object "java/util/regex/Pattern"), accessFlags := 26, slot := 14, constantValue := 0 }, { name := "NUMERIC_INPUT", type := (.object "java/util/regex/Pattern"), accessFlags := 26, slot := 15, constantValue := 0 }, { name := "displayName", type := (.object "java/lang/String"), accessFlags := 18, slot := 3, constantValue := 0 }, { name := "oid", type := .int, accessFlags := 18, slot := 4, constantValue := 0 }, { name := "size", type := .int, accessFlags := 18, slot := 5, constantValue := 0 }, { name := "$VALUES", type := (.array (.object "com/example/terms_of_isolation/termsofisolation/SqlType")), accessFlags := 4122, slot := 16, constantValue := 0 }]
  methods := #[k6m0]
  instanceTypes := #[(.object "java/lang/String"), .int, .int, (.object "java/lang/String"), .int, .int]
  staticTypes := #[(.object "com/example/terms_of_isolation/termsofisolation/SqlType"), (.object "com/example/terms_of_isolation/termsofisolation/SqlType"), (.object "com/example/terms_of_isolation/termsofisolation/SqlType"), (.object "com/example/terms_of_isolation/termsofisolation/SqlType"), (.object "com/example/terms_of_isolation/termsofisolation/SqlType"), (.object "com/example/terms_of_isolation/termsofisolation/SqlType"), (.object "com/example/terms_of_isolation/termsofisolation/SqlType"), (.object "com/example/terms_of_isolation/termsofisolation/SqlType"), .int, .int, .int, .long, .int, .int, (.object "java/util/regex/Pattern"), (.object "java/util/regex/Pattern"), (.array (.object "com/example/terms_of_isolation/termsofisolation/SqlType"))]
  resolved := Array.replicate 508 none
  statics := some 0 }

def pool7 : Array CpInfo := pool [(1, u "java/lang/Cloneable"), (0, .class_ 1), (0, u "java/lang/Object"), (0, .class_ 3)] 3

/-- java/lang/Cloneable -/
def k7 : Class := { plain "java/lang/Cloneable" (some 0) with
  accessFlags := 1537
  interfaces := #[]
  cf := some (fileOf pool7 2 #[] #[] 1537 4 #[] #[])
  fields := #[]
  methods := #[]
  instanceTypes := #[]
  staticTypes := #[]
  resolved := Array.replicate 8 none
  statics := none }

/-- the primitive byte -/
def k8 : Class := { plain "byte" none with kind := .primitive 'B', accessFlags := 0x411 }
/-- [B -/
def k9 : Class := { plain "[B" (some 0) with kind := .array 8 .byte, interfaces := #[7, 4], accessFlags := 1041 }

/-- the primitive int -/
def k10 : Class := { plain "int" none with kind := .primitive 'I', accessFlags := 0x411 }
/-- [I -/
def k11 : Class := { plain "[I" (some 0) with kind := .array 10 .int, interfaces := #[7, 4], accessFlags := 1041 }

def heap : Heap := #[{ cls := 6, slots := #[.ref 1, .ref 2, .ref 3, .ref 4, .ref 5, .ref 6, .ref 7, .ref 8, .int 0, .int 0, .int 0, .long 0, .int 0, .int 0, .null, .null, .null], vm := .statics 6 },
  { cls := 6, slots := #[.null, .int 0, .int 0, .null, .int 0, .int 0], vm := .none },
  { cls := 6, slots := #[.null, .int 1, .int 0, .null, .int 0, .int 0], vm := .none },
  { cls := 6, slots := #[.null, .int 2, .int 0, .null, .int 0, .int 0], vm := .none },
  { cls := 6, slots := #[.null, .int 3, .int 0, .null, .int 0, .int 0], vm := .none },
  { cls := 6, slots := #[.null, .int 4, .int 0, .null, .int 0, .int 0], vm := .none },
  { cls := 6, slots := #[.null, .int 5, .int 0, .null, .int 0, .int 0], vm := .none },
  { cls := 6, slots := #[.null, .int 6, .int 0, .null, .int 0, .int 0], vm := .none },
  { cls := 6, slots := #[.null, .int 7, .int 0, .null, .int 0, .int 0], vm := .none }]
def classes : Array Class := #[k0, k1, k2, k3, k4, k5, k6, k7, k8, k9, k10, k11]
def interned : List (Array UInt16 × Addr) := []
def slotsUsed : Nat := 65
def theMethod : MethodId := ⟨1, 1⟩
def args0 : Array Value := #[.int 5]
def aboutOver (below : List Frame) : State where
  vm := { classes := classes, interned := interned.toArray }
  heap := heap
  slotsUsed := slotsUsed
  threads := #[{ frames := .invoking theMethod args0 :: below }]
def below0 : List Frame := [.native { method := ⟨0, 0⟩, args := #[] }]
def about1 : State := aboutOver below0
def p0 : Program := .bare "" "" ""
def e0 : Env := launch0.env 0 0 0
theorem w_frames : about1.frames = Frame.invoking theMethod args0 :: below0 := rfl
set_option maxRecDepth 65536 in
theorem w_args : argsFit about1.vm theMethod args0 = true := by decide +kernel
set_option maxRecDepth 65536 in
theorem w_heap : heapFits about1 = true := by decide +kernel
set_option maxRecDepth 65536 in
theorem w_runnable : about1.curStatus? = some .runnable := by decide +kernel
set_option maxRecDepth 65536 in
theorem w_alone : about1.alone = true := by decide +kernel
set_option maxRecDepth 65536 in
theorem w_named : about1.methodNamed? x = some theMethod := by decide +kernel
set_option maxRecDepth 65536 in
theorem w_hears : about1.hears theMethod below0 = true := by decide +kernel
set_option maxRecDepth 65536 in
theorem w_ripe : about1.ripe theMethod args0 below0 = true := by decide +kernel
theorem w_running : about1.status = .running := rfl
set_option maxRecDepth 65536 in
theorem w_room : about1.hasRoom e0.platform room_1 = true :=
  launch0.hasRoom_least _ room_1 (by decide +kernel) (by decide +kernel) (by decide +kernel) (by decide +kernel) (by decide +kernel) (by decide +kernel)
theorem allAtoms_all (ts : List Jvm.Cond) (a : Array Jvm.Value) (st : Jvm.State) : (allAtoms ts).before a st = ts.all (fun c => c.before a st) := by
  induction ts with
  | nil => rfl
  | cons c t ih =>
    show (Jvm.Cond.and c (allAtoms t)).before a st = _
    rw [Jvm.Cond.before_and, ih, List.all_cons]
def words1 : List Jvm.Cond := Jvm.Cond.code x code maxLocals ret :: tables_1
/-- a 'code' word, met by the world's own term for the bytes: nothing is compared byte by byte -/
theorem code_word {y : MethodName} {bytes : ByteArray} {mx : Nat} {rt : Option FieldType} {a : Array Value} {s : State} {m : MethodId} {meth : Method} {c : Code} (h1 : s.methodNamed? y = some m) (h2 : s.vm.method? m = some meth) (h3 : meth.code = some c) (h4 : c.code = bytes)
    (h5 : (c.maxLocals == mx && c.exceptionTable.isEmpty && decide (c.maxStack ≤ mostOperands) && decide (meth.sig.returnType = rt) && !meth.locks && decide (parseMethodDescriptor y.desc = some meth.sig)) = true) : (Jvm.Cond.code y bytes mx rt).before a s = true := by
  simp only [Bool.and_eq_true, beq_iff_eq, Bool.not_eq_true', decide_eq_true_eq] at h5
  obtain ⟨⟨⟨⟨⟨g1, g2⟩, g3⟩, g4⟩, g5⟩, g6⟩ := h5
  simp [Cond.before, Cond.holds, Cond.value, h1, h2, h3, h4, g1, g2, g3, g4, g5, g6]
def isCode : Jvm.Cond → Bool
  | .code _ _ _ _ => true
  | _ => false
theorem all_split {L : List Jvm.Cond} {P : Jvm.Cond → Bool} (h1 : L.all (fun c => isCode c || P c) = true) (h2 : ∀ c ∈ L.filter isCode, P c = true) : L.all P = true := by
  refine List.all_eq_true.mpr fun c hc => ?_
  have h := List.all_eq_true.mp h1 c hc
  rcases Bool.eq_false_or_eq_true (isCode c) with hi | hi
  · exact h2 c (List.mem_filter.mpr ⟨hc, hi⟩)
  · simpa [hi] using h
set_option maxRecDepth 65536 in
theorem w_c0 : (Jvm.Cond.code x code maxLocals ret).before args0 about1 = true := code_word (m := ⟨1, 1⟩) (meth := k1m1) (c := k1c1) (by decide +kernel) rfl rfl rfl (by decide +kernel)
set_option maxRecDepth 65536 in
theorem w_c1 : (Jvm.Cond.code ({ cls := "com/example/terms_of_isolation/termsofisolation/SqlTypeIsStringPinLaw", name := "pick", desc := "(I)Lcom/example/terms_of_isolation/termsofisolation/SqlType;" } : Jvm.MethodName) method_3_code (1 : Nat) (Option.some (Jvm.ClassFile.FieldType.object "com/example/terms_of_isolation/termsofisolation/SqlType"))).before args0 about1 = true := code_word (m := ⟨1, 2⟩) (meth := k1m2) (c := k1c2) (by decide +kernel) rfl rfl rfl (by decide +kernel)
set_option maxRecDepth 65536 in
theorem w_c2 : (Jvm.Cond.code ({ cls := "com/example/terms_of_isolation/termsofisolation/SqlType", name := "isString", desc := "()Z" } : Jvm.MethodName) prog_134_method_9_code (1 : Nat) (Option.some Jvm.ClassFile.FieldType.boolean)).before args0 about1 = true := code_word (m := ⟨6, 0⟩) (meth := k6m0) (c := k6c0) (by decide +kernel) rfl rfl rfl (by decide +kernel)
def codes1 : List Jvm.Cond := [Jvm.Cond.code x code maxLocals ret, Jvm.Cond.code ({ cls := "com/example/terms_of_isolation/termsofisolation/SqlTypeIsStringPinLaw", name := "pick", desc := "(I)Lcom/example/terms_of_isolation/termsofisolation/SqlType;" } : Jvm.MethodName) method_3_code (1 : Nat) (Option.some (Jvm.ClassFile.FieldType.object "com/example/terms_of_isolation/termsofisolation/SqlType")), Jvm.Cond.code ({ cls := "com/example/terms_of_isolation/termsofisolation/SqlType", name := "isString", desc := "()Z" } : Jvm.MethodName) prog_134_method_9_code (1 : Nat) (Option.some Jvm.ClassFile.FieldType.boolean)]
set_option maxRecDepth 65536 in
theorem codes_eq : words1.filter isCode = codes1 := rfl
theorem w_codes : ∀ c ∈ words1.filter isCode, c.before args0 about1 = true := by
  rw [codes_eq]
  intro c hc
  simp only [codes1, List.mem_cons, List.not_mem_nil, or_false] at hc
  rcases hc with rfl | rfl | rfl
  · exact w_c0
  · exact w_c1
  · exact w_c2
set_option maxRecDepth 65536 in
theorem w_t1 : (words1.take 24).all (fun c => isCode c || c.before args0 about1) = true := by decide +kernel
set_option maxRecDepth 65536 in
theorem w_t2 : (words1.drop 24).all (fun c => isCode c || c.before args0 about1) = true := by decide +kernel
theorem w_tables : (allAtoms (Jvm.Cond.code x code maxLocals ret :: tables_1)).before args0 about1 = true := by
  rw [allAtoms_all]
  show words1.all (fun c => c.before args0 about1) = true
  refine all_split ?_ w_codes
  rw [← List.take_append_drop 24 words1, List.all_append, w_t1, w_t2]
  rfl
set_option maxRecDepth 65536 in
theorem w_case : (Jvm.Cond.and given_1 narrow_1).before args0 about1 = true := by decide +kernel
theorem w_applies : (headSpec (Jvm.Cond.code x code maxLocals ret :: tables_1) room_1).applies x e0.platform about1 = true :=
  (Spec.applies_iff w_frames).mpr ⟨w_running, w_runnable, w_alone, w_named, w_hears, w_ripe, w_room, w_tables⟩
theorem atStart : AtStart classFile x code maxLocals ret World_1 tables_1 room_1 Calls_1 rest_1 Pre_1 launch0 p0 e0 about1 theMethod args0 below0 :=
  ⟨lists_1, trivial, launch0.admits_env _ _ _, launch0.least_env, fairChoices_fair.cas, fairChoices_fair.clock, w_frames, w_args, w_heap, w_applies, trivial, trivial, w_case⟩
end start1
theorem witness_1 : WitnessClaimed_1 := ⟨start1.p0, start1.e0, start1.about1, start1.theMethod, start1.args0, start1.below0, start1.atStart⟩
end Jvm.Pilot.@@N@@
