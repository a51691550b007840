import JvmDerived
import JvmDerived.Pilot.@@N@@Statement
import JvmDerived.Pilot.@@N@@Code
set_option linter.unusedVariables false
set_option linter.unusedSimpArgs false
namespace Jvm.RoadKit
open Sem ClassFile Op Lib Jvm.Stand Jvm.Free Jvm.LawKit
section New
variable {p : Program} {l : Launch} {e : Env} {R : Room} {s : State} {m : MethodId} {args : Array Value} {below : List Frame} {meth : Method} {c : Code} {T : State} {locs : List Loc} {cells slots : Nat}
theorem retI (X : Stand p l e R s m args below meth c T locs cells slots) (hx : p.tables.exec = Jvm.exec) {pc : Nat} {Ls : Array Slot} {z : Int32} {rest : List Value} (hret : meth.sig.returnType = some .int) (hd : decode c.code pc = .ok (.ireturn, 1)) {fs : List Frame}
    (hl : ∀ (f : JFrame) (acts : List Action), f.method = m → f.locked = none → f.entered = [] → (doReturn e (T.setTop f) acts (some (.int z))).1 = T.setFrames fs) : Steps p.tables e below (T.setTop (mkF m pc Ls (.int z :: rest))) (T.setFrames fs) := by
  have hm' : T.vm.method? m = some meth := X.method'
  have hn : narrow .int (.int z) = .int z := rfl
  show Steps p.tables e below (T.setTop { method := m, pc := pc, locals := Ls, stack := _ :: rest, locked := none }) _
  jvm_step X.here [X.here.top, hx, hd, hm', hret, hn]
  first | (intro acts; rw [hl _ acts rfl rfl rfl]) | rw [hl _ _ rfl rfl rfl]
  exact Steps.refl _
theorem own_lremM {g : JFrame} {target : State} (X : Stand p l e R s m args below meth c T locs cells slots) (hx : p.tables.exec = Jvm.exec) (hg : g.method = m) {x y : Int64} {rest : List Value} (hd : decode c.code g.pc = .ok (.lrem, 1)) (hs : g.stack = .long y :: .long x :: rest) (hy : y ≠ 0)
    (hr : Steps p.tables e below (T.setTop { g with pc := g.pc + 1, stack := .long (x % y) :: rest }) target) : Steps p.tables e below (T.setTop g) target := by
  have q : x - (x / y) * y = x % y := lrem_mod x y
  exact XS.lrem X.here hx hg hd hs hy (by rw [q]; exact hr)
end New
end Jvm.RoadKit
namespace Jvm.Pilot.@@N@@
open Jvm Jvm.ClassFile Sem Op Lib Jvm.Free Jvm.Stand Jvm.LawKit Jvm.RoadKit Bundle Jvm.Pilot.@@N@@.Jvm.D
theorem own_notin0 {a : Addr} : a ∉ ([] : List Addr) := fun q => nomatch q
theorem own_notin1 {a b : Addr} (h : a ≠ b) : a ∉ [b] := fun q => h (List.mem_singleton.mp q)
theorem own_narb {x : Int32} (h : x = 0 ∨ x = 1) : nar .boolean x = x := by rcases h with rfl | rfl <;> rfl
theorem own_all0 {P : Addr → Prop} : ∀ x ∈ ([] : List Addr), P x := fun _ q => nomatch q
theorem own_all1 {P : Addr → Prop} {a : Addr} (h : P a) : ∀ x ∈ [a], P x := fun x q => by cases List.mem_singleton.mp q; exact h
theorem own_fldu {Z : State} {h : Heap} {a : Addr} {C n d : String} {v w : Value} (F : Fld Z h a C n d v) (G : Fld Z h a C n d w) : v = w := by
  obtain ⟨cell, cf, k, i, f, h1, h2, -, -, -, -, h7⟩ := F
  obtain ⟨cell', cf', k', i', f', g1, g2, -, -, -, -, g7⟩ := G
  rw [h1] at g1; cases g1
  rw [h2] at g2; cases g2
  exact Option.some.inj (h7.symm.trans g7)
theorem own_fldne {Z : State} {h : Heap} {a b : Addr} {C n d : String} {v w : Int32} (F : Fld Z h a C n d (.int v)) (G : Fld Z h b C n d (.int w)) (q : v ≠ w) : a ≠ b := fun e => by
  subst e; exact q (Value.int.inj (own_fldu F G))
theorem own_fldI {args : Array Value} {s : State} {t : Term} {C n d : String} {z : Int32} {x : Addr} (h : (Jvm.Cond.eq (Term.field t C n d) (Term.int z)).value args s none s [] = some true) (ht : t.eval args s none [] s = some (.ref x)) : Fld s s.heap x C n d (.int z) := by
  obtain ⟨X, Y, h1, h2, k1, k2⟩ := cmp_v (Or.inl h)
  rw [Term.int_eval] at h2
  obtain rfl := Option.some.inj h2
  obtain ⟨w, rfl⟩ : ∃ w, X = .int w := k2
  have q : (Jvm.Cond.eq (Term.field t C n d) (Term.int z)).value args s none s [] = some (decide (w = z)) := by simp [Cond.value, h1, Term.int_eval]
  have e := gotT q h
  subst e
  exact Fld.start ((fld_at ht).symm.trans h1)
theorem own_fldR {args : Array Value} {s : State} {t u : Term} {C n d : String} {x y : Addr} (h : (Jvm.Cond.eq (Term.field t C n d) u).value args s none s [] = some true) (ht : t.eval args s none [] s = some (.ref x)) (hu : u.eval args s none [] s = some (.ref y)) : Fld s s.heap x C n d (.ref y) := by
  obtain ⟨X, Y, h1, h2, k1, k2⟩ := cmp_v (Or.inl h)
  obtain rfl := Option.some.inj (hu.symm.trans h2)
  have kx : X.isRef = true := by cases X <;> simp [Kin, Value.isRef] at k1 k2 ⊢
  have e := gotT (eq_R h1 h2 kx rfl) h
  subst e
  exact Fld.start ((fld_at ht).symm.trans h1)
def QS (Z : State) (a1 w_PUSH w_POP : Addr) (h0 : Heap) (n0 : Nat) (v : Option Value) (h : Heap) (L : List Loc) : Prop := v = some (.int (if a1 = w_PUSH then (1 : Int32) else (if a1 = w_POP then (1 : Int32) else (0 : Int32)))) ∧ Fr n0 L ∧ h = h0
theorem ef_rmS (m : MethodId) (x0 : Addr) : entryFrame m #[(.ref x0)] 1 = mkF m 0 #[.val (.ref x0)] [] := by first | (simp [entryFrame, mkF, argsToLocals, Value.category]; done) | rfl
theorem pn_com_example_nest3_nest3_StackOperation : plainName "com/example/nest3/nest3/StackOperation" = true := by first | (simp [plainName, overriddenIn]; done) | decide +kernel
theorem d1_0 : decode prog_106_method_5_code 0 = .ok (.aload_n 0, 1) := by decide +kernel
theorem d1_1 : decode prog_106_method_5_code 1 = .ok (.getstatic 7, 3) := by decide +kernel
theorem d1_4 : decode prog_106_method_5_code 4 = .ok (.if_acmp .eq 10, 3) := by decide +kernel
theorem d1_14 : decode prog_106_method_5_code 14 = .ok (.iconst 1, 1) := by decide +kernel
theorem d1_15 : decode prog_106_method_5_code 15 = .ok (.goto 4, 3) := by decide +kernel
theorem d1_19 : decode prog_106_method_5_code 19 = .ok (.ireturn, 1) := by decide +kernel
theorem d1_7 : decode prog_106_method_5_code 7 = .ok (.aload_n 0, 1) := by decide +kernel
theorem d1_8 : decode prog_106_method_5_code 8 = .ok (.getstatic 10, 3) := by decide +kernel
theorem d1_11 : decode prog_106_method_5_code 11 = .ok (.if_acmp .ne 7, 3) := by decide +kernel
theorem d1_18 : decode prog_106_method_5_code 18 = .ok (.iconst 0, 1) := by decide +kernel
set_option maxRecDepth 65536 in
set_option maxHeartbeats 40000000 in
theorem rmS (l : Launch) (Z : State) (a0 : Array Value) (hw : ∀ d ∈ tables_1, d.before a0 Z = true) (ws : List Jvm.Cond) (a1 w_PUSH w_POP : Addr) (h0 : Heap) (n0 : Nat) (Z0 : n0 ≤ h0.size) (S_PUSH : Sta Z h0 "com/example/nest3/nest3/StackOperation" "PUSH" "Lcom/example/nest3/nest3/StackOperation;" (.ref w_PUSH)) (S_POP : Sta Z h0 "com/example/nest3/nest3/StackOperation" "POP" "Lcom/example/nest3/nest3/StackOperation;" (.ref w_POP)) :
    MetFree l (⟨"com/example/nest3/nest3/StackOperation", "namesStackSymbol", "()Z"⟩ : MethodName) (head1 (Jvm.Cond.code (⟨"com/example/nest3/nest3/StackOperation", "namesStackSymbol", "()Z"⟩ : MethodName) prog_106_method_5_code 1 (some .boolean) :: ws) ({ frames := 0, cells := 0, slots := 0, locals := 0 } : Room)) (fun a U => a = #[(.ref a1)] ∧ Z.Warmed39 U.vm ∧ U.heap = h0) (fun _ _ _ _ _ => True) (fun _ U o U' => ∃ v L, o = .returned v ∧ QS Z a1 w_PUSH w_POP h0 n0 v U'.heap L ∧ FrameEnd U o U' L ({ frames := 0, cells := 0, slots := 0, locals := 0 } : Room).cells ({ frames := 0, cells := 0, slots := 0, locals := 0 } : Room).slots) := by
  refine MetFree.of_bodySF (plainFor_of_name pn_com_example_nest3_nest3_StackOperation) hisR ?_
  intro p e s m args below meth c s₁ Bd hml0 hP hK
  obtain ⟨rfl, hZ, hh⟩ := hP
  have hx := Bd.exec
  have hby := Bd.bytes
  have hml : c.maxLocals = 1 := hml0
  have hown : s.vm.findClass "com/example/nest3/nest3/StackOperation" = some m.cls := findClass_of_methodNamed Bd.named
  have hnm := (name_of_methodNamed Bd.named Bd.method).1
  have X0 : Stand p l e ({ frames := 0, cells := 0, slots := 0, locals := 0 } : Room) s m #[(.ref a1)] below meth c s₁ [] 0 0 := Stand.of_body Bd
  have e0 : s₁.heap = h0 := by rw [← hh, Bd.state]; rfl
  have N0 := Fr.nil n0
  have pre0 : ∀ t, Steps p.tables e below (s₁.setTop (mkF m 0 #[.val (.ref a1)] [])) t → Steps p.tables e below (s₁.setTop (entryFrame m #[(.ref a1)] 1)) t := fun t k => castTop (ef_rmS m a1) k
  have pre1 : ∀ t, Steps p.tables e below (s₁.setTop (mkF m 1 #[.val (.ref a1)] [(.ref a1)])) t → Steps p.tables e below (s₁.setTop (entryFrame m #[(.ref a1)] 1)) t := fun t kt => pre0 t (by
    refine XS.aloadN X0.here hx rfl (hb hby d1_0) rfl rfl ?_
    show Steps p.tables e below (s₁.setTop (mkF m 1 #[.val (.ref a1)] [(.ref a1)])) _
    exact kt)
  obtain ⟨T2, X2, e2, st2⟩ := getS2 X0 hx hZ hown (host := "") (Or.inl (hw _ (List.mem_of_getElem? (i := 8) rfl))) Via.refl e0 S_PUSH (g := (mkF m 1 #[.val (.ref a1)] [(.ref a1)])) rfl (hb hby d1_1)
  have pre3 : ∀ t, Steps p.tables e below (T2.setTop (mkF m 4 #[.val (.ref a1)] [(.ref w_PUSH), (.ref a1)])) t → Steps p.tables e below (s₁.setTop (entryFrame m #[(.ref a1)] 1)) t := fun t kt => pre1 t (st2 _ kt)
  by_cases c4_1 : a1 = w_PUSH
  · have pre4 : ∀ t, Steps p.tables e below (T2.setTop (mkF m 19 #[.val (.ref a1)] [(.int (1 : Int32))])) t → Steps p.tables e below (s₁.setTop (entryFrame m #[(.ref a1)] 1)) t := fun t kt => pre3 t (by
      refine Jvm.RoadKit.acmp (g := (mkF m 4 #[.val (.ref a1)] [(.ref w_PUSH), (.ref a1)])) X2 hx rfl rfl rfl (pc0 := 4) (pc' := 14) (same := true) rfl (hb hby d1_4) rfl (decide_eq_true (congrArg Value.ref c4_1)) (by decide) (by decide) ?_
      show Steps p.tables e below (T2.setTop (mkF m 14 #[.val (.ref a1)] [])) _
      refine XS.iconst X2.here hx rfl (hb hby d1_14) ?_
      show Steps p.tables e below (T2.setTop (mkF m 15 #[.val (.ref a1)] [(.int (1 : Int32))])) _
      refine XS.goto X2.here hx rfl (pc0 := 15) (pc' := 19) rfl (hb hby d1_15) (by decide) (by decide) ?_
      show Steps p.tables e below (T2.setTop (mkF m 19 #[.val (.ref a1)] [(.int (1 : Int32))])) _
      exact kt)
    obtain ⟨fs, hr, hrun, hended, hW, hsame⟩ := X2.leave (v := (some (.int (1 : Int32)))) (fun h => by rw [Bd.returns] at h; cases h)
    refine ⟨_, _, pre4 _ ?_, hrun, hended, _, _, rfl, ?_, ⟨_, rfl⟩, hW, hsame.mono (by decide) (by decide)⟩
    · exact retN X2 hx (t := .boolean) Bd.returns (by simp) (hb hby d1_19) hr
    · show QS Z a1 w_PUSH w_POP h0 n0 _ T2.heap _
      rw [e2]
      exact ⟨(by rw [if_pos c4_1]), N0, rfl⟩
  · have pre6 : ∀ t, Steps p.tables e below (T2.setTop (mkF m 8 #[.val (.ref a1)] [(.ref a1)])) t → Steps p.tables e below (s₁.setTop (entryFrame m #[(.ref a1)] 1)) t := fun t kt => pre3 t (by
      refine Jvm.RoadKit.acmp (g := (mkF m 4 #[.val (.ref a1)] [(.ref w_PUSH), (.ref a1)])) X2 hx rfl rfl rfl (pc0 := 4) (pc' := 7) (same := false) rfl (hb hby d1_4) rfl (decide_eq_false fun q => c4_1 (Value.ref.inj q)) (by decide) (by decide) ?_
      show Steps p.tables e below (T2.setTop (mkF m 7 #[.val (.ref a1)] [])) _
      refine XS.aloadN X2.here hx rfl (hb hby d1_7) rfl rfl ?_
      show Steps p.tables e below (T2.setTop (mkF m 8 #[.val (.ref a1)] [(.ref a1)])) _
      exact kt)
    obtain ⟨T7, X7, e7, st7⟩ := getS2 X2 hx hZ hown (host := "") (Or.inl (hw _ (List.mem_of_getElem? (i := 10) rfl))) Via.refl e2 S_POP (g := (mkF m 8 #[.val (.ref a1)] [(.ref a1)])) rfl (hb hby d1_8)
    have pre8 : ∀ t, Steps p.tables e below (T7.setTop (mkF m 11 #[.val (.ref a1)] [(.ref w_POP), (.ref a1)])) t → Steps p.tables e below (s₁.setTop (entryFrame m #[(.ref a1)] 1)) t := fun t kt => pre6 t (st7 _ kt)
    by_cases c11_2 : a1 = w_POP
    · have pre9 : ∀ t, Steps p.tables e below (T7.setTop (mkF m 19 #[.val (.ref a1)] [(.int (1 : Int32))])) t → Steps p.tables e below (s₁.setTop (entryFrame m #[(.ref a1)] 1)) t := fun t kt => pre8 t (by
        refine Jvm.RoadKit.acmp (g := (mkF m 11 #[.val (.ref a1)] [(.ref w_POP), (.ref a1)])) X7 hx rfl rfl rfl (pc0 := 11) (pc' := 14) (same := true) rfl (hb hby d1_11) rfl (decide_eq_true (congrArg Value.ref c11_2)) (by decide) (by decide) ?_
        show Steps p.tables e below (T7.setTop (mkF m 14 #[.val (.ref a1)] [])) _
        refine XS.iconst X7.here hx rfl (hb hby d1_14) ?_
        show Steps p.tables e below (T7.setTop (mkF m 15 #[.val (.ref a1)] [(.int (1 : Int32))])) _
        refine XS.goto X7.here hx rfl (pc0 := 15) (pc' := 19) rfl (hb hby d1_15) (by decide) (by decide) ?_
        show Steps p.tables e below (T7.setTop (mkF m 19 #[.val (.ref a1)] [(.int (1 : Int32))])) _
        exact kt)
      obtain ⟨fs, hr, hrun, hended, hW, hsame⟩ := X7.leave (v := (some (.int (1 : Int32)))) (fun h => by rw [Bd.returns] at h; cases h)
      refine ⟨_, _, pre9 _ ?_, hrun, hended, _, _, rfl, ?_, ⟨_, rfl⟩, hW, hsame.mono (by decide) (by decide)⟩
      · exact retN X7 hx (t := .boolean) Bd.returns (by simp) (hb hby d1_19) hr
      · show QS Z a1 w_PUSH w_POP h0 n0 _ T7.heap _
        rw [e7]
        exact ⟨(by rw [if_neg c4_1, if_pos c11_2]), N0, rfl⟩
    · have pre11 : ∀ t, Steps p.tables e below (T7.setTop (mkF m 19 #[.val (.ref a1)] [(.int (0 : Int32))])) t → Steps p.tables e below (s₁.setTop (entryFrame m #[(.ref a1)] 1)) t := fun t kt => pre8 t (by
        refine Jvm.RoadKit.acmp (g := (mkF m 11 #[.val (.ref a1)] [(.ref w_POP), (.ref a1)])) X7 hx rfl rfl rfl (pc0 := 11) (pc' := 18) (same := false) rfl (hb hby d1_11) rfl (decide_eq_false fun q => c11_2 (Value.ref.inj q)) (by decide) (by decide) ?_
        show Steps p.tables e below (T7.setTop (mkF m 18 #[.val (.ref a1)] [])) _
        refine XS.iconst X7.here hx rfl (hb hby d1_18) ?_
        show Steps p.tables e below (T7.setTop (mkF m 19 #[.val (.ref a1)] [(.int (0 : Int32))])) _
        exact kt)
      obtain ⟨fs, hr, hrun, hended, hW, hsame⟩ := X7.leave (v := (some (.int (0 : Int32)))) (fun h => by rw [Bd.returns] at h; cases h)
      refine ⟨_, _, pre11 _ ?_, hrun, hended, _, _, rfl, ?_, ⟨_, rfl⟩, hW, hsame.mono (by decide) (by decide)⟩
      · exact retN X7 hx (t := .boolean) Bd.returns (by simp) (hb hby d1_19) hr
      · show QS Z a1 w_PUSH w_POP h0 n0 _ T7.heap _
        rw [e7]
        exact ⟨(by rw [if_neg c4_1, if_neg c11_2]), N0, rfl⟩
def QK (Z : State) (a1 z : Addr) (h0 : Heap) (n0 : Nat) (v : Option Value) (h : Heap) (L : List Loc) : Prop := v = some (.ref z) ∧ Fr n0 L ∧ h = h0
theorem ef_rmK (m : MethodId) (x0 : Addr) : entryFrame m #[(.ref x0)] 1 = mkF m 0 #[.val (.ref x0)] [] := by first | (simp [entryFrame, mkF, argsToLocals, Value.category]; done) | rfl
theorem d2_0 : decode prog_106_method_4_code 0 = .ok (.aload_n 0, 1) := by decide +kernel
theorem d2_1 : decode prog_106_method_4_code 1 = .ok (.getfield 35, 3) := by decide +kernel
theorem d2_4 : decode prog_106_method_4_code 4 = .ok (.areturn, 1) := by decide +kernel
set_option maxRecDepth 65536 in
set_option maxHeartbeats 40000000 in
theorem rmK (l : Launch) (Z : State) (a0 : Array Value) (hw : ∀ d ∈ tables_1, d.before a0 Z = true) (ws : List Jvm.Cond) (a1 z : Addr) (h0 : Heap) (n0 : Nat) (Z0 : n0 ≤ h0.size) (F_z : Fld Z h0 a1 "com/example/nest3/nest3/StackOperation" "kind" "Lcom/example/nest3/nest3/SymbolKind;" (.ref z)) :
    MetFree l (⟨"com/example/nest3/nest3/StackOperation", "kind", "()Lcom/example/nest3/nest3/SymbolKind;"⟩ : MethodName) (head1 (Jvm.Cond.code (⟨"com/example/nest3/nest3/StackOperation", "kind", "()Lcom/example/nest3/nest3/SymbolKind;"⟩ : MethodName) prog_106_method_4_code 1 (some (.object "com/example/nest3/nest3/SymbolKind")) :: ws) ({ frames := 0, cells := 0, slots := 0, locals := 0 } : Room)) (fun a U => a = #[(.ref a1)] ∧ Z.Warmed39 U.vm ∧ U.heap = h0) (fun _ _ _ _ _ => True) (fun _ U o U' => ∃ v L, o = .returned v ∧ QK Z a1 z h0 n0 v U'.heap L ∧ FrameEnd U o U' L ({ frames := 0, cells := 0, slots := 0, locals := 0 } : Room).cells ({ frames := 0, cells := 0, slots := 0, locals := 0 } : Room).slots) := by
  refine MetFree.of_bodySF (plainFor_of_name pn_com_example_nest3_nest3_StackOperation) hisR ?_
  intro p e s m args below meth c s₁ Bd hml0 hP hK
  obtain ⟨rfl, hZ, hh⟩ := hP
  have hx := Bd.exec
  have hby := Bd.bytes
  have hml : c.maxLocals = 1 := hml0
  have hown : s.vm.findClass "com/example/nest3/nest3/StackOperation" = some m.cls := findClass_of_methodNamed Bd.named
  have hnm := (name_of_methodNamed Bd.named Bd.method).1
  have X0 : Stand p l e ({ frames := 0, cells := 0, slots := 0, locals := 0 } : Room) s m #[(.ref a1)] below meth c s₁ [] 0 0 := Stand.of_body Bd
  have e0 : s₁.heap = h0 := by rw [← hh, Bd.state]; rfl
  have N0 := Fr.nil n0
  have pre0 : ∀ t, Steps p.tables e below (s₁.setTop (mkF m 0 #[.val (.ref a1)] [])) t → Steps p.tables e below (s₁.setTop (entryFrame m #[(.ref a1)] 1)) t := fun t k => castTop (ef_rmK m a1) k
  have pre1 : ∀ t, Steps p.tables e below (s₁.setTop (mkF m 1 #[.val (.ref a1)] [(.ref a1)])) t → Steps p.tables e below (s₁.setTop (entryFrame m #[(.ref a1)] 1)) t := fun t kt => pre0 t (by
    refine XS.aloadN X0.here hx rfl (hb hby d2_0) rfl rfl ?_
    show Steps p.tables e below (s₁.setTop (mkF m 1 #[.val (.ref a1)] [(.ref a1)])) _
    exact kt)
  obtain ⟨T2, X2, e2, st2⟩ := getF X0 hx hZ hown (host := "") (Or.inl (hw _ (List.mem_of_getElem? (i := 20) rfl))) Via.refl e0 F_z (g := (mkF m 1 #[.val (.ref a1)] [(.ref a1)])) rfl rfl (hb hby d2_1)
  have pre3 : ∀ t, Steps p.tables e below (T2.setTop (mkF m 4 #[.val (.ref a1)] [(.ref z)])) t → Steps p.tables e below (s₁.setTop (entryFrame m #[(.ref a1)] 1)) t := fun t kt => pre1 t (st2 _ kt)
  obtain ⟨fs, hr, hrun, hended, hW, hsame⟩ := X2.leave (v := (some (.ref z))) (fun h => by rw [Bd.returns] at h; cases h)
  refine ⟨_, _, pre3 _ ?_, hrun, hended, _, _, rfl, ?_, ⟨_, rfl⟩, hW, hsame.mono (by decide) (by decide)⟩
  · exact retOut X2 hx Bd.returns rfl (Or.inr (Or.inr (Or.inr (Or.inr ⟨rfl, rfl, rfl⟩)))) (hb hby d2_4) hr
  · show QK Z a1 z h0 n0 _ T2.heap _
    rw [e2]
    exact ⟨rfl, N0, rfl⟩
def Q0 (Z : State) (h0 : Heap) (n0 : Nat) (v : Option Value) (h : Heap) (L : List Loc) : Prop := v = some (.int (1 : Int32)) ∧ Fr n0 L
theorem ef_rm0 (m : MethodId) (x0 : Int32) : entryFrame m #[(.int x0)] maxLocals = mkF m 0 #[.val (.int x0), .unset, .unset, .unset, .unset] [] := by first | (simp [entryFrame, mkF, argsToLocals, Value.category, maxLocals]; done) | rfl
theorem pn_com_example_nest3_nest3_StackOperationNamesStackSymbolPinLaw : plainName "com/example/nest3/nest3/StackOperationNamesStackSymbolPinLaw" = true := by first | (simp [plainName, overriddenIn]; done) | decide +kernel
theorem pd__28_29Z : parseMethodDescriptor "()Z" = some ⟨[], some .boolean⟩ := by decide +kernel
theorem pd__28_29Lcom_2fexample_2fnest3_2fnest3_2fSymbolKind_3b : parseMethodDescriptor "()Lcom/example/nest3/nest3/SymbolKind;" = some ⟨[], some (.object "com/example/nest3/nest3/SymbolKind")⟩ := by decide +kernel
set_option maxRecDepth 65536 in
set_option maxHeartbeats 40000000 in
theorem rm0 (l : Launch) (Z : State) (a0 : Array Value) (hw : ∀ d ∈ tables_1, d.before a0 Z = true) (ws : List Jvm.Cond) (p1 : Int32) (w_NONE w_PUSH w_POP w_POP_BOTTOM w_CALL w_RETURN w_INTERNAL : Addr) (h0 : Heap) (n0 : Nat) (Z0 : n0 ≤ h0.size) (S_NONE : Sta Z h0 "com/example/nest3/nest3/StackOperation" "NONE" "Lcom/example/nest3/nest3/StackOperation;" (.ref w_NONE)) (S_PUSH : Sta Z h0 "com/example/nest3/nest3/StackOperation" "PUSH" "Lcom/example/nest3/nest3/StackOperation;" (.ref w_PUSH)) (S_POP : Sta Z h0 "com/example/nest3/nest3/StackOperation" "POP" "Lcom/example/nest3/nest3/StackOperation;" (.ref w_POP)) (S_POP_BOTTOM : Sta Z h0 "com/example/nest3/nest3/StackOperation" "POP_BOTTOM" "Lcom/example/nest3/nest3/StackOperation;" (.ref w_POP_BOTTOM)) (S_CALL : Sta Z h0 "com/example/nest3/nest3/SymbolKind" "CALL" "Lcom/example/nest3/nest3/SymbolKind;" (.ref w_CALL)) (S_RETURN : Sta Z h0 "com/example/nest3/nest3/SymbolKind" "RETURN" "Lcom/example/nest3/nest3/SymbolKind;" (.ref w_RETURN)) (S_INTERNAL : Sta Z h0 "com/example/nest3/nest3/SymbolKind" "INTERNAL" "Lcom/example/nest3/nest3/SymbolKind;" (.ref w_INTERNAL)) (E_NONE : Exa Z h0 w_NONE "com/example/nest3/nest3/StackOperation") (E_PUSH : Exa Z h0 w_PUSH "com/example/nest3/nest3/StackOperation") (E_POP : Exa Z h0 w_POP "com/example/nest3/nest3/StackOperation") (E_POP_BOTTOM : Exa Z h0 w_POP_BOTTOM "com/example/nest3/nest3/StackOperation") (F_NONE : Fld Z h0 w_NONE "com/example/nest3/nest3/StackOperation" "kind" "Lcom/example/nest3/nest3/SymbolKind;" (.ref w_INTERNAL)) (F_PUSH : Fld Z h0 w_PUSH "com/example/nest3/nest3/StackOperation" "kind" "Lcom/example/nest3/nest3/SymbolKind;" (.ref w_CALL)) (F_POP : Fld Z h0 w_POP "com/example/nest3/nest3/StackOperation" "kind" "Lcom/example/nest3/nest3/SymbolKind;" (.ref w_RETURN)) (F_POP_BOTTOM : Fld Z h0 w_POP_BOTTOM "com/example/nest3/nest3/StackOperation" "kind" "Lcom/example/nest3/nest3/SymbolKind;" (.ref w_RETURN)) (n_NONE_PUSH : w_NONE ≠ w_PUSH) (n_POP_PUSH : w_POP ≠ w_PUSH) (n_POP_BOTTOM_PUSH : w_POP_BOTTOM ≠ w_PUSH) (n_NONE_POP : w_NONE ≠ w_POP) (n_PUSH_POP : w_PUSH ≠ w_POP) (n_POP_BOTTOM_POP : w_POP_BOTTOM ≠ w_POP) (n_CALL_INTERNAL : w_CALL ≠ w_INTERNAL) (n_RETURN_INTERNAL : w_RETURN ≠ w_INTERNAL) :
    MetFree l x (head1 (Jvm.Cond.code x code maxLocals ret :: ws) room_1) (fun a U => a = #[(.int p1)] ∧ Z.Warmed39 U.vm ∧ U.heap = h0) (fun _ _ _ _ _ => True) (fun _ U o U' => ∃ v L, o = .returned v ∧ Q0 Z  h0 n0 v U'.heap L ∧ FrameEnd U o U' L room_1.cells room_1.slots) := by
  refine MetFree.of_bodySF (plainFor_of_name pn_com_example_nest3_nest3_StackOperationNamesStackSymbolPinLaw) hisR ?_
  intro p e s m args below meth c s₁ Bd hml0 hP hK
  obtain ⟨rfl, hZ, hh⟩ := hP
  have hx := Bd.exec
  have hby := Bd.bytes
  have hml : c.maxLocals = 5 := hml0
  have hown : s.vm.findClass "com/example/nest3/nest3/StackOperationNamesStackSymbolPinLaw" = some m.cls := findClass_of_methodNamed Bd.named
  have hnm := (name_of_methodNamed Bd.named Bd.method).1
  have X0 : Stand p l e room_1 s m #[(.int p1)] below meth c s₁ [] 0 0 := Stand.of_body Bd
  have e0 : s₁.heap = h0 := by rw [← hh, Bd.state]; rfl
  have N0 := Fr.nil n0
  have pre0 : ∀ t, Steps p.tables e below (s₁.setTop (mkF m 0 #[.val (.int p1), .unset, .unset, .unset, .unset] [])) t → Steps p.tables e below (s₁.setTop (entryFrame m #[(.int p1)] maxLocals)) t := fun t k => castTop (ef_rm0 m p1) k
  have pre1 : ∀ t, Steps p.tables e below (s₁.setTop (mkF m 4 #[.val (.int p1), .val (.int (p1 &&& (3 : Int32))), .unset, .unset, .unset] [])) t → Steps p.tables e below (s₁.setTop (entryFrame m #[(.int p1)] maxLocals)) t := fun t kt => pre0 t (by
    refine XS.iloadN X0.here hx rfl (hb hby at_0) rfl ?_
    show Steps p.tables e below (s₁.setTop (mkF m 1 #[.val (.int p1), .unset, .unset, .unset, .unset] [(.int p1)])) _
    refine XS.iconst X0.here hx rfl (hb hby at_1) ?_
    show Steps p.tables e below (s₁.setTop (mkF m 2 #[.val (.int p1), .unset, .unset, .unset, .unset] [(.int (3 : Int32)), (.int p1)])) _
    refine XS.iand X0.here hx rfl (hb hby at_2) rfl ?_
    show Steps p.tables e below (s₁.setTop (mkF m 3 #[.val (.int p1), .unset, .unset, .unset, .unset] [(.int (p1 &&& (3 : Int32)))])) _
    refine XS.istoreN X0.here hx rfl (hb hby at_3) rfl (l' := #[.val (.int p1), .val (.int (p1 &&& (3 : Int32))), .unset, .unset, .unset]) rfl ?_
    show Steps p.tables e below (s₁.setTop (mkF m 4 #[.val (.int p1), .val (.int (p1 &&& (3 : Int32))), .unset, .unset, .unset] [])) _
    exact kt)
  obtain ⟨k, hk⟩ : ∃ z, z = (p1 &&& (3 : Int32)) := ⟨_, rfl⟩
  have pre2 : ∀ t, Steps p.tables e below (s₁.setTop (mkF m 4 #[.val (.int p1), .val (.int k), .unset, .unset, .unset] [])) t → Steps p.tables e below (s₁.setTop (entryFrame m #[(.int p1)] maxLocals)) t := by
    rw [hk]; exact pre1
  have pre3 : ∀ t, Steps p.tables e below (s₁.setTop (mkF m 5 #[.val (.int p1), .val (.int k), .unset, .unset, .unset] [(.int k)])) t → Steps p.tables e below (s₁.setTop (entryFrame m #[(.int p1)] maxLocals)) t := fun t kt => pre2 t (by
    refine XS.iloadN X0.here hx rfl (hb hby at_4) rfl ?_
    show Steps p.tables e below (s₁.setTop (mkF m 5 #[.val (.int p1), .val (.int k), .unset, .unset, .unset] [(.int k)])) _
    exact kt)
  by_cases c5_1 : k = (0 : Int32)
  · have pre4 : ∀ t, Steps p.tables e below (s₁.setTop (mkF m 8 #[.val (.int p1), .val (.int k), .unset, .unset, .unset] [])) t → Steps p.tables e below (s₁.setTop (entryFrame m #[(.int p1)] maxLocals)) t := fun t kt => pre3 t (by
      refine XS.ifNo X0.here hx rfl (hb hby at_5) rfl ((if0 _ _).trans (teq c5_1).2) ?_
      show Steps p.tables e below (s₁.setTop (mkF m 8 #[.val (.int p1), .val (.int k), .unset, .unset, .unset] [])) _
      exact kt)
    obtain ⟨T5, X5, e5, st5⟩ := getS2 X0 hx hZ hown (host := "") (Or.inl (hw _ (List.mem_of_getElem? (i := 0) rfl))) Via.refl e0 S_NONE (g := (mkF m 8 #[.val (.int p1), .val (.int k), .unset, .unset, .unset] [])) rfl (hb hby at_8)
    have pre6 : ∀ t, Steps p.tables e below (T5.setTop (mkF m 11 #[.val (.int p1), .val (.int k), .unset, .unset, .unset] [(.ref w_NONE)])) t → Steps p.tables e below (s₁.setTop (entryFrame m #[(.int p1)] maxLocals)) t := fun t kt => pre4 t (st5 _ kt)
    have pre7 : ∀ t, Steps p.tables e below (T5.setTop (mkF m 52 #[.val (.int p1), .val (.int k), .val (.ref w_NONE), .val (.int (0 : Int32)), .unset] [(.ref w_NONE)])) t → Steps p.tables e below (s₁.setTop (entryFrame m #[(.int p1)] maxLocals)) t := fun t kt => pre6 t (by
      refine XS.astoreN X5.here hx rfl (hb hby at_11) rfl rfl (l' := #[.val (.int p1), .val (.int k), .val (.ref w_NONE), .unset, .unset]) rfl ?_
      show Steps p.tables e below (T5.setTop (mkF m 12 #[.val (.int p1), .val (.int k), .val (.ref w_NONE), .unset, .unset] [])) _
      refine XS.iconst X5.here hx rfl (hb hby at_12) ?_
      show Steps p.tables e below (T5.setTop (mkF m 13 #[.val (.int p1), .val (.int k), .val (.ref w_NONE), .unset, .unset] [(.int (0 : Int32))])) _
      refine XS.istoreN X5.here hx rfl (hb hby at_13) rfl (l' := #[.val (.int p1), .val (.int k), .val (.ref w_NONE), .val (.int (0 : Int32)), .unset]) rfl ?_
      show Steps p.tables e below (T5.setTop (mkF m 14 #[.val (.int p1), .val (.int k), .val (.ref w_NONE), .val (.int (0 : Int32)), .unset] [])) _
      refine XS.goto X5.here hx rfl (pc0 := 14) (pc' := 51) rfl (hb hby at_14) (by decide) (by decide) ?_
      show Steps p.tables e below (T5.setTop (mkF m 51 #[.val (.int p1), .val (.int k), .val (.ref w_NONE), .val (.int (0 : Int32)), .unset] [])) _
      refine XS.aloadN X5.here hx rfl (hb hby at_51) rfl rfl ?_
      show Steps p.tables e below (T5.setTop (mkF m 52 #[.val (.int p1), .val (.int k), .val (.ref w_NONE), .val (.int (0 : Int32)), .unset] [(.ref w_NONE)])) _
      exact kt)
    obtain ⟨cq8, kq8, q8a, q8b, q8c⟩ := isOf hZ e5 (E_NONE)
    obtain ⟨_, _, ⟨T8, L8, k8, n8⟩, -, X8, ⟨Lc8, hQ8, l8, y8, z8⟩, st8⟩ := X5.virtualBack hx (y := (⟨"com/example/nest3/nest3/StackOperation", "namesStackSymbol", "()Z"⟩ : MethodName)) (z := (⟨"com/example/nest3/nest3/StackOperation", "namesStackSymbol", "()Z"⟩ : MethodName)) hown (mvT hZ (hw _ (List.mem_of_getElem? (i := 3) rfl))) (mvT hZ (hw _ (List.mem_of_getElem? (i := 4) rfl))) (notFace_of_selects (args := #[]) (mvT hZ (hw _ (List.mem_of_getElem? (i := 6) rfl)))) (mvT hZ (hw _ (List.mem_of_getElem? (i := 6) rfl))) (mvT hZ (hw _ (List.mem_of_getElem? (i := 5) rfl))) (by decide) (backOf (W := 0) (rmS l Z a0 hw [] w_NONE w_PUSH w_POP h0 n0 Z0 S_PUSH S_POP) hZ (hw _ (List.mem_of_getElem? (i := 7) rfl)) (hw _ (List.mem_of_getElem? (i := 1) rfl)) (by decide) (by decide)) q8a q8c (g := (mkF m 52 #[.val (.int p1), .val (.int k), .val (.ref w_NONE), .val (.int (0 : Int32)), .unset] [(.ref w_NONE)])) rfl (by rw [hml]; rfl) (Steps.refl _) (argsL := []) (rest := []) (lenOf pd__28_29Z rfl) rfl (by show 2 * 0 + _ ≤ _; exact Nat.le_of_eq rfl) (hb hby at_52) (fun _ _ => ⟨rfl, e5, (by decide : 0 + 0 ≤ _), (by decide : 0 + 0 ≤ _)⟩)
    dsimp only [Pt.U, Pt.locs, Pt.cells, Pt.slots] at X8 l8 y8 z8 st8 hQ8
    subst l8 y8 z8
    obtain ⟨rfl, N8q, e8q⟩ := hQ8
    have N8 := Fr.app N0 N8q
    have pre9 : ∀ t, Steps p.tables e below (T8.setTop (mkF m 55 #[.val (.int p1), .val (.int k), .val (.ref w_NONE), .val (.int (0 : Int32)), .unset] [(.int (if w_NONE = w_PUSH then (1 : Int32) else (if w_NONE = w_POP then (1 : Int32) else (0 : Int32))))])) t → Steps p.tables e below (s₁.setTop (entryFrame m #[(.int p1)] maxLocals)) t := fun t kt => pre7 t (st8.trans kt)
    have hv10 : (if w_NONE = w_PUSH then (1 : Int32) else (if w_NONE = w_POP then (1 : Int32) else (0 : Int32))) = (0 : Int32) := by rw [if_neg n_NONE_PUSH, if_neg n_NONE_POP]
    have pre10 : ∀ t, Steps p.tables e below (T8.setTop (mkF m 55 #[.val (.int p1), .val (.int k), .val (.ref w_NONE), .val (.int (0 : Int32)), .unset] [(.int (0 : Int32))])) t → Steps p.tables e below (s₁.setTop (entryFrame m #[(.int p1)] maxLocals)) t := fun t kt => pre9 t (by rw [hv10]; exact kt)
    have pre11 : ∀ t, Steps p.tables e below (T8.setTop (mkF m 83 #[.val (.int p1), .val (.int k), .val (.ref w_NONE), .val (.int (0 : Int32)), .val (.int (0 : Int32))] [(.int (1 : Int32))])) t → Steps p.tables e below (s₁.setTop (entryFrame m #[(.int p1)] maxLocals)) t := fun t kt => pre10 t (by
      refine XS.istore X8.here hx rfl (hb hby at_55) rfl (l' := #[.val (.int p1), .val (.int k), .val (.ref w_NONE), .val (.int (0 : Int32)), .val (.int (0 : Int32))]) rfl ?_
      show Steps p.tables e below (T8.setTop (mkF m 57 #[.val (.int p1), .val (.int k), .val (.ref w_NONE), .val (.int (0 : Int32)), .val (.int (0 : Int32))] [])) _
      refine XS.iload X8.here hx rfl (hb hby at_57) rfl ?_
      show Steps p.tables e below (T8.setTop (mkF m 59 #[.val (.int p1), .val (.int k), .val (.ref w_NONE), .val (.int (0 : Int32)), .val (.int (0 : Int32))] [(.int (0 : Int32))])) _
      refine XS.iloadN X8.here hx rfl (hb hby at_59) rfl ?_
      show Steps p.tables e below (T8.setTop (mkF m 60 #[.val (.int p1), .val (.int k), .val (.ref w_NONE), .val (.int (0 : Int32)), .val (.int (0 : Int32))] [(.int (0 : Int32)), (.int (0 : Int32))])) _
      refine XS.icmpYes X8.here hx rfl (pc0 := 60) (pc' := 65) rfl (hb hby at_60) rfl (teq rfl).1 (by decide) (by decide) ?_
      show Steps p.tables e below (T8.setTop (mkF m 65 #[.val (.int p1), .val (.int k), .val (.ref w_NONE), .val (.int (0 : Int32)), .val (.int (0 : Int32))] [])) _
      refine XS.iload X8.here hx rfl (hb hby at_65) rfl ?_
      show Steps p.tables e below (T8.setTop (mkF m 67 #[.val (.int p1), .val (.int k), .val (.ref w_NONE), .val (.int (0 : Int32)), .val (.int (0 : Int32))] [(.int (0 : Int32))])) _
      refine XS.ifYes X8.here hx rfl (pc0 := 67) (pc' := 82) rfl (hb hby at_67) rfl ((if0 _ _).trans (teq rfl).1) (by decide) (by decide) ?_
      show Steps p.tables e below (T8.setTop (mkF m 82 #[.val (.int p1), .val (.int k), .val (.ref w_NONE), .val (.int (0 : Int32)), .val (.int (0 : Int32))] [])) _
      refine XS.iconst X8.here hx rfl (hb hby at_82) ?_
      show Steps p.tables e below (T8.setTop (mkF m 83 #[.val (.int p1), .val (.int k), .val (.ref w_NONE), .val (.int (0 : Int32)), .val (.int (0 : Int32))] [(.int (1 : Int32))])) _
      exact kt)
    obtain ⟨fs, hr, hrun, hended, hW, hsame⟩ := X8.leave (v := (some (.int (1 : Int32)))) (fun h => by rw [Bd.returns] at h; cases h)
    refine ⟨_, _, pre11 _ ?_, hrun, hended, _, _, rfl, ?_, ⟨_, rfl⟩, hW, hsame.mono (by decide) (by decide)⟩
    · exact retN X8 hx (t := .boolean) Bd.returns (by simp) (hb hby at_83) hr
    · show Q0 Z  h0 n0 _ T8.heap _
      rw [e8q]
      exact ⟨rfl, N8⟩
  · have pre13 : ∀ t, Steps p.tables e below (s₁.setTop (mkF m 19 #[.val (.int p1), .val (.int k), .unset, .unset, .unset] [(.int (1 : Int32)), (.int k)])) t → Steps p.tables e below (s₁.setTop (entryFrame m #[(.int p1)] maxLocals)) t := fun t kt => pre3 t (by
      refine XS.ifYes X0.here hx rfl (pc0 := 5) (pc' := 17) rfl (hb hby at_5) rfl ((if0 _ _).trans (feq c5_1).2) (by decide) (by decide) ?_
      show Steps p.tables e below (s₁.setTop (mkF m 17 #[.val (.int p1), .val (.int k), .unset, .unset, .unset] [])) _
      refine XS.iloadN X0.here hx rfl (hb hby at_17) rfl ?_
      show Steps p.tables e below (s₁.setTop (mkF m 18 #[.val (.int p1), .val (.int k), .unset, .unset, .unset] [(.int k)])) _
      refine XS.iconst X0.here hx rfl (hb hby at_18) ?_
      show Steps p.tables e below (s₁.setTop (mkF m 19 #[.val (.int p1), .val (.int k), .unset, .unset, .unset] [(.int (1 : Int32)), (.int k)])) _
      exact kt)
    by_cases c19_2 : k = (1 : Int32)
    · have pre14 : ∀ t, Steps p.tables e below (s₁.setTop (mkF m 22 #[.val (.int p1), .val (.int k), .unset, .unset, .unset] [])) t → Steps p.tables e below (s₁.setTop (entryFrame m #[(.int p1)] maxLocals)) t := fun t kt => pre13 t (by
        refine XS.icmpNo X0.here hx rfl (hb hby at_19) rfl (teq c19_2).2 ?_
        show Steps p.tables e below (s₁.setTop (mkF m 22 #[.val (.int p1), .val (.int k), .unset, .unset, .unset] [])) _
        exact kt)
      obtain ⟨T15, X15, e15, st15⟩ := getS2 X0 hx hZ hown (host := "") (Or.inl (hw _ (List.mem_of_getElem? (i := 26) rfl))) Via.refl e0 S_PUSH (g := (mkF m 22 #[.val (.int p1), .val (.int k), .unset, .unset, .unset] [])) rfl (hb hby at_22)
      have pre16 : ∀ t, Steps p.tables e below (T15.setTop (mkF m 25 #[.val (.int p1), .val (.int k), .unset, .unset, .unset] [(.ref w_PUSH)])) t → Steps p.tables e below (s₁.setTop (entryFrame m #[(.int p1)] maxLocals)) t := fun t kt => pre14 t (st15 _ kt)
      have pre17 : ∀ t, Steps p.tables e below (T15.setTop (mkF m 52 #[.val (.int p1), .val (.int k), .val (.ref w_PUSH), .val (.int (1 : Int32)), .unset] [(.ref w_PUSH)])) t → Steps p.tables e below (s₁.setTop (entryFrame m #[(.int p1)] maxLocals)) t := fun t kt => pre16 t (by
        refine XS.astoreN X15.here hx rfl (hb hby at_25) rfl rfl (l' := #[.val (.int p1), .val (.int k), .val (.ref w_PUSH), .unset, .unset]) rfl ?_
        show Steps p.tables e below (T15.setTop (mkF m 26 #[.val (.int p1), .val (.int k), .val (.ref w_PUSH), .unset, .unset] [])) _
        refine XS.iconst X15.here hx rfl (hb hby at_26) ?_
        show Steps p.tables e below (T15.setTop (mkF m 27 #[.val (.int p1), .val (.int k), .val (.ref w_PUSH), .unset, .unset] [(.int (1 : Int32))])) _
        refine XS.istoreN X15.here hx rfl (hb hby at_27) rfl (l' := #[.val (.int p1), .val (.int k), .val (.ref w_PUSH), .val (.int (1 : Int32)), .unset]) rfl ?_
        show Steps p.tables e below (T15.setTop (mkF m 28 #[.val (.int p1), .val (.int k), .val (.ref w_PUSH), .val (.int (1 : Int32)), .unset] [])) _
        refine XS.goto X15.here hx rfl (pc0 := 28) (pc' := 51) rfl (hb hby at_28) (by decide) (by decide) ?_
        show Steps p.tables e below (T15.setTop (mkF m 51 #[.val (.int p1), .val (.int k), .val (.ref w_PUSH), .val (.int (1 : Int32)), .unset] [])) _
        refine XS.aloadN X15.here hx rfl (hb hby at_51) rfl rfl ?_
        show Steps p.tables e below (T15.setTop (mkF m 52 #[.val (.int p1), .val (.int k), .val (.ref w_PUSH), .val (.int (1 : Int32)), .unset] [(.ref w_PUSH)])) _
        exact kt)
      obtain ⟨cq18, kq18, q18a, q18b, q18c⟩ := isOf hZ e15 (E_PUSH)
      obtain ⟨_, _, ⟨T18, L18, k18, n18⟩, -, X18, ⟨Lc18, hQ18, l18, y18, z18⟩, st18⟩ := X15.virtualBack hx (y := (⟨"com/example/nest3/nest3/StackOperation", "namesStackSymbol", "()Z"⟩ : MethodName)) (z := (⟨"com/example/nest3/nest3/StackOperation", "namesStackSymbol", "()Z"⟩ : MethodName)) hown (mvT hZ (hw _ (List.mem_of_getElem? (i := 3) rfl))) (mvT hZ (hw _ (List.mem_of_getElem? (i := 4) rfl))) (notFace_of_selects (args := #[]) (mvT hZ (hw _ (List.mem_of_getElem? (i := 6) rfl)))) (mvT hZ (hw _ (List.mem_of_getElem? (i := 6) rfl))) (mvT hZ (hw _ (List.mem_of_getElem? (i := 5) rfl))) (by decide) (backOf (W := 0) (rmS l Z a0 hw [] w_PUSH w_PUSH w_POP h0 n0 Z0 S_PUSH S_POP) hZ (hw _ (List.mem_of_getElem? (i := 7) rfl)) (hw _ (List.mem_of_getElem? (i := 1) rfl)) (by decide) (by decide)) q18a q18c (g := (mkF m 52 #[.val (.int p1), .val (.int k), .val (.ref w_PUSH), .val (.int (1 : Int32)), .unset] [(.ref w_PUSH)])) rfl (by rw [hml]; rfl) (Steps.refl _) (argsL := []) (rest := []) (lenOf pd__28_29Z rfl) rfl (by show 2 * 0 + _ ≤ _; exact Nat.le_of_eq rfl) (hb hby at_52) (fun _ _ => ⟨rfl, e15, (by decide : 0 + 0 ≤ _), (by decide : 0 + 0 ≤ _)⟩)
      dsimp only [Pt.U, Pt.locs, Pt.cells, Pt.slots] at X18 l18 y18 z18 st18 hQ18
      subst l18 y18 z18
      obtain ⟨rfl, N18q, e18q⟩ := hQ18
      have N18 := Fr.app N0 N18q
      have pre19 : ∀ t, Steps p.tables e below (T18.setTop (mkF m 55 #[.val (.int p1), .val (.int k), .val (.ref w_PUSH), .val (.int (1 : Int32)), .unset] [(.int (if w_PUSH = w_PUSH then (1 : Int32) else (if w_PUSH = w_POP then (1 : Int32) else (0 : Int32))))])) t → Steps p.tables e below (s₁.setTop (entryFrame m #[(.int p1)] maxLocals)) t := fun t kt => pre17 t (st18.trans kt)
      have hv20 : (if w_PUSH = w_PUSH then (1 : Int32) else (if w_PUSH = w_POP then (1 : Int32) else (0 : Int32))) = (1 : Int32) := if_pos rfl
      have pre20 : ∀ t, Steps p.tables e below (T18.setTop (mkF m 55 #[.val (.int p1), .val (.int k), .val (.ref w_PUSH), .val (.int (1 : Int32)), .unset] [(.int (1 : Int32))])) t → Steps p.tables e below (s₁.setTop (entryFrame m #[(.int p1)] maxLocals)) t := fun t kt => pre19 t (by rw [hv20]; exact kt)
      have pre21 : ∀ t, Steps p.tables e below (T18.setTop (mkF m 71 #[.val (.int p1), .val (.int k), .val (.ref w_PUSH), .val (.int (1 : Int32)), .val (.int (1 : Int32))] [(.ref w_PUSH)])) t → Steps p.tables e below (s₁.setTop (entryFrame m #[(.int p1)] maxLocals)) t := fun t kt => pre20 t (by
        refine XS.istore X18.here hx rfl (hb hby at_55) rfl (l' := #[.val (.int p1), .val (.int k), .val (.ref w_PUSH), .val (.int (1 : Int32)), .val (.int (1 : Int32))]) rfl ?_
        show Steps p.tables e below (T18.setTop (mkF m 57 #[.val (.int p1), .val (.int k), .val (.ref w_PUSH), .val (.int (1 : Int32)), .val (.int (1 : Int32))] [])) _
        refine XS.iload X18.here hx rfl (hb hby at_57) rfl ?_
        show Steps p.tables e below (T18.setTop (mkF m 59 #[.val (.int p1), .val (.int k), .val (.ref w_PUSH), .val (.int (1 : Int32)), .val (.int (1 : Int32))] [(.int (1 : Int32))])) _
        refine XS.iloadN X18.here hx rfl (hb hby at_59) rfl ?_
        show Steps p.tables e below (T18.setTop (mkF m 60 #[.val (.int p1), .val (.int k), .val (.ref w_PUSH), .val (.int (1 : Int32)), .val (.int (1 : Int32))] [(.int (1 : Int32)), (.int (1 : Int32))])) _
        refine XS.icmpYes X18.here hx rfl (pc0 := 60) (pc' := 65) rfl (hb hby at_60) rfl (teq rfl).1 (by decide) (by decide) ?_
        show Steps p.tables e below (T18.setTop (mkF m 65 #[.val (.int p1), .val (.int k), .val (.ref w_PUSH), .val (.int (1 : Int32)), .val (.int (1 : Int32))] [])) _
        refine XS.iload X18.here hx rfl (hb hby at_65) rfl ?_
        show Steps p.tables e below (T18.setTop (mkF m 67 #[.val (.int p1), .val (.int k), .val (.ref w_PUSH), .val (.int (1 : Int32)), .val (.int (1 : Int32))] [(.int (1 : Int32))])) _
        refine XS.ifNo X18.here hx rfl (hb hby at_67) rfl ((if0 _ _).trans (feq (by decide : ¬ ((1 : Int32) = (0 : Int32)))).1) ?_
        show Steps p.tables e below (T18.setTop (mkF m 70 #[.val (.int p1), .val (.int k), .val (.ref w_PUSH), .val (.int (1 : Int32)), .val (.int (1 : Int32))] [])) _
        refine XS.aloadN X18.here hx rfl (hb hby at_70) rfl rfl ?_
        show Steps p.tables e below (T18.setTop (mkF m 71 #[.val (.int p1), .val (.int k), .val (.ref w_PUSH), .val (.int (1 : Int32)), .val (.int (1 : Int32))] [(.ref w_PUSH)])) _
        exact kt)
      obtain ⟨cq22, kq22, q22a, q22b, q22c⟩ := isOf hZ e18q (E_PUSH)
      obtain ⟨_, _, ⟨T22, L22, k22, n22⟩, -, X22, ⟨Lc22, hQ22, l22, y22, z22⟩, st22⟩ := X18.virtualBack hx (y := (⟨"com/example/nest3/nest3/StackOperation", "kind", "()Lcom/example/nest3/nest3/SymbolKind;"⟩ : MethodName)) (z := (⟨"com/example/nest3/nest3/StackOperation", "kind", "()Lcom/example/nest3/nest3/SymbolKind;"⟩ : MethodName)) hown (mvT hZ (hw _ (List.mem_of_getElem? (i := 15) rfl))) (mvT hZ (hw _ (List.mem_of_getElem? (i := 16) rfl))) (notFace_of_selects (args := #[]) (mvT hZ (hw _ (List.mem_of_getElem? (i := 18) rfl)))) (mvT hZ (hw _ (List.mem_of_getElem? (i := 18) rfl))) (mvT hZ (hw _ (List.mem_of_getElem? (i := 17) rfl))) (by decide) (backOf (W := 0) (rmK l Z a0 hw [] w_PUSH w_CALL h0 n0 Z0 F_PUSH) hZ (hw _ (List.mem_of_getElem? (i := 19) rfl)) (hw _ (List.mem_of_getElem? (i := 1) rfl)) (by decide) (by decide)) q22a q22c (g := (mkF m 71 #[.val (.int p1), .val (.int k), .val (.ref w_PUSH), .val (.int (1 : Int32)), .val (.int (1 : Int32))] [(.ref w_PUSH)])) rfl (by rw [hml]; rfl) (Steps.refl _) (argsL := []) (rest := []) (lenOf pd__28_29Lcom_2fexample_2fnest3_2fnest3_2fSymbolKind_3b rfl) rfl (by show 2 * 0 + _ ≤ _; exact Nat.le_of_eq rfl) (hb hby at_71) (fun _ _ => ⟨rfl, e18q, (by decide : 0 + 0 ≤ _), (by decide : 0 + 0 ≤ _)⟩)
      dsimp only [Pt.U, Pt.locs, Pt.cells, Pt.slots] at X22 l22 y22 z22 st22 hQ22
      subst l22 y22 z22
      obtain ⟨rfl, N22q, e22q⟩ := hQ22
      have N22 := Fr.app N18 N22q
      have pre23 : ∀ t, Steps p.tables e below (T22.setTop (mkF m 74 #[.val (.int p1), .val (.int k), .val (.ref w_PUSH), .val (.int (1 : Int32)), .val (.int (1 : Int32))] [(.ref w_CALL)])) t → Steps p.tables e below (s₁.setTop (entryFrame m #[(.int p1)] maxLocals)) t := fun t kt => pre21 t (st22.trans kt)
      obtain ⟨T24, X24, e24, st24⟩ := getS2 X22 hx hZ hown (host := "") (Or.inl (hw _ (List.mem_of_getElem? (i := 24) rfl))) Via.refl e22q S_INTERNAL (g := (mkF m 74 #[.val (.int p1), .val (.int k), .val (.ref w_PUSH), .val (.int (1 : Int32)), .val (.int (1 : Int32))] [(.ref w_CALL)])) rfl (hb hby at_74)
      have pre25 : ∀ t, Steps p.tables e below (T24.setTop (mkF m 77 #[.val (.int p1), .val (.int k), .val (.ref w_PUSH), .val (.int (1 : Int32)), .val (.int (1 : Int32))] [(.ref w_INTERNAL), (.ref w_CALL)])) t → Steps p.tables e below (s₁.setTop (entryFrame m #[(.int p1)] maxLocals)) t := fun t kt => pre23 t (st24 _ kt)
      have pre26 : ∀ t, Steps p.tables e below (T24.setTop (mkF m 83 #[.val (.int p1), .val (.int k), .val (.ref w_PUSH), .val (.int (1 : Int32)), .val (.int (1 : Int32))] [(.int (1 : Int32))])) t → Steps p.tables e below (s₁.setTop (entryFrame m #[(.int p1)] maxLocals)) t := fun t kt => pre25 t (by
        refine Jvm.RoadKit.acmp (g := (mkF m 77 #[.val (.int p1), .val (.int k), .val (.ref w_PUSH), .val (.int (1 : Int32)), .val (.int (1 : Int32))] [(.ref w_INTERNAL), (.ref w_CALL)])) X24 hx rfl rfl rfl (pc0 := 77) (pc' := 82) (same := false) rfl (hb hby at_77) rfl (decide_eq_false fun q => (n_CALL_INTERNAL : ¬ (w_CALL = w_INTERNAL)) (Value.ref.inj q)) (by decide) (by decide) ?_
        show Steps p.tables e below (T24.setTop (mkF m 82 #[.val (.int p1), .val (.int k), .val (.ref w_PUSH), .val (.int (1 : Int32)), .val (.int (1 : Int32))] [])) _
        refine XS.iconst X24.here hx rfl (hb hby at_82) ?_
        show Steps p.tables e below (T24.setTop (mkF m 83 #[.val (.int p1), .val (.int k), .val (.ref w_PUSH), .val (.int (1 : Int32)), .val (.int (1 : Int32))] [(.int (1 : Int32))])) _
        exact kt)
      obtain ⟨fs, hr, hrun, hended, hW, hsame⟩ := X24.leave (v := (some (.int (1 : Int32)))) (fun h => by rw [Bd.returns] at h; cases h)
      refine ⟨_, _, pre26 _ ?_, hrun, hended, _, _, rfl, ?_, ⟨_, rfl⟩, hW, hsame.mono (by decide) (by decide)⟩
      · exact retN X24 hx (t := .boolean) Bd.returns (by simp) (hb hby at_83) hr
      · show Q0 Z  h0 n0 _ T24.heap _
        rw [e24]
        exact ⟨rfl, N22⟩
    · have pre28 : ∀ t, Steps p.tables e below (s₁.setTop (mkF m 33 #[.val (.int p1), .val (.int k), .unset, .unset, .unset] [(.int (2 : Int32)), (.int k)])) t → Steps p.tables e below (s₁.setTop (entryFrame m #[(.int p1)] maxLocals)) t := fun t kt => pre13 t (by
        refine XS.icmpYes X0.here hx rfl (pc0 := 19) (pc' := 31) rfl (hb hby at_19) rfl (feq c19_2).2 (by decide) (by decide) ?_
        show Steps p.tables e below (s₁.setTop (mkF m 31 #[.val (.int p1), .val (.int k), .unset, .unset, .unset] [])) _
        refine XS.iloadN X0.here hx rfl (hb hby at_31) rfl ?_
        show Steps p.tables e below (s₁.setTop (mkF m 32 #[.val (.int p1), .val (.int k), .unset, .unset, .unset] [(.int k)])) _
        refine XS.iconst X0.here hx rfl (hb hby at_32) ?_
        show Steps p.tables e below (s₁.setTop (mkF m 33 #[.val (.int p1), .val (.int k), .unset, .unset, .unset] [(.int (2 : Int32)), (.int k)])) _
        exact kt)
      by_cases c33_3 : k = (2 : Int32)
      · have pre29 : ∀ t, Steps p.tables e below (s₁.setTop (mkF m 36 #[.val (.int p1), .val (.int k), .unset, .unset, .unset] [])) t → Steps p.tables e below (s₁.setTop (entryFrame m #[(.int p1)] maxLocals)) t := fun t kt => pre28 t (by
          refine XS.icmpNo X0.here hx rfl (hb hby at_33) rfl (teq c33_3).2 ?_
          show Steps p.tables e below (s₁.setTop (mkF m 36 #[.val (.int p1), .val (.int k), .unset, .unset, .unset] [])) _
          exact kt)
        obtain ⟨T30, X30, e30, st30⟩ := getS2 X0 hx hZ hown (host := "") (Or.inl (hw _ (List.mem_of_getElem? (i := 14) rfl))) Via.refl e0 S_POP (g := (mkF m 36 #[.val (.int p1), .val (.int k), .unset, .unset, .unset] [])) rfl (hb hby at_36)
        have pre31 : ∀ t, Steps p.tables e below (T30.setTop (mkF m 39 #[.val (.int p1), .val (.int k), .unset, .unset, .unset] [(.ref w_POP)])) t → Steps p.tables e below (s₁.setTop (entryFrame m #[(.int p1)] maxLocals)) t := fun t kt => pre29 t (st30 _ kt)
        have pre32 : ∀ t, Steps p.tables e below (T30.setTop (mkF m 52 #[.val (.int p1), .val (.int k), .val (.ref w_POP), .val (.int (1 : Int32)), .unset] [(.ref w_POP)])) t → Steps p.tables e below (s₁.setTop (entryFrame m #[(.int p1)] maxLocals)) t := fun t kt => pre31 t (by
          refine XS.astoreN X30.here hx rfl (hb hby at_39) rfl rfl (l' := #[.val (.int p1), .val (.int k), .val (.ref w_POP), .unset, .unset]) rfl ?_
          show Steps p.tables e below (T30.setTop (mkF m 40 #[.val (.int p1), .val (.int k), .val (.ref w_POP), .unset, .unset] [])) _
          refine XS.iconst X30.here hx rfl (hb hby at_40) ?_
          show Steps p.tables e below (T30.setTop (mkF m 41 #[.val (.int p1), .val (.int k), .val (.ref w_POP), .unset, .unset] [(.int (1 : Int32))])) _
          refine XS.istoreN X30.here hx rfl (hb hby at_41) rfl (l' := #[.val (.int p1), .val (.int k), .val (.ref w_POP), .val (.int (1 : Int32)), .unset]) rfl ?_
          show Steps p.tables e below (T30.setTop (mkF m 42 #[.val (.int p1), .val (.int k), .val (.ref w_POP), .val (.int (1 : Int32)), .unset] [])) _
          refine XS.goto X30.here hx rfl (pc0 := 42) (pc' := 51) rfl (hb hby at_42) (by decide) (by decide) ?_
          show Steps p.tables e below (T30.setTop (mkF m 51 #[.val (.int p1), .val (.int k), .val (.ref w_POP), .val (.int (1 : Int32)), .unset] [])) _
          refine XS.aloadN X30.here hx rfl (hb hby at_51) rfl rfl ?_
          show Steps p.tables e below (T30.setTop (mkF m 52 #[.val (.int p1), .val (.int k), .val (.ref w_POP), .val (.int (1 : Int32)), .unset] [(.ref w_POP)])) _
          exact kt)
        obtain ⟨cq33, kq33, q33a, q33b, q33c⟩ := isOf hZ e30 (E_POP)
        obtain ⟨_, _, ⟨T33, L33, k33, n33⟩, -, X33, ⟨Lc33, hQ33, l33, y33, z33⟩, st33⟩ := X30.virtualBack hx (y := (⟨"com/example/nest3/nest3/StackOperation", "namesStackSymbol", "()Z"⟩ : MethodName)) (z := (⟨"com/example/nest3/nest3/StackOperation", "namesStackSymbol", "()Z"⟩ : MethodName)) hown (mvT hZ (hw _ (List.mem_of_getElem? (i := 3) rfl))) (mvT hZ (hw _ (List.mem_of_getElem? (i := 4) rfl))) (notFace_of_selects (args := #[]) (mvT hZ (hw _ (List.mem_of_getElem? (i := 6) rfl)))) (mvT hZ (hw _ (List.mem_of_getElem? (i := 6) rfl))) (mvT hZ (hw _ (List.mem_of_getElem? (i := 5) rfl))) (by decide) (backOf (W := 0) (rmS l Z a0 hw [] w_POP w_PUSH w_POP h0 n0 Z0 S_PUSH S_POP) hZ (hw _ (List.mem_of_getElem? (i := 7) rfl)) (hw _ (List.mem_of_getElem? (i := 1) rfl)) (by decide) (by decide)) q33a q33c (g := (mkF m 52 #[.val (.int p1), .val (.int k), .val (.ref w_POP), .val (.int (1 : Int32)), .unset] [(.ref w_POP)])) rfl (by rw [hml]; rfl) (Steps.refl _) (argsL := []) (rest := []) (lenOf pd__28_29Z rfl) rfl (by show 2 * 0 + _ ≤ _; exact Nat.le_of_eq rfl) (hb hby at_52) (fun _ _ => ⟨rfl, e30, (by decide : 0 + 0 ≤ _), (by decide : 0 + 0 ≤ _)⟩)
        dsimp only [Pt.U, Pt.locs, Pt.cells, Pt.slots] at X33 l33 y33 z33 st33 hQ33
        subst l33 y33 z33
        obtain ⟨rfl, N33q, e33q⟩ := hQ33
        have N33 := Fr.app N0 N33q
        have pre34 : ∀ t, Steps p.tables e below (T33.setTop (mkF m 55 #[.val (.int p1), .val (.int k), .val (.ref w_POP), .val (.int (1 : Int32)), .unset] [(.int (if w_POP = w_PUSH then (1 : Int32) else (if w_POP = w_POP then (1 : Int32) else (0 : Int32))))])) t → Steps p.tables e below (s₁.setTop (entryFrame m #[(.int p1)] maxLocals)) t := fun t kt => pre32 t (st33.trans kt)
        have hv35 : (if w_POP = w_PUSH then (1 : Int32) else (if w_POP = w_POP then (1 : Int32) else (0 : Int32))) = (1 : Int32) := by rw [if_neg n_POP_PUSH, if_pos rfl]
        have pre35 : ∀ t, Steps p.tables e below (T33.setTop (mkF m 55 #[.val (.int p1), .val (.int k), .val (.ref w_POP), .val (.int (1 : Int32)), .unset] [(.int (1 : Int32))])) t → Steps p.tables e below (s₁.setTop (entryFrame m #[(.int p1)] maxLocals)) t := fun t kt => pre34 t (by rw [hv35]; exact kt)
        have pre36 : ∀ t, Steps p.tables e below (T33.setTop (mkF m 71 #[.val (.int p1), .val (.int k), .val (.ref w_POP), .val (.int (1 : Int32)), .val (.int (1 : Int32))] [(.ref w_POP)])) t → Steps p.tables e below (s₁.setTop (entryFrame m #[(.int p1)] maxLocals)) t := fun t kt => pre35 t (by
          refine XS.istore X33.here hx rfl (hb hby at_55) rfl (l' := #[.val (.int p1), .val (.int k), .val (.ref w_POP), .val (.int (1 : Int32)), .val (.int (1 : Int32))]) rfl ?_
          show Steps p.tables e below (T33.setTop (mkF m 57 #[.val (.int p1), .val (.int k), .val (.ref w_POP), .val (.int (1 : Int32)), .val (.int (1 : Int32))] [])) _
          refine XS.iload X33.here hx rfl (hb hby at_57) rfl ?_
          show Steps p.tables e below (T33.setTop (mkF m 59 #[.val (.int p1), .val (.int k), .val (.ref w_POP), .val (.int (1 : Int32)), .val (.int (1 : Int32))] [(.int (1 : Int32))])) _
          refine XS.iloadN X33.here hx rfl (hb hby at_59) rfl ?_
          show Steps p.tables e below (T33.setTop (mkF m 60 #[.val (.int p1), .val (.int k), .val (.ref w_POP), .val (.int (1 : Int32)), .val (.int (1 : Int32))] [(.int (1 : Int32)), (.int (1 : Int32))])) _
          refine XS.icmpYes X33.here hx rfl (pc0 := 60) (pc' := 65) rfl (hb hby at_60) rfl (teq rfl).1 (by decide) (by decide) ?_
          show Steps p.tables e below (T33.setTop (mkF m 65 #[.val (.int p1), .val (.int k), .val (.ref w_POP), .val (.int (1 : Int32)), .val (.int (1 : Int32))] [])) _
          refine XS.iload X33.here hx rfl (hb hby at_65) rfl ?_
          show Steps p.tables e below (T33.setTop (mkF m 67 #[.val (.int p1), .val (.int k), .val (.ref w_POP), .val (.int (1 : Int32)), .val (.int (1 : Int32))] [(.int (1 : Int32))])) _
          refine XS.ifNo X33.here hx rfl (hb hby at_67) rfl ((if0 _ _).trans (feq (by decide : ¬ ((1 : Int32) = (0 : Int32)))).1) ?_
          show Steps p.tables e below (T33.setTop (mkF m 70 #[.val (.int p1), .val (.int k), .val (.ref w_POP), .val (.int (1 : Int32)), .val (.int (1 : Int32))] [])) _
          refine XS.aloadN X33.here hx rfl (hb hby at_70) rfl rfl ?_
          show Steps p.tables e below (T33.setTop (mkF m 71 #[.val (.int p1), .val (.int k), .val (.ref w_POP), .val (.int (1 : Int32)), .val (.int (1 : Int32))] [(.ref w_POP)])) _
          exact kt)
        obtain ⟨cq37, kq37, q37a, q37b, q37c⟩ := isOf hZ e33q (E_POP)
        obtain ⟨_, _, ⟨T37, L37, k37, n37⟩, -, X37, ⟨Lc37, hQ37, l37, y37, z37⟩, st37⟩ := X33.virtualBack hx (y := (⟨"com/example/nest3/nest3/StackOperation", "kind", "()Lcom/example/nest3/nest3/SymbolKind;"⟩ : MethodName)) (z := (⟨"com/example/nest3/nest3/StackOperation", "kind", "()Lcom/example/nest3/nest3/SymbolKind;"⟩ : MethodName)) hown (mvT hZ (hw _ (List.mem_of_getElem? (i := 15) rfl))) (mvT hZ (hw _ (List.mem_of_getElem? (i := 16) rfl))) (notFace_of_selects (args := #[]) (mvT hZ (hw _ (List.mem_of_getElem? (i := 18) rfl)))) (mvT hZ (hw _ (List.mem_of_getElem? (i := 18) rfl))) (mvT hZ (hw _ (List.mem_of_getElem? (i := 17) rfl))) (by decide) (backOf (W := 0) (rmK l Z a0 hw [] w_POP w_RETURN h0 n0 Z0 F_POP) hZ (hw _ (List.mem_of_getElem? (i := 19) rfl)) (hw _ (List.mem_of_getElem? (i := 1) rfl)) (by decide) (by decide)) q37a q37c (g := (mkF m 71 #[.val (.int p1), .val (.int k), .val (.ref w_POP), .val (.int (1 : Int32)), .val (.int (1 : Int32))] [(.ref w_POP)])) rfl (by rw [hml]; rfl) (Steps.refl _) (argsL := []) (rest := []) (lenOf pd__28_29Lcom_2fexample_2fnest3_2fnest3_2fSymbolKind_3b rfl) rfl (by show 2 * 0 + _ ≤ _; exact Nat.le_of_eq rfl) (hb hby at_71) (fun _ _ => ⟨rfl, e33q, (by decide : 0 + 0 ≤ _), (by decide : 0 + 0 ≤ _)⟩)
        dsimp only [Pt.U, Pt.locs, Pt.cells, Pt.slots] at X37 l37 y37 z37 st37 hQ37
        subst l37 y37 z37
        obtain ⟨rfl, N37q, e37q⟩ := hQ37
        have N37 := Fr.app N33 N37q
        have pre38 : ∀ t, Steps p.tables e below (T37.setTop (mkF m 74 #[.val (.int p1), .val (.int k), .val (.ref w_POP), .val (.int (1 : Int32)), .val (.int (1 : Int32))] [(.ref w_RETURN)])) t → Steps p.tables e below (s₁.setTop (entryFrame m #[(.int p1)] maxLocals)) t := fun t kt => pre36 t (st37.trans kt)
        obtain ⟨T39, X39, e39, st39⟩ := getS2 X37 hx hZ hown (host := "") (Or.inl (hw _ (List.mem_of_getElem? (i := 24) rfl))) Via.refl e37q S_INTERNAL (g := (mkF m 74 #[.val (.int p1), .val (.int k), .val (.ref w_POP), .val (.int (1 : Int32)), .val (.int (1 : Int32))] [(.ref w_RETURN)])) rfl (hb hby at_74)
        have pre40 : ∀ t, Steps p.tables e below (T39.setTop (mkF m 77 #[.val (.int p1), .val (.int k), .val (.ref w_POP), .val (.int (1 : Int32)), .val (.int (1 : Int32))] [(.ref w_INTERNAL), (.ref w_RETURN)])) t → Steps p.tables e below (s₁.setTop (entryFrame m #[(.int p1)] maxLocals)) t := fun t kt => pre38 t (st39 _ kt)
        have pre41 : ∀ t, Steps p.tables e below (T39.setTop (mkF m 83 #[.val (.int p1), .val (.int k), .val (.ref w_POP), .val (.int (1 : Int32)), .val (.int (1 : Int32))] [(.int (1 : Int32))])) t → Steps p.tables e below (s₁.setTop (entryFrame m #[(.int p1)] maxLocals)) t := fun t kt => pre40 t (by
          refine Jvm.RoadKit.acmp (g := (mkF m 77 #[.val (.int p1), .val (.int k), .val (.ref w_POP), .val (.int (1 : Int32)), .val (.int (1 : Int32))] [(.ref w_INTERNAL), (.ref w_RETURN)])) X39 hx rfl rfl rfl (pc0 := 77) (pc' := 82) (same := false) rfl (hb hby at_77) rfl (decide_eq_false fun q => (n_RETURN_INTERNAL : ¬ (w_RETURN = w_INTERNAL)) (Value.ref.inj q)) (by decide) (by decide) ?_
          show Steps p.tables e below (T39.setTop (mkF m 82 #[.val (.int p1), .val (.int k), .val (.ref w_POP), .val (.int (1 : Int32)), .val (.int (1 : Int32))] [])) _
          refine XS.iconst X39.here hx rfl (hb hby at_82) ?_
          show Steps p.tables e below (T39.setTop (mkF m 83 #[.val (.int p1), .val (.int k), .val (.ref w_POP), .val (.int (1 : Int32)), .val (.int (1 : Int32))] [(.int (1 : Int32))])) _
          exact kt)
        obtain ⟨fs, hr, hrun, hended, hW, hsame⟩ := X39.leave (v := (some (.int (1 : Int32)))) (fun h => by rw [Bd.returns] at h; cases h)
        refine ⟨_, _, pre41 _ ?_, hrun, hended, _, _, rfl, ?_, ⟨_, rfl⟩, hW, hsame.mono (by decide) (by decide)⟩
        · exact retN X39 hx (t := .boolean) Bd.returns (by simp) (hb hby at_83) hr
        · show Q0 Z  h0 n0 _ T39.heap _
          rw [e39]
          exact ⟨rfl, N37⟩
      · have pre43 : ∀ t, Steps p.tables e below (s₁.setTop (mkF m 45 #[.val (.int p1), .val (.int k), .unset, .unset, .unset] [])) t → Steps p.tables e below (s₁.setTop (entryFrame m #[(.int p1)] maxLocals)) t := fun t kt => pre28 t (by
          refine XS.icmpYes X0.here hx rfl (pc0 := 33) (pc' := 45) rfl (hb hby at_33) rfl (feq c33_3).2 (by decide) (by decide) ?_
          show Steps p.tables e below (s₁.setTop (mkF m 45 #[.val (.int p1), .val (.int k), .unset, .unset, .unset] [])) _
          exact kt)
        obtain ⟨T44, X44, e44, st44⟩ := getS2 X0 hx hZ hown (host := "") (Or.inl (hw _ (List.mem_of_getElem? (i := 12) rfl))) Via.refl e0 S_POP_BOTTOM (g := (mkF m 45 #[.val (.int p1), .val (.int k), .unset, .unset, .unset] [])) rfl (hb hby at_45)
        have pre45 : ∀ t, Steps p.tables e below (T44.setTop (mkF m 48 #[.val (.int p1), .val (.int k), .unset, .unset, .unset] [(.ref w_POP_BOTTOM)])) t → Steps p.tables e below (s₁.setTop (entryFrame m #[(.int p1)] maxLocals)) t := fun t kt => pre43 t (st44 _ kt)
        have pre46 : ∀ t, Steps p.tables e below (T44.setTop (mkF m 52 #[.val (.int p1), .val (.int k), .val (.ref w_POP_BOTTOM), .val (.int (0 : Int32)), .unset] [(.ref w_POP_BOTTOM)])) t → Steps p.tables e below (s₁.setTop (entryFrame m #[(.int p1)] maxLocals)) t := fun t kt => pre45 t (by
          refine XS.astoreN X44.here hx rfl (hb hby at_48) rfl rfl (l' := #[.val (.int p1), .val (.int k), .val (.ref w_POP_BOTTOM), .unset, .unset]) rfl ?_
          show Steps p.tables e below (T44.setTop (mkF m 49 #[.val (.int p1), .val (.int k), .val (.ref w_POP_BOTTOM), .unset, .unset] [])) _
          refine XS.iconst X44.here hx rfl (hb hby at_49) ?_
          show Steps p.tables e below (T44.setTop (mkF m 50 #[.val (.int p1), .val (.int k), .val (.ref w_POP_BOTTOM), .unset, .unset] [(.int (0 : Int32))])) _
          refine XS.istoreN X44.here hx rfl (hb hby at_50) rfl (l' := #[.val (.int p1), .val (.int k), .val (.ref w_POP_BOTTOM), .val (.int (0 : Int32)), .unset]) rfl ?_
          show Steps p.tables e below (T44.setTop (mkF m 51 #[.val (.int p1), .val (.int k), .val (.ref w_POP_BOTTOM), .val (.int (0 : Int32)), .unset] [])) _
          refine XS.aloadN X44.here hx rfl (hb hby at_51) rfl rfl ?_
          show Steps p.tables e below (T44.setTop (mkF m 52 #[.val (.int p1), .val (.int k), .val (.ref w_POP_BOTTOM), .val (.int (0 : Int32)), .unset] [(.ref w_POP_BOTTOM)])) _
          exact kt)
        obtain ⟨cq47, kq47, q47a, q47b, q47c⟩ := isOf hZ e44 (E_POP_BOTTOM)
        obtain ⟨_, _, ⟨T47, L47, k47, n47⟩, -, X47, ⟨Lc47, hQ47, l47, y47, z47⟩, st47⟩ := X44.virtualBack hx (y := (⟨"com/example/nest3/nest3/StackOperation", "namesStackSymbol", "()Z"⟩ : MethodName)) (z := (⟨"com/example/nest3/nest3/StackOperation", "namesStackSymbol", "()Z"⟩ : MethodName)) hown (mvT hZ (hw _ (List.mem_of_getElem? (i := 3) rfl))) (mvT hZ (hw _ (List.mem_of_getElem? (i := 4) rfl))) (notFace_of_selects (args := #[]) (mvT hZ (hw _ (List.mem_of_getElem? (i := 6) rfl)))) (mvT hZ (hw _ (List.mem_of_getElem? (i := 6) rfl))) (mvT hZ (hw _ (List.mem_of_getElem? (i := 5) rfl))) (by decide) (backOf (W := 0) (rmS l Z a0 hw [] w_POP_BOTTOM w_PUSH w_POP h0 n0 Z0 S_PUSH S_POP) hZ (hw _ (List.mem_of_getElem? (i := 7) rfl)) (hw _ (List.mem_of_getElem? (i := 1) rfl)) (by decide) (by decide)) q47a q47c (g := (mkF m 52 #[.val (.int p1), .val (.int k), .val (.ref w_POP_BOTTOM), .val (.int (0 : Int32)), .unset] [(.ref w_POP_BOTTOM)])) rfl (by rw [hml]; rfl) (Steps.refl _) (argsL := []) (rest := []) (lenOf pd__28_29Z rfl) rfl (by show 2 * 0 + _ ≤ _; exact Nat.le_of_eq rfl) (hb hby at_52) (fun _ _ => ⟨rfl, e44, (by decide : 0 + 0 ≤ _), (by decide : 0 + 0 ≤ _)⟩)
        dsimp only [Pt.U, Pt.locs, Pt.cells, Pt.slots] at X47 l47 y47 z47 st47 hQ47
        subst l47 y47 z47
        obtain ⟨rfl, N47q, e47q⟩ := hQ47
        have N47 := Fr.app N0 N47q
        have pre48 : ∀ t, Steps p.tables e below (T47.setTop (mkF m 55 #[.val (.int p1), .val (.int k), .val (.ref w_POP_BOTTOM), .val (.int (0 : Int32)), .unset] [(.int (if w_POP_BOTTOM = w_PUSH then (1 : Int32) else (if w_POP_BOTTOM = w_POP then (1 : Int32) else (0 : Int32))))])) t → Steps p.tables e below (s₁.setTop (entryFrame m #[(.int p1)] maxLocals)) t := fun t kt => pre46 t (st47.trans kt)
        have hv49 : (if w_POP_BOTTOM = w_PUSH then (1 : Int32) else (if w_POP_BOTTOM = w_POP then (1 : Int32) else (0 : Int32))) = (0 : Int32) := by rw [if_neg n_POP_BOTTOM_PUSH, if_neg n_POP_BOTTOM_POP]
        have pre49 : ∀ t, Steps p.tables e below (T47.setTop (mkF m 55 #[.val (.int p1), .val (.int k), .val (.ref w_POP_BOTTOM), .val (.int (0 : Int32)), .unset] [(.int (0 : Int32))])) t → Steps p.tables e below (s₁.setTop (entryFrame m #[(.int p1)] maxLocals)) t := fun t kt => pre48 t (by rw [hv49]; exact kt)
        have pre50 : ∀ t, Steps p.tables e below (T47.setTop (mkF m 83 #[.val (.int p1), .val (.int k), .val (.ref w_POP_BOTTOM), .val (.int (0 : Int32)), .val (.int (0 : Int32))] [(.int (1 : Int32))])) t → Steps p.tables e below (s₁.setTop (entryFrame m #[(.int p1)] maxLocals)) t := fun t kt => pre49 t (by
          refine XS.istore X47.here hx rfl (hb hby at_55) rfl (l' := #[.val (.int p1), .val (.int k), .val (.ref w_POP_BOTTOM), .val (.int (0 : Int32)), .val (.int (0 : Int32))]) rfl ?_
          show Steps p.tables e below (T47.setTop (mkF m 57 #[.val (.int p1), .val (.int k), .val (.ref w_POP_BOTTOM), .val (.int (0 : Int32)), .val (.int (0 : Int32))] [])) _
          refine XS.iload X47.here hx rfl (hb hby at_57) rfl ?_
          show Steps p.tables e below (T47.setTop (mkF m 59 #[.val (.int p1), .val (.int k), .val (.ref w_POP_BOTTOM), .val (.int (0 : Int32)), .val (.int (0 : Int32))] [(.int (0 : Int32))])) _
          refine XS.iloadN X47.here hx rfl (hb hby at_59) rfl ?_
          show Steps p.tables e below (T47.setTop (mkF m 60 #[.val (.int p1), .val (.int k), .val (.ref w_POP_BOTTOM), .val (.int (0 : Int32)), .val (.int (0 : Int32))] [(.int (0 : Int32)), (.int (0 : Int32))])) _
          refine XS.icmpYes X47.here hx rfl (pc0 := 60) (pc' := 65) rfl (hb hby at_60) rfl (teq rfl).1 (by decide) (by decide) ?_
          show Steps p.tables e below (T47.setTop (mkF m 65 #[.val (.int p1), .val (.int k), .val (.ref w_POP_BOTTOM), .val (.int (0 : Int32)), .val (.int (0 : Int32))] [])) _
          refine XS.iload X47.here hx rfl (hb hby at_65) rfl ?_
          show Steps p.tables e below (T47.setTop (mkF m 67 #[.val (.int p1), .val (.int k), .val (.ref w_POP_BOTTOM), .val (.int (0 : Int32)), .val (.int (0 : Int32))] [(.int (0 : Int32))])) _
          refine XS.ifYes X47.here hx rfl (pc0 := 67) (pc' := 82) rfl (hb hby at_67) rfl ((if0 _ _).trans (teq rfl).1) (by decide) (by decide) ?_
          show Steps p.tables e below (T47.setTop (mkF m 82 #[.val (.int p1), .val (.int k), .val (.ref w_POP_BOTTOM), .val (.int (0 : Int32)), .val (.int (0 : Int32))] [])) _
          refine XS.iconst X47.here hx rfl (hb hby at_82) ?_
          show Steps p.tables e below (T47.setTop (mkF m 83 #[.val (.int p1), .val (.int k), .val (.ref w_POP_BOTTOM), .val (.int (0 : Int32)), .val (.int (0 : Int32))] [(.int (1 : Int32))])) _
          exact kt)
        obtain ⟨fs, hr, hrun, hended, hW, hsame⟩ := X47.leave (v := (some (.int (1 : Int32)))) (fun h => by rw [Bd.returns] at h; cases h)
        refine ⟨_, _, pre50 _ ?_, hrun, hended, _, _, rfl, ?_, ⟨_, rfl⟩, hW, hsame.mono (by decide) (by decide)⟩
        · exact retN X47 hx (t := .boolean) Bd.returns (by simp) (hb hby at_83) hr
        · show Q0 Z  h0 n0 _ T47.heap _
          rw [e47q]
          exact ⟨rfl, N47⟩
set_option maxRecDepth 65536 in
set_option maxHeartbeats 40000000 in
theorem comes_1 {Post : Tables → Env → Array Value → State → Outcome → State → Prop} (hpost : ∀ tb e args s v u, (limb_1_1.after args s (.returned v) u = true ∧ limb_1_2.after args s (.returned v) u = true ∧ True) → FrameEnd s (.returned v) u (Jvm.fieldLocs frame_1_writes args s ++ Jvm.arrayLocs frame_1_arrays args s ++ Jvm.staticLocs frame_1_statics s) 0 0 → Post tb e args s (.returned v) u) :
    ArmFor flags0 classFile x code maxLocals ret World_1 tables_1 room_1 Calls_1 rest_1 Pre_1 Post := by
  intro l hfl _ _ p e ha hc hk s m args below hf hA hF happ hP
  obtain ⟨hcalls, hrest, hpre⟩ := hP
  obtain ⟨-, -, -, hnamed, -, -, -, hat⟩ := (Spec.applies_iff hf).mp happ
  obtain ⟨hg, hn⟩ := and_e (Cond.before_iff.mp (show (Jvm.Cond.and given_1 narrow_1).before args s = true from hpre))
  obtain ⟨gc, ga⟩ := and_e hg
  obtain ⟨w0, rfl⟩ : ∃ w0 : Value, args = #[w0] := by
    have hs : args.size = 1 := by simpa [Cond.value, given_1] using gc
    obtain ⟨L⟩ := args
    match L, hs with
    | [w0], _ => exact ⟨w0, rfl⟩
  have hw := fun d (hd : d ∈ tables_1) => atoms_spec (ws := Jvm.Cond.code x code maxLocals ret :: tables_1) hat d (List.mem_cons_of_mem _ hd)
  have hfit : Fit s := fun {y c} hc i hi => by
    obtain ⟨ha, rfl⟩ := Array.getElem?_eq_some_iff.mp hc
    have q := List.all_eq_true.mp ((Array.all_eq_true_iff_forall_mem.mp hF) _ (Array.getElem_mem ha)) i (List.mem_range.mpr hi)
    simpa [Array.getElem?_eq_getElem hi] using q
  obtain ⟨i0, ei0⟩ := is_v ga
  obtain rfl : w0 = (.int i0) := Option.some.inj ei0
  obtain ⟨q0, t0⟩ := and_e hn
  obtain ⟨q1, t1⟩ := and_e t0
  obtain ⟨q2, t2⟩ := and_e t1
  obtain ⟨q3, t3⟩ := and_e t2
  obtain ⟨q4, t4⟩ := and_e t3
  obtain ⟨q5, t5⟩ := and_e t4
  obtain ⟨q6, t6⟩ := and_e t5
  obtain ⟨q7, t7⟩ := and_e t6
  obtain ⟨q8, t8⟩ := and_e t7
  obtain ⟨q9, t9⟩ := and_e t8
  obtain ⟨q10, t10⟩ := and_e t9
  obtain ⟨q11, t11⟩ := and_e t10
  obtain ⟨q12, t12⟩ := and_e t11
  obtain ⟨q13, t13⟩ := and_e t12
  obtain ⟨q14, t14⟩ := and_e t13
  obtain ⟨q15, t15⟩ := and_e t14
  obtain ⟨q16, t16⟩ := and_e t15
  have q17 := t16
  obtain ⟨w_NONE, ev_NONE⟩ := exa_v q0
  have S_NONE := Sta.start ev_NONE (Or.inr ⟨(hw _ (List.mem_of_getElem? (i := 1) rfl)), (hw _ (List.mem_of_getElem? (i := 2) rfl))⟩)
  have E_NONE := Exa.start ev_NONE q0
  obtain ⟨w_PUSH, ev_PUSH⟩ := exa_v q1
  have S_PUSH := Sta.start ev_PUSH (Or.inr ⟨(hw _ (List.mem_of_getElem? (i := 1) rfl)), (hw _ (List.mem_of_getElem? (i := 9) rfl))⟩)
  have E_PUSH := Exa.start ev_PUSH q1
  obtain ⟨w_POP, ev_POP⟩ := exa_v q4
  have S_POP := Sta.start ev_POP (Or.inr ⟨(hw _ (List.mem_of_getElem? (i := 1) rfl)), (hw _ (List.mem_of_getElem? (i := 11) rfl))⟩)
  have E_POP := Exa.start ev_POP q4
  obtain ⟨w_POP_BOTTOM, ev_POP_BOTTOM⟩ := exa_v q6
  have S_POP_BOTTOM := Sta.start ev_POP_BOTTOM (Or.inr ⟨(hw _ (List.mem_of_getElem? (i := 1) rfl)), (hw _ (List.mem_of_getElem? (i := 13) rfl))⟩)
  have E_POP_BOTTOM := Exa.start ev_POP_BOTTOM q6
  obtain ⟨w_RETURN, ev_RETURN⟩ := exa_v q8
  have S_RETURN := Sta.start ev_RETURN (Or.inr ⟨(hw _ (List.mem_of_getElem? (i := 22) rfl)), (hw _ (List.mem_of_getElem? (i := 23) rfl))⟩)
  have E_RETURN := Exa.start ev_RETURN q8
  obtain ⟨w_INTERNAL, ev_INTERNAL⟩ := exa_v q10
  have S_INTERNAL := Sta.start ev_INTERNAL (Or.inr ⟨(hw _ (List.mem_of_getElem? (i := 22) rfl)), (hw _ (List.mem_of_getElem? (i := 25) rfl))⟩)
  have E_INTERNAL := Exa.start ev_INTERNAL q10
  obtain ⟨w_CALL, ev_CALL⟩ := exa_v q13
  have S_CALL := Sta.start ev_CALL (Or.inr ⟨(hw _ (List.mem_of_getElem? (i := 22) rfl)), (hw _ (List.mem_of_getElem? (i := 27) rfl))⟩)
  have E_CALL := Exa.start ev_CALL q13
  have F2 := own_fldI q2 ev_NONE
  have F3 := own_fldI q3 ev_PUSH
  have F5 := own_fldI q5 ev_POP
  have F7 := own_fldI q7 ev_POP_BOTTOM
  have F9 := own_fldR q9 ev_POP ev_RETURN
  have F11 := own_fldI q11 ev_RETURN
  have F12 := own_fldI q12 ev_INTERNAL
  have F14 := own_fldR q14 ev_PUSH ev_CALL
  have F15 := own_fldI q15 ev_CALL
  have F16 := own_fldR q16 ev_NONE ev_INTERNAL
  have F17 := own_fldR q17 ev_POP_BOTTOM ev_RETURN
  obtain ⟨n, o, h1, h2, h3, _, L, rfl, ⟨rfl, N⟩, hq⟩ := rm0 l s _ hw tables_1 i0 w_NONE w_PUSH w_POP w_POP_BOTTOM w_CALL w_RETURN w_INTERNAL s.heap s.heap.size (Nat.le_refl _) S_NONE S_PUSH S_POP S_POP_BOTTOM S_CALL S_RETURN S_INTERNAL E_NONE E_PUSH E_POP E_POP_BOTTOM F16 F14 F9 F17 (own_fldne F2 F3 (by decide)) (own_fldne F5 F3 (by decide)) (own_fldne F7 F3 (by decide)) (own_fldne F2 F5 (by decide)) (own_fldne F3 F5 (by decide)) (own_fldne F7 F5 (by decide)) (own_fldne F15 F12 (by decide)) (own_fldne F11 F12 (by decide)) p e ha hc hk s m _ below hf ((Spec.applies_iff_loose hf).mp happ).1 ⟨rfl, State.Warmed39.refl s, rfl⟩ trivial
  refine ⟨n, _, h1, h2, h3, hpost _ _ _ _ _ _ ⟨Cond.after_iff.mpr rfl, Cond.after_iff.mpr (eq_i res_at (Term.int_eval (1)) rfl), trivial⟩ ⟨hq.1, hq.2.1, (hq.2.2.sift fun y hy => Or.inr (N y hy)).mono (by decide) (by decide)⟩⟩
theorem main_1_1 : Claimed_1_1 := comes_1 fun _ _ _ _ _ _ h hF => ⟨h.1, hF⟩
theorem main_1_2 : Claimed_1_2 := comes_1 fun _ _ _ _ _ _ h hF => ⟨h.2.1, hF⟩
end Jvm.Pilot.@@N@@
namespace Jvm.Pilot.@@N@@
open Jvm Jvm.ClassFile Sem Op Lib Jvm.Free Jvm.Stand Jvm.Pilot.@@N@@.Jvm.D
/-! MADE BY PROGRAM (witnessworld.py) out of the Statement's table words and the real class files: 13 classes; the members and pool entries that the words name. The judged class is class 1, her method 1. -/
namespace start1
open Jvm.ClassFile
def u (s : String) : CpInfo := .utf8 (stringToUtf16 s)
/-- a pool by its gaps: so many unusable entries, then the entry; so many at the end -/
def gap : Nat → List CpInfo → List CpInfo
  | 0, r => r
  | n + 1, r => .unusable :: gap n r
def poolList (es : List (Nat × CpInfo)) (last : Nat) : List CpInfo := es.foldr (fun e r => gap e.1 (e.2 :: r)) (gap last [])
def pool (es : List (Nat × CpInfo)) (last : Nat) : Array CpInfo := ⟨poolList es last⟩
def fileOf (pool : Array CpInfo) (this : Nat) (attrs : Array Attribute := #[]) (ms : Array MethodInfo := #[]) (fl : Nat := 33) (sup : Nat := 0) (ifs : Array Nat := #[]) (fds : Array FieldInfo := #[]) : ClassFile where
  minorVersion := 0
  majorVersion := 65
  constantPool := pool
  accessFlags := fl
  thisClass := this
  superClass := sup
  interfaces := ifs
  fields := fds
  methods := ms
  attributes := attrs
def plain (name : String) (sup : Option ClassId) : Class where
  name := name
  kind := .ordinary
  loader := none
  accessFlags := 33
  super := sup
  interfaces := #[]
  cf := none
  fields := #[]
  methods := #[]
  instanceTypes := #[]
  staticTypes := #[]
  resolved := #[]
  callSites := []
  init := .initialized
  statics := none
  mirror := none

def pool0 : Array CpInfo := pool [(5, u "<init>"), (0, u "()V"), (1, .class_ 10), (1, u "java/lang/Object")] 113

def k0m0 : Method := { name := "<init>", desc := "()V", sig := { parameters := [], returnType := none }, accessFlags := 1, code := none }
/-- java/lang/Object -/
def k0 : Class := { plain "java/lang/Object" none with
  accessFlags := 33
  interfaces := #[]
  cf := some (fileOf pool0 8 #[] #[{ accessFlags := 1, nameIndex := 5, descriptorIndex := 6, attributes := #[] }] 33 0 #[] #[])
  fields := #[]
  methods := #[k0m0]
  instanceTypes := #[]
  staticTypes := #[]
  resolved := Array.replicate 124 none
  statics := none }

def pool1 : Array CpInfo := pool [(2, .class_ 4), (1, u "java/lang/Object"), (0, u "<init>"), (0, u "()V"), (0, .fieldref 8 9), (0, .class_ 10), (0, .nameAndType 11 12), (0, u "com/example/nest3/nest3/StackOperation"), (0, u "NONE"), (0, u "Lcom/example/nest3/nest3/StackOperation;"), (0, .fieldref 8 14), (0, .nameAndType 15 12), (0, u "PUSH"), (0, .fieldref 8 17), (0, .nameAndType 18 12), (0, u "POP"), (0, .fieldref 8 20), (0, .nameAndType 21 12), (0, u "POP_BOTTOM"), (0, .methodref 8 23), (0, .nameAndType 24 25), (0, u "namesStackSymbol"), (0, u "()Z"), (0, .methodref 8 27), (0, .nameAndType 28 29), (0, u "kind"), (0, u "()Lcom/example/nest3/nest3/SymbolKind;"), (0, .fieldref 31 32), (0, .class_ 33), (0, .nameAndType 34 35), (0, u "com/example/nest3/nest3/SymbolKind"), (0, u "INTERNAL"), (0, u "Lcom/example/nest3/nest3/SymbolKind;"), (0, .class_ 37), (0, u "com/example/nest3/nest3/StackOperationNamesStackSymbolPinLaw"), (2, u "law"), (0, u "(I)Z")] 3

def k1m0 : Method := { name := "<init>", desc := "()V", sig := { parameters := [], returnType := none }, accessFlags := 1, code := none }
def k1c1 : Code := { maxStack := 2, maxLocals := 5, code := code, exceptionTable := #[], attributes := #[] }
def k1m1 : Method := { name := "law", desc := "(I)Z", sig := { parameters := [.int], returnType := some .boolean }, accessFlags := 9, code := some k1c1 }
/-- com/example/nest3/nest3/StackOperationNamesStackSymbolPinLaw -/
def k1 : Class := { plain "com/example/nest3/nest3/StackOperationNamesStackSymbolPinLaw" (some 0) with
  accessFlags := 49
  interfaces := #[]
  cf := some (fileOf pool1 36 #[] #[{ accessFlags := 1, nameIndex := 5, descriptorIndex := 6, attributes := #[] }, { accessFlags := 9, nameIndex := 40, descriptorIndex := 41, attributes := #[] }] 49 2 #[] #[])
  fields := #[]
  methods := #[k1m0, k1m1]
  instanceTypes := #[]
  staticTypes := #[]
  resolved := Array.replicate 45 none
  statics := none }

def pool2 : Array CpInfo := pool [(1, .class_ 2), (0, u "java/lang/constant/Constable"), (0, .class_ 4), (0, u "java/lang/Object")] 6

/-- java/lang/constant/Constable -/
def k2 : Class := { plain "java/lang/constant/Constable" (some 0) with
  accessFlags := 1537
  interfaces := #[]
  cf := some (fileOf pool2 1 #[] #[] 1537 3 #[] #[])
  fields := #[]
  methods := #[]
  instanceTypes := #[]
  staticTypes := #[]
  resolved := Array.replicate 11 none
  statics := none }

def pool3 : Array CpInfo := pool [(1, .class_ 2), (0, u "java/lang/Comparable"), (0, .class_ 4), (0, u "java/lang/Object")] 7

/-- java/lang/Comparable -/
def k3 : Class := { plain "java/lang/Comparable" (some 0) with
  accessFlags := 1537
  interfaces := #[]
  cf := some (fileOf pool3 1 #[] #[] 1537 3 #[] #[])
  fields := #[]
  methods := #[]
  instanceTypes := #[]
  staticTypes := #[]
  resolved := Array.replicate 12 none
  statics := none }

def pool4 : Array CpInfo := pool [(1, .class_ 2), (0, u "java/io/Serializable"), (0, .class_ 4), (0, u "java/lang/Object")] 2

/-- java/io/Serializable -/
def k4 : Class := { plain "java/io/Serializable" (some 0) with
  accessFlags := 1537
  interfaces := #[]
  cf := some (fileOf pool4 1 #[] #[] 1537 3 #[] #[])
  fields := #[]
  methods := #[]
  instanceTypes := #[]
  staticTypes := #[]
  resolved := Array.replicate 7 none
  statics := none }

def pool5 : Array CpInfo := pool [(2, .class_ 4), (1, u "java/lang/Enum"), (0, u "name"), (0, u "Ljava/lang/String;"), (2, u "ordinal"), (0, u "I"), (1, .class_ 14), (1, u "java/lang/Object"), (4, u "hash"), (86, .class_ 108), (1, u "java/lang/Enum$EnumDesc"), (2, .class_ 112), (0, u "java/lang/constant/Constable"), (0, .class_ 114), (0, u "java/lang/Comparable"), (0, .class_ 116), (0, u "java/io/Serializable")] 87

/-- java/lang/Enum -/
def k5 : Class := { plain "java/lang/Enum" (some 0) with
  accessFlags := 1057
  interfaces := #[2, 3, 4]
  cf := some (fileOf pool5 2 #[.nestMembers #[106]] #[] 1057 12 #[111, 113, 115] #[{ accessFlags := 18, nameIndex := 5, descriptorIndex := 6, attributes := #[] }, { accessFlags := 18, nameIndex := 9, descriptorIndex := 10, attributes := #[] }, { accessFlags := 2, nameIndex := 19, descriptorIndex := 10, attributes := #[] }])
  fields := #[{ name := "name", type := (.object "java/lang/String"), accessFlags := 18, slot := 0, constantValue := 0 }, { name := "ordinal", type := .int, accessFlags := 18, slot := 1, constantValue := 0 }, { name := "hash", type := .int, accessFlags := 2, slot := 2, constantValue := 0 }]
  methods := #[]
  instanceTypes := #[(.object "java/lang/String"), .int, .int]
  staticTypes := #[]
  resolved := Array.replicate 204 none
  statics := none }

def pool6 : Array CpInfo := pool [(1, .class_ 2), (0, u "com/example/nest3/nest3/StackOperation"), (2, u "NONE"), (0, u "Lcom/example/nest3/nest3/StackOperation;"), (0, .fieldref 1 8), (0, .nameAndType 9 6), (0, u "PUSH"), (0, .fieldref 1 11), (0, .nameAndType 12 6), (0, u "POP"), (2, u "POP_BOTTOM"), (2, u "$VALUES"), (0, u "[Lcom/example/nest3/nest3/StackOperation;"), (6, .class_ 28), (1, u "java/lang/Enum"), (6, .fieldref 1 36), (0, .nameAndType 37 38), (0, u "kind"), (0, u "Lcom/example/nest3/nest3/SymbolKind;"), (29, u "()Lcom/example/nest3/nest3/SymbolKind;"), (0, u "namesStackSymbol"), (0, u "()Z")] 6

def k6c0 : Code := { maxStack := 1, maxLocals := 1, code := prog_106_method_4_code, exceptionTable := #[], attributes := #[] }
def k6m0 : Method := { name := "kind", desc := "()Lcom/example/nest3/nest3/SymbolKind;", sig := { parameters := [], returnType := some (.object "com/example/nest3/nest3/SymbolKind") }, accessFlags := 1, code := some k6c0 }
def k6c1 : Code := { maxStack := 2, maxLocals := 1, code := prog_106_method_5_code, exceptionTable := #[], attributes := #[] }
def k6m1 : Method := { name := "namesStackSymbol", desc := "()Z", sig := { parameters := [], returnType := some .boolean }, accessFlags := 1, code := some k6c1 }
/-- com/example/nest3/nest3/StackOperation -/
def k6 : Class := { plain "com/example/nest3/nest3/StackOperation" (some 5) with
  accessFlags := 16433
  interfaces := #[]
  cf := some (fileOf pool6 1 #[] #[{ accessFlags := 1, nameIndex := 37, descriptorIndex := 68, attributes := #[] }, { accessFlags := 1, nameIndex := 69, descriptorIndex := 70, attributes := #[] }] 16433 26 #[] #[{ accessFlags := 16409, nameIndex := 5, descriptorIndex := 6, attributes := #[] }, { accessFlags := 16409, nameIndex := 9, descriptorIndex := 6, attributes := #[] }, { accessFlags := 16409, nameIndex := 12, descriptorIndex := 6, attributes := #[] }, { accessFlags := 16409, nameIndex := 15, descriptorIndex := 6, attributes := #[] }, { accessFlags := 18, nameIndex := 37, descriptorIndex := 38, attributes := #[] }, { accessFlags := 4122, nameIndex := 18, descriptorIndex := 19, attributes := #[] }])
  fields := #[{ name := "NONE", type := (.object "com/example/nest3/nest3/StackOperation"), accessFlags := 16409, slot := 0, constantValue := 0 }, { name := "PUSH", type := (.object "com/example/nest3/nest3/StackOperation"), accessFlags := 16409, slot := 1, constantValue := 0 }, { name := "POP", type := (.object "com/example/nest3/nest3/StackOperation"), accessFlags := 16409, slot := 2, constantValue := 0 }, { name := "POP_BOTTOM", type := (.object "com/example/nest3/nest3/StackOperation"), accessFlags := 16409, slot := 3, constantValue := 0 }, { name := "kind", type := (.object "com/example/nest3/nest3/SymbolKind"), accessFlags := 18, slot := 3, constantValue := 0 }, { name := "$VALUES", type := (.array (.object "com/example/nest3/nest3/StackOperation")), accessFlags := 4122, slot := 4, constantValue := 0 }]
  methods := #[k6m0, k6m1]
  instanceTypes := #[(.object "java/lang/String"), .int, .int, (.object "com/example/nest3/nest3/SymbolKind")]
  staticTypes := #[(.object "com/example/nest3/nest3/StackOperation"), (.object "com/example/nest3/nest3/StackOperation"), (.object "com/example/nest3/nest3/StackOperation"), (.object "com/example/nest3/nest3/StackOperation"), (.array (.object "com/example/nest3/nest3/StackOperation"))]
  resolved := Array.replicate 77 none
  statics := some 0 }

def pool7 : Array CpInfo := pool [(1, .class_ 2), (0, u "com/example/nest3/nest3/SymbolKind"), (2, u "CALL"), (0, u "Lcom/example/nest3/nest3/SymbolKind;"), (2, u "RETURN"), (2, u "INTERNAL"), (2, u "$VALUES"), (0, u "[Lcom/example/nest3/nest3/SymbolKind;"), (6, .class_ 25), (1, u "java/lang/Enum"), (86, u "CALL_OPENING"), (0, u "Ljava/lang/String;"), (1, u "RETURN_OPENING"), (0, u "CLOSING")] 33

/-- com/example/nest3/nest3/SymbolKind -/
def k7 : Class := { plain "com/example/nest3/nest3/SymbolKind" (some 5) with
  accessFlags := 16433
  interfaces := #[]
  cf := some (fileOf pool7 1 #[] #[] 16433 23 #[] #[{ accessFlags := 16409, nameIndex := 5, descriptorIndex := 6, attributes := #[] }, { accessFlags := 16409, nameIndex := 9, descriptorIndex := 6, attributes := #[] }, { accessFlags := 16409, nameIndex := 12, descriptorIndex := 6, attributes := #[] }, { accessFlags := 26, nameIndex := 112, descriptorIndex := 113, attributes := #[] }, { accessFlags := 26, nameIndex := 115, descriptorIndex := 113, attributes := #[] }, { accessFlags := 26, nameIndex := 116, descriptorIndex := 113, attributes := #[] }, { accessFlags := 4122, nameIndex := 15, descriptorIndex := 16, attributes := #[] }])
  fields := #[{ name := "CALL", type := (.object "com/example/nest3/nest3/SymbolKind"), accessFlags := 16409, slot := 0, constantValue := 0 }, { name := "RETURN", type := (.object "com/example/nest3/nest3/SymbolKind"), accessFlags := 16409, slot := 1, constantValue := 0 }, { name := "INTERNAL", type := (.object "com/example/nest3/nest3/SymbolKind"), accessFlags := 16409, slot := 2, constantValue := 0 }, { name := "CALL_OPENING", type := (.object "java/lang/String"), accessFlags := 26, slot := 3, constantValue := 0 }, { name := "RETURN_OPENING", type := (.object "java/lang/String"), accessFlags := 26, slot := 4, constantValue := 0 }, { name := "CLOSING", type := (.object "java/lang/String"), accessFlags := 26, slot := 5, constantValue := 0 }, { name := "$VALUES", type := (.array (.object "com/example/nest3/nest3/SymbolKind")), accessFlags := 4122, slot := 6, constantValue := 0 }]
  methods := #[]
  instanceTypes := #[(.object "java/lang/String"), .int, .int]
  staticTypes := #[(.object "com/example/nest3/nest3/SymbolKind"), (.object "com/example/nest3/nest3/SymbolKind"), (.object "com/example/nest3/nest3/SymbolKind"), (.object "java/lang/String"), (.object "java/lang/String"), (.object "java/lang/String"), (.array (.object "com/example/nest3/nest3/SymbolKind"))]
  resolved := Array.replicate 150 none
  statics := some 1 }

def pool8 : Array CpInfo := pool [(1, u "java/lang/Cloneable"), (0, .class_ 1), (0, u "java/lang/Object"), (0, .class_ 3)] 3

/-- java/lang/Cloneable -/
def k8 : Class := { plain "java/lang/Cloneable" (some 0) with
  accessFlags := 1537
  interfaces := #[]
  cf := some (fileOf pool8 2 #[] #[] 1537 4 #[] #[])
  fields := #[]
  methods := #[]
  instanceTypes := #[]
  staticTypes := #[]
  resolved := Array.replicate 8 none
  statics := none }

/-- the primitive byte -/
def k9 : Class := { plain "byte" none with kind := .primitive 'B', accessFlags := 0x411 }
/-- [B -/
def k10 : Class := { plain "[B" (some 0) with kind := .array 9 .byte, interfaces := #[8, 4], accessFlags := 1041 }

/-- the primitive int -/
def k11 : Class := { plain "int" none with kind := .primitive 'I', accessFlags := 0x411 }
/-- [I -/
def k12 : Class := { plain "[I" (some 0) with kind := .array 11 .int, interfaces := #[8, 4], accessFlags := 1041 }

def heap : Heap := #[{ cls := 6, slots := #[.ref 5, .ref 6, .ref 7, .ref 8, .null], vm := .statics 6 },
  { cls := 7, slots := #[.ref 2, .ref 3, .ref 4, .null, .null, .null, .null], vm := .statics 7 },
  { cls := 7, slots := #[.null, .int 0, .int 0], vm := .none },
  { cls := 7, slots := #[.null, .int 1, .int 0], vm := .none },
  { cls := 7, slots := #[.null, .int 2, .int 0], vm := .none },
  { cls := 6, slots := #[.null, .int 0, .int 0, .ref 4], vm := .none },
  { cls := 6, slots := #[.null, .int 1, .int 0, .ref 2], vm := .none },
  { cls := 6, slots := #[.null, .int 2, .int 0, .ref 3], vm := .none },
  { cls := 6, slots := #[.null, .int 3, .int 0, .ref 3], vm := .none }]
def classes : Array Class := #[k0, k1, k2, k3, k4, k5, k6, k7, k8, k9, k10, k11, k12]
def interned : List (Array UInt16 × Addr) := []
def slotsUsed : Nat := 37
def theMethod : MethodId := ⟨1, 1⟩
def args0 : Array Value := #[.int 5]
def aboutOver (below : List Frame) : State where
  vm := { classes := classes, interned := interned.toArray }
  heap := heap
  slotsUsed := slotsUsed
  threads := #[{ frames := .invoking theMethod args0 :: below }]
def below0 : List Frame := [.native { method := ⟨0, 0⟩, args := #[] }]
def about1 : State := aboutOver below0
def p0 : Program := .bare "" "" ""
def e0 : Env := launch0.env 0 0 0
theorem w_frames : about1.frames = Frame.invoking theMethod args0 :: below0 := rfl
set_option maxRecDepth 65536 in
theorem w_args : argsFit about1.vm theMethod args0 = true := by decide +kernel
set_option maxRecDepth 65536 in
theorem w_heap : heapFits about1 = true := by decide +kernel
set_option maxRecDepth 65536 in
theorem w_runnable : about1.curStatus? = some .runnable := by decide +kernel
set_option maxRecDepth 65536 in
theorem w_alone : about1.alone = true := by decide +kernel
set_option maxRecDepth 65536 in
theorem w_named : about1.methodNamed? x = some theMethod := by decide +kernel
set_option maxRecDepth 65536 in
theorem w_hears : about1.hears theMethod below0 = true := by decide +kernel
set_option maxRecDepth 65536 in
theorem w_ripe : about1.ripe theMethod args0 below0 = true := by decide +kernel
theorem w_running : about1.status = .running := rfl
set_option maxRecDepth 65536 in
theorem w_room : about1.hasRoom e0.platform room_1 = true :=
  launch0.hasRoom_least _ room_1 (by decide +kernel) (by decide +kernel) (by decide +kernel) (by decide +kernel) (by decide +kernel) (by decide +kernel)
theorem allAtoms_all (ts : List Jvm.Cond) (a : Array Jvm.Value) (st : Jvm.State) : (allAtoms ts).before a st = ts.all (fun c => c.before a st) := by
  induction ts with
  | nil => rfl
  | cons c t ih =>
    show (Jvm.Cond.and c (allAtoms t)).before a st = _
    rw [Jvm.Cond.before_and, ih, List.all_cons]
def words1 : List Jvm.Cond := Jvm.Cond.code x code maxLocals ret :: tables_1
/-- a 'code' word, met by the world's own term for the bytes: nothing is compared byte by byte -/
theorem code_word {y : MethodName} {bytes : ByteArray} {mx : Nat} {rt : Option FieldType} {a : Array Value} {s : State} {m : MethodId} {meth : Method} {c : Code} (h1 : s.methodNamed? y = some m) (h2 : s.vm.method? m = some meth) (h3 : meth.code = some c) (h4 : c.code = bytes)
    (h5 : (c.maxLocals == mx && c.exceptionTable.isEmpty && decide (c.maxStack ≤ mostOperands) && decide (meth.sig.returnType = rt) && !meth.locks && decide (parseMethodDescriptor y.desc = some meth.sig)) = true) : (Jvm.Cond.code y bytes mx rt).before a s = true := by
  simp only [Bool.and_eq_true, beq_iff_eq, Bool.not_eq_true', decide_eq_true_eq] at h5
  obtain ⟨⟨⟨⟨⟨g1, g2⟩, g3⟩, g4⟩, g5⟩, g6⟩ := h5
  simp [Cond.before, Cond.holds, Cond.value, h1, h2, h3, h4, g1, g2, g3, g4, g5, g6]
def isCode : Jvm.Cond → Bool
  | .code _ _ _ _ => true
  | _ => false
theorem all_split {L : List Jvm.Cond} {P : Jvm.Cond → Bool} (h1 : L.all (fun c => isCode c || P c) = true) (h2 : ∀ c ∈ L.filter isCode, P c = true) : L.all P = true := by
  refine List.all_eq_true.mpr fun c hc => ?_
  have h := List.all_eq_true.mp h1 c hc
  rcases Bool.eq_false_or_eq_true (isCode c) with hi | hi
  · exact h2 c (List.mem_filter.mpr ⟨hc, hi⟩)
  · simpa [hi] using h
set_option maxRecDepth 65536 in
theorem w_c0 : (Jvm.Cond.code x code maxLocals ret).before args0 about1 = true := code_word (m := ⟨1, 1⟩) (meth := k1m1) (c := k1c1) (by decide +kernel) rfl rfl rfl (by decide +kernel)
set_option maxRecDepth 65536 in
theorem w_c1 : (Jvm.Cond.code ({ cls := "com/example/nest3/nest3/StackOperation", name := "namesStackSymbol", desc := "()Z" } : Jvm.MethodName) prog_106_method_5_code (1 : Nat) (Option.some Jvm.ClassFile.FieldType.boolean)).before args0 about1 = true := code_word (m := ⟨6, 1⟩) (meth := k6m1) (c := k6c1) (by decide +kernel) rfl rfl rfl (by decide +kernel)
set_option maxRecDepth 65536 in
theorem w_c2 : (Jvm.Cond.code ({ cls := "com/example/nest3/nest3/StackOperation", name := "kind", desc := "()Lcom/example/nest3/nest3/SymbolKind;" } : Jvm.MethodName) prog_106_method_4_code (1 : Nat) (Option.some (Jvm.ClassFile.FieldType.object "com/example/nest3/nest3/SymbolKind"))).before args0 about1 = true := code_word (m := ⟨6, 0⟩) (meth := k6m0) (c := k6c0) (by decide +kernel) rfl rfl rfl (by decide +kernel)
def codes1 : List Jvm.Cond := [Jvm.Cond.code x code maxLocals ret, Jvm.Cond.code ({ cls := "com/example/nest3/nest3/StackOperation", name := "namesStackSymbol", desc := "()Z" } : Jvm.MethodName) prog_106_method_5_code (1 : Nat) (Option.some Jvm.ClassFile.FieldType.boolean), Jvm.Cond.code ({ cls := "com/example/nest3/nest3/StackOperation", name := "kind", desc := "()Lcom/example/nest3/nest3/SymbolKind;" } : Jvm.MethodName) prog_106_method_4_code (1 : Nat) (Option.some (Jvm.ClassFile.FieldType.object "com/example/nest3/nest3/SymbolKind"))]
set_option maxRecDepth 65536 in
theorem codes_eq : words1.filter isCode = codes1 := rfl
theorem w_codes : ∀ c ∈ words1.filter isCode, c.before args0 about1 = true := by
  rw [codes_eq]
  intro c hc
  simp only [codes1, List.mem_cons, List.not_mem_nil, or_false] at hc
  rcases hc with rfl | rfl | rfl
  · exact w_c0
  · exact w_c1
  · exact w_c2
set_option maxRecDepth 65536 in
theorem w_t1 : (words1.take 24).all (fun c => isCode c || c.before args0 about1) = true := by decide +kernel
set_option maxRecDepth 65536 in
theorem w_t2 : (words1.drop 24).all (fun c => isCode c || c.before args0 about1) = true := by decide +kernel
theorem w_tables : (allAtoms (Jvm.Cond.code x code maxLocals ret :: tables_1)).before args0 about1 = true := by
  rw [allAtoms_all]
  show words1.all (fun c => c.before args0 about1) = true
  refine all_split ?_ w_codes
  rw [← List.take_append_drop 24 words1, List.all_append, w_t1, w_t2]
  rfl
set_option maxRecDepth 65536 in
theorem w_case : (Jvm.Cond.and given_1 narrow_1).before args0 about1 = true := by decide +kernel
theorem w_applies : (headSpec (Jvm.Cond.code x code maxLocals ret :: tables_1) room_1).applies x e0.platform about1 = true :=
  (Spec.applies_iff w_frames).mpr ⟨w_running, w_runnable, w_alone, w_named, w_hears, w_ripe, w_room, w_tables⟩
theorem atStart : AtStart classFile x code maxLocals ret World_1 tables_1 room_1 Calls_1 rest_1 Pre_1 launch0 p0 e0 about1 theMethod args0 below0 :=
  ⟨lists_1, trivial, launch0.admits_env _ _ _, launch0.least_env, fairChoices_fair.cas, fairChoices_fair.clock, w_frames, w_args, w_heap, w_applies, trivial, trivial, w_case⟩
end start1
theorem witness_1 : WitnessClaimed_1 := ⟨start1.p0, start1.e0, start1.about1, start1.theMethod, start1.args0, start1.below0, start1.atStart⟩
end Jvm.Pilot.@@N@@
