import JvmDerived
import JvmDerived.Pilot.@@N@@Statement
import JvmDerived.Pilot.@@N@@Code
set_option linter.unusedVariables false
set_option linter.unusedSimpArgs false
namespace Jvm.RoadKit
open Sem ClassFile Op Lib Jvm.Stand Jvm.Free Jvm.LawKit
section New
variable {p : Program} {l : Launch} {e : Env} {R : Room} {s : State} {m : MethodId} {args : Array Value} {below : List Frame} {meth : Method} {c : Code} {T : State} {locs : List Loc} {cells slots : Nat}
theorem retI (X : Stand p l e R s m args below meth c T locs cells slots) (hx : p.tables.exec = Jvm.exec) {pc : Nat} {Ls : Array Slot} {z : Int32} {rest : List Value} (hret : meth.sig.returnType = some .int) (hd : decode c.code pc = .ok (.ireturn, 1)) {fs : List Frame}
    (hl : ∀ (f : JFrame) (acts : List Action), f.method = m → f.locked = none → f.entered = [] → (doReturn e (T.setTop f) acts (some (.int z))).1 = T.setFrames fs) : Steps p.tables e below (T.setTop (mkF m pc Ls (.int z :: rest))) (T.setFrames fs) := by
  have hm' : T.vm.method? m = some meth := X.method'
  have hn : narrow .int (.int z) = .int z := rfl
  show Steps p.tables e below (T.setTop { method := m, pc := pc, locals := Ls, stack := _ :: rest, locked := none }) _
  jvm_step X.here [X.here.top, hx, hd, hm', hret, hn]
  first | (intro acts; rw [hl _ acts rfl rfl rfl]) | rw [hl _ _ rfl rfl rfl]
  exact Steps.refl _
theorem own_lremM {g : JFrame} {target : State} (X : Stand p l e R s m args below meth c T locs cells slots) (hx : p.tables.exec = Jvm.exec) (hg : g.method = m) {x y : Int64} {rest : List Value} (hd : decode c.code g.pc = .ok (.lrem, 1)) (hs : g.stack = .long y :: .long x :: rest) (hy : y ≠ 0)
    (hr : Steps p.tables e below (T.setTop { g with pc := g.pc + 1, stack := .long (x % y) :: rest }) target) : Steps p.tables e below (T.setTop g) target := by
  have q : x - (x / y) * y = x % y := lrem_mod x y
  exact XS.lrem X.here hx hg hd hs hy (by rw [q]; exact hr)
end New
end Jvm.RoadKit
namespace Jvm.Pilot.@@N@@
open Jvm Jvm.ClassFile Sem Op Lib Jvm.Free Jvm.Stand Jvm.LawKit Jvm.RoadKit Bundle Jvm.Pilot.@@N@@.Jvm.D
theorem own_notin0 {a : Addr} : a ∉ ([] : List Addr) := fun q => nomatch q
theorem own_notin1 {a b : Addr} (h : a ≠ b) : a ∉ [b] := fun q => h (List.mem_singleton.mp q)
theorem own_narb {x : Int32} (h : x = 0 ∨ x = 1) : nar .boolean x = x := by rcases h with rfl | rfl <;> rfl
theorem own_all0 {P : Addr → Prop} : ∀ x ∈ ([] : List Addr), P x := fun _ q => nomatch q
theorem own_all1 {P : Addr → Prop} {a : Addr} (h : P a) : ∀ x ∈ [a], P x := fun x q => by cases List.mem_singleton.mp q; exact h
theorem own_fldu {Z : State} {h : Heap} {a : Addr} {C n d : String} {v w : Value} (F : Fld Z h a C n d v) (G : Fld Z h a C n d w) : v = w := by
  obtain ⟨cell, cf, k, i, f, h1, h2, -, -, -, -, h7⟩ := F
  obtain ⟨cell', cf', k', i', f', g1, g2, -, -, -, -, g7⟩ := G
  rw [h1] at g1; cases g1
  rw [h2] at g2; cases g2
  exact Option.some.inj (h7.symm.trans g7)
theorem own_fldne {Z : State} {h : Heap} {a b : Addr} {C n d : String} {v w : Int32} (F : Fld Z h a C n d (.int v)) (G : Fld Z h b C n d (.int w)) (q : v ≠ w) : a ≠ b := fun e => by
  subst e; exact q (Value.int.inj (own_fldu F G))
theorem own_fldI {args : Array Value} {s : State} {t : Term} {C n d : String} {z : Int32} {x : Addr} (h : (Jvm.Cond.eq (Term.field t C n d) (Term.int z)).value args s none s [] = some true) (ht : t.eval args s none [] s = some (.ref x)) : Fld s s.heap x C n d (.int z) := by
  obtain ⟨X, Y, h1, h2, k1, k2⟩ := cmp_v (Or.inl h)
  rw [Term.int_eval] at h2
  obtain rfl := Option.some.inj h2
  obtain ⟨w, rfl⟩ : ∃ w, X = .int w := k2
  have q : (Jvm.Cond.eq (Term.field t C n d) (Term.int z)).value args s none s [] = some (decide (w = z)) := by simp [Cond.value, h1, Term.int_eval]
  have e := gotT q h
  subst e
  exact Fld.start ((fld_at ht).symm.trans h1)
theorem own_fldR {args : Array Value} {s : State} {t u : Term} {C n d : String} {x y : Addr} (h : (Jvm.Cond.eq (Term.field t C n d) u).value args s none s [] = some true) (ht : t.eval args s none [] s = some (.ref x)) (hu : u.eval args s none [] s = some (.ref y)) : Fld s s.heap x C n d (.ref y) := by
  obtain ⟨X, Y, h1, h2, k1, k2⟩ := cmp_v (Or.inl h)
  obtain rfl := Option.some.inj (hu.symm.trans h2)
  have kx : X.isRef = true := by cases X <;> simp [Kin, Value.isRef] at k1 k2 ⊢
  have e := gotT (eq_R h1 h2 kx rfl) h
  subst e
  exact Fld.start ((fld_at ht).symm.trans h1)
def QS (Z : State) (a1 : Addr) (z : Int32) (w_EXPANSIONS : Addr) (h0 : Heap) (n0 : Nat) (v : Option Value) (h : Heap) (L : List Loc) : Prop := v = some (.int (if a1 = w_EXPANSIONS then (z + (1 : Int32)) else z)) ∧ Fr n0 L ∧ h = h0
theorem ef_rmS (m : MethodId) (x0 : Addr) : entryFrame m #[(.ref x0)] 1 = mkF m 0 #[.val (.ref x0)] [] := by first | (simp [entryFrame, mkF, argsToLocals, Value.category]; done) | rfl
theorem pn_com_example_nest3_nest3_XmlLimit : plainName "com/example/nest3/nest3/XmlLimit" = true := by first | (simp [plainName, overriddenIn]; done) | decide +kernel
theorem d1_0 : decode prog_168_method_5_code 0 = .ok (.aload_n 0, 1) := by decide +kernel
theorem d1_1 : decode prog_168_method_5_code 1 = .ok (.getstatic 3, 3) := by decide +kernel
theorem d1_4 : decode prog_168_method_5_code 4 = .ok (.if_acmp .ne 12, 3) := by decide +kernel
theorem d1_7 : decode prog_168_method_5_code 7 = .ok (.aload_n 0, 1) := by decide +kernel
theorem d1_8 : decode prog_168_method_5_code 8 = .ok (.getfield 54, 3) := by decide +kernel
theorem d1_11 : decode prog_168_method_5_code 11 = .ok (.iconst 1, 1) := by decide +kernel
theorem d1_12 : decode prog_168_method_5_code 12 = .ok (.iadd, 1) := by decide +kernel
theorem d1_13 : decode prog_168_method_5_code 13 = .ok (.goto 7, 3) := by decide +kernel
theorem d1_20 : decode prog_168_method_5_code 20 = .ok (.ireturn, 1) := by decide +kernel
theorem d1_16 : decode prog_168_method_5_code 16 = .ok (.aload_n 0, 1) := by decide +kernel
theorem d1_17 : decode prog_168_method_5_code 17 = .ok (.getfield 54, 3) := by decide +kernel
set_option maxRecDepth 65536 in
set_option maxHeartbeats 40000000 in
theorem rmS (l : Launch) (Z : State) (a0 : Array Value) (hw : ∀ d ∈ tables_1, d.before a0 Z = true) (ws : List Jvm.Cond) (a1 : Addr) (z : Int32) (w_EXPANSIONS : Addr) (h0 : Heap) (n0 : Nat) (Z0 : n0 ≤ h0.size) (F_z : Fld Z h0 a1 "com/example/nest3/nest3/XmlLimit" "most" "I" (.int z)) (S_EXPANSIONS : Sta Z h0 "com/example/nest3/nest3/XmlLimit" "EXPANSIONS" "Lcom/example/nest3/nest3/XmlLimit;" (.ref w_EXPANSIONS)) :
    MetFree l (⟨"com/example/nest3/nest3/XmlLimit", "setting", "()I"⟩ : MethodName) (head1 (Jvm.Cond.code (⟨"com/example/nest3/nest3/XmlLimit", "setting", "()I"⟩ : MethodName) prog_168_method_5_code 1 (some .int) :: ws) ({ frames := 0, cells := 0, slots := 0, locals := 0 } : Room)) (fun a U => a = #[(.ref a1)] ∧ Z.Warmed39 U.vm ∧ U.heap = h0) (fun _ _ _ _ _ => True) (fun _ U o U' => ∃ v L, o = .returned v ∧ QS Z a1 z w_EXPANSIONS h0 n0 v U'.heap L ∧ FrameEnd U o U' L ({ frames := 0, cells := 0, slots := 0, locals := 0 } : Room).cells ({ frames := 0, cells := 0, slots := 0, locals := 0 } : Room).slots) := by
  refine MetFree.of_bodySF (plainFor_of_name pn_com_example_nest3_nest3_XmlLimit) hisR ?_
  intro p e s m args below meth c s₁ Bd hml0 hP hK
  obtain ⟨rfl, hZ, hh⟩ := hP
  have hx := Bd.exec
  have hby := Bd.bytes
  have hml : c.maxLocals = 1 := hml0
  have hown : s.vm.findClass "com/example/nest3/nest3/XmlLimit" = some m.cls := findClass_of_methodNamed Bd.named
  have hnm := (name_of_methodNamed Bd.named Bd.method).1
  have X0 : Stand p l e ({ frames := 0, cells := 0, slots := 0, locals := 0 } : Room) s m #[(.ref a1)] below meth c s₁ [] 0 0 := Stand.of_body Bd
  have e0 : s₁.heap = h0 := by rw [← hh, Bd.state]; rfl
  have N0 := Fr.nil n0
  have pre0 : ∀ t, Steps p.tables e below (s₁.setTop (mkF m 0 #[.val (.ref a1)] [])) t → Steps p.tables e below (s₁.setTop (entryFrame m #[(.ref a1)] 1)) t := fun t k => castTop (ef_rmS m a1) k
  have pre1 : ∀ t, Steps p.tables e below (s₁.setTop (mkF m 1 #[.val (.ref a1)] [(.ref a1)])) t → Steps p.tables e below (s₁.setTop (entryFrame m #[(.ref a1)] 1)) t := fun t kt => pre0 t (by
    refine XS.aloadN X0.here hx rfl (hb hby d1_0) rfl rfl ?_
    show Steps p.tables e below (s₁.setTop (mkF m 1 #[.val (.ref a1)] [(.ref a1)])) _
    exact kt)
  obtain ⟨T2, X2, e2, st2⟩ := getS2 X0 hx hZ hown (host := "") (Or.inl (hw _ (List.mem_of_getElem? (i := 9) rfl))) Via.refl e0 S_EXPANSIONS (g := (mkF m 1 #[.val (.ref a1)] [(.ref a1)])) rfl (hb hby d1_1)
  have pre3 : ∀ t, Steps p.tables e below (T2.setTop (mkF m 4 #[.val (.ref a1)] [(.ref w_EXPANSIONS), (.ref a1)])) t → Steps p.tables e below (s₁.setTop (entryFrame m #[(.ref a1)] 1)) t := fun t kt => pre1 t (st2 _ kt)
  by_cases c4_1 : a1 = w_EXPANSIONS
  · have pre4 : ∀ t, Steps p.tables e below (T2.setTop (mkF m 8 #[.val (.ref a1)] [(.ref a1)])) t → Steps p.tables e below (s₁.setTop (entryFrame m #[(.ref a1)] 1)) t := fun t kt => pre3 t (by
      refine Jvm.RoadKit.acmp (g := (mkF m 4 #[.val (.ref a1)] [(.ref w_EXPANSIONS), (.ref a1)])) X2 hx rfl rfl rfl (pc0 := 4) (pc' := 7) (same := true) rfl (hb hby d1_4) rfl (decide_eq_true (congrArg Value.ref c4_1)) (by decide) (by decide) ?_
      show Steps p.tables e below (T2.setTop (mkF m 7 #[.val (.ref a1)] [])) _
      refine XS.aloadN X2.here hx rfl (hb hby d1_7) rfl rfl ?_
      show Steps p.tables e below (T2.setTop (mkF m 8 #[.val (.ref a1)] [(.ref a1)])) _
      exact kt)
    obtain ⟨T5, X5, e5, st5⟩ := getF X2 hx hZ hown (host := "") (Or.inl (hw _ (List.mem_of_getElem? (i := 10) rfl))) Via.refl e2 F_z (g := (mkF m 8 #[.val (.ref a1)] [(.ref a1)])) rfl rfl (hb hby d1_8)
    have pre6 : ∀ t, Steps p.tables e below (T5.setTop (mkF m 11 #[.val (.ref a1)] [(.int z)])) t → Steps p.tables e below (s₁.setTop (entryFrame m #[(.ref a1)] 1)) t := fun t kt => pre4 t (st5 _ kt)
    have pre7 : ∀ t, Steps p.tables e below (T5.setTop (mkF m 20 #[.val (.ref a1)] [(.int (z + (1 : Int32)))])) t → Steps p.tables e below (s₁.setTop (entryFrame m #[(.ref a1)] 1)) t := fun t kt => pre6 t (by
      refine XS.iconst X5.here hx rfl (hb hby d1_11) ?_
      show Steps p.tables e below (T5.setTop (mkF m 12 #[.val (.ref a1)] [(.int (1 : Int32)), (.int z)])) _
      refine XS.iadd X5.here hx rfl (hb hby d1_12) rfl ?_
      show Steps p.tables e below (T5.setTop (mkF m 13 #[.val (.ref a1)] [(.int (z + (1 : Int32)))])) _
      refine XS.goto X5.here hx rfl (pc0 := 13) (pc' := 20) rfl (hb hby d1_13) (by decide) (by decide) ?_
      show Steps p.tables e below (T5.setTop (mkF m 20 #[.val (.ref a1)] [(.int (z + (1 : Int32)))])) _
      exact kt)
    obtain ⟨fs, hr, hrun, hended, hW, hsame⟩ := X5.leave (v := (some (.int (z + (1 : Int32))))) (fun h => by rw [Bd.returns] at h; cases h)
    refine ⟨_, _, pre7 _ ?_, hrun, hended, _, _, rfl, ?_, ⟨_, rfl⟩, hW, hsame.mono (by decide) (by decide)⟩
    · exact retI X5 hx Bd.returns (hb hby d1_20) hr
    · show QS Z a1 z w_EXPANSIONS h0 n0 _ T5.heap _
      rw [e5]
      exact ⟨(by rw [if_pos c4_1]), N0, rfl⟩
  · have pre9 : ∀ t, Steps p.tables e below (T2.setTop (mkF m 17 #[.val (.ref a1)] [(.ref a1)])) t → Steps p.tables e below (s₁.setTop (entryFrame m #[(.ref a1)] 1)) t := fun t kt => pre3 t (by
      refine Jvm.RoadKit.acmp (g := (mkF m 4 #[.val (.ref a1)] [(.ref w_EXPANSIONS), (.ref a1)])) X2 hx rfl rfl rfl (pc0 := 4) (pc' := 16) (same := false) rfl (hb hby d1_4) rfl (decide_eq_false fun q => c4_1 (Value.ref.inj q)) (by decide) (by decide) ?_
      show Steps p.tables e below (T2.setTop (mkF m 16 #[.val (.ref a1)] [])) _
      refine XS.aloadN X2.here hx rfl (hb hby d1_16) rfl rfl ?_
      show Steps p.tables e below (T2.setTop (mkF m 17 #[.val (.ref a1)] [(.ref a1)])) _
      exact kt)
    obtain ⟨T10, X10, e10, st10⟩ := getF X2 hx hZ hown (host := "") (Or.inl (hw _ (List.mem_of_getElem? (i := 10) rfl))) Via.refl e2 F_z (g := (mkF m 17 #[.val (.ref a1)] [(.ref a1)])) rfl rfl (hb hby d1_17)
    have pre11 : ∀ t, Steps p.tables e below (T10.setTop (mkF m 20 #[.val (.ref a1)] [(.int z)])) t → Steps p.tables e below (s₁.setTop (entryFrame m #[(.ref a1)] 1)) t := fun t kt => pre9 t (st10 _ kt)
    obtain ⟨fs, hr, hrun, hended, hW, hsame⟩ := X10.leave (v := (some (.int z))) (fun h => by rw [Bd.returns] at h; cases h)
    refine ⟨_, _, pre11 _ ?_, hrun, hended, _, _, rfl, ?_, ⟨_, rfl⟩, hW, hsame.mono (by decide) (by decide)⟩
    · exact retI X10 hx Bd.returns (hb hby d1_20) hr
    · show QS Z a1 z w_EXPANSIONS h0 n0 _ T10.heap _
      rw [e10]
      exact ⟨(by rw [if_neg c4_1]), N0, rfl⟩
def Q0 (Z : State) (h0 : Heap) (n0 : Nat) (v : Option Value) (h : Heap) (L : List Loc) : Prop := v = some (.int (1 : Int32)) ∧ Fr n0 L
theorem ef_rm0 (m : MethodId) (x0 : Int32) : entryFrame m #[(.int x0)] maxLocals = mkF m 0 #[.val (.int x0), .unset, .unset, .unset] [] := by first | (simp [entryFrame, mkF, argsToLocals, Value.category, maxLocals]; done) | rfl
theorem pn_com_example_nest3_nest3_XmlLimitSettingPinLaw : plainName "com/example/nest3/nest3/XmlLimitSettingPinLaw" = true := by first | (simp [plainName, overriddenIn]; done) | decide +kernel
theorem pd__28_29I : parseMethodDescriptor "()I" = some ⟨[], some .int⟩ := by decide +kernel
set_option maxRecDepth 65536 in
set_option maxHeartbeats 40000000 in
theorem rm0 (l : Launch) (Z : State) (a0 : Array Value) (hw : ∀ d ∈ tables_1, d.before a0 Z = true) (ws : List Jvm.Cond) (p1 : Int32) (w_EXPANSIONS w_DEPTH w_TOTAL_ENTITY_SIZE w_GENERAL_ENTITY_SIZE w_PARAMETER_ENTITY_SIZE w_ATTRIBUTES w_NAME_LENGTH w_ENTITY_NODES : Addr) (h0 : Heap) (n0 : Nat) (Z0 : n0 ≤ h0.size) (S_EXPANSIONS : Sta Z h0 "com/example/nest3/nest3/XmlLimit" "EXPANSIONS" "Lcom/example/nest3/nest3/XmlLimit;" (.ref w_EXPANSIONS)) (S_DEPTH : Sta Z h0 "com/example/nest3/nest3/XmlLimit" "DEPTH" "Lcom/example/nest3/nest3/XmlLimit;" (.ref w_DEPTH)) (S_TOTAL_ENTITY_SIZE : Sta Z h0 "com/example/nest3/nest3/XmlLimit" "TOTAL_ENTITY_SIZE" "Lcom/example/nest3/nest3/XmlLimit;" (.ref w_TOTAL_ENTITY_SIZE)) (S_GENERAL_ENTITY_SIZE : Sta Z h0 "com/example/nest3/nest3/XmlLimit" "GENERAL_ENTITY_SIZE" "Lcom/example/nest3/nest3/XmlLimit;" (.ref w_GENERAL_ENTITY_SIZE)) (S_PARAMETER_ENTITY_SIZE : Sta Z h0 "com/example/nest3/nest3/XmlLimit" "PARAMETER_ENTITY_SIZE" "Lcom/example/nest3/nest3/XmlLimit;" (.ref w_PARAMETER_ENTITY_SIZE)) (S_ATTRIBUTES : Sta Z h0 "com/example/nest3/nest3/XmlLimit" "ATTRIBUTES" "Lcom/example/nest3/nest3/XmlLimit;" (.ref w_ATTRIBUTES)) (S_NAME_LENGTH : Sta Z h0 "com/example/nest3/nest3/XmlLimit" "NAME_LENGTH" "Lcom/example/nest3/nest3/XmlLimit;" (.ref w_NAME_LENGTH)) (S_ENTITY_NODES : Sta Z h0 "com/example/nest3/nest3/XmlLimit" "ENTITY_NODES" "Lcom/example/nest3/nest3/XmlLimit;" (.ref w_ENTITY_NODES)) (E_EXPANSIONS : Exa Z h0 w_EXPANSIONS "com/example/nest3/nest3/XmlLimit") (E_DEPTH : Exa Z h0 w_DEPTH "com/example/nest3/nest3/XmlLimit") (E_TOTAL_ENTITY_SIZE : Exa Z h0 w_TOTAL_ENTITY_SIZE "com/example/nest3/nest3/XmlLimit") (E_GENERAL_ENTITY_SIZE : Exa Z h0 w_GENERAL_ENTITY_SIZE "com/example/nest3/nest3/XmlLimit") (E_PARAMETER_ENTITY_SIZE : Exa Z h0 w_PARAMETER_ENTITY_SIZE "com/example/nest3/nest3/XmlLimit") (E_ATTRIBUTES : Exa Z h0 w_ATTRIBUTES "com/example/nest3/nest3/XmlLimit") (E_NAME_LENGTH : Exa Z h0 w_NAME_LENGTH "com/example/nest3/nest3/XmlLimit") (E_ENTITY_NODES : Exa Z h0 w_ENTITY_NODES "com/example/nest3/nest3/XmlLimit") (F_EXPANSIONS : Fld Z h0 w_EXPANSIONS "com/example/nest3/nest3/XmlLimit" "most" "I" (.int (64000 : Int32))) (F_DEPTH : Fld Z h0 w_DEPTH "com/example/nest3/nest3/XmlLimit" "most" "I" (.int (0 : Int32))) (F_TOTAL_ENTITY_SIZE : Fld Z h0 w_TOTAL_ENTITY_SIZE "com/example/nest3/nest3/XmlLimit" "most" "I" (.int (50000000 : Int32))) (F_GENERAL_ENTITY_SIZE : Fld Z h0 w_GENERAL_ENTITY_SIZE "com/example/nest3/nest3/XmlLimit" "most" "I" (.int (0 : Int32))) (F_PARAMETER_ENTITY_SIZE : Fld Z h0 w_PARAMETER_ENTITY_SIZE "com/example/nest3/nest3/XmlLimit" "most" "I" (.int (1000000 : Int32))) (F_ATTRIBUTES : Fld Z h0 w_ATTRIBUTES "com/example/nest3/nest3/XmlLimit" "most" "I" (.int (10000 : Int32))) (F_NAME_LENGTH : Fld Z h0 w_NAME_LENGTH "com/example/nest3/nest3/XmlLimit" "most" "I" (.int (1000 : Int32))) (F_ENTITY_NODES : Fld Z h0 w_ENTITY_NODES "com/example/nest3/nest3/XmlLimit" "most" "I" (.int (3000000 : Int32))) (n_DEPTH : w_DEPTH ≠ w_EXPANSIONS) (n_TOTAL_ENTITY_SIZE : w_TOTAL_ENTITY_SIZE ≠ w_EXPANSIONS) (n_GENERAL_ENTITY_SIZE : w_GENERAL_ENTITY_SIZE ≠ w_EXPANSIONS) (n_PARAMETER_ENTITY_SIZE : w_PARAMETER_ENTITY_SIZE ≠ w_EXPANSIONS) (n_ATTRIBUTES : w_ATTRIBUTES ≠ w_EXPANSIONS) (n_NAME_LENGTH : w_NAME_LENGTH ≠ w_EXPANSIONS) (n_ENTITY_NODES : w_ENTITY_NODES ≠ w_EXPANSIONS) :
    MetFree l x (head1 (Jvm.Cond.code x code maxLocals ret :: ws) room_1) (fun a U => a = #[(.int p1)] ∧ Z.Warmed39 U.vm ∧ U.heap = h0) (fun _ _ _ _ _ => True) (fun _ U o U' => ∃ v L, o = .returned v ∧ Q0 Z  h0 n0 v U'.heap L ∧ FrameEnd U o U' L room_1.cells room_1.slots) := by
  refine MetFree.of_bodySF (plainFor_of_name pn_com_example_nest3_nest3_XmlLimitSettingPinLaw) hisR ?_
  intro p e s m args below meth c s₁ Bd hml0 hP hK
  obtain ⟨rfl, hZ, hh⟩ := hP
  have hx := Bd.exec
  have hby := Bd.bytes
  have hml : c.maxLocals = 4 := hml0
  have hown : s.vm.findClass "com/example/nest3/nest3/XmlLimitSettingPinLaw" = some m.cls := findClass_of_methodNamed Bd.named
  have hnm := (name_of_methodNamed Bd.named Bd.method).1
  have X0 : Stand p l e room_1 s m #[(.int p1)] below meth c s₁ [] 0 0 := Stand.of_body Bd
  have e0 : s₁.heap = h0 := by rw [← hh, Bd.state]; rfl
  have N0 := Fr.nil n0
  have pre0 : ∀ t, Steps p.tables e below (s₁.setTop (mkF m 0 #[.val (.int p1), .unset, .unset, .unset] [])) t → Steps p.tables e below (s₁.setTop (entryFrame m #[(.int p1)] maxLocals)) t := fun t k => castTop (ef_rm0 m p1) k
  have pre1 : ∀ t, Steps p.tables e below (s₁.setTop (mkF m 5 #[.val (.int p1), .val (.int (p1 &&& (7 : Int32))), .unset, .unset] [])) t → Steps p.tables e below (s₁.setTop (entryFrame m #[(.int p1)] maxLocals)) t := fun t kt => pre0 t (by
    refine XS.iloadN X0.here hx rfl (hb hby at_0) rfl ?_
    show Steps p.tables e below (s₁.setTop (mkF m 1 #[.val (.int p1), .unset, .unset, .unset] [(.int p1)])) _
    refine XS.bipush X0.here hx rfl (hb hby at_1) ?_
    show Steps p.tables e below (s₁.setTop (mkF m 3 #[.val (.int p1), .unset, .unset, .unset] [(.int (7 : Int32)), (.int p1)])) _
    refine XS.iand X0.here hx rfl (hb hby at_3) rfl ?_
    show Steps p.tables e below (s₁.setTop (mkF m 4 #[.val (.int p1), .unset, .unset, .unset] [(.int (p1 &&& (7 : Int32)))])) _
    refine XS.istoreN X0.here hx rfl (hb hby at_4) rfl (l' := #[.val (.int p1), .val (.int (p1 &&& (7 : Int32))), .unset, .unset]) rfl ?_
    show Steps p.tables e below (s₁.setTop (mkF m 5 #[.val (.int p1), .val (.int (p1 &&& (7 : Int32))), .unset, .unset] [])) _
    exact kt)
  obtain ⟨k, hk⟩ : ∃ z, z = (p1 &&& (7 : Int32)) := ⟨_, rfl⟩
  have pre2 : ∀ t, Steps p.tables e below (s₁.setTop (mkF m 5 #[.val (.int p1), .val (.int k), .unset, .unset] [])) t → Steps p.tables e below (s₁.setTop (entryFrame m #[(.int p1)] maxLocals)) t := by
    rw [hk]; exact pre1
  have pre3 : ∀ t, Steps p.tables e below (s₁.setTop (mkF m 6 #[.val (.int p1), .val (.int k), .unset, .unset] [(.int k)])) t → Steps p.tables e below (s₁.setTop (entryFrame m #[(.int p1)] maxLocals)) t := fun t kt => pre2 t (by
    refine XS.iloadN X0.here hx rfl (hb hby at_5) rfl ?_
    show Steps p.tables e below (s₁.setTop (mkF m 6 #[.val (.int p1), .val (.int k), .unset, .unset] [(.int k)])) _
    exact kt)
  by_cases c6_1 : k = (0 : Int32)
  · have pre4 : ∀ t, Steps p.tables e below (s₁.setTop (mkF m 9 #[.val (.int p1), .val (.int k), .unset, .unset] [])) t → Steps p.tables e below (s₁.setTop (entryFrame m #[(.int p1)] maxLocals)) t := fun t kt => pre3 t (by
      refine XS.ifNo X0.here hx rfl (hb hby at_6) rfl ((if0 _ _).trans (teq c6_1).2) ?_
      show Steps p.tables e below (s₁.setTop (mkF m 9 #[.val (.int p1), .val (.int k), .unset, .unset] [])) _
      exact kt)
    obtain ⟨T5, X5, e5, st5⟩ := getS2 X0 hx hZ hown (host := "") (Or.inl (hw _ (List.mem_of_getElem? (i := 0) rfl))) Via.refl e0 S_EXPANSIONS (g := (mkF m 9 #[.val (.int p1), .val (.int k), .unset, .unset] [])) rfl (hb hby at_9)
    have pre6 : ∀ t, Steps p.tables e below (T5.setTop (mkF m 12 #[.val (.int p1), .val (.int k), .unset, .unset] [(.ref w_EXPANSIONS)])) t → Steps p.tables e below (s₁.setTop (entryFrame m #[(.int p1)] maxLocals)) t := fun t kt => pre4 t (st5 _ kt)
    have pre7 : ∀ t, Steps p.tables e below (T5.setTop (mkF m 118 #[.val (.int p1), .val (.int k), .val (.ref w_EXPANSIONS), .val (.int (64001 : Int32))] [(.ref w_EXPANSIONS)])) t → Steps p.tables e below (s₁.setTop (entryFrame m #[(.int p1)] maxLocals)) t := fun t kt => pre6 t (by
      refine XS.astoreN X5.here hx rfl (hb hby at_12) rfl rfl (l' := #[.val (.int p1), .val (.int k), .val (.ref w_EXPANSIONS), .unset]) rfl ?_
      show Steps p.tables e below (T5.setTop (mkF m 13 #[.val (.int p1), .val (.int k), .val (.ref w_EXPANSIONS), .unset] [])) _
      refine X5.ldcInt hx hown (mvT hZ (hw _ (List.mem_of_getElem? (i := 3) rfl))) (g := (mkF m 13 #[.val (.int p1), .val (.int k), .val (.ref w_EXPANSIONS), .unset] [])) rfl (hb hby at_13) _ ?_
      show Steps p.tables e below (T5.setTop (mkF m 15 #[.val (.int p1), .val (.int k), .val (.ref w_EXPANSIONS), .unset] [(.int (64001 : Int32))])) _
      refine XS.istoreN X5.here hx rfl (hb hby at_15) rfl (l' := #[.val (.int p1), .val (.int k), .val (.ref w_EXPANSIONS), .val (.int (64001 : Int32))]) rfl ?_
      show Steps p.tables e below (T5.setTop (mkF m 16 #[.val (.int p1), .val (.int k), .val (.ref w_EXPANSIONS), .val (.int (64001 : Int32))] [])) _
      refine XS.goto X5.here hx rfl (pc0 := 16) (pc' := 117) rfl (hb hby at_16) (by decide) (by decide) ?_
      show Steps p.tables e below (T5.setTop (mkF m 117 #[.val (.int p1), .val (.int k), .val (.ref w_EXPANSIONS), .val (.int (64001 : Int32))] [])) _
      refine XS.aloadN X5.here hx rfl (hb hby at_117) rfl rfl ?_
      show Steps p.tables e below (T5.setTop (mkF m 118 #[.val (.int p1), .val (.int k), .val (.ref w_EXPANSIONS), .val (.int (64001 : Int32))] [(.ref w_EXPANSIONS)])) _
      exact kt)
    obtain ⟨cq8, kq8, q8a, q8b, q8c⟩ := isOf hZ e5 (E_EXPANSIONS)
    obtain ⟨_, _, ⟨T8, L8, k8, n8⟩, -, X8, ⟨Lc8, hQ8, l8, y8, z8⟩, st8⟩ := X5.virtualBack hx (y := (⟨"com/example/nest3/nest3/XmlLimit", "setting", "()I"⟩ : MethodName)) (z := (⟨"com/example/nest3/nest3/XmlLimit", "setting", "()I"⟩ : MethodName)) hown (mvT hZ (hw _ (List.mem_of_getElem? (i := 4) rfl))) (mvT hZ (hw _ (List.mem_of_getElem? (i := 5) rfl))) (notFace_of_selects (args := #[]) (mvT hZ (hw _ (List.mem_of_getElem? (i := 7) rfl)))) (mvT hZ (hw _ (List.mem_of_getElem? (i := 7) rfl))) (mvT hZ (hw _ (List.mem_of_getElem? (i := 6) rfl))) (by decide) (backOf (W := 0) (rmS l Z a0 hw [] w_EXPANSIONS (64000 : Int32) w_EXPANSIONS h0 n0 Z0 F_EXPANSIONS S_EXPANSIONS) hZ (hw _ (List.mem_of_getElem? (i := 8) rfl)) (hw _ (List.mem_of_getElem? (i := 1) rfl)) (by decide) (by decide)) q8a q8c (g := (mkF m 118 #[.val (.int p1), .val (.int k), .val (.ref w_EXPANSIONS), .val (.int (64001 : Int32))] [(.ref w_EXPANSIONS)])) rfl (by rw [hml]; rfl) (Steps.refl _) (argsL := []) (rest := []) (lenOf pd__28_29I rfl) rfl (by show 2 * 0 + _ ≤ _; exact Nat.le_of_eq rfl) (hb hby at_118) (fun _ _ => ⟨rfl, e5, (by decide : 0 + 0 ≤ _), (by decide : 0 + 0 ≤ _)⟩)
    dsimp only [Pt.U, Pt.locs, Pt.cells, Pt.slots] at X8 l8 y8 z8 st8 hQ8
    subst l8 y8 z8
    obtain ⟨rfl, N8q, e8q⟩ := hQ8
    have N8 := Fr.app N0 N8q
    have pre9 : ∀ t, Steps p.tables e below (T8.setTop (mkF m 121 #[.val (.int p1), .val (.int k), .val (.ref w_EXPANSIONS), .val (.int (64001 : Int32))] [(.int (if w_EXPANSIONS = w_EXPANSIONS then ((64000 : Int32) + (1 : Int32)) else (64000 : Int32)))])) t → Steps p.tables e below (s₁.setTop (entryFrame m #[(.int p1)] maxLocals)) t := fun t kt => pre7 t (st8.trans kt)
    have pre10 : ∀ t, Steps p.tables e below (T8.setTop (mkF m 130 #[.val (.int p1), .val (.int k), .val (.ref w_EXPANSIONS), .val (.int (64001 : Int32))] [(.int (1 : Int32))])) t → Steps p.tables e below (s₁.setTop (entryFrame m #[(.int p1)] maxLocals)) t := fun t kt => pre9 t (by
      refine XS.iloadN X8.here hx rfl (hb hby at_121) rfl ?_
      show Steps p.tables e below (T8.setTop (mkF m 122 #[.val (.int p1), .val (.int k), .val (.ref w_EXPANSIONS), .val (.int (64001 : Int32))] [(.int (64001 : Int32)), (.int (if w_EXPANSIONS = w_EXPANSIONS then ((64000 : Int32) + (1 : Int32)) else (64000 : Int32)))])) _
      refine XS.icmpNo X8.here hx rfl (hb hby at_122) rfl (teq (by rw [if_pos rfl]; rfl : (if w_EXPANSIONS = w_EXPANSIONS then ((64000 : Int32) + (1 : Int32)) else (64000 : Int32)) = (64001 : Int32))).2 ?_
      show Steps p.tables e below (T8.setTop (mkF m 125 #[.val (.int p1), .val (.int k), .val (.ref w_EXPANSIONS), .val (.int (64001 : Int32))] [])) _
      refine XS.iconst X8.here hx rfl (hb hby at_125) ?_
      show Steps p.tables e below (T8.setTop (mkF m 126 #[.val (.int p1), .val (.int k), .val (.ref w_EXPANSIONS), .val (.int (64001 : Int32))] [(.int (1 : Int32))])) _
      refine XS.goto X8.here hx rfl (pc0 := 126) (pc' := 130) rfl (hb hby at_126) (by decide) (by decide) ?_
      show Steps p.tables e below (T8.setTop (mkF m 130 #[.val (.int p1), .val (.int k), .val (.ref w_EXPANSIONS), .val (.int (64001 : Int32))] [(.int (1 : Int32))])) _
      exact kt)
    obtain ⟨fs, hr, hrun, hended, hW, hsame⟩ := X8.leave (v := (some (.int (1 : Int32)))) (fun h => by rw [Bd.returns] at h; cases h)
    refine ⟨_, _, pre10 _ ?_, hrun, hended, _, _, rfl, ?_, ⟨_, rfl⟩, hW, hsame.mono (by decide) (by decide)⟩
    · exact retN X8 hx (t := .boolean) Bd.returns (by simp) (hb hby at_130) hr
    · show Q0 Z  h0 n0 _ T8.heap _
      rw [e8q]
      exact ⟨rfl, N8⟩
  · have pre12 : ∀ t, Steps p.tables e below (s₁.setTop (mkF m 21 #[.val (.int p1), .val (.int k), .unset, .unset] [(.int (1 : Int32)), (.int k)])) t → Steps p.tables e below (s₁.setTop (entryFrame m #[(.int p1)] maxLocals)) t := fun t kt => pre3 t (by
      refine XS.ifYes X0.here hx rfl (pc0 := 6) (pc' := 19) rfl (hb hby at_6) rfl ((if0 _ _).trans (feq c6_1).2) (by decide) (by decide) ?_
      show Steps p.tables e below (s₁.setTop (mkF m 19 #[.val (.int p1), .val (.int k), .unset, .unset] [])) _
      refine XS.iloadN X0.here hx rfl (hb hby at_19) rfl ?_
      show Steps p.tables e below (s₁.setTop (mkF m 20 #[.val (.int p1), .val (.int k), .unset, .unset] [(.int k)])) _
      refine XS.iconst X0.here hx rfl (hb hby at_20) ?_
      show Steps p.tables e below (s₁.setTop (mkF m 21 #[.val (.int p1), .val (.int k), .unset, .unset] [(.int (1 : Int32)), (.int k)])) _
      exact kt)
    by_cases c21_2 : k = (1 : Int32)
    · have pre13 : ∀ t, Steps p.tables e below (s₁.setTop (mkF m 24 #[.val (.int p1), .val (.int k), .unset, .unset] [])) t → Steps p.tables e below (s₁.setTop (entryFrame m #[(.int p1)] maxLocals)) t := fun t kt => pre12 t (by
        refine XS.icmpNo X0.here hx rfl (hb hby at_21) rfl (teq c21_2).2 ?_
        show Steps p.tables e below (s₁.setTop (mkF m 24 #[.val (.int p1), .val (.int k), .unset, .unset] [])) _
        exact kt)
      obtain ⟨T14, X14, e14, st14⟩ := getS2 X0 hx hZ hown (host := "") (Or.inl (hw _ (List.mem_of_getElem? (i := 22) rfl))) Via.refl e0 S_DEPTH (g := (mkF m 24 #[.val (.int p1), .val (.int k), .unset, .unset] [])) rfl (hb hby at_24)
      have pre15 : ∀ t, Steps p.tables e below (T14.setTop (mkF m 27 #[.val (.int p1), .val (.int k), .unset, .unset] [(.ref w_DEPTH)])) t → Steps p.tables e below (s₁.setTop (entryFrame m #[(.int p1)] maxLocals)) t := fun t kt => pre13 t (st14 _ kt)
      have pre16 : ∀ t, Steps p.tables e below (T14.setTop (mkF m 118 #[.val (.int p1), .val (.int k), .val (.ref w_DEPTH), .val (.int (0 : Int32))] [(.ref w_DEPTH)])) t → Steps p.tables e below (s₁.setTop (entryFrame m #[(.int p1)] maxLocals)) t := fun t kt => pre15 t (by
        refine XS.astoreN X14.here hx rfl (hb hby at_27) rfl rfl (l' := #[.val (.int p1), .val (.int k), .val (.ref w_DEPTH), .unset]) rfl ?_
        show Steps p.tables e below (T14.setTop (mkF m 28 #[.val (.int p1), .val (.int k), .val (.ref w_DEPTH), .unset] [])) _
        refine XS.iconst X14.here hx rfl (hb hby at_28) ?_
        show Steps p.tables e below (T14.setTop (mkF m 29 #[.val (.int p1), .val (.int k), .val (.ref w_DEPTH), .unset] [(.int (0 : Int32))])) _
        refine XS.istoreN X14.here hx rfl (hb hby at_29) rfl (l' := #[.val (.int p1), .val (.int k), .val (.ref w_DEPTH), .val (.int (0 : Int32))]) rfl ?_
        show Steps p.tables e below (T14.setTop (mkF m 30 #[.val (.int p1), .val (.int k), .val (.ref w_DEPTH), .val (.int (0 : Int32))] [])) _
        refine XS.goto X14.here hx rfl (pc0 := 30) (pc' := 117) rfl (hb hby at_30) (by decide) (by decide) ?_
        show Steps p.tables e below (T14.setTop (mkF m 117 #[.val (.int p1), .val (.int k), .val (.ref w_DEPTH), .val (.int (0 : Int32))] [])) _
        refine XS.aloadN X14.here hx rfl (hb hby at_117) rfl rfl ?_
        show Steps p.tables e below (T14.setTop (mkF m 118 #[.val (.int p1), .val (.int k), .val (.ref w_DEPTH), .val (.int (0 : Int32))] [(.ref w_DEPTH)])) _
        exact kt)
      obtain ⟨cq17, kq17, q17a, q17b, q17c⟩ := isOf hZ e14 (E_DEPTH)
      obtain ⟨_, _, ⟨T17, L17, k17, n17⟩, -, X17, ⟨Lc17, hQ17, l17, y17, z17⟩, st17⟩ := X14.virtualBack hx (y := (⟨"com/example/nest3/nest3/XmlLimit", "setting", "()I"⟩ : MethodName)) (z := (⟨"com/example/nest3/nest3/XmlLimit", "setting", "()I"⟩ : MethodName)) hown (mvT hZ (hw _ (List.mem_of_getElem? (i := 4) rfl))) (mvT hZ (hw _ (List.mem_of_getElem? (i := 5) rfl))) (notFace_of_selects (args := #[]) (mvT hZ (hw _ (List.mem_of_getElem? (i := 7) rfl)))) (mvT hZ (hw _ (List.mem_of_getElem? (i := 7) rfl))) (mvT hZ (hw _ (List.mem_of_getElem? (i := 6) rfl))) (by decide) (backOf (W := 0) (rmS l Z a0 hw [] w_DEPTH (0 : Int32) w_EXPANSIONS h0 n0 Z0 F_DEPTH S_EXPANSIONS) hZ (hw _ (List.mem_of_getElem? (i := 8) rfl)) (hw _ (List.mem_of_getElem? (i := 1) rfl)) (by decide) (by decide)) q17a q17c (g := (mkF m 118 #[.val (.int p1), .val (.int k), .val (.ref w_DEPTH), .val (.int (0 : Int32))] [(.ref w_DEPTH)])) rfl (by rw [hml]; rfl) (Steps.refl _) (argsL := []) (rest := []) (lenOf pd__28_29I rfl) rfl (by show 2 * 0 + _ ≤ _; exact Nat.le_of_eq rfl) (hb hby at_118) (fun _ _ => ⟨rfl, e14, (by decide : 0 + 0 ≤ _), (by decide : 0 + 0 ≤ _)⟩)
      dsimp only [Pt.U, Pt.locs, Pt.cells, Pt.slots] at X17 l17 y17 z17 st17 hQ17
      subst l17 y17 z17
      obtain ⟨rfl, N17q, e17q⟩ := hQ17
      have N17 := Fr.app N0 N17q
      have pre18 : ∀ t, Steps p.tables e below (T17.setTop (mkF m 121 #[.val (.int p1), .val (.int k), .val (.ref w_DEPTH), .val (.int (0 : Int32))] [(.int (if w_DEPTH = w_EXPANSIONS then ((0 : Int32) + (1 : Int32)) else (0 : Int32)))])) t → Steps p.tables e below (s₁.setTop (entryFrame m #[(.int p1)] maxLocals)) t := fun t kt => pre16 t (st17.trans kt)
      have pre19 : ∀ t, Steps p.tables e below (T17.setTop (mkF m 130 #[.val (.int p1), .val (.int k), .val (.ref w_DEPTH), .val (.int (0 : Int32))] [(.int (1 : Int32))])) t → Steps p.tables e below (s₁.setTop (entryFrame m #[(.int p1)] maxLocals)) t := fun t kt => pre18 t (by
        refine XS.iloadN X17.here hx rfl (hb hby at_121) rfl ?_
        show Steps p.tables e below (T17.setTop (mkF m 122 #[.val (.int p1), .val (.int k), .val (.ref w_DEPTH), .val (.int (0 : Int32))] [(.int (0 : Int32)), (.int (if w_DEPTH = w_EXPANSIONS then ((0 : Int32) + (1 : Int32)) else (0 : Int32)))])) _
        refine XS.icmpNo X17.here hx rfl (hb hby at_122) rfl (teq (by rw [if_neg n_DEPTH] : (if w_DEPTH = w_EXPANSIONS then ((0 : Int32) + (1 : Int32)) else (0 : Int32)) = (0 : Int32))).2 ?_
        show Steps p.tables e below (T17.setTop (mkF m 125 #[.val (.int p1), .val (.int k), .val (.ref w_DEPTH), .val (.int (0 : Int32))] [])) _
        refine XS.iconst X17.here hx rfl (hb hby at_125) ?_
        show Steps p.tables e below (T17.setTop (mkF m 126 #[.val (.int p1), .val (.int k), .val (.ref w_DEPTH), .val (.int (0 : Int32))] [(.int (1 : Int32))])) _
        refine XS.goto X17.here hx rfl (pc0 := 126) (pc' := 130) rfl (hb hby at_126) (by decide) (by decide) ?_
        show Steps p.tables e below (T17.setTop (mkF m 130 #[.val (.int p1), .val (.int k), .val (.ref w_DEPTH), .val (.int (0 : Int32))] [(.int (1 : Int32))])) _
        exact kt)
      obtain ⟨fs, hr, hrun, hended, hW, hsame⟩ := X17.leave (v := (some (.int (1 : Int32)))) (fun h => by rw [Bd.returns] at h; cases h)
      refine ⟨_, _, pre19 _ ?_, hrun, hended, _, _, rfl, ?_, ⟨_, rfl⟩, hW, hsame.mono (by decide) (by decide)⟩
      · exact retN X17 hx (t := .boolean) Bd.returns (by simp) (hb hby at_130) hr
      · show Q0 Z  h0 n0 _ T17.heap _
        rw [e17q]
        exact ⟨rfl, N17⟩
    · have pre21 : ∀ t, Steps p.tables e below (s₁.setTop (mkF m 35 #[.val (.int p1), .val (.int k), .unset, .unset] [(.int (2 : Int32)), (.int k)])) t → Steps p.tables e below (s₁.setTop (entryFrame m #[(.int p1)] maxLocals)) t := fun t kt => pre12 t (by
        refine XS.icmpYes X0.here hx rfl (pc0 := 21) (pc' := 33) rfl (hb hby at_21) rfl (feq c21_2).2 (by decide) (by decide) ?_
        show Steps p.tables e below (s₁.setTop (mkF m 33 #[.val (.int p1), .val (.int k), .unset, .unset] [])) _
        refine XS.iloadN X0.here hx rfl (hb hby at_33) rfl ?_
        show Steps p.tables e below (s₁.setTop (mkF m 34 #[.val (.int p1), .val (.int k), .unset, .unset] [(.int k)])) _
        refine XS.iconst X0.here hx rfl (hb hby at_34) ?_
        show Steps p.tables e below (s₁.setTop (mkF m 35 #[.val (.int p1), .val (.int k), .unset, .unset] [(.int (2 : Int32)), (.int k)])) _
        exact kt)
      by_cases c35_3 : k = (2 : Int32)
      · have pre22 : ∀ t, Steps p.tables e below (s₁.setTop (mkF m 38 #[.val (.int p1), .val (.int k), .unset, .unset] [])) t → Steps p.tables e below (s₁.setTop (entryFrame m #[(.int p1)] maxLocals)) t := fun t kt => pre21 t (by
          refine XS.icmpNo X0.here hx rfl (hb hby at_35) rfl (teq c35_3).2 ?_
          show Steps p.tables e below (s₁.setTop (mkF m 38 #[.val (.int p1), .val (.int k), .unset, .unset] [])) _
          exact kt)
        obtain ⟨T23, X23, e23, st23⟩ := getS2 X0 hx hZ hown (host := "") (Or.inl (hw _ (List.mem_of_getElem? (i := 19) rfl))) Via.refl e0 S_TOTAL_ENTITY_SIZE (g := (mkF m 38 #[.val (.int p1), .val (.int k), .unset, .unset] [])) rfl (hb hby at_38)
        have pre24 : ∀ t, Steps p.tables e below (T23.setTop (mkF m 41 #[.val (.int p1), .val (.int k), .unset, .unset] [(.ref w_TOTAL_ENTITY_SIZE)])) t → Steps p.tables e below (s₁.setTop (entryFrame m #[(.int p1)] maxLocals)) t := fun t kt => pre22 t (st23 _ kt)
        have pre25 : ∀ t, Steps p.tables e below (T23.setTop (mkF m 118 #[.val (.int p1), .val (.int k), .val (.ref w_TOTAL_ENTITY_SIZE), .val (.int (50000000 : Int32))] [(.ref w_TOTAL_ENTITY_SIZE)])) t → Steps p.tables e below (s₁.setTop (entryFrame m #[(.int p1)] maxLocals)) t := fun t kt => pre24 t (by
          refine XS.astoreN X23.here hx rfl (hb hby at_41) rfl rfl (l' := #[.val (.int p1), .val (.int k), .val (.ref w_TOTAL_ENTITY_SIZE), .unset]) rfl ?_
          show Steps p.tables e below (T23.setTop (mkF m 42 #[.val (.int p1), .val (.int k), .val (.ref w_TOTAL_ENTITY_SIZE), .unset] [])) _
          refine X23.ldcInt hx hown (mvT hZ (hw _ (List.mem_of_getElem? (i := 21) rfl))) (g := (mkF m 42 #[.val (.int p1), .val (.int k), .val (.ref w_TOTAL_ENTITY_SIZE), .unset] [])) rfl (hb hby at_42) _ ?_
          show Steps p.tables e below (T23.setTop (mkF m 44 #[.val (.int p1), .val (.int k), .val (.ref w_TOTAL_ENTITY_SIZE), .unset] [(.int (50000000 : Int32))])) _
          refine XS.istoreN X23.here hx rfl (hb hby at_44) rfl (l' := #[.val (.int p1), .val (.int k), .val (.ref w_TOTAL_ENTITY_SIZE), .val (.int (50000000 : Int32))]) rfl ?_
          show Steps p.tables e below (T23.setTop (mkF m 45 #[.val (.int p1), .val (.int k), .val (.ref w_TOTAL_ENTITY_SIZE), .val (.int (50000000 : Int32))] [])) _
          refine XS.goto X23.here hx rfl (pc0 := 45) (pc' := 117) rfl (hb hby at_45) (by decide) (by decide) ?_
          show Steps p.tables e below (T23.setTop (mkF m 117 #[.val (.int p1), .val (.int k), .val (.ref w_TOTAL_ENTITY_SIZE), .val (.int (50000000 : Int32))] [])) _
          refine XS.aloadN X23.here hx rfl (hb hby at_117) rfl rfl ?_
          show Steps p.tables e below (T23.setTop (mkF m 118 #[.val (.int p1), .val (.int k), .val (.ref w_TOTAL_ENTITY_SIZE), .val (.int (50000000 : Int32))] [(.ref w_TOTAL_ENTITY_SIZE)])) _
          exact kt)
        obtain ⟨cq26, kq26, q26a, q26b, q26c⟩ := isOf hZ e23 (E_TOTAL_ENTITY_SIZE)
        obtain ⟨_, _, ⟨T26, L26, k26, n26⟩, -, X26, ⟨Lc26, hQ26, l26, y26, z26⟩, st26⟩ := X23.virtualBack hx (y := (⟨"com/example/nest3/nest3/XmlLimit", "setting", "()I"⟩ : MethodName)) (z := (⟨"com/example/nest3/nest3/XmlLimit", "setting", "()I"⟩ : MethodName)) hown (mvT hZ (hw _ (List.mem_of_getElem? (i := 4) rfl))) (mvT hZ (hw _ (List.mem_of_getElem? (i := 5) rfl))) (notFace_of_selects (args := #[]) (mvT hZ (hw _ (List.mem_of_getElem? (i := 7) rfl)))) (mvT hZ (hw _ (List.mem_of_getElem? (i := 7) rfl))) (mvT hZ (hw _ (List.mem_of_getElem? (i := 6) rfl))) (by decide) (backOf (W := 0) (rmS l Z a0 hw [] w_TOTAL_ENTITY_SIZE (50000000 : Int32) w_EXPANSIONS h0 n0 Z0 F_TOTAL_ENTITY_SIZE S_EXPANSIONS) hZ (hw _ (List.mem_of_getElem? (i := 8) rfl)) (hw _ (List.mem_of_getElem? (i := 1) rfl)) (by decide) (by decide)) q26a q26c (g := (mkF m 118 #[.val (.int p1), .val (.int k), .val (.ref w_TOTAL_ENTITY_SIZE), .val (.int (50000000 : Int32))] [(.ref w_TOTAL_ENTITY_SIZE)])) rfl (by rw [hml]; rfl) (Steps.refl _) (argsL := []) (rest := []) (lenOf pd__28_29I rfl) rfl (by show 2 * 0 + _ ≤ _; exact Nat.le_of_eq rfl) (hb hby at_118) (fun _ _ => ⟨rfl, e23, (by decide : 0 + 0 ≤ _), (by decide : 0 + 0 ≤ _)⟩)
        dsimp only [Pt.U, Pt.locs, Pt.cells, Pt.slots] at X26 l26 y26 z26 st26 hQ26
        subst l26 y26 z26
        obtain ⟨rfl, N26q, e26q⟩ := hQ26
        have N26 := Fr.app N0 N26q
        have pre27 : ∀ t, Steps p.tables e below (T26.setTop (mkF m 121 #[.val (.int p1), .val (.int k), .val (.ref w_TOTAL_ENTITY_SIZE), .val (.int (50000000 : Int32))] [(.int (if w_TOTAL_ENTITY_SIZE = w_EXPANSIONS then ((50000000 : Int32) + (1 : Int32)) else (50000000 : Int32)))])) t → Steps p.tables e below (s₁.setTop (entryFrame m #[(.int p1)] maxLocals)) t := fun t kt => pre25 t (st26.trans kt)
        have pre28 : ∀ t, Steps p.tables e below (T26.setTop (mkF m 130 #[.val (.int p1), .val (.int k), .val (.ref w_TOTAL_ENTITY_SIZE), .val (.int (50000000 : Int32))] [(.int (1 : Int32))])) t → Steps p.tables e below (s₁.setTop (entryFrame m #[(.int p1)] maxLocals)) t := fun t kt => pre27 t (by
          refine XS.iloadN X26.here hx rfl (hb hby at_121) rfl ?_
          show Steps p.tables e below (T26.setTop (mkF m 122 #[.val (.int p1), .val (.int k), .val (.ref w_TOTAL_ENTITY_SIZE), .val (.int (50000000 : Int32))] [(.int (50000000 : Int32)), (.int (if w_TOTAL_ENTITY_SIZE = w_EXPANSIONS then ((50000000 : Int32) + (1 : Int32)) else (50000000 : Int32)))])) _
          refine XS.icmpNo X26.here hx rfl (hb hby at_122) rfl (teq (by rw [if_neg n_TOTAL_ENTITY_SIZE] : (if w_TOTAL_ENTITY_SIZE = w_EXPANSIONS then ((50000000 : Int32) + (1 : Int32)) else (50000000 : Int32)) = (50000000 : Int32))).2 ?_
          show Steps p.tables e below (T26.setTop (mkF m 125 #[.val (.int p1), .val (.int k), .val (.ref w_TOTAL_ENTITY_SIZE), .val (.int (50000000 : Int32))] [])) _
          refine XS.iconst X26.here hx rfl (hb hby at_125) ?_
          show Steps p.tables e below (T26.setTop (mkF m 126 #[.val (.int p1), .val (.int k), .val (.ref w_TOTAL_ENTITY_SIZE), .val (.int (50000000 : Int32))] [(.int (1 : Int32))])) _
          refine XS.goto X26.here hx rfl (pc0 := 126) (pc' := 130) rfl (hb hby at_126) (by decide) (by decide) ?_
          show Steps p.tables e below (T26.setTop (mkF m 130 #[.val (.int p1), .val (.int k), .val (.ref w_TOTAL_ENTITY_SIZE), .val (.int (50000000 : Int32))] [(.int (1 : Int32))])) _
          exact kt)
        obtain ⟨fs, hr, hrun, hended, hW, hsame⟩ := X26.leave (v := (some (.int (1 : Int32)))) (fun h => by rw [Bd.returns] at h; cases h)
        refine ⟨_, _, pre28 _ ?_, hrun, hended, _, _, rfl, ?_, ⟨_, rfl⟩, hW, hsame.mono (by decide) (by decide)⟩
        · exact retN X26 hx (t := .boolean) Bd.returns (by simp) (hb hby at_130) hr
        · show Q0 Z  h0 n0 _ T26.heap _
          rw [e26q]
          exact ⟨rfl, N26⟩
      · have pre30 : ∀ t, Steps p.tables e below (s₁.setTop (mkF m 50 #[.val (.int p1), .val (.int k), .unset, .unset] [(.int (3 : Int32)), (.int k)])) t → Steps p.tables e below (s₁.setTop (entryFrame m #[(.int p1)] maxLocals)) t := fun t kt => pre21 t (by
          refine XS.icmpYes X0.here hx rfl (pc0 := 35) (pc' := 48) rfl (hb hby at_35) rfl (feq c35_3).2 (by decide) (by decide) ?_
          show Steps p.tables e below (s₁.setTop (mkF m 48 #[.val (.int p1), .val (.int k), .unset, .unset] [])) _
          refine XS.iloadN X0.here hx rfl (hb hby at_48) rfl ?_
          show Steps p.tables e below (s₁.setTop (mkF m 49 #[.val (.int p1), .val (.int k), .unset, .unset] [(.int k)])) _
          refine XS.iconst X0.here hx rfl (hb hby at_49) ?_
          show Steps p.tables e below (s₁.setTop (mkF m 50 #[.val (.int p1), .val (.int k), .unset, .unset] [(.int (3 : Int32)), (.int k)])) _
          exact kt)
        by_cases c50_4 : k = (3 : Int32)
        · have pre31 : ∀ t, Steps p.tables e below (s₁.setTop (mkF m 53 #[.val (.int p1), .val (.int k), .unset, .unset] [])) t → Steps p.tables e below (s₁.setTop (entryFrame m #[(.int p1)] maxLocals)) t := fun t kt => pre30 t (by
            refine XS.icmpNo X0.here hx rfl (hb hby at_50) rfl (teq c50_4).2 ?_
            show Steps p.tables e below (s₁.setTop (mkF m 53 #[.val (.int p1), .val (.int k), .unset, .unset] [])) _
            exact kt)
          obtain ⟨T32, X32, e32, st32⟩ := getS2 X0 hx hZ hown (host := "") (Or.inl (hw _ (List.mem_of_getElem? (i := 12) rfl))) Via.refl e0 S_GENERAL_ENTITY_SIZE (g := (mkF m 53 #[.val (.int p1), .val (.int k), .unset, .unset] [])) rfl (hb hby at_53)
          have pre33 : ∀ t, Steps p.tables e below (T32.setTop (mkF m 56 #[.val (.int p1), .val (.int k), .unset, .unset] [(.ref w_GENERAL_ENTITY_SIZE)])) t → Steps p.tables e below (s₁.setTop (entryFrame m #[(.int p1)] maxLocals)) t := fun t kt => pre31 t (st32 _ kt)
          have pre34 : ∀ t, Steps p.tables e below (T32.setTop (mkF m 118 #[.val (.int p1), .val (.int k), .val (.ref w_GENERAL_ENTITY_SIZE), .val (.int (0 : Int32))] [(.ref w_GENERAL_ENTITY_SIZE)])) t → Steps p.tables e below (s₁.setTop (entryFrame m #[(.int p1)] maxLocals)) t := fun t kt => pre33 t (by
            refine XS.astoreN X32.here hx rfl (hb hby at_56) rfl rfl (l' := #[.val (.int p1), .val (.int k), .val (.ref w_GENERAL_ENTITY_SIZE), .unset]) rfl ?_
            show Steps p.tables e below (T32.setTop (mkF m 57 #[.val (.int p1), .val (.int k), .val (.ref w_GENERAL_ENTITY_SIZE), .unset] [])) _
            refine XS.iconst X32.here hx rfl (hb hby at_57) ?_
            show Steps p.tables e below (T32.setTop (mkF m 58 #[.val (.int p1), .val (.int k), .val (.ref w_GENERAL_ENTITY_SIZE), .unset] [(.int (0 : Int32))])) _
            refine XS.istoreN X32.here hx rfl (hb hby at_58) rfl (l' := #[.val (.int p1), .val (.int k), .val (.ref w_GENERAL_ENTITY_SIZE), .val (.int (0 : Int32))]) rfl ?_
            show Steps p.tables e below (T32.setTop (mkF m 59 #[.val (.int p1), .val (.int k), .val (.ref w_GENERAL_ENTITY_SIZE), .val (.int (0 : Int32))] [])) _
            refine XS.goto X32.here hx rfl (pc0 := 59) (pc' := 117) rfl (hb hby at_59) (by decide) (by decide) ?_
            show Steps p.tables e below (T32.setTop (mkF m 117 #[.val (.int p1), .val (.int k), .val (.ref w_GENERAL_ENTITY_SIZE), .val (.int (0 : Int32))] [])) _
            refine XS.aloadN X32.here hx rfl (hb hby at_117) rfl rfl ?_
            show Steps p.tables e below (T32.setTop (mkF m 118 #[.val (.int p1), .val (.int k), .val (.ref w_GENERAL_ENTITY_SIZE), .val (.int (0 : Int32))] [(.ref w_GENERAL_ENTITY_SIZE)])) _
            exact kt)
          obtain ⟨cq35, kq35, q35a, q35b, q35c⟩ := isOf hZ e32 (E_GENERAL_ENTITY_SIZE)
          obtain ⟨_, _, ⟨T35, L35, k35, n35⟩, -, X35, ⟨Lc35, hQ35, l35, y35, z35⟩, st35⟩ := X32.virtualBack hx (y := (⟨"com/example/nest3/nest3/XmlLimit", "setting", "()I"⟩ : MethodName)) (z := (⟨"com/example/nest3/nest3/XmlLimit", "setting", "()I"⟩ : MethodName)) hown (mvT hZ (hw _ (List.mem_of_getElem? (i := 4) rfl))) (mvT hZ (hw _ (List.mem_of_getElem? (i := 5) rfl))) (notFace_of_selects (args := #[]) (mvT hZ (hw _ (List.mem_of_getElem? (i := 7) rfl)))) (mvT hZ (hw _ (List.mem_of_getElem? (i := 7) rfl))) (mvT hZ (hw _ (List.mem_of_getElem? (i := 6) rfl))) (by decide) (backOf (W := 0) (rmS l Z a0 hw [] w_GENERAL_ENTITY_SIZE (0 : Int32) w_EXPANSIONS h0 n0 Z0 F_GENERAL_ENTITY_SIZE S_EXPANSIONS) hZ (hw _ (List.mem_of_getElem? (i := 8) rfl)) (hw _ (List.mem_of_getElem? (i := 1) rfl)) (by decide) (by decide)) q35a q35c (g := (mkF m 118 #[.val (.int p1), .val (.int k), .val (.ref w_GENERAL_ENTITY_SIZE), .val (.int (0 : Int32))] [(.ref w_GENERAL_ENTITY_SIZE)])) rfl (by rw [hml]; rfl) (Steps.refl _) (argsL := []) (rest := []) (lenOf pd__28_29I rfl) rfl (by show 2 * 0 + _ ≤ _; exact Nat.le_of_eq rfl) (hb hby at_118) (fun _ _ => ⟨rfl, e32, (by decide : 0 + 0 ≤ _), (by decide : 0 + 0 ≤ _)⟩)
          dsimp only [Pt.U, Pt.locs, Pt.cells, Pt.slots] at X35 l35 y35 z35 st35 hQ35
          subst l35 y35 z35
          obtain ⟨rfl, N35q, e35q⟩ := hQ35
          have N35 := Fr.app N0 N35q
          have pre36 : ∀ t, Steps p.tables e below (T35.setTop (mkF m 121 #[.val (.int p1), .val (.int k), .val (.ref w_GENERAL_ENTITY_SIZE), .val (.int (0 : Int32))] [(.int (if w_GENERAL_ENTITY_SIZE = w_EXPANSIONS then ((0 : Int32) + (1 : Int32)) else (0 : Int32)))])) t → Steps p.tables e below (s₁.setTop (entryFrame m #[(.int p1)] maxLocals)) t := fun t kt => pre34 t (st35.trans kt)
          have pre37 : ∀ t, Steps p.tables e below (T35.setTop (mkF m 130 #[.val (.int p1), .val (.int k), .val (.ref w_GENERAL_ENTITY_SIZE), .val (.int (0 : Int32))] [(.int (1 : Int32))])) t → Steps p.tables e below (s₁.setTop (entryFrame m #[(.int p1)] maxLocals)) t := fun t kt => pre36 t (by
            refine XS.iloadN X35.here hx rfl (hb hby at_121) rfl ?_
            show Steps p.tables e below (T35.setTop (mkF m 122 #[.val (.int p1), .val (.int k), .val (.ref w_GENERAL_ENTITY_SIZE), .val (.int (0 : Int32))] [(.int (0 : Int32)), (.int (if w_GENERAL_ENTITY_SIZE = w_EXPANSIONS then ((0 : Int32) + (1 : Int32)) else (0 : Int32)))])) _
            refine XS.icmpNo X35.here hx rfl (hb hby at_122) rfl (teq (by rw [if_neg n_GENERAL_ENTITY_SIZE] : (if w_GENERAL_ENTITY_SIZE = w_EXPANSIONS then ((0 : Int32) + (1 : Int32)) else (0 : Int32)) = (0 : Int32))).2 ?_
            show Steps p.tables e below (T35.setTop (mkF m 125 #[.val (.int p1), .val (.int k), .val (.ref w_GENERAL_ENTITY_SIZE), .val (.int (0 : Int32))] [])) _
            refine XS.iconst X35.here hx rfl (hb hby at_125) ?_
            show Steps p.tables e below (T35.setTop (mkF m 126 #[.val (.int p1), .val (.int k), .val (.ref w_GENERAL_ENTITY_SIZE), .val (.int (0 : Int32))] [(.int (1 : Int32))])) _
            refine XS.goto X35.here hx rfl (pc0 := 126) (pc' := 130) rfl (hb hby at_126) (by decide) (by decide) ?_
            show Steps p.tables e below (T35.setTop (mkF m 130 #[.val (.int p1), .val (.int k), .val (.ref w_GENERAL_ENTITY_SIZE), .val (.int (0 : Int32))] [(.int (1 : Int32))])) _
            exact kt)
          obtain ⟨fs, hr, hrun, hended, hW, hsame⟩ := X35.leave (v := (some (.int (1 : Int32)))) (fun h => by rw [Bd.returns] at h; cases h)
          refine ⟨_, _, pre37 _ ?_, hrun, hended, _, _, rfl, ?_, ⟨_, rfl⟩, hW, hsame.mono (by decide) (by decide)⟩
          · exact retN X35 hx (t := .boolean) Bd.returns (by simp) (hb hby at_130) hr
          · show Q0 Z  h0 n0 _ T35.heap _
            rw [e35q]
            exact ⟨rfl, N35⟩
        · have pre39 : ∀ t, Steps p.tables e below (s₁.setTop (mkF m 64 #[.val (.int p1), .val (.int k), .unset, .unset] [(.int (4 : Int32)), (.int k)])) t → Steps p.tables e below (s₁.setTop (entryFrame m #[(.int p1)] maxLocals)) t := fun t kt => pre30 t (by
            refine XS.icmpYes X0.here hx rfl (pc0 := 50) (pc' := 62) rfl (hb hby at_50) rfl (feq c50_4).2 (by decide) (by decide) ?_
            show Steps p.tables e below (s₁.setTop (mkF m 62 #[.val (.int p1), .val (.int k), .unset, .unset] [])) _
            refine XS.iloadN X0.here hx rfl (hb hby at_62) rfl ?_
            show Steps p.tables e below (s₁.setTop (mkF m 63 #[.val (.int p1), .val (.int k), .unset, .unset] [(.int k)])) _
            refine XS.iconst X0.here hx rfl (hb hby at_63) ?_
            show Steps p.tables e below (s₁.setTop (mkF m 64 #[.val (.int p1), .val (.int k), .unset, .unset] [(.int (4 : Int32)), (.int k)])) _
            exact kt)
          by_cases c64_5 : k = (4 : Int32)
          · have pre40 : ∀ t, Steps p.tables e below (s₁.setTop (mkF m 67 #[.val (.int p1), .val (.int k), .unset, .unset] [])) t → Steps p.tables e below (s₁.setTop (entryFrame m #[(.int p1)] maxLocals)) t := fun t kt => pre39 t (by
              refine XS.icmpNo X0.here hx rfl (hb hby at_64) rfl (teq c64_5).2 ?_
              show Steps p.tables e below (s₁.setTop (mkF m 67 #[.val (.int p1), .val (.int k), .unset, .unset] [])) _
              exact kt)
            obtain ⟨T41, X41, e41, st41⟩ := getS2 X0 hx hZ hown (host := "") (Or.inl (hw _ (List.mem_of_getElem? (i := 24) rfl))) Via.refl e0 S_PARAMETER_ENTITY_SIZE (g := (mkF m 67 #[.val (.int p1), .val (.int k), .unset, .unset] [])) rfl (hb hby at_67)
            have pre42 : ∀ t, Steps p.tables e below (T41.setTop (mkF m 70 #[.val (.int p1), .val (.int k), .unset, .unset] [(.ref w_PARAMETER_ENTITY_SIZE)])) t → Steps p.tables e below (s₁.setTop (entryFrame m #[(.int p1)] maxLocals)) t := fun t kt => pre40 t (st41 _ kt)
            have pre43 : ∀ t, Steps p.tables e below (T41.setTop (mkF m 118 #[.val (.int p1), .val (.int k), .val (.ref w_PARAMETER_ENTITY_SIZE), .val (.int (1000000 : Int32))] [(.ref w_PARAMETER_ENTITY_SIZE)])) t → Steps p.tables e below (s₁.setTop (entryFrame m #[(.int p1)] maxLocals)) t := fun t kt => pre42 t (by
              refine XS.astoreN X41.here hx rfl (hb hby at_70) rfl rfl (l' := #[.val (.int p1), .val (.int k), .val (.ref w_PARAMETER_ENTITY_SIZE), .unset]) rfl ?_
              show Steps p.tables e below (T41.setTop (mkF m 71 #[.val (.int p1), .val (.int k), .val (.ref w_PARAMETER_ENTITY_SIZE), .unset] [])) _
              refine X41.ldcInt hx hown (mvT hZ (hw _ (List.mem_of_getElem? (i := 26) rfl))) (g := (mkF m 71 #[.val (.int p1), .val (.int k), .val (.ref w_PARAMETER_ENTITY_SIZE), .unset] [])) rfl (hb hby at_71) _ ?_
              show Steps p.tables e below (T41.setTop (mkF m 73 #[.val (.int p1), .val (.int k), .val (.ref w_PARAMETER_ENTITY_SIZE), .unset] [(.int (1000000 : Int32))])) _
              refine XS.istoreN X41.here hx rfl (hb hby at_73) rfl (l' := #[.val (.int p1), .val (.int k), .val (.ref w_PARAMETER_ENTITY_SIZE), .val (.int (1000000 : Int32))]) rfl ?_
              show Steps p.tables e below (T41.setTop (mkF m 74 #[.val (.int p1), .val (.int k), .val (.ref w_PARAMETER_ENTITY_SIZE), .val (.int (1000000 : Int32))] [])) _
              refine XS.goto X41.here hx rfl (pc0 := 74) (pc' := 117) rfl (hb hby at_74) (by decide) (by decide) ?_
              show Steps p.tables e below (T41.setTop (mkF m 117 #[.val (.int p1), .val (.int k), .val (.ref w_PARAMETER_ENTITY_SIZE), .val (.int (1000000 : Int32))] [])) _
              refine XS.aloadN X41.here hx rfl (hb hby at_117) rfl rfl ?_
              show Steps p.tables e below (T41.setTop (mkF m 118 #[.val (.int p1), .val (.int k), .val (.ref w_PARAMETER_ENTITY_SIZE), .val (.int (1000000 : Int32))] [(.ref w_PARAMETER_ENTITY_SIZE)])) _
              exact kt)
            obtain ⟨cq44, kq44, q44a, q44b, q44c⟩ := isOf hZ e41 (E_PARAMETER_ENTITY_SIZE)
            obtain ⟨_, _, ⟨T44, L44, k44, n44⟩, -, X44, ⟨Lc44, hQ44, l44, y44, z44⟩, st44⟩ := X41.virtualBack hx (y := (⟨"com/example/nest3/nest3/XmlLimit", "setting", "()I"⟩ : MethodName)) (z := (⟨"com/example/nest3/nest3/XmlLimit", "setting", "()I"⟩ : MethodName)) hown (mvT hZ (hw _ (List.mem_of_getElem? (i := 4) rfl))) (mvT hZ (hw _ (List.mem_of_getElem? (i := 5) rfl))) (notFace_of_selects (args := #[]) (mvT hZ (hw _ (List.mem_of_getElem? (i := 7) rfl)))) (mvT hZ (hw _ (List.mem_of_getElem? (i := 7) rfl))) (mvT hZ (hw _ (List.mem_of_getElem? (i := 6) rfl))) (by decide) (backOf (W := 0) (rmS l Z a0 hw [] w_PARAMETER_ENTITY_SIZE (1000000 : Int32) w_EXPANSIONS h0 n0 Z0 F_PARAMETER_ENTITY_SIZE S_EXPANSIONS) hZ (hw _ (List.mem_of_getElem? (i := 8) rfl)) (hw _ (List.mem_of_getElem? (i := 1) rfl)) (by decide) (by decide)) q44a q44c (g := (mkF m 118 #[.val (.int p1), .val (.int k), .val (.ref w_PARAMETER_ENTITY_SIZE), .val (.int (1000000 : Int32))] [(.ref w_PARAMETER_ENTITY_SIZE)])) rfl (by rw [hml]; rfl) (Steps.refl _) (argsL := []) (rest := []) (lenOf pd__28_29I rfl) rfl (by show 2 * 0 + _ ≤ _; exact Nat.le_of_eq rfl) (hb hby at_118) (fun _ _ => ⟨rfl, e41, (by decide : 0 + 0 ≤ _), (by decide : 0 + 0 ≤ _)⟩)
            dsimp only [Pt.U, Pt.locs, Pt.cells, Pt.slots] at X44 l44 y44 z44 st44 hQ44
            subst l44 y44 z44
            obtain ⟨rfl, N44q, e44q⟩ := hQ44
            have N44 := Fr.app N0 N44q
            have pre45 : ∀ t, Steps p.tables e below (T44.setTop (mkF m 121 #[.val (.int p1), .val (.int k), .val (.ref w_PARAMETER_ENTITY_SIZE), .val (.int (1000000 : Int32))] [(.int (if w_PARAMETER_ENTITY_SIZE = w_EXPANSIONS then ((1000000 : Int32) + (1 : Int32)) else (1000000 : Int32)))])) t → Steps p.tables e below (s₁.setTop (entryFrame m #[(.int p1)] maxLocals)) t := fun t kt => pre43 t (st44.trans kt)
            have pre46 : ∀ t, Steps p.tables e below (T44.setTop (mkF m 130 #[.val (.int p1), .val (.int k), .val (.ref w_PARAMETER_ENTITY_SIZE), .val (.int (1000000 : Int32))] [(.int (1 : Int32))])) t → Steps p.tables e below (s₁.setTop (entryFrame m #[(.int p1)] maxLocals)) t := fun t kt => pre45 t (by
              refine XS.iloadN X44.here hx rfl (hb hby at_121) rfl ?_
              show Steps p.tables e below (T44.setTop (mkF m 122 #[.val (.int p1), .val (.int k), .val (.ref w_PARAMETER_ENTITY_SIZE), .val (.int (1000000 : Int32))] [(.int (1000000 : Int32)), (.int (if w_PARAMETER_ENTITY_SIZE = w_EXPANSIONS then ((1000000 : Int32) + (1 : Int32)) else (1000000 : Int32)))])) _
              refine XS.icmpNo X44.here hx rfl (hb hby at_122) rfl (teq (by rw [if_neg n_PARAMETER_ENTITY_SIZE] : (if w_PARAMETER_ENTITY_SIZE = w_EXPANSIONS then ((1000000 : Int32) + (1 : Int32)) else (1000000 : Int32)) = (1000000 : Int32))).2 ?_
              show Steps p.tables e below (T44.setTop (mkF m 125 #[.val (.int p1), .val (.int k), .val (.ref w_PARAMETER_ENTITY_SIZE), .val (.int (1000000 : Int32))] [])) _
              refine XS.iconst X44.here hx rfl (hb hby at_125) ?_
              show Steps p.tables e below (T44.setTop (mkF m 126 #[.val (.int p1), .val (.int k), .val (.ref w_PARAMETER_ENTITY_SIZE), .val (.int (1000000 : Int32))] [(.int (1 : Int32))])) _
              refine XS.goto X44.here hx rfl (pc0 := 126) (pc' := 130) rfl (hb hby at_126) (by decide) (by decide) ?_
              show Steps p.tables e below (T44.setTop (mkF m 130 #[.val (.int p1), .val (.int k), .val (.ref w_PARAMETER_ENTITY_SIZE), .val (.int (1000000 : Int32))] [(.int (1 : Int32))])) _
              exact kt)
            obtain ⟨fs, hr, hrun, hended, hW, hsame⟩ := X44.leave (v := (some (.int (1 : Int32)))) (fun h => by rw [Bd.returns] at h; cases h)
            refine ⟨_, _, pre46 _ ?_, hrun, hended, _, _, rfl, ?_, ⟨_, rfl⟩, hW, hsame.mono (by decide) (by decide)⟩
            · exact retN X44 hx (t := .boolean) Bd.returns (by simp) (hb hby at_130) hr
            · show Q0 Z  h0 n0 _ T44.heap _
              rw [e44q]
              exact ⟨rfl, N44⟩
          · have pre48 : ∀ t, Steps p.tables e below (s₁.setTop (mkF m 79 #[.val (.int p1), .val (.int k), .unset, .unset] [(.int (5 : Int32)), (.int k)])) t → Steps p.tables e below (s₁.setTop (entryFrame m #[(.int p1)] maxLocals)) t := fun t kt => pre39 t (by
              refine XS.icmpYes X0.here hx rfl (pc0 := 64) (pc' := 77) rfl (hb hby at_64) rfl (feq c64_5).2 (by decide) (by decide) ?_
              show Steps p.tables e below (s₁.setTop (mkF m 77 #[.val (.int p1), .val (.int k), .unset, .unset] [])) _
              refine XS.iloadN X0.here hx rfl (hb hby at_77) rfl ?_
              show Steps p.tables e below (s₁.setTop (mkF m 78 #[.val (.int p1), .val (.int k), .unset, .unset] [(.int k)])) _
              refine XS.iconst X0.here hx rfl (hb hby at_78) ?_
              show Steps p.tables e below (s₁.setTop (mkF m 79 #[.val (.int p1), .val (.int k), .unset, .unset] [(.int (5 : Int32)), (.int k)])) _
              exact kt)
            by_cases c79_6 : k = (5 : Int32)
            · have pre49 : ∀ t, Steps p.tables e below (s₁.setTop (mkF m 82 #[.val (.int p1), .val (.int k), .unset, .unset] [])) t → Steps p.tables e below (s₁.setTop (entryFrame m #[(.int p1)] maxLocals)) t := fun t kt => pre48 t (by
                refine XS.icmpNo X0.here hx rfl (hb hby at_79) rfl (teq c79_6).2 ?_
                show Steps p.tables e below (s₁.setTop (mkF m 82 #[.val (.int p1), .val (.int k), .unset, .unset] [])) _
                exact kt)
              obtain ⟨T50, X50, e50, st50⟩ := getS2 X0 hx hZ hown (host := "") (Or.inl (hw _ (List.mem_of_getElem? (i := 27) rfl))) Via.refl e0 S_ATTRIBUTES (g := (mkF m 82 #[.val (.int p1), .val (.int k), .unset, .unset] [])) rfl (hb hby at_82)
              have pre51 : ∀ t, Steps p.tables e below (T50.setTop (mkF m 85 #[.val (.int p1), .val (.int k), .unset, .unset] [(.ref w_ATTRIBUTES)])) t → Steps p.tables e below (s₁.setTop (entryFrame m #[(.int p1)] maxLocals)) t := fun t kt => pre49 t (st50 _ kt)
              have pre52 : ∀ t, Steps p.tables e below (T50.setTop (mkF m 118 #[.val (.int p1), .val (.int k), .val (.ref w_ATTRIBUTES), .val (.int (10000 : Int32))] [(.ref w_ATTRIBUTES)])) t → Steps p.tables e below (s₁.setTop (entryFrame m #[(.int p1)] maxLocals)) t := fun t kt => pre51 t (by
                refine XS.astoreN X50.here hx rfl (hb hby at_85) rfl rfl (l' := #[.val (.int p1), .val (.int k), .val (.ref w_ATTRIBUTES), .unset]) rfl ?_
                show Steps p.tables e below (T50.setTop (mkF m 86 #[.val (.int p1), .val (.int k), .val (.ref w_ATTRIBUTES), .unset] [])) _
                refine XS.sipush X50.here hx rfl (hb hby at_86) ?_
                show Steps p.tables e below (T50.setTop (mkF m 89 #[.val (.int p1), .val (.int k), .val (.ref w_ATTRIBUTES), .unset] [(.int (10000 : Int32))])) _
                refine XS.istoreN X50.here hx rfl (hb hby at_89) rfl (l' := #[.val (.int p1), .val (.int k), .val (.ref w_ATTRIBUTES), .val (.int (10000 : Int32))]) rfl ?_
                show Steps p.tables e below (T50.setTop (mkF m 90 #[.val (.int p1), .val (.int k), .val (.ref w_ATTRIBUTES), .val (.int (10000 : Int32))] [])) _
                refine XS.goto X50.here hx rfl (pc0 := 90) (pc' := 117) rfl (hb hby at_90) (by decide) (by decide) ?_
                show Steps p.tables e below (T50.setTop (mkF m 117 #[.val (.int p1), .val (.int k), .val (.ref w_ATTRIBUTES), .val (.int (10000 : Int32))] [])) _
                refine XS.aloadN X50.here hx rfl (hb hby at_117) rfl rfl ?_
                show Steps p.tables e below (T50.setTop (mkF m 118 #[.val (.int p1), .val (.int k), .val (.ref w_ATTRIBUTES), .val (.int (10000 : Int32))] [(.ref w_ATTRIBUTES)])) _
                exact kt)
              obtain ⟨cq53, kq53, q53a, q53b, q53c⟩ := isOf hZ e50 (E_ATTRIBUTES)
              obtain ⟨_, _, ⟨T53, L53, k53, n53⟩, -, X53, ⟨Lc53, hQ53, l53, y53, z53⟩, st53⟩ := X50.virtualBack hx (y := (⟨"com/example/nest3/nest3/XmlLimit", "setting", "()I"⟩ : MethodName)) (z := (⟨"com/example/nest3/nest3/XmlLimit", "setting", "()I"⟩ : MethodName)) hown (mvT hZ (hw _ (List.mem_of_getElem? (i := 4) rfl))) (mvT hZ (hw _ (List.mem_of_getElem? (i := 5) rfl))) (notFace_of_selects (args := #[]) (mvT hZ (hw _ (List.mem_of_getElem? (i := 7) rfl)))) (mvT hZ (hw _ (List.mem_of_getElem? (i := 7) rfl))) (mvT hZ (hw _ (List.mem_of_getElem? (i := 6) rfl))) (by decide) (backOf (W := 0) (rmS l Z a0 hw [] w_ATTRIBUTES (10000 : Int32) w_EXPANSIONS h0 n0 Z0 F_ATTRIBUTES S_EXPANSIONS) hZ (hw _ (List.mem_of_getElem? (i := 8) rfl)) (hw _ (List.mem_of_getElem? (i := 1) rfl)) (by decide) (by decide)) q53a q53c (g := (mkF m 118 #[.val (.int p1), .val (.int k), .val (.ref w_ATTRIBUTES), .val (.int (10000 : Int32))] [(.ref w_ATTRIBUTES)])) rfl (by rw [hml]; rfl) (Steps.refl _) (argsL := []) (rest := []) (lenOf pd__28_29I rfl) rfl (by show 2 * 0 + _ ≤ _; exact Nat.le_of_eq rfl) (hb hby at_118) (fun _ _ => ⟨rfl, e50, (by decide : 0 + 0 ≤ _), (by decide : 0 + 0 ≤ _)⟩)
              dsimp only [Pt.U, Pt.locs, Pt.cells, Pt.slots] at X53 l53 y53 z53 st53 hQ53
              subst l53 y53 z53
              obtain ⟨rfl, N53q, e53q⟩ := hQ53
              have N53 := Fr.app N0 N53q
              have pre54 : ∀ t, Steps p.tables e below (T53.setTop (mkF m 121 #[.val (.int p1), .val (.int k), .val (.ref w_ATTRIBUTES), .val (.int (10000 : Int32))] [(.int (if w_ATTRIBUTES = w_EXPANSIONS then ((10000 : Int32) + (1 : Int32)) else (10000 : Int32)))])) t → Steps p.tables e below (s₁.setTop (entryFrame m #[(.int p1)] maxLocals)) t := fun t kt => pre52 t (st53.trans kt)
              have pre55 : ∀ t, Steps p.tables e below (T53.setTop (mkF m 130 #[.val (.int p1), .val (.int k), .val (.ref w_ATTRIBUTES), .val (.int (10000 : Int32))] [(.int (1 : Int32))])) t → Steps p.tables e below (s₁.setTop (entryFrame m #[(.int p1)] maxLocals)) t := fun t kt => pre54 t (by
                refine XS.iloadN X53.here hx rfl (hb hby at_121) rfl ?_
                show Steps p.tables e below (T53.setTop (mkF m 122 #[.val (.int p1), .val (.int k), .val (.ref w_ATTRIBUTES), .val (.int (10000 : Int32))] [(.int (10000 : Int32)), (.int (if w_ATTRIBUTES = w_EXPANSIONS then ((10000 : Int32) + (1 : Int32)) else (10000 : Int32)))])) _
                refine XS.icmpNo X53.here hx rfl (hb hby at_122) rfl (teq (by rw [if_neg n_ATTRIBUTES] : (if w_ATTRIBUTES = w_EXPANSIONS then ((10000 : Int32) + (1 : Int32)) else (10000 : Int32)) = (10000 : Int32))).2 ?_
                show Steps p.tables e below (T53.setTop (mkF m 125 #[.val (.int p1), .val (.int k), .val (.ref w_ATTRIBUTES), .val (.int (10000 : Int32))] [])) _
                refine XS.iconst X53.here hx rfl (hb hby at_125) ?_
                show Steps p.tables e below (T53.setTop (mkF m 126 #[.val (.int p1), .val (.int k), .val (.ref w_ATTRIBUTES), .val (.int (10000 : Int32))] [(.int (1 : Int32))])) _
                refine XS.goto X53.here hx rfl (pc0 := 126) (pc' := 130) rfl (hb hby at_126) (by decide) (by decide) ?_
                show Steps p.tables e below (T53.setTop (mkF m 130 #[.val (.int p1), .val (.int k), .val (.ref w_ATTRIBUTES), .val (.int (10000 : Int32))] [(.int (1 : Int32))])) _
                exact kt)
              obtain ⟨fs, hr, hrun, hended, hW, hsame⟩ := X53.leave (v := (some (.int (1 : Int32)))) (fun h => by rw [Bd.returns] at h; cases h)
              refine ⟨_, _, pre55 _ ?_, hrun, hended, _, _, rfl, ?_, ⟨_, rfl⟩, hW, hsame.mono (by decide) (by decide)⟩
              · exact retN X53 hx (t := .boolean) Bd.returns (by simp) (hb hby at_130) hr
              · show Q0 Z  h0 n0 _ T53.heap _
                rw [e53q]
                exact ⟨rfl, N53⟩
            · have pre57 : ∀ t, Steps p.tables e below (s₁.setTop (mkF m 96 #[.val (.int p1), .val (.int k), .unset, .unset] [(.int (6 : Int32)), (.int k)])) t → Steps p.tables e below (s₁.setTop (entryFrame m #[(.int p1)] maxLocals)) t := fun t kt => pre48 t (by
                refine XS.icmpYes X0.here hx rfl (pc0 := 79) (pc' := 93) rfl (hb hby at_79) rfl (feq c79_6).2 (by decide) (by decide) ?_
                show Steps p.tables e below (s₁.setTop (mkF m 93 #[.val (.int p1), .val (.int k), .unset, .unset] [])) _
                refine XS.iloadN X0.here hx rfl (hb hby at_93) rfl ?_
                show Steps p.tables e below (s₁.setTop (mkF m 94 #[.val (.int p1), .val (.int k), .unset, .unset] [(.int k)])) _
                refine XS.bipush X0.here hx rfl (hb hby at_94) ?_
                show Steps p.tables e below (s₁.setTop (mkF m 96 #[.val (.int p1), .val (.int k), .unset, .unset] [(.int (6 : Int32)), (.int k)])) _
                exact kt)
              by_cases c96_7 : k = (6 : Int32)
              · have pre58 : ∀ t, Steps p.tables e below (s₁.setTop (mkF m 99 #[.val (.int p1), .val (.int k), .unset, .unset] [])) t → Steps p.tables e below (s₁.setTop (entryFrame m #[(.int p1)] maxLocals)) t := fun t kt => pre57 t (by
                  refine XS.icmpNo X0.here hx rfl (hb hby at_96) rfl (teq c96_7).2 ?_
                  show Steps p.tables e below (s₁.setTop (mkF m 99 #[.val (.int p1), .val (.int k), .unset, .unset] [])) _
                  exact kt)
                obtain ⟨T59, X59, e59, st59⟩ := getS2 X0 hx hZ hown (host := "") (Or.inl (hw _ (List.mem_of_getElem? (i := 14) rfl))) Via.refl e0 S_NAME_LENGTH (g := (mkF m 99 #[.val (.int p1), .val (.int k), .unset, .unset] [])) rfl (hb hby at_99)
                have pre60 : ∀ t, Steps p.tables e below (T59.setTop (mkF m 102 #[.val (.int p1), .val (.int k), .unset, .unset] [(.ref w_NAME_LENGTH)])) t → Steps p.tables e below (s₁.setTop (entryFrame m #[(.int p1)] maxLocals)) t := fun t kt => pre58 t (st59 _ kt)
                have pre61 : ∀ t, Steps p.tables e below (T59.setTop (mkF m 118 #[.val (.int p1), .val (.int k), .val (.ref w_NAME_LENGTH), .val (.int (1000 : Int32))] [(.ref w_NAME_LENGTH)])) t → Steps p.tables e below (s₁.setTop (entryFrame m #[(.int p1)] maxLocals)) t := fun t kt => pre60 t (by
                  refine XS.astoreN X59.here hx rfl (hb hby at_102) rfl rfl (l' := #[.val (.int p1), .val (.int k), .val (.ref w_NAME_LENGTH), .unset]) rfl ?_
                  show Steps p.tables e below (T59.setTop (mkF m 103 #[.val (.int p1), .val (.int k), .val (.ref w_NAME_LENGTH), .unset] [])) _
                  refine XS.sipush X59.here hx rfl (hb hby at_103) ?_
                  show Steps p.tables e below (T59.setTop (mkF m 106 #[.val (.int p1), .val (.int k), .val (.ref w_NAME_LENGTH), .unset] [(.int (1000 : Int32))])) _
                  refine XS.istoreN X59.here hx rfl (hb hby at_106) rfl (l' := #[.val (.int p1), .val (.int k), .val (.ref w_NAME_LENGTH), .val (.int (1000 : Int32))]) rfl ?_
                  show Steps p.tables e below (T59.setTop (mkF m 107 #[.val (.int p1), .val (.int k), .val (.ref w_NAME_LENGTH), .val (.int (1000 : Int32))] [])) _
                  refine XS.goto X59.here hx rfl (pc0 := 107) (pc' := 117) rfl (hb hby at_107) (by decide) (by decide) ?_
                  show Steps p.tables e below (T59.setTop (mkF m 117 #[.val (.int p1), .val (.int k), .val (.ref w_NAME_LENGTH), .val (.int (1000 : Int32))] [])) _
                  refine XS.aloadN X59.here hx rfl (hb hby at_117) rfl rfl ?_
                  show Steps p.tables e below (T59.setTop (mkF m 118 #[.val (.int p1), .val (.int k), .val (.ref w_NAME_LENGTH), .val (.int (1000 : Int32))] [(.ref w_NAME_LENGTH)])) _
                  exact kt)
                obtain ⟨cq62, kq62, q62a, q62b, q62c⟩ := isOf hZ e59 (E_NAME_LENGTH)
                obtain ⟨_, _, ⟨T62, L62, k62, n62⟩, -, X62, ⟨Lc62, hQ62, l62, y62, z62⟩, st62⟩ := X59.virtualBack hx (y := (⟨"com/example/nest3/nest3/XmlLimit", "setting", "()I"⟩ : MethodName)) (z := (⟨"com/example/nest3/nest3/XmlLimit", "setting", "()I"⟩ : MethodName)) hown (mvT hZ (hw _ (List.mem_of_getElem? (i := 4) rfl))) (mvT hZ (hw _ (List.mem_of_getElem? (i := 5) rfl))) (notFace_of_selects (args := #[]) (mvT hZ (hw _ (List.mem_of_getElem? (i := 7) rfl)))) (mvT hZ (hw _ (List.mem_of_getElem? (i := 7) rfl))) (mvT hZ (hw _ (List.mem_of_getElem? (i := 6) rfl))) (by decide) (backOf (W := 0) (rmS l Z a0 hw [] w_NAME_LENGTH (1000 : Int32) w_EXPANSIONS h0 n0 Z0 F_NAME_LENGTH S_EXPANSIONS) hZ (hw _ (List.mem_of_getElem? (i := 8) rfl)) (hw _ (List.mem_of_getElem? (i := 1) rfl)) (by decide) (by decide)) q62a q62c (g := (mkF m 118 #[.val (.int p1), .val (.int k), .val (.ref w_NAME_LENGTH), .val (.int (1000 : Int32))] [(.ref w_NAME_LENGTH)])) rfl (by rw [hml]; rfl) (Steps.refl _) (argsL := []) (rest := []) (lenOf pd__28_29I rfl) rfl (by show 2 * 0 + _ ≤ _; exact Nat.le_of_eq rfl) (hb hby at_118) (fun _ _ => ⟨rfl, e59, (by decide : 0 + 0 ≤ _), (by decide : 0 + 0 ≤ _)⟩)
                dsimp only [Pt.U, Pt.locs, Pt.cells, Pt.slots] at X62 l62 y62 z62 st62 hQ62
                subst l62 y62 z62
                obtain ⟨rfl, N62q, e62q⟩ := hQ62
                have N62 := Fr.app N0 N62q
                have pre63 : ∀ t, Steps p.tables e below (T62.setTop (mkF m 121 #[.val (.int p1), .val (.int k), .val (.ref w_NAME_LENGTH), .val (.int (1000 : Int32))] [(.int (if w_NAME_LENGTH = w_EXPANSIONS then ((1000 : Int32) + (1 : Int32)) else (1000 : Int32)))])) t → Steps p.tables e below (s₁.setTop (entryFrame m #[(.int p1)] maxLocals)) t := fun t kt => pre61 t (st62.trans kt)
                have pre64 : ∀ t, Steps p.tables e below (T62.setTop (mkF m 130 #[.val (.int p1), .val (.int k), .val (.ref w_NAME_LENGTH), .val (.int (1000 : Int32))] [(.int (1 : Int32))])) t → Steps p.tables e below (s₁.setTop (entryFrame m #[(.int p1)] maxLocals)) t := fun t kt => pre63 t (by
                  refine XS.iloadN X62.here hx rfl (hb hby at_121) rfl ?_
                  show Steps p.tables e below (T62.setTop (mkF m 122 #[.val (.int p1), .val (.int k), .val (.ref w_NAME_LENGTH), .val (.int (1000 : Int32))] [(.int (1000 : Int32)), (.int (if w_NAME_LENGTH = w_EXPANSIONS then ((1000 : Int32) + (1 : Int32)) else (1000 : Int32)))])) _
                  refine XS.icmpNo X62.here hx rfl (hb hby at_122) rfl (teq (by rw [if_neg n_NAME_LENGTH] : (if w_NAME_LENGTH = w_EXPANSIONS then ((1000 : Int32) + (1 : Int32)) else (1000 : Int32)) = (1000 : Int32))).2 ?_
                  show Steps p.tables e below (T62.setTop (mkF m 125 #[.val (.int p1), .val (.int k), .val (.ref w_NAME_LENGTH), .val (.int (1000 : Int32))] [])) _
                  refine XS.iconst X62.here hx rfl (hb hby at_125) ?_
                  show Steps p.tables e below (T62.setTop (mkF m 126 #[.val (.int p1), .val (.int k), .val (.ref w_NAME_LENGTH), .val (.int (1000 : Int32))] [(.int (1 : Int32))])) _
                  refine XS.goto X62.here hx rfl (pc0 := 126) (pc' := 130) rfl (hb hby at_126) (by decide) (by decide) ?_
                  show Steps p.tables e below (T62.setTop (mkF m 130 #[.val (.int p1), .val (.int k), .val (.ref w_NAME_LENGTH), .val (.int (1000 : Int32))] [(.int (1 : Int32))])) _
                  exact kt)
                obtain ⟨fs, hr, hrun, hended, hW, hsame⟩ := X62.leave (v := (some (.int (1 : Int32)))) (fun h => by rw [Bd.returns] at h; cases h)
                refine ⟨_, _, pre64 _ ?_, hrun, hended, _, _, rfl, ?_, ⟨_, rfl⟩, hW, hsame.mono (by decide) (by decide)⟩
                · exact retN X62 hx (t := .boolean) Bd.returns (by simp) (hb hby at_130) hr
                · show Q0 Z  h0 n0 _ T62.heap _
                  rw [e62q]
                  exact ⟨rfl, N62⟩
              · have pre66 : ∀ t, Steps p.tables e below (s₁.setTop (mkF m 110 #[.val (.int p1), .val (.int k), .unset, .unset] [])) t → Steps p.tables e below (s₁.setTop (entryFrame m #[(.int p1)] maxLocals)) t := fun t kt => pre57 t (by
                  refine XS.icmpYes X0.here hx rfl (pc0 := 96) (pc' := 110) rfl (hb hby at_96) rfl (feq c96_7).2 (by decide) (by decide) ?_
                  show Steps p.tables e below (s₁.setTop (mkF m 110 #[.val (.int p1), .val (.int k), .unset, .unset] [])) _
                  exact kt)
                obtain ⟨T67, X67, e67, st67⟩ := getS2 X0 hx hZ hown (host := "") (Or.inl (hw _ (List.mem_of_getElem? (i := 16) rfl))) Via.refl e0 S_ENTITY_NODES (g := (mkF m 110 #[.val (.int p1), .val (.int k), .unset, .unset] [])) rfl (hb hby at_110)
                have pre68 : ∀ t, Steps p.tables e below (T67.setTop (mkF m 113 #[.val (.int p1), .val (.int k), .unset, .unset] [(.ref w_ENTITY_NODES)])) t → Steps p.tables e below (s₁.setTop (entryFrame m #[(.int p1)] maxLocals)) t := fun t kt => pre66 t (st67 _ kt)
                have pre69 : ∀ t, Steps p.tables e below (T67.setTop (mkF m 118 #[.val (.int p1), .val (.int k), .val (.ref w_ENTITY_NODES), .val (.int (3000000 : Int32))] [(.ref w_ENTITY_NODES)])) t → Steps p.tables e below (s₁.setTop (entryFrame m #[(.int p1)] maxLocals)) t := fun t kt => pre68 t (by
                  refine XS.astoreN X67.here hx rfl (hb hby at_113) rfl rfl (l' := #[.val (.int p1), .val (.int k), .val (.ref w_ENTITY_NODES), .unset]) rfl ?_
                  show Steps p.tables e below (T67.setTop (mkF m 114 #[.val (.int p1), .val (.int k), .val (.ref w_ENTITY_NODES), .unset] [])) _
                  refine X67.ldcInt hx hown (mvT hZ (hw _ (List.mem_of_getElem? (i := 18) rfl))) (g := (mkF m 114 #[.val (.int p1), .val (.int k), .val (.ref w_ENTITY_NODES), .unset] [])) rfl (hb hby at_114) _ ?_
                  show Steps p.tables e below (T67.setTop (mkF m 116 #[.val (.int p1), .val (.int k), .val (.ref w_ENTITY_NODES), .unset] [(.int (3000000 : Int32))])) _
                  refine XS.istoreN X67.here hx rfl (hb hby at_116) rfl (l' := #[.val (.int p1), .val (.int k), .val (.ref w_ENTITY_NODES), .val (.int (3000000 : Int32))]) rfl ?_
                  show Steps p.tables e below (T67.setTop (mkF m 117 #[.val (.int p1), .val (.int k), .val (.ref w_ENTITY_NODES), .val (.int (3000000 : Int32))] [])) _
                  refine XS.aloadN X67.here hx rfl (hb hby at_117) rfl rfl ?_
                  show Steps p.tables e below (T67.setTop (mkF m 118 #[.val (.int p1), .val (.int k), .val (.ref w_ENTITY_NODES), .val (.int (3000000 : Int32))] [(.ref w_ENTITY_NODES)])) _
                  exact kt)
                obtain ⟨cq70, kq70, q70a, q70b, q70c⟩ := isOf hZ e67 (E_ENTITY_NODES)
                obtain ⟨_, _, ⟨T70, L70, k70, n70⟩, -, X70, ⟨Lc70, hQ70, l70, y70, z70⟩, st70⟩ := X67.virtualBack hx (y := (⟨"com/example/nest3/nest3/XmlLimit", "setting", "()I"⟩ : MethodName)) (z := (⟨"com/example/nest3/nest3/XmlLimit", "setting", "()I"⟩ : MethodName)) hown (mvT hZ (hw _ (List.mem_of_getElem? (i := 4) rfl))) (mvT hZ (hw _ (List.mem_of_getElem? (i := 5) rfl))) (notFace_of_selects (args := #[]) (mvT hZ (hw _ (List.mem_of_getElem? (i := 7) rfl)))) (mvT hZ (hw _ (List.mem_of_getElem? (i := 7) rfl))) (mvT hZ (hw _ (List.mem_of_getElem? (i := 6) rfl))) (by decide) (backOf (W := 0) (rmS l Z a0 hw [] w_ENTITY_NODES (3000000 : Int32) w_EXPANSIONS h0 n0 Z0 F_ENTITY_NODES S_EXPANSIONS) hZ (hw _ (List.mem_of_getElem? (i := 8) rfl)) (hw _ (List.mem_of_getElem? (i := 1) rfl)) (by decide) (by decide)) q70a q70c (g := (mkF m 118 #[.val (.int p1), .val (.int k), .val (.ref w_ENTITY_NODES), .val (.int (3000000 : Int32))] [(.ref w_ENTITY_NODES)])) rfl (by rw [hml]; rfl) (Steps.refl _) (argsL := []) (rest := []) (lenOf pd__28_29I rfl) rfl (by show 2 * 0 + _ ≤ _; exact Nat.le_of_eq rfl) (hb hby at_118) (fun _ _ => ⟨rfl, e67, (by decide : 0 + 0 ≤ _), (by decide : 0 + 0 ≤ _)⟩)
                dsimp only [Pt.U, Pt.locs, Pt.cells, Pt.slots] at X70 l70 y70 z70 st70 hQ70
                subst l70 y70 z70
                obtain ⟨rfl, N70q, e70q⟩ := hQ70
                have N70 := Fr.app N0 N70q
                have pre71 : ∀ t, Steps p.tables e below (T70.setTop (mkF m 121 #[.val (.int p1), .val (.int k), .val (.ref w_ENTITY_NODES), .val (.int (3000000 : Int32))] [(.int (if w_ENTITY_NODES = w_EXPANSIONS then ((3000000 : Int32) + (1 : Int32)) else (3000000 : Int32)))])) t → Steps p.tables e below (s₁.setTop (entryFrame m #[(.int p1)] maxLocals)) t := fun t kt => pre69 t (st70.trans kt)
                have pre72 : ∀ t, Steps p.tables e below (T70.setTop (mkF m 130 #[.val (.int p1), .val (.int k), .val (.ref w_ENTITY_NODES), .val (.int (3000000 : Int32))] [(.int (1 : Int32))])) t → Steps p.tables e below (s₁.setTop (entryFrame m #[(.int p1)] maxLocals)) t := fun t kt => pre71 t (by
                  refine XS.iloadN X70.here hx rfl (hb hby at_121) rfl ?_
                  show Steps p.tables e below (T70.setTop (mkF m 122 #[.val (.int p1), .val (.int k), .val (.ref w_ENTITY_NODES), .val (.int (3000000 : Int32))] [(.int (3000000 : Int32)), (.int (if w_ENTITY_NODES = w_EXPANSIONS then ((3000000 : Int32) + (1 : Int32)) else (3000000 : Int32)))])) _
                  refine XS.icmpNo X70.here hx rfl (hb hby at_122) rfl (teq (by rw [if_neg n_ENTITY_NODES] : (if w_ENTITY_NODES = w_EXPANSIONS then ((3000000 : Int32) + (1 : Int32)) else (3000000 : Int32)) = (3000000 : Int32))).2 ?_
                  show Steps p.tables e below (T70.setTop (mkF m 125 #[.val (.int p1), .val (.int k), .val (.ref w_ENTITY_NODES), .val (.int (3000000 : Int32))] [])) _
                  refine XS.iconst X70.here hx rfl (hb hby at_125) ?_
                  show Steps p.tables e below (T70.setTop (mkF m 126 #[.val (.int p1), .val (.int k), .val (.ref w_ENTITY_NODES), .val (.int (3000000 : Int32))] [(.int (1 : Int32))])) _
                  refine XS.goto X70.here hx rfl (pc0 := 126) (pc' := 130) rfl (hb hby at_126) (by decide) (by decide) ?_
                  show Steps p.tables e below (T70.setTop (mkF m 130 #[.val (.int p1), .val (.int k), .val (.ref w_ENTITY_NODES), .val (.int (3000000 : Int32))] [(.int (1 : Int32))])) _
                  exact kt)
                obtain ⟨fs, hr, hrun, hended, hW, hsame⟩ := X70.leave (v := (some (.int (1 : Int32)))) (fun h => by rw [Bd.returns] at h; cases h)
                refine ⟨_, _, pre72 _ ?_, hrun, hended, _, _, rfl, ?_, ⟨_, rfl⟩, hW, hsame.mono (by decide) (by decide)⟩
                · exact retN X70 hx (t := .boolean) Bd.returns (by simp) (hb hby at_130) hr
                · show Q0 Z  h0 n0 _ T70.heap _
                  rw [e70q]
                  exact ⟨rfl, N70⟩
set_option maxRecDepth 65536 in
set_option maxHeartbeats 40000000 in
theorem comes_1 {Post : Tables → Env → Array Value → State → Outcome → State → Prop} (hpost : ∀ tb e args s v u, (limb_1_1.after args s (.returned v) u = true ∧ limb_1_2.after args s (.returned v) u = true ∧ True) → FrameEnd s (.returned v) u (Jvm.fieldLocs frame_1_writes args s ++ Jvm.arrayLocs frame_1_arrays args s ++ Jvm.staticLocs frame_1_statics s) 0 0 → Post tb e args s (.returned v) u) :
    ArmFor flags0 classFile x code maxLocals ret World_1 tables_1 room_1 Calls_1 rest_1 Pre_1 Post := by
  intro l hfl _ _ p e ha hc hk s m args below hf hA hF happ hP
  obtain ⟨hcalls, hrest, hpre⟩ := hP
  obtain ⟨-, -, -, hnamed, -, -, -, hat⟩ := (Spec.applies_iff hf).mp happ
  obtain ⟨hg, hn⟩ := and_e (Cond.before_iff.mp (show (Jvm.Cond.and given_1 narrow_1).before args s = true from hpre))
  obtain ⟨gc, ga⟩ := and_e hg
  obtain ⟨w0, rfl⟩ : ∃ w0 : Value, args = #[w0] := by
    have hs : args.size = 1 := by simpa [Cond.value, given_1] using gc
    obtain ⟨L⟩ := args
    match L, hs with
    | [w0], _ => exact ⟨w0, rfl⟩
  have hw := fun d (hd : d ∈ tables_1) => atoms_spec (ws := Jvm.Cond.code x code maxLocals ret :: tables_1) hat d (List.mem_cons_of_mem _ hd)
  have hfit : Fit s := fun {y c} hc i hi => by
    obtain ⟨ha, rfl⟩ := Array.getElem?_eq_some_iff.mp hc
    have q := List.all_eq_true.mp ((Array.all_eq_true_iff_forall_mem.mp hF) _ (Array.getElem_mem ha)) i (List.mem_range.mpr hi)
    simpa [Array.getElem?_eq_getElem hi] using q
  obtain ⟨i0, ei0⟩ := is_v ga
  obtain rfl : w0 = (.int i0) := Option.some.inj ei0
  obtain ⟨q0, t0⟩ := and_e hn
  obtain ⟨q1, t1⟩ := and_e t0
  obtain ⟨q2, t2⟩ := and_e t1
  obtain ⟨q3, t3⟩ := and_e t2
  obtain ⟨q4, t4⟩ := and_e t3
  obtain ⟨q5, t5⟩ := and_e t4
  obtain ⟨q6, t6⟩ := and_e t5
  obtain ⟨q7, t7⟩ := and_e t6
  obtain ⟨q8, t8⟩ := and_e t7
  obtain ⟨q9, t9⟩ := and_e t8
  obtain ⟨q10, t10⟩ := and_e t9
  obtain ⟨q11, t11⟩ := and_e t10
  obtain ⟨q12, t12⟩ := and_e t11
  obtain ⟨q13, t13⟩ := and_e t12
  obtain ⟨q14, t14⟩ := and_e t13
  obtain ⟨q15, t15⟩ := and_e t14
  obtain ⟨q16, t16⟩ := and_e t15
  obtain ⟨q17, t17⟩ := and_e t16
  obtain ⟨q18, t18⟩ := and_e t17
  obtain ⟨q19, t19⟩ := and_e t18
  obtain ⟨q20, t20⟩ := and_e t19
  obtain ⟨q21, t21⟩ := and_e t20
  obtain ⟨q22, t22⟩ := and_e t21
  have q23 := t22
  obtain ⟨w_EXPANSIONS, ev_EXPANSIONS⟩ := exa_v q0
  have S_EXPANSIONS := Sta.start ev_EXPANSIONS (Or.inr ⟨(hw _ (List.mem_of_getElem? (i := 1) rfl)), (hw _ (List.mem_of_getElem? (i := 2) rfl))⟩)
  have E_EXPANSIONS := Exa.start ev_EXPANSIONS q0
  obtain ⟨w_GENERAL_ENTITY_SIZE, ev_GENERAL_ENTITY_SIZE⟩ := exa_v q2
  have S_GENERAL_ENTITY_SIZE := Sta.start ev_GENERAL_ENTITY_SIZE (Or.inr ⟨(hw _ (List.mem_of_getElem? (i := 1) rfl)), (hw _ (List.mem_of_getElem? (i := 13) rfl))⟩)
  have E_GENERAL_ENTITY_SIZE := Exa.start ev_GENERAL_ENTITY_SIZE q2
  obtain ⟨w_NAME_LENGTH, ev_NAME_LENGTH⟩ := exa_v q6
  have S_NAME_LENGTH := Sta.start ev_NAME_LENGTH (Or.inr ⟨(hw _ (List.mem_of_getElem? (i := 1) rfl)), (hw _ (List.mem_of_getElem? (i := 15) rfl))⟩)
  have E_NAME_LENGTH := Exa.start ev_NAME_LENGTH q6
  obtain ⟨w_ENTITY_NODES, ev_ENTITY_NODES⟩ := exa_v q9
  have S_ENTITY_NODES := Sta.start ev_ENTITY_NODES (Or.inr ⟨(hw _ (List.mem_of_getElem? (i := 1) rfl)), (hw _ (List.mem_of_getElem? (i := 17) rfl))⟩)
  have E_ENTITY_NODES := Exa.start ev_ENTITY_NODES q9
  obtain ⟨w_TOTAL_ENTITY_SIZE, ev_TOTAL_ENTITY_SIZE⟩ := exa_v q12
  have S_TOTAL_ENTITY_SIZE := Sta.start ev_TOTAL_ENTITY_SIZE (Or.inr ⟨(hw _ (List.mem_of_getElem? (i := 1) rfl)), (hw _ (List.mem_of_getElem? (i := 20) rfl))⟩)
  have E_TOTAL_ENTITY_SIZE := Exa.start ev_TOTAL_ENTITY_SIZE q12
  obtain ⟨w_DEPTH, ev_DEPTH⟩ := exa_v q15
  have S_DEPTH := Sta.start ev_DEPTH (Or.inr ⟨(hw _ (List.mem_of_getElem? (i := 1) rfl)), (hw _ (List.mem_of_getElem? (i := 23) rfl))⟩)
  have E_DEPTH := Exa.start ev_DEPTH q15
  obtain ⟨w_PARAMETER_ENTITY_SIZE, ev_PARAMETER_ENTITY_SIZE⟩ := exa_v q18
  have S_PARAMETER_ENTITY_SIZE := Sta.start ev_PARAMETER_ENTITY_SIZE (Or.inr ⟨(hw _ (List.mem_of_getElem? (i := 1) rfl)), (hw _ (List.mem_of_getElem? (i := 25) rfl))⟩)
  have E_PARAMETER_ENTITY_SIZE := Exa.start ev_PARAMETER_ENTITY_SIZE q18
  obtain ⟨w_ATTRIBUTES, ev_ATTRIBUTES⟩ := exa_v q21
  have S_ATTRIBUTES := Sta.start ev_ATTRIBUTES (Or.inr ⟨(hw _ (List.mem_of_getElem? (i := 1) rfl)), (hw _ (List.mem_of_getElem? (i := 28) rfl))⟩)
  have E_ATTRIBUTES := Exa.start ev_ATTRIBUTES q21
  have F1 := own_fldI q1 ev_EXPANSIONS
  have F3 := own_fldI q3 ev_GENERAL_ENTITY_SIZE
  have F4 := own_fldI q4 ev_EXPANSIONS
  have F5 := own_fldI q5 ev_GENERAL_ENTITY_SIZE
  have F7 := own_fldI q7 ev_NAME_LENGTH
  have F8 := own_fldI q8 ev_NAME_LENGTH
  have F10 := own_fldI q10 ev_ENTITY_NODES
  have F11 := own_fldI q11 ev_ENTITY_NODES
  have F13 := own_fldI q13 ev_TOTAL_ENTITY_SIZE
  have F14 := own_fldI q14 ev_TOTAL_ENTITY_SIZE
  have F16 := own_fldI q16 ev_DEPTH
  have F17 := own_fldI q17 ev_DEPTH
  have F19 := own_fldI q19 ev_PARAMETER_ENTITY_SIZE
  have F20 := own_fldI q20 ev_PARAMETER_ENTITY_SIZE
  have F22 := own_fldI q22 ev_ATTRIBUTES
  have F23 := own_fldI q23 ev_ATTRIBUTES
  obtain ⟨n, o, h1, h2, h3, _, L, rfl, ⟨rfl, N⟩, hq⟩ := rm0 l s _ hw tables_1 i0 w_EXPANSIONS w_DEPTH w_TOTAL_ENTITY_SIZE w_GENERAL_ENTITY_SIZE w_PARAMETER_ENTITY_SIZE w_ATTRIBUTES w_NAME_LENGTH w_ENTITY_NODES s.heap s.heap.size (Nat.le_refl _) S_EXPANSIONS S_DEPTH S_TOTAL_ENTITY_SIZE S_GENERAL_ENTITY_SIZE S_PARAMETER_ENTITY_SIZE S_ATTRIBUTES S_NAME_LENGTH S_ENTITY_NODES E_EXPANSIONS E_DEPTH E_TOTAL_ENTITY_SIZE E_GENERAL_ENTITY_SIZE E_PARAMETER_ENTITY_SIZE E_ATTRIBUTES E_NAME_LENGTH E_ENTITY_NODES F1 F17 F14 F5 F20 F23 F8 F11 (own_fldne F16 F4 (by decide)) (own_fldne F13 F4 (by decide)) (own_fldne F3 F4 (by decide)) (own_fldne F19 F4 (by decide)) (own_fldne F22 F4 (by decide)) (own_fldne F7 F4 (by decide)) (own_fldne F10 F4 (by decide)) p e ha hc hk s m _ below hf ((Spec.applies_iff_loose hf).mp happ).1 ⟨rfl, State.Warmed39.refl s, rfl⟩ trivial
  refine ⟨n, _, h1, h2, h3, hpost _ _ _ _ _ _ ⟨Cond.after_iff.mpr rfl, Cond.after_iff.mpr (eq_i res_at (Term.int_eval (1)) rfl), trivial⟩ ⟨hq.1, hq.2.1, (hq.2.2.sift fun y hy => Or.inr (N y hy)).mono (by decide) (by decide)⟩⟩
theorem main_1_1 : Claimed_1_1 := comes_1 fun _ _ _ _ _ _ h hF => ⟨h.1, hF⟩
theorem main_1_2 : Claimed_1_2 := comes_1 fun _ _ _ _ _ _ h hF => ⟨h.2.1, hF⟩
end Jvm.Pilot.@@N@@
namespace Jvm.Pilot.@@N@@
open Jvm Jvm.ClassFile Sem Op Lib Jvm.Free Jvm.Stand Jvm.Pilot.@@N@@.Jvm.D
/-! MADE BY PROGRAM (witnessworld.py) out of the Statement's table words and the real class files: 12 classes; the members and pool entries that the words name. The judged class is class 1, her method 1. -/
namespace start1
open Jvm.ClassFile
def u (s : String) : CpInfo := .utf8 (stringToUtf16 s)
/-- a pool by its gaps: so many unusable entries, then the entry; so many at the end -/
def gap : Nat → List CpInfo → List CpInfo
  | 0, r => r
  | n + 1, r => .unusable :: gap n r
def poolList (es : List (Nat × CpInfo)) (last : Nat) : List CpInfo := es.foldr (fun e r => gap e.1 (e.2 :: r)) (gap last [])
def pool (es : List (Nat × CpInfo)) (last : Nat) : Array CpInfo := ⟨poolList es last⟩
def fileOf (pool : Array CpInfo) (this : Nat) (attrs : Array Attribute := #[]) (ms : Array MethodInfo := #[]) (fl : Nat := 33) (sup : Nat := 0) (ifs : Array Nat := #[]) (fds : Array FieldInfo := #[]) : ClassFile where
  minorVersion := 0
  majorVersion := 65
  constantPool := pool
  accessFlags := fl
  thisClass := this
  superClass := sup
  interfaces := ifs
  fields := fds
  methods := ms
  attributes := attrs
def plain (name : String) (sup : Option ClassId) : Class where
  name := name
  kind := .ordinary
  loader := none
  accessFlags := 33
  super := sup
  interfaces := #[]
  cf := none
  fields := #[]
  methods := #[]
  instanceTypes := #[]
  staticTypes := #[]
  resolved := #[]
  callSites := []
  init := .initialized
  statics := none
  mirror := none

def pool0 : Array CpInfo := pool [(5, u "<init>"), (0, u "()V"), (1, .class_ 10), (1, u "java/lang/Object")] 113

def k0m0 : Method := { name := "<init>", desc := "()V", sig := { parameters := [], returnType := none }, accessFlags := 1, code := none }
/-- java/lang/Object -/
def k0 : Class := { plain "java/lang/Object" none with
  accessFlags := 33
  interfaces := #[]
  cf := some (fileOf pool0 8 #[] #[{ accessFlags := 1, nameIndex := 5, descriptorIndex := 6, attributes := #[] }] 33 0 #[] #[])
  fields := #[]
  methods := #[k0m0]
  instanceTypes := #[]
  staticTypes := #[]
  resolved := Array.replicate 124 none
  statics := none }

def pool1 : Array CpInfo := pool [(2, .class_ 4), (1, u "java/lang/Object"), (0, u "<init>"), (0, u "()V"), (0, .fieldref 8 9), (0, .class_ 10), (0, .nameAndType 11 12), (0, u "com/example/nest3/nest3/XmlLimit"), (0, u "EXPANSIONS"), (0, u "Lcom/example/nest3/nest3/XmlLimit;"), (0, .integer 64001), (0, .fieldref 8 15), (0, .nameAndType 16 12), (0, u "DEPTH"), (0, .fieldref 8 18), (0, .nameAndType 19 12), (0, u "TOTAL_ENTITY_SIZE"), (0, .integer 50000000), (0, .fieldref 8 22), (0, .nameAndType 23 12), (0, u "GENERAL_ENTITY_SIZE"), (0, .fieldref 8 25), (0, .nameAndType 26 12), (0, u "PARAMETER_ENTITY_SIZE"), (0, .integer 1000000), (0, .fieldref 8 29), (0, .nameAndType 30 12), (0, u "ATTRIBUTES"), (0, .fieldref 8 32), (0, .nameAndType 33 12), (0, u "NAME_LENGTH"), (0, .fieldref 8 35), (0, .nameAndType 36 12), (0, u "ENTITY_NODES"), (0, .integer 3000000), (0, .methodref 8 39), (0, .nameAndType 40 41), (0, u "setting"), (0, u "()I"), (0, .class_ 43), (0, u "com/example/nest3/nest3/XmlLimitSettingPinLaw"), (2, u "law"), (0, u "(I)Z")] 3

def k1m0 : Method := { name := "<init>", desc := "()V", sig := { parameters := [], returnType := none }, accessFlags := 1, code := none }
def k1c1 : Code := { maxStack := 2, maxLocals := 4, code := code, exceptionTable := #[], attributes := #[] }
def k1m1 : Method := { name := "law", desc := "(I)Z", sig := { parameters := [.int], returnType := some .boolean }, accessFlags := 9, code := some k1c1 }
/-- com/example/nest3/nest3/XmlLimitSettingPinLaw -/
def k1 : Class := { plain "com/example/nest3/nest3/XmlLimitSettingPinLaw" (some 0) with
  accessFlags := 49
  interfaces := #[]
  cf := some (fileOf pool1 42 #[] #[{ accessFlags := 1, nameIndex := 5, descriptorIndex := 6, attributes := #[] }, { accessFlags := 9, nameIndex := 46, descriptorIndex := 47, attributes := #[] }] 49 2 #[] #[])
  fields := #[]
  methods := #[k1m0, k1m1]
  instanceTypes := #[]
  staticTypes := #[]
  resolved := Array.replicate 51 none
  statics := none }

def pool2 : Array CpInfo := pool [(1, .class_ 2), (0, u "java/lang/constant/Constable"), (0, .class_ 4), (0, u "java/lang/Object")] 6

/-- java/lang/constant/Constable -/
def k2 : Class := { plain "java/lang/constant/Constable" (some 0) with
  accessFlags := 1537
  interfaces := #[]
  cf := some (fileOf pool2 1 #[] #[] 1537 3 #[] #[])
  fields := #[]
  methods := #[]
  instanceTypes := #[]
  staticTypes := #[]
  resolved := Array.replicate 11 none
  statics := none }

def pool3 : Array CpInfo := pool [(1, .class_ 2), (0, u "java/lang/Comparable"), (0, .class_ 4), (0, u "java/lang/Object")] 7

/-- java/lang/Comparable -/
def k3 : Class := { plain "java/lang/Comparable" (some 0) with
  accessFlags := 1537
  interfaces := #[]
  cf := some (fileOf pool3 1 #[] #[] 1537 3 #[] #[])
  fields := #[]
  methods := #[]
  instanceTypes := #[]
  staticTypes := #[]
  resolved := Array.replicate 12 none
  statics := none }

def pool4 : Array CpInfo := pool [(1, .class_ 2), (0, u "java/io/Serializable"), (0, .class_ 4), (0, u "java/lang/Object")] 2

/-- java/io/Serializable -/
def k4 : Class := { plain "java/io/Serializable" (some 0) with
  accessFlags := 1537
  interfaces := #[]
  cf := some (fileOf pool4 1 #[] #[] 1537 3 #[] #[])
  fields := #[]
  methods := #[]
  instanceTypes := #[]
  staticTypes := #[]
  resolved := Array.replicate 7 none
  statics := none }

def pool5 : Array CpInfo := pool [(2, .class_ 4), (1, u "java/lang/Enum"), (0, u "name"), (0, u "Ljava/lang/String;"), (2, u "ordinal"), (0, u "I"), (1, .class_ 14), (1, u "java/lang/Object"), (4, u "hash"), (86, .class_ 108), (1, u "java/lang/Enum$EnumDesc"), (2, .class_ 112), (0, u "java/lang/constant/Constable"), (0, .class_ 114), (0, u "java/lang/Comparable"), (0, .class_ 116), (0, u "java/io/Serializable")] 87

/-- java/lang/Enum -/
def k5 : Class := { plain "java/lang/Enum" (some 0) with
  accessFlags := 1057
  interfaces := #[2, 3, 4]
  cf := some (fileOf pool5 2 #[.nestMembers #[106]] #[] 1057 12 #[111, 113, 115] #[{ accessFlags := 18, nameIndex := 5, descriptorIndex := 6, attributes := #[] }, { accessFlags := 18, nameIndex := 9, descriptorIndex := 10, attributes := #[] }, { accessFlags := 2, nameIndex := 19, descriptorIndex := 10, attributes := #[] }])
  fields := #[{ name := "name", type := (.object "java/lang/String"), accessFlags := 18, slot := 0, constantValue := 0 }, { name := "ordinal", type := .int, accessFlags := 18, slot := 1, constantValue := 0 }, { name := "hash", type := .int, accessFlags := 2, slot := 2, constantValue := 0 }]
  methods := #[]
  instanceTypes := #[(.object "java/lang/String"), .int, .int]
  staticTypes := #[]
  resolved := Array.replicate 204 none
  statics := none }

def pool6 : Array CpInfo := pool [(1, .class_ 2), (0, u "com/example/nest3/nest3/XmlLimit"), (0, .fieldref 1 4), (0, .nameAndType 5 6), (0, u "EXPANSIONS"), (0, u "Lcom/example/nest3/nest3/XmlLimit;"), (2, u "DEPTH"), (2, u "TOTAL_ENTITY_SIZE"), (2, u "GENERAL_ENTITY_SIZE"), (2, u "PARAMETER_ENTITY_SIZE"), (2, u "ATTRIBUTES"), (2, u "NAME_LENGTH"), (2, u "ENTITY_NODES"), (2, u "$VALUES"), (0, u "[Lcom/example/nest3/nest3/XmlLimit;"), (6, .class_ 40), (1, u "java/lang/Enum"), (11, u "property"), (0, u "Ljava/lang/String;"), (0, .fieldref 1 55), (0, .nameAndType 56 57), (0, u "most"), (0, u "I"), (2, u "code"), (2, u "words"), (96, u "setting"), (0, u "()I")] 23

def k6c0 : Code := { maxStack := 2, maxLocals := 1, code := prog_168_method_5_code, exceptionTable := #[], attributes := #[] }
def k6m0 : Method := { name := "setting", desc := "()I", sig := { parameters := [], returnType := some .int }, accessFlags := 0, code := some k6c0 }
/-- com/example/nest3/nest3/XmlLimit -/
def k6 : Class := { plain "com/example/nest3/nest3/XmlLimit" (some 5) with
  accessFlags := 16432
  interfaces := #[]
  cf := some (fileOf pool6 1 #[] #[{ accessFlags := 0, nameIndex := 160, descriptorIndex := 161, attributes := #[] }] 16432 38 #[] #[{ accessFlags := 16409, nameIndex := 5, descriptorIndex := 6, attributes := #[] }, { accessFlags := 16409, nameIndex := 9, descriptorIndex := 6, attributes := #[] }, { accessFlags := 16409, nameIndex := 12, descriptorIndex := 6, attributes := #[] }, { accessFlags := 16409, nameIndex := 15, descriptorIndex := 6, attributes := #[] }, { accessFlags := 16409, nameIndex := 18, descriptorIndex := 6, attributes := #[] }, { accessFlags := 16409, nameIndex := 21, descriptorIndex := 6, attributes := #[] }, { accessFlags := 16409, nameIndex := 24, descriptorIndex := 6, attributes := #[] }, { accessFlags := 16409, nameIndex := 27, descriptorIndex := 6, attributes := #[] }, { accessFlags := 16, nameIndex := 52, descriptorIndex := 53, attributes := #[] }, { accessFlags := 18, nameIndex := 56, descriptorIndex := 57, attributes := #[] }, { accessFlags := 18, nameIndex := 60, descriptorIndex := 53, attributes := #[] }, { accessFlags := 18, nameIndex := 63, descriptorIndex := 53, attributes := #[] }, { accessFlags := 4122, nameIndex := 30, descriptorIndex := 31, attributes := #[] }])
  fields := #[{ name := "EXPANSIONS", type := (.object "com/example/nest3/nest3/XmlLimit"), accessFlags := 16409, slot := 0, constantValue := 0 }, { name := "DEPTH", type := (.object "com/example/nest3/nest3/XmlLimit"), accessFlags := 16409, slot := 1, constantValue := 0 }, { name := "TOTAL_ENTITY_SIZE", type := (.object "com/example/nest3/nest3/XmlLimit"), accessFlags := 16409, slot := 2, constantValue := 0 }, { name := "GENERAL_ENTITY_SIZE", type := (.object "com/example/nest3/nest3/XmlLimit"), accessFlags := 16409, slot := 3, constantValue := 0 }, { name := "PARAMETER_ENTITY_SIZE", type := (.object "com/example/nest3/nest3/XmlLimit"), accessFlags := 16409, slot := 4, constantValue := 0 }, { name := "ATTRIBUTES", type := (.object "com/example/nest3/nest3/XmlLimit"), accessFlags := 16409, slot := 5, constantValue := 0 }, { name := "NAME_LENGTH", type := (.object "com/example/nest3/nest3/XmlLimit"), accessFlags := 16409, slot := 6, constantValue := 0 }, { name := "ENTITY_NODES", type := (.object "com/example/nest3/nest3/XmlLimit"), accessFlags := 16409, slot := 7, constantValue := 0 }, { name := "property", type := (.object "java/lang/String"), accessFlags := 16, slot := 3, constantValue := 0 }, { name := "most", type := .int, accessFlags := 18, slot := 4, constantValue := 0 }, { name := "code", type := (.object "java/lang/String"), accessFlags := 18, slot := 5, constantValue := 0 }, { name := "words", type := (.object "java/lang/String"), accessFlags := 18, slot := 6, constantValue := 0 }, { name := "$VALUES", type := (.array (.object "com/example/nest3/nest3/XmlLimit")), accessFlags := 4122, slot := 8, constantValue := 0 }]
  methods := #[k6m0]
  instanceTypes := #[(.object "java/lang/String"), .int, .int, (.object "java/lang/String"), .int, (.object "java/lang/String"), (.object "java/lang/String")]
  staticTypes := #[(.object "com/example/nest3/nest3/XmlLimit"), (.object "com/example/nest3/nest3/XmlLimit"), (.object "com/example/nest3/nest3/XmlLimit"), (.object "com/example/nest3/nest3/XmlLimit"), (.object "com/example/nest3/nest3/XmlLimit"), (.object "com/example/nest3/nest3/XmlLimit"), (.object "com/example/nest3/nest3/XmlLimit"), (.object "com/example/nest3/nest3/XmlLimit"), (.array (.object "com/example/nest3/nest3/XmlLimit"))]
  resolved := Array.replicate 185 none
  statics := some 0 }

def pool7 : Array CpInfo := pool [(1, u "java/lang/Cloneable"), (0, .class_ 1), (0, u "java/lang/Object"), (0, .class_ 3)] 3

/-- java/lang/Cloneable -/
def k7 : Class := { plain "java/lang/Cloneable" (some 0) with
  accessFlags := 1537
  interfaces := #[]
  cf := some (fileOf pool7 2 #[] #[] 1537 4 #[] #[])
  fields := #[]
  methods := #[]
  instanceTypes := #[]
  staticTypes := #[]
  resolved := Array.replicate 8 none
  statics := none }

/-- the primitive byte -/
def k8 : Class := { plain "byte" none with kind := .primitive 'B', accessFlags := 0x411 }
/-- [B -/
def k9 : Class := { plain "[B" (some 0) with kind := .array 8 .byte, interfaces := #[7, 4], accessFlags := 1041 }

/-- the primitive int -/
def k10 : Class := { plain "int" none with kind := .primitive 'I', accessFlags := 0x411 }
/-- [I -/
def k11 : Class := { plain "[I" (some 0) with kind := .array 10 .int, interfaces := #[7, 4], accessFlags := 1041 }

def heap : Heap := #[{ cls := 6, slots := #[.ref 1, .ref 2, .ref 3, .ref 4, .ref 5, .ref 6, .ref 7, .ref 8, .null], vm := .statics 6 },
  { cls := 6, slots := #[.null, .int 0, .int 0, .null, .int 64000, .null, .null], vm := .none },
  { cls := 6, slots := #[.null, .int 1, .int 0, .null, .int 0, .null, .null], vm := .none },
  { cls := 6, slots := #[.null, .int 2, .int 0, .null, .int 50000000, .null, .null], vm := .none },
  { cls := 6, slots := #[.null, .int 3, .int 0, .null, .int 0, .null, .null], vm := .none },
  { cls := 6, slots := #[.null, .int 4, .int 0, .null, .int 1000000, .null, .null], vm := .none },
  { cls := 6, slots := #[.null, .int 5, .int 0, .null, .int 10000, .null, .null], vm := .none },
  { cls := 6, slots := #[.null, .int 6, .int 0, .null, .int 1000, .null, .null], vm := .none },
  { cls := 6, slots := #[.null, .int 7, .int 0, .null, .int 3000000, .null, .null], vm := .none }]
def classes : Array Class := #[k0, k1, k2, k3, k4, k5, k6, k7, k8, k9, k10, k11]
def interned : List (Array UInt16 × Addr) := []
def slotsUsed : Nat := 65
def theMethod : MethodId := ⟨1, 1⟩
def args0 : Array Value := #[.int 5]
def aboutOver (below : List Frame) : State where
  vm := { classes := classes, interned := interned.toArray }
  heap := heap
  slotsUsed := slotsUsed
  threads := #[{ frames := .invoking theMethod args0 :: below }]
def below0 : List Frame := [.native { method := ⟨0, 0⟩, args := #[] }]
def about1 : State := aboutOver below0
def p0 : Program := .bare "" "" ""
def e0 : Env := launch0.env 0 0 0
theorem w_frames : about1.frames = Frame.invoking theMethod args0 :: below0 := rfl
set_option maxRecDepth 65536 in
theorem w_args : argsFit about1.vm theMethod args0 = true := by decide +kernel
set_option maxRecDepth 65536 in
theorem w_heap : heapFits about1 = true := by decide +kernel
set_option maxRecDepth 65536 in
theorem w_runnable : about1.curStatus? = some .runnable := by decide +kernel
set_option maxRecDepth 65536 in
theorem w_alone : about1.alone = true := by decide +kernel
set_option maxRecDepth 65536 in
theorem w_named : about1.methodNamed? x = some theMethod := by decide +kernel
set_option maxRecDepth 65536 in
theorem w_hears : about1.hears theMethod below0 = true := by decide +kernel
set_option maxRecDepth 65536 in
theorem w_ripe : about1.ripe theMethod args0 below0 = true := by decide +kernel
theorem w_running : about1.status = .running := rfl
set_option maxRecDepth 65536 in
theorem w_room : about1.hasRoom e0.platform room_1 = true :=
  launch0.hasRoom_least _ room_1 (by decide +kernel) (by decide +kernel) (by decide +kernel) (by decide +kernel) (by decide +kernel) (by decide +kernel)
theorem allAtoms_all (ts : List Jvm.Cond) (a : Array Jvm.Value) (st : Jvm.State) : (allAtoms ts).before a st = ts.all (fun c => c.before a st) := by
  induction ts with
  | nil => rfl
  | cons c t ih =>
    show (Jvm.Cond.and c (allAtoms t)).before a st = _
    rw [Jvm.Cond.before_and, ih, List.all_cons]
def words1 : List Jvm.Cond := Jvm.Cond.code x code maxLocals ret :: tables_1
/-- a 'code' word, met by the world's own term for the bytes: nothing is compared byte by byte -/
theorem code_word {y : MethodName} {bytes : ByteArray} {mx : Nat} {rt : Option FieldType} {a : Array Value} {s : State} {m : MethodId} {meth : Method} {c : Code} (h1 : s.methodNamed? y = some m) (h2 : s.vm.method? m = some meth) (h3 : meth.code = some c) (h4 : c.code = bytes)
    (h5 : (c.maxLocals == mx && c.exceptionTable.isEmpty && decide (c.maxStack ≤ mostOperands) && decide (meth.sig.returnType = rt) && !meth.locks && decide (parseMethodDescriptor y.desc = some meth.sig)) = true) : (Jvm.Cond.code y bytes mx rt).before a s = true := by
  simp only [Bool.and_eq_true, beq_iff_eq, Bool.not_eq_true', decide_eq_true_eq] at h5
  obtain ⟨⟨⟨⟨⟨g1, g2⟩, g3⟩, g4⟩, g5⟩, g6⟩ := h5
  simp [Cond.before, Cond.holds, Cond.value, h1, h2, h3, h4, g1, g2, g3, g4, g5, g6]
def isCode : Jvm.Cond → Bool
  | .code _ _ _ _ => true
  | _ => false
theorem all_split {L : List Jvm.Cond} {P : Jvm.Cond → Bool} (h1 : L.all (fun c => isCode c || P c) = true) (h2 : ∀ c ∈ L.filter isCode, P c = true) : L.all P = true := by
  refine List.all_eq_true.mpr fun c hc => ?_
  have h := List.all_eq_true.mp h1 c hc
  rcases Bool.eq_false_or_eq_true (isCode c) with hi | hi
  · exact h2 c (List.mem_filter.mpr ⟨hc, hi⟩)
  · simpa [hi] using h
set_option maxRecDepth 65536 in
theorem w_c0 : (Jvm.Cond.code x code maxLocals ret).before args0 about1 = true := code_word (m := ⟨1, 1⟩) (meth := k1m1) (c := k1c1) (by decide +kernel) rfl rfl rfl (by decide +kernel)
set_option maxRecDepth 65536 in
theorem w_c1 : (Jvm.Cond.code ({ cls := "com/example/nest3/nest3/XmlLimit", name := "setting", desc := "()I" } : Jvm.MethodName) prog_168_method_5_code (1 : Nat) (Option.some Jvm.ClassFile.FieldType.int)).before args0 about1 = true := code_word (m := ⟨6, 0⟩) (meth := k6m0) (c := k6c0) (by decide +kernel) rfl rfl rfl (by decide +kernel)
def codes1 : List Jvm.Cond := [Jvm.Cond.code x code maxLocals ret, Jvm.Cond.code ({ cls := "com/example/nest3/nest3/XmlLimit", name := "setting", desc := "()I" } : Jvm.MethodName) prog_168_method_5_code (1 : Nat) (Option.some Jvm.ClassFile.FieldType.int)]
set_option maxRecDepth 65536 in
theorem codes_eq : words1.filter isCode = codes1 := rfl
theorem w_codes : ∀ c ∈ words1.filter isCode, c.before args0 about1 = true := by
  rw [codes_eq]
  intro c hc
  simp only [codes1, List.mem_cons, List.not_mem_nil, or_false] at hc
  rcases hc with rfl | rfl
  · exact w_c0
  · exact w_c1
set_option maxRecDepth 65536 in
theorem w_t1 : (words1.take 24).all (fun c => isCode c || c.before args0 about1) = true := by decide +kernel
set_option maxRecDepth 65536 in
theorem w_t2 : (words1.drop 24).all (fun c => isCode c || c.before args0 about1) = true := by decide +kernel
theorem w_tables : (allAtoms (Jvm.Cond.code x code maxLocals ret :: tables_1)).before args0 about1 = true := by
  rw [allAtoms_all]
  show words1.all (fun c => c.before args0 about1) = true
  refine all_split ?_ w_codes
  rw [← List.take_append_drop 24 words1, List.all_append, w_t1, w_t2]
  rfl
set_option maxRecDepth 65536 in
theorem w_case : (Jvm.Cond.and given_1 narrow_1).before args0 about1 = true := by decide +kernel
theorem w_applies : (headSpec (Jvm.Cond.code x code maxLocals ret :: tables_1) room_1).applies x e0.platform about1 = true :=
  (Spec.applies_iff w_frames).mpr ⟨w_running, w_runnable, w_alone, w_named, w_hears, w_ripe, w_room, w_tables⟩
theorem atStart : AtStart classFile x code maxLocals ret World_1 tables_1 room_1 Calls_1 rest_1 Pre_1 launch0 p0 e0 about1 theMethod args0 below0 :=
  ⟨lists_1, trivial, launch0.admits_env _ _ _, launch0.least_env, fairChoices_fair.cas, fairChoices_fair.clock, w_frames, w_args, w_heap, w_applies, trivial, trivial, w_case⟩
end start1
theorem witness_1 : WitnessClaimed_1 := ⟨start1.p0, start1.e0, start1.about1, start1.theMethod, start1.args0, start1.below0, start1.atStart⟩
end Jvm.Pilot.@@N@@
