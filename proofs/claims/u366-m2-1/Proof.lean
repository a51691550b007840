import JvmDerived
import JvmDerived.Pilot.@@N@@Statement
import JvmDerived.Pilot.@@N@@Code
set_option linter.unusedVariables false
set_option linter.unusedSimpArgs false
namespace Jvm.RoadKit
open Sem ClassFile Op Lib Jvm.Stand Jvm.Free Jvm.LawKit
section New
variable {p : Program} {l : Launch} {e : Env} {R : Room} {s : State} {m : MethodId} {args : Array Value} {below : List Frame} {meth : Method} {c : Code} {T : State} {locs : List Loc} {cells slots : Nat}
theorem retI (X : Stand p l e R s m args below meth c T locs cells slots) (hx : p.tables.exec = Jvm.exec) {pc : Nat} {Ls : Array Slot} {z : Int32} {rest : List Value} (hret : meth.sig.returnType = some .int) (hd : decode c.code pc = .ok (.ireturn, 1)) {fs : List Frame}
    (hl : ∀ (f : JFrame) (acts : List Action), f.method = m → f.locked = none → f.entered = [] → (doReturn e (T.setTop f) acts (some (.int z))).1 = T.setFrames fs) : Steps p.tables e below (T.setTop (mkF m pc Ls (.int z :: rest))) (T.setFrames fs) := by
  have hm' : T.vm.method? m = some meth := X.method'
  have hn : narrow .int (.int z) = .int z := rfl
  show Steps p.tables e below (T.setTop { method := m, pc := pc, locals := Ls, stack := _ :: rest, locked := none }) _
  jvm_step X.here [X.here.top, hx, hd, hm', hret, hn]
  first | (intro acts; rw [hl _ acts rfl rfl rfl]) | rw [hl _ _ rfl rfl rfl]
  exact Steps.refl _
theorem own_lremM {g : JFrame} {target : State} (X : Stand p l e R s m args below meth c T locs cells slots) (hx : p.tables.exec = Jvm.exec) (hg : g.method = m) {x y : Int64} {rest : List Value} (hd : decode c.code g.pc = .ok (.lrem, 1)) (hs : g.stack = .long y :: .long x :: rest) (hy : y ≠ 0)
    (hr : Steps p.tables e below (T.setTop { g with pc := g.pc + 1, stack := .long (x % y) :: rest }) target) : Steps p.tables e below (T.setTop g) target := by
  have q : x - (x / y) * y = x % y := lrem_mod x y
  exact XS.lrem X.here hx hg hd hs hy (by rw [q]; exact hr)
end New
end Jvm.RoadKit
namespace Jvm.Pilot.@@N@@
open Jvm Jvm.ClassFile Sem Op Lib Jvm.Free Jvm.Stand Jvm.LawKit Jvm.RoadKit Bundle Jvm.Pilot.@@N@@.Jvm.D
theorem own_notin0 {a : Addr} : a ∉ ([] : List Addr) := fun q => nomatch q
theorem own_notin1 {a b : Addr} (h : a ≠ b) : a ∉ [b] := fun q => h (List.mem_singleton.mp q)
theorem own_narb {x : Int32} (h : x = 0 ∨ x = 1) : nar .boolean x = x := by rcases h with rfl | rfl <;> rfl
theorem own_all0 {P : Addr → Prop} : ∀ x ∈ ([] : List Addr), P x := fun _ q => nomatch q
theorem own_all1 {P : Addr → Prop} {a : Addr} (h : P a) : ∀ x ∈ [a], P x := fun x q => by cases List.mem_singleton.mp q; exact h
theorem own_lohi (x y lo hi : Int64) (hlo : lo = (if (y &&& (4294967295 : Int64)) < (x &&& (4294967295 : Int64)) then (y &&& (4294967295 : Int64)) else (x &&& (4294967295 : Int64)))) (hhi : hi = (if (x &&& (4294967295 : Int64)) < (y &&& (4294967295 : Int64)) then (y &&& (4294967295 : Int64)) else (x &&& (4294967295 : Int64)))) : 0 ≤ lo.toInt ∧ lo.toInt ≤ hi.toInt ∧ hi.toInt ≤ 4294967295 := by
  have a := c_maskL x (4294967295 : Int64) 32 (by decide) (by decide)
  have b := c_maskL y (4294967295 : Int64) 32 (by decide) (by decide)
  generalize (x &&& (4294967295 : Int64)) = u at *
  generalize (y &&& (4294967295 : Int64)) = v at *
  subst hlo hhi
  have e1 : (v < u) = (v.toInt < u.toInt) := propext Int64.lt_iff_toInt_lt
  have e2 : (u < v) = (u.toInt < v.toInt) := propext Int64.lt_iff_toInt_lt
  have p : ((2 ^ 32 : Nat) : Int) = 4294967296 := by decide
  rw [p] at a b
  by_cases q1 : v.toInt < u.toInt <;> by_cases q2 : u.toInt < v.toInt <;> simp only [e1, e2, q1, q2, if_true, if_false] <;> omega
theorem own_cut0 {lo p hi : Int64} (h : ¬ (lo.toInt < p.toInt ∧ p.toInt < hi.toInt)) : (if lo < p then (if p < hi then (1 : Int32) else (0 : Int32)) else (0 : Int32)) = (0 : Int32) := by
  by_cases q1 : lo < p <;> by_cases q2 : p < hi <;> simp only [q1, q2, if_true, if_false]
  exact absurd ⟨Int64.lt_iff_toInt_lt.mp q1, Int64.lt_iff_toInt_lt.mp q2⟩ h
theorem own_cut1 {lo p hi : Int64} (h : lo.toInt < p.toInt ∧ p.toInt < hi.toInt) : (if lo < p then (if p < hi then (1 : Int32) else (0 : Int32)) else (0 : Int32)) = (1 : Int32) := by
  rw [if_pos (Int64.lt_iff_toInt_lt.mpr h.1), if_pos (Int64.lt_iff_toInt_lt.mpr h.2)]
def Qmin (Z : State) (x y : Int64) (h0 : Heap) (n0 : Nat) (v : Option Value) (h : Heap) (L : List Loc) : Prop := v = some (.long (if y < x then y else x)) ∧ Fr n0 L ∧ h = h0
theorem ef_rmmin (m : MethodId) (x0 : Int64) (x1 : Int64) : entryFrame m #[(.long x0), (.long x1)] 4 = mkF m 0 #[.val (.long x0), .second, .val (.long x1), .second] [] := by first | (simp [entryFrame, mkF, argsToLocals, Value.category]; done) | rfl
theorem d1_0 : decode jdk_29_method_70_code 0 = .ok (.lload_n 0, 1) := by decide +kernel
theorem d1_1 : decode jdk_29_method_70_code 1 = .ok (.lload_n 2, 1) := by decide +kernel
theorem d1_2 : decode jdk_29_method_70_code 2 = .ok (.lcmp, 1) := by decide +kernel
theorem d1_3 : decode jdk_29_method_70_code 3 = .ok (.ifCond .gt 7, 3) := by decide +kernel
theorem d1_10 : decode jdk_29_method_70_code 10 = .ok (.lload_n 2, 1) := by decide +kernel
theorem d1_6 : decode jdk_29_method_70_code 6 = .ok (.lload_n 0, 1) := by decide +kernel
theorem d1_7 : decode jdk_29_method_70_code 7 = .ok (.goto 4, 3) := by decide +kernel
theorem d1_11 : decode jdk_29_method_70_code 11 = .ok (.lreturn, 1) := by decide +kernel
set_option maxRecDepth 65536 in
set_option maxHeartbeats 40000000 in
theorem rmmin (l : Launch) (Z : State) (a0 : Array Value) (hw : ∀ d ∈ tables_1, d.before a0 Z = true) (ws : List Jvm.Cond) (x y : Int64) (h0 : Heap) (n0 : Nat) (Z0 : n0 ≤ h0.size)  :
    MetFree l (⟨"java/lang/Math", "min", "(JJ)J"⟩ : MethodName) (head1 (Jvm.Cond.code (⟨"java/lang/Math", "min", "(JJ)J"⟩ : MethodName) jdk_29_method_70_code 4 (some .long) :: ws) ({ frames := 0, cells := 0, slots := 0, locals := 0 } : Room)) (fun a U => a = #[(.long x), (.long y)] ∧ Z.Warmed39 U.vm ∧ U.heap = h0) (fun _ _ _ _ _ => True) (fun _ U o U' => ∃ v L, o = .returned v ∧ Qmin Z x y h0 n0 v U'.heap L ∧ FrameEnd U o U' L ({ frames := 0, cells := 0, slots := 0, locals := 0 } : Room).cells ({ frames := 0, cells := 0, slots := 0, locals := 0 } : Room).slots) := by
  refine MetFree.of_bodySF (Jvm.Free.JP.mathPlain rfl (by decide +kernel)) hisR ?_
  intro p e s m args below meth c s₁ Bd hml0 hP hK
  obtain ⟨rfl, hZ, hh⟩ := hP
  have hx := Bd.exec
  have hby := Bd.bytes
  have hml : c.maxLocals = 4 := hml0
  have hown : s.vm.findClass "java/lang/Math" = some m.cls := findClass_of_methodNamed Bd.named
  have hnm := (name_of_methodNamed Bd.named Bd.method).1
  have X0 : Stand p l e ({ frames := 0, cells := 0, slots := 0, locals := 0 } : Room) s m #[(.long x), (.long y)] below meth c s₁ [] 0 0 := Stand.of_body Bd
  have e0 : s₁.heap = h0 := by rw [← hh, Bd.state]; rfl
  have N0 := Fr.nil n0
  have pre0 : ∀ t, Steps p.tables e below (s₁.setTop (mkF m 0 #[.val (.long x), .second, .val (.long y), .second] [])) t → Steps p.tables e below (s₁.setTop (entryFrame m #[(.long x), (.long y)] 4)) t := fun t kt => castTop (ef_rmmin m x y) kt
  have pre1 : ∀ t, Steps p.tables e below (s₁.setTop (mkF m 3 #[.val (.long x), .second, .val (.long y), .second] [(.int (lcmpW x y))])) t → Steps p.tables e below (s₁.setTop (entryFrame m #[(.long x), (.long y)] 4)) t := fun t kt => pre0 t (by
    refine XS.lloadN X0.here hx rfl (hb hby d1_0) rfl ?_
    show Steps p.tables e below (s₁.setTop (mkF m 1 #[.val (.long x), .second, .val (.long y), .second] [(.long x)])) _
    refine XS.lloadN X0.here hx rfl (hb hby d1_1) rfl ?_
    show Steps p.tables e below (s₁.setTop (mkF m 2 #[.val (.long x), .second, .val (.long y), .second] [(.long y), (.long x)])) _
    refine XS.lcmp X0.here hx rfl (hb hby d1_2) rfl ?_
    show Steps p.tables e below (s₁.setTop (mkF m 3 #[.val (.long x), .second, .val (.long y), .second] [(.int (lcmpW x y))])) _
    exact kt)
  have pre2 : ∀ t, Steps p.tables e below (s₁.setTop (mkF m 11 #[.val (.long x), .second, .val (.long y), .second] [(.long (if y < x then y else x))])) t → Steps p.tables e below (s₁.setTop (entryFrame m #[(.long x), (.long y)] 4)) t := fun t kt => pre1 t (by
    by_cases c3_1 : y < x
    · rw [if_pos c3_1] at kt
      refine XS.ifYes X0.here hx rfl (pc0 := 3) (pc' := 10) rfl (hb hby d1_3) rfl ((if0 _ _).trans (tlt ((lw_gt _ _).mpr c3_1)).2.2.1) (by decide) (by decide) ?_
      show Steps p.tables e below (s₁.setTop (mkF m 10 #[.val (.long x), .second, .val (.long y), .second] [])) _
      refine XS.lloadN X0.here hx rfl (hb hby d1_10) rfl ?_
      show Steps p.tables e below (s₁.setTop (mkF m 11 #[.val (.long x), .second, .val (.long y), .second] [(.long y)])) _
      exact kt
    · rw [if_neg c3_1] at kt
      refine XS.ifNo X0.here hx rfl (hb hby d1_3) rfl ((if0 _ _).trans (flt (mt (lw_gt _ _).mp c3_1)).2.2.1) ?_
      show Steps p.tables e below (s₁.setTop (mkF m 6 #[.val (.long x), .second, .val (.long y), .second] [])) _
      refine XS.lloadN X0.here hx rfl (hb hby d1_6) rfl ?_
      show Steps p.tables e below (s₁.setTop (mkF m 7 #[.val (.long x), .second, .val (.long y), .second] [(.long x)])) _
      refine XS.goto X0.here hx rfl (pc0 := 7) (pc' := 11) rfl (hb hby d1_7) (by decide) (by decide) ?_
      show Steps p.tables e below (s₁.setTop (mkF m 11 #[.val (.long x), .second, .val (.long y), .second] [(.long x)])) _
      exact kt)
  obtain ⟨fs, hr, hrun, hended, hW, hsame⟩ := X0.leave (v := (some (.long (if y < x then y else x)))) (fun h => by rw [Bd.returns] at h; cases h)
  refine ⟨_, _, pre2 _ ?_, hrun, hended, _, _, rfl, ?_, ⟨_, rfl⟩, hW, hsame.mono (by decide) (by decide)⟩
  · exact retOut X0 hx Bd.returns rfl (Or.inr (Or.inl ⟨rfl, rfl, _, rfl⟩)) (hb hby d1_11) hr
  · show Qmin Z x y h0 n0 _ s₁.heap _
    rw [e0]
    exact ⟨rfl, N0, rfl⟩
def Qmax (Z : State) (x y : Int64) (h0 : Heap) (n0 : Nat) (v : Option Value) (h : Heap) (L : List Loc) : Prop := v = some (.long (if x < y then y else x)) ∧ Fr n0 L ∧ h = h0
theorem ef_rmmax (m : MethodId) (x0 : Int64) (x1 : Int64) : entryFrame m #[(.long x0), (.long x1)] 4 = mkF m 0 #[.val (.long x0), .second, .val (.long x1), .second] [] := by first | (simp [entryFrame, mkF, argsToLocals, Value.category]; done) | rfl
theorem d2_0 : decode jdk_29_method_66_code 0 = .ok (.lload_n 0, 1) := by decide +kernel
theorem d2_1 : decode jdk_29_method_66_code 1 = .ok (.lload_n 2, 1) := by decide +kernel
theorem d2_2 : decode jdk_29_method_66_code 2 = .ok (.lcmp, 1) := by decide +kernel
theorem d2_3 : decode jdk_29_method_66_code 3 = .ok (.ifCond .lt 7, 3) := by decide +kernel
theorem d2_10 : decode jdk_29_method_66_code 10 = .ok (.lload_n 2, 1) := by decide +kernel
theorem d2_6 : decode jdk_29_method_66_code 6 = .ok (.lload_n 0, 1) := by decide +kernel
theorem d2_7 : decode jdk_29_method_66_code 7 = .ok (.goto 4, 3) := by decide +kernel
theorem d2_11 : decode jdk_29_method_66_code 11 = .ok (.lreturn, 1) := by decide +kernel
set_option maxRecDepth 65536 in
set_option maxHeartbeats 40000000 in
theorem rmmax (l : Launch) (Z : State) (a0 : Array Value) (hw : ∀ d ∈ tables_1, d.before a0 Z = true) (ws : List Jvm.Cond) (x y : Int64) (h0 : Heap) (n0 : Nat) (Z0 : n0 ≤ h0.size)  :
    MetFree l (⟨"java/lang/Math", "max", "(JJ)J"⟩ : MethodName) (head1 (Jvm.Cond.code (⟨"java/lang/Math", "max", "(JJ)J"⟩ : MethodName) jdk_29_method_66_code 4 (some .long) :: ws) ({ frames := 0, cells := 0, slots := 0, locals := 0 } : Room)) (fun a U => a = #[(.long x), (.long y)] ∧ Z.Warmed39 U.vm ∧ U.heap = h0) (fun _ _ _ _ _ => True) (fun _ U o U' => ∃ v L, o = .returned v ∧ Qmax Z x y h0 n0 v U'.heap L ∧ FrameEnd U o U' L ({ frames := 0, cells := 0, slots := 0, locals := 0 } : Room).cells ({ frames := 0, cells := 0, slots := 0, locals := 0 } : Room).slots) := by
  refine MetFree.of_bodySF (Jvm.Free.JP.mathPlain rfl (by decide +kernel)) hisR ?_
  intro p e s m args below meth c s₁ Bd hml0 hP hK
  obtain ⟨rfl, hZ, hh⟩ := hP
  have hx := Bd.exec
  have hby := Bd.bytes
  have hml : c.maxLocals = 4 := hml0
  have hown : s.vm.findClass "java/lang/Math" = some m.cls := findClass_of_methodNamed Bd.named
  have hnm := (name_of_methodNamed Bd.named Bd.method).1
  have X0 : Stand p l e ({ frames := 0, cells := 0, slots := 0, locals := 0 } : Room) s m #[(.long x), (.long y)] below meth c s₁ [] 0 0 := Stand.of_body Bd
  have e0 : s₁.heap = h0 := by rw [← hh, Bd.state]; rfl
  have N0 := Fr.nil n0
  have pre0 : ∀ t, Steps p.tables e below (s₁.setTop (mkF m 0 #[.val (.long x), .second, .val (.long y), .second] [])) t → Steps p.tables e below (s₁.setTop (entryFrame m #[(.long x), (.long y)] 4)) t := fun t kt => castTop (ef_rmmax m x y) kt
  have pre1 : ∀ t, Steps p.tables e below (s₁.setTop (mkF m 3 #[.val (.long x), .second, .val (.long y), .second] [(.int (lcmpW x y))])) t → Steps p.tables e below (s₁.setTop (entryFrame m #[(.long x), (.long y)] 4)) t := fun t kt => pre0 t (by
    refine XS.lloadN X0.here hx rfl (hb hby d2_0) rfl ?_
    show Steps p.tables e below (s₁.setTop (mkF m 1 #[.val (.long x), .second, .val (.long y), .second] [(.long x)])) _
    refine XS.lloadN X0.here hx rfl (hb hby d2_1) rfl ?_
    show Steps p.tables e below (s₁.setTop (mkF m 2 #[.val (.long x), .second, .val (.long y), .second] [(.long y), (.long x)])) _
    refine XS.lcmp X0.here hx rfl (hb hby d2_2) rfl ?_
    show Steps p.tables e below (s₁.setTop (mkF m 3 #[.val (.long x), .second, .val (.long y), .second] [(.int (lcmpW x y))])) _
    exact kt)
  have pre2 : ∀ t, Steps p.tables e below (s₁.setTop (mkF m 11 #[.val (.long x), .second, .val (.long y), .second] [(.long (if x < y then y else x))])) t → Steps p.tables e below (s₁.setTop (entryFrame m #[(.long x), (.long y)] 4)) t := fun t kt => pre1 t (by
    by_cases c3_1 : x < y
    · rw [if_pos c3_1] at kt
      refine XS.ifYes X0.here hx rfl (pc0 := 3) (pc' := 10) rfl (hb hby d2_3) rfl ((if0 _ _).trans (tlt ((lw_lt _ _).mpr c3_1)).1) (by decide) (by decide) ?_
      show Steps p.tables e below (s₁.setTop (mkF m 10 #[.val (.long x), .second, .val (.long y), .second] [])) _
      refine XS.lloadN X0.here hx rfl (hb hby d2_10) rfl ?_
      show Steps p.tables e below (s₁.setTop (mkF m 11 #[.val (.long x), .second, .val (.long y), .second] [(.long y)])) _
      exact kt
    · rw [if_neg c3_1] at kt
      refine XS.ifNo X0.here hx rfl (hb hby d2_3) rfl ((if0 _ _).trans (flt (mt (lw_lt _ _).mp c3_1)).1) ?_
      show Steps p.tables e below (s₁.setTop (mkF m 6 #[.val (.long x), .second, .val (.long y), .second] [])) _
      refine XS.lloadN X0.here hx rfl (hb hby d2_6) rfl ?_
      show Steps p.tables e below (s₁.setTop (mkF m 7 #[.val (.long x), .second, .val (.long y), .second] [(.long x)])) _
      refine XS.goto X0.here hx rfl (pc0 := 7) (pc' := 11) rfl (hb hby d2_7) (by decide) (by decide) ?_
      show Steps p.tables e below (s₁.setTop (mkF m 11 #[.val (.long x), .second, .val (.long y), .second] [(.long x)])) _
      exact kt)
  obtain ⟨fs, hr, hrun, hended, hW, hsame⟩ := X0.leave (v := (some (.long (if x < y then y else x)))) (fun h => by rw [Bd.returns] at h; cases h)
  refine ⟨_, _, pre2 _ ?_, hrun, hended, _, _, rfl, ?_, ⟨_, rfl⟩, hW, hsame.mono (by decide) (by decide)⟩
  · exact retOut X0 hx Bd.returns rfl (Or.inr (Or.inl ⟨rfl, rfl, _, rfl⟩)) (hb hby d2_11) hr
  · show Qmax Z x y h0 n0 _ s₁.heap _
    rw [e0]
    exact ⟨rfl, N0, rfl⟩
def QB (Z : State) (a1 : Addr) (lo hi : Int64) (h0 : Heap) (n0 : Nat) (v : Option Value) (h : Heap) (L : List Loc) : Prop := v = none ∧ Fr n0 L ∧ Keep h0 h [a1] ∧ Exa Z h a1 "com/example/calm_balancer/calmbalancer/BundleRange" ∧ Fld Z h a1 "com/example/calm_balancer/calmbalancer/BundleRange" "lower" "J" (.long lo) ∧ Fld Z h a1 "com/example/calm_balancer/calmbalancer/BundleRange" "upper" "J" (.long hi)
theorem ef_rmB (m : MethodId) (x0 : Addr) (x1 : Int64) (x2 : Int64) : entryFrame m #[(.ref x0), (.long x1), (.long x2)] 5 = mkF m 0 #[.val (.ref x0), .val (.long x1), .second, .val (.long x2), .second] [] := by first | (simp [entryFrame, mkF, argsToLocals, Value.category]; done) | rfl
theorem pn_com_example_calm_balancer_calmbalancer_BundleRange : plainName "com/example/calm_balancer/calmbalancer/BundleRange" = true := by first | (simp [plainName, overriddenIn]; done) | decide +kernel
theorem d3_0 : decode prog_5_method_1_code 0 = .ok (.aload_n 0, 1) := by decide +kernel
theorem d3_1 : decode prog_5_method_1_code 1 = .ok (.invokespecial 3, 3) := by decide +kernel
theorem d3_4 : decode prog_5_method_1_code 4 = .ok (.lload_n 1, 1) := by decide +kernel
theorem d3_5 : decode prog_5_method_1_code 5 = .ok (.lconst 0, 1) := by decide +kernel
theorem d3_6 : decode prog_5_method_1_code 6 = .ok (.lcmp, 1) := by decide +kernel
theorem d3_7 : decode prog_5_method_1_code 7 = .ok (.ifCond .lt 11, 3) := by decide +kernel
theorem d3_10 : decode prog_5_method_1_code 10 = .ok (.lload_n 3, 1) := by decide +kernel
theorem d3_11 : decode prog_5_method_1_code 11 = .ok (.ldc2_w 9, 3) := by decide +kernel
theorem d3_14 : decode prog_5_method_1_code 14 = .ok (.lcmp, 1) := by decide +kernel
theorem d3_15 : decode prog_5_method_1_code 15 = .ok (.ifCond .le 18, 3) := by decide +kernel
theorem d3_33 : decode prog_5_method_1_code 33 = .ok (.lload_n 1, 1) := by decide +kernel
theorem d3_34 : decode prog_5_method_1_code 34 = .ok (.lload_n 3, 1) := by decide +kernel
theorem d3_35 : decode prog_5_method_1_code 35 = .ok (.lcmp, 1) := by decide +kernel
theorem d3_36 : decode prog_5_method_1_code 36 = .ok (.ifCond .lt 21, 3) := by decide +kernel
theorem d3_57 : decode prog_5_method_1_code 57 = .ok (.aload_n 0, 1) := by decide +kernel
theorem d3_58 : decode prog_5_method_1_code 58 = .ok (.lload_n 1, 1) := by decide +kernel
theorem d3_59 : decode prog_5_method_1_code 59 = .ok (.putfield 26, 3) := by decide +kernel
theorem d3_62 : decode prog_5_method_1_code 62 = .ok (.aload_n 0, 1) := by decide +kernel
theorem d3_63 : decode prog_5_method_1_code 63 = .ok (.lload_n 3, 1) := by decide +kernel
theorem d3_64 : decode prog_5_method_1_code 64 = .ok (.putfield 30, 3) := by decide +kernel
theorem d3_67 : decode prog_5_method_1_code 67 = .ok (.return_, 1) := by decide +kernel
set_option maxRecDepth 65536 in
set_option maxHeartbeats 40000000 in
theorem rmB (l : Launch) (Z : State) (a0 : Array Value) (hw : ∀ d ∈ tables_1, d.before a0 Z = true) (ws : List Jvm.Cond) (a1 : Addr) (lo hi : Int64) (u1 u2 : Value) (h0 : Heap) (n0 : Nat) (Z0 : n0 ≤ h0.size) (E1 : Exa Z h0 a1 "com/example/calm_balancer/calmbalancer/BundleRange") (g1 : n0 ≤ a1) (F1 : Fld Z h0 a1 "com/example/calm_balancer/calmbalancer/BundleRange" "lower" "J" u1) (F2 : Fld Z h0 a1 "com/example/calm_balancer/calmbalancer/BundleRange" "upper" "J" u2) (q1 : ¬ lo < (0 : Int64)) (q2 : ¬ (4294967295 : Int64) < hi) (q3 : lo < hi) :
    MetFree l (⟨"com/example/calm_balancer/calmbalancer/BundleRange", "<init>", "(JJ)V"⟩ : MethodName) (head1 (Jvm.Cond.code (⟨"com/example/calm_balancer/calmbalancer/BundleRange", "<init>", "(JJ)V"⟩ : MethodName) prog_5_method_1_code 5 none :: ws) ({ frames := 1, cells := 0, slots := 0, locals := 12 } : Room)) (fun a U => a = #[(.ref a1), (.long lo), (.long hi)] ∧ Z.Warmed39 U.vm ∧ U.heap = h0) (fun _ _ _ _ _ => True) (fun _ U o U' => ∃ v L, o = .returned v ∧ QB Z a1 lo hi h0 n0 v U'.heap L ∧ FrameEnd U o U' L ({ frames := 1, cells := 0, slots := 0, locals := 12 } : Room).cells ({ frames := 1, cells := 0, slots := 0, locals := 12 } : Room).slots) := by
  refine MetFree.of_bodySF (plainFor_of_name pn_com_example_calm_balancer_calmbalancer_BundleRange) hisR ?_
  intro p e s m args below meth c s₁ Bd hml0 hP hK
  obtain ⟨rfl, hZ, hh⟩ := hP
  have hx := Bd.exec
  have hby := Bd.bytes
  have hml : c.maxLocals = 5 := hml0
  have hown : s.vm.findClass "com/example/calm_balancer/calmbalancer/BundleRange" = some m.cls := findClass_of_methodNamed Bd.named
  have hnm := (name_of_methodNamed Bd.named Bd.method).1
  have X0 : Stand p l e ({ frames := 1, cells := 0, slots := 0, locals := 12 } : Room) s m #[(.ref a1), (.long lo), (.long hi)] below meth c s₁ [] 0 0 := Stand.of_body Bd
  have e0 : s₁.heap = h0 := by rw [← hh, Bd.state]; rfl
  have N0 := Fr.nil n0
  have pre0 : ∀ t, Steps p.tables e below (s₁.setTop (mkF m 0 #[.val (.ref a1), .val (.long lo), .second, .val (.long hi), .second] [])) t → Steps p.tables e below (s₁.setTop (entryFrame m #[(.ref a1), (.long lo), (.long hi)] 5)) t := fun t kt => castTop (ef_rmB m a1 lo hi) kt
  have pre1 : ∀ t, Steps p.tables e below (s₁.setTop (mkF m 1 #[.val (.ref a1), .val (.long lo), .second, .val (.long hi), .second] [(.ref a1)])) t → Steps p.tables e below (s₁.setTop (entryFrame m #[(.ref a1), (.long lo), (.long hi)] 5)) t := fun t kt => pre0 t (by
    refine XS.aloadN X0.here hx rfl (hb hby d3_0) rfl rfl ?_
    show Steps p.tables e below (s₁.setTop (mkF m 1 #[.val (.ref a1), .val (.long lo), .second, .val (.long hi), .second] [(.ref a1)])) _
    exact kt)
  obtain ⟨T2, X2, e2, st2⟩ := initO X0 hx hZ hown (hw _ (List.mem_of_getElem? (i := 14) rfl)) (hw _ (List.mem_of_getElem? (i := 15) rfl)) (hw _ (List.mem_of_getElem? (i := 16) rfl)) e0 (g := (mkF m 1 #[.val (.ref a1), .val (.long lo), .second, .val (.long hi), .second] [(.ref a1)])) rfl (by rw [hml]; rfl) rfl (hb hby d3_1) (by decide) (W := 0) (by show 2 * 0 + _ ≤ _; exact Nat.le_of_eq rfl) (by decide)
  have pre3 : ∀ t, Steps p.tables e below (T2.setTop (mkF m 4 #[.val (.ref a1), .val (.long lo), .second, .val (.long hi), .second] [])) t → Steps p.tables e below (s₁.setTop (entryFrame m #[(.ref a1), (.long lo), (.long hi)] 5)) t := fun t kt => pre1 t (st2 _ kt)
  have pre4 : ∀ t, Steps p.tables e below (T2.setTop (mkF m 59 #[.val (.ref a1), .val (.long lo), .second, .val (.long hi), .second] [(.long lo), (.ref a1)])) t → Steps p.tables e below (s₁.setTop (entryFrame m #[(.ref a1), (.long lo), (.long hi)] 5)) t := fun t kt => pre3 t (by
    refine XS.lloadN X2.here hx rfl (hb hby d3_4) rfl ?_
    show Steps p.tables e below (T2.setTop (mkF m 5 #[.val (.ref a1), .val (.long lo), .second, .val (.long hi), .second] [(.long lo)])) _
    refine XS.lconst X2.here hx rfl (hb hby d3_5) ?_
    show Steps p.tables e below (T2.setTop (mkF m 6 #[.val (.ref a1), .val (.long lo), .second, .val (.long hi), .second] [(.long (0 : Int64)), (.long lo)])) _
    refine XS.lcmp X2.here hx rfl (hb hby d3_6) rfl ?_
    show Steps p.tables e below (T2.setTop (mkF m 7 #[.val (.ref a1), .val (.long lo), .second, .val (.long hi), .second] [(.int (lcmpW lo (0 : Int64)))])) _
    refine XS.ifNo X2.here hx rfl (hb hby d3_7) rfl ((if0 _ _).trans (flt (mt (lw_lt _ _).mp (q1 : ¬ (lo < (0 : Int64))))).1) ?_
    show Steps p.tables e below (T2.setTop (mkF m 10 #[.val (.ref a1), .val (.long lo), .second, .val (.long hi), .second] [])) _
    refine XS.lloadN X2.here hx rfl (hb hby d3_10) rfl ?_
    show Steps p.tables e below (T2.setTop (mkF m 11 #[.val (.ref a1), .val (.long lo), .second, .val (.long hi), .second] [(.long hi)])) _
    refine X2.ldc2Long hx hown (mvT hZ (hw _ (List.mem_of_getElem? (i := 17) rfl))) (g := (mkF m 11 #[.val (.ref a1), .val (.long lo), .second, .val (.long hi), .second] [(.long hi)])) rfl (hb hby d3_11) _ ?_
    show Steps p.tables e below (T2.setTop (mkF m 14 #[.val (.ref a1), .val (.long lo), .second, .val (.long hi), .second] [(.long (4294967295 : Int64)), (.long hi)])) _
    refine XS.lcmp X2.here hx rfl (hb hby d3_14) rfl ?_
    show Steps p.tables e below (T2.setTop (mkF m 15 #[.val (.ref a1), .val (.long lo), .second, .val (.long hi), .second] [(.int (lcmpW hi (4294967295 : Int64)))])) _
    refine XS.ifYes X2.here hx rfl (pc0 := 15) (pc' := 33) rfl (hb hby d3_15) rfl ((if0 _ _).trans (flt (mt (lw_gt _ _).mp (q2 : ¬ ((4294967295 : Int64) < hi)))).2.2.2) (by decide) (by decide) ?_
    show Steps p.tables e below (T2.setTop (mkF m 33 #[.val (.ref a1), .val (.long lo), .second, .val (.long hi), .second] [])) _
    refine XS.lloadN X2.here hx rfl (hb hby d3_33) rfl ?_
    show Steps p.tables e below (T2.setTop (mkF m 34 #[.val (.ref a1), .val (.long lo), .second, .val (.long hi), .second] [(.long lo)])) _
    refine XS.lloadN X2.here hx rfl (hb hby d3_34) rfl ?_
    show Steps p.tables e below (T2.setTop (mkF m 35 #[.val (.ref a1), .val (.long lo), .second, .val (.long hi), .second] [(.long hi), (.long lo)])) _
    refine XS.lcmp X2.here hx rfl (hb hby d3_35) rfl ?_
    show Steps p.tables e below (T2.setTop (mkF m 36 #[.val (.ref a1), .val (.long lo), .second, .val (.long hi), .second] [(.int (lcmpW lo hi))])) _
    refine XS.ifYes X2.here hx rfl (pc0 := 36) (pc' := 57) rfl (hb hby d3_36) rfl ((if0 _ _).trans (tlt ((lw_lt _ _).mpr (q3 : lo < hi))).1) (by decide) (by decide) ?_
    show Steps p.tables e below (T2.setTop (mkF m 57 #[.val (.ref a1), .val (.long lo), .second, .val (.long hi), .second] [])) _
    refine XS.aloadN X2.here hx rfl (hb hby d3_57) rfl rfl ?_
    show Steps p.tables e below (T2.setTop (mkF m 58 #[.val (.ref a1), .val (.long lo), .second, .val (.long hi), .second] [(.ref a1)])) _
    refine XS.lloadN X2.here hx rfl (hb hby d3_58) rfl ?_
    show Steps p.tables e below (T2.setTop (mkF m 59 #[.val (.ref a1), .val (.long lo), .second, .val (.long hi), .second] [(.long lo), (.ref a1)])) _
    exact kt)
  obtain ⟨T5, h5, X5, e5, W5, st5⟩ := putF X2 hx hZ hown (host := "") (Or.inl (hw _ (List.mem_of_getElem? (i := 18) rfl))) Via.refl e2 F1 E1 (Or.inr ⟨(hw _ (List.mem_of_getElem? (i := 19) rfl)), rfl, hnm⟩) (hw _ (List.mem_of_getElem? (i := 9) rfl)) (ty := .long) (by decide) rfl rfl (g := (mkF m 59 #[.val (.ref a1), .val (.long lo), .second, .val (.long hi), .second] [(.long lo), (.ref a1)])) rfl rfl (hb hby d3_59)
  have f6 := (E1).wr W5
  have f7 := ((Keep.refl h0 [a1])).wr W5 (Or.inl (List.mem_singleton.mpr rfl))
  have f8 := (F2).other W5 (Or.inr (slot_ne (Or.inr (hw _ (List.mem_of_getElem? (i := 21) rfl))) (Or.inr (hw _ (List.mem_of_getElem? (i := 19) rfl))) (by decide) (t := .long) (t' := .long) (by decide) (by decide)))
  have Fw5 := (F1).same W5
  have Nf9 := Fr.snoc X5 N0 g1
  have Zf10 : n0 ≤ h5.size := Nat.le_trans Z0 (Keep.of_wr W5).1
  have pre11 : ∀ t, Steps p.tables e below (T5.setTop (mkF m 62 #[.val (.ref a1), .val (.long lo), .second, .val (.long hi), .second] [])) t → Steps p.tables e below (s₁.setTop (entryFrame m #[(.ref a1), (.long lo), (.long hi)] 5)) t := fun t kt => pre4 t (st5 _ kt)
  have pre12 : ∀ t, Steps p.tables e below (T5.setTop (mkF m 64 #[.val (.ref a1), .val (.long lo), .second, .val (.long hi), .second] [(.long hi), (.ref a1)])) t → Steps p.tables e below (s₁.setTop (entryFrame m #[(.ref a1), (.long lo), (.long hi)] 5)) t := fun t kt => pre11 t (by
    refine XS.aloadN X5.here hx rfl (hb hby d3_62) rfl rfl ?_
    show Steps p.tables e below (T5.setTop (mkF m 63 #[.val (.ref a1), .val (.long lo), .second, .val (.long hi), .second] [(.ref a1)])) _
    refine XS.lloadN X5.here hx rfl (hb hby d3_63) rfl ?_
    show Steps p.tables e below (T5.setTop (mkF m 64 #[.val (.ref a1), .val (.long lo), .second, .val (.long hi), .second] [(.long hi), (.ref a1)])) _
    exact kt)
  obtain ⟨T13, h13, X13, e13, W13, st13⟩ := putF X5 hx hZ hown (host := "") (Or.inl (hw _ (List.mem_of_getElem? (i := 20) rfl))) Via.refl e5 f8 f6 (Or.inr ⟨(hw _ (List.mem_of_getElem? (i := 21) rfl)), rfl, hnm⟩) (hw _ (List.mem_of_getElem? (i := 9) rfl)) (ty := .long) (by decide) rfl rfl (g := (mkF m 64 #[.val (.ref a1), .val (.long lo), .second, .val (.long hi), .second] [(.long hi), (.ref a1)])) rfl rfl (hb hby d3_64)
  have f14 := (f6).wr W13
  have f15 := (f7).wr W13 (Or.inl (List.mem_singleton.mpr rfl))
  have f16 := (Fw5).other W13 (Or.inr (slot_ne (Or.inr (hw _ (List.mem_of_getElem? (i := 19) rfl))) (Or.inr (hw _ (List.mem_of_getElem? (i := 21) rfl))) (by decide) (t := .long) (t' := .long) (by decide) (by decide)))
  have Fw13 := (f8).same W13
  have Nf17 := Fr.snoc X13 Nf9 g1
  have Zf18 : n0 ≤ h13.size := Nat.le_trans Zf10 (Keep.of_wr W13).1
  have pre19 : ∀ t, Steps p.tables e below (T13.setTop (mkF m 67 #[.val (.ref a1), .val (.long lo), .second, .val (.long hi), .second] [])) t → Steps p.tables e below (s₁.setTop (entryFrame m #[(.ref a1), (.long lo), (.long hi)] 5)) t := fun t kt => pre12 t (st13 _ kt)
  obtain ⟨fs, hr, hrun, hended, hW, hsame⟩ := X13.leave (v := none) (fun _ => rfl)
  refine ⟨_, _, pre19 _ ?_, hrun, hended, _, _, rfl, ?_, ⟨_, rfl⟩, hW, hsame.mono (by decide) (by decide)⟩
  · exact X13.returnOut hx Bd.returns (hb hby d3_67) hr
  · show QB Z a1 lo hi h0 n0 _ T13.heap _
    rw [e13]
    exact ⟨rfl, Nf17, f15, f14, f16, Fw13⟩
def QH (Z : State) (x : Int64) (h0 : Heap) (n0 : Nat) (v : Option Value) (h : Heap) (L : List Loc) : Prop := v = none ∧ Fr n0 L ∧ h = h0
theorem ef_rmH (m : MethodId) (x0 : Int64) : entryFrame m #[(.long x0)] 2 = mkF m 0 #[.val (.long x0), .second] [] := by first | (simp [entryFrame, mkF, argsToLocals, Value.category]; done) | rfl
theorem d6_0 : decode prog_5_method_21_code 0 = .ok (.lload_n 0, 1) := by decide +kernel
theorem d6_1 : decode prog_5_method_21_code 1 = .ok (.lconst 0, 1) := by decide +kernel
theorem d6_2 : decode prog_5_method_21_code 2 = .ok (.lcmp, 1) := by decide +kernel
theorem d6_3 : decode prog_5_method_21_code 3 = .ok (.ifCond .lt 11, 3) := by decide +kernel
theorem d6_6 : decode prog_5_method_21_code 6 = .ok (.lload_n 0, 1) := by decide +kernel
theorem d6_7 : decode prog_5_method_21_code 7 = .ok (.ldc2_w 9, 3) := by decide +kernel
theorem d6_10 : decode prog_5_method_21_code 10 = .ok (.lcmp, 1) := by decide +kernel
theorem d6_11 : decode prog_5_method_21_code 11 = .ok (.ifCond .le 17, 3) := by decide +kernel
theorem d6_28 : decode prog_5_method_21_code 28 = .ok (.return_, 1) := by decide +kernel
set_option maxRecDepth 65536 in
set_option maxHeartbeats 40000000 in
theorem rmH (l : Launch) (Z : State) (a0 : Array Value) (hw : ∀ d ∈ tables_1, d.before a0 Z = true) (ws : List Jvm.Cond) (x : Int64) (h0 : Heap) (n0 : Nat) (Z0 : n0 ≤ h0.size) (q1 : ¬ x < (0 : Int64)) (q2 : ¬ (4294967295 : Int64) < x) :
    MetFree l (⟨"com/example/calm_balancer/calmbalancer/BundleRange", "checkHash", "(J)V"⟩ : MethodName) (head1 (Jvm.Cond.code (⟨"com/example/calm_balancer/calmbalancer/BundleRange", "checkHash", "(J)V"⟩ : MethodName) prog_5_method_21_code 2 none :: ws) ({ frames := 0, cells := 0, slots := 0, locals := 0 } : Room)) (fun a U => a = #[(.long x)] ∧ Z.Warmed39 U.vm ∧ U.heap = h0) (fun _ _ _ _ _ => True) (fun _ U o U' => ∃ v L, o = .returned v ∧ QH Z x h0 n0 v U'.heap L ∧ FrameEnd U o U' L ({ frames := 0, cells := 0, slots := 0, locals := 0 } : Room).cells ({ frames := 0, cells := 0, slots := 0, locals := 0 } : Room).slots) := by
  refine MetFree.of_bodySF (plainFor_of_name pn_com_example_calm_balancer_calmbalancer_BundleRange) hisR ?_
  intro p e s m args below meth c s₁ Bd hml0 hP hK
  obtain ⟨rfl, hZ, hh⟩ := hP
  have hx := Bd.exec
  have hby := Bd.bytes
  have hml : c.maxLocals = 2 := hml0
  have hown : s.vm.findClass "com/example/calm_balancer/calmbalancer/BundleRange" = some m.cls := findClass_of_methodNamed Bd.named
  have hnm := (name_of_methodNamed Bd.named Bd.method).1
  have X0 : Stand p l e ({ frames := 0, cells := 0, slots := 0, locals := 0 } : Room) s m #[(.long x)] below meth c s₁ [] 0 0 := Stand.of_body Bd
  have e0 : s₁.heap = h0 := by rw [← hh, Bd.state]; rfl
  have N0 := Fr.nil n0
  have pre0 : ∀ t, Steps p.tables e below (s₁.setTop (mkF m 0 #[.val (.long x), .second] [])) t → Steps p.tables e below (s₁.setTop (entryFrame m #[(.long x)] 2)) t := fun t kt => castTop (ef_rmH m x) kt
  have pre1 : ∀ t, Steps p.tables e below (s₁.setTop (mkF m 28 #[.val (.long x), .second] [])) t → Steps p.tables e below (s₁.setTop (entryFrame m #[(.long x)] 2)) t := fun t kt => pre0 t (by
    refine XS.lloadN X0.here hx rfl (hb hby d6_0) rfl ?_
    show Steps p.tables e below (s₁.setTop (mkF m 1 #[.val (.long x), .second] [(.long x)])) _
    refine XS.lconst X0.here hx rfl (hb hby d6_1) ?_
    show Steps p.tables e below (s₁.setTop (mkF m 2 #[.val (.long x), .second] [(.long (0 : Int64)), (.long x)])) _
    refine XS.lcmp X0.here hx rfl (hb hby d6_2) rfl ?_
    show Steps p.tables e below (s₁.setTop (mkF m 3 #[.val (.long x), .second] [(.int (lcmpW x (0 : Int64)))])) _
    refine XS.ifNo X0.here hx rfl (hb hby d6_3) rfl ((if0 _ _).trans (flt (mt (lw_lt _ _).mp (q1 : ¬ (x < (0 : Int64))))).1) ?_
    show Steps p.tables e below (s₁.setTop (mkF m 6 #[.val (.long x), .second] [])) _
    refine XS.lloadN X0.here hx rfl (hb hby d6_6) rfl ?_
    show Steps p.tables e below (s₁.setTop (mkF m 7 #[.val (.long x), .second] [(.long x)])) _
    refine X0.ldc2Long hx hown (mvT hZ (hw _ (List.mem_of_getElem? (i := 17) rfl))) (g := (mkF m 7 #[.val (.long x), .second] [(.long x)])) rfl (hb hby d6_7) _ ?_
    show Steps p.tables e below (s₁.setTop (mkF m 10 #[.val (.long x), .second] [(.long (4294967295 : Int64)), (.long x)])) _
    refine XS.lcmp X0.here hx rfl (hb hby d6_10) rfl ?_
    show Steps p.tables e below (s₁.setTop (mkF m 11 #[.val (.long x), .second] [(.int (lcmpW x (4294967295 : Int64)))])) _
    refine XS.ifYes X0.here hx rfl (pc0 := 11) (pc' := 28) rfl (hb hby d6_11) rfl ((if0 _ _).trans (flt (mt (lw_gt _ _).mp (q2 : ¬ ((4294967295 : Int64) < x)))).2.2.2) (by decide) (by decide) ?_
    show Steps p.tables e below (s₁.setTop (mkF m 28 #[.val (.long x), .second] [])) _
    exact kt)
  obtain ⟨fs, hr, hrun, hended, hW, hsame⟩ := X0.leave (v := none) (fun _ => rfl)
  refine ⟨_, _, pre1 _ ?_, hrun, hended, _, _, rfl, ?_, ⟨_, rfl⟩, hW, hsame.mono (by decide) (by decide)⟩
  · exact X0.returnOut hx Bd.returns (hb hby d6_28) hr
  · show QH Z x h0 n0 _ s₁.heap _
    rw [e0]
    exact ⟨rfl, N0, rfl⟩
def QC (Z : State) (a1 : Addr) (x lo hi : Int64) (h0 : Heap) (n0 : Nat) (v : Option Value) (h : Heap) (L : List Loc) : Prop := v = some (.int (if x < lo then (0 : Int32) else (if x < hi then (1 : Int32) else (if hi = (4294967295 : Int64) then (1 : Int32) else (0 : Int32))))) ∧ Fr n0 L ∧ h = h0
theorem ef_rmC (m : MethodId) (x0 : Addr) (x1 : Int64) : entryFrame m #[(.ref x0), (.long x1)] 3 = mkF m 0 #[.val (.ref x0), .val (.long x1), .second] [] := by first | (simp [entryFrame, mkF, argsToLocals, Value.category]; done) | rfl
theorem d5_0 : decode prog_5_method_12_code 0 = .ok (.lload_n 1, 1) := by decide +kernel
theorem pd__28J_29V : parseMethodDescriptor "(J)V" = some ⟨[.long], none⟩ := by decide +kernel
theorem d5_1 : decode prog_5_method_12_code 1 = .ok (.invokestatic 84, 3) := by decide +kernel
theorem d5_4 : decode prog_5_method_12_code 4 = .ok (.lload_n 1, 1) := by decide +kernel
theorem d5_5 : decode prog_5_method_12_code 5 = .ok (.aload_n 0, 1) := by decide +kernel
theorem d5_6 : decode prog_5_method_12_code 6 = .ok (.getfield 26, 3) := by decide +kernel
theorem d5_9 : decode prog_5_method_12_code 9 = .ok (.lcmp, 1) := by decide +kernel
theorem d5_10 : decode prog_5_method_12_code 10 = .ok (.ifCond .lt 27, 3) := by decide +kernel
theorem d5_37 : decode prog_5_method_12_code 37 = .ok (.iconst 0, 1) := by decide +kernel
theorem d5_38 : decode prog_5_method_12_code 38 = .ok (.ireturn, 1) := by decide +kernel
theorem d5_13 : decode prog_5_method_12_code 13 = .ok (.lload_n 1, 1) := by decide +kernel
theorem d5_14 : decode prog_5_method_12_code 14 = .ok (.aload_n 0, 1) := by decide +kernel
theorem d5_15 : decode prog_5_method_12_code 15 = .ok (.getfield 30, 3) := by decide +kernel
theorem d5_18 : decode prog_5_method_12_code 18 = .ok (.lcmp, 1) := by decide +kernel
theorem d5_19 : decode prog_5_method_12_code 19 = .ok (.ifCond .lt 14, 3) := by decide +kernel
theorem d5_33 : decode prog_5_method_12_code 33 = .ok (.iconst 1, 1) := by decide +kernel
theorem d5_34 : decode prog_5_method_12_code 34 = .ok (.goto 4, 3) := by decide +kernel
theorem d5_22 : decode prog_5_method_12_code 22 = .ok (.aload_n 0, 1) := by decide +kernel
theorem d5_23 : decode prog_5_method_12_code 23 = .ok (.getfield 30, 3) := by decide +kernel
theorem d5_26 : decode prog_5_method_12_code 26 = .ok (.ldc2_w 9, 3) := by decide +kernel
theorem d5_29 : decode prog_5_method_12_code 29 = .ok (.lcmp, 1) := by decide +kernel
theorem d5_30 : decode prog_5_method_12_code 30 = .ok (.ifCond .ne 7, 3) := by decide +kernel
set_option maxRecDepth 65536 in
set_option maxHeartbeats 40000000 in
theorem rmC (l : Launch) (Z : State) (a0 : Array Value) (hw : ∀ d ∈ tables_1, d.before a0 Z = true) (ws : List Jvm.Cond) (a1 : Addr) (x lo hi : Int64) (h0 : Heap) (n0 : Nat) (Z0 : n0 ≤ h0.size) (F1 : Fld Z h0 a1 "com/example/calm_balancer/calmbalancer/BundleRange" "lower" "J" (.long lo)) (F2 : Fld Z h0 a1 "com/example/calm_balancer/calmbalancer/BundleRange" "upper" "J" (.long hi)) (q1 : ¬ x < (0 : Int64)) (q2 : ¬ (4294967295 : Int64) < x) :
    MetFree l (⟨"com/example/calm_balancer/calmbalancer/BundleRange", "contains", "(J)Z"⟩ : MethodName) (head1 (Jvm.Cond.code (⟨"com/example/calm_balancer/calmbalancer/BundleRange", "contains", "(J)Z"⟩ : MethodName) prog_5_method_12_code 3 (some .boolean) :: ws) ({ frames := 1, cells := 0, slots := 0, locals := 13 } : Room)) (fun a U => a = #[(.ref a1), (.long x)] ∧ Z.Warmed39 U.vm ∧ U.heap = h0) (fun _ _ _ _ _ => True) (fun _ U o U' => ∃ v L, o = .returned v ∧ QC Z a1 x lo hi h0 n0 v U'.heap L ∧ FrameEnd U o U' L ({ frames := 1, cells := 0, slots := 0, locals := 13 } : Room).cells ({ frames := 1, cells := 0, slots := 0, locals := 13 } : Room).slots) := by
  refine MetFree.of_bodySF (plainFor_of_name pn_com_example_calm_balancer_calmbalancer_BundleRange) hisR ?_
  intro p e s m args below meth c s₁ Bd hml0 hP hK
  obtain ⟨rfl, hZ, hh⟩ := hP
  have hx := Bd.exec
  have hby := Bd.bytes
  have hml : c.maxLocals = 3 := hml0
  have hown : s.vm.findClass "com/example/calm_balancer/calmbalancer/BundleRange" = some m.cls := findClass_of_methodNamed Bd.named
  have hnm := (name_of_methodNamed Bd.named Bd.method).1
  have X0 : Stand p l e ({ frames := 1, cells := 0, slots := 0, locals := 13 } : Room) s m #[(.ref a1), (.long x)] below meth c s₁ [] 0 0 := Stand.of_body Bd
  have e0 : s₁.heap = h0 := by rw [← hh, Bd.state]; rfl
  have N0 := Fr.nil n0
  have pre0 : ∀ t, Steps p.tables e below (s₁.setTop (mkF m 0 #[.val (.ref a1), .val (.long x), .second] [])) t → Steps p.tables e below (s₁.setTop (entryFrame m #[(.ref a1), (.long x)] 3)) t := fun t kt => castTop (ef_rmC m a1 x) kt
  have pre1 : ∀ t, Steps p.tables e below (s₁.setTop (mkF m 1 #[.val (.ref a1), .val (.long x), .second] [(.long x)])) t → Steps p.tables e below (s₁.setTop (entryFrame m #[(.ref a1), (.long x)] 3)) t := fun t kt => pre0 t (by
    refine XS.lloadN X0.here hx rfl (hb hby d5_0) rfl ?_
    show Steps p.tables e below (s₁.setTop (mkF m 1 #[.val (.ref a1), .val (.long x), .second] [(.long x)])) _
    exact kt)
  obtain ⟨_, _, ⟨T2, L2, k2, n2⟩, -, X2, ⟨Lc2, hQ2, l2, y2, z2⟩, st2⟩ := Jvm.LawKit.callS X0 hx (y := (⟨"com/example/calm_balancer/calmbalancer/BundleRange", "checkHash", "(J)V"⟩ : MethodName)) hown (mvT hZ (hw _ (List.mem_of_getElem? (i := 27) rfl))) (mvT hZ (hw _ (List.mem_of_getElem? (i := 28) rfl))) (mvT hZ (hw _ (List.mem_of_getElem? (i := 10) rfl))) (mvT hZ (hw _ (List.mem_of_getElem? (i := 29) rfl))) (by decide) (backOf (W := 0) (rmH l Z a0 hw [] x h0 n0 Z0 q1 q2) hZ (hw _ (List.mem_of_getElem? (i := 29) rfl)) (hw _ (List.mem_of_getElem? (i := 10) rfl)) (by decide) (by decide)) (g := (mkF m 1 #[.val (.ref a1), .val (.long x), .second] [(.long x)])) rfl (by rw [hml]; rfl) (argsL := [(.long x)]) (rest := []) (lenOf pd__28J_29V rfl) rfl (by show 2 * 0 + _ ≤ _; exact Nat.le_of_eq rfl) (hb hby d5_1) (fun _ _ => ⟨rfl, e0, (by decide : 0 + 0 ≤ _), (by decide : 0 + 0 ≤ _)⟩)
  dsimp only [Pt.U, Pt.locs, Pt.cells, Pt.slots] at X2 l2 y2 z2 st2 hQ2
  subst l2 y2 z2
  obtain ⟨rfl, N2q, e2q⟩ := hQ2
  have N2 := Fr.app N0 N2q
  have pre3 : ∀ t, Steps p.tables e below (T2.setTop (mkF m 4 #[.val (.ref a1), .val (.long x), .second] [])) t → Steps p.tables e below (s₁.setTop (entryFrame m #[(.ref a1), (.long x)] 3)) t := fun t kt => pre1 t (st2 _ kt)
  have pre4 : ∀ t, Steps p.tables e below (T2.setTop (mkF m 6 #[.val (.ref a1), .val (.long x), .second] [(.ref a1), (.long x)])) t → Steps p.tables e below (s₁.setTop (entryFrame m #[(.ref a1), (.long x)] 3)) t := fun t kt => pre3 t (by
    refine XS.lloadN X2.here hx rfl (hb hby d5_4) rfl ?_
    show Steps p.tables e below (T2.setTop (mkF m 5 #[.val (.ref a1), .val (.long x), .second] [(.long x)])) _
    refine XS.aloadN X2.here hx rfl (hb hby d5_5) rfl rfl ?_
    show Steps p.tables e below (T2.setTop (mkF m 6 #[.val (.ref a1), .val (.long x), .second] [(.ref a1), (.long x)])) _
    exact kt)
  obtain ⟨T5, X5, e5, st5⟩ := getF X2 hx hZ hown (host := "") (Or.inl (hw _ (List.mem_of_getElem? (i := 18) rfl))) Via.refl e2q F1 (g := (mkF m 6 #[.val (.ref a1), .val (.long x), .second] [(.ref a1), (.long x)])) rfl rfl (hb hby d5_6)
  have pre6 : ∀ t, Steps p.tables e below (T5.setTop (mkF m 9 #[.val (.ref a1), .val (.long x), .second] [(.long lo), (.long x)])) t → Steps p.tables e below (s₁.setTop (entryFrame m #[(.ref a1), (.long x)] 3)) t := fun t kt => pre4 t (st5 _ kt)
  have pre7 : ∀ t, Steps p.tables e below (T5.setTop (mkF m 10 #[.val (.ref a1), .val (.long x), .second] [(.int (lcmpW x lo))])) t → Steps p.tables e below (s₁.setTop (entryFrame m #[(.ref a1), (.long x)] 3)) t := fun t kt => pre6 t (by
    refine XS.lcmp X5.here hx rfl (hb hby d5_9) rfl ?_
    show Steps p.tables e below (T5.setTop (mkF m 10 #[.val (.ref a1), .val (.long x), .second] [(.int (lcmpW x lo))])) _
    exact kt)
  by_cases c10_1 : x < lo
  · have pre8 : ∀ t, Steps p.tables e below (T5.setTop (mkF m 38 #[.val (.ref a1), .val (.long x), .second] [(.int (0 : Int32))])) t → Steps p.tables e below (s₁.setTop (entryFrame m #[(.ref a1), (.long x)] 3)) t := fun t kt => pre7 t (by
      refine XS.ifYes X5.here hx rfl (pc0 := 10) (pc' := 37) rfl (hb hby d5_10) rfl ((if0 _ _).trans (tlt ((lw_lt _ _).mpr c10_1)).1) (by decide) (by decide) ?_
      show Steps p.tables e below (T5.setTop (mkF m 37 #[.val (.ref a1), .val (.long x), .second] [])) _
      refine XS.iconst X5.here hx rfl (hb hby d5_37) ?_
      show Steps p.tables e below (T5.setTop (mkF m 38 #[.val (.ref a1), .val (.long x), .second] [(.int (0 : Int32))])) _
      exact kt)
    obtain ⟨fs, hr, hrun, hended, hW, hsame⟩ := X5.leave (v := (some (.int (0 : Int32)))) (fun h => by rw [Bd.returns] at h; cases h)
    refine ⟨_, _, pre8 _ ?_, hrun, hended, _, _, rfl, ?_, ⟨_, rfl⟩, hW, hsame.mono (by decide) (by decide)⟩
    · exact retN X5 hx (t := .boolean) Bd.returns (by simp) (hb hby d5_38) hr
    · show QC Z a1 x lo hi h0 n0 _ T5.heap _
      rw [e5]
      exact ⟨(by rw [if_pos c10_1]), N2, rfl⟩
  · have pre10 : ∀ t, Steps p.tables e below (T5.setTop (mkF m 15 #[.val (.ref a1), .val (.long x), .second] [(.ref a1), (.long x)])) t → Steps p.tables e below (s₁.setTop (entryFrame m #[(.ref a1), (.long x)] 3)) t := fun t kt => pre7 t (by
      refine XS.ifNo X5.here hx rfl (hb hby d5_10) rfl ((if0 _ _).trans (flt (mt (lw_lt _ _).mp c10_1)).1) ?_
      show Steps p.tables e below (T5.setTop (mkF m 13 #[.val (.ref a1), .val (.long x), .second] [])) _
      refine XS.lloadN X5.here hx rfl (hb hby d5_13) rfl ?_
      show Steps p.tables e below (T5.setTop (mkF m 14 #[.val (.ref a1), .val (.long x), .second] [(.long x)])) _
      refine XS.aloadN X5.here hx rfl (hb hby d5_14) rfl rfl ?_
      show Steps p.tables e below (T5.setTop (mkF m 15 #[.val (.ref a1), .val (.long x), .second] [(.ref a1), (.long x)])) _
      exact kt)
    obtain ⟨T11, X11, e11, st11⟩ := getF X5 hx hZ hown (host := "") (Or.inl (hw _ (List.mem_of_getElem? (i := 20) rfl))) Via.refl e5 F2 (g := (mkF m 15 #[.val (.ref a1), .val (.long x), .second] [(.ref a1), (.long x)])) rfl rfl (hb hby d5_15)
    have pre12 : ∀ t, Steps p.tables e below (T11.setTop (mkF m 18 #[.val (.ref a1), .val (.long x), .second] [(.long hi), (.long x)])) t → Steps p.tables e below (s₁.setTop (entryFrame m #[(.ref a1), (.long x)] 3)) t := fun t kt => pre10 t (st11 _ kt)
    have pre13 : ∀ t, Steps p.tables e below (T11.setTop (mkF m 19 #[.val (.ref a1), .val (.long x), .second] [(.int (lcmpW x hi))])) t → Steps p.tables e below (s₁.setTop (entryFrame m #[(.ref a1), (.long x)] 3)) t := fun t kt => pre12 t (by
      refine XS.lcmp X11.here hx rfl (hb hby d5_18) rfl ?_
      show Steps p.tables e below (T11.setTop (mkF m 19 #[.val (.ref a1), .val (.long x), .second] [(.int (lcmpW x hi))])) _
      exact kt)
    by_cases c19_2 : x < hi
    · have pre14 : ∀ t, Steps p.tables e below (T11.setTop (mkF m 38 #[.val (.ref a1), .val (.long x), .second] [(.int (1 : Int32))])) t → Steps p.tables e below (s₁.setTop (entryFrame m #[(.ref a1), (.long x)] 3)) t := fun t kt => pre13 t (by
        refine XS.ifYes X11.here hx rfl (pc0 := 19) (pc' := 33) rfl (hb hby d5_19) rfl ((if0 _ _).trans (tlt ((lw_lt _ _).mpr c19_2)).1) (by decide) (by decide) ?_
        show Steps p.tables e below (T11.setTop (mkF m 33 #[.val (.ref a1), .val (.long x), .second] [])) _
        refine XS.iconst X11.here hx rfl (hb hby d5_33) ?_
        show Steps p.tables e below (T11.setTop (mkF m 34 #[.val (.ref a1), .val (.long x), .second] [(.int (1 : Int32))])) _
        refine XS.goto X11.here hx rfl (pc0 := 34) (pc' := 38) rfl (hb hby d5_34) (by decide) (by decide) ?_
        show Steps p.tables e below (T11.setTop (mkF m 38 #[.val (.ref a1), .val (.long x), .second] [(.int (1 : Int32))])) _
        exact kt)
      obtain ⟨fs, hr, hrun, hended, hW, hsame⟩ := X11.leave (v := (some (.int (1 : Int32)))) (fun h => by rw [Bd.returns] at h; cases h)
      refine ⟨_, _, pre14 _ ?_, hrun, hended, _, _, rfl, ?_, ⟨_, rfl⟩, hW, hsame.mono (by decide) (by decide)⟩
      · exact retN X11 hx (t := .boolean) Bd.returns (by simp) (hb hby d5_38) hr
      · show QC Z a1 x lo hi h0 n0 _ T11.heap _
        rw [e11]
        exact ⟨(by rw [if_neg c10_1, if_pos c19_2]), N2, rfl⟩
    · have pre16 : ∀ t, Steps p.tables e below (T11.setTop (mkF m 23 #[.val (.ref a1), .val (.long x), .second] [(.ref a1)])) t → Steps p.tables e below (s₁.setTop (entryFrame m #[(.ref a1), (.long x)] 3)) t := fun t kt => pre13 t (by
        refine XS.ifNo X11.here hx rfl (hb hby d5_19) rfl ((if0 _ _).trans (flt (mt (lw_lt _ _).mp c19_2)).1) ?_
        show Steps p.tables e below (T11.setTop (mkF m 22 #[.val (.ref a1), .val (.long x), .second] [])) _
        refine XS.aloadN X11.here hx rfl (hb hby d5_22) rfl rfl ?_
        show Steps p.tables e below (T11.setTop (mkF m 23 #[.val (.ref a1), .val (.long x), .second] [(.ref a1)])) _
        exact kt)
      obtain ⟨T17, X17, e17, st17⟩ := getF X11 hx hZ hown (host := "") (Or.inl (hw _ (List.mem_of_getElem? (i := 20) rfl))) Via.refl e11 F2 (g := (mkF m 23 #[.val (.ref a1), .val (.long x), .second] [(.ref a1)])) rfl rfl (hb hby d5_23)
      have pre18 : ∀ t, Steps p.tables e below (T17.setTop (mkF m 26 #[.val (.ref a1), .val (.long x), .second] [(.long hi)])) t → Steps p.tables e below (s₁.setTop (entryFrame m #[(.ref a1), (.long x)] 3)) t := fun t kt => pre16 t (st17 _ kt)
      have pre19 : ∀ t, Steps p.tables e below (T17.setTop (mkF m 30 #[.val (.ref a1), .val (.long x), .second] [(.int (lcmpW hi (4294967295 : Int64)))])) t → Steps p.tables e below (s₁.setTop (entryFrame m #[(.ref a1), (.long x)] 3)) t := fun t kt => pre18 t (by
        refine X17.ldc2Long hx hown (mvT hZ (hw _ (List.mem_of_getElem? (i := 17) rfl))) (g := (mkF m 26 #[.val (.ref a1), .val (.long x), .second] [(.long hi)])) rfl (hb hby d5_26) _ ?_
        show Steps p.tables e below (T17.setTop (mkF m 29 #[.val (.ref a1), .val (.long x), .second] [(.long (4294967295 : Int64)), (.long hi)])) _
        refine XS.lcmp X17.here hx rfl (hb hby d5_29) rfl ?_
        show Steps p.tables e below (T17.setTop (mkF m 30 #[.val (.ref a1), .val (.long x), .second] [(.int (lcmpW hi (4294967295 : Int64)))])) _
        exact kt)
      by_cases c30_3 : hi = (4294967295 : Int64)
      · have pre20 : ∀ t, Steps p.tables e below (T17.setTop (mkF m 38 #[.val (.ref a1), .val (.long x), .second] [(.int (1 : Int32))])) t → Steps p.tables e below (s₁.setTop (entryFrame m #[(.ref a1), (.long x)] 3)) t := fun t kt => pre19 t (by
          refine XS.ifNo X17.here hx rfl (hb hby d5_30) rfl ((if0 _ _).trans (teq ((lw_eq _ _).mpr c30_3)).2) ?_
          show Steps p.tables e below (T17.setTop (mkF m 33 #[.val (.ref a1), .val (.long x), .second] [])) _
          refine XS.iconst X17.here hx rfl (hb hby d5_33) ?_
          show Steps p.tables e below (T17.setTop (mkF m 34 #[.val (.ref a1), .val (.long x), .second] [(.int (1 : Int32))])) _
          refine XS.goto X17.here hx rfl (pc0 := 34) (pc' := 38) rfl (hb hby d5_34) (by decide) (by decide) ?_
          show Steps p.tables e below (T17.setTop (mkF m 38 #[.val (.ref a1), .val (.long x), .second] [(.int (1 : Int32))])) _
          exact kt)
        obtain ⟨fs, hr, hrun, hended, hW, hsame⟩ := X17.leave (v := (some (.int (1 : Int32)))) (fun h => by rw [Bd.returns] at h; cases h)
        refine ⟨_, _, pre20 _ ?_, hrun, hended, _, _, rfl, ?_, ⟨_, rfl⟩, hW, hsame.mono (by decide) (by decide)⟩
        · exact retN X17 hx (t := .boolean) Bd.returns (by simp) (hb hby d5_38) hr
        · show QC Z a1 x lo hi h0 n0 _ T17.heap _
          rw [e17]
          exact ⟨(by rw [if_neg c10_1, if_neg c19_2, if_pos c30_3]), N2, rfl⟩
      · have pre22 : ∀ t, Steps p.tables e below (T17.setTop (mkF m 38 #[.val (.ref a1), .val (.long x), .second] [(.int (0 : Int32))])) t → Steps p.tables e below (s₁.setTop (entryFrame m #[(.ref a1), (.long x)] 3)) t := fun t kt => pre19 t (by
          refine XS.ifYes X17.here hx rfl (pc0 := 30) (pc' := 37) rfl (hb hby d5_30) rfl ((if0 _ _).trans (feq (mt (lw_eq _ _).mp c30_3)).2) (by decide) (by decide) ?_
          show Steps p.tables e below (T17.setTop (mkF m 37 #[.val (.ref a1), .val (.long x), .second] [])) _
          refine XS.iconst X17.here hx rfl (hb hby d5_37) ?_
          show Steps p.tables e below (T17.setTop (mkF m 38 #[.val (.ref a1), .val (.long x), .second] [(.int (0 : Int32))])) _
          exact kt)
        obtain ⟨fs, hr, hrun, hended, hW, hsame⟩ := X17.leave (v := (some (.int (0 : Int32)))) (fun h => by rw [Bd.returns] at h; cases h)
        refine ⟨_, _, pre22 _ ?_, hrun, hended, _, _, rfl, ?_, ⟨_, rfl⟩, hW, hsame.mono (by decide) (by decide)⟩
        · exact retN X17 hx (t := .boolean) Bd.returns (by simp) (hb hby d5_38) hr
        · show QC Z a1 x lo hi h0 n0 _ T17.heap _
          rw [e17]
          exact ⟨(by rw [if_neg c10_1, if_neg c19_2, if_neg c30_3]), N2, rfl⟩
def Qlower (Z : State) (a1 : Addr) (x : Int64) (h0 : Heap) (n0 : Nat) (v : Option Value) (h : Heap) (L : List Loc) : Prop := v = some (.long x) ∧ Fr n0 L ∧ h = h0
theorem ef_rmlower (m : MethodId) (x0 : Addr) : entryFrame m #[(.ref x0)] 1 = mkF m 0 #[.val (.ref x0)] [] := by first | (simp [entryFrame, mkF, argsToLocals, Value.category]; done) | rfl
theorem d8_0 : decode prog_5_method_10_code 0 = .ok (.aload_n 0, 1) := by decide +kernel
theorem d8_1 : decode prog_5_method_10_code 1 = .ok (.getfield 26, 3) := by decide +kernel
theorem d8_4 : decode prog_5_method_10_code 4 = .ok (.lreturn, 1) := by decide +kernel
set_option maxRecDepth 65536 in
set_option maxHeartbeats 40000000 in
theorem rmlower (l : Launch) (Z : State) (a0 : Array Value) (hw : ∀ d ∈ tables_1, d.before a0 Z = true) (ws : List Jvm.Cond) (a1 : Addr) (x : Int64) (h0 : Heap) (n0 : Nat) (Z0 : n0 ≤ h0.size) (F1 : Fld Z h0 a1 "com/example/calm_balancer/calmbalancer/BundleRange" "lower" "J" (.long x)) :
    MetFree l (⟨"com/example/calm_balancer/calmbalancer/BundleRange", "lower", "()J"⟩ : MethodName) (head1 (Jvm.Cond.code (⟨"com/example/calm_balancer/calmbalancer/BundleRange", "lower", "()J"⟩ : MethodName) prog_5_method_10_code 1 (some .long) :: ws) ({ frames := 0, cells := 0, slots := 0, locals := 0 } : Room)) (fun a U => a = #[(.ref a1)] ∧ Z.Warmed39 U.vm ∧ U.heap = h0) (fun _ _ _ _ _ => True) (fun _ U o U' => ∃ v L, o = .returned v ∧ Qlower Z a1 x h0 n0 v U'.heap L ∧ FrameEnd U o U' L ({ frames := 0, cells := 0, slots := 0, locals := 0 } : Room).cells ({ frames := 0, cells := 0, slots := 0, locals := 0 } : Room).slots) := by
  refine MetFree.of_bodySF (plainFor_of_name pn_com_example_calm_balancer_calmbalancer_BundleRange) hisR ?_
  intro p e s m args below meth c s₁ Bd hml0 hP hK
  obtain ⟨rfl, hZ, hh⟩ := hP
  have hx := Bd.exec
  have hby := Bd.bytes
  have hml : c.maxLocals = 1 := hml0
  have hown : s.vm.findClass "com/example/calm_balancer/calmbalancer/BundleRange" = some m.cls := findClass_of_methodNamed Bd.named
  have hnm := (name_of_methodNamed Bd.named Bd.method).1
  have X0 : Stand p l e ({ frames := 0, cells := 0, slots := 0, locals := 0 } : Room) s m #[(.ref a1)] below meth c s₁ [] 0 0 := Stand.of_body Bd
  have e0 : s₁.heap = h0 := by rw [← hh, Bd.state]; rfl
  have N0 := Fr.nil n0
  have pre0 : ∀ t, Steps p.tables e below (s₁.setTop (mkF m 0 #[.val (.ref a1)] [])) t → Steps p.tables e below (s₁.setTop (entryFrame m #[(.ref a1)] 1)) t := fun t kt => castTop (ef_rmlower m a1) kt
  have pre1 : ∀ t, Steps p.tables e below (s₁.setTop (mkF m 1 #[.val (.ref a1)] [(.ref a1)])) t → Steps p.tables e below (s₁.setTop (entryFrame m #[(.ref a1)] 1)) t := fun t kt => pre0 t (by
    refine XS.aloadN X0.here hx rfl (hb hby d8_0) rfl rfl ?_
    show Steps p.tables e below (s₁.setTop (mkF m 1 #[.val (.ref a1)] [(.ref a1)])) _
    exact kt)
  obtain ⟨T2, X2, e2, st2⟩ := getF X0 hx hZ hown (host := "") (Or.inl (hw _ (List.mem_of_getElem? (i := 18) rfl))) Via.refl e0 F1 (g := (mkF m 1 #[.val (.ref a1)] [(.ref a1)])) rfl rfl (hb hby d8_1)
  have pre3 : ∀ t, Steps p.tables e below (T2.setTop (mkF m 4 #[.val (.ref a1)] [(.long x)])) t → Steps p.tables e below (s₁.setTop (entryFrame m #[(.ref a1)] 1)) t := fun t kt => pre1 t (st2 _ kt)
  obtain ⟨fs, hr, hrun, hended, hW, hsame⟩ := X2.leave (v := (some (.long x))) (fun h => by rw [Bd.returns] at h; cases h)
  refine ⟨_, _, pre3 _ ?_, hrun, hended, _, _, rfl, ?_, ⟨_, rfl⟩, hW, hsame.mono (by decide) (by decide)⟩
  · exact retOut X2 hx Bd.returns rfl (Or.inr (Or.inl ⟨rfl, rfl, _, rfl⟩)) (hb hby d8_4) hr
  · show Qlower Z a1 x h0 n0 _ T2.heap _
    rw [e2]
    exact ⟨rfl, N0, rfl⟩
def Qupper (Z : State) (a1 : Addr) (x : Int64) (h0 : Heap) (n0 : Nat) (v : Option Value) (h : Heap) (L : List Loc) : Prop := v = some (.long x) ∧ Fr n0 L ∧ h = h0
theorem ef_rmupper (m : MethodId) (x0 : Addr) : entryFrame m #[(.ref x0)] 1 = mkF m 0 #[.val (.ref x0)] [] := by first | (simp [entryFrame, mkF, argsToLocals, Value.category]; done) | rfl
theorem d9_0 : decode prog_5_method_11_code 0 = .ok (.aload_n 0, 1) := by decide +kernel
theorem d9_1 : decode prog_5_method_11_code 1 = .ok (.getfield 30, 3) := by decide +kernel
theorem d9_4 : decode prog_5_method_11_code 4 = .ok (.lreturn, 1) := by decide +kernel
set_option maxRecDepth 65536 in
set_option maxHeartbeats 40000000 in
theorem rmupper (l : Launch) (Z : State) (a0 : Array Value) (hw : ∀ d ∈ tables_1, d.before a0 Z = true) (ws : List Jvm.Cond) (a1 : Addr) (x : Int64) (h0 : Heap) (n0 : Nat) (Z0 : n0 ≤ h0.size) (F1 : Fld Z h0 a1 "com/example/calm_balancer/calmbalancer/BundleRange" "upper" "J" (.long x)) :
    MetFree l (⟨"com/example/calm_balancer/calmbalancer/BundleRange", "upper", "()J"⟩ : MethodName) (head1 (Jvm.Cond.code (⟨"com/example/calm_balancer/calmbalancer/BundleRange", "upper", "()J"⟩ : MethodName) prog_5_method_11_code 1 (some .long) :: ws) ({ frames := 0, cells := 0, slots := 0, locals := 0 } : Room)) (fun a U => a = #[(.ref a1)] ∧ Z.Warmed39 U.vm ∧ U.heap = h0) (fun _ _ _ _ _ => True) (fun _ U o U' => ∃ v L, o = .returned v ∧ Qupper Z a1 x h0 n0 v U'.heap L ∧ FrameEnd U o U' L ({ frames := 0, cells := 0, slots := 0, locals := 0 } : Room).cells ({ frames := 0, cells := 0, slots := 0, locals := 0 } : Room).slots) := by
  refine MetFree.of_bodySF (plainFor_of_name pn_com_example_calm_balancer_calmbalancer_BundleRange) hisR ?_
  intro p e s m args below meth c s₁ Bd hml0 hP hK
  obtain ⟨rfl, hZ, hh⟩ := hP
  have hx := Bd.exec
  have hby := Bd.bytes
  have hml : c.maxLocals = 1 := hml0
  have hown : s.vm.findClass "com/example/calm_balancer/calmbalancer/BundleRange" = some m.cls := findClass_of_methodNamed Bd.named
  have hnm := (name_of_methodNamed Bd.named Bd.method).1
  have X0 : Stand p l e ({ frames := 0, cells := 0, slots := 0, locals := 0 } : Room) s m #[(.ref a1)] below meth c s₁ [] 0 0 := Stand.of_body Bd
  have e0 : s₁.heap = h0 := by rw [← hh, Bd.state]; rfl
  have N0 := Fr.nil n0
  have pre0 : ∀ t, Steps p.tables e below (s₁.setTop (mkF m 0 #[.val (.ref a1)] [])) t → Steps p.tables e below (s₁.setTop (entryFrame m #[(.ref a1)] 1)) t := fun t kt => castTop (ef_rmupper m a1) kt
  have pre1 : ∀ t, Steps p.tables e below (s₁.setTop (mkF m 1 #[.val (.ref a1)] [(.ref a1)])) t → Steps p.tables e below (s₁.setTop (entryFrame m #[(.ref a1)] 1)) t := fun t kt => pre0 t (by
    refine XS.aloadN X0.here hx rfl (hb hby d9_0) rfl rfl ?_
    show Steps p.tables e below (s₁.setTop (mkF m 1 #[.val (.ref a1)] [(.ref a1)])) _
    exact kt)
  obtain ⟨T2, X2, e2, st2⟩ := getF X0 hx hZ hown (host := "") (Or.inl (hw _ (List.mem_of_getElem? (i := 20) rfl))) Via.refl e0 F1 (g := (mkF m 1 #[.val (.ref a1)] [(.ref a1)])) rfl rfl (hb hby d9_1)
  have pre3 : ∀ t, Steps p.tables e below (T2.setTop (mkF m 4 #[.val (.ref a1)] [(.long x)])) t → Steps p.tables e below (s₁.setTop (entryFrame m #[(.ref a1)] 1)) t := fun t kt => pre1 t (st2 _ kt)
  obtain ⟨fs, hr, hrun, hended, hW, hsame⟩ := X2.leave (v := (some (.long x))) (fun h => by rw [Bd.returns] at h; cases h)
  refine ⟨_, _, pre3 _ ?_, hrun, hended, _, _, rfl, ?_, ⟨_, rfl⟩, hW, hsame.mono (by decide) (by decide)⟩
  · exact retOut X2 hx Bd.returns rfl (Or.inr (Or.inl ⟨rfl, rfl, _, rfl⟩)) (hb hby d9_4) hr
  · show Qupper Z a1 x h0 n0 _ T2.heap _
    rw [e2]
    exact ⟨rfl, N0, rfl⟩
def QK (Z : State) (a1 : Addr) (x lo hi : Int64) (h0 : Heap) (n0 : Nat) (v : Option Value) (h : Heap) (L : List Loc) : Prop := v = some (.int (if lo < x then (if x < hi then (1 : Int32) else (0 : Int32)) else (0 : Int32))) ∧ Fr n0 L ∧ h = h0
theorem ef_rmK (m : MethodId) (x0 : Addr) (x1 : Int64) : entryFrame m #[(.ref x0), (.long x1)] 3 = mkF m 0 #[.val (.ref x0), .val (.long x1), .second] [] := by first | (simp [entryFrame, mkF, argsToLocals, Value.category]; done) | rfl
theorem d7_0 : decode prog_5_method_13_code 0 = .ok (.lload_n 1, 1) := by decide +kernel
theorem d7_1 : decode prog_5_method_13_code 1 = .ok (.aload_n 0, 1) := by decide +kernel
theorem d7_2 : decode prog_5_method_13_code 2 = .ok (.getfield 26, 3) := by decide +kernel
theorem d7_5 : decode prog_5_method_13_code 5 = .ok (.lcmp, 1) := by decide +kernel
theorem d7_6 : decode prog_5_method_13_code 6 = .ok (.ifCond .le 16, 3) := by decide +kernel
theorem d7_9 : decode prog_5_method_13_code 9 = .ok (.lload_n 1, 1) := by decide +kernel
theorem d7_10 : decode prog_5_method_13_code 10 = .ok (.aload_n 0, 1) := by decide +kernel
theorem d7_11 : decode prog_5_method_13_code 11 = .ok (.getfield 30, 3) := by decide +kernel
theorem d7_14 : decode prog_5_method_13_code 14 = .ok (.lcmp, 1) := by decide +kernel
theorem d7_15 : decode prog_5_method_13_code 15 = .ok (.ifCond .ge 7, 3) := by decide +kernel
theorem d7_18 : decode prog_5_method_13_code 18 = .ok (.iconst 1, 1) := by decide +kernel
theorem d7_19 : decode prog_5_method_13_code 19 = .ok (.goto 4, 3) := by decide +kernel
theorem d7_23 : decode prog_5_method_13_code 23 = .ok (.ireturn, 1) := by decide +kernel
theorem d7_22 : decode prog_5_method_13_code 22 = .ok (.iconst 0, 1) := by decide +kernel
set_option maxRecDepth 65536 in
set_option maxHeartbeats 40000000 in
theorem rmK (l : Launch) (Z : State) (a0 : Array Value) (hw : ∀ d ∈ tables_1, d.before a0 Z = true) (ws : List Jvm.Cond) (a1 : Addr) (x lo hi : Int64) (h0 : Heap) (n0 : Nat) (Z0 : n0 ≤ h0.size) (F1 : Fld Z h0 a1 "com/example/calm_balancer/calmbalancer/BundleRange" "lower" "J" (.long lo)) (F2 : Fld Z h0 a1 "com/example/calm_balancer/calmbalancer/BundleRange" "upper" "J" (.long hi)) :
    MetFree l (⟨"com/example/calm_balancer/calmbalancer/BundleRange", "canCutAt", "(J)Z"⟩ : MethodName) (head1 (Jvm.Cond.code (⟨"com/example/calm_balancer/calmbalancer/BundleRange", "canCutAt", "(J)Z"⟩ : MethodName) prog_5_method_13_code 3 (some .boolean) :: ws) ({ frames := 0, cells := 0, slots := 0, locals := 0 } : Room)) (fun a U => a = #[(.ref a1), (.long x)] ∧ Z.Warmed39 U.vm ∧ U.heap = h0) (fun _ _ _ _ _ => True) (fun _ U o U' => ∃ v L, o = .returned v ∧ QK Z a1 x lo hi h0 n0 v U'.heap L ∧ FrameEnd U o U' L ({ frames := 0, cells := 0, slots := 0, locals := 0 } : Room).cells ({ frames := 0, cells := 0, slots := 0, locals := 0 } : Room).slots) := by
  refine MetFree.of_bodySF (plainFor_of_name pn_com_example_calm_balancer_calmbalancer_BundleRange) hisR ?_
  intro p e s m args below meth c s₁ Bd hml0 hP hK
  obtain ⟨rfl, hZ, hh⟩ := hP
  have hx := Bd.exec
  have hby := Bd.bytes
  have hml : c.maxLocals = 3 := hml0
  have hown : s.vm.findClass "com/example/calm_balancer/calmbalancer/BundleRange" = some m.cls := findClass_of_methodNamed Bd.named
  have hnm := (name_of_methodNamed Bd.named Bd.method).1
  have X0 : Stand p l e ({ frames := 0, cells := 0, slots := 0, locals := 0 } : Room) s m #[(.ref a1), (.long x)] below meth c s₁ [] 0 0 := Stand.of_body Bd
  have e0 : s₁.heap = h0 := by rw [← hh, Bd.state]; rfl
  have N0 := Fr.nil n0
  have pre0 : ∀ t, Steps p.tables e below (s₁.setTop (mkF m 0 #[.val (.ref a1), .val (.long x), .second] [])) t → Steps p.tables e below (s₁.setTop (entryFrame m #[(.ref a1), (.long x)] 3)) t := fun t kt => castTop (ef_rmK m a1 x) kt
  have pre1 : ∀ t, Steps p.tables e below (s₁.setTop (mkF m 2 #[.val (.ref a1), .val (.long x), .second] [(.ref a1), (.long x)])) t → Steps p.tables e below (s₁.setTop (entryFrame m #[(.ref a1), (.long x)] 3)) t := fun t kt => pre0 t (by
    refine XS.lloadN X0.here hx rfl (hb hby d7_0) rfl ?_
    show Steps p.tables e below (s₁.setTop (mkF m 1 #[.val (.ref a1), .val (.long x), .second] [(.long x)])) _
    refine XS.aloadN X0.here hx rfl (hb hby d7_1) rfl rfl ?_
    show Steps p.tables e below (s₁.setTop (mkF m 2 #[.val (.ref a1), .val (.long x), .second] [(.ref a1), (.long x)])) _
    exact kt)
  obtain ⟨T2, X2, e2, st2⟩ := getF X0 hx hZ hown (host := "") (Or.inl (hw _ (List.mem_of_getElem? (i := 18) rfl))) Via.refl e0 F1 (g := (mkF m 2 #[.val (.ref a1), .val (.long x), .second] [(.ref a1), (.long x)])) rfl rfl (hb hby d7_2)
  have pre3 : ∀ t, Steps p.tables e below (T2.setTop (mkF m 5 #[.val (.ref a1), .val (.long x), .second] [(.long lo), (.long x)])) t → Steps p.tables e below (s₁.setTop (entryFrame m #[(.ref a1), (.long x)] 3)) t := fun t kt => pre1 t (st2 _ kt)
  have pre4 : ∀ t, Steps p.tables e below (T2.setTop (mkF m 6 #[.val (.ref a1), .val (.long x), .second] [(.int (lcmpW x lo))])) t → Steps p.tables e below (s₁.setTop (entryFrame m #[(.ref a1), (.long x)] 3)) t := fun t kt => pre3 t (by
    refine XS.lcmp X2.here hx rfl (hb hby d7_5) rfl ?_
    show Steps p.tables e below (T2.setTop (mkF m 6 #[.val (.ref a1), .val (.long x), .second] [(.int (lcmpW x lo))])) _
    exact kt)
  by_cases c6_1 : lo < x
  · have pre5 : ∀ t, Steps p.tables e below (T2.setTop (mkF m 11 #[.val (.ref a1), .val (.long x), .second] [(.ref a1), (.long x)])) t → Steps p.tables e below (s₁.setTop (entryFrame m #[(.ref a1), (.long x)] 3)) t := fun t kt => pre4 t (by
      refine XS.ifNo X2.here hx rfl (hb hby d7_6) rfl ((if0 _ _).trans (tlt ((lw_gt _ _).mpr c6_1)).2.2.2) ?_
      show Steps p.tables e below (T2.setTop (mkF m 9 #[.val (.ref a1), .val (.long x), .second] [])) _
      refine XS.lloadN X2.here hx rfl (hb hby d7_9) rfl ?_
      show Steps p.tables e below (T2.setTop (mkF m 10 #[.val (.ref a1), .val (.long x), .second] [(.long x)])) _
      refine XS.aloadN X2.here hx rfl (hb hby d7_10) rfl rfl ?_
      show Steps p.tables e below (T2.setTop (mkF m 11 #[.val (.ref a1), .val (.long x), .second] [(.ref a1), (.long x)])) _
      exact kt)
    obtain ⟨T6, X6, e6, st6⟩ := getF X2 hx hZ hown (host := "") (Or.inl (hw _ (List.mem_of_getElem? (i := 20) rfl))) Via.refl e2 F2 (g := (mkF m 11 #[.val (.ref a1), .val (.long x), .second] [(.ref a1), (.long x)])) rfl rfl (hb hby d7_11)
    have pre7 : ∀ t, Steps p.tables e below (T6.setTop (mkF m 14 #[.val (.ref a1), .val (.long x), .second] [(.long hi), (.long x)])) t → Steps p.tables e below (s₁.setTop (entryFrame m #[(.ref a1), (.long x)] 3)) t := fun t kt => pre5 t (st6 _ kt)
    have pre8 : ∀ t, Steps p.tables e below (T6.setTop (mkF m 15 #[.val (.ref a1), .val (.long x), .second] [(.int (lcmpW x hi))])) t → Steps p.tables e below (s₁.setTop (entryFrame m #[(.ref a1), (.long x)] 3)) t := fun t kt => pre7 t (by
      refine XS.lcmp X6.here hx rfl (hb hby d7_14) rfl ?_
      show Steps p.tables e below (T6.setTop (mkF m 15 #[.val (.ref a1), .val (.long x), .second] [(.int (lcmpW x hi))])) _
      exact kt)
    by_cases c15_2 : x < hi
    · have pre9 : ∀ t, Steps p.tables e below (T6.setTop (mkF m 23 #[.val (.ref a1), .val (.long x), .second] [(.int (1 : Int32))])) t → Steps p.tables e below (s₁.setTop (entryFrame m #[(.ref a1), (.long x)] 3)) t := fun t kt => pre8 t (by
        refine XS.ifNo X6.here hx rfl (hb hby d7_15) rfl ((if0 _ _).trans (tlt ((lw_lt _ _).mpr c15_2)).2.1) ?_
        show Steps p.tables e below (T6.setTop (mkF m 18 #[.val (.ref a1), .val (.long x), .second] [])) _
        refine XS.iconst X6.here hx rfl (hb hby d7_18) ?_
        show Steps p.tables e below (T6.setTop (mkF m 19 #[.val (.ref a1), .val (.long x), .second] [(.int (1 : Int32))])) _
        refine XS.goto X6.here hx rfl (pc0 := 19) (pc' := 23) rfl (hb hby d7_19) (by decide) (by decide) ?_
        show Steps p.tables e below (T6.setTop (mkF m 23 #[.val (.ref a1), .val (.long x), .second] [(.int (1 : Int32))])) _
        exact kt)
      obtain ⟨fs, hr, hrun, hended, hW, hsame⟩ := X6.leave (v := (some (.int (1 : Int32)))) (fun h => by rw [Bd.returns] at h; cases h)
      refine ⟨_, _, pre9 _ ?_, hrun, hended, _, _, rfl, ?_, ⟨_, rfl⟩, hW, hsame.mono (by decide) (by decide)⟩
      · exact retN X6 hx (t := .boolean) Bd.returns (by simp) (hb hby d7_23) hr
      · show QK Z a1 x lo hi h0 n0 _ T6.heap _
        rw [e6]
        exact ⟨(by rw [if_pos c6_1, if_pos c15_2]), N0, rfl⟩
    · have pre11 : ∀ t, Steps p.tables e below (T6.setTop (mkF m 23 #[.val (.ref a1), .val (.long x), .second] [(.int (0 : Int32))])) t → Steps p.tables e below (s₁.setTop (entryFrame m #[(.ref a1), (.long x)] 3)) t := fun t kt => pre8 t (by
        refine XS.ifYes X6.here hx rfl (pc0 := 15) (pc' := 22) rfl (hb hby d7_15) rfl ((if0 _ _).trans (flt (mt (lw_lt _ _).mp c15_2)).2.1) (by decide) (by decide) ?_
        show Steps p.tables e below (T6.setTop (mkF m 22 #[.val (.ref a1), .val (.long x), .second] [])) _
        refine XS.iconst X6.here hx rfl (hb hby d7_22) ?_
        show Steps p.tables e below (T6.setTop (mkF m 23 #[.val (.ref a1), .val (.long x), .second] [(.int (0 : Int32))])) _
        exact kt)
      obtain ⟨fs, hr, hrun, hended, hW, hsame⟩ := X6.leave (v := (some (.int (0 : Int32)))) (fun h => by rw [Bd.returns] at h; cases h)
      refine ⟨_, _, pre11 _ ?_, hrun, hended, _, _, rfl, ?_, ⟨_, rfl⟩, hW, hsame.mono (by decide) (by decide)⟩
      · exact retN X6 hx (t := .boolean) Bd.returns (by simp) (hb hby d7_23) hr
      · show QK Z a1 x lo hi h0 n0 _ T6.heap _
        rw [e6]
        exact ⟨(by rw [if_pos c6_1, if_neg c15_2]), N0, rfl⟩
  · have pre13 : ∀ t, Steps p.tables e below (T2.setTop (mkF m 23 #[.val (.ref a1), .val (.long x), .second] [(.int (0 : Int32))])) t → Steps p.tables e below (s₁.setTop (entryFrame m #[(.ref a1), (.long x)] 3)) t := fun t kt => pre4 t (by
      refine XS.ifYes X2.here hx rfl (pc0 := 6) (pc' := 22) rfl (hb hby d7_6) rfl ((if0 _ _).trans (flt (mt (lw_gt _ _).mp c6_1)).2.2.2) (by decide) (by decide) ?_
      show Steps p.tables e below (T2.setTop (mkF m 22 #[.val (.ref a1), .val (.long x), .second] [])) _
      refine XS.iconst X2.here hx rfl (hb hby d7_22) ?_
      show Steps p.tables e below (T2.setTop (mkF m 23 #[.val (.ref a1), .val (.long x), .second] [(.int (0 : Int32))])) _
      exact kt)
    obtain ⟨fs, hr, hrun, hended, hW, hsame⟩ := X2.leave (v := (some (.int (0 : Int32)))) (fun h => by rw [Bd.returns] at h; cases h)
    refine ⟨_, _, pre13 _ ?_, hrun, hended, _, _, rfl, ?_, ⟨_, rfl⟩, hW, hsame.mono (by decide) (by decide)⟩
    · exact retN X2 hx (t := .boolean) Bd.returns (by simp) (hb hby d7_23) hr
    · show QK Z a1 x lo hi h0 n0 _ T2.heap _
      rw [e2]
      exact ⟨(by rw [if_neg c6_1]), N0, rfl⟩
def Q0 (Z : State) (h0 : Heap) (n0 : Nat) (v : Option Value) (h : Heap) (L : List Loc) : Prop := v = some (.int (1 : Int32)) ∧ Fr n0 L
theorem ef_rm0 (m : MethodId) (x0 : Int64) (x1 : Int64) (x2 : Int32) (x3 : Int64) (x4 : Int64) : entryFrame m #[(.long x0), (.long x1), (.int x2), (.long x3), (.long x4)] maxLocals = mkF m 0 #[.val (.long x0), .second, .val (.long x1), .second, .val (.int x2), .val (.long x3), .second, .val (.long x4), .second, .unset, .unset, .unset, .unset, .unset, .unset, .unset, .unset, .unset, .unset, .unset, .unset, .unset, .unset] [] := by first | (simp [entryFrame, mkF, argsToLocals, Value.category, maxLocals]; done) | rfl
theorem pn_com_example_calm_balancer_calmbalancer_BundleRangeCanCutAtPinLaw : plainName "com/example/calm_balancer/calmbalancer/BundleRangeCanCutAtPinLaw" = true := by first | (simp [plainName, overriddenIn]; done) | decide +kernel
theorem pd__28JJ_29J : parseMethodDescriptor "(JJ)J" = some ⟨[.long, .long], some .long⟩ := by decide +kernel
theorem pd__28JJ_29V : parseMethodDescriptor "(JJ)V" = some ⟨[.long, .long], none⟩ := by decide +kernel
theorem pd__28J_29Z : parseMethodDescriptor "(J)Z" = some ⟨[.long], some .boolean⟩ := by decide +kernel
theorem pd__28_29J : parseMethodDescriptor "()J" = some ⟨[], some .long⟩ := by decide +kernel
set_option maxRecDepth 65536 in
set_option maxHeartbeats 40000000 in
theorem rm0 (l : Launch) (Z : State) (a0 : Array Value) (hw : ∀ d ∈ tables_1, d.before a0 Z = true) (ws : List Jvm.Cond) (xa ya : Int64) (mo : Int32) (dd qq : Int64) (h0 : Heap) (n0 : Nat) (Z0 : n0 ≤ h0.size)  :
    MetFree l x (head1 (Jvm.Cond.code x code maxLocals ret :: ws) room_1) (fun a U => a = #[(.long xa), (.long ya), (.int mo), (.long dd), (.long qq)] ∧ Z.Warmed39 U.vm ∧ U.heap = h0) (fun _ _ _ _ _ => True) (fun _ U o U' => ∃ v L, o = .returned v ∧ Q0 Z  h0 n0 v U'.heap L ∧ FrameEnd U o U' L room_1.cells room_1.slots) := by
  refine MetFree.of_bodySF (plainFor_of_name pn_com_example_calm_balancer_calmbalancer_BundleRangeCanCutAtPinLaw) hisR ?_
  intro p e s m args below meth c s₁ Bd hml0 hP hK
  obtain ⟨rfl, hZ, hh⟩ := hP
  have hx := Bd.exec
  have hby := Bd.bytes
  have hml : c.maxLocals = 23 := hml0
  have hown : s.vm.findClass "com/example/calm_balancer/calmbalancer/BundleRangeCanCutAtPinLaw" = some m.cls := findClass_of_methodNamed Bd.named
  have hnm := (name_of_methodNamed Bd.named Bd.method).1
  have X0 : Stand p l e room_1 s m #[(.long xa), (.long ya), (.int mo), (.long dd), (.long qq)] below meth c s₁ [] 0 0 := Stand.of_body Bd
  have e0 : s₁.heap = h0 := by rw [← hh, Bd.state]; rfl
  have N0 := Fr.nil n0
  have pre0 : ∀ t, Steps p.tables e below (s₁.setTop (mkF m 0 #[.val (.long xa), .second, .val (.long ya), .second, .val (.int mo), .val (.long dd), .second, .val (.long qq), .second, .unset, .unset, .unset, .unset, .unset, .unset, .unset, .unset, .unset, .unset, .unset, .unset, .unset, .unset] [])) t → Steps p.tables e below (s₁.setTop (entryFrame m #[(.long xa), (.long ya), (.int mo), (.long dd), (.long qq)] maxLocals)) t := fun t kt => castTop (ef_rm0 m xa ya mo dd qq) kt
  have pre1 : ∀ t, Steps p.tables e below (s₁.setTop (mkF m 18 #[.val (.long xa), .second, .val (.long ya), .second, .val (.int mo), .val (.long dd), .second, .val (.long qq), .second, .val (.long (xa &&& (4294967295 : Int64))), .second, .val (.long (ya &&& (4294967295 : Int64))), .second, .unset, .unset, .unset, .unset, .unset, .unset, .unset, .unset, .unset, .unset] [(.long (ya &&& (4294967295 : Int64))), (.long (xa &&& (4294967295 : Int64)))])) t → Steps p.tables e below (s₁.setTop (entryFrame m #[(.long xa), (.long ya), (.int mo), (.long dd), (.long qq)] maxLocals)) t := fun t kt => pre0 t (by
    refine XS.lloadN X0.here hx rfl (hb hby at_0) rfl ?_
    show Steps p.tables e below (s₁.setTop (mkF m 1 #[.val (.long xa), .second, .val (.long ya), .second, .val (.int mo), .val (.long dd), .second, .val (.long qq), .second, .unset, .unset, .unset, .unset, .unset, .unset, .unset, .unset, .unset, .unset, .unset, .unset, .unset, .unset] [(.long xa)])) _
    refine X0.ldc2Long hx hown (mvT hZ (hw _ (List.mem_of_getElem? (i := 0) rfl))) (g := (mkF m 1 #[.val (.long xa), .second, .val (.long ya), .second, .val (.int mo), .val (.long dd), .second, .val (.long qq), .second, .unset, .unset, .unset, .unset, .unset, .unset, .unset, .unset, .unset, .unset, .unset, .unset, .unset, .unset] [(.long xa)])) rfl (hb hby at_1) _ ?_
    show Steps p.tables e below (s₁.setTop (mkF m 4 #[.val (.long xa), .second, .val (.long ya), .second, .val (.int mo), .val (.long dd), .second, .val (.long qq), .second, .unset, .unset, .unset, .unset, .unset, .unset, .unset, .unset, .unset, .unset, .unset, .unset, .unset, .unset] [(.long (4294967295 : Int64)), (.long xa)])) _
    refine XS.land X0.here hx rfl (hb hby at_4) rfl ?_
    show Steps p.tables e below (s₁.setTop (mkF m 5 #[.val (.long xa), .second, .val (.long ya), .second, .val (.int mo), .val (.long dd), .second, .val (.long qq), .second, .unset, .unset, .unset, .unset, .unset, .unset, .unset, .unset, .unset, .unset, .unset, .unset, .unset, .unset] [(.long (xa &&& (4294967295 : Int64)))])) _
    refine XS.lstore X0.here hx rfl (hb hby at_5) rfl (l' := #[.val (.long xa), .second, .val (.long ya), .second, .val (.int mo), .val (.long dd), .second, .val (.long qq), .second, .val (.long (xa &&& (4294967295 : Int64))), .second, .unset, .unset, .unset, .unset, .unset, .unset, .unset, .unset, .unset, .unset, .unset, .unset]) rfl ?_
    show Steps p.tables e below (s₁.setTop (mkF m 7 #[.val (.long xa), .second, .val (.long ya), .second, .val (.int mo), .val (.long dd), .second, .val (.long qq), .second, .val (.long (xa &&& (4294967295 : Int64))), .second, .unset, .unset, .unset, .unset, .unset, .unset, .unset, .unset, .unset, .unset, .unset, .unset] [])) _
    refine XS.lloadN X0.here hx rfl (hb hby at_7) rfl ?_
    show Steps p.tables e below (s₁.setTop (mkF m 8 #[.val (.long xa), .second, .val (.long ya), .second, .val (.int mo), .val (.long dd), .second, .val (.long qq), .second, .val (.long (xa &&& (4294967295 : Int64))), .second, .unset, .unset, .unset, .unset, .unset, .unset, .unset, .unset, .unset, .unset, .unset, .unset] [(.long ya)])) _
    refine X0.ldc2Long hx hown (mvT hZ (hw _ (List.mem_of_getElem? (i := 0) rfl))) (g := (mkF m 8 #[.val (.long xa), .second, .val (.long ya), .second, .val (.int mo), .val (.long dd), .second, .val (.long qq), .second, .val (.long (xa &&& (4294967295 : Int64))), .second, .unset, .unset, .unset, .unset, .unset, .unset, .unset, .unset, .unset, .unset, .unset, .unset] [(.long ya)])) rfl (hb hby at_8) _ ?_
    show Steps p.tables e below (s₁.setTop (mkF m 11 #[.val (.long xa), .second, .val (.long ya), .second, .val (.int mo), .val (.long dd), .second, .val (.long qq), .second, .val (.long (xa &&& (4294967295 : Int64))), .second, .unset, .unset, .unset, .unset, .unset, .unset, .unset, .unset, .unset, .unset, .unset, .unset] [(.long (4294967295 : Int64)), (.long ya)])) _
    refine XS.land X0.here hx rfl (hb hby at_11) rfl ?_
    show Steps p.tables e below (s₁.setTop (mkF m 12 #[.val (.long xa), .second, .val (.long ya), .second, .val (.int mo), .val (.long dd), .second, .val (.long qq), .second, .val (.long (xa &&& (4294967295 : Int64))), .second, .unset, .unset, .unset, .unset, .unset, .unset, .unset, .unset, .unset, .unset, .unset, .unset] [(.long (ya &&& (4294967295 : Int64)))])) _
    refine XS.lstore X0.here hx rfl (hb hby at_12) rfl (l' := #[.val (.long xa), .second, .val (.long ya), .second, .val (.int mo), .val (.long dd), .second, .val (.long qq), .second, .val (.long (xa &&& (4294967295 : Int64))), .second, .val (.long (ya &&& (4294967295 : Int64))), .second, .unset, .unset, .unset, .unset, .unset, .unset, .unset, .unset, .unset, .unset]) rfl ?_
    show Steps p.tables e below (s₁.setTop (mkF m 14 #[.val (.long xa), .second, .val (.long ya), .second, .val (.int mo), .val (.long dd), .second, .val (.long qq), .second, .val (.long (xa &&& (4294967295 : Int64))), .second, .val (.long (ya &&& (4294967295 : Int64))), .second, .unset, .unset, .unset, .unset, .unset, .unset, .unset, .unset, .unset, .unset] [])) _
    refine XS.lload X0.here hx rfl (hb hby at_14) rfl ?_
    show Steps p.tables e below (s₁.setTop (mkF m 16 #[.val (.long xa), .second, .val (.long ya), .second, .val (.int mo), .val (.long dd), .second, .val (.long qq), .second, .val (.long (xa &&& (4294967295 : Int64))), .second, .val (.long (ya &&& (4294967295 : Int64))), .second, .unset, .unset, .unset, .unset, .unset, .unset, .unset, .unset, .unset, .unset] [(.long (xa &&& (4294967295 : Int64)))])) _
    refine XS.lload X0.here hx rfl (hb hby at_16) rfl ?_
    show Steps p.tables e below (s₁.setTop (mkF m 18 #[.val (.long xa), .second, .val (.long ya), .second, .val (.int mo), .val (.long dd), .second, .val (.long qq), .second, .val (.long (xa &&& (4294967295 : Int64))), .second, .val (.long (ya &&& (4294967295 : Int64))), .second, .unset, .unset, .unset, .unset, .unset, .unset, .unset, .unset, .unset, .unset] [(.long (ya &&& (4294967295 : Int64))), (.long (xa &&& (4294967295 : Int64)))])) _
    exact kt)
  obtain ⟨_, _, ⟨T2, L2, k2, n2⟩, -, X2, ⟨Lc2, hQ2, l2, y2, z2⟩, st2⟩ := Jvm.LawKit.callS X0 hx (y := (⟨"java/lang/Math", "min", "(JJ)J"⟩ : MethodName)) hown (mvT hZ (hw _ (List.mem_of_getElem? (i := 1) rfl))) (mvT hZ (hw _ (List.mem_of_getElem? (i := 2) rfl))) (mvT hZ (hw _ (List.mem_of_getElem? (i := 3) rfl))) (mvT hZ (hw _ (List.mem_of_getElem? (i := 4) rfl))) (by decide) (backOf (W := 0) (rmmin l Z a0 hw [] (xa &&& (4294967295 : Int64)) (ya &&& (4294967295 : Int64)) h0 n0 Z0) hZ (hw _ (List.mem_of_getElem? (i := 4) rfl)) (hw _ (List.mem_of_getElem? (i := 3) rfl)) (by decide) (by decide)) (g := (mkF m 18 #[.val (.long xa), .second, .val (.long ya), .second, .val (.int mo), .val (.long dd), .second, .val (.long qq), .second, .val (.long (xa &&& (4294967295 : Int64))), .second, .val (.long (ya &&& (4294967295 : Int64))), .second, .unset, .unset, .unset, .unset, .unset, .unset, .unset, .unset, .unset, .unset] [(.long (ya &&& (4294967295 : Int64))), (.long (xa &&& (4294967295 : Int64)))])) rfl (by rw [hml]; rfl) (argsL := [(.long (xa &&& (4294967295 : Int64))), (.long (ya &&& (4294967295 : Int64)))]) (rest := []) (lenOf pd__28JJ_29J rfl) rfl (by show 2 * 0 + _ ≤ _; exact Nat.le_of_eq rfl) (hb hby at_18) (fun _ _ => ⟨rfl, e0, (by decide : 0 + 0 ≤ _), (by decide : 0 + 0 ≤ _)⟩)
  dsimp only [Pt.U, Pt.locs, Pt.cells, Pt.slots] at X2 l2 y2 z2 st2 hQ2
  subst l2 y2 z2
  obtain ⟨rfl, N2q, e2q⟩ := hQ2
  have N2 := Fr.app N0 N2q
  have pre3 : ∀ t, Steps p.tables e below (T2.setTop (mkF m 21 #[.val (.long xa), .second, .val (.long ya), .second, .val (.int mo), .val (.long dd), .second, .val (.long qq), .second, .val (.long (xa &&& (4294967295 : Int64))), .second, .val (.long (ya &&& (4294967295 : Int64))), .second, .unset, .unset, .unset, .unset, .unset, .unset, .unset, .unset, .unset, .unset] [(.long (if (ya &&& (4294967295 : Int64)) < (xa &&& (4294967295 : Int64)) then (ya &&& (4294967295 : Int64)) else (xa &&& (4294967295 : Int64))))])) t → Steps p.tables e below (s₁.setTop (entryFrame m #[(.long xa), (.long ya), (.int mo), (.long dd), (.long qq)] maxLocals)) t := fun t kt => pre1 t (st2 _ kt)
  have pre4 : ∀ t, Steps p.tables e below (T2.setTop (mkF m 27 #[.val (.long xa), .second, .val (.long ya), .second, .val (.int mo), .val (.long dd), .second, .val (.long qq), .second, .val (.long (xa &&& (4294967295 : Int64))), .second, .val (.long (ya &&& (4294967295 : Int64))), .second, .val (.long (if (ya &&& (4294967295 : Int64)) < (xa &&& (4294967295 : Int64)) then (ya &&& (4294967295 : Int64)) else (xa &&& (4294967295 : Int64)))), .second, .unset, .unset, .unset, .unset, .unset, .unset, .unset, .unset] [(.long (ya &&& (4294967295 : Int64))), (.long (xa &&& (4294967295 : Int64)))])) t → Steps p.tables e below (s₁.setTop (entryFrame m #[(.long xa), (.long ya), (.int mo), (.long dd), (.long qq)] maxLocals)) t := fun t kt => pre3 t (by
    refine XS.lstore X2.here hx rfl (hb hby at_21) rfl (l' := #[.val (.long xa), .second, .val (.long ya), .second, .val (.int mo), .val (.long dd), .second, .val (.long qq), .second, .val (.long (xa &&& (4294967295 : Int64))), .second, .val (.long (ya &&& (4294967295 : Int64))), .second, .val (.long (if (ya &&& (4294967295 : Int64)) < (xa &&& (4294967295 : Int64)) then (ya &&& (4294967295 : Int64)) else (xa &&& (4294967295 : Int64)))), .second, .unset, .unset, .unset, .unset, .unset, .unset, .unset, .unset]) rfl ?_
    show Steps p.tables e below (T2.setTop (mkF m 23 #[.val (.long xa), .second, .val (.long ya), .second, .val (.int mo), .val (.long dd), .second, .val (.long qq), .second, .val (.long (xa &&& (4294967295 : Int64))), .second, .val (.long (ya &&& (4294967295 : Int64))), .second, .val (.long (if (ya &&& (4294967295 : Int64)) < (xa &&& (4294967295 : Int64)) then (ya &&& (4294967295 : Int64)) else (xa &&& (4294967295 : Int64)))), .second, .unset, .unset, .unset, .unset, .unset, .unset, .unset, .unset] [])) _
    refine XS.lload X2.here hx rfl (hb hby at_23) rfl ?_
    show Steps p.tables e below (T2.setTop (mkF m 25 #[.val (.long xa), .second, .val (.long ya), .second, .val (.int mo), .val (.long dd), .second, .val (.long qq), .second, .val (.long (xa &&& (4294967295 : Int64))), .second, .val (.long (ya &&& (4294967295 : Int64))), .second, .val (.long (if (ya &&& (4294967295 : Int64)) < (xa &&& (4294967295 : Int64)) then (ya &&& (4294967295 : Int64)) else (xa &&& (4294967295 : Int64)))), .second, .unset, .unset, .unset, .unset, .unset, .unset, .unset, .unset] [(.long (xa &&& (4294967295 : Int64)))])) _
    refine XS.lload X2.here hx rfl (hb hby at_25) rfl ?_
    show Steps p.tables e below (T2.setTop (mkF m 27 #[.val (.long xa), .second, .val (.long ya), .second, .val (.int mo), .val (.long dd), .second, .val (.long qq), .second, .val (.long (xa &&& (4294967295 : Int64))), .second, .val (.long (ya &&& (4294967295 : Int64))), .second, .val (.long (if (ya &&& (4294967295 : Int64)) < (xa &&& (4294967295 : Int64)) then (ya &&& (4294967295 : Int64)) else (xa &&& (4294967295 : Int64)))), .second, .unset, .unset, .unset, .unset, .unset, .unset, .unset, .unset] [(.long (ya &&& (4294967295 : Int64))), (.long (xa &&& (4294967295 : Int64)))])) _
    exact kt)
  obtain ⟨_, _, ⟨T5, L5, k5, n5⟩, -, X5, ⟨Lc5, hQ5, l5, y5, z5⟩, st5⟩ := Jvm.LawKit.callS X2 hx (y := (⟨"java/lang/Math", "max", "(JJ)J"⟩ : MethodName)) hown (mvT hZ (hw _ (List.mem_of_getElem? (i := 5) rfl))) (mvT hZ (hw _ (List.mem_of_getElem? (i := 6) rfl))) (mvT hZ (hw _ (List.mem_of_getElem? (i := 3) rfl))) (mvT hZ (hw _ (List.mem_of_getElem? (i := 7) rfl))) (by decide) (backOf (W := 0) (rmmax l Z a0 hw [] (xa &&& (4294967295 : Int64)) (ya &&& (4294967295 : Int64)) h0 n0 Z0) hZ (hw _ (List.mem_of_getElem? (i := 7) rfl)) (hw _ (List.mem_of_getElem? (i := 3) rfl)) (by decide) (by decide)) (g := (mkF m 27 #[.val (.long xa), .second, .val (.long ya), .second, .val (.int mo), .val (.long dd), .second, .val (.long qq), .second, .val (.long (xa &&& (4294967295 : Int64))), .second, .val (.long (ya &&& (4294967295 : Int64))), .second, .val (.long (if (ya &&& (4294967295 : Int64)) < (xa &&& (4294967295 : Int64)) then (ya &&& (4294967295 : Int64)) else (xa &&& (4294967295 : Int64)))), .second, .unset, .unset, .unset, .unset, .unset, .unset, .unset, .unset] [(.long (ya &&& (4294967295 : Int64))), (.long (xa &&& (4294967295 : Int64)))])) rfl (by rw [hml]; rfl) (argsL := [(.long (xa &&& (4294967295 : Int64))), (.long (ya &&& (4294967295 : Int64)))]) (rest := []) (lenOf pd__28JJ_29J rfl) rfl (by show 2 * 0 + _ ≤ _; exact Nat.le_of_eq rfl) (hb hby at_27) (fun _ _ => ⟨rfl, e2q, (by decide : 0 + 0 ≤ _), (by decide : 0 + 0 ≤ _)⟩)
  dsimp only [Pt.U, Pt.locs, Pt.cells, Pt.slots] at X5 l5 y5 z5 st5 hQ5
  subst l5 y5 z5
  obtain ⟨rfl, N5q, e5q⟩ := hQ5
  have N5 := Fr.app N2 N5q
  have pre6 : ∀ t, Steps p.tables e below (T5.setTop (mkF m 30 #[.val (.long xa), .second, .val (.long ya), .second, .val (.int mo), .val (.long dd), .second, .val (.long qq), .second, .val (.long (xa &&& (4294967295 : Int64))), .second, .val (.long (ya &&& (4294967295 : Int64))), .second, .val (.long (if (ya &&& (4294967295 : Int64)) < (xa &&& (4294967295 : Int64)) then (ya &&& (4294967295 : Int64)) else (xa &&& (4294967295 : Int64)))), .second, .unset, .unset, .unset, .unset, .unset, .unset, .unset, .unset] [(.long (if (xa &&& (4294967295 : Int64)) < (ya &&& (4294967295 : Int64)) then (ya &&& (4294967295 : Int64)) else (xa &&& (4294967295 : Int64))))])) t → Steps p.tables e below (s₁.setTop (entryFrame m #[(.long xa), (.long ya), (.int mo), (.long dd), (.long qq)] maxLocals)) t := fun t kt => pre4 t (st5 _ kt)
  have pre7 : ∀ t, Steps p.tables e below (T5.setTop (mkF m 32 #[.val (.long xa), .second, .val (.long ya), .second, .val (.int mo), .val (.long dd), .second, .val (.long qq), .second, .val (.long (xa &&& (4294967295 : Int64))), .second, .val (.long (ya &&& (4294967295 : Int64))), .second, .val (.long (if (ya &&& (4294967295 : Int64)) < (xa &&& (4294967295 : Int64)) then (ya &&& (4294967295 : Int64)) else (xa &&& (4294967295 : Int64)))), .second, .val (.long (if (xa &&& (4294967295 : Int64)) < (ya &&& (4294967295 : Int64)) then (ya &&& (4294967295 : Int64)) else (xa &&& (4294967295 : Int64)))), .second, .unset, .unset, .unset, .unset, .unset, .unset] [])) t → Steps p.tables e below (s₁.setTop (entryFrame m #[(.long xa), (.long ya), (.int mo), (.long dd), (.long qq)] maxLocals)) t := fun t kt => pre6 t (by
    refine XS.lstore X5.here hx rfl (hb hby at_30) rfl (l' := #[.val (.long xa), .second, .val (.long ya), .second, .val (.int mo), .val (.long dd), .second, .val (.long qq), .second, .val (.long (xa &&& (4294967295 : Int64))), .second, .val (.long (ya &&& (4294967295 : Int64))), .second, .val (.long (if (ya &&& (4294967295 : Int64)) < (xa &&& (4294967295 : Int64)) then (ya &&& (4294967295 : Int64)) else (xa &&& (4294967295 : Int64)))), .second, .val (.long (if (xa &&& (4294967295 : Int64)) < (ya &&& (4294967295 : Int64)) then (ya &&& (4294967295 : Int64)) else (xa &&& (4294967295 : Int64)))), .second, .unset, .unset, .unset, .unset, .unset, .unset]) rfl ?_
    show Steps p.tables e below (T5.setTop (mkF m 32 #[.val (.long xa), .second, .val (.long ya), .second, .val (.int mo), .val (.long dd), .second, .val (.long qq), .second, .val (.long (xa &&& (4294967295 : Int64))), .second, .val (.long (ya &&& (4294967295 : Int64))), .second, .val (.long (if (ya &&& (4294967295 : Int64)) < (xa &&& (4294967295 : Int64)) then (ya &&& (4294967295 : Int64)) else (xa &&& (4294967295 : Int64)))), .second, .val (.long (if (xa &&& (4294967295 : Int64)) < (ya &&& (4294967295 : Int64)) then (ya &&& (4294967295 : Int64)) else (xa &&& (4294967295 : Int64)))), .second, .unset, .unset, .unset, .unset, .unset, .unset] [])) _
    exact kt)
  obtain ⟨lo, hlo⟩ : ∃ z, z = (if (ya &&& (4294967295 : Int64)) < (xa &&& (4294967295 : Int64)) then (ya &&& (4294967295 : Int64)) else (xa &&& (4294967295 : Int64))) := ⟨_, rfl⟩
  have pre8 : ∀ t, Steps p.tables e below (T5.setTop (mkF m 32 #[.val (.long xa), .second, .val (.long ya), .second, .val (.int mo), .val (.long dd), .second, .val (.long qq), .second, .val (.long (xa &&& (4294967295 : Int64))), .second, .val (.long (ya &&& (4294967295 : Int64))), .second, .val (.long lo), .second, .val (.long (if (xa &&& (4294967295 : Int64)) < (ya &&& (4294967295 : Int64)) then (ya &&& (4294967295 : Int64)) else (xa &&& (4294967295 : Int64)))), .second, .unset, .unset, .unset, .unset, .unset, .unset] [])) t → Steps p.tables e below (s₁.setTop (entryFrame m #[(.long xa), (.long ya), (.int mo), (.long dd), (.long qq)] maxLocals)) t := by
    rw [hlo]; exact pre7
  obtain ⟨hi, hhi⟩ : ∃ z, z = (if (xa &&& (4294967295 : Int64)) < (ya &&& (4294967295 : Int64)) then (ya &&& (4294967295 : Int64)) else (xa &&& (4294967295 : Int64))) := ⟨_, rfl⟩
  have pre9 : ∀ t, Steps p.tables e below (T5.setTop (mkF m 32 #[.val (.long xa), .second, .val (.long ya), .second, .val (.int mo), .val (.long dd), .second, .val (.long qq), .second, .val (.long (xa &&& (4294967295 : Int64))), .second, .val (.long (ya &&& (4294967295 : Int64))), .second, .val (.long lo), .second, .val (.long hi), .second, .unset, .unset, .unset, .unset, .unset, .unset] [])) t → Steps p.tables e below (s₁.setTop (entryFrame m #[(.long xa), (.long ya), (.int mo), (.long dd), (.long qq)] maxLocals)) t := by
    rw [hhi]; exact pre8
  obtain ⟨b0, b1, b2⟩ := own_lohi xa ya lo hi hlo hhi
  have e_mx : (4294967295 : Int64).toInt = 4294967295 := rfl
  have e_0 : (0 : Int64).toInt = 0 := rfl
  have pre10 : ∀ t, Steps p.tables e below (T5.setTop (mkF m 37 #[.val (.long xa), .second, .val (.long ya), .second, .val (.int mo), .val (.long dd), .second, .val (.long qq), .second, .val (.long (xa &&& (4294967295 : Int64))), .second, .val (.long (ya &&& (4294967295 : Int64))), .second, .val (.long lo), .second, .val (.long hi), .second, .unset, .unset, .unset, .unset, .unset, .unset] [(.int (lcmpW lo hi))])) t → Steps p.tables e below (s₁.setTop (entryFrame m #[(.long xa), (.long ya), (.int mo), (.long dd), (.long qq)] maxLocals)) t := fun t kt => pre9 t (by
    refine XS.lload X5.here hx rfl (hb hby at_32) rfl ?_
    show Steps p.tables e below (T5.setTop (mkF m 34 #[.val (.long xa), .second, .val (.long ya), .second, .val (.int mo), .val (.long dd), .second, .val (.long qq), .second, .val (.long (xa &&& (4294967295 : Int64))), .second, .val (.long (ya &&& (4294967295 : Int64))), .second, .val (.long lo), .second, .val (.long hi), .second, .unset, .unset, .unset, .unset, .unset, .unset] [(.long lo)])) _
    refine XS.lload X5.here hx rfl (hb hby at_34) rfl ?_
    show Steps p.tables e below (T5.setTop (mkF m 36 #[.val (.long xa), .second, .val (.long ya), .second, .val (.int mo), .val (.long dd), .second, .val (.long qq), .second, .val (.long (xa &&& (4294967295 : Int64))), .second, .val (.long (ya &&& (4294967295 : Int64))), .second, .val (.long lo), .second, .val (.long hi), .second, .unset, .unset, .unset, .unset, .unset, .unset] [(.long hi), (.long lo)])) _
    refine XS.lcmp X5.here hx rfl (hb hby at_36) rfl ?_
    show Steps p.tables e below (T5.setTop (mkF m 37 #[.val (.long xa), .second, .val (.long ya), .second, .val (.int mo), .val (.long dd), .second, .val (.long qq), .second, .val (.long (xa &&& (4294967295 : Int64))), .second, .val (.long (ya &&& (4294967295 : Int64))), .second, .val (.long lo), .second, .val (.long hi), .second, .unset, .unset, .unset, .unset, .unset, .unset] [(.int (lcmpW lo hi))])) _
    exact kt)
  by_cases c37_1 : lo = hi
  · have pre11 : ∀ t, Steps p.tables e below (T5.setTop (mkF m 41 #[.val (.long xa), .second, .val (.long ya), .second, .val (.int mo), .val (.long dd), .second, .val (.long qq), .second, .val (.long (xa &&& (4294967295 : Int64))), .second, .val (.long (ya &&& (4294967295 : Int64))), .second, .val (.long lo), .second, .val (.long hi), .second, .unset, .unset, .unset, .unset, .unset, .unset] [(.int (1 : Int32))])) t → Steps p.tables e below (s₁.setTop (entryFrame m #[(.long xa), (.long ya), (.int mo), (.long dd), (.long qq)] maxLocals)) t := fun t kt => pre10 t (by
      refine XS.ifNo X5.here hx rfl (hb hby at_37) rfl ((if0 _ _).trans (teq ((lw_eq _ _).mpr c37_1)).2) ?_
      show Steps p.tables e below (T5.setTop (mkF m 40 #[.val (.long xa), .second, .val (.long ya), .second, .val (.int mo), .val (.long dd), .second, .val (.long qq), .second, .val (.long (xa &&& (4294967295 : Int64))), .second, .val (.long (ya &&& (4294967295 : Int64))), .second, .val (.long lo), .second, .val (.long hi), .second, .unset, .unset, .unset, .unset, .unset, .unset] [])) _
      refine XS.iconst X5.here hx rfl (hb hby at_40) ?_
      show Steps p.tables e below (T5.setTop (mkF m 41 #[.val (.long xa), .second, .val (.long ya), .second, .val (.int mo), .val (.long dd), .second, .val (.long qq), .second, .val (.long (xa &&& (4294967295 : Int64))), .second, .val (.long (ya &&& (4294967295 : Int64))), .second, .val (.long lo), .second, .val (.long hi), .second, .unset, .unset, .unset, .unset, .unset, .unset] [(.int (1 : Int32))])) _
      exact kt)
    obtain ⟨fs, hr, hrun, hended, hW, hsame⟩ := X5.leave (v := (some (.int (1 : Int32)))) (fun h => by rw [Bd.returns] at h; cases h)
    refine ⟨_, _, pre11 _ ?_, hrun, hended, _, _, rfl, ?_, ⟨_, rfl⟩, hW, hsame.mono (by decide) (by decide)⟩
    · exact retN X5 hx (t := .boolean) Bd.returns (by simp) (hb hby at_41) hr
    · show Q0 Z  h0 n0 _ T5.heap _
      rw [e5q]
      exact ⟨rfl, N5⟩
  · have pre13 : ∀ t, Steps p.tables e below (T5.setTop (mkF m 42 #[.val (.long xa), .second, .val (.long ya), .second, .val (.int mo), .val (.long dd), .second, .val (.long qq), .second, .val (.long (xa &&& (4294967295 : Int64))), .second, .val (.long (ya &&& (4294967295 : Int64))), .second, .val (.long lo), .second, .val (.long hi), .second, .unset, .unset, .unset, .unset, .unset, .unset] [])) t → Steps p.tables e below (s₁.setTop (entryFrame m #[(.long xa), (.long ya), (.int mo), (.long dd), (.long qq)] maxLocals)) t := fun t kt => pre10 t (by
      refine XS.ifYes X5.here hx rfl (pc0 := 37) (pc' := 42) rfl (hb hby at_37) rfl ((if0 _ _).trans (feq (mt (lw_eq _ _).mp c37_1)).2) (by decide) (by decide) ?_
      show Steps p.tables e below (T5.setTop (mkF m 42 #[.val (.long xa), .second, .val (.long ya), .second, .val (.int mo), .val (.long dd), .second, .val (.long qq), .second, .val (.long (xa &&& (4294967295 : Int64))), .second, .val (.long (ya &&& (4294967295 : Int64))), .second, .val (.long lo), .second, .val (.long hi), .second, .unset, .unset, .unset, .unset, .unset, .unset] [])) _
      exact kt)
    have q1 : ¬ lo < (0 : Int64) := by rw [Int64.lt_iff_toInt_lt]; omega
    have q2 : ¬ (4294967295 : Int64) < hi := by rw [Int64.lt_iff_toInt_lt]; omega
    have q3 : lo < hi := by
      have i_c37_1 := mt Int64.toInt_inj.mp c37_1
      rw [Int64.lt_iff_toInt_lt]; omega
    obtain ⟨T14, h14, X14, e14, E14, A14, D14, -, st14⟩ := newO X5 hx hZ hown (hw _ (List.mem_of_getElem? (i := 8) rfl)) (hw _ (List.mem_of_getElem? (i := 9) rfl)) (hw _ (List.mem_of_getElem? (i := 10) rfl)) e5q (g := (mkF m 42 #[.val (.long xa), .second, .val (.long ya), .second, .val (.int mo), .val (.long dd), .second, .val (.long qq), .second, .val (.long (xa &&& (4294967295 : Int64))), .second, .val (.long (ya &&& (4294967295 : Int64))), .second, .val (.long lo), .second, .val (.long hi), .second, .unset, .unset, .unset, .unset, .unset, .unset] [])) rfl (hb hby at_42) (by decide) (by decide)
    obtain ⟨b14, g14⟩ : ∃ z, z = h0.size := ⟨_, rfl⟩
    rw [← g14] at A14 D14 st14
    have gz15 : n0 ≤ b14 := Nat.le_trans Z0 (Nat.le_of_eq g14.symm)
    have Zf16 : n0 ≤ h14.size := Nat.le_trans Z0 E14.1
    have F14_lower : Fld Z h14 b14 "com/example/calm_balancer/calmbalancer/BundleRange" "lower" "J" (.long (0 : Int64)) := D14 (Or.inr (hw _ (List.mem_of_getElem? (i := 19) rfl))) (ty := .long) (by decide)
    have F14_upper : Fld Z h14 b14 "com/example/calm_balancer/calmbalancer/BundleRange" "upper" "J" (.long (0 : Int64)) := D14 (Or.inr (hw _ (List.mem_of_getElem? (i := 21) rfl))) (ty := .long) (by decide)
    have pre17 : ∀ t, Steps p.tables e below (T14.setTop (mkF m 45 #[.val (.long xa), .second, .val (.long ya), .second, .val (.int mo), .val (.long dd), .second, .val (.long qq), .second, .val (.long (xa &&& (4294967295 : Int64))), .second, .val (.long (ya &&& (4294967295 : Int64))), .second, .val (.long lo), .second, .val (.long hi), .second, .unset, .unset, .unset, .unset, .unset, .unset] [(.ref b14)])) t → Steps p.tables e below (s₁.setTop (entryFrame m #[(.long xa), (.long ya), (.int mo), (.long dd), (.long qq)] maxLocals)) t := fun t kt => pre13 t (st14 _ kt)
    have pre18 : ∀ t, Steps p.tables e below (T14.setTop (mkF m 50 #[.val (.long xa), .second, .val (.long ya), .second, .val (.int mo), .val (.long dd), .second, .val (.long qq), .second, .val (.long (xa &&& (4294967295 : Int64))), .second, .val (.long (ya &&& (4294967295 : Int64))), .second, .val (.long lo), .second, .val (.long hi), .second, .unset, .unset, .unset, .unset, .unset, .unset] [(.long hi), (.long lo), (.ref b14), (.ref b14)])) t → Steps p.tables e below (s₁.setTop (entryFrame m #[(.long xa), (.long ya), (.int mo), (.long dd), (.long qq)] maxLocals)) t := fun t kt => pre17 t (by
      refine XS.dup X14.here hx rfl (hb hby at_45) rfl rfl ?_
      show Steps p.tables e below (T14.setTop (mkF m 46 #[.val (.long xa), .second, .val (.long ya), .second, .val (.int mo), .val (.long dd), .second, .val (.long qq), .second, .val (.long (xa &&& (4294967295 : Int64))), .second, .val (.long (ya &&& (4294967295 : Int64))), .second, .val (.long lo), .second, .val (.long hi), .second, .unset, .unset, .unset, .unset, .unset, .unset] [(.ref b14), (.ref b14)])) _
      refine XS.lload X14.here hx rfl (hb hby at_46) rfl ?_
      show Steps p.tables e below (T14.setTop (mkF m 48 #[.val (.long xa), .second, .val (.long ya), .second, .val (.int mo), .val (.long dd), .second, .val (.long qq), .second, .val (.long (xa &&& (4294967295 : Int64))), .second, .val (.long (ya &&& (4294967295 : Int64))), .second, .val (.long lo), .second, .val (.long hi), .second, .unset, .unset, .unset, .unset, .unset, .unset] [(.long lo), (.ref b14), (.ref b14)])) _
      refine XS.lload X14.here hx rfl (hb hby at_48) rfl ?_
      show Steps p.tables e below (T14.setTop (mkF m 50 #[.val (.long xa), .second, .val (.long ya), .second, .val (.int mo), .val (.long dd), .second, .val (.long qq), .second, .val (.long (xa &&& (4294967295 : Int64))), .second, .val (.long (ya &&& (4294967295 : Int64))), .second, .val (.long lo), .second, .val (.long hi), .second, .unset, .unset, .unset, .unset, .unset, .unset] [(.long hi), (.long lo), (.ref b14), (.ref b14)])) _
      exact kt)
    obtain ⟨_, _, ⟨T19, L19, k19, n19⟩, -, X19, ⟨Lc19, hQ19, l19, y19, z19⟩, st19⟩ := X14.specialBack hx (y := (⟨"com/example/calm_balancer/calmbalancer/BundleRange", "<init>", "(JJ)V"⟩ : MethodName)) rfl hown (mvT hZ (hw _ (List.mem_of_getElem? (i := 11) rfl))) (mvT hZ (hw _ (List.mem_of_getElem? (i := 12) rfl))) (mvT hZ (hw _ (List.mem_of_getElem? (i := 13) rfl))) (by decide) (backOf (W := 1) (rmB l Z a0 hw [] b14 lo hi _ _ h14 n0 Zf16 A14 gz15 F14_lower F14_upper q1 q2 q3) hZ (hw _ (List.mem_of_getElem? (i := 13) rfl)) (hw _ (List.mem_of_getElem? (i := 10) rfl)) (by decide) (by decide)) (g := (mkF m 50 #[.val (.long xa), .second, .val (.long ya), .second, .val (.int mo), .val (.long dd), .second, .val (.long qq), .second, .val (.long (xa &&& (4294967295 : Int64))), .second, .val (.long (ya &&& (4294967295 : Int64))), .second, .val (.long lo), .second, .val (.long hi), .second, .unset, .unset, .unset, .unset, .unset, .unset] [(.long hi), (.long lo), (.ref b14), (.ref b14)])) rfl (by rw [hml]; rfl) (Steps.refl _) (a := b14) (argsL := [(.long lo), (.long hi)]) (rest := [(.ref b14)]) (lenOf pd__28JJ_29V rfl) rfl (by show 2 * 0 + _ ≤ _; exact Nat.le_of_eq rfl) (hb hby at_50) (fun _ _ => ⟨rfl, e14, (by decide : 1 + 0 ≤ _), (by decide : 2 + 0 ≤ _)⟩)
    dsimp only [Pt.U, Pt.locs, Pt.cells, Pt.slots] at X19 l19 y19 z19 st19 hQ19
    subst l19 y19 z19
    obtain ⟨rfl, N19q, K19, E19x, Fl19, Fu19⟩ := hQ19
    have N19 := Fr.app N5 N19q
    have f20 := (A14).keep K19
    have Zf21 : n0 ≤ T19.heap.size := Nat.le_trans Zf16 (K19).1
    have pre22 : ∀ t, Steps p.tables e below (T19.setTop (mkF m 53 #[.val (.long xa), .second, .val (.long ya), .second, .val (.int mo), .val (.long dd), .second, .val (.long qq), .second, .val (.long (xa &&& (4294967295 : Int64))), .second, .val (.long (ya &&& (4294967295 : Int64))), .second, .val (.long lo), .second, .val (.long hi), .second, .unset, .unset, .unset, .unset, .unset, .unset] [(.ref b14)])) t → Steps p.tables e below (s₁.setTop (entryFrame m #[(.long xa), (.long ya), (.int mo), (.long dd), (.long qq)] maxLocals)) t := fun t kt => pre18 t (st19.trans kt)
    have pre23 : ∀ t, Steps p.tables e below (T19.setTop (mkF m 63 #[.val (.long xa), .second, .val (.long ya), .second, .val (.int mo), .val (.long dd), .second, .val (.long qq), .second, .val (.long (xa &&& (4294967295 : Int64))), .second, .val (.long (ya &&& (4294967295 : Int64))), .second, .val (.long lo), .second, .val (.long hi), .second, .val (.ref b14), .val (.int (mo &&& (3 : Int32))), .unset, .unset, .unset, .unset] [(.int (mo &&& (3 : Int32)))])) t → Steps p.tables e below (s₁.setTop (entryFrame m #[(.long xa), (.long ya), (.int mo), (.long dd), (.long qq)] maxLocals)) t := fun t kt => pre22 t (by
      refine XS.astore X19.here hx rfl (hb hby at_53) rfl rfl (l' := #[.val (.long xa), .second, .val (.long ya), .second, .val (.int mo), .val (.long dd), .second, .val (.long qq), .second, .val (.long (xa &&& (4294967295 : Int64))), .second, .val (.long (ya &&& (4294967295 : Int64))), .second, .val (.long lo), .second, .val (.long hi), .second, .val (.ref b14), .unset, .unset, .unset, .unset, .unset]) rfl ?_
      show Steps p.tables e below (T19.setTop (mkF m 55 #[.val (.long xa), .second, .val (.long ya), .second, .val (.int mo), .val (.long dd), .second, .val (.long qq), .second, .val (.long (xa &&& (4294967295 : Int64))), .second, .val (.long (ya &&& (4294967295 : Int64))), .second, .val (.long lo), .second, .val (.long hi), .second, .val (.ref b14), .unset, .unset, .unset, .unset, .unset] [])) _
      refine XS.iload X19.here hx rfl (hb hby at_55) rfl ?_
      show Steps p.tables e below (T19.setTop (mkF m 57 #[.val (.long xa), .second, .val (.long ya), .second, .val (.int mo), .val (.long dd), .second, .val (.long qq), .second, .val (.long (xa &&& (4294967295 : Int64))), .second, .val (.long (ya &&& (4294967295 : Int64))), .second, .val (.long lo), .second, .val (.long hi), .second, .val (.ref b14), .unset, .unset, .unset, .unset, .unset] [(.int mo)])) _
      refine XS.iconst X19.here hx rfl (hb hby at_57) ?_
      show Steps p.tables e below (T19.setTop (mkF m 58 #[.val (.long xa), .second, .val (.long ya), .second, .val (.int mo), .val (.long dd), .second, .val (.long qq), .second, .val (.long (xa &&& (4294967295 : Int64))), .second, .val (.long (ya &&& (4294967295 : Int64))), .second, .val (.long lo), .second, .val (.long hi), .second, .val (.ref b14), .unset, .unset, .unset, .unset, .unset] [(.int (3 : Int32)), (.int mo)])) _
      refine XS.iand X19.here hx rfl (hb hby at_58) rfl ?_
      show Steps p.tables e below (T19.setTop (mkF m 59 #[.val (.long xa), .second, .val (.long ya), .second, .val (.int mo), .val (.long dd), .second, .val (.long qq), .second, .val (.long (xa &&& (4294967295 : Int64))), .second, .val (.long (ya &&& (4294967295 : Int64))), .second, .val (.long lo), .second, .val (.long hi), .second, .val (.ref b14), .unset, .unset, .unset, .unset, .unset] [(.int (mo &&& (3 : Int32)))])) _
      refine XS.istore X19.here hx rfl (hb hby at_59) rfl (l' := #[.val (.long xa), .second, .val (.long ya), .second, .val (.int mo), .val (.long dd), .second, .val (.long qq), .second, .val (.long (xa &&& (4294967295 : Int64))), .second, .val (.long (ya &&& (4294967295 : Int64))), .second, .val (.long lo), .second, .val (.long hi), .second, .val (.ref b14), .val (.int (mo &&& (3 : Int32))), .unset, .unset, .unset, .unset]) rfl ?_
      show Steps p.tables e below (T19.setTop (mkF m 61 #[.val (.long xa), .second, .val (.long ya), .second, .val (.int mo), .val (.long dd), .second, .val (.long qq), .second, .val (.long (xa &&& (4294967295 : Int64))), .second, .val (.long (ya &&& (4294967295 : Int64))), .second, .val (.long lo), .second, .val (.long hi), .second, .val (.ref b14), .val (.int (mo &&& (3 : Int32))), .unset, .unset, .unset, .unset] [])) _
      refine XS.iload X19.here hx rfl (hb hby at_61) rfl ?_
      show Steps p.tables e below (T19.setTop (mkF m 63 #[.val (.long xa), .second, .val (.long ya), .second, .val (.int mo), .val (.long dd), .second, .val (.long qq), .second, .val (.long (xa &&& (4294967295 : Int64))), .second, .val (.long (ya &&& (4294967295 : Int64))), .second, .val (.long lo), .second, .val (.long hi), .second, .val (.ref b14), .val (.int (mo &&& (3 : Int32))), .unset, .unset, .unset, .unset] [(.int (mo &&& (3 : Int32)))])) _
      exact kt)
    have pre24 : ∀ t, Steps p.tables e below (T19.setTop (mkF m 127 #[.val (.long xa), .second, .val (.long ya), .second, .val (.int mo), .val (.long dd), .second, .val (.long qq), .second, .val (.long (xa &&& (4294967295 : Int64))), .second, .val (.long (ya &&& (4294967295 : Int64))), .second, .val (.long lo), .second, .val (.long hi), .second, .val (.ref b14), .val (.int (mo &&& (3 : Int32))), .val (.long (if (mo &&& (3 : Int32)) = (0 : Int32) then qq else (if (mo &&& (3 : Int32)) = (1 : Int32) then (lo + ((dd &&& (3 : Int64)) - (1 : Int64))) else (if (mo &&& (3 : Int32)) = (2 : Int32) then (hi + ((dd &&& (3 : Int64)) - (2 : Int64))) else (qq &&& (4294967295 : Int64)))))), .second, .unset, .unset] [])) t → Steps p.tables e below (s₁.setTop (entryFrame m #[(.long xa), (.long ya), (.int mo), (.long dd), (.long qq)] maxLocals)) t := fun t kt => pre23 t (by
      by_cases c63_2 : (mo &&& (3 : Int32)) = (0 : Int32)
      · rw [if_pos c63_2] at kt
        refine XS.ifNo X19.here hx rfl (hb hby at_63) rfl ((if0 _ _).trans (teq c63_2).2) ?_
        show Steps p.tables e below (T19.setTop (mkF m 66 #[.val (.long xa), .second, .val (.long ya), .second, .val (.int mo), .val (.long dd), .second, .val (.long qq), .second, .val (.long (xa &&& (4294967295 : Int64))), .second, .val (.long (ya &&& (4294967295 : Int64))), .second, .val (.long lo), .second, .val (.long hi), .second, .val (.ref b14), .val (.int (mo &&& (3 : Int32))), .unset, .unset, .unset, .unset] [])) _
        refine XS.lload X19.here hx rfl (hb hby at_66) rfl ?_
        show Steps p.tables e below (T19.setTop (mkF m 68 #[.val (.long xa), .second, .val (.long ya), .second, .val (.int mo), .val (.long dd), .second, .val (.long qq), .second, .val (.long (xa &&& (4294967295 : Int64))), .second, .val (.long (ya &&& (4294967295 : Int64))), .second, .val (.long lo), .second, .val (.long hi), .second, .val (.ref b14), .val (.int (mo &&& (3 : Int32))), .unset, .unset, .unset, .unset] [(.long qq)])) _
        refine XS.lstore X19.here hx rfl (hb hby at_68) rfl (l' := #[.val (.long xa), .second, .val (.long ya), .second, .val (.int mo), .val (.long dd), .second, .val (.long qq), .second, .val (.long (xa &&& (4294967295 : Int64))), .second, .val (.long (ya &&& (4294967295 : Int64))), .second, .val (.long lo), .second, .val (.long hi), .second, .val (.ref b14), .val (.int (mo &&& (3 : Int32))), .val (.long qq), .second, .unset, .unset]) rfl ?_
        show Steps p.tables e below (T19.setTop (mkF m 70 #[.val (.long xa), .second, .val (.long ya), .second, .val (.int mo), .val (.long dd), .second, .val (.long qq), .second, .val (.long (xa &&& (4294967295 : Int64))), .second, .val (.long (ya &&& (4294967295 : Int64))), .second, .val (.long lo), .second, .val (.long hi), .second, .val (.ref b14), .val (.int (mo &&& (3 : Int32))), .val (.long qq), .second, .unset, .unset] [])) _
        refine XS.goto X19.here hx rfl (pc0 := 70) (pc' := 127) rfl (hb hby at_70) (by decide) (by decide) ?_
        show Steps p.tables e below (T19.setTop (mkF m 127 #[.val (.long xa), .second, .val (.long ya), .second, .val (.int mo), .val (.long dd), .second, .val (.long qq), .second, .val (.long (xa &&& (4294967295 : Int64))), .second, .val (.long (ya &&& (4294967295 : Int64))), .second, .val (.long lo), .second, .val (.long hi), .second, .val (.ref b14), .val (.int (mo &&& (3 : Int32))), .val (.long qq), .second, .unset, .unset] [])) _
        exact kt
      · rw [if_neg c63_2] at kt
        refine XS.ifYes X19.here hx rfl (pc0 := 63) (pc' := 73) rfl (hb hby at_63) rfl ((if0 _ _).trans (feq c63_2).2) (by decide) (by decide) ?_
        show Steps p.tables e below (T19.setTop (mkF m 73 #[.val (.long xa), .second, .val (.long ya), .second, .val (.int mo), .val (.long dd), .second, .val (.long qq), .second, .val (.long (xa &&& (4294967295 : Int64))), .second, .val (.long (ya &&& (4294967295 : Int64))), .second, .val (.long lo), .second, .val (.long hi), .second, .val (.ref b14), .val (.int (mo &&& (3 : Int32))), .unset, .unset, .unset, .unset] [])) _
        refine XS.iload X19.here hx rfl (hb hby at_73) rfl ?_
        show Steps p.tables e below (T19.setTop (mkF m 75 #[.val (.long xa), .second, .val (.long ya), .second, .val (.int mo), .val (.long dd), .second, .val (.long qq), .second, .val (.long (xa &&& (4294967295 : Int64))), .second, .val (.long (ya &&& (4294967295 : Int64))), .second, .val (.long lo), .second, .val (.long hi), .second, .val (.ref b14), .val (.int (mo &&& (3 : Int32))), .unset, .unset, .unset, .unset] [(.int (mo &&& (3 : Int32)))])) _
        refine XS.iconst X19.here hx rfl (hb hby at_75) ?_
        show Steps p.tables e below (T19.setTop (mkF m 76 #[.val (.long xa), .second, .val (.long ya), .second, .val (.int mo), .val (.long dd), .second, .val (.long qq), .second, .val (.long (xa &&& (4294967295 : Int64))), .second, .val (.long (ya &&& (4294967295 : Int64))), .second, .val (.long lo), .second, .val (.long hi), .second, .val (.ref b14), .val (.int (mo &&& (3 : Int32))), .unset, .unset, .unset, .unset] [(.int (1 : Int32)), (.int (mo &&& (3 : Int32)))])) _
        by_cases c76_3 : (mo &&& (3 : Int32)) = (1 : Int32)
        · rw [if_pos c76_3] at kt
          refine XS.icmpNo X19.here hx rfl (hb hby at_76) rfl (teq c76_3).2 ?_
          show Steps p.tables e below (T19.setTop (mkF m 79 #[.val (.long xa), .second, .val (.long ya), .second, .val (.int mo), .val (.long dd), .second, .val (.long qq), .second, .val (.long (xa &&& (4294967295 : Int64))), .second, .val (.long (ya &&& (4294967295 : Int64))), .second, .val (.long lo), .second, .val (.long hi), .second, .val (.ref b14), .val (.int (mo &&& (3 : Int32))), .unset, .unset, .unset, .unset] [])) _
          refine XS.lload X19.here hx rfl (hb hby at_79) rfl ?_
          show Steps p.tables e below (T19.setTop (mkF m 81 #[.val (.long xa), .second, .val (.long ya), .second, .val (.int mo), .val (.long dd), .second, .val (.long qq), .second, .val (.long (xa &&& (4294967295 : Int64))), .second, .val (.long (ya &&& (4294967295 : Int64))), .second, .val (.long lo), .second, .val (.long hi), .second, .val (.ref b14), .val (.int (mo &&& (3 : Int32))), .unset, .unset, .unset, .unset] [(.long lo)])) _
          refine XS.lload X19.here hx rfl (hb hby at_81) rfl ?_
          show Steps p.tables e below (T19.setTop (mkF m 83 #[.val (.long xa), .second, .val (.long ya), .second, .val (.int mo), .val (.long dd), .second, .val (.long qq), .second, .val (.long (xa &&& (4294967295 : Int64))), .second, .val (.long (ya &&& (4294967295 : Int64))), .second, .val (.long lo), .second, .val (.long hi), .second, .val (.ref b14), .val (.int (mo &&& (3 : Int32))), .unset, .unset, .unset, .unset] [(.long dd), (.long lo)])) _
          refine X19.ldc2Long hx hown (mvT hZ (hw _ (List.mem_of_getElem? (i := 35) rfl))) (g := (mkF m 83 #[.val (.long xa), .second, .val (.long ya), .second, .val (.int mo), .val (.long dd), .second, .val (.long qq), .second, .val (.long (xa &&& (4294967295 : Int64))), .second, .val (.long (ya &&& (4294967295 : Int64))), .second, .val (.long lo), .second, .val (.long hi), .second, .val (.ref b14), .val (.int (mo &&& (3 : Int32))), .unset, .unset, .unset, .unset] [(.long dd), (.long lo)])) rfl (hb hby at_83) _ ?_
          show Steps p.tables e below (T19.setTop (mkF m 86 #[.val (.long xa), .second, .val (.long ya), .second, .val (.int mo), .val (.long dd), .second, .val (.long qq), .second, .val (.long (xa &&& (4294967295 : Int64))), .second, .val (.long (ya &&& (4294967295 : Int64))), .second, .val (.long lo), .second, .val (.long hi), .second, .val (.ref b14), .val (.int (mo &&& (3 : Int32))), .unset, .unset, .unset, .unset] [(.long (3 : Int64)), (.long dd), (.long lo)])) _
          refine XS.land X19.here hx rfl (hb hby at_86) rfl ?_
          show Steps p.tables e below (T19.setTop (mkF m 87 #[.val (.long xa), .second, .val (.long ya), .second, .val (.int mo), .val (.long dd), .second, .val (.long qq), .second, .val (.long (xa &&& (4294967295 : Int64))), .second, .val (.long (ya &&& (4294967295 : Int64))), .second, .val (.long lo), .second, .val (.long hi), .second, .val (.ref b14), .val (.int (mo &&& (3 : Int32))), .unset, .unset, .unset, .unset] [(.long (dd &&& (3 : Int64))), (.long lo)])) _
          refine XS.lconst X19.here hx rfl (hb hby at_87) ?_
          show Steps p.tables e below (T19.setTop (mkF m 88 #[.val (.long xa), .second, .val (.long ya), .second, .val (.int mo), .val (.long dd), .second, .val (.long qq), .second, .val (.long (xa &&& (4294967295 : Int64))), .second, .val (.long (ya &&& (4294967295 : Int64))), .second, .val (.long lo), .second, .val (.long hi), .second, .val (.ref b14), .val (.int (mo &&& (3 : Int32))), .unset, .unset, .unset, .unset] [(.long (1 : Int64)), (.long (dd &&& (3 : Int64))), (.long lo)])) _
          refine XS.lsub X19.here hx rfl (hb hby at_88) rfl ?_
          show Steps p.tables e below (T19.setTop (mkF m 89 #[.val (.long xa), .second, .val (.long ya), .second, .val (.int mo), .val (.long dd), .second, .val (.long qq), .second, .val (.long (xa &&& (4294967295 : Int64))), .second, .val (.long (ya &&& (4294967295 : Int64))), .second, .val (.long lo), .second, .val (.long hi), .second, .val (.ref b14), .val (.int (mo &&& (3 : Int32))), .unset, .unset, .unset, .unset] [(.long ((dd &&& (3 : Int64)) - (1 : Int64))), (.long lo)])) _
          refine XS.ladd X19.here hx rfl (hb hby at_89) rfl ?_
          show Steps p.tables e below (T19.setTop (mkF m 90 #[.val (.long xa), .second, .val (.long ya), .second, .val (.int mo), .val (.long dd), .second, .val (.long qq), .second, .val (.long (xa &&& (4294967295 : Int64))), .second, .val (.long (ya &&& (4294967295 : Int64))), .second, .val (.long lo), .second, .val (.long hi), .second, .val (.ref b14), .val (.int (mo &&& (3 : Int32))), .unset, .unset, .unset, .unset] [(.long (lo + ((dd &&& (3 : Int64)) - (1 : Int64))))])) _
          refine XS.lstore X19.here hx rfl (hb hby at_90) rfl (l' := #[.val (.long xa), .second, .val (.long ya), .second, .val (.int mo), .val (.long dd), .second, .val (.long qq), .second, .val (.long (xa &&& (4294967295 : Int64))), .second, .val (.long (ya &&& (4294967295 : Int64))), .second, .val (.long lo), .second, .val (.long hi), .second, .val (.ref b14), .val (.int (mo &&& (3 : Int32))), .val (.long (lo + ((dd &&& (3 : Int64)) - (1 : Int64)))), .second, .unset, .unset]) rfl ?_
          show Steps p.tables e below (T19.setTop (mkF m 92 #[.val (.long xa), .second, .val (.long ya), .second, .val (.int mo), .val (.long dd), .second, .val (.long qq), .second, .val (.long (xa &&& (4294967295 : Int64))), .second, .val (.long (ya &&& (4294967295 : Int64))), .second, .val (.long lo), .second, .val (.long hi), .second, .val (.ref b14), .val (.int (mo &&& (3 : Int32))), .val (.long (lo + ((dd &&& (3 : Int64)) - (1 : Int64)))), .second, .unset, .unset] [])) _
          refine XS.goto X19.here hx rfl (pc0 := 92) (pc' := 127) rfl (hb hby at_92) (by decide) (by decide) ?_
          show Steps p.tables e below (T19.setTop (mkF m 127 #[.val (.long xa), .second, .val (.long ya), .second, .val (.int mo), .val (.long dd), .second, .val (.long qq), .second, .val (.long (xa &&& (4294967295 : Int64))), .second, .val (.long (ya &&& (4294967295 : Int64))), .second, .val (.long lo), .second, .val (.long hi), .second, .val (.ref b14), .val (.int (mo &&& (3 : Int32))), .val (.long (lo + ((dd &&& (3 : Int64)) - (1 : Int64)))), .second, .unset, .unset] [])) _
          exact kt
        · rw [if_neg c76_3] at kt
          refine XS.icmpYes X19.here hx rfl (pc0 := 76) (pc' := 95) rfl (hb hby at_76) rfl (feq c76_3).2 (by decide) (by decide) ?_
          show Steps p.tables e below (T19.setTop (mkF m 95 #[.val (.long xa), .second, .val (.long ya), .second, .val (.int mo), .val (.long dd), .second, .val (.long qq), .second, .val (.long (xa &&& (4294967295 : Int64))), .second, .val (.long (ya &&& (4294967295 : Int64))), .second, .val (.long lo), .second, .val (.long hi), .second, .val (.ref b14), .val (.int (mo &&& (3 : Int32))), .unset, .unset, .unset, .unset] [])) _
          refine XS.iload X19.here hx rfl (hb hby at_95) rfl ?_
          show Steps p.tables e below (T19.setTop (mkF m 97 #[.val (.long xa), .second, .val (.long ya), .second, .val (.int mo), .val (.long dd), .second, .val (.long qq), .second, .val (.long (xa &&& (4294967295 : Int64))), .second, .val (.long (ya &&& (4294967295 : Int64))), .second, .val (.long lo), .second, .val (.long hi), .second, .val (.ref b14), .val (.int (mo &&& (3 : Int32))), .unset, .unset, .unset, .unset] [(.int (mo &&& (3 : Int32)))])) _
          refine XS.iconst X19.here hx rfl (hb hby at_97) ?_
          show Steps p.tables e below (T19.setTop (mkF m 98 #[.val (.long xa), .second, .val (.long ya), .second, .val (.int mo), .val (.long dd), .second, .val (.long qq), .second, .val (.long (xa &&& (4294967295 : Int64))), .second, .val (.long (ya &&& (4294967295 : Int64))), .second, .val (.long lo), .second, .val (.long hi), .second, .val (.ref b14), .val (.int (mo &&& (3 : Int32))), .unset, .unset, .unset, .unset] [(.int (2 : Int32)), (.int (mo &&& (3 : Int32)))])) _
          by_cases c98_4 : (mo &&& (3 : Int32)) = (2 : Int32)
          · rw [if_pos c98_4] at kt
            refine XS.icmpNo X19.here hx rfl (hb hby at_98) rfl (teq c98_4).2 ?_
            show Steps p.tables e below (T19.setTop (mkF m 101 #[.val (.long xa), .second, .val (.long ya), .second, .val (.int mo), .val (.long dd), .second, .val (.long qq), .second, .val (.long (xa &&& (4294967295 : Int64))), .second, .val (.long (ya &&& (4294967295 : Int64))), .second, .val (.long lo), .second, .val (.long hi), .second, .val (.ref b14), .val (.int (mo &&& (3 : Int32))), .unset, .unset, .unset, .unset] [])) _
            refine XS.lload X19.here hx rfl (hb hby at_101) rfl ?_
            show Steps p.tables e below (T19.setTop (mkF m 103 #[.val (.long xa), .second, .val (.long ya), .second, .val (.int mo), .val (.long dd), .second, .val (.long qq), .second, .val (.long (xa &&& (4294967295 : Int64))), .second, .val (.long (ya &&& (4294967295 : Int64))), .second, .val (.long lo), .second, .val (.long hi), .second, .val (.ref b14), .val (.int (mo &&& (3 : Int32))), .unset, .unset, .unset, .unset] [(.long hi)])) _
            refine XS.lload X19.here hx rfl (hb hby at_103) rfl ?_
            show Steps p.tables e below (T19.setTop (mkF m 105 #[.val (.long xa), .second, .val (.long ya), .second, .val (.int mo), .val (.long dd), .second, .val (.long qq), .second, .val (.long (xa &&& (4294967295 : Int64))), .second, .val (.long (ya &&& (4294967295 : Int64))), .second, .val (.long lo), .second, .val (.long hi), .second, .val (.ref b14), .val (.int (mo &&& (3 : Int32))), .unset, .unset, .unset, .unset] [(.long dd), (.long hi)])) _
            refine X19.ldc2Long hx hown (mvT hZ (hw _ (List.mem_of_getElem? (i := 35) rfl))) (g := (mkF m 105 #[.val (.long xa), .second, .val (.long ya), .second, .val (.int mo), .val (.long dd), .second, .val (.long qq), .second, .val (.long (xa &&& (4294967295 : Int64))), .second, .val (.long (ya &&& (4294967295 : Int64))), .second, .val (.long lo), .second, .val (.long hi), .second, .val (.ref b14), .val (.int (mo &&& (3 : Int32))), .unset, .unset, .unset, .unset] [(.long dd), (.long hi)])) rfl (hb hby at_105) _ ?_
            show Steps p.tables e below (T19.setTop (mkF m 108 #[.val (.long xa), .second, .val (.long ya), .second, .val (.int mo), .val (.long dd), .second, .val (.long qq), .second, .val (.long (xa &&& (4294967295 : Int64))), .second, .val (.long (ya &&& (4294967295 : Int64))), .second, .val (.long lo), .second, .val (.long hi), .second, .val (.ref b14), .val (.int (mo &&& (3 : Int32))), .unset, .unset, .unset, .unset] [(.long (3 : Int64)), (.long dd), (.long hi)])) _
            refine XS.land X19.here hx rfl (hb hby at_108) rfl ?_
            show Steps p.tables e below (T19.setTop (mkF m 109 #[.val (.long xa), .second, .val (.long ya), .second, .val (.int mo), .val (.long dd), .second, .val (.long qq), .second, .val (.long (xa &&& (4294967295 : Int64))), .second, .val (.long (ya &&& (4294967295 : Int64))), .second, .val (.long lo), .second, .val (.long hi), .second, .val (.ref b14), .val (.int (mo &&& (3 : Int32))), .unset, .unset, .unset, .unset] [(.long (dd &&& (3 : Int64))), (.long hi)])) _
            refine X19.ldc2Long hx hown (mvT hZ (hw _ (List.mem_of_getElem? (i := 46) rfl))) (g := (mkF m 109 #[.val (.long xa), .second, .val (.long ya), .second, .val (.int mo), .val (.long dd), .second, .val (.long qq), .second, .val (.long (xa &&& (4294967295 : Int64))), .second, .val (.long (ya &&& (4294967295 : Int64))), .second, .val (.long lo), .second, .val (.long hi), .second, .val (.ref b14), .val (.int (mo &&& (3 : Int32))), .unset, .unset, .unset, .unset] [(.long (dd &&& (3 : Int64))), (.long hi)])) rfl (hb hby at_109) _ ?_
            show Steps p.tables e below (T19.setTop (mkF m 112 #[.val (.long xa), .second, .val (.long ya), .second, .val (.int mo), .val (.long dd), .second, .val (.long qq), .second, .val (.long (xa &&& (4294967295 : Int64))), .second, .val (.long (ya &&& (4294967295 : Int64))), .second, .val (.long lo), .second, .val (.long hi), .second, .val (.ref b14), .val (.int (mo &&& (3 : Int32))), .unset, .unset, .unset, .unset] [(.long (2 : Int64)), (.long (dd &&& (3 : Int64))), (.long hi)])) _
            refine XS.lsub X19.here hx rfl (hb hby at_112) rfl ?_
            show Steps p.tables e below (T19.setTop (mkF m 113 #[.val (.long xa), .second, .val (.long ya), .second, .val (.int mo), .val (.long dd), .second, .val (.long qq), .second, .val (.long (xa &&& (4294967295 : Int64))), .second, .val (.long (ya &&& (4294967295 : Int64))), .second, .val (.long lo), .second, .val (.long hi), .second, .val (.ref b14), .val (.int (mo &&& (3 : Int32))), .unset, .unset, .unset, .unset] [(.long ((dd &&& (3 : Int64)) - (2 : Int64))), (.long hi)])) _
            refine XS.ladd X19.here hx rfl (hb hby at_113) rfl ?_
            show Steps p.tables e below (T19.setTop (mkF m 114 #[.val (.long xa), .second, .val (.long ya), .second, .val (.int mo), .val (.long dd), .second, .val (.long qq), .second, .val (.long (xa &&& (4294967295 : Int64))), .second, .val (.long (ya &&& (4294967295 : Int64))), .second, .val (.long lo), .second, .val (.long hi), .second, .val (.ref b14), .val (.int (mo &&& (3 : Int32))), .unset, .unset, .unset, .unset] [(.long (hi + ((dd &&& (3 : Int64)) - (2 : Int64))))])) _
            refine XS.lstore X19.here hx rfl (hb hby at_114) rfl (l' := #[.val (.long xa), .second, .val (.long ya), .second, .val (.int mo), .val (.long dd), .second, .val (.long qq), .second, .val (.long (xa &&& (4294967295 : Int64))), .second, .val (.long (ya &&& (4294967295 : Int64))), .second, .val (.long lo), .second, .val (.long hi), .second, .val (.ref b14), .val (.int (mo &&& (3 : Int32))), .val (.long (hi + ((dd &&& (3 : Int64)) - (2 : Int64)))), .second, .unset, .unset]) rfl ?_
            show Steps p.tables e below (T19.setTop (mkF m 116 #[.val (.long xa), .second, .val (.long ya), .second, .val (.int mo), .val (.long dd), .second, .val (.long qq), .second, .val (.long (xa &&& (4294967295 : Int64))), .second, .val (.long (ya &&& (4294967295 : Int64))), .second, .val (.long lo), .second, .val (.long hi), .second, .val (.ref b14), .val (.int (mo &&& (3 : Int32))), .val (.long (hi + ((dd &&& (3 : Int64)) - (2 : Int64)))), .second, .unset, .unset] [])) _
            refine XS.goto X19.here hx rfl (pc0 := 116) (pc' := 127) rfl (hb hby at_116) (by decide) (by decide) ?_
            show Steps p.tables e below (T19.setTop (mkF m 127 #[.val (.long xa), .second, .val (.long ya), .second, .val (.int mo), .val (.long dd), .second, .val (.long qq), .second, .val (.long (xa &&& (4294967295 : Int64))), .second, .val (.long (ya &&& (4294967295 : Int64))), .second, .val (.long lo), .second, .val (.long hi), .second, .val (.ref b14), .val (.int (mo &&& (3 : Int32))), .val (.long (hi + ((dd &&& (3 : Int64)) - (2 : Int64)))), .second, .unset, .unset] [])) _
            exact kt
          · rw [if_neg c98_4] at kt
            refine XS.icmpYes X19.here hx rfl (pc0 := 98) (pc' := 119) rfl (hb hby at_98) rfl (feq c98_4).2 (by decide) (by decide) ?_
            show Steps p.tables e below (T19.setTop (mkF m 119 #[.val (.long xa), .second, .val (.long ya), .second, .val (.int mo), .val (.long dd), .second, .val (.long qq), .second, .val (.long (xa &&& (4294967295 : Int64))), .second, .val (.long (ya &&& (4294967295 : Int64))), .second, .val (.long lo), .second, .val (.long hi), .second, .val (.ref b14), .val (.int (mo &&& (3 : Int32))), .unset, .unset, .unset, .unset] [])) _
            refine XS.lload X19.here hx rfl (hb hby at_119) rfl ?_
            show Steps p.tables e below (T19.setTop (mkF m 121 #[.val (.long xa), .second, .val (.long ya), .second, .val (.int mo), .val (.long dd), .second, .val (.long qq), .second, .val (.long (xa &&& (4294967295 : Int64))), .second, .val (.long (ya &&& (4294967295 : Int64))), .second, .val (.long lo), .second, .val (.long hi), .second, .val (.ref b14), .val (.int (mo &&& (3 : Int32))), .unset, .unset, .unset, .unset] [(.long qq)])) _
            refine X19.ldc2Long hx hown (mvT hZ (hw _ (List.mem_of_getElem? (i := 0) rfl))) (g := (mkF m 121 #[.val (.long xa), .second, .val (.long ya), .second, .val (.int mo), .val (.long dd), .second, .val (.long qq), .second, .val (.long (xa &&& (4294967295 : Int64))), .second, .val (.long (ya &&& (4294967295 : Int64))), .second, .val (.long lo), .second, .val (.long hi), .second, .val (.ref b14), .val (.int (mo &&& (3 : Int32))), .unset, .unset, .unset, .unset] [(.long qq)])) rfl (hb hby at_121) _ ?_
            show Steps p.tables e below (T19.setTop (mkF m 124 #[.val (.long xa), .second, .val (.long ya), .second, .val (.int mo), .val (.long dd), .second, .val (.long qq), .second, .val (.long (xa &&& (4294967295 : Int64))), .second, .val (.long (ya &&& (4294967295 : Int64))), .second, .val (.long lo), .second, .val (.long hi), .second, .val (.ref b14), .val (.int (mo &&& (3 : Int32))), .unset, .unset, .unset, .unset] [(.long (4294967295 : Int64)), (.long qq)])) _
            refine XS.land X19.here hx rfl (hb hby at_124) rfl ?_
            show Steps p.tables e below (T19.setTop (mkF m 125 #[.val (.long xa), .second, .val (.long ya), .second, .val (.int mo), .val (.long dd), .second, .val (.long qq), .second, .val (.long (xa &&& (4294967295 : Int64))), .second, .val (.long (ya &&& (4294967295 : Int64))), .second, .val (.long lo), .second, .val (.long hi), .second, .val (.ref b14), .val (.int (mo &&& (3 : Int32))), .unset, .unset, .unset, .unset] [(.long (qq &&& (4294967295 : Int64)))])) _
            refine XS.lstore X19.here hx rfl (hb hby at_125) rfl (l' := #[.val (.long xa), .second, .val (.long ya), .second, .val (.int mo), .val (.long dd), .second, .val (.long qq), .second, .val (.long (xa &&& (4294967295 : Int64))), .second, .val (.long (ya &&& (4294967295 : Int64))), .second, .val (.long lo), .second, .val (.long hi), .second, .val (.ref b14), .val (.int (mo &&& (3 : Int32))), .val (.long (qq &&& (4294967295 : Int64))), .second, .unset, .unset]) rfl ?_
            show Steps p.tables e below (T19.setTop (mkF m 127 #[.val (.long xa), .second, .val (.long ya), .second, .val (.int mo), .val (.long dd), .second, .val (.long qq), .second, .val (.long (xa &&& (4294967295 : Int64))), .second, .val (.long (ya &&& (4294967295 : Int64))), .second, .val (.long lo), .second, .val (.long hi), .second, .val (.ref b14), .val (.int (mo &&& (3 : Int32))), .val (.long (qq &&& (4294967295 : Int64))), .second, .unset, .unset] [])) _
            exact kt)
    obtain ⟨pp, hpp⟩ : ∃ z, z = (if (mo &&& (3 : Int32)) = (0 : Int32) then qq else (if (mo &&& (3 : Int32)) = (1 : Int32) then (lo + ((dd &&& (3 : Int64)) - (1 : Int64))) else (if (mo &&& (3 : Int32)) = (2 : Int32) then (hi + ((dd &&& (3 : Int64)) - (2 : Int64))) else (qq &&& (4294967295 : Int64))))) := ⟨_, rfl⟩
    have pre25 : ∀ t, Steps p.tables e below (T19.setTop (mkF m 127 #[.val (.long xa), .second, .val (.long ya), .second, .val (.int mo), .val (.long dd), .second, .val (.long qq), .second, .val (.long (xa &&& (4294967295 : Int64))), .second, .val (.long (ya &&& (4294967295 : Int64))), .second, .val (.long lo), .second, .val (.long hi), .second, .val (.ref b14), .val (.int (mo &&& (3 : Int32))), .val (.long pp), .second, .unset, .unset] [])) t → Steps p.tables e below (s₁.setTop (entryFrame m #[(.long xa), (.long ya), (.int mo), (.long dd), (.long qq)] maxLocals)) t := by
      rw [hpp]; exact pre24
    have pre26 : ∀ t, Steps p.tables e below (T19.setTop (mkF m 131 #[.val (.long xa), .second, .val (.long ya), .second, .val (.int mo), .val (.long dd), .second, .val (.long qq), .second, .val (.long (xa &&& (4294967295 : Int64))), .second, .val (.long (ya &&& (4294967295 : Int64))), .second, .val (.long lo), .second, .val (.long hi), .second, .val (.ref b14), .val (.int (mo &&& (3 : Int32))), .val (.long pp), .second, .unset, .unset] [(.int (lcmpW pp (0 : Int64)))])) t → Steps p.tables e below (s₁.setTop (entryFrame m #[(.long xa), (.long ya), (.int mo), (.long dd), (.long qq)] maxLocals)) t := fun t kt => pre25 t (by
      refine XS.lload X19.here hx rfl (hb hby at_127) rfl ?_
      show Steps p.tables e below (T19.setTop (mkF m 129 #[.val (.long xa), .second, .val (.long ya), .second, .val (.int mo), .val (.long dd), .second, .val (.long qq), .second, .val (.long (xa &&& (4294967295 : Int64))), .second, .val (.long (ya &&& (4294967295 : Int64))), .second, .val (.long lo), .second, .val (.long hi), .second, .val (.ref b14), .val (.int (mo &&& (3 : Int32))), .val (.long pp), .second, .unset, .unset] [(.long pp)])) _
      refine XS.lconst X19.here hx rfl (hb hby at_129) ?_
      show Steps p.tables e below (T19.setTop (mkF m 130 #[.val (.long xa), .second, .val (.long ya), .second, .val (.int mo), .val (.long dd), .second, .val (.long qq), .second, .val (.long (xa &&& (4294967295 : Int64))), .second, .val (.long (ya &&& (4294967295 : Int64))), .second, .val (.long lo), .second, .val (.long hi), .second, .val (.ref b14), .val (.int (mo &&& (3 : Int32))), .val (.long pp), .second, .unset, .unset] [(.long (0 : Int64)), (.long pp)])) _
      refine XS.lcmp X19.here hx rfl (hb hby at_130) rfl ?_
      show Steps p.tables e below (T19.setTop (mkF m 131 #[.val (.long xa), .second, .val (.long ya), .second, .val (.int mo), .val (.long dd), .second, .val (.long qq), .second, .val (.long (xa &&& (4294967295 : Int64))), .second, .val (.long (ya &&& (4294967295 : Int64))), .second, .val (.long lo), .second, .val (.long hi), .second, .val (.ref b14), .val (.int (mo &&& (3 : Int32))), .val (.long pp), .second, .unset, .unset] [(.int (lcmpW pp (0 : Int64)))])) _
      exact kt)
    by_cases c131_5 : pp < (0 : Int64)
    · have pre27 : ∀ t, Steps p.tables e below (T19.setTop (mkF m 198 #[.val (.long xa), .second, .val (.long ya), .second, .val (.int mo), .val (.long dd), .second, .val (.long qq), .second, .val (.long (xa &&& (4294967295 : Int64))), .second, .val (.long (ya &&& (4294967295 : Int64))), .second, .val (.long lo), .second, .val (.long hi), .second, .val (.ref b14), .val (.int (mo &&& (3 : Int32))), .val (.long pp), .second, .val (.int (0 : Int32)), .val (.int (0 : Int32))] [(.long pp), (.ref b14)])) t → Steps p.tables e below (s₁.setTop (entryFrame m #[(.long xa), (.long ya), (.int mo), (.long dd), (.long qq)] maxLocals)) t := fun t kt => pre26 t (by
        refine XS.ifYes X19.here hx rfl (pc0 := 131) (pc' := 147) rfl (hb hby at_131) rfl ((if0 _ _).trans (tlt ((lw_lt _ _).mpr c131_5)).1) (by decide) (by decide) ?_
        show Steps p.tables e below (T19.setTop (mkF m 147 #[.val (.long xa), .second, .val (.long ya), .second, .val (.int mo), .val (.long dd), .second, .val (.long qq), .second, .val (.long (xa &&& (4294967295 : Int64))), .second, .val (.long (ya &&& (4294967295 : Int64))), .second, .val (.long lo), .second, .val (.long hi), .second, .val (.ref b14), .val (.int (mo &&& (3 : Int32))), .val (.long pp), .second, .unset, .unset] [])) _
        refine XS.iconst X19.here hx rfl (hb hby at_147) ?_
        show Steps p.tables e below (T19.setTop (mkF m 148 #[.val (.long xa), .second, .val (.long ya), .second, .val (.int mo), .val (.long dd), .second, .val (.long qq), .second, .val (.long (xa &&& (4294967295 : Int64))), .second, .val (.long (ya &&& (4294967295 : Int64))), .second, .val (.long lo), .second, .val (.long hi), .second, .val (.ref b14), .val (.int (mo &&& (3 : Int32))), .val (.long pp), .second, .unset, .unset] [(.int (0 : Int32))])) _
        refine XS.istore X19.here hx rfl (hb hby at_148) rfl (l' := #[.val (.long xa), .second, .val (.long ya), .second, .val (.int mo), .val (.long dd), .second, .val (.long qq), .second, .val (.long (xa &&& (4294967295 : Int64))), .second, .val (.long (ya &&& (4294967295 : Int64))), .second, .val (.long lo), .second, .val (.long hi), .second, .val (.ref b14), .val (.int (mo &&& (3 : Int32))), .val (.long pp), .second, .val (.int (0 : Int32)), .unset]) rfl ?_
        show Steps p.tables e below (T19.setTop (mkF m 150 #[.val (.long xa), .second, .val (.long ya), .second, .val (.int mo), .val (.long dd), .second, .val (.long qq), .second, .val (.long (xa &&& (4294967295 : Int64))), .second, .val (.long (ya &&& (4294967295 : Int64))), .second, .val (.long lo), .second, .val (.long hi), .second, .val (.ref b14), .val (.int (mo &&& (3 : Int32))), .val (.long pp), .second, .val (.int (0 : Int32)), .unset] [])) _
        refine XS.iload X19.here hx rfl (hb hby at_150) rfl ?_
        show Steps p.tables e below (T19.setTop (mkF m 152 #[.val (.long xa), .second, .val (.long ya), .second, .val (.int mo), .val (.long dd), .second, .val (.long qq), .second, .val (.long (xa &&& (4294967295 : Int64))), .second, .val (.long (ya &&& (4294967295 : Int64))), .second, .val (.long lo), .second, .val (.long hi), .second, .val (.ref b14), .val (.int (mo &&& (3 : Int32))), .val (.long pp), .second, .val (.int (0 : Int32)), .unset] [(.int (0 : Int32))])) _
        refine XS.ifYes X19.here hx rfl (pc0 := 152) (pc' := 191) rfl (hb hby at_152) rfl ((if0 _ _).trans (teq rfl).1) (by decide) (by decide) ?_
        show Steps p.tables e below (T19.setTop (mkF m 191 #[.val (.long xa), .second, .val (.long ya), .second, .val (.int mo), .val (.long dd), .second, .val (.long qq), .second, .val (.long (xa &&& (4294967295 : Int64))), .second, .val (.long (ya &&& (4294967295 : Int64))), .second, .val (.long lo), .second, .val (.long hi), .second, .val (.ref b14), .val (.int (mo &&& (3 : Int32))), .val (.long pp), .second, .val (.int (0 : Int32)), .unset] [])) _
        refine XS.iconst X19.here hx rfl (hb hby at_191) ?_
        show Steps p.tables e below (T19.setTop (mkF m 192 #[.val (.long xa), .second, .val (.long ya), .second, .val (.int mo), .val (.long dd), .second, .val (.long qq), .second, .val (.long (xa &&& (4294967295 : Int64))), .second, .val (.long (ya &&& (4294967295 : Int64))), .second, .val (.long lo), .second, .val (.long hi), .second, .val (.ref b14), .val (.int (mo &&& (3 : Int32))), .val (.long pp), .second, .val (.int (0 : Int32)), .unset] [(.int (0 : Int32))])) _
        refine XS.istore X19.here hx rfl (hb hby at_192) rfl (l' := #[.val (.long xa), .second, .val (.long ya), .second, .val (.int mo), .val (.long dd), .second, .val (.long qq), .second, .val (.long (xa &&& (4294967295 : Int64))), .second, .val (.long (ya &&& (4294967295 : Int64))), .second, .val (.long lo), .second, .val (.long hi), .second, .val (.ref b14), .val (.int (mo &&& (3 : Int32))), .val (.long pp), .second, .val (.int (0 : Int32)), .val (.int (0 : Int32))]) rfl ?_
        show Steps p.tables e below (T19.setTop (mkF m 194 #[.val (.long xa), .second, .val (.long ya), .second, .val (.int mo), .val (.long dd), .second, .val (.long qq), .second, .val (.long (xa &&& (4294967295 : Int64))), .second, .val (.long (ya &&& (4294967295 : Int64))), .second, .val (.long lo), .second, .val (.long hi), .second, .val (.ref b14), .val (.int (mo &&& (3 : Int32))), .val (.long pp), .second, .val (.int (0 : Int32)), .val (.int (0 : Int32))] [])) _
        refine XS.aload X19.here hx rfl (hb hby at_194) rfl rfl ?_
        show Steps p.tables e below (T19.setTop (mkF m 196 #[.val (.long xa), .second, .val (.long ya), .second, .val (.int mo), .val (.long dd), .second, .val (.long qq), .second, .val (.long (xa &&& (4294967295 : Int64))), .second, .val (.long (ya &&& (4294967295 : Int64))), .second, .val (.long lo), .second, .val (.long hi), .second, .val (.ref b14), .val (.int (mo &&& (3 : Int32))), .val (.long pp), .second, .val (.int (0 : Int32)), .val (.int (0 : Int32))] [(.ref b14)])) _
        refine XS.lload X19.here hx rfl (hb hby at_196) rfl ?_
        show Steps p.tables e below (T19.setTop (mkF m 198 #[.val (.long xa), .second, .val (.long ya), .second, .val (.int mo), .val (.long dd), .second, .val (.long qq), .second, .val (.long (xa &&& (4294967295 : Int64))), .second, .val (.long (ya &&& (4294967295 : Int64))), .second, .val (.long lo), .second, .val (.long hi), .second, .val (.ref b14), .val (.int (mo &&& (3 : Int32))), .val (.long pp), .second, .val (.int (0 : Int32)), .val (.int (0 : Int32))] [(.long pp), (.ref b14)])) _
        exact kt)
      obtain ⟨cq28, kq28, q28a, q28b, q28c⟩ := isOf hZ rfl (f20)
      obtain ⟨_, _, ⟨T28, L28, k28, n28⟩, -, X28, ⟨Lc28, hQ28, l28, y28, z28⟩, st28⟩ := X19.virtualBack hx (y := (⟨"com/example/calm_balancer/calmbalancer/BundleRange", "canCutAt", "(J)Z"⟩ : MethodName)) (z := (⟨"com/example/calm_balancer/calmbalancer/BundleRange", "canCutAt", "(J)Z"⟩ : MethodName)) hown (mvT hZ (hw _ (List.mem_of_getElem? (i := 30) rfl))) (mvT hZ (hw _ (List.mem_of_getElem? (i := 31) rfl))) (notFace_of_selects (args := #[]) (mvT hZ (hw _ (List.mem_of_getElem? (i := 33) rfl)))) (mvT hZ (hw _ (List.mem_of_getElem? (i := 33) rfl))) (mvT hZ (hw _ (List.mem_of_getElem? (i := 32) rfl))) (by decide) (backOf (W := 0) (rmK l Z a0 hw [] b14 pp lo hi T19.heap n0 Zf21 Fl19 Fu19) hZ (hw _ (List.mem_of_getElem? (i := 34) rfl)) (hw _ (List.mem_of_getElem? (i := 10) rfl)) (by decide) (by decide)) q28a q28c (g := (mkF m 198 #[.val (.long xa), .second, .val (.long ya), .second, .val (.int mo), .val (.long dd), .second, .val (.long qq), .second, .val (.long (xa &&& (4294967295 : Int64))), .second, .val (.long (ya &&& (4294967295 : Int64))), .second, .val (.long lo), .second, .val (.long hi), .second, .val (.ref b14), .val (.int (mo &&& (3 : Int32))), .val (.long pp), .second, .val (.int (0 : Int32)), .val (.int (0 : Int32))] [(.long pp), (.ref b14)])) rfl (by rw [hml]; rfl) (Steps.refl _) (argsL := [(.long pp)]) (rest := []) (lenOf pd__28J_29Z rfl) rfl (by show 2 * 0 + _ ≤ _; exact Nat.le_of_eq rfl) (hb hby at_198) (fun _ _ => ⟨rfl, rfl, (by decide : 1 + 0 ≤ _), (by decide : 2 + 0 ≤ _)⟩)
      dsimp only [Pt.U, Pt.locs, Pt.cells, Pt.slots] at X28 l28 y28 z28 st28 hQ28
      subst l28 y28 z28
      obtain ⟨rfl, N28q, e28q⟩ := hQ28
      have N28 := Fr.app N19 N28q
      have pre29 : ∀ t, Steps p.tables e below (T28.setTop (mkF m 201 #[.val (.long xa), .second, .val (.long ya), .second, .val (.int mo), .val (.long dd), .second, .val (.long qq), .second, .val (.long (xa &&& (4294967295 : Int64))), .second, .val (.long (ya &&& (4294967295 : Int64))), .second, .val (.long lo), .second, .val (.long hi), .second, .val (.ref b14), .val (.int (mo &&& (3 : Int32))), .val (.long pp), .second, .val (.int (0 : Int32)), .val (.int (0 : Int32))] [(.int (if lo < pp then (if pp < hi then (1 : Int32) else (0 : Int32)) else (0 : Int32)))])) t → Steps p.tables e below (s₁.setTop (entryFrame m #[(.long xa), (.long ya), (.int mo), (.long dd), (.long qq)] maxLocals)) t := fun t kt => pre27 t (st28.trans kt)
      have pre30 : ∀ t, Steps p.tables e below (T28.setTop (mkF m 211 #[.val (.long xa), .second, .val (.long ya), .second, .val (.int mo), .val (.long dd), .second, .val (.long qq), .second, .val (.long (xa &&& (4294967295 : Int64))), .second, .val (.long (ya &&& (4294967295 : Int64))), .second, .val (.long lo), .second, .val (.long hi), .second, .val (.ref b14), .val (.int (mo &&& (3 : Int32))), .val (.long pp), .second, .val (.int (0 : Int32)), .val (.int (0 : Int32))] [(.int (1 : Int32))])) t → Steps p.tables e below (s₁.setTop (entryFrame m #[(.long xa), (.long ya), (.int mo), (.long dd), (.long qq)] maxLocals)) t := fun t kt => pre29 t (by
        refine XS.iload X28.here hx rfl (hb hby at_201) rfl ?_
        show Steps p.tables e below (T28.setTop (mkF m 203 #[.val (.long xa), .second, .val (.long ya), .second, .val (.int mo), .val (.long dd), .second, .val (.long qq), .second, .val (.long (xa &&& (4294967295 : Int64))), .second, .val (.long (ya &&& (4294967295 : Int64))), .second, .val (.long lo), .second, .val (.long hi), .second, .val (.ref b14), .val (.int (mo &&& (3 : Int32))), .val (.long pp), .second, .val (.int (0 : Int32)), .val (.int (0 : Int32))] [(.int (0 : Int32)), (.int (if lo < pp then (if pp < hi then (1 : Int32) else (0 : Int32)) else (0 : Int32)))])) _
        refine XS.icmpNo X28.here hx rfl (hb hby at_203) rfl (teq (by
          have i_c37_1 := mt Int64.toInt_inj.mp c37_1
          have i_c131_5 := Int64.lt_iff_toInt_lt.mp c131_5
          exact own_cut0 (by omega) : (if lo < pp then (if pp < hi then (1 : Int32) else (0 : Int32)) else (0 : Int32)) = (0 : Int32))).2 ?_
        show Steps p.tables e below (T28.setTop (mkF m 206 #[.val (.long xa), .second, .val (.long ya), .second, .val (.int mo), .val (.long dd), .second, .val (.long qq), .second, .val (.long (xa &&& (4294967295 : Int64))), .second, .val (.long (ya &&& (4294967295 : Int64))), .second, .val (.long lo), .second, .val (.long hi), .second, .val (.ref b14), .val (.int (mo &&& (3 : Int32))), .val (.long pp), .second, .val (.int (0 : Int32)), .val (.int (0 : Int32))] [])) _
        refine XS.iconst X28.here hx rfl (hb hby at_206) ?_
        show Steps p.tables e below (T28.setTop (mkF m 207 #[.val (.long xa), .second, .val (.long ya), .second, .val (.int mo), .val (.long dd), .second, .val (.long qq), .second, .val (.long (xa &&& (4294967295 : Int64))), .second, .val (.long (ya &&& (4294967295 : Int64))), .second, .val (.long lo), .second, .val (.long hi), .second, .val (.ref b14), .val (.int (mo &&& (3 : Int32))), .val (.long pp), .second, .val (.int (0 : Int32)), .val (.int (0 : Int32))] [(.int (1 : Int32))])) _
        refine XS.goto X28.here hx rfl (pc0 := 207) (pc' := 211) rfl (hb hby at_207) (by decide) (by decide) ?_
        show Steps p.tables e below (T28.setTop (mkF m 211 #[.val (.long xa), .second, .val (.long ya), .second, .val (.int mo), .val (.long dd), .second, .val (.long qq), .second, .val (.long (xa &&& (4294967295 : Int64))), .second, .val (.long (ya &&& (4294967295 : Int64))), .second, .val (.long lo), .second, .val (.long hi), .second, .val (.ref b14), .val (.int (mo &&& (3 : Int32))), .val (.long pp), .second, .val (.int (0 : Int32)), .val (.int (0 : Int32))] [(.int (1 : Int32))])) _
        exact kt)
      obtain ⟨fs, hr, hrun, hended, hW, hsame⟩ := X28.leave (v := (some (.int (1 : Int32)))) (fun h => by rw [Bd.returns] at h; cases h)
      refine ⟨_, _, pre30 _ ?_, hrun, hended, _, _, rfl, ?_, ⟨_, rfl⟩, hW, hsame.mono (by decide) (by decide)⟩
      · exact retN X28 hx (t := .boolean) Bd.returns (by simp) (hb hby at_211) hr
      · show Q0 Z  h0 n0 _ T28.heap _
        rw [e28q]
        exact ⟨rfl, N28⟩
    · have pre32 : ∀ t, Steps p.tables e below (T19.setTop (mkF m 140 #[.val (.long xa), .second, .val (.long ya), .second, .val (.int mo), .val (.long dd), .second, .val (.long qq), .second, .val (.long (xa &&& (4294967295 : Int64))), .second, .val (.long (ya &&& (4294967295 : Int64))), .second, .val (.long lo), .second, .val (.long hi), .second, .val (.ref b14), .val (.int (mo &&& (3 : Int32))), .val (.long pp), .second, .unset, .unset] [(.int (lcmpW pp (4294967295 : Int64)))])) t → Steps p.tables e below (s₁.setTop (entryFrame m #[(.long xa), (.long ya), (.int mo), (.long dd), (.long qq)] maxLocals)) t := fun t kt => pre26 t (by
        refine XS.ifNo X19.here hx rfl (hb hby at_131) rfl ((if0 _ _).trans (flt (mt (lw_lt _ _).mp c131_5)).1) ?_
        show Steps p.tables e below (T19.setTop (mkF m 134 #[.val (.long xa), .second, .val (.long ya), .second, .val (.int mo), .val (.long dd), .second, .val (.long qq), .second, .val (.long (xa &&& (4294967295 : Int64))), .second, .val (.long (ya &&& (4294967295 : Int64))), .second, .val (.long lo), .second, .val (.long hi), .second, .val (.ref b14), .val (.int (mo &&& (3 : Int32))), .val (.long pp), .second, .unset, .unset] [])) _
        refine XS.lload X19.here hx rfl (hb hby at_134) rfl ?_
        show Steps p.tables e below (T19.setTop (mkF m 136 #[.val (.long xa), .second, .val (.long ya), .second, .val (.int mo), .val (.long dd), .second, .val (.long qq), .second, .val (.long (xa &&& (4294967295 : Int64))), .second, .val (.long (ya &&& (4294967295 : Int64))), .second, .val (.long lo), .second, .val (.long hi), .second, .val (.ref b14), .val (.int (mo &&& (3 : Int32))), .val (.long pp), .second, .unset, .unset] [(.long pp)])) _
        refine X19.ldc2Long hx hown (mvT hZ (hw _ (List.mem_of_getElem? (i := 0) rfl))) (g := (mkF m 136 #[.val (.long xa), .second, .val (.long ya), .second, .val (.int mo), .val (.long dd), .second, .val (.long qq), .second, .val (.long (xa &&& (4294967295 : Int64))), .second, .val (.long (ya &&& (4294967295 : Int64))), .second, .val (.long lo), .second, .val (.long hi), .second, .val (.ref b14), .val (.int (mo &&& (3 : Int32))), .val (.long pp), .second, .unset, .unset] [(.long pp)])) rfl (hb hby at_136) _ ?_
        show Steps p.tables e below (T19.setTop (mkF m 139 #[.val (.long xa), .second, .val (.long ya), .second, .val (.int mo), .val (.long dd), .second, .val (.long qq), .second, .val (.long (xa &&& (4294967295 : Int64))), .second, .val (.long (ya &&& (4294967295 : Int64))), .second, .val (.long lo), .second, .val (.long hi), .second, .val (.ref b14), .val (.int (mo &&& (3 : Int32))), .val (.long pp), .second, .unset, .unset] [(.long (4294967295 : Int64)), (.long pp)])) _
        refine XS.lcmp X19.here hx rfl (hb hby at_139) rfl ?_
        show Steps p.tables e below (T19.setTop (mkF m 140 #[.val (.long xa), .second, .val (.long ya), .second, .val (.int mo), .val (.long dd), .second, .val (.long qq), .second, .val (.long (xa &&& (4294967295 : Int64))), .second, .val (.long (ya &&& (4294967295 : Int64))), .second, .val (.long lo), .second, .val (.long hi), .second, .val (.ref b14), .val (.int (mo &&& (3 : Int32))), .val (.long pp), .second, .unset, .unset] [(.int (lcmpW pp (4294967295 : Int64)))])) _
        exact kt)
      by_cases c140_6 : (4294967295 : Int64) < pp
      · have pre33 : ∀ t, Steps p.tables e below (T19.setTop (mkF m 198 #[.val (.long xa), .second, .val (.long ya), .second, .val (.int mo), .val (.long dd), .second, .val (.long qq), .second, .val (.long (xa &&& (4294967295 : Int64))), .second, .val (.long (ya &&& (4294967295 : Int64))), .second, .val (.long lo), .second, .val (.long hi), .second, .val (.ref b14), .val (.int (mo &&& (3 : Int32))), .val (.long pp), .second, .val (.int (0 : Int32)), .val (.int (0 : Int32))] [(.long pp), (.ref b14)])) t → Steps p.tables e below (s₁.setTop (entryFrame m #[(.long xa), (.long ya), (.int mo), (.long dd), (.long qq)] maxLocals)) t := fun t kt => pre32 t (by
          refine XS.ifYes X19.here hx rfl (pc0 := 140) (pc' := 147) rfl (hb hby at_140) rfl ((if0 _ _).trans (tlt ((lw_gt _ _).mpr c140_6)).2.2.1) (by decide) (by decide) ?_
          show Steps p.tables e below (T19.setTop (mkF m 147 #[.val (.long xa), .second, .val (.long ya), .second, .val (.int mo), .val (.long dd), .second, .val (.long qq), .second, .val (.long (xa &&& (4294967295 : Int64))), .second, .val (.long (ya &&& (4294967295 : Int64))), .second, .val (.long lo), .second, .val (.long hi), .second, .val (.ref b14), .val (.int (mo &&& (3 : Int32))), .val (.long pp), .second, .unset, .unset] [])) _
          refine XS.iconst X19.here hx rfl (hb hby at_147) ?_
          show Steps p.tables e below (T19.setTop (mkF m 148 #[.val (.long xa), .second, .val (.long ya), .second, .val (.int mo), .val (.long dd), .second, .val (.long qq), .second, .val (.long (xa &&& (4294967295 : Int64))), .second, .val (.long (ya &&& (4294967295 : Int64))), .second, .val (.long lo), .second, .val (.long hi), .second, .val (.ref b14), .val (.int (mo &&& (3 : Int32))), .val (.long pp), .second, .unset, .unset] [(.int (0 : Int32))])) _
          refine XS.istore X19.here hx rfl (hb hby at_148) rfl (l' := #[.val (.long xa), .second, .val (.long ya), .second, .val (.int mo), .val (.long dd), .second, .val (.long qq), .second, .val (.long (xa &&& (4294967295 : Int64))), .second, .val (.long (ya &&& (4294967295 : Int64))), .second, .val (.long lo), .second, .val (.long hi), .second, .val (.ref b14), .val (.int (mo &&& (3 : Int32))), .val (.long pp), .second, .val (.int (0 : Int32)), .unset]) rfl ?_
          show Steps p.tables e below (T19.setTop (mkF m 150 #[.val (.long xa), .second, .val (.long ya), .second, .val (.int mo), .val (.long dd), .second, .val (.long qq), .second, .val (.long (xa &&& (4294967295 : Int64))), .second, .val (.long (ya &&& (4294967295 : Int64))), .second, .val (.long lo), .second, .val (.long hi), .second, .val (.ref b14), .val (.int (mo &&& (3 : Int32))), .val (.long pp), .second, .val (.int (0 : Int32)), .unset] [])) _
          refine XS.iload X19.here hx rfl (hb hby at_150) rfl ?_
          show Steps p.tables e below (T19.setTop (mkF m 152 #[.val (.long xa), .second, .val (.long ya), .second, .val (.int mo), .val (.long dd), .second, .val (.long qq), .second, .val (.long (xa &&& (4294967295 : Int64))), .second, .val (.long (ya &&& (4294967295 : Int64))), .second, .val (.long lo), .second, .val (.long hi), .second, .val (.ref b14), .val (.int (mo &&& (3 : Int32))), .val (.long pp), .second, .val (.int (0 : Int32)), .unset] [(.int (0 : Int32))])) _
          refine XS.ifYes X19.here hx rfl (pc0 := 152) (pc' := 191) rfl (hb hby at_152) rfl ((if0 _ _).trans (teq rfl).1) (by decide) (by decide) ?_
          show Steps p.tables e below (T19.setTop (mkF m 191 #[.val (.long xa), .second, .val (.long ya), .second, .val (.int mo), .val (.long dd), .second, .val (.long qq), .second, .val (.long (xa &&& (4294967295 : Int64))), .second, .val (.long (ya &&& (4294967295 : Int64))), .second, .val (.long lo), .second, .val (.long hi), .second, .val (.ref b14), .val (.int (mo &&& (3 : Int32))), .val (.long pp), .second, .val (.int (0 : Int32)), .unset] [])) _
          refine XS.iconst X19.here hx rfl (hb hby at_191) ?_
          show Steps p.tables e below (T19.setTop (mkF m 192 #[.val (.long xa), .second, .val (.long ya), .second, .val (.int mo), .val (.long dd), .second, .val (.long qq), .second, .val (.long (xa &&& (4294967295 : Int64))), .second, .val (.long (ya &&& (4294967295 : Int64))), .second, .val (.long lo), .second, .val (.long hi), .second, .val (.ref b14), .val (.int (mo &&& (3 : Int32))), .val (.long pp), .second, .val (.int (0 : Int32)), .unset] [(.int (0 : Int32))])) _
          refine XS.istore X19.here hx rfl (hb hby at_192) rfl (l' := #[.val (.long xa), .second, .val (.long ya), .second, .val (.int mo), .val (.long dd), .second, .val (.long qq), .second, .val (.long (xa &&& (4294967295 : Int64))), .second, .val (.long (ya &&& (4294967295 : Int64))), .second, .val (.long lo), .second, .val (.long hi), .second, .val (.ref b14), .val (.int (mo &&& (3 : Int32))), .val (.long pp), .second, .val (.int (0 : Int32)), .val (.int (0 : Int32))]) rfl ?_
          show Steps p.tables e below (T19.setTop (mkF m 194 #[.val (.long xa), .second, .val (.long ya), .second, .val (.int mo), .val (.long dd), .second, .val (.long qq), .second, .val (.long (xa &&& (4294967295 : Int64))), .second, .val (.long (ya &&& (4294967295 : Int64))), .second, .val (.long lo), .second, .val (.long hi), .second, .val (.ref b14), .val (.int (mo &&& (3 : Int32))), .val (.long pp), .second, .val (.int (0 : Int32)), .val (.int (0 : Int32))] [])) _
          refine XS.aload X19.here hx rfl (hb hby at_194) rfl rfl ?_
          show Steps p.tables e below (T19.setTop (mkF m 196 #[.val (.long xa), .second, .val (.long ya), .second, .val (.int mo), .val (.long dd), .second, .val (.long qq), .second, .val (.long (xa &&& (4294967295 : Int64))), .second, .val (.long (ya &&& (4294967295 : Int64))), .second, .val (.long lo), .second, .val (.long hi), .second, .val (.ref b14), .val (.int (mo &&& (3 : Int32))), .val (.long pp), .second, .val (.int (0 : Int32)), .val (.int (0 : Int32))] [(.ref b14)])) _
          refine XS.lload X19.here hx rfl (hb hby at_196) rfl ?_
          show Steps p.tables e below (T19.setTop (mkF m 198 #[.val (.long xa), .second, .val (.long ya), .second, .val (.int mo), .val (.long dd), .second, .val (.long qq), .second, .val (.long (xa &&& (4294967295 : Int64))), .second, .val (.long (ya &&& (4294967295 : Int64))), .second, .val (.long lo), .second, .val (.long hi), .second, .val (.ref b14), .val (.int (mo &&& (3 : Int32))), .val (.long pp), .second, .val (.int (0 : Int32)), .val (.int (0 : Int32))] [(.long pp), (.ref b14)])) _
          exact kt)
        obtain ⟨cq34, kq34, q34a, q34b, q34c⟩ := isOf hZ rfl (f20)
        obtain ⟨_, _, ⟨T34, L34, k34, n34⟩, -, X34, ⟨Lc34, hQ34, l34, y34, z34⟩, st34⟩ := X19.virtualBack hx (y := (⟨"com/example/calm_balancer/calmbalancer/BundleRange", "canCutAt", "(J)Z"⟩ : MethodName)) (z := (⟨"com/example/calm_balancer/calmbalancer/BundleRange", "canCutAt", "(J)Z"⟩ : MethodName)) hown (mvT hZ (hw _ (List.mem_of_getElem? (i := 30) rfl))) (mvT hZ (hw _ (List.mem_of_getElem? (i := 31) rfl))) (notFace_of_selects (args := #[]) (mvT hZ (hw _ (List.mem_of_getElem? (i := 33) rfl)))) (mvT hZ (hw _ (List.mem_of_getElem? (i := 33) rfl))) (mvT hZ (hw _ (List.mem_of_getElem? (i := 32) rfl))) (by decide) (backOf (W := 0) (rmK l Z a0 hw [] b14 pp lo hi T19.heap n0 Zf21 Fl19 Fu19) hZ (hw _ (List.mem_of_getElem? (i := 34) rfl)) (hw _ (List.mem_of_getElem? (i := 10) rfl)) (by decide) (by decide)) q34a q34c (g := (mkF m 198 #[.val (.long xa), .second, .val (.long ya), .second, .val (.int mo), .val (.long dd), .second, .val (.long qq), .second, .val (.long (xa &&& (4294967295 : Int64))), .second, .val (.long (ya &&& (4294967295 : Int64))), .second, .val (.long lo), .second, .val (.long hi), .second, .val (.ref b14), .val (.int (mo &&& (3 : Int32))), .val (.long pp), .second, .val (.int (0 : Int32)), .val (.int (0 : Int32))] [(.long pp), (.ref b14)])) rfl (by rw [hml]; rfl) (Steps.refl _) (argsL := [(.long pp)]) (rest := []) (lenOf pd__28J_29Z rfl) rfl (by show 2 * 0 + _ ≤ _; exact Nat.le_of_eq rfl) (hb hby at_198) (fun _ _ => ⟨rfl, rfl, (by decide : 1 + 0 ≤ _), (by decide : 2 + 0 ≤ _)⟩)
        dsimp only [Pt.U, Pt.locs, Pt.cells, Pt.slots] at X34 l34 y34 z34 st34 hQ34
        subst l34 y34 z34
        obtain ⟨rfl, N34q, e34q⟩ := hQ34
        have N34 := Fr.app N19 N34q
        have pre35 : ∀ t, Steps p.tables e below (T34.setTop (mkF m 201 #[.val (.long xa), .second, .val (.long ya), .second, .val (.int mo), .val (.long dd), .second, .val (.long qq), .second, .val (.long (xa &&& (4294967295 : Int64))), .second, .val (.long (ya &&& (4294967295 : Int64))), .second, .val (.long lo), .second, .val (.long hi), .second, .val (.ref b14), .val (.int (mo &&& (3 : Int32))), .val (.long pp), .second, .val (.int (0 : Int32)), .val (.int (0 : Int32))] [(.int (if lo < pp then (if pp < hi then (1 : Int32) else (0 : Int32)) else (0 : Int32)))])) t → Steps p.tables e below (s₁.setTop (entryFrame m #[(.long xa), (.long ya), (.int mo), (.long dd), (.long qq)] maxLocals)) t := fun t kt => pre33 t (st34.trans kt)
        have pre36 : ∀ t, Steps p.tables e below (T34.setTop (mkF m 211 #[.val (.long xa), .second, .val (.long ya), .second, .val (.int mo), .val (.long dd), .second, .val (.long qq), .second, .val (.long (xa &&& (4294967295 : Int64))), .second, .val (.long (ya &&& (4294967295 : Int64))), .second, .val (.long lo), .second, .val (.long hi), .second, .val (.ref b14), .val (.int (mo &&& (3 : Int32))), .val (.long pp), .second, .val (.int (0 : Int32)), .val (.int (0 : Int32))] [(.int (1 : Int32))])) t → Steps p.tables e below (s₁.setTop (entryFrame m #[(.long xa), (.long ya), (.int mo), (.long dd), (.long qq)] maxLocals)) t := fun t kt => pre35 t (by
          refine XS.iload X34.here hx rfl (hb hby at_201) rfl ?_
          show Steps p.tables e below (T34.setTop (mkF m 203 #[.val (.long xa), .second, .val (.long ya), .second, .val (.int mo), .val (.long dd), .second, .val (.long qq), .second, .val (.long (xa &&& (4294967295 : Int64))), .second, .val (.long (ya &&& (4294967295 : Int64))), .second, .val (.long lo), .second, .val (.long hi), .second, .val (.ref b14), .val (.int (mo &&& (3 : Int32))), .val (.long pp), .second, .val (.int (0 : Int32)), .val (.int (0 : Int32))] [(.int (0 : Int32)), (.int (if lo < pp then (if pp < hi then (1 : Int32) else (0 : Int32)) else (0 : Int32)))])) _
          refine XS.icmpNo X34.here hx rfl (hb hby at_203) rfl (teq (by
            have i_c37_1 := mt Int64.toInt_inj.mp c37_1
            have i_c131_5 := mt Int64.lt_iff_toInt_lt.mpr c131_5
            have i_c140_6 := Int64.lt_iff_toInt_lt.mp c140_6
            exact own_cut0 (by omega) : (if lo < pp then (if pp < hi then (1 : Int32) else (0 : Int32)) else (0 : Int32)) = (0 : Int32))).2 ?_
          show Steps p.tables e below (T34.setTop (mkF m 206 #[.val (.long xa), .second, .val (.long ya), .second, .val (.int mo), .val (.long dd), .second, .val (.long qq), .second, .val (.long (xa &&& (4294967295 : Int64))), .second, .val (.long (ya &&& (4294967295 : Int64))), .second, .val (.long lo), .second, .val (.long hi), .second, .val (.ref b14), .val (.int (mo &&& (3 : Int32))), .val (.long pp), .second, .val (.int (0 : Int32)), .val (.int (0 : Int32))] [])) _
          refine XS.iconst X34.here hx rfl (hb hby at_206) ?_
          show Steps p.tables e below (T34.setTop (mkF m 207 #[.val (.long xa), .second, .val (.long ya), .second, .val (.int mo), .val (.long dd), .second, .val (.long qq), .second, .val (.long (xa &&& (4294967295 : Int64))), .second, .val (.long (ya &&& (4294967295 : Int64))), .second, .val (.long lo), .second, .val (.long hi), .second, .val (.ref b14), .val (.int (mo &&& (3 : Int32))), .val (.long pp), .second, .val (.int (0 : Int32)), .val (.int (0 : Int32))] [(.int (1 : Int32))])) _
          refine XS.goto X34.here hx rfl (pc0 := 207) (pc' := 211) rfl (hb hby at_207) (by decide) (by decide) ?_
          show Steps p.tables e below (T34.setTop (mkF m 211 #[.val (.long xa), .second, .val (.long ya), .second, .val (.int mo), .val (.long dd), .second, .val (.long qq), .second, .val (.long (xa &&& (4294967295 : Int64))), .second, .val (.long (ya &&& (4294967295 : Int64))), .second, .val (.long lo), .second, .val (.long hi), .second, .val (.ref b14), .val (.int (mo &&& (3 : Int32))), .val (.long pp), .second, .val (.int (0 : Int32)), .val (.int (0 : Int32))] [(.int (1 : Int32))])) _
          exact kt)
        obtain ⟨fs, hr, hrun, hended, hW, hsame⟩ := X34.leave (v := (some (.int (1 : Int32)))) (fun h => by rw [Bd.returns] at h; cases h)
        refine ⟨_, _, pre36 _ ?_, hrun, hended, _, _, rfl, ?_, ⟨_, rfl⟩, hW, hsame.mono (by decide) (by decide)⟩
        · exact retN X34 hx (t := .boolean) Bd.returns (by simp) (hb hby at_211) hr
        · show Q0 Z  h0 n0 _ T34.heap _
          rw [e34q]
          exact ⟨rfl, N34⟩
      · have pre38 : ∀ t, Steps p.tables e below (T19.setTop (mkF m 159 #[.val (.long xa), .second, .val (.long ya), .second, .val (.int mo), .val (.long dd), .second, .val (.long qq), .second, .val (.long (xa &&& (4294967295 : Int64))), .second, .val (.long (ya &&& (4294967295 : Int64))), .second, .val (.long lo), .second, .val (.long hi), .second, .val (.ref b14), .val (.int (mo &&& (3 : Int32))), .val (.long pp), .second, .val (.int (1 : Int32)), .unset] [(.long pp), (.ref b14)])) t → Steps p.tables e below (s₁.setTop (entryFrame m #[(.long xa), (.long ya), (.int mo), (.long dd), (.long qq)] maxLocals)) t := fun t kt => pre32 t (by
          refine XS.ifNo X19.here hx rfl (hb hby at_140) rfl ((if0 _ _).trans (flt (mt (lw_gt _ _).mp c140_6)).2.2.1) ?_
          show Steps p.tables e below (T19.setTop (mkF m 143 #[.val (.long xa), .second, .val (.long ya), .second, .val (.int mo), .val (.long dd), .second, .val (.long qq), .second, .val (.long (xa &&& (4294967295 : Int64))), .second, .val (.long (ya &&& (4294967295 : Int64))), .second, .val (.long lo), .second, .val (.long hi), .second, .val (.ref b14), .val (.int (mo &&& (3 : Int32))), .val (.long pp), .second, .unset, .unset] [])) _
          refine XS.iconst X19.here hx rfl (hb hby at_143) ?_
          show Steps p.tables e below (T19.setTop (mkF m 144 #[.val (.long xa), .second, .val (.long ya), .second, .val (.int mo), .val (.long dd), .second, .val (.long qq), .second, .val (.long (xa &&& (4294967295 : Int64))), .second, .val (.long (ya &&& (4294967295 : Int64))), .second, .val (.long lo), .second, .val (.long hi), .second, .val (.ref b14), .val (.int (mo &&& (3 : Int32))), .val (.long pp), .second, .unset, .unset] [(.int (1 : Int32))])) _
          refine XS.goto X19.here hx rfl (pc0 := 144) (pc' := 148) rfl (hb hby at_144) (by decide) (by decide) ?_
          show Steps p.tables e below (T19.setTop (mkF m 148 #[.val (.long xa), .second, .val (.long ya), .second, .val (.int mo), .val (.long dd), .second, .val (.long qq), .second, .val (.long (xa &&& (4294967295 : Int64))), .second, .val (.long (ya &&& (4294967295 : Int64))), .second, .val (.long lo), .second, .val (.long hi), .second, .val (.ref b14), .val (.int (mo &&& (3 : Int32))), .val (.long pp), .second, .unset, .unset] [(.int (1 : Int32))])) _
          refine XS.istore X19.here hx rfl (hb hby at_148) rfl (l' := #[.val (.long xa), .second, .val (.long ya), .second, .val (.int mo), .val (.long dd), .second, .val (.long qq), .second, .val (.long (xa &&& (4294967295 : Int64))), .second, .val (.long (ya &&& (4294967295 : Int64))), .second, .val (.long lo), .second, .val (.long hi), .second, .val (.ref b14), .val (.int (mo &&& (3 : Int32))), .val (.long pp), .second, .val (.int (1 : Int32)), .unset]) rfl ?_
          show Steps p.tables e below (T19.setTop (mkF m 150 #[.val (.long xa), .second, .val (.long ya), .second, .val (.int mo), .val (.long dd), .second, .val (.long qq), .second, .val (.long (xa &&& (4294967295 : Int64))), .second, .val (.long (ya &&& (4294967295 : Int64))), .second, .val (.long lo), .second, .val (.long hi), .second, .val (.ref b14), .val (.int (mo &&& (3 : Int32))), .val (.long pp), .second, .val (.int (1 : Int32)), .unset] [])) _
          refine XS.iload X19.here hx rfl (hb hby at_150) rfl ?_
          show Steps p.tables e below (T19.setTop (mkF m 152 #[.val (.long xa), .second, .val (.long ya), .second, .val (.int mo), .val (.long dd), .second, .val (.long qq), .second, .val (.long (xa &&& (4294967295 : Int64))), .second, .val (.long (ya &&& (4294967295 : Int64))), .second, .val (.long lo), .second, .val (.long hi), .second, .val (.ref b14), .val (.int (mo &&& (3 : Int32))), .val (.long pp), .second, .val (.int (1 : Int32)), .unset] [(.int (1 : Int32))])) _
          refine XS.ifNo X19.here hx rfl (hb hby at_152) rfl ((if0 _ _).trans (feq (by decide : ¬ ((1 : Int32) = (0 : Int32)))).1) ?_
          show Steps p.tables e below (T19.setTop (mkF m 155 #[.val (.long xa), .second, .val (.long ya), .second, .val (.int mo), .val (.long dd), .second, .val (.long qq), .second, .val (.long (xa &&& (4294967295 : Int64))), .second, .val (.long (ya &&& (4294967295 : Int64))), .second, .val (.long lo), .second, .val (.long hi), .second, .val (.ref b14), .val (.int (mo &&& (3 : Int32))), .val (.long pp), .second, .val (.int (1 : Int32)), .unset] [])) _
          refine XS.aload X19.here hx rfl (hb hby at_155) rfl rfl ?_
          show Steps p.tables e below (T19.setTop (mkF m 157 #[.val (.long xa), .second, .val (.long ya), .second, .val (.int mo), .val (.long dd), .second, .val (.long qq), .second, .val (.long (xa &&& (4294967295 : Int64))), .second, .val (.long (ya &&& (4294967295 : Int64))), .second, .val (.long lo), .second, .val (.long hi), .second, .val (.ref b14), .val (.int (mo &&& (3 : Int32))), .val (.long pp), .second, .val (.int (1 : Int32)), .unset] [(.ref b14)])) _
          refine XS.lload X19.here hx rfl (hb hby at_157) rfl ?_
          show Steps p.tables e below (T19.setTop (mkF m 159 #[.val (.long xa), .second, .val (.long ya), .second, .val (.int mo), .val (.long dd), .second, .val (.long qq), .second, .val (.long (xa &&& (4294967295 : Int64))), .second, .val (.long (ya &&& (4294967295 : Int64))), .second, .val (.long lo), .second, .val (.long hi), .second, .val (.ref b14), .val (.int (mo &&& (3 : Int32))), .val (.long pp), .second, .val (.int (1 : Int32)), .unset] [(.long pp), (.ref b14)])) _
          exact kt)
        by_cases c159_7 : pp < lo
        · obtain ⟨cq39, kq39, q39a, q39b, q39c⟩ := isOf hZ rfl (f20)
          obtain ⟨_, _, ⟨T39, L39, k39, n39⟩, -, X39, ⟨Lc39, hQ39, l39, y39, z39⟩, st39⟩ := X19.virtualBack hx (y := (⟨"com/example/calm_balancer/calmbalancer/BundleRange", "contains", "(J)Z"⟩ : MethodName)) (z := (⟨"com/example/calm_balancer/calmbalancer/BundleRange", "contains", "(J)Z"⟩ : MethodName)) hown (mvT hZ (hw _ (List.mem_of_getElem? (i := 22) rfl))) (mvT hZ (hw _ (List.mem_of_getElem? (i := 23) rfl))) (notFace_of_selects (args := #[]) (mvT hZ (hw _ (List.mem_of_getElem? (i := 25) rfl)))) (mvT hZ (hw _ (List.mem_of_getElem? (i := 25) rfl))) (mvT hZ (hw _ (List.mem_of_getElem? (i := 24) rfl))) (by decide) (backOf (W := 0) (rmC l Z a0 hw [] b14 pp lo hi T19.heap n0 Zf21 Fl19 Fu19 c131_5 c140_6) hZ (hw _ (List.mem_of_getElem? (i := 26) rfl)) (hw _ (List.mem_of_getElem? (i := 10) rfl)) (by decide) (by decide)) q39a q39c (g := (mkF m 159 #[.val (.long xa), .second, .val (.long ya), .second, .val (.int mo), .val (.long dd), .second, .val (.long qq), .second, .val (.long (xa &&& (4294967295 : Int64))), .second, .val (.long (ya &&& (4294967295 : Int64))), .second, .val (.long lo), .second, .val (.long hi), .second, .val (.ref b14), .val (.int (mo &&& (3 : Int32))), .val (.long pp), .second, .val (.int (1 : Int32)), .unset] [(.long pp), (.ref b14)])) rfl (by rw [hml]; rfl) (Steps.refl _) (argsL := [(.long pp)]) (rest := []) (lenOf pd__28J_29Z rfl) rfl (by show 2 * 0 + _ ≤ _; exact Nat.le_of_eq rfl) (hb hby at_159) (fun _ _ => ⟨rfl, rfl, (by decide : 1 + 0 ≤ _), (by decide : 2 + 0 ≤ _)⟩)
          dsimp only [Pt.U, Pt.locs, Pt.cells, Pt.slots] at X39 l39 y39 z39 st39 hQ39
          subst l39 y39 z39
          obtain ⟨rfl, N39q, e39q⟩ := hQ39
          have N39 := Fr.app N19 N39q
          have pre40 : ∀ t, Steps p.tables e below (T39.setTop (mkF m 162 #[.val (.long xa), .second, .val (.long ya), .second, .val (.int mo), .val (.long dd), .second, .val (.long qq), .second, .val (.long (xa &&& (4294967295 : Int64))), .second, .val (.long (ya &&& (4294967295 : Int64))), .second, .val (.long lo), .second, .val (.long hi), .second, .val (.ref b14), .val (.int (mo &&& (3 : Int32))), .val (.long pp), .second, .val (.int (1 : Int32)), .unset] [(.int (if pp < lo then (0 : Int32) else (if pp < hi then (1 : Int32) else (if hi = (4294967295 : Int64) then (1 : Int32) else (0 : Int32)))))])) t → Steps p.tables e below (s₁.setTop (entryFrame m #[(.long xa), (.long ya), (.int mo), (.long dd), (.long qq)] maxLocals)) t := fun t kt => pre38 t (st39.trans kt)
          have hv41 : (if pp < lo then (0 : Int32) else (if pp < hi then (1 : Int32) else (if hi = (4294967295 : Int64) then (1 : Int32) else (0 : Int32)))) = (0 : Int32) := by rw [if_pos c159_7]
          have pre41 : ∀ t, Steps p.tables e below (T39.setTop (mkF m 162 #[.val (.long xa), .second, .val (.long ya), .second, .val (.int mo), .val (.long dd), .second, .val (.long qq), .second, .val (.long (xa &&& (4294967295 : Int64))), .second, .val (.long (ya &&& (4294967295 : Int64))), .second, .val (.long lo), .second, .val (.long hi), .second, .val (.ref b14), .val (.int (mo &&& (3 : Int32))), .val (.long pp), .second, .val (.int (1 : Int32)), .unset] [(.int (0 : Int32))])) t → Steps p.tables e below (s₁.setTop (entryFrame m #[(.long xa), (.long ya), (.int mo), (.long dd), (.long qq)] maxLocals)) t := fun t kt => pre40 t (by rw [hv41]; exact kt)
          have pre42 : ∀ t, Steps p.tables e below (T39.setTop (mkF m 198 #[.val (.long xa), .second, .val (.long ya), .second, .val (.int mo), .val (.long dd), .second, .val (.long qq), .second, .val (.long (xa &&& (4294967295 : Int64))), .second, .val (.long (ya &&& (4294967295 : Int64))), .second, .val (.long lo), .second, .val (.long hi), .second, .val (.ref b14), .val (.int (mo &&& (3 : Int32))), .val (.long pp), .second, .val (.int (1 : Int32)), .val (.int (0 : Int32))] [(.long pp), (.ref b14)])) t → Steps p.tables e below (s₁.setTop (entryFrame m #[(.long xa), (.long ya), (.int mo), (.long dd), (.long qq)] maxLocals)) t := fun t kt => pre41 t (by
            refine XS.ifYes X39.here hx rfl (pc0 := 162) (pc' := 191) rfl (hb hby at_162) rfl ((if0 _ _).trans (teq rfl).1) (by decide) (by decide) ?_
            show Steps p.tables e below (T39.setTop (mkF m 191 #[.val (.long xa), .second, .val (.long ya), .second, .val (.int mo), .val (.long dd), .second, .val (.long qq), .second, .val (.long (xa &&& (4294967295 : Int64))), .second, .val (.long (ya &&& (4294967295 : Int64))), .second, .val (.long lo), .second, .val (.long hi), .second, .val (.ref b14), .val (.int (mo &&& (3 : Int32))), .val (.long pp), .second, .val (.int (1 : Int32)), .unset] [])) _
            refine XS.iconst X39.here hx rfl (hb hby at_191) ?_
            show Steps p.tables e below (T39.setTop (mkF m 192 #[.val (.long xa), .second, .val (.long ya), .second, .val (.int mo), .val (.long dd), .second, .val (.long qq), .second, .val (.long (xa &&& (4294967295 : Int64))), .second, .val (.long (ya &&& (4294967295 : Int64))), .second, .val (.long lo), .second, .val (.long hi), .second, .val (.ref b14), .val (.int (mo &&& (3 : Int32))), .val (.long pp), .second, .val (.int (1 : Int32)), .unset] [(.int (0 : Int32))])) _
            refine XS.istore X39.here hx rfl (hb hby at_192) rfl (l' := #[.val (.long xa), .second, .val (.long ya), .second, .val (.int mo), .val (.long dd), .second, .val (.long qq), .second, .val (.long (xa &&& (4294967295 : Int64))), .second, .val (.long (ya &&& (4294967295 : Int64))), .second, .val (.long lo), .second, .val (.long hi), .second, .val (.ref b14), .val (.int (mo &&& (3 : Int32))), .val (.long pp), .second, .val (.int (1 : Int32)), .val (.int (0 : Int32))]) rfl ?_
            show Steps p.tables e below (T39.setTop (mkF m 194 #[.val (.long xa), .second, .val (.long ya), .second, .val (.int mo), .val (.long dd), .second, .val (.long qq), .second, .val (.long (xa &&& (4294967295 : Int64))), .second, .val (.long (ya &&& (4294967295 : Int64))), .second, .val (.long lo), .second, .val (.long hi), .second, .val (.ref b14), .val (.int (mo &&& (3 : Int32))), .val (.long pp), .second, .val (.int (1 : Int32)), .val (.int (0 : Int32))] [])) _
            refine XS.aload X39.here hx rfl (hb hby at_194) rfl rfl ?_
            show Steps p.tables e below (T39.setTop (mkF m 196 #[.val (.long xa), .second, .val (.long ya), .second, .val (.int mo), .val (.long dd), .second, .val (.long qq), .second, .val (.long (xa &&& (4294967295 : Int64))), .second, .val (.long (ya &&& (4294967295 : Int64))), .second, .val (.long lo), .second, .val (.long hi), .second, .val (.ref b14), .val (.int (mo &&& (3 : Int32))), .val (.long pp), .second, .val (.int (1 : Int32)), .val (.int (0 : Int32))] [(.ref b14)])) _
            refine XS.lload X39.here hx rfl (hb hby at_196) rfl ?_
            show Steps p.tables e below (T39.setTop (mkF m 198 #[.val (.long xa), .second, .val (.long ya), .second, .val (.int mo), .val (.long dd), .second, .val (.long qq), .second, .val (.long (xa &&& (4294967295 : Int64))), .second, .val (.long (ya &&& (4294967295 : Int64))), .second, .val (.long lo), .second, .val (.long hi), .second, .val (.ref b14), .val (.int (mo &&& (3 : Int32))), .val (.long pp), .second, .val (.int (1 : Int32)), .val (.int (0 : Int32))] [(.long pp), (.ref b14)])) _
            exact kt)
          obtain ⟨cq43, kq43, q43a, q43b, q43c⟩ := isOf hZ e39q (f20)
          obtain ⟨_, _, ⟨T43, L43, k43, n43⟩, -, X43, ⟨Lc43, hQ43, l43, y43, z43⟩, st43⟩ := X39.virtualBack hx (y := (⟨"com/example/calm_balancer/calmbalancer/BundleRange", "canCutAt", "(J)Z"⟩ : MethodName)) (z := (⟨"com/example/calm_balancer/calmbalancer/BundleRange", "canCutAt", "(J)Z"⟩ : MethodName)) hown (mvT hZ (hw _ (List.mem_of_getElem? (i := 30) rfl))) (mvT hZ (hw _ (List.mem_of_getElem? (i := 31) rfl))) (notFace_of_selects (args := #[]) (mvT hZ (hw _ (List.mem_of_getElem? (i := 33) rfl)))) (mvT hZ (hw _ (List.mem_of_getElem? (i := 33) rfl))) (mvT hZ (hw _ (List.mem_of_getElem? (i := 32) rfl))) (by decide) (backOf (W := 0) (rmK l Z a0 hw [] b14 pp lo hi T19.heap n0 Zf21 Fl19 Fu19) hZ (hw _ (List.mem_of_getElem? (i := 34) rfl)) (hw _ (List.mem_of_getElem? (i := 10) rfl)) (by decide) (by decide)) q43a q43c (g := (mkF m 198 #[.val (.long xa), .second, .val (.long ya), .second, .val (.int mo), .val (.long dd), .second, .val (.long qq), .second, .val (.long (xa &&& (4294967295 : Int64))), .second, .val (.long (ya &&& (4294967295 : Int64))), .second, .val (.long lo), .second, .val (.long hi), .second, .val (.ref b14), .val (.int (mo &&& (3 : Int32))), .val (.long pp), .second, .val (.int (1 : Int32)), .val (.int (0 : Int32))] [(.long pp), (.ref b14)])) rfl (by rw [hml]; rfl) (Steps.refl _) (argsL := [(.long pp)]) (rest := []) (lenOf pd__28J_29Z rfl) rfl (by show 2 * 0 + _ ≤ _; exact Nat.le_of_eq rfl) (hb hby at_198) (fun _ _ => ⟨rfl, e39q, (by decide : 1 + 0 ≤ _), (by decide : 2 + 0 ≤ _)⟩)
          dsimp only [Pt.U, Pt.locs, Pt.cells, Pt.slots] at X43 l43 y43 z43 st43 hQ43
          subst l43 y43 z43
          obtain ⟨rfl, N43q, e43q⟩ := hQ43
          have N43 := Fr.app N39 N43q
          have pre44 : ∀ t, Steps p.tables e below (T43.setTop (mkF m 201 #[.val (.long xa), .second, .val (.long ya), .second, .val (.int mo), .val (.long dd), .second, .val (.long qq), .second, .val (.long (xa &&& (4294967295 : Int64))), .second, .val (.long (ya &&& (4294967295 : Int64))), .second, .val (.long lo), .second, .val (.long hi), .second, .val (.ref b14), .val (.int (mo &&& (3 : Int32))), .val (.long pp), .second, .val (.int (1 : Int32)), .val (.int (0 : Int32))] [(.int (if lo < pp then (if pp < hi then (1 : Int32) else (0 : Int32)) else (0 : Int32)))])) t → Steps p.tables e below (s₁.setTop (entryFrame m #[(.long xa), (.long ya), (.int mo), (.long dd), (.long qq)] maxLocals)) t := fun t kt => pre42 t (st43.trans kt)
          have pre45 : ∀ t, Steps p.tables e below (T43.setTop (mkF m 211 #[.val (.long xa), .second, .val (.long ya), .second, .val (.int mo), .val (.long dd), .second, .val (.long qq), .second, .val (.long (xa &&& (4294967295 : Int64))), .second, .val (.long (ya &&& (4294967295 : Int64))), .second, .val (.long lo), .second, .val (.long hi), .second, .val (.ref b14), .val (.int (mo &&& (3 : Int32))), .val (.long pp), .second, .val (.int (1 : Int32)), .val (.int (0 : Int32))] [(.int (1 : Int32))])) t → Steps p.tables e below (s₁.setTop (entryFrame m #[(.long xa), (.long ya), (.int mo), (.long dd), (.long qq)] maxLocals)) t := fun t kt => pre44 t (by
            refine XS.iload X43.here hx rfl (hb hby at_201) rfl ?_
            show Steps p.tables e below (T43.setTop (mkF m 203 #[.val (.long xa), .second, .val (.long ya), .second, .val (.int mo), .val (.long dd), .second, .val (.long qq), .second, .val (.long (xa &&& (4294967295 : Int64))), .second, .val (.long (ya &&& (4294967295 : Int64))), .second, .val (.long lo), .second, .val (.long hi), .second, .val (.ref b14), .val (.int (mo &&& (3 : Int32))), .val (.long pp), .second, .val (.int (1 : Int32)), .val (.int (0 : Int32))] [(.int (0 : Int32)), (.int (if lo < pp then (if pp < hi then (1 : Int32) else (0 : Int32)) else (0 : Int32)))])) _
            refine XS.icmpNo X43.here hx rfl (hb hby at_203) rfl (teq (by
              have i_c37_1 := mt Int64.toInt_inj.mp c37_1
              have i_c131_5 := mt Int64.lt_iff_toInt_lt.mpr c131_5
              have i_c140_6 := mt Int64.lt_iff_toInt_lt.mpr c140_6
              have i_c159_7 := Int64.lt_iff_toInt_lt.mp c159_7
              exact own_cut0 (by omega) : (if lo < pp then (if pp < hi then (1 : Int32) else (0 : Int32)) else (0 : Int32)) = (0 : Int32))).2 ?_
            show Steps p.tables e below (T43.setTop (mkF m 206 #[.val (.long xa), .second, .val (.long ya), .second, .val (.int mo), .val (.long dd), .second, .val (.long qq), .second, .val (.long (xa &&& (4294967295 : Int64))), .second, .val (.long (ya &&& (4294967295 : Int64))), .second, .val (.long lo), .second, .val (.long hi), .second, .val (.ref b14), .val (.int (mo &&& (3 : Int32))), .val (.long pp), .second, .val (.int (1 : Int32)), .val (.int (0 : Int32))] [])) _
            refine XS.iconst X43.here hx rfl (hb hby at_206) ?_
            show Steps p.tables e below (T43.setTop (mkF m 207 #[.val (.long xa), .second, .val (.long ya), .second, .val (.int mo), .val (.long dd), .second, .val (.long qq), .second, .val (.long (xa &&& (4294967295 : Int64))), .second, .val (.long (ya &&& (4294967295 : Int64))), .second, .val (.long lo), .second, .val (.long hi), .second, .val (.ref b14), .val (.int (mo &&& (3 : Int32))), .val (.long pp), .second, .val (.int (1 : Int32)), .val (.int (0 : Int32))] [(.int (1 : Int32))])) _
            refine XS.goto X43.here hx rfl (pc0 := 207) (pc' := 211) rfl (hb hby at_207) (by decide) (by decide) ?_
            show Steps p.tables e below (T43.setTop (mkF m 211 #[.val (.long xa), .second, .val (.long ya), .second, .val (.int mo), .val (.long dd), .second, .val (.long qq), .second, .val (.long (xa &&& (4294967295 : Int64))), .second, .val (.long (ya &&& (4294967295 : Int64))), .second, .val (.long lo), .second, .val (.long hi), .second, .val (.ref b14), .val (.int (mo &&& (3 : Int32))), .val (.long pp), .second, .val (.int (1 : Int32)), .val (.int (0 : Int32))] [(.int (1 : Int32))])) _
            exact kt)
          obtain ⟨fs, hr, hrun, hended, hW, hsame⟩ := X43.leave (v := (some (.int (1 : Int32)))) (fun h => by rw [Bd.returns] at h; cases h)
          refine ⟨_, _, pre45 _ ?_, hrun, hended, _, _, rfl, ?_, ⟨_, rfl⟩, hW, hsame.mono (by decide) (by decide)⟩
          · exact retN X43 hx (t := .boolean) Bd.returns (by simp) (hb hby at_211) hr
          · show Q0 Z  h0 n0 _ T43.heap _
            rw [e43q]
            exact ⟨rfl, N43⟩
        · by_cases c159_8 : pp < hi
          · obtain ⟨cq47, kq47, q47a, q47b, q47c⟩ := isOf hZ rfl (f20)
            obtain ⟨_, _, ⟨T47, L47, k47, n47⟩, -, X47, ⟨Lc47, hQ47, l47, y47, z47⟩, st47⟩ := X19.virtualBack hx (y := (⟨"com/example/calm_balancer/calmbalancer/BundleRange", "contains", "(J)Z"⟩ : MethodName)) (z := (⟨"com/example/calm_balancer/calmbalancer/BundleRange", "contains", "(J)Z"⟩ : MethodName)) hown (mvT hZ (hw _ (List.mem_of_getElem? (i := 22) rfl))) (mvT hZ (hw _ (List.mem_of_getElem? (i := 23) rfl))) (notFace_of_selects (args := #[]) (mvT hZ (hw _ (List.mem_of_getElem? (i := 25) rfl)))) (mvT hZ (hw _ (List.mem_of_getElem? (i := 25) rfl))) (mvT hZ (hw _ (List.mem_of_getElem? (i := 24) rfl))) (by decide) (backOf (W := 0) (rmC l Z a0 hw [] b14 pp lo hi T19.heap n0 Zf21 Fl19 Fu19 c131_5 c140_6) hZ (hw _ (List.mem_of_getElem? (i := 26) rfl)) (hw _ (List.mem_of_getElem? (i := 10) rfl)) (by decide) (by decide)) q47a q47c (g := (mkF m 159 #[.val (.long xa), .second, .val (.long ya), .second, .val (.int mo), .val (.long dd), .second, .val (.long qq), .second, .val (.long (xa &&& (4294967295 : Int64))), .second, .val (.long (ya &&& (4294967295 : Int64))), .second, .val (.long lo), .second, .val (.long hi), .second, .val (.ref b14), .val (.int (mo &&& (3 : Int32))), .val (.long pp), .second, .val (.int (1 : Int32)), .unset] [(.long pp), (.ref b14)])) rfl (by rw [hml]; rfl) (Steps.refl _) (argsL := [(.long pp)]) (rest := []) (lenOf pd__28J_29Z rfl) rfl (by show 2 * 0 + _ ≤ _; exact Nat.le_of_eq rfl) (hb hby at_159) (fun _ _ => ⟨rfl, rfl, (by decide : 1 + 0 ≤ _), (by decide : 2 + 0 ≤ _)⟩)
            dsimp only [Pt.U, Pt.locs, Pt.cells, Pt.slots] at X47 l47 y47 z47 st47 hQ47
            subst l47 y47 z47
            obtain ⟨rfl, N47q, e47q⟩ := hQ47
            have N47 := Fr.app N19 N47q
            have pre48 : ∀ t, Steps p.tables e below (T47.setTop (mkF m 162 #[.val (.long xa), .second, .val (.long ya), .second, .val (.int mo), .val (.long dd), .second, .val (.long qq), .second, .val (.long (xa &&& (4294967295 : Int64))), .second, .val (.long (ya &&& (4294967295 : Int64))), .second, .val (.long lo), .second, .val (.long hi), .second, .val (.ref b14), .val (.int (mo &&& (3 : Int32))), .val (.long pp), .second, .val (.int (1 : Int32)), .unset] [(.int (if pp < lo then (0 : Int32) else (if pp < hi then (1 : Int32) else (if hi = (4294967295 : Int64) then (1 : Int32) else (0 : Int32)))))])) t → Steps p.tables e below (s₁.setTop (entryFrame m #[(.long xa), (.long ya), (.int mo), (.long dd), (.long qq)] maxLocals)) t := fun t kt => pre38 t (st47.trans kt)
            have hv49 : (if pp < lo then (0 : Int32) else (if pp < hi then (1 : Int32) else (if hi = (4294967295 : Int64) then (1 : Int32) else (0 : Int32)))) = (1 : Int32) := by rw [if_neg c159_7, if_pos c159_8]
            have pre49 : ∀ t, Steps p.tables e below (T47.setTop (mkF m 162 #[.val (.long xa), .second, .val (.long ya), .second, .val (.int mo), .val (.long dd), .second, .val (.long qq), .second, .val (.long (xa &&& (4294967295 : Int64))), .second, .val (.long (ya &&& (4294967295 : Int64))), .second, .val (.long lo), .second, .val (.long hi), .second, .val (.ref b14), .val (.int (mo &&& (3 : Int32))), .val (.long pp), .second, .val (.int (1 : Int32)), .unset] [(.int (1 : Int32))])) t → Steps p.tables e below (s₁.setTop (entryFrame m #[(.long xa), (.long ya), (.int mo), (.long dd), (.long qq)] maxLocals)) t := fun t kt => pre48 t (by rw [hv49]; exact kt)
            have pre50 : ∀ t, Steps p.tables e below (T47.setTop (mkF m 169 #[.val (.long xa), .second, .val (.long ya), .second, .val (.int mo), .val (.long dd), .second, .val (.long qq), .second, .val (.long (xa &&& (4294967295 : Int64))), .second, .val (.long (ya &&& (4294967295 : Int64))), .second, .val (.long lo), .second, .val (.long hi), .second, .val (.ref b14), .val (.int (mo &&& (3 : Int32))), .val (.long pp), .second, .val (.int (1 : Int32)), .unset] [(.ref b14), (.long pp)])) t → Steps p.tables e below (s₁.setTop (entryFrame m #[(.long xa), (.long ya), (.int mo), (.long dd), (.long qq)] maxLocals)) t := fun t kt => pre49 t (by
              refine XS.ifNo X47.here hx rfl (hb hby at_162) rfl ((if0 _ _).trans (feq (by decide : ¬ ((1 : Int32) = (0 : Int32)))).1) ?_
              show Steps p.tables e below (T47.setTop (mkF m 165 #[.val (.long xa), .second, .val (.long ya), .second, .val (.int mo), .val (.long dd), .second, .val (.long qq), .second, .val (.long (xa &&& (4294967295 : Int64))), .second, .val (.long (ya &&& (4294967295 : Int64))), .second, .val (.long lo), .second, .val (.long hi), .second, .val (.ref b14), .val (.int (mo &&& (3 : Int32))), .val (.long pp), .second, .val (.int (1 : Int32)), .unset] [])) _
              refine XS.lload X47.here hx rfl (hb hby at_165) rfl ?_
              show Steps p.tables e below (T47.setTop (mkF m 167 #[.val (.long xa), .second, .val (.long ya), .second, .val (.int mo), .val (.long dd), .second, .val (.long qq), .second, .val (.long (xa &&& (4294967295 : Int64))), .second, .val (.long (ya &&& (4294967295 : Int64))), .second, .val (.long lo), .second, .val (.long hi), .second, .val (.ref b14), .val (.int (mo &&& (3 : Int32))), .val (.long pp), .second, .val (.int (1 : Int32)), .unset] [(.long pp)])) _
              refine XS.aload X47.here hx rfl (hb hby at_167) rfl rfl ?_
              show Steps p.tables e below (T47.setTop (mkF m 169 #[.val (.long xa), .second, .val (.long ya), .second, .val (.int mo), .val (.long dd), .second, .val (.long qq), .second, .val (.long (xa &&& (4294967295 : Int64))), .second, .val (.long (ya &&& (4294967295 : Int64))), .second, .val (.long lo), .second, .val (.long hi), .second, .val (.ref b14), .val (.int (mo &&& (3 : Int32))), .val (.long pp), .second, .val (.int (1 : Int32)), .unset] [(.ref b14), (.long pp)])) _
              exact kt)
            obtain ⟨cq51, kq51, q51a, q51b, q51c⟩ := isOf hZ e47q (f20)
            obtain ⟨_, _, ⟨T51, L51, k51, n51⟩, -, X51, ⟨Lc51, hQ51, l51, y51, z51⟩, st51⟩ := X47.virtualBack hx (y := (⟨"com/example/calm_balancer/calmbalancer/BundleRange", "lower", "()J"⟩ : MethodName)) (z := (⟨"com/example/calm_balancer/calmbalancer/BundleRange", "lower", "()J"⟩ : MethodName)) hown (mvT hZ (hw _ (List.mem_of_getElem? (i := 36) rfl))) (mvT hZ (hw _ (List.mem_of_getElem? (i := 37) rfl))) (notFace_of_selects (args := #[]) (mvT hZ (hw _ (List.mem_of_getElem? (i := 39) rfl)))) (mvT hZ (hw _ (List.mem_of_getElem? (i := 39) rfl))) (mvT hZ (hw _ (List.mem_of_getElem? (i := 38) rfl))) (by decide) (backOf (W := 2) (rmlower l Z a0 hw [] b14 _ T19.heap n0 Zf21 Fl19) hZ (hw _ (List.mem_of_getElem? (i := 40) rfl)) (hw _ (List.mem_of_getElem? (i := 10) rfl)) (by decide) (by decide)) q51a q51c (g := (mkF m 169 #[.val (.long xa), .second, .val (.long ya), .second, .val (.int mo), .val (.long dd), .second, .val (.long qq), .second, .val (.long (xa &&& (4294967295 : Int64))), .second, .val (.long (ya &&& (4294967295 : Int64))), .second, .val (.long lo), .second, .val (.long hi), .second, .val (.ref b14), .val (.int (mo &&& (3 : Int32))), .val (.long pp), .second, .val (.int (1 : Int32)), .unset] [(.ref b14), (.long pp)])) rfl (by rw [hml]; rfl) (Steps.refl _) (argsL := []) (rest := [(.long pp)]) (lenOf pd__28_29J rfl) rfl (by show 2 * 0 + _ ≤ _; exact Nat.le_of_eq rfl) (hb hby at_169) (fun _ _ => ⟨rfl, e47q, (by decide : 1 + 0 ≤ _), (by decide : 2 + 0 ≤ _)⟩)
            dsimp only [Pt.U, Pt.locs, Pt.cells, Pt.slots] at X51 l51 y51 z51 st51 hQ51
            subst l51 y51 z51
            obtain ⟨rfl, N51q, e51q⟩ := hQ51
            have N51 := Fr.app N47 N51q
            have pre52 : ∀ t, Steps p.tables e below (T51.setTop (mkF m 172 #[.val (.long xa), .second, .val (.long ya), .second, .val (.int mo), .val (.long dd), .second, .val (.long qq), .second, .val (.long (xa &&& (4294967295 : Int64))), .second, .val (.long (ya &&& (4294967295 : Int64))), .second, .val (.long lo), .second, .val (.long hi), .second, .val (.ref b14), .val (.int (mo &&& (3 : Int32))), .val (.long pp), .second, .val (.int (1 : Int32)), .unset] [(.long lo), (.long pp)])) t → Steps p.tables e below (s₁.setTop (entryFrame m #[(.long xa), (.long ya), (.int mo), (.long dd), (.long qq)] maxLocals)) t := fun t kt => pre50 t (st51.trans kt)
            have pre53 : ∀ t, Steps p.tables e below (T51.setTop (mkF m 173 #[.val (.long xa), .second, .val (.long ya), .second, .val (.int mo), .val (.long dd), .second, .val (.long qq), .second, .val (.long (xa &&& (4294967295 : Int64))), .second, .val (.long (ya &&& (4294967295 : Int64))), .second, .val (.long lo), .second, .val (.long hi), .second, .val (.ref b14), .val (.int (mo &&& (3 : Int32))), .val (.long pp), .second, .val (.int (1 : Int32)), .unset] [(.int (lcmpW pp lo))])) t → Steps p.tables e below (s₁.setTop (entryFrame m #[(.long xa), (.long ya), (.int mo), (.long dd), (.long qq)] maxLocals)) t := fun t kt => pre52 t (by
              refine XS.lcmp X51.here hx rfl (hb hby at_172) rfl ?_
              show Steps p.tables e below (T51.setTop (mkF m 173 #[.val (.long xa), .second, .val (.long ya), .second, .val (.int mo), .val (.long dd), .second, .val (.long qq), .second, .val (.long (xa &&& (4294967295 : Int64))), .second, .val (.long (ya &&& (4294967295 : Int64))), .second, .val (.long lo), .second, .val (.long hi), .second, .val (.ref b14), .val (.int (mo &&& (3 : Int32))), .val (.long pp), .second, .val (.int (1 : Int32)), .unset] [(.int (lcmpW pp lo))])) _
              exact kt)
            by_cases c173_9 : pp = lo
            · have pre54 : ∀ t, Steps p.tables e below (T51.setTop (mkF m 198 #[.val (.long xa), .second, .val (.long ya), .second, .val (.int mo), .val (.long dd), .second, .val (.long qq), .second, .val (.long (xa &&& (4294967295 : Int64))), .second, .val (.long (ya &&& (4294967295 : Int64))), .second, .val (.long lo), .second, .val (.long hi), .second, .val (.ref b14), .val (.int (mo &&& (3 : Int32))), .val (.long pp), .second, .val (.int (1 : Int32)), .val (.int (0 : Int32))] [(.long pp), (.ref b14)])) t → Steps p.tables e below (s₁.setTop (entryFrame m #[(.long xa), (.long ya), (.int mo), (.long dd), (.long qq)] maxLocals)) t := fun t kt => pre53 t (by
                refine XS.ifYes X51.here hx rfl (pc0 := 173) (pc' := 191) rfl (hb hby at_173) rfl ((if0 _ _).trans (teq ((lw_eq _ _).mpr c173_9)).1) (by decide) (by decide) ?_
                show Steps p.tables e below (T51.setTop (mkF m 191 #[.val (.long xa), .second, .val (.long ya), .second, .val (.int mo), .val (.long dd), .second, .val (.long qq), .second, .val (.long (xa &&& (4294967295 : Int64))), .second, .val (.long (ya &&& (4294967295 : Int64))), .second, .val (.long lo), .second, .val (.long hi), .second, .val (.ref b14), .val (.int (mo &&& (3 : Int32))), .val (.long pp), .second, .val (.int (1 : Int32)), .unset] [])) _
                refine XS.iconst X51.here hx rfl (hb hby at_191) ?_
                show Steps p.tables e below (T51.setTop (mkF m 192 #[.val (.long xa), .second, .val (.long ya), .second, .val (.int mo), .val (.long dd), .second, .val (.long qq), .second, .val (.long (xa &&& (4294967295 : Int64))), .second, .val (.long (ya &&& (4294967295 : Int64))), .second, .val (.long lo), .second, .val (.long hi), .second, .val (.ref b14), .val (.int (mo &&& (3 : Int32))), .val (.long pp), .second, .val (.int (1 : Int32)), .unset] [(.int (0 : Int32))])) _
                refine XS.istore X51.here hx rfl (hb hby at_192) rfl (l' := #[.val (.long xa), .second, .val (.long ya), .second, .val (.int mo), .val (.long dd), .second, .val (.long qq), .second, .val (.long (xa &&& (4294967295 : Int64))), .second, .val (.long (ya &&& (4294967295 : Int64))), .second, .val (.long lo), .second, .val (.long hi), .second, .val (.ref b14), .val (.int (mo &&& (3 : Int32))), .val (.long pp), .second, .val (.int (1 : Int32)), .val (.int (0 : Int32))]) rfl ?_
                show Steps p.tables e below (T51.setTop (mkF m 194 #[.val (.long xa), .second, .val (.long ya), .second, .val (.int mo), .val (.long dd), .second, .val (.long qq), .second, .val (.long (xa &&& (4294967295 : Int64))), .second, .val (.long (ya &&& (4294967295 : Int64))), .second, .val (.long lo), .second, .val (.long hi), .second, .val (.ref b14), .val (.int (mo &&& (3 : Int32))), .val (.long pp), .second, .val (.int (1 : Int32)), .val (.int (0 : Int32))] [])) _
                refine XS.aload X51.here hx rfl (hb hby at_194) rfl rfl ?_
                show Steps p.tables e below (T51.setTop (mkF m 196 #[.val (.long xa), .second, .val (.long ya), .second, .val (.int mo), .val (.long dd), .second, .val (.long qq), .second, .val (.long (xa &&& (4294967295 : Int64))), .second, .val (.long (ya &&& (4294967295 : Int64))), .second, .val (.long lo), .second, .val (.long hi), .second, .val (.ref b14), .val (.int (mo &&& (3 : Int32))), .val (.long pp), .second, .val (.int (1 : Int32)), .val (.int (0 : Int32))] [(.ref b14)])) _
                refine XS.lload X51.here hx rfl (hb hby at_196) rfl ?_
                show Steps p.tables e below (T51.setTop (mkF m 198 #[.val (.long xa), .second, .val (.long ya), .second, .val (.int mo), .val (.long dd), .second, .val (.long qq), .second, .val (.long (xa &&& (4294967295 : Int64))), .second, .val (.long (ya &&& (4294967295 : Int64))), .second, .val (.long lo), .second, .val (.long hi), .second, .val (.ref b14), .val (.int (mo &&& (3 : Int32))), .val (.long pp), .second, .val (.int (1 : Int32)), .val (.int (0 : Int32))] [(.long pp), (.ref b14)])) _
                exact kt)
              obtain ⟨cq55, kq55, q55a, q55b, q55c⟩ := isOf hZ e51q (f20)
              obtain ⟨_, _, ⟨T55, L55, k55, n55⟩, -, X55, ⟨Lc55, hQ55, l55, y55, z55⟩, st55⟩ := X51.virtualBack hx (y := (⟨"com/example/calm_balancer/calmbalancer/BundleRange", "canCutAt", "(J)Z"⟩ : MethodName)) (z := (⟨"com/example/calm_balancer/calmbalancer/BundleRange", "canCutAt", "(J)Z"⟩ : MethodName)) hown (mvT hZ (hw _ (List.mem_of_getElem? (i := 30) rfl))) (mvT hZ (hw _ (List.mem_of_getElem? (i := 31) rfl))) (notFace_of_selects (args := #[]) (mvT hZ (hw _ (List.mem_of_getElem? (i := 33) rfl)))) (mvT hZ (hw _ (List.mem_of_getElem? (i := 33) rfl))) (mvT hZ (hw _ (List.mem_of_getElem? (i := 32) rfl))) (by decide) (backOf (W := 0) (rmK l Z a0 hw [] b14 pp lo hi T19.heap n0 Zf21 Fl19 Fu19) hZ (hw _ (List.mem_of_getElem? (i := 34) rfl)) (hw _ (List.mem_of_getElem? (i := 10) rfl)) (by decide) (by decide)) q55a q55c (g := (mkF m 198 #[.val (.long xa), .second, .val (.long ya), .second, .val (.int mo), .val (.long dd), .second, .val (.long qq), .second, .val (.long (xa &&& (4294967295 : Int64))), .second, .val (.long (ya &&& (4294967295 : Int64))), .second, .val (.long lo), .second, .val (.long hi), .second, .val (.ref b14), .val (.int (mo &&& (3 : Int32))), .val (.long pp), .second, .val (.int (1 : Int32)), .val (.int (0 : Int32))] [(.long pp), (.ref b14)])) rfl (by rw [hml]; rfl) (Steps.refl _) (argsL := [(.long pp)]) (rest := []) (lenOf pd__28J_29Z rfl) rfl (by show 2 * 0 + _ ≤ _; exact Nat.le_of_eq rfl) (hb hby at_198) (fun _ _ => ⟨rfl, e51q, (by decide : 1 + 0 ≤ _), (by decide : 2 + 0 ≤ _)⟩)
              dsimp only [Pt.U, Pt.locs, Pt.cells, Pt.slots] at X55 l55 y55 z55 st55 hQ55
              subst l55 y55 z55
              obtain ⟨rfl, N55q, e55q⟩ := hQ55
              have N55 := Fr.app N51 N55q
              have pre56 : ∀ t, Steps p.tables e below (T55.setTop (mkF m 201 #[.val (.long xa), .second, .val (.long ya), .second, .val (.int mo), .val (.long dd), .second, .val (.long qq), .second, .val (.long (xa &&& (4294967295 : Int64))), .second, .val (.long (ya &&& (4294967295 : Int64))), .second, .val (.long lo), .second, .val (.long hi), .second, .val (.ref b14), .val (.int (mo &&& (3 : Int32))), .val (.long pp), .second, .val (.int (1 : Int32)), .val (.int (0 : Int32))] [(.int (if lo < pp then (if pp < hi then (1 : Int32) else (0 : Int32)) else (0 : Int32)))])) t → Steps p.tables e below (s₁.setTop (entryFrame m #[(.long xa), (.long ya), (.int mo), (.long dd), (.long qq)] maxLocals)) t := fun t kt => pre54 t (st55.trans kt)
              have pre57 : ∀ t, Steps p.tables e below (T55.setTop (mkF m 211 #[.val (.long xa), .second, .val (.long ya), .second, .val (.int mo), .val (.long dd), .second, .val (.long qq), .second, .val (.long (xa &&& (4294967295 : Int64))), .second, .val (.long (ya &&& (4294967295 : Int64))), .second, .val (.long lo), .second, .val (.long hi), .second, .val (.ref b14), .val (.int (mo &&& (3 : Int32))), .val (.long pp), .second, .val (.int (1 : Int32)), .val (.int (0 : Int32))] [(.int (1 : Int32))])) t → Steps p.tables e below (s₁.setTop (entryFrame m #[(.long xa), (.long ya), (.int mo), (.long dd), (.long qq)] maxLocals)) t := fun t kt => pre56 t (by
                refine XS.iload X55.here hx rfl (hb hby at_201) rfl ?_
                show Steps p.tables e below (T55.setTop (mkF m 203 #[.val (.long xa), .second, .val (.long ya), .second, .val (.int mo), .val (.long dd), .second, .val (.long qq), .second, .val (.long (xa &&& (4294967295 : Int64))), .second, .val (.long (ya &&& (4294967295 : Int64))), .second, .val (.long lo), .second, .val (.long hi), .second, .val (.ref b14), .val (.int (mo &&& (3 : Int32))), .val (.long pp), .second, .val (.int (1 : Int32)), .val (.int (0 : Int32))] [(.int (0 : Int32)), (.int (if lo < pp then (if pp < hi then (1 : Int32) else (0 : Int32)) else (0 : Int32)))])) _
                refine XS.icmpNo X55.here hx rfl (hb hby at_203) rfl (teq (by
                  have i_c37_1 := mt Int64.toInt_inj.mp c37_1
                  have i_c131_5 := mt Int64.lt_iff_toInt_lt.mpr c131_5
                  have i_c140_6 := mt Int64.lt_iff_toInt_lt.mpr c140_6
                  have i_c159_7 := mt Int64.lt_iff_toInt_lt.mpr c159_7
                  have i_c159_8 := Int64.lt_iff_toInt_lt.mp c159_8
                  have i_c173_9 := Int64.toInt_inj.mpr c173_9
                  exact own_cut0 (by omega) : (if lo < pp then (if pp < hi then (1 : Int32) else (0 : Int32)) else (0 : Int32)) = (0 : Int32))).2 ?_
                show Steps p.tables e below (T55.setTop (mkF m 206 #[.val (.long xa), .second, .val (.long ya), .second, .val (.int mo), .val (.long dd), .second, .val (.long qq), .second, .val (.long (xa &&& (4294967295 : Int64))), .second, .val (.long (ya &&& (4294967295 : Int64))), .second, .val (.long lo), .second, .val (.long hi), .second, .val (.ref b14), .val (.int (mo &&& (3 : Int32))), .val (.long pp), .second, .val (.int (1 : Int32)), .val (.int (0 : Int32))] [])) _
                refine XS.iconst X55.here hx rfl (hb hby at_206) ?_
                show Steps p.tables e below (T55.setTop (mkF m 207 #[.val (.long xa), .second, .val (.long ya), .second, .val (.int mo), .val (.long dd), .second, .val (.long qq), .second, .val (.long (xa &&& (4294967295 : Int64))), .second, .val (.long (ya &&& (4294967295 : Int64))), .second, .val (.long lo), .second, .val (.long hi), .second, .val (.ref b14), .val (.int (mo &&& (3 : Int32))), .val (.long pp), .second, .val (.int (1 : Int32)), .val (.int (0 : Int32))] [(.int (1 : Int32))])) _
                refine XS.goto X55.here hx rfl (pc0 := 207) (pc' := 211) rfl (hb hby at_207) (by decide) (by decide) ?_
                show Steps p.tables e below (T55.setTop (mkF m 211 #[.val (.long xa), .second, .val (.long ya), .second, .val (.int mo), .val (.long dd), .second, .val (.long qq), .second, .val (.long (xa &&& (4294967295 : Int64))), .second, .val (.long (ya &&& (4294967295 : Int64))), .second, .val (.long lo), .second, .val (.long hi), .second, .val (.ref b14), .val (.int (mo &&& (3 : Int32))), .val (.long pp), .second, .val (.int (1 : Int32)), .val (.int (0 : Int32))] [(.int (1 : Int32))])) _
                exact kt)
              obtain ⟨fs, hr, hrun, hended, hW, hsame⟩ := X55.leave (v := (some (.int (1 : Int32)))) (fun h => by rw [Bd.returns] at h; cases h)
              refine ⟨_, _, pre57 _ ?_, hrun, hended, _, _, rfl, ?_, ⟨_, rfl⟩, hW, hsame.mono (by decide) (by decide)⟩
              · exact retN X55 hx (t := .boolean) Bd.returns (by simp) (hb hby at_211) hr
              · show Q0 Z  h0 n0 _ T55.heap _
                rw [e55q]
                exact ⟨rfl, N55⟩
            · have pre59 : ∀ t, Steps p.tables e below (T51.setTop (mkF m 180 #[.val (.long xa), .second, .val (.long ya), .second, .val (.int mo), .val (.long dd), .second, .val (.long qq), .second, .val (.long (xa &&& (4294967295 : Int64))), .second, .val (.long (ya &&& (4294967295 : Int64))), .second, .val (.long lo), .second, .val (.long hi), .second, .val (.ref b14), .val (.int (mo &&& (3 : Int32))), .val (.long pp), .second, .val (.int (1 : Int32)), .unset] [(.ref b14), (.long pp)])) t → Steps p.tables e below (s₁.setTop (entryFrame m #[(.long xa), (.long ya), (.int mo), (.long dd), (.long qq)] maxLocals)) t := fun t kt => pre53 t (by
                refine XS.ifNo X51.here hx rfl (hb hby at_173) rfl ((if0 _ _).trans (feq (mt (lw_eq _ _).mp c173_9)).1) ?_
                show Steps p.tables e below (T51.setTop (mkF m 176 #[.val (.long xa), .second, .val (.long ya), .second, .val (.int mo), .val (.long dd), .second, .val (.long qq), .second, .val (.long (xa &&& (4294967295 : Int64))), .second, .val (.long (ya &&& (4294967295 : Int64))), .second, .val (.long lo), .second, .val (.long hi), .second, .val (.ref b14), .val (.int (mo &&& (3 : Int32))), .val (.long pp), .second, .val (.int (1 : Int32)), .unset] [])) _
                refine XS.lload X51.here hx rfl (hb hby at_176) rfl ?_
                show Steps p.tables e below (T51.setTop (mkF m 178 #[.val (.long xa), .second, .val (.long ya), .second, .val (.int mo), .val (.long dd), .second, .val (.long qq), .second, .val (.long (xa &&& (4294967295 : Int64))), .second, .val (.long (ya &&& (4294967295 : Int64))), .second, .val (.long lo), .second, .val (.long hi), .second, .val (.ref b14), .val (.int (mo &&& (3 : Int32))), .val (.long pp), .second, .val (.int (1 : Int32)), .unset] [(.long pp)])) _
                refine XS.aload X51.here hx rfl (hb hby at_178) rfl rfl ?_
                show Steps p.tables e below (T51.setTop (mkF m 180 #[.val (.long xa), .second, .val (.long ya), .second, .val (.int mo), .val (.long dd), .second, .val (.long qq), .second, .val (.long (xa &&& (4294967295 : Int64))), .second, .val (.long (ya &&& (4294967295 : Int64))), .second, .val (.long lo), .second, .val (.long hi), .second, .val (.ref b14), .val (.int (mo &&& (3 : Int32))), .val (.long pp), .second, .val (.int (1 : Int32)), .unset] [(.ref b14), (.long pp)])) _
                exact kt)
              obtain ⟨cq60, kq60, q60a, q60b, q60c⟩ := isOf hZ e51q (f20)
              obtain ⟨_, _, ⟨T60, L60, k60, n60⟩, -, X60, ⟨Lc60, hQ60, l60, y60, z60⟩, st60⟩ := X51.virtualBack hx (y := (⟨"com/example/calm_balancer/calmbalancer/BundleRange", "upper", "()J"⟩ : MethodName)) (z := (⟨"com/example/calm_balancer/calmbalancer/BundleRange", "upper", "()J"⟩ : MethodName)) hown (mvT hZ (hw _ (List.mem_of_getElem? (i := 41) rfl))) (mvT hZ (hw _ (List.mem_of_getElem? (i := 42) rfl))) (notFace_of_selects (args := #[]) (mvT hZ (hw _ (List.mem_of_getElem? (i := 44) rfl)))) (mvT hZ (hw _ (List.mem_of_getElem? (i := 44) rfl))) (mvT hZ (hw _ (List.mem_of_getElem? (i := 43) rfl))) (by decide) (backOf (W := 2) (rmupper l Z a0 hw [] b14 _ T19.heap n0 Zf21 Fu19) hZ (hw _ (List.mem_of_getElem? (i := 45) rfl)) (hw _ (List.mem_of_getElem? (i := 10) rfl)) (by decide) (by decide)) q60a q60c (g := (mkF m 180 #[.val (.long xa), .second, .val (.long ya), .second, .val (.int mo), .val (.long dd), .second, .val (.long qq), .second, .val (.long (xa &&& (4294967295 : Int64))), .second, .val (.long (ya &&& (4294967295 : Int64))), .second, .val (.long lo), .second, .val (.long hi), .second, .val (.ref b14), .val (.int (mo &&& (3 : Int32))), .val (.long pp), .second, .val (.int (1 : Int32)), .unset] [(.ref b14), (.long pp)])) rfl (by rw [hml]; rfl) (Steps.refl _) (argsL := []) (rest := [(.long pp)]) (lenOf pd__28_29J rfl) rfl (by show 2 * 0 + _ ≤ _; exact Nat.le_of_eq rfl) (hb hby at_180) (fun _ _ => ⟨rfl, e51q, (by decide : 1 + 0 ≤ _), (by decide : 2 + 0 ≤ _)⟩)
              dsimp only [Pt.U, Pt.locs, Pt.cells, Pt.slots] at X60 l60 y60 z60 st60 hQ60
              subst l60 y60 z60
              obtain ⟨rfl, N60q, e60q⟩ := hQ60
              have N60 := Fr.app N51 N60q
              have pre61 : ∀ t, Steps p.tables e below (T60.setTop (mkF m 183 #[.val (.long xa), .second, .val (.long ya), .second, .val (.int mo), .val (.long dd), .second, .val (.long qq), .second, .val (.long (xa &&& (4294967295 : Int64))), .second, .val (.long (ya &&& (4294967295 : Int64))), .second, .val (.long lo), .second, .val (.long hi), .second, .val (.ref b14), .val (.int (mo &&& (3 : Int32))), .val (.long pp), .second, .val (.int (1 : Int32)), .unset] [(.long hi), (.long pp)])) t → Steps p.tables e below (s₁.setTop (entryFrame m #[(.long xa), (.long ya), (.int mo), (.long dd), (.long qq)] maxLocals)) t := fun t kt => pre59 t (st60.trans kt)
              have pre62 : ∀ t, Steps p.tables e below (T60.setTop (mkF m 184 #[.val (.long xa), .second, .val (.long ya), .second, .val (.int mo), .val (.long dd), .second, .val (.long qq), .second, .val (.long (xa &&& (4294967295 : Int64))), .second, .val (.long (ya &&& (4294967295 : Int64))), .second, .val (.long lo), .second, .val (.long hi), .second, .val (.ref b14), .val (.int (mo &&& (3 : Int32))), .val (.long pp), .second, .val (.int (1 : Int32)), .unset] [(.int (lcmpW pp hi))])) t → Steps p.tables e below (s₁.setTop (entryFrame m #[(.long xa), (.long ya), (.int mo), (.long dd), (.long qq)] maxLocals)) t := fun t kt => pre61 t (by
                refine XS.lcmp X60.here hx rfl (hb hby at_183) rfl ?_
                show Steps p.tables e below (T60.setTop (mkF m 184 #[.val (.long xa), .second, .val (.long ya), .second, .val (.int mo), .val (.long dd), .second, .val (.long qq), .second, .val (.long (xa &&& (4294967295 : Int64))), .second, .val (.long (ya &&& (4294967295 : Int64))), .second, .val (.long lo), .second, .val (.long hi), .second, .val (.ref b14), .val (.int (mo &&& (3 : Int32))), .val (.long pp), .second, .val (.int (1 : Int32)), .unset] [(.int (lcmpW pp hi))])) _
                exact kt)
              by_cases c184_10 : pp = hi
              · have pre63 : ∀ t, Steps p.tables e below (T60.setTop (mkF m 198 #[.val (.long xa), .second, .val (.long ya), .second, .val (.int mo), .val (.long dd), .second, .val (.long qq), .second, .val (.long (xa &&& (4294967295 : Int64))), .second, .val (.long (ya &&& (4294967295 : Int64))), .second, .val (.long lo), .second, .val (.long hi), .second, .val (.ref b14), .val (.int (mo &&& (3 : Int32))), .val (.long pp), .second, .val (.int (1 : Int32)), .val (.int (0 : Int32))] [(.long pp), (.ref b14)])) t → Steps p.tables e below (s₁.setTop (entryFrame m #[(.long xa), (.long ya), (.int mo), (.long dd), (.long qq)] maxLocals)) t := fun t kt => pre62 t (by
                  refine XS.ifYes X60.here hx rfl (pc0 := 184) (pc' := 191) rfl (hb hby at_184) rfl ((if0 _ _).trans (teq ((lw_eq _ _).mpr c184_10)).1) (by decide) (by decide) ?_
                  show Steps p.tables e below (T60.setTop (mkF m 191 #[.val (.long xa), .second, .val (.long ya), .second, .val (.int mo), .val (.long dd), .second, .val (.long qq), .second, .val (.long (xa &&& (4294967295 : Int64))), .second, .val (.long (ya &&& (4294967295 : Int64))), .second, .val (.long lo), .second, .val (.long hi), .second, .val (.ref b14), .val (.int (mo &&& (3 : Int32))), .val (.long pp), .second, .val (.int (1 : Int32)), .unset] [])) _
                  refine XS.iconst X60.here hx rfl (hb hby at_191) ?_
                  show Steps p.tables e below (T60.setTop (mkF m 192 #[.val (.long xa), .second, .val (.long ya), .second, .val (.int mo), .val (.long dd), .second, .val (.long qq), .second, .val (.long (xa &&& (4294967295 : Int64))), .second, .val (.long (ya &&& (4294967295 : Int64))), .second, .val (.long lo), .second, .val (.long hi), .second, .val (.ref b14), .val (.int (mo &&& (3 : Int32))), .val (.long pp), .second, .val (.int (1 : Int32)), .unset] [(.int (0 : Int32))])) _
                  refine XS.istore X60.here hx rfl (hb hby at_192) rfl (l' := #[.val (.long xa), .second, .val (.long ya), .second, .val (.int mo), .val (.long dd), .second, .val (.long qq), .second, .val (.long (xa &&& (4294967295 : Int64))), .second, .val (.long (ya &&& (4294967295 : Int64))), .second, .val (.long lo), .second, .val (.long hi), .second, .val (.ref b14), .val (.int (mo &&& (3 : Int32))), .val (.long pp), .second, .val (.int (1 : Int32)), .val (.int (0 : Int32))]) rfl ?_
                  show Steps p.tables e below (T60.setTop (mkF m 194 #[.val (.long xa), .second, .val (.long ya), .second, .val (.int mo), .val (.long dd), .second, .val (.long qq), .second, .val (.long (xa &&& (4294967295 : Int64))), .second, .val (.long (ya &&& (4294967295 : Int64))), .second, .val (.long lo), .second, .val (.long hi), .second, .val (.ref b14), .val (.int (mo &&& (3 : Int32))), .val (.long pp), .second, .val (.int (1 : Int32)), .val (.int (0 : Int32))] [])) _
                  refine XS.aload X60.here hx rfl (hb hby at_194) rfl rfl ?_
                  show Steps p.tables e below (T60.setTop (mkF m 196 #[.val (.long xa), .second, .val (.long ya), .second, .val (.int mo), .val (.long dd), .second, .val (.long qq), .second, .val (.long (xa &&& (4294967295 : Int64))), .second, .val (.long (ya &&& (4294967295 : Int64))), .second, .val (.long lo), .second, .val (.long hi), .second, .val (.ref b14), .val (.int (mo &&& (3 : Int32))), .val (.long pp), .second, .val (.int (1 : Int32)), .val (.int (0 : Int32))] [(.ref b14)])) _
                  refine XS.lload X60.here hx rfl (hb hby at_196) rfl ?_
                  show Steps p.tables e below (T60.setTop (mkF m 198 #[.val (.long xa), .second, .val (.long ya), .second, .val (.int mo), .val (.long dd), .second, .val (.long qq), .second, .val (.long (xa &&& (4294967295 : Int64))), .second, .val (.long (ya &&& (4294967295 : Int64))), .second, .val (.long lo), .second, .val (.long hi), .second, .val (.ref b14), .val (.int (mo &&& (3 : Int32))), .val (.long pp), .second, .val (.int (1 : Int32)), .val (.int (0 : Int32))] [(.long pp), (.ref b14)])) _
                  exact kt)
                obtain ⟨cq64, kq64, q64a, q64b, q64c⟩ := isOf hZ e60q (f20)
                obtain ⟨_, _, ⟨T64, L64, k64, n64⟩, -, X64, ⟨Lc64, hQ64, l64, y64, z64⟩, st64⟩ := X60.virtualBack hx (y := (⟨"com/example/calm_balancer/calmbalancer/BundleRange", "canCutAt", "(J)Z"⟩ : MethodName)) (z := (⟨"com/example/calm_balancer/calmbalancer/BundleRange", "canCutAt", "(J)Z"⟩ : MethodName)) hown (mvT hZ (hw _ (List.mem_of_getElem? (i := 30) rfl))) (mvT hZ (hw _ (List.mem_of_getElem? (i := 31) rfl))) (notFace_of_selects (args := #[]) (mvT hZ (hw _ (List.mem_of_getElem? (i := 33) rfl)))) (mvT hZ (hw _ (List.mem_of_getElem? (i := 33) rfl))) (mvT hZ (hw _ (List.mem_of_getElem? (i := 32) rfl))) (by decide) (backOf (W := 0) (rmK l Z a0 hw [] b14 pp lo hi T19.heap n0 Zf21 Fl19 Fu19) hZ (hw _ (List.mem_of_getElem? (i := 34) rfl)) (hw _ (List.mem_of_getElem? (i := 10) rfl)) (by decide) (by decide)) q64a q64c (g := (mkF m 198 #[.val (.long xa), .second, .val (.long ya), .second, .val (.int mo), .val (.long dd), .second, .val (.long qq), .second, .val (.long (xa &&& (4294967295 : Int64))), .second, .val (.long (ya &&& (4294967295 : Int64))), .second, .val (.long lo), .second, .val (.long hi), .second, .val (.ref b14), .val (.int (mo &&& (3 : Int32))), .val (.long pp), .second, .val (.int (1 : Int32)), .val (.int (0 : Int32))] [(.long pp), (.ref b14)])) rfl (by rw [hml]; rfl) (Steps.refl _) (argsL := [(.long pp)]) (rest := []) (lenOf pd__28J_29Z rfl) rfl (by show 2 * 0 + _ ≤ _; exact Nat.le_of_eq rfl) (hb hby at_198) (fun _ _ => ⟨rfl, e60q, (by decide : 1 + 0 ≤ _), (by decide : 2 + 0 ≤ _)⟩)
                dsimp only [Pt.U, Pt.locs, Pt.cells, Pt.slots] at X64 l64 y64 z64 st64 hQ64
                subst l64 y64 z64
                obtain ⟨rfl, N64q, e64q⟩ := hQ64
                have N64 := Fr.app N60 N64q
                have pre65 : ∀ t, Steps p.tables e below (T64.setTop (mkF m 201 #[.val (.long xa), .second, .val (.long ya), .second, .val (.int mo), .val (.long dd), .second, .val (.long qq), .second, .val (.long (xa &&& (4294967295 : Int64))), .second, .val (.long (ya &&& (4294967295 : Int64))), .second, .val (.long lo), .second, .val (.long hi), .second, .val (.ref b14), .val (.int (mo &&& (3 : Int32))), .val (.long pp), .second, .val (.int (1 : Int32)), .val (.int (0 : Int32))] [(.int (if lo < pp then (if pp < hi then (1 : Int32) else (0 : Int32)) else (0 : Int32)))])) t → Steps p.tables e below (s₁.setTop (entryFrame m #[(.long xa), (.long ya), (.int mo), (.long dd), (.long qq)] maxLocals)) t := fun t kt => pre63 t (st64.trans kt)
                have pre66 : ∀ t, Steps p.tables e below (T64.setTop (mkF m 211 #[.val (.long xa), .second, .val (.long ya), .second, .val (.int mo), .val (.long dd), .second, .val (.long qq), .second, .val (.long (xa &&& (4294967295 : Int64))), .second, .val (.long (ya &&& (4294967295 : Int64))), .second, .val (.long lo), .second, .val (.long hi), .second, .val (.ref b14), .val (.int (mo &&& (3 : Int32))), .val (.long pp), .second, .val (.int (1 : Int32)), .val (.int (0 : Int32))] [(.int (1 : Int32))])) t → Steps p.tables e below (s₁.setTop (entryFrame m #[(.long xa), (.long ya), (.int mo), (.long dd), (.long qq)] maxLocals)) t := fun t kt => pre65 t (by
                  refine XS.iload X64.here hx rfl (hb hby at_201) rfl ?_
                  show Steps p.tables e below (T64.setTop (mkF m 203 #[.val (.long xa), .second, .val (.long ya), .second, .val (.int mo), .val (.long dd), .second, .val (.long qq), .second, .val (.long (xa &&& (4294967295 : Int64))), .second, .val (.long (ya &&& (4294967295 : Int64))), .second, .val (.long lo), .second, .val (.long hi), .second, .val (.ref b14), .val (.int (mo &&& (3 : Int32))), .val (.long pp), .second, .val (.int (1 : Int32)), .val (.int (0 : Int32))] [(.int (0 : Int32)), (.int (if lo < pp then (if pp < hi then (1 : Int32) else (0 : Int32)) else (0 : Int32)))])) _
                  refine XS.icmpNo X64.here hx rfl (hb hby at_203) rfl (teq (by
                    have i_c37_1 := mt Int64.toInt_inj.mp c37_1
                    have i_c131_5 := mt Int64.lt_iff_toInt_lt.mpr c131_5
                    have i_c140_6 := mt Int64.lt_iff_toInt_lt.mpr c140_6
                    have i_c159_7 := mt Int64.lt_iff_toInt_lt.mpr c159_7
                    have i_c159_8 := Int64.lt_iff_toInt_lt.mp c159_8
                    have i_c173_9 := mt Int64.toInt_inj.mp c173_9
                    have i_c184_10 := Int64.toInt_inj.mpr c184_10
                    exact own_cut0 (by omega) : (if lo < pp then (if pp < hi then (1 : Int32) else (0 : Int32)) else (0 : Int32)) = (0 : Int32))).2 ?_
                  show Steps p.tables e below (T64.setTop (mkF m 206 #[.val (.long xa), .second, .val (.long ya), .second, .val (.int mo), .val (.long dd), .second, .val (.long qq), .second, .val (.long (xa &&& (4294967295 : Int64))), .second, .val (.long (ya &&& (4294967295 : Int64))), .second, .val (.long lo), .second, .val (.long hi), .second, .val (.ref b14), .val (.int (mo &&& (3 : Int32))), .val (.long pp), .second, .val (.int (1 : Int32)), .val (.int (0 : Int32))] [])) _
                  refine XS.iconst X64.here hx rfl (hb hby at_206) ?_
                  show Steps p.tables e below (T64.setTop (mkF m 207 #[.val (.long xa), .second, .val (.long ya), .second, .val (.int mo), .val (.long dd), .second, .val (.long qq), .second, .val (.long (xa &&& (4294967295 : Int64))), .second, .val (.long (ya &&& (4294967295 : Int64))), .second, .val (.long lo), .second, .val (.long hi), .second, .val (.ref b14), .val (.int (mo &&& (3 : Int32))), .val (.long pp), .second, .val (.int (1 : Int32)), .val (.int (0 : Int32))] [(.int (1 : Int32))])) _
                  refine XS.goto X64.here hx rfl (pc0 := 207) (pc' := 211) rfl (hb hby at_207) (by decide) (by decide) ?_
                  show Steps p.tables e below (T64.setTop (mkF m 211 #[.val (.long xa), .second, .val (.long ya), .second, .val (.int mo), .val (.long dd), .second, .val (.long qq), .second, .val (.long (xa &&& (4294967295 : Int64))), .second, .val (.long (ya &&& (4294967295 : Int64))), .second, .val (.long lo), .second, .val (.long hi), .second, .val (.ref b14), .val (.int (mo &&& (3 : Int32))), .val (.long pp), .second, .val (.int (1 : Int32)), .val (.int (0 : Int32))] [(.int (1 : Int32))])) _
                  exact kt)
                obtain ⟨fs, hr, hrun, hended, hW, hsame⟩ := X64.leave (v := (some (.int (1 : Int32)))) (fun h => by rw [Bd.returns] at h; cases h)
                refine ⟨_, _, pre66 _ ?_, hrun, hended, _, _, rfl, ?_, ⟨_, rfl⟩, hW, hsame.mono (by decide) (by decide)⟩
                · exact retN X64 hx (t := .boolean) Bd.returns (by simp) (hb hby at_211) hr
                · show Q0 Z  h0 n0 _ T64.heap _
                  rw [e64q]
                  exact ⟨rfl, N64⟩
              · have pre68 : ∀ t, Steps p.tables e below (T60.setTop (mkF m 198 #[.val (.long xa), .second, .val (.long ya), .second, .val (.int mo), .val (.long dd), .second, .val (.long qq), .second, .val (.long (xa &&& (4294967295 : Int64))), .second, .val (.long (ya &&& (4294967295 : Int64))), .second, .val (.long lo), .second, .val (.long hi), .second, .val (.ref b14), .val (.int (mo &&& (3 : Int32))), .val (.long pp), .second, .val (.int (1 : Int32)), .val (.int (1 : Int32))] [(.long pp), (.ref b14)])) t → Steps p.tables e below (s₁.setTop (entryFrame m #[(.long xa), (.long ya), (.int mo), (.long dd), (.long qq)] maxLocals)) t := fun t kt => pre62 t (by
                  refine XS.ifNo X60.here hx rfl (hb hby at_184) rfl ((if0 _ _).trans (feq (mt (lw_eq _ _).mp c184_10)).1) ?_
                  show Steps p.tables e below (T60.setTop (mkF m 187 #[.val (.long xa), .second, .val (.long ya), .second, .val (.int mo), .val (.long dd), .second, .val (.long qq), .second, .val (.long (xa &&& (4294967295 : Int64))), .second, .val (.long (ya &&& (4294967295 : Int64))), .second, .val (.long lo), .second, .val (.long hi), .second, .val (.ref b14), .val (.int (mo &&& (3 : Int32))), .val (.long pp), .second, .val (.int (1 : Int32)), .unset] [])) _
                  refine XS.iconst X60.here hx rfl (hb hby at_187) ?_
                  show Steps p.tables e below (T60.setTop (mkF m 188 #[.val (.long xa), .second, .val (.long ya), .second, .val (.int mo), .val (.long dd), .second, .val (.long qq), .second, .val (.long (xa &&& (4294967295 : Int64))), .second, .val (.long (ya &&& (4294967295 : Int64))), .second, .val (.long lo), .second, .val (.long hi), .second, .val (.ref b14), .val (.int (mo &&& (3 : Int32))), .val (.long pp), .second, .val (.int (1 : Int32)), .unset] [(.int (1 : Int32))])) _
                  refine XS.goto X60.here hx rfl (pc0 := 188) (pc' := 192) rfl (hb hby at_188) (by decide) (by decide) ?_
                  show Steps p.tables e below (T60.setTop (mkF m 192 #[.val (.long xa), .second, .val (.long ya), .second, .val (.int mo), .val (.long dd), .second, .val (.long qq), .second, .val (.long (xa &&& (4294967295 : Int64))), .second, .val (.long (ya &&& (4294967295 : Int64))), .second, .val (.long lo), .second, .val (.long hi), .second, .val (.ref b14), .val (.int (mo &&& (3 : Int32))), .val (.long pp), .second, .val (.int (1 : Int32)), .unset] [(.int (1 : Int32))])) _
                  refine XS.istore X60.here hx rfl (hb hby at_192) rfl (l' := #[.val (.long xa), .second, .val (.long ya), .second, .val (.int mo), .val (.long dd), .second, .val (.long qq), .second, .val (.long (xa &&& (4294967295 : Int64))), .second, .val (.long (ya &&& (4294967295 : Int64))), .second, .val (.long lo), .second, .val (.long hi), .second, .val (.ref b14), .val (.int (mo &&& (3 : Int32))), .val (.long pp), .second, .val (.int (1 : Int32)), .val (.int (1 : Int32))]) rfl ?_
                  show Steps p.tables e below (T60.setTop (mkF m 194 #[.val (.long xa), .second, .val (.long ya), .second, .val (.int mo), .val (.long dd), .second, .val (.long qq), .second, .val (.long (xa &&& (4294967295 : Int64))), .second, .val (.long (ya &&& (4294967295 : Int64))), .second, .val (.long lo), .second, .val (.long hi), .second, .val (.ref b14), .val (.int (mo &&& (3 : Int32))), .val (.long pp), .second, .val (.int (1 : Int32)), .val (.int (1 : Int32))] [])) _
                  refine XS.aload X60.here hx rfl (hb hby at_194) rfl rfl ?_
                  show Steps p.tables e below (T60.setTop (mkF m 196 #[.val (.long xa), .second, .val (.long ya), .second, .val (.int mo), .val (.long dd), .second, .val (.long qq), .second, .val (.long (xa &&& (4294967295 : Int64))), .second, .val (.long (ya &&& (4294967295 : Int64))), .second, .val (.long lo), .second, .val (.long hi), .second, .val (.ref b14), .val (.int (mo &&& (3 : Int32))), .val (.long pp), .second, .val (.int (1 : Int32)), .val (.int (1 : Int32))] [(.ref b14)])) _
                  refine XS.lload X60.here hx rfl (hb hby at_196) rfl ?_
                  show Steps p.tables e below (T60.setTop (mkF m 198 #[.val (.long xa), .second, .val (.long ya), .second, .val (.int mo), .val (.long dd), .second, .val (.long qq), .second, .val (.long (xa &&& (4294967295 : Int64))), .second, .val (.long (ya &&& (4294967295 : Int64))), .second, .val (.long lo), .second, .val (.long hi), .second, .val (.ref b14), .val (.int (mo &&& (3 : Int32))), .val (.long pp), .second, .val (.int (1 : Int32)), .val (.int (1 : Int32))] [(.long pp), (.ref b14)])) _
                  exact kt)
                obtain ⟨cq69, kq69, q69a, q69b, q69c⟩ := isOf hZ e60q (f20)
                obtain ⟨_, _, ⟨T69, L69, k69, n69⟩, -, X69, ⟨Lc69, hQ69, l69, y69, z69⟩, st69⟩ := X60.virtualBack hx (y := (⟨"com/example/calm_balancer/calmbalancer/BundleRange", "canCutAt", "(J)Z"⟩ : MethodName)) (z := (⟨"com/example/calm_balancer/calmbalancer/BundleRange", "canCutAt", "(J)Z"⟩ : MethodName)) hown (mvT hZ (hw _ (List.mem_of_getElem? (i := 30) rfl))) (mvT hZ (hw _ (List.mem_of_getElem? (i := 31) rfl))) (notFace_of_selects (args := #[]) (mvT hZ (hw _ (List.mem_of_getElem? (i := 33) rfl)))) (mvT hZ (hw _ (List.mem_of_getElem? (i := 33) rfl))) (mvT hZ (hw _ (List.mem_of_getElem? (i := 32) rfl))) (by decide) (backOf (W := 0) (rmK l Z a0 hw [] b14 pp lo hi T19.heap n0 Zf21 Fl19 Fu19) hZ (hw _ (List.mem_of_getElem? (i := 34) rfl)) (hw _ (List.mem_of_getElem? (i := 10) rfl)) (by decide) (by decide)) q69a q69c (g := (mkF m 198 #[.val (.long xa), .second, .val (.long ya), .second, .val (.int mo), .val (.long dd), .second, .val (.long qq), .second, .val (.long (xa &&& (4294967295 : Int64))), .second, .val (.long (ya &&& (4294967295 : Int64))), .second, .val (.long lo), .second, .val (.long hi), .second, .val (.ref b14), .val (.int (mo &&& (3 : Int32))), .val (.long pp), .second, .val (.int (1 : Int32)), .val (.int (1 : Int32))] [(.long pp), (.ref b14)])) rfl (by rw [hml]; rfl) (Steps.refl _) (argsL := [(.long pp)]) (rest := []) (lenOf pd__28J_29Z rfl) rfl (by show 2 * 0 + _ ≤ _; exact Nat.le_of_eq rfl) (hb hby at_198) (fun _ _ => ⟨rfl, e60q, (by decide : 1 + 0 ≤ _), (by decide : 2 + 0 ≤ _)⟩)
                dsimp only [Pt.U, Pt.locs, Pt.cells, Pt.slots] at X69 l69 y69 z69 st69 hQ69
                subst l69 y69 z69
                obtain ⟨rfl, N69q, e69q⟩ := hQ69
                have N69 := Fr.app N60 N69q
                have pre70 : ∀ t, Steps p.tables e below (T69.setTop (mkF m 201 #[.val (.long xa), .second, .val (.long ya), .second, .val (.int mo), .val (.long dd), .second, .val (.long qq), .second, .val (.long (xa &&& (4294967295 : Int64))), .second, .val (.long (ya &&& (4294967295 : Int64))), .second, .val (.long lo), .second, .val (.long hi), .second, .val (.ref b14), .val (.int (mo &&& (3 : Int32))), .val (.long pp), .second, .val (.int (1 : Int32)), .val (.int (1 : Int32))] [(.int (if lo < pp then (if pp < hi then (1 : Int32) else (0 : Int32)) else (0 : Int32)))])) t → Steps p.tables e below (s₁.setTop (entryFrame m #[(.long xa), (.long ya), (.int mo), (.long dd), (.long qq)] maxLocals)) t := fun t kt => pre68 t (st69.trans kt)
                have pre71 : ∀ t, Steps p.tables e below (T69.setTop (mkF m 211 #[.val (.long xa), .second, .val (.long ya), .second, .val (.int mo), .val (.long dd), .second, .val (.long qq), .second, .val (.long (xa &&& (4294967295 : Int64))), .second, .val (.long (ya &&& (4294967295 : Int64))), .second, .val (.long lo), .second, .val (.long hi), .second, .val (.ref b14), .val (.int (mo &&& (3 : Int32))), .val (.long pp), .second, .val (.int (1 : Int32)), .val (.int (1 : Int32))] [(.int (1 : Int32))])) t → Steps p.tables e below (s₁.setTop (entryFrame m #[(.long xa), (.long ya), (.int mo), (.long dd), (.long qq)] maxLocals)) t := fun t kt => pre70 t (by
                  refine XS.iload X69.here hx rfl (hb hby at_201) rfl ?_
                  show Steps p.tables e below (T69.setTop (mkF m 203 #[.val (.long xa), .second, .val (.long ya), .second, .val (.int mo), .val (.long dd), .second, .val (.long qq), .second, .val (.long (xa &&& (4294967295 : Int64))), .second, .val (.long (ya &&& (4294967295 : Int64))), .second, .val (.long lo), .second, .val (.long hi), .second, .val (.ref b14), .val (.int (mo &&& (3 : Int32))), .val (.long pp), .second, .val (.int (1 : Int32)), .val (.int (1 : Int32))] [(.int (1 : Int32)), (.int (if lo < pp then (if pp < hi then (1 : Int32) else (0 : Int32)) else (0 : Int32)))])) _
                  refine XS.icmpNo X69.here hx rfl (hb hby at_203) rfl (teq (by
                    have i_c37_1 := mt Int64.toInt_inj.mp c37_1
                    have i_c131_5 := mt Int64.lt_iff_toInt_lt.mpr c131_5
                    have i_c140_6 := mt Int64.lt_iff_toInt_lt.mpr c140_6
                    have i_c159_7 := mt Int64.lt_iff_toInt_lt.mpr c159_7
                    have i_c159_8 := Int64.lt_iff_toInt_lt.mp c159_8
                    have i_c173_9 := mt Int64.toInt_inj.mp c173_9
                    have i_c184_10 := mt Int64.toInt_inj.mp c184_10
                    exact own_cut1 (by omega) : (if lo < pp then (if pp < hi then (1 : Int32) else (0 : Int32)) else (0 : Int32)) = (1 : Int32))).2 ?_
                  show Steps p.tables e below (T69.setTop (mkF m 206 #[.val (.long xa), .second, .val (.long ya), .second, .val (.int mo), .val (.long dd), .second, .val (.long qq), .second, .val (.long (xa &&& (4294967295 : Int64))), .second, .val (.long (ya &&& (4294967295 : Int64))), .second, .val (.long lo), .second, .val (.long hi), .second, .val (.ref b14), .val (.int (mo &&& (3 : Int32))), .val (.long pp), .second, .val (.int (1 : Int32)), .val (.int (1 : Int32))] [])) _
                  refine XS.iconst X69.here hx rfl (hb hby at_206) ?_
                  show Steps p.tables e below (T69.setTop (mkF m 207 #[.val (.long xa), .second, .val (.long ya), .second, .val (.int mo), .val (.long dd), .second, .val (.long qq), .second, .val (.long (xa &&& (4294967295 : Int64))), .second, .val (.long (ya &&& (4294967295 : Int64))), .second, .val (.long lo), .second, .val (.long hi), .second, .val (.ref b14), .val (.int (mo &&& (3 : Int32))), .val (.long pp), .second, .val (.int (1 : Int32)), .val (.int (1 : Int32))] [(.int (1 : Int32))])) _
                  refine XS.goto X69.here hx rfl (pc0 := 207) (pc' := 211) rfl (hb hby at_207) (by decide) (by decide) ?_
                  show Steps p.tables e below (T69.setTop (mkF m 211 #[.val (.long xa), .second, .val (.long ya), .second, .val (.int mo), .val (.long dd), .second, .val (.long qq), .second, .val (.long (xa &&& (4294967295 : Int64))), .second, .val (.long (ya &&& (4294967295 : Int64))), .second, .val (.long lo), .second, .val (.long hi), .second, .val (.ref b14), .val (.int (mo &&& (3 : Int32))), .val (.long pp), .second, .val (.int (1 : Int32)), .val (.int (1 : Int32))] [(.int (1 : Int32))])) _
                  exact kt)
                obtain ⟨fs, hr, hrun, hended, hW, hsame⟩ := X69.leave (v := (some (.int (1 : Int32)))) (fun h => by rw [Bd.returns] at h; cases h)
                refine ⟨_, _, pre71 _ ?_, hrun, hended, _, _, rfl, ?_, ⟨_, rfl⟩, hW, hsame.mono (by decide) (by decide)⟩
                · exact retN X69 hx (t := .boolean) Bd.returns (by simp) (hb hby at_211) hr
                · show Q0 Z  h0 n0 _ T69.heap _
                  rw [e69q]
                  exact ⟨rfl, N69⟩
          · by_cases c159_11 : hi = (4294967295 : Int64)
            · obtain ⟨cq73, kq73, q73a, q73b, q73c⟩ := isOf hZ rfl (f20)
              obtain ⟨_, _, ⟨T73, L73, k73, n73⟩, -, X73, ⟨Lc73, hQ73, l73, y73, z73⟩, st73⟩ := X19.virtualBack hx (y := (⟨"com/example/calm_balancer/calmbalancer/BundleRange", "contains", "(J)Z"⟩ : MethodName)) (z := (⟨"com/example/calm_balancer/calmbalancer/BundleRange", "contains", "(J)Z"⟩ : MethodName)) hown (mvT hZ (hw _ (List.mem_of_getElem? (i := 22) rfl))) (mvT hZ (hw _ (List.mem_of_getElem? (i := 23) rfl))) (notFace_of_selects (args := #[]) (mvT hZ (hw _ (List.mem_of_getElem? (i := 25) rfl)))) (mvT hZ (hw _ (List.mem_of_getElem? (i := 25) rfl))) (mvT hZ (hw _ (List.mem_of_getElem? (i := 24) rfl))) (by decide) (backOf (W := 0) (rmC l Z a0 hw [] b14 pp lo hi T19.heap n0 Zf21 Fl19 Fu19 c131_5 c140_6) hZ (hw _ (List.mem_of_getElem? (i := 26) rfl)) (hw _ (List.mem_of_getElem? (i := 10) rfl)) (by decide) (by decide)) q73a q73c (g := (mkF m 159 #[.val (.long xa), .second, .val (.long ya), .second, .val (.int mo), .val (.long dd), .second, .val (.long qq), .second, .val (.long (xa &&& (4294967295 : Int64))), .second, .val (.long (ya &&& (4294967295 : Int64))), .second, .val (.long lo), .second, .val (.long hi), .second, .val (.ref b14), .val (.int (mo &&& (3 : Int32))), .val (.long pp), .second, .val (.int (1 : Int32)), .unset] [(.long pp), (.ref b14)])) rfl (by rw [hml]; rfl) (Steps.refl _) (argsL := [(.long pp)]) (rest := []) (lenOf pd__28J_29Z rfl) rfl (by show 2 * 0 + _ ≤ _; exact Nat.le_of_eq rfl) (hb hby at_159) (fun _ _ => ⟨rfl, rfl, (by decide : 1 + 0 ≤ _), (by decide : 2 + 0 ≤ _)⟩)
              dsimp only [Pt.U, Pt.locs, Pt.cells, Pt.slots] at X73 l73 y73 z73 st73 hQ73
              subst l73 y73 z73
              obtain ⟨rfl, N73q, e73q⟩ := hQ73
              have N73 := Fr.app N19 N73q
              have pre74 : ∀ t, Steps p.tables e below (T73.setTop (mkF m 162 #[.val (.long xa), .second, .val (.long ya), .second, .val (.int mo), .val (.long dd), .second, .val (.long qq), .second, .val (.long (xa &&& (4294967295 : Int64))), .second, .val (.long (ya &&& (4294967295 : Int64))), .second, .val (.long lo), .second, .val (.long hi), .second, .val (.ref b14), .val (.int (mo &&& (3 : Int32))), .val (.long pp), .second, .val (.int (1 : Int32)), .unset] [(.int (if pp < lo then (0 : Int32) else (if pp < hi then (1 : Int32) else (if hi = (4294967295 : Int64) then (1 : Int32) else (0 : Int32)))))])) t → Steps p.tables e below (s₁.setTop (entryFrame m #[(.long xa), (.long ya), (.int mo), (.long dd), (.long qq)] maxLocals)) t := fun t kt => pre38 t (st73.trans kt)
              have hv75 : (if pp < lo then (0 : Int32) else (if pp < hi then (1 : Int32) else (if hi = (4294967295 : Int64) then (1 : Int32) else (0 : Int32)))) = (1 : Int32) := by rw [if_neg c159_7, if_neg c159_8, if_pos c159_11]
              have pre75 : ∀ t, Steps p.tables e below (T73.setTop (mkF m 162 #[.val (.long xa), .second, .val (.long ya), .second, .val (.int mo), .val (.long dd), .second, .val (.long qq), .second, .val (.long (xa &&& (4294967295 : Int64))), .second, .val (.long (ya &&& (4294967295 : Int64))), .second, .val (.long lo), .second, .val (.long hi), .second, .val (.ref b14), .val (.int (mo &&& (3 : Int32))), .val (.long pp), .second, .val (.int (1 : Int32)), .unset] [(.int (1 : Int32))])) t → Steps p.tables e below (s₁.setTop (entryFrame m #[(.long xa), (.long ya), (.int mo), (.long dd), (.long qq)] maxLocals)) t := fun t kt => pre74 t (by rw [hv75]; exact kt)
              have pre76 : ∀ t, Steps p.tables e below (T73.setTop (mkF m 169 #[.val (.long xa), .second, .val (.long ya), .second, .val (.int mo), .val (.long dd), .second, .val (.long qq), .second, .val (.long (xa &&& (4294967295 : Int64))), .second, .val (.long (ya &&& (4294967295 : Int64))), .second, .val (.long lo), .second, .val (.long hi), .second, .val (.ref b14), .val (.int (mo &&& (3 : Int32))), .val (.long pp), .second, .val (.int (1 : Int32)), .unset] [(.ref b14), (.long pp)])) t → Steps p.tables e below (s₁.setTop (entryFrame m #[(.long xa), (.long ya), (.int mo), (.long dd), (.long qq)] maxLocals)) t := fun t kt => pre75 t (by
                refine XS.ifNo X73.here hx rfl (hb hby at_162) rfl ((if0 _ _).trans (feq (by decide : ¬ ((1 : Int32) = (0 : Int32)))).1) ?_
                show Steps p.tables e below (T73.setTop (mkF m 165 #[.val (.long xa), .second, .val (.long ya), .second, .val (.int mo), .val (.long dd), .second, .val (.long qq), .second, .val (.long (xa &&& (4294967295 : Int64))), .second, .val (.long (ya &&& (4294967295 : Int64))), .second, .val (.long lo), .second, .val (.long hi), .second, .val (.ref b14), .val (.int (mo &&& (3 : Int32))), .val (.long pp), .second, .val (.int (1 : Int32)), .unset] [])) _
                refine XS.lload X73.here hx rfl (hb hby at_165) rfl ?_
                show Steps p.tables e below (T73.setTop (mkF m 167 #[.val (.long xa), .second, .val (.long ya), .second, .val (.int mo), .val (.long dd), .second, .val (.long qq), .second, .val (.long (xa &&& (4294967295 : Int64))), .second, .val (.long (ya &&& (4294967295 : Int64))), .second, .val (.long lo), .second, .val (.long hi), .second, .val (.ref b14), .val (.int (mo &&& (3 : Int32))), .val (.long pp), .second, .val (.int (1 : Int32)), .unset] [(.long pp)])) _
                refine XS.aload X73.here hx rfl (hb hby at_167) rfl rfl ?_
                show Steps p.tables e below (T73.setTop (mkF m 169 #[.val (.long xa), .second, .val (.long ya), .second, .val (.int mo), .val (.long dd), .second, .val (.long qq), .second, .val (.long (xa &&& (4294967295 : Int64))), .second, .val (.long (ya &&& (4294967295 : Int64))), .second, .val (.long lo), .second, .val (.long hi), .second, .val (.ref b14), .val (.int (mo &&& (3 : Int32))), .val (.long pp), .second, .val (.int (1 : Int32)), .unset] [(.ref b14), (.long pp)])) _
                exact kt)
              obtain ⟨cq77, kq77, q77a, q77b, q77c⟩ := isOf hZ e73q (f20)
              obtain ⟨_, _, ⟨T77, L77, k77, n77⟩, -, X77, ⟨Lc77, hQ77, l77, y77, z77⟩, st77⟩ := X73.virtualBack hx (y := (⟨"com/example/calm_balancer/calmbalancer/BundleRange", "lower", "()J"⟩ : MethodName)) (z := (⟨"com/example/calm_balancer/calmbalancer/BundleRange", "lower", "()J"⟩ : MethodName)) hown (mvT hZ (hw _ (List.mem_of_getElem? (i := 36) rfl))) (mvT hZ (hw _ (List.mem_of_getElem? (i := 37) rfl))) (notFace_of_selects (args := #[]) (mvT hZ (hw _ (List.mem_of_getElem? (i := 39) rfl)))) (mvT hZ (hw _ (List.mem_of_getElem? (i := 39) rfl))) (mvT hZ (hw _ (List.mem_of_getElem? (i := 38) rfl))) (by decide) (backOf (W := 2) (rmlower l Z a0 hw [] b14 _ T19.heap n0 Zf21 Fl19) hZ (hw _ (List.mem_of_getElem? (i := 40) rfl)) (hw _ (List.mem_of_getElem? (i := 10) rfl)) (by decide) (by decide)) q77a q77c (g := (mkF m 169 #[.val (.long xa), .second, .val (.long ya), .second, .val (.int mo), .val (.long dd), .second, .val (.long qq), .second, .val (.long (xa &&& (4294967295 : Int64))), .second, .val (.long (ya &&& (4294967295 : Int64))), .second, .val (.long lo), .second, .val (.long hi), .second, .val (.ref b14), .val (.int (mo &&& (3 : Int32))), .val (.long pp), .second, .val (.int (1 : Int32)), .unset] [(.ref b14), (.long pp)])) rfl (by rw [hml]; rfl) (Steps.refl _) (argsL := []) (rest := [(.long pp)]) (lenOf pd__28_29J rfl) rfl (by show 2 * 0 + _ ≤ _; exact Nat.le_of_eq rfl) (hb hby at_169) (fun _ _ => ⟨rfl, e73q, (by decide : 1 + 0 ≤ _), (by decide : 2 + 0 ≤ _)⟩)
              dsimp only [Pt.U, Pt.locs, Pt.cells, Pt.slots] at X77 l77 y77 z77 st77 hQ77
              subst l77 y77 z77
              obtain ⟨rfl, N77q, e77q⟩ := hQ77
              have N77 := Fr.app N73 N77q
              have pre78 : ∀ t, Steps p.tables e below (T77.setTop (mkF m 172 #[.val (.long xa), .second, .val (.long ya), .second, .val (.int mo), .val (.long dd), .second, .val (.long qq), .second, .val (.long (xa &&& (4294967295 : Int64))), .second, .val (.long (ya &&& (4294967295 : Int64))), .second, .val (.long lo), .second, .val (.long hi), .second, .val (.ref b14), .val (.int (mo &&& (3 : Int32))), .val (.long pp), .second, .val (.int (1 : Int32)), .unset] [(.long lo), (.long pp)])) t → Steps p.tables e below (s₁.setTop (entryFrame m #[(.long xa), (.long ya), (.int mo), (.long dd), (.long qq)] maxLocals)) t := fun t kt => pre76 t (st77.trans kt)
              have pre79 : ∀ t, Steps p.tables e below (T77.setTop (mkF m 173 #[.val (.long xa), .second, .val (.long ya), .second, .val (.int mo), .val (.long dd), .second, .val (.long qq), .second, .val (.long (xa &&& (4294967295 : Int64))), .second, .val (.long (ya &&& (4294967295 : Int64))), .second, .val (.long lo), .second, .val (.long hi), .second, .val (.ref b14), .val (.int (mo &&& (3 : Int32))), .val (.long pp), .second, .val (.int (1 : Int32)), .unset] [(.int (lcmpW pp lo))])) t → Steps p.tables e below (s₁.setTop (entryFrame m #[(.long xa), (.long ya), (.int mo), (.long dd), (.long qq)] maxLocals)) t := fun t kt => pre78 t (by
                refine XS.lcmp X77.here hx rfl (hb hby at_172) rfl ?_
                show Steps p.tables e below (T77.setTop (mkF m 173 #[.val (.long xa), .second, .val (.long ya), .second, .val (.int mo), .val (.long dd), .second, .val (.long qq), .second, .val (.long (xa &&& (4294967295 : Int64))), .second, .val (.long (ya &&& (4294967295 : Int64))), .second, .val (.long lo), .second, .val (.long hi), .second, .val (.ref b14), .val (.int (mo &&& (3 : Int32))), .val (.long pp), .second, .val (.int (1 : Int32)), .unset] [(.int (lcmpW pp lo))])) _
                exact kt)
              by_cases c173_12 : pp = lo
              · have pre80 : ∀ t, Steps p.tables e below (T77.setTop (mkF m 198 #[.val (.long xa), .second, .val (.long ya), .second, .val (.int mo), .val (.long dd), .second, .val (.long qq), .second, .val (.long (xa &&& (4294967295 : Int64))), .second, .val (.long (ya &&& (4294967295 : Int64))), .second, .val (.long lo), .second, .val (.long hi), .second, .val (.ref b14), .val (.int (mo &&& (3 : Int32))), .val (.long pp), .second, .val (.int (1 : Int32)), .val (.int (0 : Int32))] [(.long pp), (.ref b14)])) t → Steps p.tables e below (s₁.setTop (entryFrame m #[(.long xa), (.long ya), (.int mo), (.long dd), (.long qq)] maxLocals)) t := fun t kt => pre79 t (by
                  refine XS.ifYes X77.here hx rfl (pc0 := 173) (pc' := 191) rfl (hb hby at_173) rfl ((if0 _ _).trans (teq ((lw_eq _ _).mpr c173_12)).1) (by decide) (by decide) ?_
                  show Steps p.tables e below (T77.setTop (mkF m 191 #[.val (.long xa), .second, .val (.long ya), .second, .val (.int mo), .val (.long dd), .second, .val (.long qq), .second, .val (.long (xa &&& (4294967295 : Int64))), .second, .val (.long (ya &&& (4294967295 : Int64))), .second, .val (.long lo), .second, .val (.long hi), .second, .val (.ref b14), .val (.int (mo &&& (3 : Int32))), .val (.long pp), .second, .val (.int (1 : Int32)), .unset] [])) _
                  refine XS.iconst X77.here hx rfl (hb hby at_191) ?_
                  show Steps p.tables e below (T77.setTop (mkF m 192 #[.val (.long xa), .second, .val (.long ya), .second, .val (.int mo), .val (.long dd), .second, .val (.long qq), .second, .val (.long (xa &&& (4294967295 : Int64))), .second, .val (.long (ya &&& (4294967295 : Int64))), .second, .val (.long lo), .second, .val (.long hi), .second, .val (.ref b14), .val (.int (mo &&& (3 : Int32))), .val (.long pp), .second, .val (.int (1 : Int32)), .unset] [(.int (0 : Int32))])) _
                  refine XS.istore X77.here hx rfl (hb hby at_192) rfl (l' := #[.val (.long xa), .second, .val (.long ya), .second, .val (.int mo), .val (.long dd), .second, .val (.long qq), .second, .val (.long (xa &&& (4294967295 : Int64))), .second, .val (.long (ya &&& (4294967295 : Int64))), .second, .val (.long lo), .second, .val (.long hi), .second, .val (.ref b14), .val (.int (mo &&& (3 : Int32))), .val (.long pp), .second, .val (.int (1 : Int32)), .val (.int (0 : Int32))]) rfl ?_
                  show Steps p.tables e below (T77.setTop (mkF m 194 #[.val (.long xa), .second, .val (.long ya), .second, .val (.int mo), .val (.long dd), .second, .val (.long qq), .second, .val (.long (xa &&& (4294967295 : Int64))), .second, .val (.long (ya &&& (4294967295 : Int64))), .second, .val (.long lo), .second, .val (.long hi), .second, .val (.ref b14), .val (.int (mo &&& (3 : Int32))), .val (.long pp), .second, .val (.int (1 : Int32)), .val (.int (0 : Int32))] [])) _
                  refine XS.aload X77.here hx rfl (hb hby at_194) rfl rfl ?_
                  show Steps p.tables e below (T77.setTop (mkF m 196 #[.val (.long xa), .second, .val (.long ya), .second, .val (.int mo), .val (.long dd), .second, .val (.long qq), .second, .val (.long (xa &&& (4294967295 : Int64))), .second, .val (.long (ya &&& (4294967295 : Int64))), .second, .val (.long lo), .second, .val (.long hi), .second, .val (.ref b14), .val (.int (mo &&& (3 : Int32))), .val (.long pp), .second, .val (.int (1 : Int32)), .val (.int (0 : Int32))] [(.ref b14)])) _
                  refine XS.lload X77.here hx rfl (hb hby at_196) rfl ?_
                  show Steps p.tables e below (T77.setTop (mkF m 198 #[.val (.long xa), .second, .val (.long ya), .second, .val (.int mo), .val (.long dd), .second, .val (.long qq), .second, .val (.long (xa &&& (4294967295 : Int64))), .second, .val (.long (ya &&& (4294967295 : Int64))), .second, .val (.long lo), .second, .val (.long hi), .second, .val (.ref b14), .val (.int (mo &&& (3 : Int32))), .val (.long pp), .second, .val (.int (1 : Int32)), .val (.int (0 : Int32))] [(.long pp), (.ref b14)])) _
                  exact kt)
                obtain ⟨cq81, kq81, q81a, q81b, q81c⟩ := isOf hZ e77q (f20)
                obtain ⟨_, _, ⟨T81, L81, k81, n81⟩, -, X81, ⟨Lc81, hQ81, l81, y81, z81⟩, st81⟩ := X77.virtualBack hx (y := (⟨"com/example/calm_balancer/calmbalancer/BundleRange", "canCutAt", "(J)Z"⟩ : MethodName)) (z := (⟨"com/example/calm_balancer/calmbalancer/BundleRange", "canCutAt", "(J)Z"⟩ : MethodName)) hown (mvT hZ (hw _ (List.mem_of_getElem? (i := 30) rfl))) (mvT hZ (hw _ (List.mem_of_getElem? (i := 31) rfl))) (notFace_of_selects (args := #[]) (mvT hZ (hw _ (List.mem_of_getElem? (i := 33) rfl)))) (mvT hZ (hw _ (List.mem_of_getElem? (i := 33) rfl))) (mvT hZ (hw _ (List.mem_of_getElem? (i := 32) rfl))) (by decide) (backOf (W := 0) (rmK l Z a0 hw [] b14 pp lo hi T19.heap n0 Zf21 Fl19 Fu19) hZ (hw _ (List.mem_of_getElem? (i := 34) rfl)) (hw _ (List.mem_of_getElem? (i := 10) rfl)) (by decide) (by decide)) q81a q81c (g := (mkF m 198 #[.val (.long xa), .second, .val (.long ya), .second, .val (.int mo), .val (.long dd), .second, .val (.long qq), .second, .val (.long (xa &&& (4294967295 : Int64))), .second, .val (.long (ya &&& (4294967295 : Int64))), .second, .val (.long lo), .second, .val (.long hi), .second, .val (.ref b14), .val (.int (mo &&& (3 : Int32))), .val (.long pp), .second, .val (.int (1 : Int32)), .val (.int (0 : Int32))] [(.long pp), (.ref b14)])) rfl (by rw [hml]; rfl) (Steps.refl _) (argsL := [(.long pp)]) (rest := []) (lenOf pd__28J_29Z rfl) rfl (by show 2 * 0 + _ ≤ _; exact Nat.le_of_eq rfl) (hb hby at_198) (fun _ _ => ⟨rfl, e77q, (by decide : 1 + 0 ≤ _), (by decide : 2 + 0 ≤ _)⟩)
                dsimp only [Pt.U, Pt.locs, Pt.cells, Pt.slots] at X81 l81 y81 z81 st81 hQ81
                subst l81 y81 z81
                obtain ⟨rfl, N81q, e81q⟩ := hQ81
                have N81 := Fr.app N77 N81q
                have pre82 : ∀ t, Steps p.tables e below (T81.setTop (mkF m 201 #[.val (.long xa), .second, .val (.long ya), .second, .val (.int mo), .val (.long dd), .second, .val (.long qq), .second, .val (.long (xa &&& (4294967295 : Int64))), .second, .val (.long (ya &&& (4294967295 : Int64))), .second, .val (.long lo), .second, .val (.long hi), .second, .val (.ref b14), .val (.int (mo &&& (3 : Int32))), .val (.long pp), .second, .val (.int (1 : Int32)), .val (.int (0 : Int32))] [(.int (if lo < pp then (if pp < hi then (1 : Int32) else (0 : Int32)) else (0 : Int32)))])) t → Steps p.tables e below (s₁.setTop (entryFrame m #[(.long xa), (.long ya), (.int mo), (.long dd), (.long qq)] maxLocals)) t := fun t kt => pre80 t (st81.trans kt)
                have pre83 : ∀ t, Steps p.tables e below (T81.setTop (mkF m 211 #[.val (.long xa), .second, .val (.long ya), .second, .val (.int mo), .val (.long dd), .second, .val (.long qq), .second, .val (.long (xa &&& (4294967295 : Int64))), .second, .val (.long (ya &&& (4294967295 : Int64))), .second, .val (.long lo), .second, .val (.long hi), .second, .val (.ref b14), .val (.int (mo &&& (3 : Int32))), .val (.long pp), .second, .val (.int (1 : Int32)), .val (.int (0 : Int32))] [(.int (1 : Int32))])) t → Steps p.tables e below (s₁.setTop (entryFrame m #[(.long xa), (.long ya), (.int mo), (.long dd), (.long qq)] maxLocals)) t := fun t kt => pre82 t (by
                  refine XS.iload X81.here hx rfl (hb hby at_201) rfl ?_
                  show Steps p.tables e below (T81.setTop (mkF m 203 #[.val (.long xa), .second, .val (.long ya), .second, .val (.int mo), .val (.long dd), .second, .val (.long qq), .second, .val (.long (xa &&& (4294967295 : Int64))), .second, .val (.long (ya &&& (4294967295 : Int64))), .second, .val (.long lo), .second, .val (.long hi), .second, .val (.ref b14), .val (.int (mo &&& (3 : Int32))), .val (.long pp), .second, .val (.int (1 : Int32)), .val (.int (0 : Int32))] [(.int (0 : Int32)), (.int (if lo < pp then (if pp < hi then (1 : Int32) else (0 : Int32)) else (0 : Int32)))])) _
                  refine XS.icmpNo X81.here hx rfl (hb hby at_203) rfl (teq (by
                    have i_c37_1 := mt Int64.toInt_inj.mp c37_1
                    have i_c131_5 := mt Int64.lt_iff_toInt_lt.mpr c131_5
                    have i_c140_6 := mt Int64.lt_iff_toInt_lt.mpr c140_6
                    have i_c159_7 := mt Int64.lt_iff_toInt_lt.mpr c159_7
                    have i_c159_8 := mt Int64.lt_iff_toInt_lt.mpr c159_8
                    have i_c159_11 := Int64.toInt_inj.mpr c159_11
                    have i_c173_12 := Int64.toInt_inj.mpr c173_12
                    exact own_cut0 (by omega) : (if lo < pp then (if pp < hi then (1 : Int32) else (0 : Int32)) else (0 : Int32)) = (0 : Int32))).2 ?_
                  show Steps p.tables e below (T81.setTop (mkF m 206 #[.val (.long xa), .second, .val (.long ya), .second, .val (.int mo), .val (.long dd), .second, .val (.long qq), .second, .val (.long (xa &&& (4294967295 : Int64))), .second, .val (.long (ya &&& (4294967295 : Int64))), .second, .val (.long lo), .second, .val (.long hi), .second, .val (.ref b14), .val (.int (mo &&& (3 : Int32))), .val (.long pp), .second, .val (.int (1 : Int32)), .val (.int (0 : Int32))] [])) _
                  refine XS.iconst X81.here hx rfl (hb hby at_206) ?_
                  show Steps p.tables e below (T81.setTop (mkF m 207 #[.val (.long xa), .second, .val (.long ya), .second, .val (.int mo), .val (.long dd), .second, .val (.long qq), .second, .val (.long (xa &&& (4294967295 : Int64))), .second, .val (.long (ya &&& (4294967295 : Int64))), .second, .val (.long lo), .second, .val (.long hi), .second, .val (.ref b14), .val (.int (mo &&& (3 : Int32))), .val (.long pp), .second, .val (.int (1 : Int32)), .val (.int (0 : Int32))] [(.int (1 : Int32))])) _
                  refine XS.goto X81.here hx rfl (pc0 := 207) (pc' := 211) rfl (hb hby at_207) (by decide) (by decide) ?_
                  show Steps p.tables e below (T81.setTop (mkF m 211 #[.val (.long xa), .second, .val (.long ya), .second, .val (.int mo), .val (.long dd), .second, .val (.long qq), .second, .val (.long (xa &&& (4294967295 : Int64))), .second, .val (.long (ya &&& (4294967295 : Int64))), .second, .val (.long lo), .second, .val (.long hi), .second, .val (.ref b14), .val (.int (mo &&& (3 : Int32))), .val (.long pp), .second, .val (.int (1 : Int32)), .val (.int (0 : Int32))] [(.int (1 : Int32))])) _
                  exact kt)
                obtain ⟨fs, hr, hrun, hended, hW, hsame⟩ := X81.leave (v := (some (.int (1 : Int32)))) (fun h => by rw [Bd.returns] at h; cases h)
                refine ⟨_, _, pre83 _ ?_, hrun, hended, _, _, rfl, ?_, ⟨_, rfl⟩, hW, hsame.mono (by decide) (by decide)⟩
                · exact retN X81 hx (t := .boolean) Bd.returns (by simp) (hb hby at_211) hr
                · show Q0 Z  h0 n0 _ T81.heap _
                  rw [e81q]
                  exact ⟨rfl, N81⟩
              · have pre85 : ∀ t, Steps p.tables e below (T77.setTop (mkF m 180 #[.val (.long xa), .second, .val (.long ya), .second, .val (.int mo), .val (.long dd), .second, .val (.long qq), .second, .val (.long (xa &&& (4294967295 : Int64))), .second, .val (.long (ya &&& (4294967295 : Int64))), .second, .val (.long lo), .second, .val (.long hi), .second, .val (.ref b14), .val (.int (mo &&& (3 : Int32))), .val (.long pp), .second, .val (.int (1 : Int32)), .unset] [(.ref b14), (.long pp)])) t → Steps p.tables e below (s₁.setTop (entryFrame m #[(.long xa), (.long ya), (.int mo), (.long dd), (.long qq)] maxLocals)) t := fun t kt => pre79 t (by
                  refine XS.ifNo X77.here hx rfl (hb hby at_173) rfl ((if0 _ _).trans (feq (mt (lw_eq _ _).mp c173_12)).1) ?_
                  show Steps p.tables e below (T77.setTop (mkF m 176 #[.val (.long xa), .second, .val (.long ya), .second, .val (.int mo), .val (.long dd), .second, .val (.long qq), .second, .val (.long (xa &&& (4294967295 : Int64))), .second, .val (.long (ya &&& (4294967295 : Int64))), .second, .val (.long lo), .second, .val (.long hi), .second, .val (.ref b14), .val (.int (mo &&& (3 : Int32))), .val (.long pp), .second, .val (.int (1 : Int32)), .unset] [])) _
                  refine XS.lload X77.here hx rfl (hb hby at_176) rfl ?_
                  show Steps p.tables e below (T77.setTop (mkF m 178 #[.val (.long xa), .second, .val (.long ya), .second, .val (.int mo), .val (.long dd), .second, .val (.long qq), .second, .val (.long (xa &&& (4294967295 : Int64))), .second, .val (.long (ya &&& (4294967295 : Int64))), .second, .val (.long lo), .second, .val (.long hi), .second, .val (.ref b14), .val (.int (mo &&& (3 : Int32))), .val (.long pp), .second, .val (.int (1 : Int32)), .unset] [(.long pp)])) _
                  refine XS.aload X77.here hx rfl (hb hby at_178) rfl rfl ?_
                  show Steps p.tables e below (T77.setTop (mkF m 180 #[.val (.long xa), .second, .val (.long ya), .second, .val (.int mo), .val (.long dd), .second, .val (.long qq), .second, .val (.long (xa &&& (4294967295 : Int64))), .second, .val (.long (ya &&& (4294967295 : Int64))), .second, .val (.long lo), .second, .val (.long hi), .second, .val (.ref b14), .val (.int (mo &&& (3 : Int32))), .val (.long pp), .second, .val (.int (1 : Int32)), .unset] [(.ref b14), (.long pp)])) _
                  exact kt)
                obtain ⟨cq86, kq86, q86a, q86b, q86c⟩ := isOf hZ e77q (f20)
                obtain ⟨_, _, ⟨T86, L86, k86, n86⟩, -, X86, ⟨Lc86, hQ86, l86, y86, z86⟩, st86⟩ := X77.virtualBack hx (y := (⟨"com/example/calm_balancer/calmbalancer/BundleRange", "upper", "()J"⟩ : MethodName)) (z := (⟨"com/example/calm_balancer/calmbalancer/BundleRange", "upper", "()J"⟩ : MethodName)) hown (mvT hZ (hw _ (List.mem_of_getElem? (i := 41) rfl))) (mvT hZ (hw _ (List.mem_of_getElem? (i := 42) rfl))) (notFace_of_selects (args := #[]) (mvT hZ (hw _ (List.mem_of_getElem? (i := 44) rfl)))) (mvT hZ (hw _ (List.mem_of_getElem? (i := 44) rfl))) (mvT hZ (hw _ (List.mem_of_getElem? (i := 43) rfl))) (by decide) (backOf (W := 2) (rmupper l Z a0 hw [] b14 _ T19.heap n0 Zf21 Fu19) hZ (hw _ (List.mem_of_getElem? (i := 45) rfl)) (hw _ (List.mem_of_getElem? (i := 10) rfl)) (by decide) (by decide)) q86a q86c (g := (mkF m 180 #[.val (.long xa), .second, .val (.long ya), .second, .val (.int mo), .val (.long dd), .second, .val (.long qq), .second, .val (.long (xa &&& (4294967295 : Int64))), .second, .val (.long (ya &&& (4294967295 : Int64))), .second, .val (.long lo), .second, .val (.long hi), .second, .val (.ref b14), .val (.int (mo &&& (3 : Int32))), .val (.long pp), .second, .val (.int (1 : Int32)), .unset] [(.ref b14), (.long pp)])) rfl (by rw [hml]; rfl) (Steps.refl _) (argsL := []) (rest := [(.long pp)]) (lenOf pd__28_29J rfl) rfl (by show 2 * 0 + _ ≤ _; exact Nat.le_of_eq rfl) (hb hby at_180) (fun _ _ => ⟨rfl, e77q, (by decide : 1 + 0 ≤ _), (by decide : 2 + 0 ≤ _)⟩)
                dsimp only [Pt.U, Pt.locs, Pt.cells, Pt.slots] at X86 l86 y86 z86 st86 hQ86
                subst l86 y86 z86
                obtain ⟨rfl, N86q, e86q⟩ := hQ86
                have N86 := Fr.app N77 N86q
                have pre87 : ∀ t, Steps p.tables e below (T86.setTop (mkF m 183 #[.val (.long xa), .second, .val (.long ya), .second, .val (.int mo), .val (.long dd), .second, .val (.long qq), .second, .val (.long (xa &&& (4294967295 : Int64))), .second, .val (.long (ya &&& (4294967295 : Int64))), .second, .val (.long lo), .second, .val (.long hi), .second, .val (.ref b14), .val (.int (mo &&& (3 : Int32))), .val (.long pp), .second, .val (.int (1 : Int32)), .unset] [(.long hi), (.long pp)])) t → Steps p.tables e below (s₁.setTop (entryFrame m #[(.long xa), (.long ya), (.int mo), (.long dd), (.long qq)] maxLocals)) t := fun t kt => pre85 t (st86.trans kt)
                have pre88 : ∀ t, Steps p.tables e below (T86.setTop (mkF m 184 #[.val (.long xa), .second, .val (.long ya), .second, .val (.int mo), .val (.long dd), .second, .val (.long qq), .second, .val (.long (xa &&& (4294967295 : Int64))), .second, .val (.long (ya &&& (4294967295 : Int64))), .second, .val (.long lo), .second, .val (.long hi), .second, .val (.ref b14), .val (.int (mo &&& (3 : Int32))), .val (.long pp), .second, .val (.int (1 : Int32)), .unset] [(.int (lcmpW pp hi))])) t → Steps p.tables e below (s₁.setTop (entryFrame m #[(.long xa), (.long ya), (.int mo), (.long dd), (.long qq)] maxLocals)) t := fun t kt => pre87 t (by
                  refine XS.lcmp X86.here hx rfl (hb hby at_183) rfl ?_
                  show Steps p.tables e below (T86.setTop (mkF m 184 #[.val (.long xa), .second, .val (.long ya), .second, .val (.int mo), .val (.long dd), .second, .val (.long qq), .second, .val (.long (xa &&& (4294967295 : Int64))), .second, .val (.long (ya &&& (4294967295 : Int64))), .second, .val (.long lo), .second, .val (.long hi), .second, .val (.ref b14), .val (.int (mo &&& (3 : Int32))), .val (.long pp), .second, .val (.int (1 : Int32)), .unset] [(.int (lcmpW pp hi))])) _
                  exact kt)
                by_cases c184_13 : pp = hi
                · have pre89 : ∀ t, Steps p.tables e below (T86.setTop (mkF m 198 #[.val (.long xa), .second, .val (.long ya), .second, .val (.int mo), .val (.long dd), .second, .val (.long qq), .second, .val (.long (xa &&& (4294967295 : Int64))), .second, .val (.long (ya &&& (4294967295 : Int64))), .second, .val (.long lo), .second, .val (.long hi), .second, .val (.ref b14), .val (.int (mo &&& (3 : Int32))), .val (.long pp), .second, .val (.int (1 : Int32)), .val (.int (0 : Int32))] [(.long pp), (.ref b14)])) t → Steps p.tables e below (s₁.setTop (entryFrame m #[(.long xa), (.long ya), (.int mo), (.long dd), (.long qq)] maxLocals)) t := fun t kt => pre88 t (by
                    refine XS.ifYes X86.here hx rfl (pc0 := 184) (pc' := 191) rfl (hb hby at_184) rfl ((if0 _ _).trans (teq ((lw_eq _ _).mpr c184_13)).1) (by decide) (by decide) ?_
                    show Steps p.tables e below (T86.setTop (mkF m 191 #[.val (.long xa), .second, .val (.long ya), .second, .val (.int mo), .val (.long dd), .second, .val (.long qq), .second, .val (.long (xa &&& (4294967295 : Int64))), .second, .val (.long (ya &&& (4294967295 : Int64))), .second, .val (.long lo), .second, .val (.long hi), .second, .val (.ref b14), .val (.int (mo &&& (3 : Int32))), .val (.long pp), .second, .val (.int (1 : Int32)), .unset] [])) _
                    refine XS.iconst X86.here hx rfl (hb hby at_191) ?_
                    show Steps p.tables e below (T86.setTop (mkF m 192 #[.val (.long xa), .second, .val (.long ya), .second, .val (.int mo), .val (.long dd), .second, .val (.long qq), .second, .val (.long (xa &&& (4294967295 : Int64))), .second, .val (.long (ya &&& (4294967295 : Int64))), .second, .val (.long lo), .second, .val (.long hi), .second, .val (.ref b14), .val (.int (mo &&& (3 : Int32))), .val (.long pp), .second, .val (.int (1 : Int32)), .unset] [(.int (0 : Int32))])) _
                    refine XS.istore X86.here hx rfl (hb hby at_192) rfl (l' := #[.val (.long xa), .second, .val (.long ya), .second, .val (.int mo), .val (.long dd), .second, .val (.long qq), .second, .val (.long (xa &&& (4294967295 : Int64))), .second, .val (.long (ya &&& (4294967295 : Int64))), .second, .val (.long lo), .second, .val (.long hi), .second, .val (.ref b14), .val (.int (mo &&& (3 : Int32))), .val (.long pp), .second, .val (.int (1 : Int32)), .val (.int (0 : Int32))]) rfl ?_
                    show Steps p.tables e below (T86.setTop (mkF m 194 #[.val (.long xa), .second, .val (.long ya), .second, .val (.int mo), .val (.long dd), .second, .val (.long qq), .second, .val (.long (xa &&& (4294967295 : Int64))), .second, .val (.long (ya &&& (4294967295 : Int64))), .second, .val (.long lo), .second, .val (.long hi), .second, .val (.ref b14), .val (.int (mo &&& (3 : Int32))), .val (.long pp), .second, .val (.int (1 : Int32)), .val (.int (0 : Int32))] [])) _
                    refine XS.aload X86.here hx rfl (hb hby at_194) rfl rfl ?_
                    show Steps p.tables e below (T86.setTop (mkF m 196 #[.val (.long xa), .second, .val (.long ya), .second, .val (.int mo), .val (.long dd), .second, .val (.long qq), .second, .val (.long (xa &&& (4294967295 : Int64))), .second, .val (.long (ya &&& (4294967295 : Int64))), .second, .val (.long lo), .second, .val (.long hi), .second, .val (.ref b14), .val (.int (mo &&& (3 : Int32))), .val (.long pp), .second, .val (.int (1 : Int32)), .val (.int (0 : Int32))] [(.ref b14)])) _
                    refine XS.lload X86.here hx rfl (hb hby at_196) rfl ?_
                    show Steps p.tables e below (T86.setTop (mkF m 198 #[.val (.long xa), .second, .val (.long ya), .second, .val (.int mo), .val (.long dd), .second, .val (.long qq), .second, .val (.long (xa &&& (4294967295 : Int64))), .second, .val (.long (ya &&& (4294967295 : Int64))), .second, .val (.long lo), .second, .val (.long hi), .second, .val (.ref b14), .val (.int (mo &&& (3 : Int32))), .val (.long pp), .second, .val (.int (1 : Int32)), .val (.int (0 : Int32))] [(.long pp), (.ref b14)])) _
                    exact kt)
                  obtain ⟨cq90, kq90, q90a, q90b, q90c⟩ := isOf hZ e86q (f20)
                  obtain ⟨_, _, ⟨T90, L90, k90, n90⟩, -, X90, ⟨Lc90, hQ90, l90, y90, z90⟩, st90⟩ := X86.virtualBack hx (y := (⟨"com/example/calm_balancer/calmbalancer/BundleRange", "canCutAt", "(J)Z"⟩ : MethodName)) (z := (⟨"com/example/calm_balancer/calmbalancer/BundleRange", "canCutAt", "(J)Z"⟩ : MethodName)) hown (mvT hZ (hw _ (List.mem_of_getElem? (i := 30) rfl))) (mvT hZ (hw _ (List.mem_of_getElem? (i := 31) rfl))) (notFace_of_selects (args := #[]) (mvT hZ (hw _ (List.mem_of_getElem? (i := 33) rfl)))) (mvT hZ (hw _ (List.mem_of_getElem? (i := 33) rfl))) (mvT hZ (hw _ (List.mem_of_getElem? (i := 32) rfl))) (by decide) (backOf (W := 0) (rmK l Z a0 hw [] b14 pp lo hi T19.heap n0 Zf21 Fl19 Fu19) hZ (hw _ (List.mem_of_getElem? (i := 34) rfl)) (hw _ (List.mem_of_getElem? (i := 10) rfl)) (by decide) (by decide)) q90a q90c (g := (mkF m 198 #[.val (.long xa), .second, .val (.long ya), .second, .val (.int mo), .val (.long dd), .second, .val (.long qq), .second, .val (.long (xa &&& (4294967295 : Int64))), .second, .val (.long (ya &&& (4294967295 : Int64))), .second, .val (.long lo), .second, .val (.long hi), .second, .val (.ref b14), .val (.int (mo &&& (3 : Int32))), .val (.long pp), .second, .val (.int (1 : Int32)), .val (.int (0 : Int32))] [(.long pp), (.ref b14)])) rfl (by rw [hml]; rfl) (Steps.refl _) (argsL := [(.long pp)]) (rest := []) (lenOf pd__28J_29Z rfl) rfl (by show 2 * 0 + _ ≤ _; exact Nat.le_of_eq rfl) (hb hby at_198) (fun _ _ => ⟨rfl, e86q, (by decide : 1 + 0 ≤ _), (by decide : 2 + 0 ≤ _)⟩)
                  dsimp only [Pt.U, Pt.locs, Pt.cells, Pt.slots] at X90 l90 y90 z90 st90 hQ90
                  subst l90 y90 z90
                  obtain ⟨rfl, N90q, e90q⟩ := hQ90
                  have N90 := Fr.app N86 N90q
                  have pre91 : ∀ t, Steps p.tables e below (T90.setTop (mkF m 201 #[.val (.long xa), .second, .val (.long ya), .second, .val (.int mo), .val (.long dd), .second, .val (.long qq), .second, .val (.long (xa &&& (4294967295 : Int64))), .second, .val (.long (ya &&& (4294967295 : Int64))), .second, .val (.long lo), .second, .val (.long hi), .second, .val (.ref b14), .val (.int (mo &&& (3 : Int32))), .val (.long pp), .second, .val (.int (1 : Int32)), .val (.int (0 : Int32))] [(.int (if lo < pp then (if pp < hi then (1 : Int32) else (0 : Int32)) else (0 : Int32)))])) t → Steps p.tables e below (s₁.setTop (entryFrame m #[(.long xa), (.long ya), (.int mo), (.long dd), (.long qq)] maxLocals)) t := fun t kt => pre89 t (st90.trans kt)
                  have pre92 : ∀ t, Steps p.tables e below (T90.setTop (mkF m 211 #[.val (.long xa), .second, .val (.long ya), .second, .val (.int mo), .val (.long dd), .second, .val (.long qq), .second, .val (.long (xa &&& (4294967295 : Int64))), .second, .val (.long (ya &&& (4294967295 : Int64))), .second, .val (.long lo), .second, .val (.long hi), .second, .val (.ref b14), .val (.int (mo &&& (3 : Int32))), .val (.long pp), .second, .val (.int (1 : Int32)), .val (.int (0 : Int32))] [(.int (1 : Int32))])) t → Steps p.tables e below (s₁.setTop (entryFrame m #[(.long xa), (.long ya), (.int mo), (.long dd), (.long qq)] maxLocals)) t := fun t kt => pre91 t (by
                    refine XS.iload X90.here hx rfl (hb hby at_201) rfl ?_
                    show Steps p.tables e below (T90.setTop (mkF m 203 #[.val (.long xa), .second, .val (.long ya), .second, .val (.int mo), .val (.long dd), .second, .val (.long qq), .second, .val (.long (xa &&& (4294967295 : Int64))), .second, .val (.long (ya &&& (4294967295 : Int64))), .second, .val (.long lo), .second, .val (.long hi), .second, .val (.ref b14), .val (.int (mo &&& (3 : Int32))), .val (.long pp), .second, .val (.int (1 : Int32)), .val (.int (0 : Int32))] [(.int (0 : Int32)), (.int (if lo < pp then (if pp < hi then (1 : Int32) else (0 : Int32)) else (0 : Int32)))])) _
                    refine XS.icmpNo X90.here hx rfl (hb hby at_203) rfl (teq (by
                      have i_c37_1 := mt Int64.toInt_inj.mp c37_1
                      have i_c131_5 := mt Int64.lt_iff_toInt_lt.mpr c131_5
                      have i_c140_6 := mt Int64.lt_iff_toInt_lt.mpr c140_6
                      have i_c159_7 := mt Int64.lt_iff_toInt_lt.mpr c159_7
                      have i_c159_8 := mt Int64.lt_iff_toInt_lt.mpr c159_8
                      have i_c159_11 := Int64.toInt_inj.mpr c159_11
                      have i_c173_12 := mt Int64.toInt_inj.mp c173_12
                      have i_c184_13 := Int64.toInt_inj.mpr c184_13
                      exact own_cut0 (by omega) : (if lo < pp then (if pp < hi then (1 : Int32) else (0 : Int32)) else (0 : Int32)) = (0 : Int32))).2 ?_
                    show Steps p.tables e below (T90.setTop (mkF m 206 #[.val (.long xa), .second, .val (.long ya), .second, .val (.int mo), .val (.long dd), .second, .val (.long qq), .second, .val (.long (xa &&& (4294967295 : Int64))), .second, .val (.long (ya &&& (4294967295 : Int64))), .second, .val (.long lo), .second, .val (.long hi), .second, .val (.ref b14), .val (.int (mo &&& (3 : Int32))), .val (.long pp), .second, .val (.int (1 : Int32)), .val (.int (0 : Int32))] [])) _
                    refine XS.iconst X90.here hx rfl (hb hby at_206) ?_
                    show Steps p.tables e below (T90.setTop (mkF m 207 #[.val (.long xa), .second, .val (.long ya), .second, .val (.int mo), .val (.long dd), .second, .val (.long qq), .second, .val (.long (xa &&& (4294967295 : Int64))), .second, .val (.long (ya &&& (4294967295 : Int64))), .second, .val (.long lo), .second, .val (.long hi), .second, .val (.ref b14), .val (.int (mo &&& (3 : Int32))), .val (.long pp), .second, .val (.int (1 : Int32)), .val (.int (0 : Int32))] [(.int (1 : Int32))])) _
                    refine XS.goto X90.here hx rfl (pc0 := 207) (pc' := 211) rfl (hb hby at_207) (by decide) (by decide) ?_
                    show Steps p.tables e below (T90.setTop (mkF m 211 #[.val (.long xa), .second, .val (.long ya), .second, .val (.int mo), .val (.long dd), .second, .val (.long qq), .second, .val (.long (xa &&& (4294967295 : Int64))), .second, .val (.long (ya &&& (4294967295 : Int64))), .second, .val (.long lo), .second, .val (.long hi), .second, .val (.ref b14), .val (.int (mo &&& (3 : Int32))), .val (.long pp), .second, .val (.int (1 : Int32)), .val (.int (0 : Int32))] [(.int (1 : Int32))])) _
                    exact kt)
                  obtain ⟨fs, hr, hrun, hended, hW, hsame⟩ := X90.leave (v := (some (.int (1 : Int32)))) (fun h => by rw [Bd.returns] at h; cases h)
                  refine ⟨_, _, pre92 _ ?_, hrun, hended, _, _, rfl, ?_, ⟨_, rfl⟩, hW, hsame.mono (by decide) (by decide)⟩
                  · exact retN X90 hx (t := .boolean) Bd.returns (by simp) (hb hby at_211) hr
                  · show Q0 Z  h0 n0 _ T90.heap _
                    rw [e90q]
                    exact ⟨rfl, N90⟩
                · have pre94 : ∀ t, Steps p.tables e below (T86.setTop (mkF m 198 #[.val (.long xa), .second, .val (.long ya), .second, .val (.int mo), .val (.long dd), .second, .val (.long qq), .second, .val (.long (xa &&& (4294967295 : Int64))), .second, .val (.long (ya &&& (4294967295 : Int64))), .second, .val (.long lo), .second, .val (.long hi), .second, .val (.ref b14), .val (.int (mo &&& (3 : Int32))), .val (.long pp), .second, .val (.int (1 : Int32)), .val (.int (1 : Int32))] [(.long pp), (.ref b14)])) t → Steps p.tables e below (s₁.setTop (entryFrame m #[(.long xa), (.long ya), (.int mo), (.long dd), (.long qq)] maxLocals)) t := fun t kt => pre88 t (by
                    refine XS.ifNo X86.here hx rfl (hb hby at_184) rfl ((if0 _ _).trans (feq (mt (lw_eq _ _).mp c184_13)).1) ?_
                    show Steps p.tables e below (T86.setTop (mkF m 187 #[.val (.long xa), .second, .val (.long ya), .second, .val (.int mo), .val (.long dd), .second, .val (.long qq), .second, .val (.long (xa &&& (4294967295 : Int64))), .second, .val (.long (ya &&& (4294967295 : Int64))), .second, .val (.long lo), .second, .val (.long hi), .second, .val (.ref b14), .val (.int (mo &&& (3 : Int32))), .val (.long pp), .second, .val (.int (1 : Int32)), .unset] [])) _
                    refine XS.iconst X86.here hx rfl (hb hby at_187) ?_
                    show Steps p.tables e below (T86.setTop (mkF m 188 #[.val (.long xa), .second, .val (.long ya), .second, .val (.int mo), .val (.long dd), .second, .val (.long qq), .second, .val (.long (xa &&& (4294967295 : Int64))), .second, .val (.long (ya &&& (4294967295 : Int64))), .second, .val (.long lo), .second, .val (.long hi), .second, .val (.ref b14), .val (.int (mo &&& (3 : Int32))), .val (.long pp), .second, .val (.int (1 : Int32)), .unset] [(.int (1 : Int32))])) _
                    refine XS.goto X86.here hx rfl (pc0 := 188) (pc' := 192) rfl (hb hby at_188) (by decide) (by decide) ?_
                    show Steps p.tables e below (T86.setTop (mkF m 192 #[.val (.long xa), .second, .val (.long ya), .second, .val (.int mo), .val (.long dd), .second, .val (.long qq), .second, .val (.long (xa &&& (4294967295 : Int64))), .second, .val (.long (ya &&& (4294967295 : Int64))), .second, .val (.long lo), .second, .val (.long hi), .second, .val (.ref b14), .val (.int (mo &&& (3 : Int32))), .val (.long pp), .second, .val (.int (1 : Int32)), .unset] [(.int (1 : Int32))])) _
                    refine XS.istore X86.here hx rfl (hb hby at_192) rfl (l' := #[.val (.long xa), .second, .val (.long ya), .second, .val (.int mo), .val (.long dd), .second, .val (.long qq), .second, .val (.long (xa &&& (4294967295 : Int64))), .second, .val (.long (ya &&& (4294967295 : Int64))), .second, .val (.long lo), .second, .val (.long hi), .second, .val (.ref b14), .val (.int (mo &&& (3 : Int32))), .val (.long pp), .second, .val (.int (1 : Int32)), .val (.int (1 : Int32))]) rfl ?_
                    show Steps p.tables e below (T86.setTop (mkF m 194 #[.val (.long xa), .second, .val (.long ya), .second, .val (.int mo), .val (.long dd), .second, .val (.long qq), .second, .val (.long (xa &&& (4294967295 : Int64))), .second, .val (.long (ya &&& (4294967295 : Int64))), .second, .val (.long lo), .second, .val (.long hi), .second, .val (.ref b14), .val (.int (mo &&& (3 : Int32))), .val (.long pp), .second, .val (.int (1 : Int32)), .val (.int (1 : Int32))] [])) _
                    refine XS.aload X86.here hx rfl (hb hby at_194) rfl rfl ?_
                    show Steps p.tables e below (T86.setTop (mkF m 196 #[.val (.long xa), .second, .val (.long ya), .second, .val (.int mo), .val (.long dd), .second, .val (.long qq), .second, .val (.long (xa &&& (4294967295 : Int64))), .second, .val (.long (ya &&& (4294967295 : Int64))), .second, .val (.long lo), .second, .val (.long hi), .second, .val (.ref b14), .val (.int (mo &&& (3 : Int32))), .val (.long pp), .second, .val (.int (1 : Int32)), .val (.int (1 : Int32))] [(.ref b14)])) _
                    refine XS.lload X86.here hx rfl (hb hby at_196) rfl ?_
                    show Steps p.tables e below (T86.setTop (mkF m 198 #[.val (.long xa), .second, .val (.long ya), .second, .val (.int mo), .val (.long dd), .second, .val (.long qq), .second, .val (.long (xa &&& (4294967295 : Int64))), .second, .val (.long (ya &&& (4294967295 : Int64))), .second, .val (.long lo), .second, .val (.long hi), .second, .val (.ref b14), .val (.int (mo &&& (3 : Int32))), .val (.long pp), .second, .val (.int (1 : Int32)), .val (.int (1 : Int32))] [(.long pp), (.ref b14)])) _
                    exact kt)
                  obtain ⟨cq95, kq95, q95a, q95b, q95c⟩ := isOf hZ e86q (f20)
                  obtain ⟨_, _, ⟨T95, L95, k95, n95⟩, -, X95, ⟨Lc95, hQ95, l95, y95, z95⟩, st95⟩ := X86.virtualBack hx (y := (⟨"com/example/calm_balancer/calmbalancer/BundleRange", "canCutAt", "(J)Z"⟩ : MethodName)) (z := (⟨"com/example/calm_balancer/calmbalancer/BundleRange", "canCutAt", "(J)Z"⟩ : MethodName)) hown (mvT hZ (hw _ (List.mem_of_getElem? (i := 30) rfl))) (mvT hZ (hw _ (List.mem_of_getElem? (i := 31) rfl))) (notFace_of_selects (args := #[]) (mvT hZ (hw _ (List.mem_of_getElem? (i := 33) rfl)))) (mvT hZ (hw _ (List.mem_of_getElem? (i := 33) rfl))) (mvT hZ (hw _ (List.mem_of_getElem? (i := 32) rfl))) (by decide) (backOf (W := 0) (rmK l Z a0 hw [] b14 pp lo hi T19.heap n0 Zf21 Fl19 Fu19) hZ (hw _ (List.mem_of_getElem? (i := 34) rfl)) (hw _ (List.mem_of_getElem? (i := 10) rfl)) (by decide) (by decide)) q95a q95c (g := (mkF m 198 #[.val (.long xa), .second, .val (.long ya), .second, .val (.int mo), .val (.long dd), .second, .val (.long qq), .second, .val (.long (xa &&& (4294967295 : Int64))), .second, .val (.long (ya &&& (4294967295 : Int64))), .second, .val (.long lo), .second, .val (.long hi), .second, .val (.ref b14), .val (.int (mo &&& (3 : Int32))), .val (.long pp), .second, .val (.int (1 : Int32)), .val (.int (1 : Int32))] [(.long pp), (.ref b14)])) rfl (by rw [hml]; rfl) (Steps.refl _) (argsL := [(.long pp)]) (rest := []) (lenOf pd__28J_29Z rfl) rfl (by show 2 * 0 + _ ≤ _; exact Nat.le_of_eq rfl) (hb hby at_198) (fun _ _ => ⟨rfl, e86q, (by decide : 1 + 0 ≤ _), (by decide : 2 + 0 ≤ _)⟩)
                  dsimp only [Pt.U, Pt.locs, Pt.cells, Pt.slots] at X95 l95 y95 z95 st95 hQ95
                  subst l95 y95 z95
                  obtain ⟨rfl, N95q, e95q⟩ := hQ95
                  have N95 := Fr.app N86 N95q
                  have pre96 : ∀ t, Steps p.tables e below (T95.setTop (mkF m 201 #[.val (.long xa), .second, .val (.long ya), .second, .val (.int mo), .val (.long dd), .second, .val (.long qq), .second, .val (.long (xa &&& (4294967295 : Int64))), .second, .val (.long (ya &&& (4294967295 : Int64))), .second, .val (.long lo), .second, .val (.long hi), .second, .val (.ref b14), .val (.int (mo &&& (3 : Int32))), .val (.long pp), .second, .val (.int (1 : Int32)), .val (.int (1 : Int32))] [(.int (if lo < pp then (if pp < hi then (1 : Int32) else (0 : Int32)) else (0 : Int32)))])) t → Steps p.tables e below (s₁.setTop (entryFrame m #[(.long xa), (.long ya), (.int mo), (.long dd), (.long qq)] maxLocals)) t := fun t kt => pre94 t (st95.trans kt)
                  have pre97 : ∀ t, Steps p.tables e below (T95.setTop (mkF m 211 #[.val (.long xa), .second, .val (.long ya), .second, .val (.int mo), .val (.long dd), .second, .val (.long qq), .second, .val (.long (xa &&& (4294967295 : Int64))), .second, .val (.long (ya &&& (4294967295 : Int64))), .second, .val (.long lo), .second, .val (.long hi), .second, .val (.ref b14), .val (.int (mo &&& (3 : Int32))), .val (.long pp), .second, .val (.int (1 : Int32)), .val (.int (1 : Int32))] [(.int (1 : Int32))])) t → Steps p.tables e below (s₁.setTop (entryFrame m #[(.long xa), (.long ya), (.int mo), (.long dd), (.long qq)] maxLocals)) t := fun t kt => pre96 t (by
                    refine XS.iload X95.here hx rfl (hb hby at_201) rfl ?_
                    show Steps p.tables e below (T95.setTop (mkF m 203 #[.val (.long xa), .second, .val (.long ya), .second, .val (.int mo), .val (.long dd), .second, .val (.long qq), .second, .val (.long (xa &&& (4294967295 : Int64))), .second, .val (.long (ya &&& (4294967295 : Int64))), .second, .val (.long lo), .second, .val (.long hi), .second, .val (.ref b14), .val (.int (mo &&& (3 : Int32))), .val (.long pp), .second, .val (.int (1 : Int32)), .val (.int (1 : Int32))] [(.int (1 : Int32)), (.int (if lo < pp then (if pp < hi then (1 : Int32) else (0 : Int32)) else (0 : Int32)))])) _
                    refine XS.icmpNo X95.here hx rfl (hb hby at_203) rfl (teq (by
                      have i_c37_1 := mt Int64.toInt_inj.mp c37_1
                      have i_c131_5 := mt Int64.lt_iff_toInt_lt.mpr c131_5
                      have i_c140_6 := mt Int64.lt_iff_toInt_lt.mpr c140_6
                      have i_c159_7 := mt Int64.lt_iff_toInt_lt.mpr c159_7
                      have i_c159_8 := mt Int64.lt_iff_toInt_lt.mpr c159_8
                      have i_c159_11 := Int64.toInt_inj.mpr c159_11
                      have i_c173_12 := mt Int64.toInt_inj.mp c173_12
                      have i_c184_13 := mt Int64.toInt_inj.mp c184_13
                      exact own_cut1 (by omega) : (if lo < pp then (if pp < hi then (1 : Int32) else (0 : Int32)) else (0 : Int32)) = (1 : Int32))).2 ?_
                    show Steps p.tables e below (T95.setTop (mkF m 206 #[.val (.long xa), .second, .val (.long ya), .second, .val (.int mo), .val (.long dd), .second, .val (.long qq), .second, .val (.long (xa &&& (4294967295 : Int64))), .second, .val (.long (ya &&& (4294967295 : Int64))), .second, .val (.long lo), .second, .val (.long hi), .second, .val (.ref b14), .val (.int (mo &&& (3 : Int32))), .val (.long pp), .second, .val (.int (1 : Int32)), .val (.int (1 : Int32))] [])) _
                    refine XS.iconst X95.here hx rfl (hb hby at_206) ?_
                    show Steps p.tables e below (T95.setTop (mkF m 207 #[.val (.long xa), .second, .val (.long ya), .second, .val (.int mo), .val (.long dd), .second, .val (.long qq), .second, .val (.long (xa &&& (4294967295 : Int64))), .second, .val (.long (ya &&& (4294967295 : Int64))), .second, .val (.long lo), .second, .val (.long hi), .second, .val (.ref b14), .val (.int (mo &&& (3 : Int32))), .val (.long pp), .second, .val (.int (1 : Int32)), .val (.int (1 : Int32))] [(.int (1 : Int32))])) _
                    refine XS.goto X95.here hx rfl (pc0 := 207) (pc' := 211) rfl (hb hby at_207) (by decide) (by decide) ?_
                    show Steps p.tables e below (T95.setTop (mkF m 211 #[.val (.long xa), .second, .val (.long ya), .second, .val (.int mo), .val (.long dd), .second, .val (.long qq), .second, .val (.long (xa &&& (4294967295 : Int64))), .second, .val (.long (ya &&& (4294967295 : Int64))), .second, .val (.long lo), .second, .val (.long hi), .second, .val (.ref b14), .val (.int (mo &&& (3 : Int32))), .val (.long pp), .second, .val (.int (1 : Int32)), .val (.int (1 : Int32))] [(.int (1 : Int32))])) _
                    exact kt)
                  obtain ⟨fs, hr, hrun, hended, hW, hsame⟩ := X95.leave (v := (some (.int (1 : Int32)))) (fun h => by rw [Bd.returns] at h; cases h)
                  refine ⟨_, _, pre97 _ ?_, hrun, hended, _, _, rfl, ?_, ⟨_, rfl⟩, hW, hsame.mono (by decide) (by decide)⟩
                  · exact retN X95 hx (t := .boolean) Bd.returns (by simp) (hb hby at_211) hr
                  · show Q0 Z  h0 n0 _ T95.heap _
                    rw [e95q]
                    exact ⟨rfl, N95⟩
            · obtain ⟨cq99, kq99, q99a, q99b, q99c⟩ := isOf hZ rfl (f20)
              obtain ⟨_, _, ⟨T99, L99, k99, n99⟩, -, X99, ⟨Lc99, hQ99, l99, y99, z99⟩, st99⟩ := X19.virtualBack hx (y := (⟨"com/example/calm_balancer/calmbalancer/BundleRange", "contains", "(J)Z"⟩ : MethodName)) (z := (⟨"com/example/calm_balancer/calmbalancer/BundleRange", "contains", "(J)Z"⟩ : MethodName)) hown (mvT hZ (hw _ (List.mem_of_getElem? (i := 22) rfl))) (mvT hZ (hw _ (List.mem_of_getElem? (i := 23) rfl))) (notFace_of_selects (args := #[]) (mvT hZ (hw _ (List.mem_of_getElem? (i := 25) rfl)))) (mvT hZ (hw _ (List.mem_of_getElem? (i := 25) rfl))) (mvT hZ (hw _ (List.mem_of_getElem? (i := 24) rfl))) (by decide) (backOf (W := 0) (rmC l Z a0 hw [] b14 pp lo hi T19.heap n0 Zf21 Fl19 Fu19 c131_5 c140_6) hZ (hw _ (List.mem_of_getElem? (i := 26) rfl)) (hw _ (List.mem_of_getElem? (i := 10) rfl)) (by decide) (by decide)) q99a q99c (g := (mkF m 159 #[.val (.long xa), .second, .val (.long ya), .second, .val (.int mo), .val (.long dd), .second, .val (.long qq), .second, .val (.long (xa &&& (4294967295 : Int64))), .second, .val (.long (ya &&& (4294967295 : Int64))), .second, .val (.long lo), .second, .val (.long hi), .second, .val (.ref b14), .val (.int (mo &&& (3 : Int32))), .val (.long pp), .second, .val (.int (1 : Int32)), .unset] [(.long pp), (.ref b14)])) rfl (by rw [hml]; rfl) (Steps.refl _) (argsL := [(.long pp)]) (rest := []) (lenOf pd__28J_29Z rfl) rfl (by show 2 * 0 + _ ≤ _; exact Nat.le_of_eq rfl) (hb hby at_159) (fun _ _ => ⟨rfl, rfl, (by decide : 1 + 0 ≤ _), (by decide : 2 + 0 ≤ _)⟩)
              dsimp only [Pt.U, Pt.locs, Pt.cells, Pt.slots] at X99 l99 y99 z99 st99 hQ99
              subst l99 y99 z99
              obtain ⟨rfl, N99q, e99q⟩ := hQ99
              have N99 := Fr.app N19 N99q
              have pre100 : ∀ t, Steps p.tables e below (T99.setTop (mkF m 162 #[.val (.long xa), .second, .val (.long ya), .second, .val (.int mo), .val (.long dd), .second, .val (.long qq), .second, .val (.long (xa &&& (4294967295 : Int64))), .second, .val (.long (ya &&& (4294967295 : Int64))), .second, .val (.long lo), .second, .val (.long hi), .second, .val (.ref b14), .val (.int (mo &&& (3 : Int32))), .val (.long pp), .second, .val (.int (1 : Int32)), .unset] [(.int (if pp < lo then (0 : Int32) else (if pp < hi then (1 : Int32) else (if hi = (4294967295 : Int64) then (1 : Int32) else (0 : Int32)))))])) t → Steps p.tables e below (s₁.setTop (entryFrame m #[(.long xa), (.long ya), (.int mo), (.long dd), (.long qq)] maxLocals)) t := fun t kt => pre38 t (st99.trans kt)
              have hv101 : (if pp < lo then (0 : Int32) else (if pp < hi then (1 : Int32) else (if hi = (4294967295 : Int64) then (1 : Int32) else (0 : Int32)))) = (0 : Int32) := by rw [if_neg c159_7, if_neg c159_8, if_neg c159_11]
              have pre101 : ∀ t, Steps p.tables e below (T99.setTop (mkF m 162 #[.val (.long xa), .second, .val (.long ya), .second, .val (.int mo), .val (.long dd), .second, .val (.long qq), .second, .val (.long (xa &&& (4294967295 : Int64))), .second, .val (.long (ya &&& (4294967295 : Int64))), .second, .val (.long lo), .second, .val (.long hi), .second, .val (.ref b14), .val (.int (mo &&& (3 : Int32))), .val (.long pp), .second, .val (.int (1 : Int32)), .unset] [(.int (0 : Int32))])) t → Steps p.tables e below (s₁.setTop (entryFrame m #[(.long xa), (.long ya), (.int mo), (.long dd), (.long qq)] maxLocals)) t := fun t kt => pre100 t (by rw [hv101]; exact kt)
              have pre102 : ∀ t, Steps p.tables e below (T99.setTop (mkF m 198 #[.val (.long xa), .second, .val (.long ya), .second, .val (.int mo), .val (.long dd), .second, .val (.long qq), .second, .val (.long (xa &&& (4294967295 : Int64))), .second, .val (.long (ya &&& (4294967295 : Int64))), .second, .val (.long lo), .second, .val (.long hi), .second, .val (.ref b14), .val (.int (mo &&& (3 : Int32))), .val (.long pp), .second, .val (.int (1 : Int32)), .val (.int (0 : Int32))] [(.long pp), (.ref b14)])) t → Steps p.tables e below (s₁.setTop (entryFrame m #[(.long xa), (.long ya), (.int mo), (.long dd), (.long qq)] maxLocals)) t := fun t kt => pre101 t (by
                refine XS.ifYes X99.here hx rfl (pc0 := 162) (pc' := 191) rfl (hb hby at_162) rfl ((if0 _ _).trans (teq rfl).1) (by decide) (by decide) ?_
                show Steps p.tables e below (T99.setTop (mkF m 191 #[.val (.long xa), .second, .val (.long ya), .second, .val (.int mo), .val (.long dd), .second, .val (.long qq), .second, .val (.long (xa &&& (4294967295 : Int64))), .second, .val (.long (ya &&& (4294967295 : Int64))), .second, .val (.long lo), .second, .val (.long hi), .second, .val (.ref b14), .val (.int (mo &&& (3 : Int32))), .val (.long pp), .second, .val (.int (1 : Int32)), .unset] [])) _
                refine XS.iconst X99.here hx rfl (hb hby at_191) ?_
                show Steps p.tables e below (T99.setTop (mkF m 192 #[.val (.long xa), .second, .val (.long ya), .second, .val (.int mo), .val (.long dd), .second, .val (.long qq), .second, .val (.long (xa &&& (4294967295 : Int64))), .second, .val (.long (ya &&& (4294967295 : Int64))), .second, .val (.long lo), .second, .val (.long hi), .second, .val (.ref b14), .val (.int (mo &&& (3 : Int32))), .val (.long pp), .second, .val (.int (1 : Int32)), .unset] [(.int (0 : Int32))])) _
                refine XS.istore X99.here hx rfl (hb hby at_192) rfl (l' := #[.val (.long xa), .second, .val (.long ya), .second, .val (.int mo), .val (.long dd), .second, .val (.long qq), .second, .val (.long (xa &&& (4294967295 : Int64))), .second, .val (.long (ya &&& (4294967295 : Int64))), .second, .val (.long lo), .second, .val (.long hi), .second, .val (.ref b14), .val (.int (mo &&& (3 : Int32))), .val (.long pp), .second, .val (.int (1 : Int32)), .val (.int (0 : Int32))]) rfl ?_
                show Steps p.tables e below (T99.setTop (mkF m 194 #[.val (.long xa), .second, .val (.long ya), .second, .val (.int mo), .val (.long dd), .second, .val (.long qq), .second, .val (.long (xa &&& (4294967295 : Int64))), .second, .val (.long (ya &&& (4294967295 : Int64))), .second, .val (.long lo), .second, .val (.long hi), .second, .val (.ref b14), .val (.int (mo &&& (3 : Int32))), .val (.long pp), .second, .val (.int (1 : Int32)), .val (.int (0 : Int32))] [])) _
                refine XS.aload X99.here hx rfl (hb hby at_194) rfl rfl ?_
                show Steps p.tables e below (T99.setTop (mkF m 196 #[.val (.long xa), .second, .val (.long ya), .second, .val (.int mo), .val (.long dd), .second, .val (.long qq), .second, .val (.long (xa &&& (4294967295 : Int64))), .second, .val (.long (ya &&& (4294967295 : Int64))), .second, .val (.long lo), .second, .val (.long hi), .second, .val (.ref b14), .val (.int (mo &&& (3 : Int32))), .val (.long pp), .second, .val (.int (1 : Int32)), .val (.int (0 : Int32))] [(.ref b14)])) _
                refine XS.lload X99.here hx rfl (hb hby at_196) rfl ?_
                show Steps p.tables e below (T99.setTop (mkF m 198 #[.val (.long xa), .second, .val (.long ya), .second, .val (.int mo), .val (.long dd), .second, .val (.long qq), .second, .val (.long (xa &&& (4294967295 : Int64))), .second, .val (.long (ya &&& (4294967295 : Int64))), .second, .val (.long lo), .second, .val (.long hi), .second, .val (.ref b14), .val (.int (mo &&& (3 : Int32))), .val (.long pp), .second, .val (.int (1 : Int32)), .val (.int (0 : Int32))] [(.long pp), (.ref b14)])) _
                exact kt)
              obtain ⟨cq103, kq103, q103a, q103b, q103c⟩ := isOf hZ e99q (f20)
              obtain ⟨_, _, ⟨T103, L103, k103, n103⟩, -, X103, ⟨Lc103, hQ103, l103, y103, z103⟩, st103⟩ := X99.virtualBack hx (y := (⟨"com/example/calm_balancer/calmbalancer/BundleRange", "canCutAt", "(J)Z"⟩ : MethodName)) (z := (⟨"com/example/calm_balancer/calmbalancer/BundleRange", "canCutAt", "(J)Z"⟩ : MethodName)) hown (mvT hZ (hw _ (List.mem_of_getElem? (i := 30) rfl))) (mvT hZ (hw _ (List.mem_of_getElem? (i := 31) rfl))) (notFace_of_selects (args := #[]) (mvT hZ (hw _ (List.mem_of_getElem? (i := 33) rfl)))) (mvT hZ (hw _ (List.mem_of_getElem? (i := 33) rfl))) (mvT hZ (hw _ (List.mem_of_getElem? (i := 32) rfl))) (by decide) (backOf (W := 0) (rmK l Z a0 hw [] b14 pp lo hi T19.heap n0 Zf21 Fl19 Fu19) hZ (hw _ (List.mem_of_getElem? (i := 34) rfl)) (hw _ (List.mem_of_getElem? (i := 10) rfl)) (by decide) (by decide)) q103a q103c (g := (mkF m 198 #[.val (.long xa), .second, .val (.long ya), .second, .val (.int mo), .val (.long dd), .second, .val (.long qq), .second, .val (.long (xa &&& (4294967295 : Int64))), .second, .val (.long (ya &&& (4294967295 : Int64))), .second, .val (.long lo), .second, .val (.long hi), .second, .val (.ref b14), .val (.int (mo &&& (3 : Int32))), .val (.long pp), .second, .val (.int (1 : Int32)), .val (.int (0 : Int32))] [(.long pp), (.ref b14)])) rfl (by rw [hml]; rfl) (Steps.refl _) (argsL := [(.long pp)]) (rest := []) (lenOf pd__28J_29Z rfl) rfl (by show 2 * 0 + _ ≤ _; exact Nat.le_of_eq rfl) (hb hby at_198) (fun _ _ => ⟨rfl, e99q, (by decide : 1 + 0 ≤ _), (by decide : 2 + 0 ≤ _)⟩)
              dsimp only [Pt.U, Pt.locs, Pt.cells, Pt.slots] at X103 l103 y103 z103 st103 hQ103
              subst l103 y103 z103
              obtain ⟨rfl, N103q, e103q⟩ := hQ103
              have N103 := Fr.app N99 N103q
              have pre104 : ∀ t, Steps p.tables e below (T103.setTop (mkF m 201 #[.val (.long xa), .second, .val (.long ya), .second, .val (.int mo), .val (.long dd), .second, .val (.long qq), .second, .val (.long (xa &&& (4294967295 : Int64))), .second, .val (.long (ya &&& (4294967295 : Int64))), .second, .val (.long lo), .second, .val (.long hi), .second, .val (.ref b14), .val (.int (mo &&& (3 : Int32))), .val (.long pp), .second, .val (.int (1 : Int32)), .val (.int (0 : Int32))] [(.int (if lo < pp then (if pp < hi then (1 : Int32) else (0 : Int32)) else (0 : Int32)))])) t → Steps p.tables e below (s₁.setTop (entryFrame m #[(.long xa), (.long ya), (.int mo), (.long dd), (.long qq)] maxLocals)) t := fun t kt => pre102 t (st103.trans kt)
              have pre105 : ∀ t, Steps p.tables e below (T103.setTop (mkF m 211 #[.val (.long xa), .second, .val (.long ya), .second, .val (.int mo), .val (.long dd), .second, .val (.long qq), .second, .val (.long (xa &&& (4294967295 : Int64))), .second, .val (.long (ya &&& (4294967295 : Int64))), .second, .val (.long lo), .second, .val (.long hi), .second, .val (.ref b14), .val (.int (mo &&& (3 : Int32))), .val (.long pp), .second, .val (.int (1 : Int32)), .val (.int (0 : Int32))] [(.int (1 : Int32))])) t → Steps p.tables e below (s₁.setTop (entryFrame m #[(.long xa), (.long ya), (.int mo), (.long dd), (.long qq)] maxLocals)) t := fun t kt => pre104 t (by
                refine XS.iload X103.here hx rfl (hb hby at_201) rfl ?_
                show Steps p.tables e below (T103.setTop (mkF m 203 #[.val (.long xa), .second, .val (.long ya), .second, .val (.int mo), .val (.long dd), .second, .val (.long qq), .second, .val (.long (xa &&& (4294967295 : Int64))), .second, .val (.long (ya &&& (4294967295 : Int64))), .second, .val (.long lo), .second, .val (.long hi), .second, .val (.ref b14), .val (.int (mo &&& (3 : Int32))), .val (.long pp), .second, .val (.int (1 : Int32)), .val (.int (0 : Int32))] [(.int (0 : Int32)), (.int (if lo < pp then (if pp < hi then (1 : Int32) else (0 : Int32)) else (0 : Int32)))])) _
                refine XS.icmpNo X103.here hx rfl (hb hby at_203) rfl (teq (by
                  have i_c37_1 := mt Int64.toInt_inj.mp c37_1
                  have i_c131_5 := mt Int64.lt_iff_toInt_lt.mpr c131_5
                  have i_c140_6 := mt Int64.lt_iff_toInt_lt.mpr c140_6
                  have i_c159_7 := mt Int64.lt_iff_toInt_lt.mpr c159_7
                  have i_c159_8 := mt Int64.lt_iff_toInt_lt.mpr c159_8
                  have i_c159_11 := mt Int64.toInt_inj.mp c159_11
                  exact own_cut0 (by omega) : (if lo < pp then (if pp < hi then (1 : Int32) else (0 : Int32)) else (0 : Int32)) = (0 : Int32))).2 ?_
                show Steps p.tables e below (T103.setTop (mkF m 206 #[.val (.long xa), .second, .val (.long ya), .second, .val (.int mo), .val (.long dd), .second, .val (.long qq), .second, .val (.long (xa &&& (4294967295 : Int64))), .second, .val (.long (ya &&& (4294967295 : Int64))), .second, .val (.long lo), .second, .val (.long hi), .second, .val (.ref b14), .val (.int (mo &&& (3 : Int32))), .val (.long pp), .second, .val (.int (1 : Int32)), .val (.int (0 : Int32))] [])) _
                refine XS.iconst X103.here hx rfl (hb hby at_206) ?_
                show Steps p.tables e below (T103.setTop (mkF m 207 #[.val (.long xa), .second, .val (.long ya), .second, .val (.int mo), .val (.long dd), .second, .val (.long qq), .second, .val (.long (xa &&& (4294967295 : Int64))), .second, .val (.long (ya &&& (4294967295 : Int64))), .second, .val (.long lo), .second, .val (.long hi), .second, .val (.ref b14), .val (.int (mo &&& (3 : Int32))), .val (.long pp), .second, .val (.int (1 : Int32)), .val (.int (0 : Int32))] [(.int (1 : Int32))])) _
                refine XS.goto X103.here hx rfl (pc0 := 207) (pc' := 211) rfl (hb hby at_207) (by decide) (by decide) ?_
                show Steps p.tables e below (T103.setTop (mkF m 211 #[.val (.long xa), .second, .val (.long ya), .second, .val (.int mo), .val (.long dd), .second, .val (.long qq), .second, .val (.long (xa &&& (4294967295 : Int64))), .second, .val (.long (ya &&& (4294967295 : Int64))), .second, .val (.long lo), .second, .val (.long hi), .second, .val (.ref b14), .val (.int (mo &&& (3 : Int32))), .val (.long pp), .second, .val (.int (1 : Int32)), .val (.int (0 : Int32))] [(.int (1 : Int32))])) _
                exact kt)
              obtain ⟨fs, hr, hrun, hended, hW, hsame⟩ := X103.leave (v := (some (.int (1 : Int32)))) (fun h => by rw [Bd.returns] at h; cases h)
              refine ⟨_, _, pre105 _ ?_, hrun, hended, _, _, rfl, ?_, ⟨_, rfl⟩, hW, hsame.mono (by decide) (by decide)⟩
              · exact retN X103 hx (t := .boolean) Bd.returns (by simp) (hb hby at_211) hr
              · show Q0 Z  h0 n0 _ T103.heap _
                rw [e103q]
                exact ⟨rfl, N103⟩
set_option maxRecDepth 65536 in
set_option maxHeartbeats 40000000 in
theorem comes_1 {Post : Tables → Env → Array Value → State → Outcome → State → Prop} (hpost : ∀ tb e args s v u, (limb_1_1.after args s (.returned v) u = true ∧ limb_1_2.after args s (.returned v) u = true ∧ True) → FrameEnd s (.returned v) u (Jvm.fieldLocs frame_1_writes args s ++ Jvm.arrayLocs frame_1_arrays args s ++ Jvm.staticLocs frame_1_statics s) 16 128 → Post tb e args s (.returned v) u) :
    ArmFor flags0 classFile x code maxLocals ret World_1 tables_1 room_1 Calls_1 rest_1 Pre_1 Post := by
  intro l hfl _ _ p e ha hc hk s m args below hf hA hF happ hP
  obtain ⟨hcalls, hrest, hpre⟩ := hP
  obtain ⟨-, -, -, hnamed, -, -, -, hat⟩ := (Spec.applies_iff hf).mp happ
  obtain ⟨hg, hn⟩ := and_e (Cond.before_iff.mp (show (Jvm.Cond.and given_1 narrow_1).before args s = true from hpre))
  obtain ⟨gc, ga⟩ := and_e hg
  obtain ⟨g0, r0⟩ := and_e ga
  obtain ⟨g1, r1⟩ := and_e r0
  obtain ⟨g2, r2⟩ := and_e r1
  obtain ⟨g3, r3⟩ := and_e r2
  obtain ⟨w0, w1, w2, w3, w4, rfl⟩ : ∃ w0 w1 w2 w3 w4 : Value, args = #[w0, w1, w2, w3, w4] := by
    have hs : args.size = 5 := by simpa [Cond.value, given_1] using gc
    obtain ⟨L⟩ := args
    match L, hs with
    | [w0, w1, w2, w3, w4], _ => exact ⟨w0, w1, w2, w3, w4, rfl⟩
  have hw := fun d (hd : d ∈ tables_1) => atoms_spec (ws := Jvm.Cond.code x code maxLocals ret :: tables_1) hat d (List.mem_cons_of_mem _ hd)
  have hfit : Fit s := fun {y c} hc i hi => by
    obtain ⟨ha, rfl⟩ := Array.getElem?_eq_some_iff.mp hc
    have q := List.all_eq_true.mp ((Array.all_eq_true_iff_forall_mem.mp hF) _ (Array.getElem_mem ha)) i (List.mem_range.mpr hi)
    simpa [Array.getElem?_eq_getElem hi] using q
  obtain ⟨i0, ei0⟩ := isL_v g0
  obtain rfl : w0 = (.long i0) := Option.some.inj ei0
  obtain ⟨i1, ei1⟩ := isL_v g1
  obtain rfl : w1 = (.long i1) := Option.some.inj ei1
  obtain ⟨i2, ei2⟩ := is_v g2
  obtain rfl : w2 = (.int i2) := Option.some.inj ei2
  obtain ⟨i3, ei3⟩ := isL_v g3
  obtain rfl : w3 = (.long i3) := Option.some.inj ei3
  obtain ⟨i4, ei4⟩ := isL_v r3
  obtain rfl : w4 = (.long i4) := Option.some.inj ei4
  obtain ⟨n, o, h1, h2, h3, _, L, rfl, ⟨rfl, N⟩, hq⟩ := rm0 l s _ hw tables_1 i0 i1 i2 i3 i4  s.heap s.heap.size (Nat.le_refl _)  p e ha hc hk s m _ below hf ((Spec.applies_iff_loose hf).mp happ).1 ⟨rfl, State.Warmed39.refl s, rfl⟩ trivial
  refine ⟨n, _, h1, h2, h3, hpost _ _ _ _ _ _ ⟨Cond.after_iff.mpr rfl, Cond.after_iff.mpr (eq_i res_at (Term.int_eval (1)) rfl), trivial⟩ ⟨hq.1, hq.2.1, (hq.2.2.sift fun y hy => Or.inr (N y hy)).mono (by decide) (by decide)⟩⟩
theorem main_1_1 : Claimed_1_1 := comes_1 fun _ _ _ _ _ _ h hF => ⟨h.1, hF⟩
theorem main_1_2 : Claimed_1_2 := comes_1 fun _ _ _ _ _ _ h hF => ⟨h.2.1, hF⟩
end Jvm.Pilot.@@N@@
namespace Jvm.Pilot.@@N@@
open Jvm Jvm.ClassFile Sem Op Lib Jvm.Free Jvm.Stand Jvm.Pilot.@@N@@.Jvm.D
/-! MADE BY PROGRAM (witnessworld.py) out of the Statement's table words and the real class files: 10 classes; the members and pool entries that the words name. The judged class is class 1, her method 1. -/
namespace start1
open Jvm.ClassFile
def u (s : String) : CpInfo := .utf8 (stringToUtf16 s)
/-- a pool by its gaps: so many unusable entries, then the entry; so many at the end -/
def gap : Nat → List CpInfo → List CpInfo
  | 0, r => r
  | n + 1, r => .unusable :: gap n r
def poolList (es : List (Nat × CpInfo)) (last : Nat) : List CpInfo := es.foldr (fun e r => gap e.1 (e.2 :: r)) (gap last [])
def pool (es : List (Nat × CpInfo)) (last : Nat) : Array CpInfo := ⟨poolList es last⟩
def fileOf (pool : Array CpInfo) (this : Nat) (attrs : Array Attribute := #[]) (ms : Array MethodInfo := #[]) (fl : Nat := 33) (sup : Nat := 0) (ifs : Array Nat := #[]) (fds : Array FieldInfo := #[]) : ClassFile where
  minorVersion := 0
  majorVersion := 65
  constantPool := pool
  accessFlags := fl
  thisClass := this
  superClass := sup
  interfaces := ifs
  fields := fds
  methods := ms
  attributes := attrs
def plain (name : String) (sup : Option ClassId) : Class where
  name := name
  kind := .ordinary
  loader := none
  accessFlags := 33
  super := sup
  interfaces := #[]
  cf := none
  fields := #[]
  methods := #[]
  instanceTypes := #[]
  staticTypes := #[]
  resolved := #[]
  callSites := []
  init := .initialized
  statics := none
  mirror := none

def pool0 : Array CpInfo := pool [(5, u "<init>"), (0, u "()V"), (1, .class_ 10), (1, u "java/lang/Object")] 113

def k0c0 : Code := { maxStack := 0, maxLocals := 1, code := object_method_1_code, exceptionTable := #[], attributes := #[] }
def k0m0 : Method := { name := "<init>", desc := "()V", sig := { parameters := [], returnType := none }, accessFlags := 1, code := some k0c0 }
/-- java/lang/Object -/
def k0 : Class := { plain "java/lang/Object" none with
  accessFlags := 33
  interfaces := #[]
  cf := some (fileOf pool0 8 #[] #[{ accessFlags := 1, nameIndex := 5, descriptorIndex := 6, attributes := #[] }] 33 0 #[] #[])
  fields := #[]
  methods := #[k0m0]
  instanceTypes := #[]
  staticTypes := #[]
  resolved := Array.replicate 124 none
  statics := none }

def pool1 : Array CpInfo := pool [(2, .class_ 4), (1, u "java/lang/Object"), (0, u "<init>"), (0, u "()V"), (0, .class_ 8), (0, u "com/example/calm_balancer/calmbalancer/BundleRange"), (0, .long 4294967295), (1, .methodref 12 13), (0, .class_ 14), (0, .nameAndType 15 16), (0, u "java/lang/Math"), (0, u "min"), (0, u "(JJ)J"), (0, .methodref 12 18), (0, .nameAndType 19 16), (0, u "max"), (0, .methodref 7 21), (0, .nameAndType 5 22), (0, u "(JJ)V"), (0, .long 3), (1, .long 2), (1, .methodref 7 28), (0, .nameAndType 29 30), (0, u "contains"), (0, u "(J)Z"), (0, .methodref 7 32), (0, .nameAndType 33 34), (0, u "lower"), (0, u "()J"), (0, .methodref 7 36), (0, .nameAndType 37 34), (0, u "upper"), (0, .methodref 7 39), (0, .nameAndType 40 30), (0, u "canCutAt"), (0, .class_ 42), (0, u "com/example/calm_balancer/calmbalancer/BundleRangeCanCutAtPinLaw"), (2, u "law"), (0, u "(JJIJJ)Z")] 3

def k1m0 : Method := { name := "<init>", desc := "()V", sig := { parameters := [], returnType := none }, accessFlags := 1, code := none }
def k1c1 : Code := { maxStack := 6, maxLocals := 23, code := code, exceptionTable := #[], attributes := #[] }
def k1m1 : Method := { name := "law", desc := "(JJIJJ)Z", sig := { parameters := [.long, .long, .int, .long, .long], returnType := some .boolean }, accessFlags := 9, code := some k1c1 }
/-- com/example/calm_balancer/calmbalancer/BundleRangeCanCutAtPinLaw -/
def k1 : Class := { plain "com/example/calm_balancer/calmbalancer/BundleRangeCanCutAtPinLaw" (some 0) with
  accessFlags := 49
  interfaces := #[]
  cf := some (fileOf pool1 41 #[] #[{ accessFlags := 1, nameIndex := 5, descriptorIndex := 6, attributes := #[] }, { accessFlags := 9, nameIndex := 45, descriptorIndex := 46, attributes := #[] }] 49 2 #[] #[])
  fields := #[]
  methods := #[k1m0, k1m1]
  instanceTypes := #[]
  staticTypes := #[]
  resolved := Array.replicate 50 none
  statics := none }

def pool2 : Array CpInfo := pool [(1, .class_ 2), (0, u "java/lang/Math"), (1, .class_ 6), (1, u "java/lang/Object"), (0, u "<init>"), (0, u "()V"), (89, .class_ 100), (1, u "java/lang/Math$RandomNumberGeneratorHolder"), (20, u "(JJ)J"), (50, u "negativeZeroFloatBits"), (0, u "J"), (2, u "negativeZeroDoubleBits"), (21, u "max"), (2, u "min"), (43, u "$assertionsDisabled"), (0, u "Z"), (91, u "twoToTheDoubleScaleDown"), (0, u "D"), (4, u "twoToTheDoubleScaleUp"), (9, u "E"), (3, u "PI"), (2, u "TAU"), (2, u "DEGREES_TO_RADIANS"), (0, u "RADIANS_TO_DEGREES")] 94

def k2m0 : Method := { name := "<init>", desc := "()V", sig := { parameters := [], returnType := none }, accessFlags := 2, code := none }
def k2c1 : Code := { maxStack := 4, maxLocals := 4, code := jdk_29_method_66_code, exceptionTable := #[], attributes := #[] }
def k2m1 : Method := { name := "max", desc := "(JJ)J", sig := { parameters := [.long, .long], returnType := some .long }, accessFlags := 9, code := some k2c1 }
def k2c2 : Code := { maxStack := 4, maxLocals := 4, code := jdk_29_method_70_code, exceptionTable := #[], attributes := #[] }
def k2m2 : Method := { name := "min", desc := "(JJ)J", sig := { parameters := [.long, .long], returnType := some .long }, accessFlags := 9, code := some k2c2 }
/-- java/lang/Math -/
def k2 : Class := { plain "java/lang/Math" (some 0) with
  accessFlags := 49
  interfaces := #[]
  cf := some (fileOf pool2 1 #[.nestMembers #[98]] #[{ accessFlags := 2, nameIndex := 7, descriptorIndex := 8, attributes := #[] }, { accessFlags := 9, nameIndex := 198, descriptorIndex := 121, attributes := #[] }, { accessFlags := 9, nameIndex := 201, descriptorIndex := 121, attributes := #[] }] 49 4 #[] #[{ accessFlags := 25, nameIndex := 354, descriptorIndex := 339, attributes := #[] }, { accessFlags := 25, nameIndex := 358, descriptorIndex := 339, attributes := #[] }, { accessFlags := 25, nameIndex := 361, descriptorIndex := 339, attributes := #[] }, { accessFlags := 26, nameIndex := 364, descriptorIndex := 339, attributes := #[] }, { accessFlags := 26, nameIndex := 365, descriptorIndex := 339, attributes := #[] }, { accessFlags := 26, nameIndex := 172, descriptorIndex := 173, attributes := #[] }, { accessFlags := 26, nameIndex := 176, descriptorIndex := 173, attributes := #[] }, { accessFlags := 8, nameIndex := 344, descriptorIndex := 339, attributes := #[] }, { accessFlags := 8, nameIndex := 338, descriptorIndex := 339, attributes := #[] }, { accessFlags := 4120, nameIndex := 245, descriptorIndex := 246, attributes := #[] }])
  fields := #[{ name := "E", type := .double, accessFlags := 25, slot := 0, constantValue := 0 }, { name := "PI", type := .double, accessFlags := 25, slot := 1, constantValue := 0 }, { name := "TAU", type := .double, accessFlags := 25, slot := 2, constantValue := 0 }, { name := "DEGREES_TO_RADIANS", type := .double, accessFlags := 26, slot := 3, constantValue := 0 }, { name := "RADIANS_TO_DEGREES", type := .double, accessFlags := 26, slot := 4, constantValue := 0 }, { name := "negativeZeroFloatBits", type := .long, accessFlags := 26, slot := 5, constantValue := 0 }, { name := "negativeZeroDoubleBits", type := .long, accessFlags := 26, slot := 6, constantValue := 0 }, { name := "twoToTheDoubleScaleUp", type := .double, accessFlags := 8, slot := 7, constantValue := 0 }, { name := "twoToTheDoubleScaleDown", type := .double, accessFlags := 8, slot := 8, constantValue := 0 }, { name := "$assertionsDisabled", type := .boolean, accessFlags := 4120, slot := 9, constantValue := 0 }]
  methods := #[k2m0, k2m1, k2m2]
  instanceTypes := #[]
  staticTypes := #[.double, .double, .double, .double, .double, .long, .long, .double, .double, .boolean]
  resolved := Array.replicate 460 none
  statics := none }

def pool3 : Array CpInfo := pool [(1, .class_ 2), (0, u "com/example/calm_balancer/calmbalancer/BundleRange"), (0, .methodref 4 5), (0, .class_ 6), (0, .nameAndType 7 8), (0, u "java/lang/Object"), (0, u "<init>"), (0, u "()V"), (0, .long 4294967295), (16, .fieldref 1 27), (0, .nameAndType 28 29), (0, u "lower"), (0, u "J"), (0, .fieldref 1 31), (0, .nameAndType 32 29), (0, u "upper"), (2, u "WRITTEN_FORM"), (0, u "Ljava/util/regex/Pattern;"), (25, u "(JJ)V"), (2, u "GIVEN_HASH"), (18, .methodref 1 85), (0, .nameAndType 86 87), (0, u "checkHash"), (0, u "(J)V"), (42, u "contains"), (0, u "(J)Z"), (33, u "MAX_HASH"), (1, u "HASH_COUNT"), (0, u "HASH_SPACE"), (0, u "Ljava/lang/String;"), (2, u "WRITTEN_FORMAT"), (25, u "()J"), (0, u "canCutAt")] 43

def k3c0 : Code := { maxStack := 6, maxLocals := 5, code := prog_5_method_1_code, exceptionTable := #[], attributes := #[] }
def k3m0 : Method := { name := "<init>", desc := "(JJ)V", sig := { parameters := [.long, .long], returnType := none }, accessFlags := 1, code := some k3c0 }
def k3c1 : Code := { maxStack := 2, maxLocals := 1, code := prog_5_method_10_code, exceptionTable := #[], attributes := #[] }
def k3m1 : Method := { name := "lower", desc := "()J", sig := { parameters := [], returnType := some .long }, accessFlags := 1, code := some k3c1 }
def k3c2 : Code := { maxStack := 2, maxLocals := 1, code := prog_5_method_11_code, exceptionTable := #[], attributes := #[] }
def k3m2 : Method := { name := "upper", desc := "()J", sig := { parameters := [], returnType := some .long }, accessFlags := 1, code := some k3c2 }
def k3c3 : Code := { maxStack := 4, maxLocals := 3, code := prog_5_method_12_code, exceptionTable := #[], attributes := #[] }
def k3m3 : Method := { name := "contains", desc := "(J)Z", sig := { parameters := [.long], returnType := some .boolean }, accessFlags := 1, code := some k3c3 }
def k3c4 : Code := { maxStack := 4, maxLocals := 3, code := prog_5_method_13_code, exceptionTable := #[], attributes := #[] }
def k3m4 : Method := { name := "canCutAt", desc := "(J)Z", sig := { parameters := [.long], returnType := some .boolean }, accessFlags := 1, code := some k3c4 }
def k3c5 : Code := { maxStack := 4, maxLocals := 2, code := prog_5_method_21_code, exceptionTable := #[], attributes := #[] }
def k3m5 : Method := { name := "checkHash", desc := "(J)V", sig := { parameters := [.long], returnType := none }, accessFlags := 10, code := some k3c5 }
/-- com/example/calm_balancer/calmbalancer/BundleRange -/
def k3 : Class := { plain "com/example/calm_balancer/calmbalancer/BundleRange" (some 0) with
  accessFlags := 33
  interfaces := #[]
  cf := some (fileOf pool3 1 #[] #[{ accessFlags := 1, nameIndex := 7, descriptorIndex := 62, attributes := #[] }, { accessFlags := 1, nameIndex := 28, descriptorIndex := 198, attributes := #[] }, { accessFlags := 1, nameIndex := 32, descriptorIndex := 198, attributes := #[] }, { accessFlags := 1, nameIndex := 130, descriptorIndex := 131, attributes := #[] }, { accessFlags := 1, nameIndex := 199, descriptorIndex := 131, attributes := #[] }, { accessFlags := 10, nameIndex := 86, descriptorIndex := 87, attributes := #[] }] 33 4 #[] #[{ accessFlags := 25, nameIndex := 165, descriptorIndex := 29, attributes := #[] }, { accessFlags := 26, nameIndex := 167, descriptorIndex := 29, attributes := #[] }, { accessFlags := 26, nameIndex := 168, descriptorIndex := 169, attributes := #[] }, { accessFlags := 26, nameIndex := 172, descriptorIndex := 169, attributes := #[] }, { accessFlags := 26, nameIndex := 35, descriptorIndex := 36, attributes := #[] }, { accessFlags := 26, nameIndex := 65, descriptorIndex := 36, attributes := #[] }, { accessFlags := 18, nameIndex := 28, descriptorIndex := 29, attributes := #[] }, { accessFlags := 18, nameIndex := 32, descriptorIndex := 29, attributes := #[] }])
  fields := #[{ name := "MAX_HASH", type := .long, accessFlags := 25, slot := 0, constantValue := 0 }, { name := "HASH_COUNT", type := .long, accessFlags := 26, slot := 1, constantValue := 0 }, { name := "HASH_SPACE", type := (.object "java/lang/String"), accessFlags := 26, slot := 2, constantValue := 0 }, { name := "WRITTEN_FORMAT", type := (.object "java/lang/String"), accessFlags := 26, slot := 3, constantValue := 0 }, { name := "WRITTEN_FORM", type := (.object "java/util/regex/Pattern"), accessFlags := 26, slot := 4, constantValue := 0 }, { name := "GIVEN_HASH", type := (.object "java/util/regex/Pattern"), accessFlags := 26, slot := 5, constantValue := 0 }, { name := "lower", type := .long, accessFlags := 18, slot := 0, constantValue := 0 }, { name := "upper", type := .long, accessFlags := 18, slot := 1, constantValue := 0 }]
  methods := #[k3m0, k3m1, k3m2, k3m3, k3m4, k3m5]
  instanceTypes := #[.long, .long]
  staticTypes := #[.long, .long, (.object "java/lang/String"), (.object "java/lang/String"), (.object "java/util/regex/Pattern"), (.object "java/util/regex/Pattern")]
  resolved := Array.replicate 243 none
  statics := none }

def pool4 : Array CpInfo := pool [(1, u "java/lang/Cloneable"), (0, .class_ 1), (0, u "java/lang/Object"), (0, .class_ 3)] 3

/-- java/lang/Cloneable -/
def k4 : Class := { plain "java/lang/Cloneable" (some 0) with
  accessFlags := 1537
  interfaces := #[]
  cf := some (fileOf pool4 2 #[] #[] 1537 4 #[] #[])
  fields := #[]
  methods := #[]
  instanceTypes := #[]
  staticTypes := #[]
  resolved := Array.replicate 8 none
  statics := none }

def pool5 : Array CpInfo := pool [(1, u "java/io/Serializable"), (0, .class_ 1), (0, u "java/lang/Object"), (0, .class_ 3)] 3

/-- java/io/Serializable -/
def k5 : Class := { plain "java/io/Serializable" (some 0) with
  accessFlags := 1537
  interfaces := #[]
  cf := some (fileOf pool5 2 #[] #[] 1537 4 #[] #[])
  fields := #[]
  methods := #[]
  instanceTypes := #[]
  staticTypes := #[]
  resolved := Array.replicate 8 none
  statics := none }

/-- the primitive byte -/
def k6 : Class := { plain "byte" none with kind := .primitive 'B', accessFlags := 0x411 }
/-- [B -/
def k7 : Class := { plain "[B" (some 0) with kind := .array 6 .byte, interfaces := #[4, 5], accessFlags := 1041 }

/-- the primitive int -/
def k8 : Class := { plain "int" none with kind := .primitive 'I', accessFlags := 0x411 }
/-- [I -/
def k9 : Class := { plain "[I" (some 0) with kind := .array 8 .int, interfaces := #[4, 5], accessFlags := 1041 }

def heap : Heap := #[]
def classes : Array Class := #[k0, k1, k2, k3, k4, k5, k6, k7, k8, k9]
def interned : List (Array UInt16 × Addr) := []
def slotsUsed : Nat := 0
def theMethod : MethodId := ⟨1, 1⟩
def args0 : Array Value := #[.long 5, .long 9, .int 1, .long 3, .long 2]
def aboutOver (below : List Frame) : State where
  vm := { classes := classes, interned := interned.toArray }
  heap := heap
  slotsUsed := slotsUsed
  threads := #[{ frames := .invoking theMethod args0 :: below }]
def below0 : List Frame := [.native { method := ⟨0, 0⟩, args := #[] }]
def about1 : State := aboutOver below0
def p0 : Program := .bare "" "" ""
def e0 : Env := launch0.env 0 0 0
theorem w_frames : about1.frames = Frame.invoking theMethod args0 :: below0 := rfl
set_option maxRecDepth 65536 in
theorem w_args : argsFit about1.vm theMethod args0 = true := by decide +kernel
set_option maxRecDepth 65536 in
theorem w_heap : heapFits about1 = true := by decide +kernel
set_option maxRecDepth 65536 in
theorem w_runnable : about1.curStatus? = some .runnable := by decide +kernel
set_option maxRecDepth 65536 in
theorem w_alone : about1.alone = true := by decide +kernel
set_option maxRecDepth 65536 in
theorem w_named : about1.methodNamed? x = some theMethod := by decide +kernel
set_option maxRecDepth 65536 in
theorem w_hears : about1.hears theMethod below0 = true := by decide +kernel
set_option maxRecDepth 65536 in
theorem w_ripe : about1.ripe theMethod args0 below0 = true := by decide +kernel
theorem w_running : about1.status = .running := rfl
set_option maxRecDepth 65536 in
theorem w_room : about1.hasRoom e0.platform room_1 = true :=
  launch0.hasRoom_least _ room_1 (by decide +kernel) (by decide +kernel) (by decide +kernel) (by decide +kernel) (by decide +kernel) (by decide +kernel)
theorem allAtoms_all (ts : List Jvm.Cond) (a : Array Jvm.Value) (st : Jvm.State) : (allAtoms ts).before a st = ts.all (fun c => c.before a st) := by
  induction ts with
  | nil => rfl
  | cons c t ih =>
    show (Jvm.Cond.and c (allAtoms t)).before a st = _
    rw [Jvm.Cond.before_and, ih, List.all_cons]
def words1 : List Jvm.Cond := Jvm.Cond.code x code maxLocals ret :: tables_1
/-- a 'code' word, met by the world's own term for the bytes: nothing is compared byte by byte -/
theorem code_word {y : MethodName} {bytes : ByteArray} {mx : Nat} {rt : Option FieldType} {a : Array Value} {s : State} {m : MethodId} {meth : Method} {c : Code} (h1 : s.methodNamed? y = some m) (h2 : s.vm.method? m = some meth) (h3 : meth.code = some c) (h4 : c.code = bytes)
    (h5 : (c.maxLocals == mx && c.exceptionTable.isEmpty && decide (c.maxStack ≤ mostOperands) && decide (meth.sig.returnType = rt) && !meth.locks && decide (parseMethodDescriptor y.desc = some meth.sig)) = true) : (Jvm.Cond.code y bytes mx rt).before a s = true := by
  simp only [Bool.and_eq_true, beq_iff_eq, Bool.not_eq_true', decide_eq_true_eq] at h5
  obtain ⟨⟨⟨⟨⟨g1, g2⟩, g3⟩, g4⟩, g5⟩, g6⟩ := h5
  simp [Cond.before, Cond.holds, Cond.value, h1, h2, h3, h4, g1, g2, g3, g4, g5, g6]
def isCode : Jvm.Cond → Bool
  | .code _ _ _ _ => true
  | _ => false
theorem all_split {L : List Jvm.Cond} {P : Jvm.Cond → Bool} (h1 : L.all (fun c => isCode c || P c) = true) (h2 : ∀ c ∈ L.filter isCode, P c = true) : L.all P = true := by
  refine List.all_eq_true.mpr fun c hc => ?_
  have h := List.all_eq_true.mp h1 c hc
  rcases Bool.eq_false_or_eq_true (isCode c) with hi | hi
  · exact h2 c (List.mem_filter.mpr ⟨hc, hi⟩)
  · simpa [hi] using h
set_option maxRecDepth 65536 in
theorem w_c0 : (Jvm.Cond.code x code maxLocals ret).before args0 about1 = true := code_word (m := ⟨1, 1⟩) (meth := k1m1) (c := k1c1) (by decide +kernel) rfl rfl rfl (by decide +kernel)
set_option maxRecDepth 65536 in
theorem w_c1 : (Jvm.Cond.code ({ cls := "java/lang/Math", name := "min", desc := "(JJ)J" } : Jvm.MethodName) jdk_29_method_70_code (4 : Nat) (Option.some Jvm.ClassFile.FieldType.long)).before args0 about1 = true := code_word (m := ⟨2, 2⟩) (meth := k2m2) (c := k2c2) (by decide +kernel) rfl rfl rfl (by decide +kernel)
set_option maxRecDepth 65536 in
theorem w_c2 : (Jvm.Cond.code ({ cls := "java/lang/Math", name := "max", desc := "(JJ)J" } : Jvm.MethodName) jdk_29_method_66_code (4 : Nat) (Option.some Jvm.ClassFile.FieldType.long)).before args0 about1 = true := code_word (m := ⟨2, 1⟩) (meth := k2m1) (c := k2c1) (by decide +kernel) rfl rfl rfl (by decide +kernel)
set_option maxRecDepth 65536 in
theorem w_c3 : (Jvm.Cond.code ({ cls := "com/example/calm_balancer/calmbalancer/BundleRange", name := "<init>", desc := "(JJ)V" } : Jvm.MethodName) prog_5_method_1_code (5 : Nat) (Option.none : Option Jvm.ClassFile.FieldType)).before args0 about1 = true := code_word (m := ⟨3, 0⟩) (meth := k3m0) (c := k3c0) (by decide +kernel) rfl rfl rfl (by decide +kernel)
set_option maxRecDepth 65536 in
theorem w_c4 : (Jvm.Cond.code ({ cls := "java/lang/Object", name := "<init>", desc := "()V" } : Jvm.MethodName) object_method_1_code (1 : Nat) (Option.none : Option Jvm.ClassFile.FieldType)).before args0 about1 = true := code_word (m := ⟨0, 0⟩) (meth := k0m0) (c := k0c0) (by decide +kernel) rfl rfl rfl (by decide +kernel)
set_option maxRecDepth 65536 in
theorem w_c5 : (Jvm.Cond.code ({ cls := "com/example/calm_balancer/calmbalancer/BundleRange", name := "contains", desc := "(J)Z" } : Jvm.MethodName) prog_5_method_12_code (3 : Nat) (Option.some Jvm.ClassFile.FieldType.boolean)).before args0 about1 = true := code_word (m := ⟨3, 3⟩) (meth := k3m3) (c := k3c3) (by decide +kernel) rfl rfl rfl (by decide +kernel)
set_option maxRecDepth 65536 in
theorem w_c6 : (Jvm.Cond.code ({ cls := "com/example/calm_balancer/calmbalancer/BundleRange", name := "checkHash", desc := "(J)V" } : Jvm.MethodName) prog_5_method_21_code (2 : Nat) (Option.none : Option Jvm.ClassFile.FieldType)).before args0 about1 = true := code_word (m := ⟨3, 5⟩) (meth := k3m5) (c := k3c5) (by decide +kernel) rfl rfl rfl (by decide +kernel)
set_option maxRecDepth 65536 in
theorem w_c7 : (Jvm.Cond.code ({ cls := "com/example/calm_balancer/calmbalancer/BundleRange", name := "canCutAt", desc := "(J)Z" } : Jvm.MethodName) prog_5_method_13_code (3 : Nat) (Option.some Jvm.ClassFile.FieldType.boolean)).before args0 about1 = true := code_word (m := ⟨3, 4⟩) (meth := k3m4) (c := k3c4) (by decide +kernel) rfl rfl rfl (by decide +kernel)
set_option maxRecDepth 65536 in
theorem w_c8 : (Jvm.Cond.code ({ cls := "com/example/calm_balancer/calmbalancer/BundleRange", name := "lower", desc := "()J" } : Jvm.MethodName) prog_5_method_10_code (1 : Nat) (Option.some Jvm.ClassFile.FieldType.long)).before args0 about1 = true := code_word (m := ⟨3, 1⟩) (meth := k3m1) (c := k3c1) (by decide +kernel) rfl rfl rfl (by decide +kernel)
set_option maxRecDepth 65536 in
theorem w_c9 : (Jvm.Cond.code ({ cls := "com/example/calm_balancer/calmbalancer/BundleRange", name := "upper", desc := "()J" } : Jvm.MethodName) prog_5_method_11_code (1 : Nat) (Option.some Jvm.ClassFile.FieldType.long)).before args0 about1 = true := code_word (m := ⟨3, 2⟩) (meth := k3m2) (c := k3c2) (by decide +kernel) rfl rfl rfl (by decide +kernel)
def codes1 : List Jvm.Cond := [Jvm.Cond.code x code maxLocals ret, Jvm.Cond.code ({ cls := "java/lang/Math", name := "min", desc := "(JJ)J" } : Jvm.MethodName) jdk_29_method_70_code (4 : Nat) (Option.some Jvm.ClassFile.FieldType.long), Jvm.Cond.code ({ cls := "java/lang/Math", name := "max", desc := "(JJ)J" } : Jvm.MethodName) jdk_29_method_66_code (4 : Nat) (Option.some Jvm.ClassFile.FieldType.long), Jvm.Cond.code ({ cls := "com/example/calm_balancer/calmbalancer/BundleRange", name := "<init>", desc := "(JJ)V" } : Jvm.MethodName) prog_5_method_1_code (5 : Nat) (Option.none : Option Jvm.ClassFile.FieldType), Jvm.Cond.code ({ cls := "java/lang/Object", name := "<init>", desc := "()V" } : Jvm.MethodName) object_method_1_code (1 : Nat) (Option.none : Option Jvm.ClassFile.FieldType), Jvm.Cond.code ({ cls := "com/example/calm_balancer/calmbalancer/BundleRange", name := "contains", desc := "(J)Z" } : Jvm.MethodName) prog_5_method_12_code (3 : Nat) (Option.some Jvm.ClassFile.FieldType.boolean), Jvm.Cond.code ({ cls := "com/example/calm_balancer/calmbalancer/BundleRange", name := "checkHash", desc := "(J)V" } : Jvm.MethodName) prog_5_method_21_code (2 : Nat) (Option.none : Option Jvm.ClassFile.FieldType), Jvm.Cond.code ({ cls := "com/example/calm_balancer/calmbalancer/BundleRange", name := "canCutAt", desc := "(J)Z" } : Jvm.MethodName) prog_5_method_13_code (3 : Nat) (Option.some Jvm.ClassFile.FieldType.boolean), Jvm.Cond.code ({ cls := "com/example/calm_balancer/calmbalancer/BundleRange", name := "lower", desc := "()J" } : Jvm.MethodName) prog_5_method_10_code (1 : Nat) (Option.some Jvm.ClassFile.FieldType.long), Jvm.Cond.code ({ cls := "com/example/calm_balancer/calmbalancer/BundleRange", name := "upper", desc := "()J" } : Jvm.MethodName) prog_5_method_11_code (1 : Nat) (Option.some Jvm.ClassFile.FieldType.long)]
set_option maxRecDepth 65536 in
theorem codes_eq : words1.filter isCode = codes1 := rfl
theorem w_codes : ∀ c ∈ words1.filter isCode, c.before args0 about1 = true := by
  rw [codes_eq]
  intro c hc
  simp only [codes1, List.mem_cons, List.not_mem_nil, or_false] at hc
  rcases hc with rfl | rfl | rfl | rfl | rfl | rfl | rfl | rfl | rfl | rfl
  · exact w_c0
  · exact w_c1
  · exact w_c2
  · exact w_c3
  · exact w_c4
  · exact w_c5
  · exact w_c6
  · exact w_c7
  · exact w_c8
  · exact w_c9
set_option maxRecDepth 65536 in
theorem w_t1 : (words1.take 24).all (fun c => isCode c || c.before args0 about1) = true := by decide +kernel
set_option maxRecDepth 65536 in
theorem w_t2 : (words1.drop 24).all (fun c => isCode c || c.before args0 about1) = true := by decide +kernel
theorem w_tables : (allAtoms (Jvm.Cond.code x code maxLocals ret :: tables_1)).before args0 about1 = true := by
  rw [allAtoms_all]
  show words1.all (fun c => c.before args0 about1) = true
  refine all_split ?_ w_codes
  rw [← List.take_append_drop 24 words1, List.all_append, w_t1, w_t2]
  rfl
set_option maxRecDepth 65536 in
theorem w_case : (Jvm.Cond.and given_1 narrow_1).before args0 about1 = true := by decide +kernel
theorem w_applies : (headSpec (Jvm.Cond.code x code maxLocals ret :: tables_1) room_1).applies x e0.platform about1 = true :=
  (Spec.applies_iff w_frames).mpr ⟨w_running, w_runnable, w_alone, w_named, w_hears, w_ripe, w_room, w_tables⟩
theorem atStart : AtStart classFile x code maxLocals ret World_1 tables_1 room_1 Calls_1 rest_1 Pre_1 launch0 p0 e0 about1 theMethod args0 below0 :=
  ⟨lists_1, trivial, launch0.admits_env _ _ _, launch0.least_env, fairChoices_fair.cas, fairChoices_fair.clock, w_frames, w_args, w_heap, w_applies, trivial, trivial, w_case⟩
end start1
theorem witness_1 : WitnessClaimed_1 := ⟨start1.p0, start1.e0, start1.about1, start1.theMethod, start1.args0, start1.below0, start1.atStart⟩
end Jvm.Pilot.@@N@@
