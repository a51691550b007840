import JvmDerived
import JvmDerived.Pilot.@@N@@Statement
import JvmDerived.Pilot.@@N@@Code
set_option linter.unusedVariables false
set_option linter.unusedSimpArgs false
namespace Jvm.RoadKit
open Sem ClassFile Op Lib Jvm.Stand Jvm.Free Jvm.LawKit
theorem own_dloadN {tb : Tables} [Ours tb] {e : Env} {below : List Frame} {T target : State} {m : MethodId} {c : Code} {g : JFrame} (h : At T m c below) (hx : tb.exec = Jvm.exec) (hg : g.method = m) {k : Fin 4} {v : UInt64} (hd : decode c.code g.pc = .ok (.dload_n k, 1)) (hl : g.locals[k.val]? = some (.val (.double v)))
    (hr : Steps tb e below (T.setTop { g with pc := g.pc + 1, stack := .double v :: g.stack }) target) : Steps tb e below (T.setTop g) target := by
  subst hg
  jvm_step h [h.top, hx, hd, hl]
  exact hr
theorem own_dload {tb : Tables} [Ours tb] {e : Env} {below : List Frame} {T target : State} {m : MethodId} {c : Code} {g : JFrame} (h : At T m c below) (hx : tb.exec = Jvm.exec) (hg : g.method = m) {k : Nat} {v : UInt64} (hd : decode c.code g.pc = .ok (.dload k, 2)) (hl : g.locals[k]? = some (.val (.double v)))
    (hr : Steps tb e below (T.setTop { g with pc := g.pc + 2, stack := .double v :: g.stack }) target) : Steps tb e below (T.setTop g) target := by
  subst hg
  jvm_step h [h.top, hx, hd, hl]
  exact hr
theorem own_dstoreN {tb : Tables} [Ours tb] {e : Env} {below : List Frame} {T target : State} {m : MethodId} {c : Code} {g : JFrame} (h : At T m c below) (hx : tb.exec = Jvm.exec) (hg : g.method = m) {k : Fin 4} {x : UInt64} {rest : List Value} {l' : Array Slot} (hd : decode c.code g.pc = .ok (.dstore_n k, 1)) (hs : g.stack = .double x :: rest) (hl : storeLocals g.locals k.val (.double x) = some l')
    (hr : Steps tb e below (T.setTop { g with pc := g.pc + 1, stack := rest, locals := l' }) target) : Steps tb e below (T.setTop g) target := by
  subst hg
  jvm_step h [h.top, hx, hd, hs, hl]
  exact hr
theorem own_dstore {tb : Tables} [Ours tb] {e : Env} {below : List Frame} {T target : State} {m : MethodId} {c : Code} {g : JFrame} (h : At T m c below) (hx : tb.exec = Jvm.exec) (hg : g.method = m) {k : Nat} {x : UInt64} {rest : List Value} {l' : Array Slot} (hd : decode c.code g.pc = .ok (.dstore k, 2)) (hs : g.stack = .double x :: rest) (hl : storeLocals g.locals k (.double x) = some l')
    (hr : Steps tb e below (T.setTop { g with pc := g.pc + 2, stack := rest, locals := l' }) target) : Steps tb e below (T.setTop g) target := by
  subst hg
  jvm_step h [h.top, hx, hd, hs, hl]
  exact hr
theorem own_dconst0 {tb : Tables} [Ours tb] {e : Env} {below : List Frame} {T target : State} {m : MethodId} {c : Code} {g : JFrame} (h : At T m c below) (hx : tb.exec = Jvm.exec) (hg : g.method = m) (hd : decode c.code g.pc = .ok (.dconst 0, 1))
    (hr : Steps tb e below (T.setTop { g with pc := g.pc + 1, stack := .double FP.dconst0 :: g.stack }) target) : Steps tb e below (T.setTop g) target := by
  subst hg
  jvm_step h [h.top, hx, hd]
  exact hr
theorem own_dconst1 {tb : Tables} [Ours tb] {e : Env} {below : List Frame} {T target : State} {m : MethodId} {c : Code} {g : JFrame} (h : At T m c below) (hx : tb.exec = Jvm.exec) (hg : g.method = m) (hd : decode c.code g.pc = .ok (.dconst 1, 1))
    (hr : Steps tb e below (T.setTop { g with pc := g.pc + 1, stack := .double FP.dconst1 :: g.stack }) target) : Steps tb e below (T.setTop g) target := by
  subst hg
  jvm_step h [h.top, hx, hd]
  exact hr
theorem own_i2d {tb : Tables} [Ours tb] {e : Env} {below : List Frame} {T target : State} {m : MethodId} {c : Code} {g : JFrame} (h : At T m c below) (hx : tb.exec = Jvm.exec) (hg : g.method = m) {x : Int32} {rest : List Value} (hd : decode c.code g.pc = .ok (.i2d, 1)) (hs : g.stack = .int x :: rest)
    (hr : Steps tb e below (T.setTop { g with pc := g.pc + 1, stack := .double (FP.i2d x) :: rest }) target) : Steps tb e below (T.setTop g) target := by
  subst hg
  jvm_step h [h.top, hx, hd, hs]
  exact hr
theorem own_l2d {tb : Tables} [Ours tb] {e : Env} {below : List Frame} {T target : State} {m : MethodId} {c : Code} {g : JFrame} (h : At T m c below) (hx : tb.exec = Jvm.exec) (hg : g.method = m) {x : Int64} {rest : List Value} (hd : decode c.code g.pc = .ok (.l2d, 1)) (hs : g.stack = .long x :: rest)
    (hr : Steps tb e below (T.setTop { g with pc := g.pc + 1, stack := .double (FP.l2d x) :: rest }) target) : Steps tb e below (T.setTop g) target := by
  subst hg
  jvm_step h [h.top, hx, hd, hs]
  exact hr
theorem own_d2l {tb : Tables} [Ours tb] {e : Env} {below : List Frame} {T target : State} {m : MethodId} {c : Code} {g : JFrame} (h : At T m c below) (hx : tb.exec = Jvm.exec) (hg : g.method = m) {x : UInt64} {rest : List Value} (hd : decode c.code g.pc = .ok (.d2l, 1)) (hs : g.stack = .double x :: rest)
    (hr : Steps tb e below (T.setTop { g with pc := g.pc + 1, stack := .long (FP.d2l x) :: rest }) target) : Steps tb e below (T.setTop g) target := by
  subst hg
  jvm_step h [h.top, hx, hd, hs]
  exact hr
theorem own_ddiv {tb : Tables} [Ours tb] {e : Env} {below : List Frame} {T target : State} {m : MethodId} {c : Code} {g : JFrame} (h : At T m c below) (hx : tb.exec = Jvm.exec) (hg : g.method = m) {x y : UInt64} {rest : List Value} (hd : decode c.code g.pc = .ok (.ddiv, 1)) (hs : g.stack = .double y :: .double x :: rest) (hn : FP.ddiv x y &&& 0x7fffffffffffffff ≤ 0x7ff0000000000000)
    (hr : Steps tb e below (T.setTop { g with pc := g.pc + 1, stack := .double (FP.ddiv x y) :: rest }) target) : Steps tb e below (T.setTop g) target := by
  subst hg
  jvm_step h [h.top, hx, hd, Op.ddiv.wp_number (s := T) (f := g) (by rw [h.top]) hs hn]
  exact hr
theorem own_dadd {tb : Tables} [Ours tb] {e : Env} {below : List Frame} {T target : State} {m : MethodId} {c : Code} {g : JFrame} (h : At T m c below) (hx : tb.exec = Jvm.exec) (hg : g.method = m) {x y : UInt64} {rest : List Value} (hd : decode c.code g.pc = .ok (.dadd, 1)) (hs : g.stack = .double y :: .double x :: rest) (hn : FP.dadd x y &&& 0x7fffffffffffffff ≤ 0x7ff0000000000000)
    (hr : Steps tb e below (T.setTop { g with pc := g.pc + 1, stack := .double (FP.dadd x y) :: rest }) target) : Steps tb e below (T.setTop g) target := by
  subst hg
  jvm_step h [h.top, hx, hd, Op.dadd.wp_number (s := T) (f := g) (by rw [h.top]) hs hn]
  exact hr
theorem own_dmul {tb : Tables} [Ours tb] {e : Env} {below : List Frame} {T target : State} {m : MethodId} {c : Code} {g : JFrame} (h : At T m c below) (hx : tb.exec = Jvm.exec) (hg : g.method = m) {x y : UInt64} {rest : List Value} (hd : decode c.code g.pc = .ok (.dmul, 1)) (hs : g.stack = .double y :: .double x :: rest) (hn : FP.dmul x y &&& 0x7fffffffffffffff ≤ 0x7ff0000000000000)
    (hr : Steps tb e below (T.setTop { g with pc := g.pc + 1, stack := .double (FP.dmul x y) :: rest }) target) : Steps tb e below (T.setTop g) target := by
  subst hg
  jvm_step h [h.top, hx, hd, Op.dmul.wp_number (s := T) (f := g) (by rw [h.top]) hs hn]
  exact hr
theorem own_dcmp {tb : Tables} [Ours tb] {e : Env} {below : List Frame} {T target : State} {m : MethodId} {c : Code} {g : JFrame} (h : At T m c below) (hx : tb.exec = Jvm.exec) (hg : g.method = m) {x y : UInt64} {op : CmpOp} {rest : List Value} (hd : decode c.code g.pc = .ok (.dcmp op, 1)) (hs : g.stack = .double y :: .double x :: rest)
    (hr : Steps tb e below (T.setTop { g with pc := g.pc + 1, stack := .int (cmpValue (FP.dcmp x y) op) :: rest }) target) : Steps tb e below (T.setTop g) target := by
  subst hg
  jvm_step h [h.top, hx, hd, hs]
  exact hr
end Jvm.RoadKit
namespace Jvm.RoadKit
open Sem ClassFile Op Lib Jvm.Stand Jvm.Free Jvm.LawKit
section New
variable {p : Program} {l : Launch} {e : Env} {R : Room} {s : State} {m : MethodId} {args : Array Value} {below : List Frame} {meth : Method} {c : Code} {T : State} {locs : List Loc} {cells slots : Nat}
theorem retI (X : Stand p l e R s m args below meth c T locs cells slots) (hx : p.tables.exec = Jvm.exec) {pc : Nat} {Ls : Array Slot} {z : Int32} {rest : List Value} (hret : meth.sig.returnType = some .int) (hd : decode c.code pc = .ok (.ireturn, 1)) {fs : List Frame}
    (hl : ∀ (f : JFrame) (acts : List Action), f.method = m → f.locked = none → f.entered = [] → (doReturn e (T.setTop f) acts (some (.int z))).1 = T.setFrames fs) : Steps p.tables e below (T.setTop (mkF m pc Ls (.int z :: rest))) (T.setFrames fs) := by
  have hm' : T.vm.method? m = some meth := X.method'
  have hn : narrow .int (.int z) = .int z := rfl
  show Steps p.tables e below (T.setTop { method := m, pc := pc, locals := Ls, stack := _ :: rest, locked := none }) _
  jvm_step X.here [X.here.top, hx, hd, hm', hret, hn]
  first | (intro acts; rw [hl _ acts rfl rfl rfl]) | rw [hl _ _ rfl rfl rfl]
  exact Steps.refl _
theorem own_lremM {g : JFrame} {target : State} (X : Stand p l e R s m args below meth c T locs cells slots) (hx : p.tables.exec = Jvm.exec) (hg : g.method = m) {x y : Int64} {rest : List Value} (hd : decode c.code g.pc = .ok (.lrem, 1)) (hs : g.stack = .long y :: .long x :: rest) (hy : y ≠ 0)
    (hr : Steps p.tables e below (T.setTop { g with pc := g.pc + 1, stack := .long (x % y) :: rest }) target) : Steps p.tables e below (T.setTop g) target := by
  have q : x - (x / y) * y = x % y := lrem_mod x y
  exact XS.lrem X.here hx hg hd hs hy (by rw [q]; exact hr)
end New
end Jvm.RoadKit
namespace Jvm.Pilot.@@N@@
open Jvm Jvm.ClassFile Sem Op Lib Jvm.Free Jvm.Stand Jvm.LawKit Jvm.RoadKit Bundle Jvm.Pilot.@@N@@.Jvm.D
theorem own_notin0 {a : Addr} : a ∉ ([] : List Addr) := fun q => nomatch q
theorem own_notin1 {a b : Addr} (h : a ≠ b) : a ∉ [b] := fun q => h (List.mem_singleton.mp q)
theorem own_narb {x : Int32} (h : x = 0 ∨ x = 1) : nar .boolean x = x := by rcases h with rfl | rfl <;> rfl
theorem own_all0 {P : Addr → Prop} : ∀ x ∈ ([] : List Addr), P x := fun _ q => nomatch q
theorem own_all1 {P : Addr → Prop} {a : Addr} (h : P a) : ∀ x ∈ [a], P x := fun x q => by cases List.mem_singleton.mp q; exact h
theorem own_gt (x y : UInt64) : (0 : Int32) < cmpValue (FP.dcmp x y) .l ↔ FP.dcmp x y = some .gt := by
  cases q : FP.dcmp x y with
  | none => simp [cmpValue]
  | some o => cases o <;> simp [cmpValue]
theorem own_le (x y : UInt64) (h : ¬ (0 : Int32) < cmpValue (FP.dcmp x y) .g) : FP.dcmp x y = some .lt ∨ FP.dcmp x y = some .eq := by
  cases q : FP.dcmp x y with
  | none => rw [q] at h; exact absurd (by decide) h
  | some o => cases o <;> simp [q, cmpValue] at h ⊢
theorem own_mono (x y k : UInt64) (h1 : ¬ (0 : Int32) < cmpValue (FP.dcmp x y) .g) (h2 : ¬ (if (0 : Int32) < (cmpValue (FP.dcmp x k) .l) then (1 : Int32) else (0 : Int32)) = 0) : ¬ (if (0 : Int32) < (cmpValue (FP.dcmp y k) .l) then (1 : Int32) else (0 : Int32)) = 0 := by
  by_cases q : (0 : Int32) < cmpValue (FP.dcmp x k) .l
  · obtain ⟨a1, a2, a3⟩ := FP.Core.dcmp_le.mp (own_le x y h1)
    obtain ⟨b1, b2, b3⟩ := FP.Core.dcmp_gt.mp ((own_gt x k).mp q)
    rw [if_pos ((own_gt y k).mpr (FP.Core.dcmp_gt.mpr ⟨a2, b2, by omega⟩))]
    decide
  · rw [if_neg q] at h2; exact absurd rfl h2
theorem own_nn {a : UInt64} (h : FP.dIsNaN a = false) : a &&& 0x7fffffffffffffff ≤ 0x7ff0000000000000 := Jvm.Free.Fl.noNaN64_no.mpr h
theorem own_sc : FP.Core.val64 (4697254411347427328 : UInt64) = .fin false 4503599627370496 (-32) := by decide +kernel
theorem own_div (a : Int32) : FP.ddiv (FP.i2d a) (4697254411347427328 : UInt64) &&& 0x7fffffffffffffff ≤ 0x7ff0000000000000 :=
  own_nn (FP.Core.ddiv_out (FP.Core.i2d_fin a).notNaN ⟨false, 4503599627370496, -32, own_sc⟩ (by rintro ⟨s, q, h⟩; rw [own_sc] at h; cases h))
def QO (Z : State) (x : UInt64) (h0 : Heap) (n0 : Nat) (v : Option Value) (h : Heap) (L : List Loc) : Prop := v = some (.int (if (0 : Int32) < (cmpValue (FP.dcmp x (4635681760191971328 : UInt64)) .l) then (1 : Int32) else (0 : Int32))) ∧ Fr n0 L ∧ h = h0
theorem ef_rmO (m : MethodId) (x0 : UInt64) : entryFrame m #[(.double x0)] 2 = mkF m 0 #[.val (.double x0), .second] [] := by first | (simp [entryFrame, mkF, argsToLocals, Value.category]; done) | rfl
theorem pn_com_example_calm_balancer_calmbalancer_Overload : plainName "com/example/calm_balancer/calmbalancer/Overload" = true := by first | (simp [plainName, overriddenIn]; done) | decide +kernel
theorem d1_0 : decode prog_18_method_2_code 0 = .ok (.dload_n 0, 1) := by decide +kernel
theorem d1_1 : decode prog_18_method_2_code 1 = .ok (.ldc2_w 9, 3) := by decide +kernel
theorem d1_4 : decode prog_18_method_2_code 4 = .ok (.dcmp .l, 1) := by decide +kernel
theorem d1_5 : decode prog_18_method_2_code 5 = .ok (.ifCond .le 7, 3) := by decide +kernel
theorem d1_8 : decode prog_18_method_2_code 8 = .ok (.iconst 1, 1) := by decide +kernel
theorem d1_9 : decode prog_18_method_2_code 9 = .ok (.goto 4, 3) := by decide +kernel
theorem d1_12 : decode prog_18_method_2_code 12 = .ok (.iconst 0, 1) := by decide +kernel
theorem d1_13 : decode prog_18_method_2_code 13 = .ok (.ireturn, 1) := by decide +kernel
set_option maxRecDepth 65536 in
set_option maxHeartbeats 40000000 in
theorem rmO (l : Launch) (Z : State) (a0 : Array Value) (hw : ∀ d ∈ tables_1, d.before a0 Z = true) (ws : List Jvm.Cond) (x : UInt64) (h0 : Heap) (n0 : Nat) (Z0 : n0 ≤ h0.size)  :
    MetFree l (⟨"com/example/calm_balancer/calmbalancer/Overload", "isOverloaded", "(D)Z"⟩ : MethodName) (head1 (Jvm.Cond.code (⟨"com/example/calm_balancer/calmbalancer/Overload", "isOverloaded", "(D)Z"⟩ : MethodName) prog_18_method_2_code 2 (some .boolean) :: ws) ({ frames := 0, cells := 0, slots := 0, locals := 0 } : Room)) (fun a U => a = #[(.double x)] ∧ Z.Warmed39 U.vm ∧ U.heap = h0) (fun _ _ _ _ _ => True) (fun _ U o U' => ∃ v L, o = .returned v ∧ QO Z x h0 n0 v U'.heap L ∧ FrameEnd U o U' L ({ frames := 0, cells := 0, slots := 0, locals := 0 } : Room).cells ({ frames := 0, cells := 0, slots := 0, locals := 0 } : Room).slots) := by
  refine MetFree.of_bodySF (plainFor_of_name pn_com_example_calm_balancer_calmbalancer_Overload) hisR ?_
  intro p e s m args below meth c s₁ Bd hml0 hP hK
  obtain ⟨rfl, hZ, hh⟩ := hP
  have hx := Bd.exec
  have hby := Bd.bytes
  have hml : c.maxLocals = 2 := hml0
  have hown : s.vm.findClass "com/example/calm_balancer/calmbalancer/Overload" = some m.cls := findClass_of_methodNamed Bd.named
  have hnm := (name_of_methodNamed Bd.named Bd.method).1
  have X0 : Stand p l e ({ frames := 0, cells := 0, slots := 0, locals := 0 } : Room) s m #[(.double x)] below meth c s₁ [] 0 0 := Stand.of_body Bd
  have e0 : s₁.heap = h0 := by rw [← hh, Bd.state]; rfl
  have N0 := Fr.nil n0
  have pre0 : ∀ t, Steps p.tables e below (s₁.setTop (mkF m 0 #[.val (.double x), .second] [])) t → Steps p.tables e below (s₁.setTop (entryFrame m #[(.double x)] 2)) t := fun t kt => castTop (ef_rmO m x) kt
  have pre1 : ∀ t, Steps p.tables e below (s₁.setTop (mkF m 5 #[.val (.double x), .second] [(.int (cmpValue (FP.dcmp x (4635681760191971328 : UInt64)) .l))])) t → Steps p.tables e below (s₁.setTop (entryFrame m #[(.double x)] 2)) t := fun t kt => pre0 t (by
    refine own_dloadN X0.here hx rfl (hb hby d1_0) rfl ?_
    show Steps p.tables e below (s₁.setTop (mkF m 1 #[.val (.double x), .second] [(.double x)])) _
    refine X0.ldc2DoubleC hx hown (mvT hZ (hw _ (List.mem_of_getElem? (i := 6) rfl))) (g := (mkF m 1 #[.val (.double x), .second] [(.double x)])) rfl (hb hby d1_1) _ ?_
    show Steps p.tables e below (s₁.setTop (mkF m 4 #[.val (.double x), .second] [(.double (4635681760191971328 : UInt64)), (.double x)])) _
    refine own_dcmp X0.here hx rfl (hb hby d1_4) rfl ?_
    show Steps p.tables e below (s₁.setTop (mkF m 5 #[.val (.double x), .second] [(.int (cmpValue (FP.dcmp x (4635681760191971328 : UInt64)) .l))])) _
    exact kt)
  have pre2 : ∀ t, Steps p.tables e below (s₁.setTop (mkF m 13 #[.val (.double x), .second] [(.int (if (0 : Int32) < (cmpValue (FP.dcmp x (4635681760191971328 : UInt64)) .l) then (1 : Int32) else (0 : Int32)))])) t → Steps p.tables e below (s₁.setTop (entryFrame m #[(.double x)] 2)) t := fun t kt => pre1 t (by
    by_cases c5_1 : (0 : Int32) < (cmpValue (FP.dcmp x (4635681760191971328 : UInt64)) .l)
    · rw [if_pos c5_1] at kt
      refine XS.ifNo X0.here hx rfl (hb hby d1_5) rfl ((if0 _ _).trans (tlt c5_1).2.2.2) ?_
      show Steps p.tables e below (s₁.setTop (mkF m 8 #[.val (.double x), .second] [])) _
      refine XS.iconst X0.here hx rfl (hb hby d1_8) ?_
      show Steps p.tables e below (s₁.setTop (mkF m 9 #[.val (.double x), .second] [(.int (1 : Int32))])) _
      refine XS.goto X0.here hx rfl (pc0 := 9) (pc' := 13) rfl (hb hby d1_9) (by decide) (by decide) ?_
      show Steps p.tables e below (s₁.setTop (mkF m 13 #[.val (.double x), .second] [(.int (1 : Int32))])) _
      exact kt
    · rw [if_neg c5_1] at kt
      refine XS.ifYes X0.here hx rfl (pc0 := 5) (pc' := 12) rfl (hb hby d1_5) rfl ((if0 _ _).trans (flt c5_1).2.2.2) (by decide) (by decide) ?_
      show Steps p.tables e below (s₁.setTop (mkF m 12 #[.val (.double x), .second] [])) _
      refine XS.iconst X0.here hx rfl (hb hby d1_12) ?_
      show Steps p.tables e below (s₁.setTop (mkF m 13 #[.val (.double x), .second] [(.int (0 : Int32))])) _
      exact kt)
  obtain ⟨fs, hr, hrun, hended, hW, hsame⟩ := X0.leave (v := (some (.int (nar .boolean (if (0 : Int32) < (cmpValue (FP.dcmp x (4635681760191971328 : UInt64)) .l) then (1 : Int32) else (0 : Int32)))))) (fun h => by rw [Bd.returns] at h; cases h)
  refine ⟨_, _, pre2 _ ?_, hrun, hended, _, _, rfl, ?_, ⟨_, rfl⟩, hW, hsame.mono (by decide) (by decide)⟩
  · exact retN X0 hx (t := .boolean) Bd.returns (by simp) (hb hby d1_13) hr
  · show QO Z x h0 n0 _ s₁.heap _
    rw [e0]
    exact ⟨(by rw [own_narb (by (repeat' split) <;> simp)]), N0, rfl⟩
def Q0 (Z : State) (h0 : Heap) (n0 : Nat) (v : Option Value) (h : Heap) (L : List Loc) : Prop := v = some (.int (1 : Int32)) ∧ Fr n0 L
theorem ef_rm0 (m : MethodId) (x0 : Int32) (x1 : Int32) : entryFrame m #[(.int x0), (.int x1)] maxLocals = mkF m 0 #[.val (.int x0), .val (.int x1), .unset, .unset, .unset, .unset, .unset, .unset, .unset, .unset, .unset, .unset, .unset, .unset, .unset, .unset, .unset] [] := by first | (simp [entryFrame, mkF, argsToLocals, Value.category, maxLocals]; done) | rfl
theorem pn_com_example_calm_balancer_calmbalancer_OverloadIsOverloadedPinLaw : plainName "com/example/calm_balancer/calmbalancer/OverloadIsOverloadedPinLaw" = true := by first | (simp [plainName, overriddenIn]; done) | decide +kernel
theorem pd__28D_29Z : parseMethodDescriptor "(D)Z" = some ⟨[.double], some .boolean⟩ := by decide +kernel
set_option maxRecDepth 65536 in
set_option maxHeartbeats 40000000 in
theorem rm0 (l : Launch) (Z : State) (a0 : Array Value) (hw : ∀ d ∈ tables_1, d.before a0 Z = true) (ws : List Jvm.Cond) (p1 p2 : Int32) (h0 : Heap) (n0 : Nat) (Z0 : n0 ≤ h0.size)  :
    MetFree l x (head1 (Jvm.Cond.code x code maxLocals ret :: ws) room_1) (fun a U => a = #[(.int p1), (.int p2)] ∧ Z.Warmed39 U.vm ∧ U.heap = h0) (fun _ _ _ _ _ => True) (fun _ U o U' => ∃ v L, o = .returned v ∧ Q0 Z  h0 n0 v U'.heap L ∧ FrameEnd U o U' L room_1.cells room_1.slots) := by
  refine MetFree.of_bodySF (plainFor_of_name pn_com_example_calm_balancer_calmbalancer_OverloadIsOverloadedPinLaw) hisR ?_
  intro p e s m args below meth c s₁ Bd hml0 hP hK
  obtain ⟨rfl, hZ, hh⟩ := hP
  have hx := Bd.exec
  have hby := Bd.bytes
  have hml : c.maxLocals = 17 := hml0
  have hown : s.vm.findClass "com/example/calm_balancer/calmbalancer/OverloadIsOverloadedPinLaw" = some m.cls := findClass_of_methodNamed Bd.named
  have hnm := (name_of_methodNamed Bd.named Bd.method).1
  have X0 : Stand p l e room_1 s m #[(.int p1), (.int p2)] below meth c s₁ [] 0 0 := Stand.of_body Bd
  have e0 : s₁.heap = h0 := by rw [← hh, Bd.state]; rfl
  have N0 := Fr.nil n0
  have pre0 : ∀ t, Steps p.tables e below (s₁.setTop (mkF m 0 #[.val (.int p1), .val (.int p2), .unset, .unset, .unset, .unset, .unset, .unset, .unset, .unset, .unset, .unset, .unset, .unset, .unset, .unset, .unset] [])) t → Steps p.tables e below (s₁.setTop (entryFrame m #[(.int p1), (.int p2)] maxLocals)) t := fun t kt => castTop (ef_rm0 m p1 p2) kt
  have pre1 : ∀ t, Steps p.tables e below (s₁.setTop (mkF m 10 #[.val (.int p1), .val (.int p2), .val (.double (4697254411347427328 : UInt64)), .second, .val (.double (FP.ddiv (FP.i2d p1) (4697254411347427328 : UInt64))), .second, .unset, .unset, .unset, .unset, .unset, .unset, .unset, .unset, .unset, .unset, .unset] [])) t → Steps p.tables e below (s₁.setTop (entryFrame m #[(.int p1), (.int p2)] maxLocals)) t := fun t kt => pre0 t (by
    refine X0.ldc2DoubleC hx hown (mvT hZ (hw _ (List.mem_of_getElem? (i := 0) rfl))) (g := (mkF m 0 #[.val (.int p1), .val (.int p2), .unset, .unset, .unset, .unset, .unset, .unset, .unset, .unset, .unset, .unset, .unset, .unset, .unset, .unset, .unset] [])) rfl (hb hby at_0) _ ?_
    show Steps p.tables e below (s₁.setTop (mkF m 3 #[.val (.int p1), .val (.int p2), .unset, .unset, .unset, .unset, .unset, .unset, .unset, .unset, .unset, .unset, .unset, .unset, .unset, .unset, .unset] [(.double (4697254411347427328 : UInt64))])) _
    refine own_dstoreN X0.here hx rfl (hb hby at_3) rfl (l' := #[.val (.int p1), .val (.int p2), .val (.double (4697254411347427328 : UInt64)), .second, .unset, .unset, .unset, .unset, .unset, .unset, .unset, .unset, .unset, .unset, .unset, .unset, .unset]) rfl ?_
    show Steps p.tables e below (s₁.setTop (mkF m 4 #[.val (.int p1), .val (.int p2), .val (.double (4697254411347427328 : UInt64)), .second, .unset, .unset, .unset, .unset, .unset, .unset, .unset, .unset, .unset, .unset, .unset, .unset, .unset] [])) _
    refine XS.iloadN X0.here hx rfl (hb hby at_4) rfl ?_
    show Steps p.tables e below (s₁.setTop (mkF m 5 #[.val (.int p1), .val (.int p2), .val (.double (4697254411347427328 : UInt64)), .second, .unset, .unset, .unset, .unset, .unset, .unset, .unset, .unset, .unset, .unset, .unset, .unset, .unset] [(.int p1)])) _
    refine own_i2d X0.here hx rfl (hb hby at_5) rfl ?_
    show Steps p.tables e below (s₁.setTop (mkF m 6 #[.val (.int p1), .val (.int p2), .val (.double (4697254411347427328 : UInt64)), .second, .unset, .unset, .unset, .unset, .unset, .unset, .unset, .unset, .unset, .unset, .unset, .unset, .unset] [(.double (FP.i2d p1))])) _
    refine own_dloadN X0.here hx rfl (hb hby at_6) rfl ?_
    show Steps p.tables e below (s₁.setTop (mkF m 7 #[.val (.int p1), .val (.int p2), .val (.double (4697254411347427328 : UInt64)), .second, .unset, .unset, .unset, .unset, .unset, .unset, .unset, .unset, .unset, .unset, .unset, .unset, .unset] [(.double (4697254411347427328 : UInt64)), (.double (FP.i2d p1))])) _
    refine own_ddiv X0.here hx rfl (hb hby at_7) rfl (own_div p1) ?_
    show Steps p.tables e below (s₁.setTop (mkF m 8 #[.val (.int p1), .val (.int p2), .val (.double (4697254411347427328 : UInt64)), .second, .unset, .unset, .unset, .unset, .unset, .unset, .unset, .unset, .unset, .unset, .unset, .unset, .unset] [(.double (FP.ddiv (FP.i2d p1) (4697254411347427328 : UInt64)))])) _
    refine own_dstore X0.here hx rfl (hb hby at_8) rfl (l' := #[.val (.int p1), .val (.int p2), .val (.double (4697254411347427328 : UInt64)), .second, .val (.double (FP.ddiv (FP.i2d p1) (4697254411347427328 : UInt64))), .second, .unset, .unset, .unset, .unset, .unset, .unset, .unset, .unset, .unset, .unset, .unset]) rfl ?_
    show Steps p.tables e below (s₁.setTop (mkF m 10 #[.val (.int p1), .val (.int p2), .val (.double (4697254411347427328 : UInt64)), .second, .val (.double (FP.ddiv (FP.i2d p1) (4697254411347427328 : UInt64))), .second, .unset, .unset, .unset, .unset, .unset, .unset, .unset, .unset, .unset, .unset, .unset] [])) _
    exact kt)
  obtain ⟨da, hda⟩ : ∃ z, z = (FP.ddiv (FP.i2d p1) (4697254411347427328 : UInt64)) := ⟨_, rfl⟩
  have pre2 : ∀ t, Steps p.tables e below (s₁.setTop (mkF m 10 #[.val (.int p1), .val (.int p2), .val (.double (4697254411347427328 : UInt64)), .second, .val (.double da), .second, .unset, .unset, .unset, .unset, .unset, .unset, .unset, .unset, .unset, .unset, .unset] [])) t → Steps p.tables e below (s₁.setTop (entryFrame m #[(.int p1), (.int p2)] maxLocals)) t := by
    rw [hda]; exact pre1
  have pre3 : ∀ t, Steps p.tables e below (s₁.setTop (mkF m 16 #[.val (.int p1), .val (.int p2), .val (.double (4697254411347427328 : UInt64)), .second, .val (.double da), .second, .val (.double (FP.ddiv (FP.i2d p2) (4697254411347427328 : UInt64))), .second, .unset, .unset, .unset, .unset, .unset, .unset, .unset, .unset, .unset] [])) t → Steps p.tables e below (s₁.setTop (entryFrame m #[(.int p1), (.int p2)] maxLocals)) t := fun t kt => pre2 t (by
    refine XS.iloadN X0.here hx rfl (hb hby at_10) rfl ?_
    show Steps p.tables e below (s₁.setTop (mkF m 11 #[.val (.int p1), .val (.int p2), .val (.double (4697254411347427328 : UInt64)), .second, .val (.double da), .second, .unset, .unset, .unset, .unset, .unset, .unset, .unset, .unset, .unset, .unset, .unset] [(.int p2)])) _
    refine own_i2d X0.here hx rfl (hb hby at_11) rfl ?_
    show Steps p.tables e below (s₁.setTop (mkF m 12 #[.val (.int p1), .val (.int p2), .val (.double (4697254411347427328 : UInt64)), .second, .val (.double da), .second, .unset, .unset, .unset, .unset, .unset, .unset, .unset, .unset, .unset, .unset, .unset] [(.double (FP.i2d p2))])) _
    refine own_dloadN X0.here hx rfl (hb hby at_12) rfl ?_
    show Steps p.tables e below (s₁.setTop (mkF m 13 #[.val (.int p1), .val (.int p2), .val (.double (4697254411347427328 : UInt64)), .second, .val (.double da), .second, .unset, .unset, .unset, .unset, .unset, .unset, .unset, .unset, .unset, .unset, .unset] [(.double (4697254411347427328 : UInt64)), (.double (FP.i2d p2))])) _
    refine own_ddiv X0.here hx rfl (hb hby at_13) rfl (own_div p2) ?_
    show Steps p.tables e below (s₁.setTop (mkF m 14 #[.val (.int p1), .val (.int p2), .val (.double (4697254411347427328 : UInt64)), .second, .val (.double da), .second, .unset, .unset, .unset, .unset, .unset, .unset, .unset, .unset, .unset, .unset, .unset] [(.double (FP.ddiv (FP.i2d p2) (4697254411347427328 : UInt64)))])) _
    refine own_dstore X0.here hx rfl (hb hby at_14) rfl (l' := #[.val (.int p1), .val (.int p2), .val (.double (4697254411347427328 : UInt64)), .second, .val (.double da), .second, .val (.double (FP.ddiv (FP.i2d p2) (4697254411347427328 : UInt64))), .second, .unset, .unset, .unset, .unset, .unset, .unset, .unset, .unset, .unset]) rfl ?_
    show Steps p.tables e below (s₁.setTop (mkF m 16 #[.val (.int p1), .val (.int p2), .val (.double (4697254411347427328 : UInt64)), .second, .val (.double da), .second, .val (.double (FP.ddiv (FP.i2d p2) (4697254411347427328 : UInt64))), .second, .unset, .unset, .unset, .unset, .unset, .unset, .unset, .unset, .unset] [])) _
    exact kt)
  obtain ⟨db, hdb⟩ : ∃ z, z = (FP.ddiv (FP.i2d p2) (4697254411347427328 : UInt64)) := ⟨_, rfl⟩
  have pre4 : ∀ t, Steps p.tables e below (s₁.setTop (mkF m 16 #[.val (.int p1), .val (.int p2), .val (.double (4697254411347427328 : UInt64)), .second, .val (.double da), .second, .val (.double db), .second, .unset, .unset, .unset, .unset, .unset, .unset, .unset, .unset, .unset] [])) t → Steps p.tables e below (s₁.setTop (entryFrame m #[(.int p1), (.int p2)] maxLocals)) t := by
    rw [hdb]; exact pre3
  have pre5 : ∀ t, Steps p.tables e below (s₁.setTop (mkF m 32 #[.val (.int p1), .val (.int p2), .val (.double (4697254411347427328 : UInt64)), .second, .val (.double da), .second, .val (.double db), .second, .val (.double (4635681760191971328 : UInt64)), .second, .val (.double (FP.dadd (4635681760191971328 : UInt64) (FP.ddiv FP.dconst1 (4697254411347427328 : UInt64)))), .second, .unset, .unset, .unset, .unset, .unset] [(.double (4635681760191971328 : UInt64))])) t → Steps p.tables e below (s₁.setTop (entryFrame m #[(.int p1), (.int p2)] maxLocals)) t := fun t kt => pre4 t (by
    refine X0.ldc2DoubleC hx hown (mvT hZ (hw _ (List.mem_of_getElem? (i := 1) rfl))) (g := (mkF m 16 #[.val (.int p1), .val (.int p2), .val (.double (4697254411347427328 : UInt64)), .second, .val (.double da), .second, .val (.double db), .second, .unset, .unset, .unset, .unset, .unset, .unset, .unset, .unset, .unset] [])) rfl (hb hby at_16) _ ?_
    show Steps p.tables e below (s₁.setTop (mkF m 19 #[.val (.int p1), .val (.int p2), .val (.double (4697254411347427328 : UInt64)), .second, .val (.double da), .second, .val (.double db), .second, .unset, .unset, .unset, .unset, .unset, .unset, .unset, .unset, .unset] [(.double (4635681760191971328 : UInt64))])) _
    refine own_dstore X0.here hx rfl (hb hby at_19) rfl (l' := #[.val (.int p1), .val (.int p2), .val (.double (4697254411347427328 : UInt64)), .second, .val (.double da), .second, .val (.double db), .second, .val (.double (4635681760191971328 : UInt64)), .second, .unset, .unset, .unset, .unset, .unset, .unset, .unset]) rfl ?_
    show Steps p.tables e below (s₁.setTop (mkF m 21 #[.val (.int p1), .val (.int p2), .val (.double (4697254411347427328 : UInt64)), .second, .val (.double da), .second, .val (.double db), .second, .val (.double (4635681760191971328 : UInt64)), .second, .unset, .unset, .unset, .unset, .unset, .unset, .unset] [])) _
    refine X0.ldc2DoubleC hx hown (mvT hZ (hw _ (List.mem_of_getElem? (i := 1) rfl))) (g := (mkF m 21 #[.val (.int p1), .val (.int p2), .val (.double (4697254411347427328 : UInt64)), .second, .val (.double da), .second, .val (.double db), .second, .val (.double (4635681760191971328 : UInt64)), .second, .unset, .unset, .unset, .unset, .unset, .unset, .unset] [])) rfl (hb hby at_21) _ ?_
    show Steps p.tables e below (s₁.setTop (mkF m 24 #[.val (.int p1), .val (.int p2), .val (.double (4697254411347427328 : UInt64)), .second, .val (.double da), .second, .val (.double db), .second, .val (.double (4635681760191971328 : UInt64)), .second, .unset, .unset, .unset, .unset, .unset, .unset, .unset] [(.double (4635681760191971328 : UInt64))])) _
    refine own_dconst1 X0.here hx rfl (hb hby at_24) ?_
    show Steps p.tables e below (s₁.setTop (mkF m 25 #[.val (.int p1), .val (.int p2), .val (.double (4697254411347427328 : UInt64)), .second, .val (.double da), .second, .val (.double db), .second, .val (.double (4635681760191971328 : UInt64)), .second, .unset, .unset, .unset, .unset, .unset, .unset, .unset] [(.double FP.dconst1), (.double (4635681760191971328 : UInt64))])) _
    refine own_dloadN X0.here hx rfl (hb hby at_25) rfl ?_
    show Steps p.tables e below (s₁.setTop (mkF m 26 #[.val (.int p1), .val (.int p2), .val (.double (4697254411347427328 : UInt64)), .second, .val (.double da), .second, .val (.double db), .second, .val (.double (4635681760191971328 : UInt64)), .second, .unset, .unset, .unset, .unset, .unset, .unset, .unset] [(.double (4697254411347427328 : UInt64)), (.double FP.dconst1), (.double (4635681760191971328 : UInt64))])) _
    refine own_ddiv X0.here hx rfl (hb hby at_26) rfl (by decide +kernel) ?_
    show Steps p.tables e below (s₁.setTop (mkF m 27 #[.val (.int p1), .val (.int p2), .val (.double (4697254411347427328 : UInt64)), .second, .val (.double da), .second, .val (.double db), .second, .val (.double (4635681760191971328 : UInt64)), .second, .unset, .unset, .unset, .unset, .unset, .unset, .unset] [(.double (FP.ddiv FP.dconst1 (4697254411347427328 : UInt64))), (.double (4635681760191971328 : UInt64))])) _
    refine own_dadd X0.here hx rfl (hb hby at_27) rfl (by decide +kernel) ?_
    show Steps p.tables e below (s₁.setTop (mkF m 28 #[.val (.int p1), .val (.int p2), .val (.double (4697254411347427328 : UInt64)), .second, .val (.double da), .second, .val (.double db), .second, .val (.double (4635681760191971328 : UInt64)), .second, .unset, .unset, .unset, .unset, .unset, .unset, .unset] [(.double (FP.dadd (4635681760191971328 : UInt64) (FP.ddiv FP.dconst1 (4697254411347427328 : UInt64))))])) _
    refine own_dstore X0.here hx rfl (hb hby at_28) rfl (l' := #[.val (.int p1), .val (.int p2), .val (.double (4697254411347427328 : UInt64)), .second, .val (.double da), .second, .val (.double db), .second, .val (.double (4635681760191971328 : UInt64)), .second, .val (.double (FP.dadd (4635681760191971328 : UInt64) (FP.ddiv FP.dconst1 (4697254411347427328 : UInt64)))), .second, .unset, .unset, .unset, .unset, .unset]) rfl ?_
    show Steps p.tables e below (s₁.setTop (mkF m 30 #[.val (.int p1), .val (.int p2), .val (.double (4697254411347427328 : UInt64)), .second, .val (.double da), .second, .val (.double db), .second, .val (.double (4635681760191971328 : UInt64)), .second, .val (.double (FP.dadd (4635681760191971328 : UInt64) (FP.ddiv FP.dconst1 (4697254411347427328 : UInt64)))), .second, .unset, .unset, .unset, .unset, .unset] [])) _
    refine own_dload X0.here hx rfl (hb hby at_30) rfl ?_
    show Steps p.tables e below (s₁.setTop (mkF m 32 #[.val (.int p1), .val (.int p2), .val (.double (4697254411347427328 : UInt64)), .second, .val (.double da), .second, .val (.double db), .second, .val (.double (4635681760191971328 : UInt64)), .second, .val (.double (FP.dadd (4635681760191971328 : UInt64) (FP.ddiv FP.dconst1 (4697254411347427328 : UInt64)))), .second, .unset, .unset, .unset, .unset, .unset] [(.double (4635681760191971328 : UInt64))])) _
    exact kt)
  obtain ⟨_, _, ⟨T6, L6, k6, n6⟩, -, X6, ⟨Lc6, hQ6, l6, y6, z6⟩, st6⟩ := Jvm.LawKit.callS X0 hx (y := (⟨"com/example/calm_balancer/calmbalancer/Overload", "isOverloaded", "(D)Z"⟩ : MethodName)) hown (mvT hZ (hw _ (List.mem_of_getElem? (i := 2) rfl))) (mvT hZ (hw _ (List.mem_of_getElem? (i := 3) rfl))) (mvT hZ (hw _ (List.mem_of_getElem? (i := 4) rfl))) (mvT hZ (hw _ (List.mem_of_getElem? (i := 5) rfl))) (by decide) (backOf (W := 0) (rmO l Z a0 hw [] (4635681760191971328 : UInt64) h0 n0 Z0) hZ (hw _ (List.mem_of_getElem? (i := 5) rfl)) (hw _ (List.mem_of_getElem? (i := 4) rfl)) (by decide) (by decide)) (g := (mkF m 32 #[.val (.int p1), .val (.int p2), .val (.double (4697254411347427328 : UInt64)), .second, .val (.double da), .second, .val (.double db), .second, .val (.double (4635681760191971328 : UInt64)), .second, .val (.double (FP.dadd (4635681760191971328 : UInt64) (FP.ddiv FP.dconst1 (4697254411347427328 : UInt64)))), .second, .unset, .unset, .unset, .unset, .unset] [(.double (4635681760191971328 : UInt64))])) rfl (by rw [hml]; rfl) (argsL := [(.double (4635681760191971328 : UInt64))]) (rest := []) (lenOf pd__28D_29Z rfl) rfl (by show 2 * 0 + _ ≤ _; exact Nat.le_of_eq rfl) (hb hby at_32) (fun _ _ => ⟨rfl, e0, (by decide : 0 + 0 ≤ _), (by decide : 0 + 0 ≤ _)⟩)
  dsimp only [Pt.U, Pt.locs, Pt.cells, Pt.slots] at X6 l6 y6 z6 st6 hQ6
  subst l6 y6 z6
  obtain ⟨rfl, N6q, e6q⟩ := hQ6
  have N6 := Fr.app N0 N6q
  have pre7 : ∀ t, Steps p.tables e below (T6.setTop (mkF m 35 #[.val (.int p1), .val (.int p2), .val (.double (4697254411347427328 : UInt64)), .second, .val (.double da), .second, .val (.double db), .second, .val (.double (4635681760191971328 : UInt64)), .second, .val (.double (FP.dadd (4635681760191971328 : UInt64) (FP.ddiv FP.dconst1 (4697254411347427328 : UInt64)))), .second, .unset, .unset, .unset, .unset, .unset] [(.int (if (0 : Int32) < (cmpValue (FP.dcmp (4635681760191971328 : UInt64) (4635681760191971328 : UInt64)) .l) then (1 : Int32) else (0 : Int32)))])) t → Steps p.tables e below (s₁.setTop (entryFrame m #[(.int p1), (.int p2)] maxLocals)) t := fun t kt => pre5 t (st6 _ kt)
  have pre8 : ∀ t, Steps p.tables e below (T6.setTop (mkF m 39 #[.val (.int p1), .val (.int p2), .val (.double (4697254411347427328 : UInt64)), .second, .val (.double da), .second, .val (.double db), .second, .val (.double (4635681760191971328 : UInt64)), .second, .val (.double (FP.dadd (4635681760191971328 : UInt64) (FP.ddiv FP.dconst1 (4697254411347427328 : UInt64)))), .second, .val (.int (if (0 : Int32) < (cmpValue (FP.dcmp (4635681760191971328 : UInt64) (4635681760191971328 : UInt64)) .l) then (1 : Int32) else (0 : Int32))), .unset, .unset, .unset, .unset] [(.double (FP.dadd (4635681760191971328 : UInt64) (FP.ddiv FP.dconst1 (4697254411347427328 : UInt64))))])) t → Steps p.tables e below (s₁.setTop (entryFrame m #[(.int p1), (.int p2)] maxLocals)) t := fun t kt => pre7 t (by
    refine XS.istore X6.here hx rfl (hb hby at_35) rfl (l' := #[.val (.int p1), .val (.int p2), .val (.double (4697254411347427328 : UInt64)), .second, .val (.double da), .second, .val (.double db), .second, .val (.double (4635681760191971328 : UInt64)), .second, .val (.double (FP.dadd (4635681760191971328 : UInt64) (FP.ddiv FP.dconst1 (4697254411347427328 : UInt64)))), .second, .val (.int (if (0 : Int32) < (cmpValue (FP.dcmp (4635681760191971328 : UInt64) (4635681760191971328 : UInt64)) .l) then (1 : Int32) else (0 : Int32))), .unset, .unset, .unset, .unset]) rfl ?_
    show Steps p.tables e below (T6.setTop (mkF m 37 #[.val (.int p1), .val (.int p2), .val (.double (4697254411347427328 : UInt64)), .second, .val (.double da), .second, .val (.double db), .second, .val (.double (4635681760191971328 : UInt64)), .second, .val (.double (FP.dadd (4635681760191971328 : UInt64) (FP.ddiv FP.dconst1 (4697254411347427328 : UInt64)))), .second, .val (.int (if (0 : Int32) < (cmpValue (FP.dcmp (4635681760191971328 : UInt64) (4635681760191971328 : UInt64)) .l) then (1 : Int32) else (0 : Int32))), .unset, .unset, .unset, .unset] [])) _
    refine own_dload X6.here hx rfl (hb hby at_37) rfl ?_
    show Steps p.tables e below (T6.setTop (mkF m 39 #[.val (.int p1), .val (.int p2), .val (.double (4697254411347427328 : UInt64)), .second, .val (.double da), .second, .val (.double db), .second, .val (.double (4635681760191971328 : UInt64)), .second, .val (.double (FP.dadd (4635681760191971328 : UInt64) (FP.ddiv FP.dconst1 (4697254411347427328 : UInt64)))), .second, .val (.int (if (0 : Int32) < (cmpValue (FP.dcmp (4635681760191971328 : UInt64) (4635681760191971328 : UInt64)) .l) then (1 : Int32) else (0 : Int32))), .unset, .unset, .unset, .unset] [(.double (FP.dadd (4635681760191971328 : UInt64) (FP.ddiv FP.dconst1 (4697254411347427328 : UInt64))))])) _
    exact kt)
  obtain ⟨_, _, ⟨T9, L9, k9, n9⟩, -, X9, ⟨Lc9, hQ9, l9, y9, z9⟩, st9⟩ := Jvm.LawKit.callS X6 hx (y := (⟨"com/example/calm_balancer/calmbalancer/Overload", "isOverloaded", "(D)Z"⟩ : MethodName)) hown (mvT hZ (hw _ (List.mem_of_getElem? (i := 2) rfl))) (mvT hZ (hw _ (List.mem_of_getElem? (i := 3) rfl))) (mvT hZ (hw _ (List.mem_of_getElem? (i := 4) rfl))) (mvT hZ (hw _ (List.mem_of_getElem? (i := 5) rfl))) (by decide) (backOf (W := 0) (rmO l Z a0 hw [] (FP.dadd (4635681760191971328 : UInt64) (FP.ddiv FP.dconst1 (4697254411347427328 : UInt64))) h0 n0 Z0) hZ (hw _ (List.mem_of_getElem? (i := 5) rfl)) (hw _ (List.mem_of_getElem? (i := 4) rfl)) (by decide) (by decide)) (g := (mkF m 39 #[.val (.int p1), .val (.int p2), .val (.double (4697254411347427328 : UInt64)), .second, .val (.double da), .second, .val (.double db), .second, .val (.double (4635681760191971328 : UInt64)), .second, .val (.double (FP.dadd (4635681760191971328 : UInt64) (FP.ddiv FP.dconst1 (4697254411347427328 : UInt64)))), .second, .val (.int (if (0 : Int32) < (cmpValue (FP.dcmp (4635681760191971328 : UInt64) (4635681760191971328 : UInt64)) .l) then (1 : Int32) else (0 : Int32))), .unset, .unset, .unset, .unset] [(.double (FP.dadd (4635681760191971328 : UInt64) (FP.ddiv FP.dconst1 (4697254411347427328 : UInt64))))])) rfl (by rw [hml]; rfl) (argsL := [(.double (FP.dadd (4635681760191971328 : UInt64) (FP.ddiv FP.dconst1 (4697254411347427328 : UInt64))))]) (rest := []) (lenOf pd__28D_29Z rfl) rfl (by show 2 * 0 + _ ≤ _; exact Nat.le_of_eq rfl) (hb hby at_39) (fun _ _ => ⟨rfl, e6q, (by decide : 0 + 0 ≤ _), (by decide : 0 + 0 ≤ _)⟩)
  dsimp only [Pt.U, Pt.locs, Pt.cells, Pt.slots] at X9 l9 y9 z9 st9 hQ9
  subst l9 y9 z9
  obtain ⟨rfl, N9q, e9q⟩ := hQ9
  have N9 := Fr.app N6 N9q
  have pre10 : ∀ t, Steps p.tables e below (T9.setTop (mkF m 42 #[.val (.int p1), .val (.int p2), .val (.double (4697254411347427328 : UInt64)), .second, .val (.double da), .second, .val (.double db), .second, .val (.double (4635681760191971328 : UInt64)), .second, .val (.double (FP.dadd (4635681760191971328 : UInt64) (FP.ddiv FP.dconst1 (4697254411347427328 : UInt64)))), .second, .val (.int (if (0 : Int32) < (cmpValue (FP.dcmp (4635681760191971328 : UInt64) (4635681760191971328 : UInt64)) .l) then (1 : Int32) else (0 : Int32))), .unset, .unset, .unset, .unset] [(.int (if (0 : Int32) < (cmpValue (FP.dcmp (FP.dadd (4635681760191971328 : UInt64) (FP.ddiv FP.dconst1 (4697254411347427328 : UInt64))) (4635681760191971328 : UInt64)) .l) then (1 : Int32) else (0 : Int32)))])) t → Steps p.tables e below (s₁.setTop (entryFrame m #[(.int p1), (.int p2)] maxLocals)) t := fun t kt => pre8 t (st9 _ kt)
  have pre11 : ∀ t, Steps p.tables e below (T9.setTop (mkF m 46 #[.val (.int p1), .val (.int p2), .val (.double (4697254411347427328 : UInt64)), .second, .val (.double da), .second, .val (.double db), .second, .val (.double (4635681760191971328 : UInt64)), .second, .val (.double (FP.dadd (4635681760191971328 : UInt64) (FP.ddiv FP.dconst1 (4697254411347427328 : UInt64)))), .second, .val (.int (if (0 : Int32) < (cmpValue (FP.dcmp (4635681760191971328 : UInt64) (4635681760191971328 : UInt64)) .l) then (1 : Int32) else (0 : Int32))), .val (.int (if (0 : Int32) < (cmpValue (FP.dcmp (FP.dadd (4635681760191971328 : UInt64) (FP.ddiv FP.dconst1 (4697254411347427328 : UInt64))) (4635681760191971328 : UInt64)) .l) then (1 : Int32) else (0 : Int32))), .unset, .unset, .unset] [(.double da)])) t → Steps p.tables e below (s₁.setTop (entryFrame m #[(.int p1), (.int p2)] maxLocals)) t := fun t kt => pre10 t (by
    refine XS.istore X9.here hx rfl (hb hby at_42) rfl (l' := #[.val (.int p1), .val (.int p2), .val (.double (4697254411347427328 : UInt64)), .second, .val (.double da), .second, .val (.double db), .second, .val (.double (4635681760191971328 : UInt64)), .second, .val (.double (FP.dadd (4635681760191971328 : UInt64) (FP.ddiv FP.dconst1 (4697254411347427328 : UInt64)))), .second, .val (.int (if (0 : Int32) < (cmpValue (FP.dcmp (4635681760191971328 : UInt64) (4635681760191971328 : UInt64)) .l) then (1 : Int32) else (0 : Int32))), .val (.int (if (0 : Int32) < (cmpValue (FP.dcmp (FP.dadd (4635681760191971328 : UInt64) (FP.ddiv FP.dconst1 (4697254411347427328 : UInt64))) (4635681760191971328 : UInt64)) .l) then (1 : Int32) else (0 : Int32))), .unset, .unset, .unset]) rfl ?_
    show Steps p.tables e below (T9.setTop (mkF m 44 #[.val (.int p1), .val (.int p2), .val (.double (4697254411347427328 : UInt64)), .second, .val (.double da), .second, .val (.double db), .second, .val (.double (4635681760191971328 : UInt64)), .second, .val (.double (FP.dadd (4635681760191971328 : UInt64) (FP.ddiv FP.dconst1 (4697254411347427328 : UInt64)))), .second, .val (.int (if (0 : Int32) < (cmpValue (FP.dcmp (4635681760191971328 : UInt64) (4635681760191971328 : UInt64)) .l) then (1 : Int32) else (0 : Int32))), .val (.int (if (0 : Int32) < (cmpValue (FP.dcmp (FP.dadd (4635681760191971328 : UInt64) (FP.ddiv FP.dconst1 (4697254411347427328 : UInt64))) (4635681760191971328 : UInt64)) .l) then (1 : Int32) else (0 : Int32))), .unset, .unset, .unset] [])) _
    refine own_dload X9.here hx rfl (hb hby at_44) rfl ?_
    show Steps p.tables e below (T9.setTop (mkF m 46 #[.val (.int p1), .val (.int p2), .val (.double (4697254411347427328 : UInt64)), .second, .val (.double da), .second, .val (.double db), .second, .val (.double (4635681760191971328 : UInt64)), .second, .val (.double (FP.dadd (4635681760191971328 : UInt64) (FP.ddiv FP.dconst1 (4697254411347427328 : UInt64)))), .second, .val (.int (if (0 : Int32) < (cmpValue (FP.dcmp (4635681760191971328 : UInt64) (4635681760191971328 : UInt64)) .l) then (1 : Int32) else (0 : Int32))), .val (.int (if (0 : Int32) < (cmpValue (FP.dcmp (FP.dadd (4635681760191971328 : UInt64) (FP.ddiv FP.dconst1 (4697254411347427328 : UInt64))) (4635681760191971328 : UInt64)) .l) then (1 : Int32) else (0 : Int32))), .unset, .unset, .unset] [(.double da)])) _
    exact kt)
  obtain ⟨_, _, ⟨T12, L12, k12, n12⟩, -, X12, ⟨Lc12, hQ12, l12, y12, z12⟩, st12⟩ := Jvm.LawKit.callS X9 hx (y := (⟨"com/example/calm_balancer/calmbalancer/Overload", "isOverloaded", "(D)Z"⟩ : MethodName)) hown (mvT hZ (hw _ (List.mem_of_getElem? (i := 2) rfl))) (mvT hZ (hw _ (List.mem_of_getElem? (i := 3) rfl))) (mvT hZ (hw _ (List.mem_of_getElem? (i := 4) rfl))) (mvT hZ (hw _ (List.mem_of_getElem? (i := 5) rfl))) (by decide) (backOf (W := 0) (rmO l Z a0 hw [] da h0 n0 Z0) hZ (hw _ (List.mem_of_getElem? (i := 5) rfl)) (hw _ (List.mem_of_getElem? (i := 4) rfl)) (by decide) (by decide)) (g := (mkF m 46 #[.val (.int p1), .val (.int p2), .val (.double (4697254411347427328 : UInt64)), .second, .val (.double da), .second, .val (.double db), .second, .val (.double (4635681760191971328 : UInt64)), .second, .val (.double (FP.dadd (4635681760191971328 : UInt64) (FP.ddiv FP.dconst1 (4697254411347427328 : UInt64)))), .second, .val (.int (if (0 : Int32) < (cmpValue (FP.dcmp (4635681760191971328 : UInt64) (4635681760191971328 : UInt64)) .l) then (1 : Int32) else (0 : Int32))), .val (.int (if (0 : Int32) < (cmpValue (FP.dcmp (FP.dadd (4635681760191971328 : UInt64) (FP.ddiv FP.dconst1 (4697254411347427328 : UInt64))) (4635681760191971328 : UInt64)) .l) then (1 : Int32) else (0 : Int32))), .unset, .unset, .unset] [(.double da)])) rfl (by rw [hml]; rfl) (argsL := [(.double da)]) (rest := []) (lenOf pd__28D_29Z rfl) rfl (by show 2 * 0 + _ ≤ _; exact Nat.le_of_eq rfl) (hb hby at_46) (fun _ _ => ⟨rfl, e9q, (by decide : 0 + 0 ≤ _), (by decide : 0 + 0 ≤ _)⟩)
  dsimp only [Pt.U, Pt.locs, Pt.cells, Pt.slots] at X12 l12 y12 z12 st12 hQ12
  subst l12 y12 z12
  obtain ⟨rfl, N12q, e12q⟩ := hQ12
  have N12 := Fr.app N9 N12q
  have pre13 : ∀ t, Steps p.tables e below (T12.setTop (mkF m 49 #[.val (.int p1), .val (.int p2), .val (.double (4697254411347427328 : UInt64)), .second, .val (.double da), .second, .val (.double db), .second, .val (.double (4635681760191971328 : UInt64)), .second, .val (.double (FP.dadd (4635681760191971328 : UInt64) (FP.ddiv FP.dconst1 (4697254411347427328 : UInt64)))), .second, .val (.int (if (0 : Int32) < (cmpValue (FP.dcmp (4635681760191971328 : UInt64) (4635681760191971328 : UInt64)) .l) then (1 : Int32) else (0 : Int32))), .val (.int (if (0 : Int32) < (cmpValue (FP.dcmp (FP.dadd (4635681760191971328 : UInt64) (FP.ddiv FP.dconst1 (4697254411347427328 : UInt64))) (4635681760191971328 : UInt64)) .l) then (1 : Int32) else (0 : Int32))), .unset, .unset, .unset] [(.int (if (0 : Int32) < (cmpValue (FP.dcmp da (4635681760191971328 : UInt64)) .l) then (1 : Int32) else (0 : Int32)))])) t → Steps p.tables e below (s₁.setTop (entryFrame m #[(.int p1), (.int p2)] maxLocals)) t := fun t kt => pre11 t (st12 _ kt)
  have pre14 : ∀ t, Steps p.tables e below (T12.setTop (mkF m 53 #[.val (.int p1), .val (.int p2), .val (.double (4697254411347427328 : UInt64)), .second, .val (.double da), .second, .val (.double db), .second, .val (.double (4635681760191971328 : UInt64)), .second, .val (.double (FP.dadd (4635681760191971328 : UInt64) (FP.ddiv FP.dconst1 (4697254411347427328 : UInt64)))), .second, .val (.int (if (0 : Int32) < (cmpValue (FP.dcmp (4635681760191971328 : UInt64) (4635681760191971328 : UInt64)) .l) then (1 : Int32) else (0 : Int32))), .val (.int (if (0 : Int32) < (cmpValue (FP.dcmp (FP.dadd (4635681760191971328 : UInt64) (FP.ddiv FP.dconst1 (4697254411347427328 : UInt64))) (4635681760191971328 : UInt64)) .l) then (1 : Int32) else (0 : Int32))), .val (.int (if (0 : Int32) < (cmpValue (FP.dcmp da (4635681760191971328 : UInt64)) .l) then (1 : Int32) else (0 : Int32))), .unset, .unset] [(.double db)])) t → Steps p.tables e below (s₁.setTop (entryFrame m #[(.int p1), (.int p2)] maxLocals)) t := fun t kt => pre13 t (by
    refine XS.istore X12.here hx rfl (hb hby at_49) rfl (l' := #[.val (.int p1), .val (.int p2), .val (.double (4697254411347427328 : UInt64)), .second, .val (.double da), .second, .val (.double db), .second, .val (.double (4635681760191971328 : UInt64)), .second, .val (.double (FP.dadd (4635681760191971328 : UInt64) (FP.ddiv FP.dconst1 (4697254411347427328 : UInt64)))), .second, .val (.int (if (0 : Int32) < (cmpValue (FP.dcmp (4635681760191971328 : UInt64) (4635681760191971328 : UInt64)) .l) then (1 : Int32) else (0 : Int32))), .val (.int (if (0 : Int32) < (cmpValue (FP.dcmp (FP.dadd (4635681760191971328 : UInt64) (FP.ddiv FP.dconst1 (4697254411347427328 : UInt64))) (4635681760191971328 : UInt64)) .l) then (1 : Int32) else (0 : Int32))), .val (.int (if (0 : Int32) < (cmpValue (FP.dcmp da (4635681760191971328 : UInt64)) .l) then (1 : Int32) else (0 : Int32))), .unset, .unset]) rfl ?_
    show Steps p.tables e below (T12.setTop (mkF m 51 #[.val (.int p1), .val (.int p2), .val (.double (4697254411347427328 : UInt64)), .second, .val (.double da), .second, .val (.double db), .second, .val (.double (4635681760191971328 : UInt64)), .second, .val (.double (FP.dadd (4635681760191971328 : UInt64) (FP.ddiv FP.dconst1 (4697254411347427328 : UInt64)))), .second, .val (.int (if (0 : Int32) < (cmpValue (FP.dcmp (4635681760191971328 : UInt64) (4635681760191971328 : UInt64)) .l) then (1 : Int32) else (0 : Int32))), .val (.int (if (0 : Int32) < (cmpValue (FP.dcmp (FP.dadd (4635681760191971328 : UInt64) (FP.ddiv FP.dconst1 (4697254411347427328 : UInt64))) (4635681760191971328 : UInt64)) .l) then (1 : Int32) else (0 : Int32))), .val (.int (if (0 : Int32) < (cmpValue (FP.dcmp da (4635681760191971328 : UInt64)) .l) then (1 : Int32) else (0 : Int32))), .unset, .unset] [])) _
    refine own_dload X12.here hx rfl (hb hby at_51) rfl ?_
    show Steps p.tables e below (T12.setTop (mkF m 53 #[.val (.int p1), .val (.int p2), .val (.double (4697254411347427328 : UInt64)), .second, .val (.double da), .second, .val (.double db), .second, .val (.double (4635681760191971328 : UInt64)), .second, .val (.double (FP.dadd (4635681760191971328 : UInt64) (FP.ddiv FP.dconst1 (4697254411347427328 : UInt64)))), .second, .val (.int (if (0 : Int32) < (cmpValue (FP.dcmp (4635681760191971328 : UInt64) (4635681760191971328 : UInt64)) .l) then (1 : Int32) else (0 : Int32))), .val (.int (if (0 : Int32) < (cmpValue (FP.dcmp (FP.dadd (4635681760191971328 : UInt64) (FP.ddiv FP.dconst1 (4697254411347427328 : UInt64))) (4635681760191971328 : UInt64)) .l) then (1 : Int32) else (0 : Int32))), .val (.int (if (0 : Int32) < (cmpValue (FP.dcmp da (4635681760191971328 : UInt64)) .l) then (1 : Int32) else (0 : Int32))), .unset, .unset] [(.double db)])) _
    exact kt)
  obtain ⟨_, _, ⟨T15, L15, k15, n15⟩, -, X15, ⟨Lc15, hQ15, l15, y15, z15⟩, st15⟩ := Jvm.LawKit.callS X12 hx (y := (⟨"com/example/calm_balancer/calmbalancer/Overload", "isOverloaded", "(D)Z"⟩ : MethodName)) hown (mvT hZ (hw _ (List.mem_of_getElem? (i := 2) rfl))) (mvT hZ (hw _ (List.mem_of_getElem? (i := 3) rfl))) (mvT hZ (hw _ (List.mem_of_getElem? (i := 4) rfl))) (mvT hZ (hw _ (List.mem_of_getElem? (i := 5) rfl))) (by decide) (backOf (W := 0) (rmO l Z a0 hw [] db h0 n0 Z0) hZ (hw _ (List.mem_of_getElem? (i := 5) rfl)) (hw _ (List.mem_of_getElem? (i := 4) rfl)) (by decide) (by decide)) (g := (mkF m 53 #[.val (.int p1), .val (.int p2), .val (.double (4697254411347427328 : UInt64)), .second, .val (.double da), .second, .val (.double db), .second, .val (.double (4635681760191971328 : UInt64)), .second, .val (.double (FP.dadd (4635681760191971328 : UInt64) (FP.ddiv FP.dconst1 (4697254411347427328 : UInt64)))), .second, .val (.int (if (0 : Int32) < (cmpValue (FP.dcmp (4635681760191971328 : UInt64) (4635681760191971328 : UInt64)) .l) then (1 : Int32) else (0 : Int32))), .val (.int (if (0 : Int32) < (cmpValue (FP.dcmp (FP.dadd (4635681760191971328 : UInt64) (FP.ddiv FP.dconst1 (4697254411347427328 : UInt64))) (4635681760191971328 : UInt64)) .l) then (1 : Int32) else (0 : Int32))), .val (.int (if (0 : Int32) < (cmpValue (FP.dcmp da (4635681760191971328 : UInt64)) .l) then (1 : Int32) else (0 : Int32))), .unset, .unset] [(.double db)])) rfl (by rw [hml]; rfl) (argsL := [(.double db)]) (rest := []) (lenOf pd__28D_29Z rfl) rfl (by show 2 * 0 + _ ≤ _; exact Nat.le_of_eq rfl) (hb hby at_53) (fun _ _ => ⟨rfl, e12q, (by decide : 0 + 0 ≤ _), (by decide : 0 + 0 ≤ _)⟩)
  dsimp only [Pt.U, Pt.locs, Pt.cells, Pt.slots] at X15 l15 y15 z15 st15 hQ15
  subst l15 y15 z15
  obtain ⟨rfl, N15q, e15q⟩ := hQ15
  have N15 := Fr.app N12 N15q
  have pre16 : ∀ t, Steps p.tables e below (T15.setTop (mkF m 56 #[.val (.int p1), .val (.int p2), .val (.double (4697254411347427328 : UInt64)), .second, .val (.double da), .second, .val (.double db), .second, .val (.double (4635681760191971328 : UInt64)), .second, .val (.double (FP.dadd (4635681760191971328 : UInt64) (FP.ddiv FP.dconst1 (4697254411347427328 : UInt64)))), .second, .val (.int (if (0 : Int32) < (cmpValue (FP.dcmp (4635681760191971328 : UInt64) (4635681760191971328 : UInt64)) .l) then (1 : Int32) else (0 : Int32))), .val (.int (if (0 : Int32) < (cmpValue (FP.dcmp (FP.dadd (4635681760191971328 : UInt64) (FP.ddiv FP.dconst1 (4697254411347427328 : UInt64))) (4635681760191971328 : UInt64)) .l) then (1 : Int32) else (0 : Int32))), .val (.int (if (0 : Int32) < (cmpValue (FP.dcmp da (4635681760191971328 : UInt64)) .l) then (1 : Int32) else (0 : Int32))), .unset, .unset] [(.int (if (0 : Int32) < (cmpValue (FP.dcmp db (4635681760191971328 : UInt64)) .l) then (1 : Int32) else (0 : Int32)))])) t → Steps p.tables e below (s₁.setTop (entryFrame m #[(.int p1), (.int p2)] maxLocals)) t := fun t kt => pre14 t (st15 _ kt)
  have pre17 : ∀ t, Steps p.tables e below (T15.setTop (mkF m 63 #[.val (.int p1), .val (.int p2), .val (.double (4697254411347427328 : UInt64)), .second, .val (.double da), .second, .val (.double db), .second, .val (.double (4635681760191971328 : UInt64)), .second, .val (.double (FP.dadd (4635681760191971328 : UInt64) (FP.ddiv FP.dconst1 (4697254411347427328 : UInt64)))), .second, .val (.int (if (0 : Int32) < (cmpValue (FP.dcmp (4635681760191971328 : UInt64) (4635681760191971328 : UInt64)) .l) then (1 : Int32) else (0 : Int32))), .val (.int (if (0 : Int32) < (cmpValue (FP.dcmp (FP.dadd (4635681760191971328 : UInt64) (FP.ddiv FP.dconst1 (4697254411347427328 : UInt64))) (4635681760191971328 : UInt64)) .l) then (1 : Int32) else (0 : Int32))), .val (.int (if (0 : Int32) < (cmpValue (FP.dcmp da (4635681760191971328 : UInt64)) .l) then (1 : Int32) else (0 : Int32))), .val (.int (if (0 : Int32) < (cmpValue (FP.dcmp db (4635681760191971328 : UInt64)) .l) then (1 : Int32) else (0 : Int32))), .unset] [(.int (cmpValue (FP.dcmp da db) .g))])) t → Steps p.tables e below (s₁.setTop (entryFrame m #[(.int p1), (.int p2)] maxLocals)) t := fun t kt => pre16 t (by
    refine XS.istore X15.here hx rfl (hb hby at_56) rfl (l' := #[.val (.int p1), .val (.int p2), .val (.double (4697254411347427328 : UInt64)), .second, .val (.double da), .second, .val (.double db), .second, .val (.double (4635681760191971328 : UInt64)), .second, .val (.double (FP.dadd (4635681760191971328 : UInt64) (FP.ddiv FP.dconst1 (4697254411347427328 : UInt64)))), .second, .val (.int (if (0 : Int32) < (cmpValue (FP.dcmp (4635681760191971328 : UInt64) (4635681760191971328 : UInt64)) .l) then (1 : Int32) else (0 : Int32))), .val (.int (if (0 : Int32) < (cmpValue (FP.dcmp (FP.dadd (4635681760191971328 : UInt64) (FP.ddiv FP.dconst1 (4697254411347427328 : UInt64))) (4635681760191971328 : UInt64)) .l) then (1 : Int32) else (0 : Int32))), .val (.int (if (0 : Int32) < (cmpValue (FP.dcmp da (4635681760191971328 : UInt64)) .l) then (1 : Int32) else (0 : Int32))), .val (.int (if (0 : Int32) < (cmpValue (FP.dcmp db (4635681760191971328 : UInt64)) .l) then (1 : Int32) else (0 : Int32))), .unset]) rfl ?_
    show Steps p.tables e below (T15.setTop (mkF m 58 #[.val (.int p1), .val (.int p2), .val (.double (4697254411347427328 : UInt64)), .second, .val (.double da), .second, .val (.double db), .second, .val (.double (4635681760191971328 : UInt64)), .second, .val (.double (FP.dadd (4635681760191971328 : UInt64) (FP.ddiv FP.dconst1 (4697254411347427328 : UInt64)))), .second, .val (.int (if (0 : Int32) < (cmpValue (FP.dcmp (4635681760191971328 : UInt64) (4635681760191971328 : UInt64)) .l) then (1 : Int32) else (0 : Int32))), .val (.int (if (0 : Int32) < (cmpValue (FP.dcmp (FP.dadd (4635681760191971328 : UInt64) (FP.ddiv FP.dconst1 (4697254411347427328 : UInt64))) (4635681760191971328 : UInt64)) .l) then (1 : Int32) else (0 : Int32))), .val (.int (if (0 : Int32) < (cmpValue (FP.dcmp da (4635681760191971328 : UInt64)) .l) then (1 : Int32) else (0 : Int32))), .val (.int (if (0 : Int32) < (cmpValue (FP.dcmp db (4635681760191971328 : UInt64)) .l) then (1 : Int32) else (0 : Int32))), .unset] [])) _
    refine own_dload X15.here hx rfl (hb hby at_58) rfl ?_
    show Steps p.tables e below (T15.setTop (mkF m 60 #[.val (.int p1), .val (.int p2), .val (.double (4697254411347427328 : UInt64)), .second, .val (.double da), .second, .val (.double db), .second, .val (.double (4635681760191971328 : UInt64)), .second, .val (.double (FP.dadd (4635681760191971328 : UInt64) (FP.ddiv FP.dconst1 (4697254411347427328 : UInt64)))), .second, .val (.int (if (0 : Int32) < (cmpValue (FP.dcmp (4635681760191971328 : UInt64) (4635681760191971328 : UInt64)) .l) then (1 : Int32) else (0 : Int32))), .val (.int (if (0 : Int32) < (cmpValue (FP.dcmp (FP.dadd (4635681760191971328 : UInt64) (FP.ddiv FP.dconst1 (4697254411347427328 : UInt64))) (4635681760191971328 : UInt64)) .l) then (1 : Int32) else (0 : Int32))), .val (.int (if (0 : Int32) < (cmpValue (FP.dcmp da (4635681760191971328 : UInt64)) .l) then (1 : Int32) else (0 : Int32))), .val (.int (if (0 : Int32) < (cmpValue (FP.dcmp db (4635681760191971328 : UInt64)) .l) then (1 : Int32) else (0 : Int32))), .unset] [(.double da)])) _
    refine own_dload X15.here hx rfl (hb hby at_60) rfl ?_
    show Steps p.tables e below (T15.setTop (mkF m 62 #[.val (.int p1), .val (.int p2), .val (.double (4697254411347427328 : UInt64)), .second, .val (.double da), .second, .val (.double db), .second, .val (.double (4635681760191971328 : UInt64)), .second, .val (.double (FP.dadd (4635681760191971328 : UInt64) (FP.ddiv FP.dconst1 (4697254411347427328 : UInt64)))), .second, .val (.int (if (0 : Int32) < (cmpValue (FP.dcmp (4635681760191971328 : UInt64) (4635681760191971328 : UInt64)) .l) then (1 : Int32) else (0 : Int32))), .val (.int (if (0 : Int32) < (cmpValue (FP.dcmp (FP.dadd (4635681760191971328 : UInt64) (FP.ddiv FP.dconst1 (4697254411347427328 : UInt64))) (4635681760191971328 : UInt64)) .l) then (1 : Int32) else (0 : Int32))), .val (.int (if (0 : Int32) < (cmpValue (FP.dcmp da (4635681760191971328 : UInt64)) .l) then (1 : Int32) else (0 : Int32))), .val (.int (if (0 : Int32) < (cmpValue (FP.dcmp db (4635681760191971328 : UInt64)) .l) then (1 : Int32) else (0 : Int32))), .unset] [(.double db), (.double da)])) _
    refine own_dcmp X15.here hx rfl (hb hby at_62) rfl ?_
    show Steps p.tables e below (T15.setTop (mkF m 63 #[.val (.int p1), .val (.int p2), .val (.double (4697254411347427328 : UInt64)), .second, .val (.double da), .second, .val (.double db), .second, .val (.double (4635681760191971328 : UInt64)), .second, .val (.double (FP.dadd (4635681760191971328 : UInt64) (FP.ddiv FP.dconst1 (4697254411347427328 : UInt64)))), .second, .val (.int (if (0 : Int32) < (cmpValue (FP.dcmp (4635681760191971328 : UInt64) (4635681760191971328 : UInt64)) .l) then (1 : Int32) else (0 : Int32))), .val (.int (if (0 : Int32) < (cmpValue (FP.dcmp (FP.dadd (4635681760191971328 : UInt64) (FP.ddiv FP.dconst1 (4697254411347427328 : UInt64))) (4635681760191971328 : UInt64)) .l) then (1 : Int32) else (0 : Int32))), .val (.int (if (0 : Int32) < (cmpValue (FP.dcmp da (4635681760191971328 : UInt64)) .l) then (1 : Int32) else (0 : Int32))), .val (.int (if (0 : Int32) < (cmpValue (FP.dcmp db (4635681760191971328 : UInt64)) .l) then (1 : Int32) else (0 : Int32))), .unset] [(.int (cmpValue (FP.dcmp da db) .g))])) _
    exact kt)
  have pre18 : ∀ t, Steps p.tables e below (T15.setTop (mkF m 81 #[.val (.int p1), .val (.int p2), .val (.double (4697254411347427328 : UInt64)), .second, .val (.double da), .second, .val (.double db), .second, .val (.double (4635681760191971328 : UInt64)), .second, .val (.double (FP.dadd (4635681760191971328 : UInt64) (FP.ddiv FP.dconst1 (4697254411347427328 : UInt64)))), .second, .val (.int (if (0 : Int32) < (cmpValue (FP.dcmp (4635681760191971328 : UInt64) (4635681760191971328 : UInt64)) .l) then (1 : Int32) else (0 : Int32))), .val (.int (if (0 : Int32) < (cmpValue (FP.dcmp (FP.dadd (4635681760191971328 : UInt64) (FP.ddiv FP.dconst1 (4697254411347427328 : UInt64))) (4635681760191971328 : UInt64)) .l) then (1 : Int32) else (0 : Int32))), .val (.int (if (0 : Int32) < (cmpValue (FP.dcmp da (4635681760191971328 : UInt64)) .l) then (1 : Int32) else (0 : Int32))), .val (.int (if (0 : Int32) < (cmpValue (FP.dcmp db (4635681760191971328 : UInt64)) .l) then (1 : Int32) else (0 : Int32))), .unset] [(.int (1 : Int32))])) t → Steps p.tables e below (s₁.setTop (entryFrame m #[(.int p1), (.int p2)] maxLocals)) t := fun t kt => pre17 t (by
    by_cases c63_1 : (0 : Int32) < (cmpValue (FP.dcmp da db) .g)
    · refine XS.ifYes X15.here hx rfl (pc0 := 63) (pc' := 76) rfl (hb hby at_63) rfl ((if0 _ _).trans (tlt c63_1).2.2.1) (by decide) (by decide) ?_
      show Steps p.tables e below (T15.setTop (mkF m 76 #[.val (.int p1), .val (.int p2), .val (.double (4697254411347427328 : UInt64)), .second, .val (.double da), .second, .val (.double db), .second, .val (.double (4635681760191971328 : UInt64)), .second, .val (.double (FP.dadd (4635681760191971328 : UInt64) (FP.ddiv FP.dconst1 (4697254411347427328 : UInt64)))), .second, .val (.int (if (0 : Int32) < (cmpValue (FP.dcmp (4635681760191971328 : UInt64) (4635681760191971328 : UInt64)) .l) then (1 : Int32) else (0 : Int32))), .val (.int (if (0 : Int32) < (cmpValue (FP.dcmp (FP.dadd (4635681760191971328 : UInt64) (FP.ddiv FP.dconst1 (4697254411347427328 : UInt64))) (4635681760191971328 : UInt64)) .l) then (1 : Int32) else (0 : Int32))), .val (.int (if (0 : Int32) < (cmpValue (FP.dcmp da (4635681760191971328 : UInt64)) .l) then (1 : Int32) else (0 : Int32))), .val (.int (if (0 : Int32) < (cmpValue (FP.dcmp db (4635681760191971328 : UInt64)) .l) then (1 : Int32) else (0 : Int32))), .unset] [])) _
      refine XS.iconst X15.here hx rfl (hb hby at_76) ?_
      show Steps p.tables e below (T15.setTop (mkF m 77 #[.val (.int p1), .val (.int p2), .val (.double (4697254411347427328 : UInt64)), .second, .val (.double da), .second, .val (.double db), .second, .val (.double (4635681760191971328 : UInt64)), .second, .val (.double (FP.dadd (4635681760191971328 : UInt64) (FP.ddiv FP.dconst1 (4697254411347427328 : UInt64)))), .second, .val (.int (if (0 : Int32) < (cmpValue (FP.dcmp (4635681760191971328 : UInt64) (4635681760191971328 : UInt64)) .l) then (1 : Int32) else (0 : Int32))), .val (.int (if (0 : Int32) < (cmpValue (FP.dcmp (FP.dadd (4635681760191971328 : UInt64) (FP.ddiv FP.dconst1 (4697254411347427328 : UInt64))) (4635681760191971328 : UInt64)) .l) then (1 : Int32) else (0 : Int32))), .val (.int (if (0 : Int32) < (cmpValue (FP.dcmp da (4635681760191971328 : UInt64)) .l) then (1 : Int32) else (0 : Int32))), .val (.int (if (0 : Int32) < (cmpValue (FP.dcmp db (4635681760191971328 : UInt64)) .l) then (1 : Int32) else (0 : Int32))), .unset] [(.int (1 : Int32))])) _
      refine XS.goto X15.here hx rfl (pc0 := 77) (pc' := 81) rfl (hb hby at_77) (by decide) (by decide) ?_
      show Steps p.tables e below (T15.setTop (mkF m 81 #[.val (.int p1), .val (.int p2), .val (.double (4697254411347427328 : UInt64)), .second, .val (.double da), .second, .val (.double db), .second, .val (.double (4635681760191971328 : UInt64)), .second, .val (.double (FP.dadd (4635681760191971328 : UInt64) (FP.ddiv FP.dconst1 (4697254411347427328 : UInt64)))), .second, .val (.int (if (0 : Int32) < (cmpValue (FP.dcmp (4635681760191971328 : UInt64) (4635681760191971328 : UInt64)) .l) then (1 : Int32) else (0 : Int32))), .val (.int (if (0 : Int32) < (cmpValue (FP.dcmp (FP.dadd (4635681760191971328 : UInt64) (FP.ddiv FP.dconst1 (4697254411347427328 : UInt64))) (4635681760191971328 : UInt64)) .l) then (1 : Int32) else (0 : Int32))), .val (.int (if (0 : Int32) < (cmpValue (FP.dcmp da (4635681760191971328 : UInt64)) .l) then (1 : Int32) else (0 : Int32))), .val (.int (if (0 : Int32) < (cmpValue (FP.dcmp db (4635681760191971328 : UInt64)) .l) then (1 : Int32) else (0 : Int32))), .unset] [(.int (1 : Int32))])) _
      exact kt
    · refine XS.ifNo X15.here hx rfl (hb hby at_63) rfl ((if0 _ _).trans (flt c63_1).2.2.1) ?_
      show Steps p.tables e below (T15.setTop (mkF m 66 #[.val (.int p1), .val (.int p2), .val (.double (4697254411347427328 : UInt64)), .second, .val (.double da), .second, .val (.double db), .second, .val (.double (4635681760191971328 : UInt64)), .second, .val (.double (FP.dadd (4635681760191971328 : UInt64) (FP.ddiv FP.dconst1 (4697254411347427328 : UInt64)))), .second, .val (.int (if (0 : Int32) < (cmpValue (FP.dcmp (4635681760191971328 : UInt64) (4635681760191971328 : UInt64)) .l) then (1 : Int32) else (0 : Int32))), .val (.int (if (0 : Int32) < (cmpValue (FP.dcmp (FP.dadd (4635681760191971328 : UInt64) (FP.ddiv FP.dconst1 (4697254411347427328 : UInt64))) (4635681760191971328 : UInt64)) .l) then (1 : Int32) else (0 : Int32))), .val (.int (if (0 : Int32) < (cmpValue (FP.dcmp da (4635681760191971328 : UInt64)) .l) then (1 : Int32) else (0 : Int32))), .val (.int (if (0 : Int32) < (cmpValue (FP.dcmp db (4635681760191971328 : UInt64)) .l) then (1 : Int32) else (0 : Int32))), .unset] [])) _
      refine XS.iload X15.here hx rfl (hb hby at_66) rfl ?_
      show Steps p.tables e below (T15.setTop (mkF m 68 #[.val (.int p1), .val (.int p2), .val (.double (4697254411347427328 : UInt64)), .second, .val (.double da), .second, .val (.double db), .second, .val (.double (4635681760191971328 : UInt64)), .second, .val (.double (FP.dadd (4635681760191971328 : UInt64) (FP.ddiv FP.dconst1 (4697254411347427328 : UInt64)))), .second, .val (.int (if (0 : Int32) < (cmpValue (FP.dcmp (4635681760191971328 : UInt64) (4635681760191971328 : UInt64)) .l) then (1 : Int32) else (0 : Int32))), .val (.int (if (0 : Int32) < (cmpValue (FP.dcmp (FP.dadd (4635681760191971328 : UInt64) (FP.ddiv FP.dconst1 (4697254411347427328 : UInt64))) (4635681760191971328 : UInt64)) .l) then (1 : Int32) else (0 : Int32))), .val (.int (if (0 : Int32) < (cmpValue (FP.dcmp da (4635681760191971328 : UInt64)) .l) then (1 : Int32) else (0 : Int32))), .val (.int (if (0 : Int32) < (cmpValue (FP.dcmp db (4635681760191971328 : UInt64)) .l) then (1 : Int32) else (0 : Int32))), .unset] [(.int (if (0 : Int32) < (cmpValue (FP.dcmp da (4635681760191971328 : UInt64)) .l) then (1 : Int32) else (0 : Int32)))])) _
      by_cases c68_2 : (if (0 : Int32) < (cmpValue (FP.dcmp da (4635681760191971328 : UInt64)) .l) then (1 : Int32) else (0 : Int32)) = (0 : Int32)
      · refine XS.ifYes X15.here hx rfl (pc0 := 68) (pc' := 76) rfl (hb hby at_68) rfl ((if0 _ _).trans (teq c68_2).1) (by decide) (by decide) ?_
        show Steps p.tables e below (T15.setTop (mkF m 76 #[.val (.int p1), .val (.int p2), .val (.double (4697254411347427328 : UInt64)), .second, .val (.double da), .second, .val (.double db), .second, .val (.double (4635681760191971328 : UInt64)), .second, .val (.double (FP.dadd (4635681760191971328 : UInt64) (FP.ddiv FP.dconst1 (4697254411347427328 : UInt64)))), .second, .val (.int (if (0 : Int32) < (cmpValue (FP.dcmp (4635681760191971328 : UInt64) (4635681760191971328 : UInt64)) .l) then (1 : Int32) else (0 : Int32))), .val (.int (if (0 : Int32) < (cmpValue (FP.dcmp (FP.dadd (4635681760191971328 : UInt64) (FP.ddiv FP.dconst1 (4697254411347427328 : UInt64))) (4635681760191971328 : UInt64)) .l) then (1 : Int32) else (0 : Int32))), .val (.int (if (0 : Int32) < (cmpValue (FP.dcmp da (4635681760191971328 : UInt64)) .l) then (1 : Int32) else (0 : Int32))), .val (.int (if (0 : Int32) < (cmpValue (FP.dcmp db (4635681760191971328 : UInt64)) .l) then (1 : Int32) else (0 : Int32))), .unset] [])) _
        refine XS.iconst X15.here hx rfl (hb hby at_76) ?_
        show Steps p.tables e below (T15.setTop (mkF m 77 #[.val (.int p1), .val (.int p2), .val (.double (4697254411347427328 : UInt64)), .second, .val (.double da), .second, .val (.double db), .second, .val (.double (4635681760191971328 : UInt64)), .second, .val (.double (FP.dadd (4635681760191971328 : UInt64) (FP.ddiv FP.dconst1 (4697254411347427328 : UInt64)))), .second, .val (.int (if (0 : Int32) < (cmpValue (FP.dcmp (4635681760191971328 : UInt64) (4635681760191971328 : UInt64)) .l) then (1 : Int32) else (0 : Int32))), .val (.int (if (0 : Int32) < (cmpValue (FP.dcmp (FP.dadd (4635681760191971328 : UInt64) (FP.ddiv FP.dconst1 (4697254411347427328 : UInt64))) (4635681760191971328 : UInt64)) .l) then (1 : Int32) else (0 : Int32))), .val (.int (if (0 : Int32) < (cmpValue (FP.dcmp da (4635681760191971328 : UInt64)) .l) then (1 : Int32) else (0 : Int32))), .val (.int (if (0 : Int32) < (cmpValue (FP.dcmp db (4635681760191971328 : UInt64)) .l) then (1 : Int32) else (0 : Int32))), .unset] [(.int (1 : Int32))])) _
        refine XS.goto X15.here hx rfl (pc0 := 77) (pc' := 81) rfl (hb hby at_77) (by decide) (by decide) ?_
        show Steps p.tables e below (T15.setTop (mkF m 81 #[.val (.int p1), .val (.int p2), .val (.double (4697254411347427328 : UInt64)), .second, .val (.double da), .second, .val (.double db), .second, .val (.double (4635681760191971328 : UInt64)), .second, .val (.double (FP.dadd (4635681760191971328 : UInt64) (FP.ddiv FP.dconst1 (4697254411347427328 : UInt64)))), .second, .val (.int (if (0 : Int32) < (cmpValue (FP.dcmp (4635681760191971328 : UInt64) (4635681760191971328 : UInt64)) .l) then (1 : Int32) else (0 : Int32))), .val (.int (if (0 : Int32) < (cmpValue (FP.dcmp (FP.dadd (4635681760191971328 : UInt64) (FP.ddiv FP.dconst1 (4697254411347427328 : UInt64))) (4635681760191971328 : UInt64)) .l) then (1 : Int32) else (0 : Int32))), .val (.int (if (0 : Int32) < (cmpValue (FP.dcmp da (4635681760191971328 : UInt64)) .l) then (1 : Int32) else (0 : Int32))), .val (.int (if (0 : Int32) < (cmpValue (FP.dcmp db (4635681760191971328 : UInt64)) .l) then (1 : Int32) else (0 : Int32))), .unset] [(.int (1 : Int32))])) _
        exact kt
      · refine XS.ifNo X15.here hx rfl (hb hby at_68) rfl ((if0 _ _).trans (feq c68_2).1) ?_
        show Steps p.tables e below (T15.setTop (mkF m 71 #[.val (.int p1), .val (.int p2), .val (.double (4697254411347427328 : UInt64)), .second, .val (.double da), .second, .val (.double db), .second, .val (.double (4635681760191971328 : UInt64)), .second, .val (.double (FP.dadd (4635681760191971328 : UInt64) (FP.ddiv FP.dconst1 (4697254411347427328 : UInt64)))), .second, .val (.int (if (0 : Int32) < (cmpValue (FP.dcmp (4635681760191971328 : UInt64) (4635681760191971328 : UInt64)) .l) then (1 : Int32) else (0 : Int32))), .val (.int (if (0 : Int32) < (cmpValue (FP.dcmp (FP.dadd (4635681760191971328 : UInt64) (FP.ddiv FP.dconst1 (4697254411347427328 : UInt64))) (4635681760191971328 : UInt64)) .l) then (1 : Int32) else (0 : Int32))), .val (.int (if (0 : Int32) < (cmpValue (FP.dcmp da (4635681760191971328 : UInt64)) .l) then (1 : Int32) else (0 : Int32))), .val (.int (if (0 : Int32) < (cmpValue (FP.dcmp db (4635681760191971328 : UInt64)) .l) then (1 : Int32) else (0 : Int32))), .unset] [])) _
        refine XS.iload X15.here hx rfl (hb hby at_71) rfl ?_
        show Steps p.tables e below (T15.setTop (mkF m 73 #[.val (.int p1), .val (.int p2), .val (.double (4697254411347427328 : UInt64)), .second, .val (.double da), .second, .val (.double db), .second, .val (.double (4635681760191971328 : UInt64)), .second, .val (.double (FP.dadd (4635681760191971328 : UInt64) (FP.ddiv FP.dconst1 (4697254411347427328 : UInt64)))), .second, .val (.int (if (0 : Int32) < (cmpValue (FP.dcmp (4635681760191971328 : UInt64) (4635681760191971328 : UInt64)) .l) then (1 : Int32) else (0 : Int32))), .val (.int (if (0 : Int32) < (cmpValue (FP.dcmp (FP.dadd (4635681760191971328 : UInt64) (FP.ddiv FP.dconst1 (4697254411347427328 : UInt64))) (4635681760191971328 : UInt64)) .l) then (1 : Int32) else (0 : Int32))), .val (.int (if (0 : Int32) < (cmpValue (FP.dcmp da (4635681760191971328 : UInt64)) .l) then (1 : Int32) else (0 : Int32))), .val (.int (if (0 : Int32) < (cmpValue (FP.dcmp db (4635681760191971328 : UInt64)) .l) then (1 : Int32) else (0 : Int32))), .unset] [(.int (if (0 : Int32) < (cmpValue (FP.dcmp db (4635681760191971328 : UInt64)) .l) then (1 : Int32) else (0 : Int32)))])) _
        refine XS.ifNo X15.here hx rfl (hb hby at_73) rfl ((if0 _ _).trans (feq (own_mono da db (4635681760191971328 : UInt64) c63_1 c68_2 : ¬ ((if (0 : Int32) < (cmpValue (FP.dcmp db (4635681760191971328 : UInt64)) .l) then (1 : Int32) else (0 : Int32)) = (0 : Int32)))).1) ?_
        show Steps p.tables e below (T15.setTop (mkF m 76 #[.val (.int p1), .val (.int p2), .val (.double (4697254411347427328 : UInt64)), .second, .val (.double da), .second, .val (.double db), .second, .val (.double (4635681760191971328 : UInt64)), .second, .val (.double (FP.dadd (4635681760191971328 : UInt64) (FP.ddiv FP.dconst1 (4697254411347427328 : UInt64)))), .second, .val (.int (if (0 : Int32) < (cmpValue (FP.dcmp (4635681760191971328 : UInt64) (4635681760191971328 : UInt64)) .l) then (1 : Int32) else (0 : Int32))), .val (.int (if (0 : Int32) < (cmpValue (FP.dcmp (FP.dadd (4635681760191971328 : UInt64) (FP.ddiv FP.dconst1 (4697254411347427328 : UInt64))) (4635681760191971328 : UInt64)) .l) then (1 : Int32) else (0 : Int32))), .val (.int (if (0 : Int32) < (cmpValue (FP.dcmp da (4635681760191971328 : UInt64)) .l) then (1 : Int32) else (0 : Int32))), .val (.int (if (0 : Int32) < (cmpValue (FP.dcmp db (4635681760191971328 : UInt64)) .l) then (1 : Int32) else (0 : Int32))), .unset] [])) _
        refine XS.iconst X15.here hx rfl (hb hby at_76) ?_
        show Steps p.tables e below (T15.setTop (mkF m 77 #[.val (.int p1), .val (.int p2), .val (.double (4697254411347427328 : UInt64)), .second, .val (.double da), .second, .val (.double db), .second, .val (.double (4635681760191971328 : UInt64)), .second, .val (.double (FP.dadd (4635681760191971328 : UInt64) (FP.ddiv FP.dconst1 (4697254411347427328 : UInt64)))), .second, .val (.int (if (0 : Int32) < (cmpValue (FP.dcmp (4635681760191971328 : UInt64) (4635681760191971328 : UInt64)) .l) then (1 : Int32) else (0 : Int32))), .val (.int (if (0 : Int32) < (cmpValue (FP.dcmp (FP.dadd (4635681760191971328 : UInt64) (FP.ddiv FP.dconst1 (4697254411347427328 : UInt64))) (4635681760191971328 : UInt64)) .l) then (1 : Int32) else (0 : Int32))), .val (.int (if (0 : Int32) < (cmpValue (FP.dcmp da (4635681760191971328 : UInt64)) .l) then (1 : Int32) else (0 : Int32))), .val (.int (if (0 : Int32) < (cmpValue (FP.dcmp db (4635681760191971328 : UInt64)) .l) then (1 : Int32) else (0 : Int32))), .unset] [(.int (1 : Int32))])) _
        refine XS.goto X15.here hx rfl (pc0 := 77) (pc' := 81) rfl (hb hby at_77) (by decide) (by decide) ?_
        show Steps p.tables e below (T15.setTop (mkF m 81 #[.val (.int p1), .val (.int p2), .val (.double (4697254411347427328 : UInt64)), .second, .val (.double da), .second, .val (.double db), .second, .val (.double (4635681760191971328 : UInt64)), .second, .val (.double (FP.dadd (4635681760191971328 : UInt64) (FP.ddiv FP.dconst1 (4697254411347427328 : UInt64)))), .second, .val (.int (if (0 : Int32) < (cmpValue (FP.dcmp (4635681760191971328 : UInt64) (4635681760191971328 : UInt64)) .l) then (1 : Int32) else (0 : Int32))), .val (.int (if (0 : Int32) < (cmpValue (FP.dcmp (FP.dadd (4635681760191971328 : UInt64) (FP.ddiv FP.dconst1 (4697254411347427328 : UInt64))) (4635681760191971328 : UInt64)) .l) then (1 : Int32) else (0 : Int32))), .val (.int (if (0 : Int32) < (cmpValue (FP.dcmp da (4635681760191971328 : UInt64)) .l) then (1 : Int32) else (0 : Int32))), .val (.int (if (0 : Int32) < (cmpValue (FP.dcmp db (4635681760191971328 : UInt64)) .l) then (1 : Int32) else (0 : Int32))), .unset] [(.int (1 : Int32))])) _
        exact kt)
  have pre19 : ∀ t, Steps p.tables e below (T15.setTop (mkF m 103 #[.val (.int p1), .val (.int p2), .val (.double (4697254411347427328 : UInt64)), .second, .val (.double da), .second, .val (.double db), .second, .val (.double (4635681760191971328 : UInt64)), .second, .val (.double (FP.dadd (4635681760191971328 : UInt64) (FP.ddiv FP.dconst1 (4697254411347427328 : UInt64)))), .second, .val (.int (if (0 : Int32) < (cmpValue (FP.dcmp (4635681760191971328 : UInt64) (4635681760191971328 : UInt64)) .l) then (1 : Int32) else (0 : Int32))), .val (.int (if (0 : Int32) < (cmpValue (FP.dcmp (FP.dadd (4635681760191971328 : UInt64) (FP.ddiv FP.dconst1 (4697254411347427328 : UInt64))) (4635681760191971328 : UInt64)) .l) then (1 : Int32) else (0 : Int32))), .val (.int (if (0 : Int32) < (cmpValue (FP.dcmp da (4635681760191971328 : UInt64)) .l) then (1 : Int32) else (0 : Int32))), .val (.int (if (0 : Int32) < (cmpValue (FP.dcmp db (4635681760191971328 : UInt64)) .l) then (1 : Int32) else (0 : Int32))), .val (.int (1 : Int32))] [(.int (1 : Int32))])) t → Steps p.tables e below (s₁.setTop (entryFrame m #[(.int p1), (.int p2)] maxLocals)) t := fun t kt => pre18 t (by
    refine XS.istore X15.here hx rfl (hb hby at_81) rfl (l' := #[.val (.int p1), .val (.int p2), .val (.double (4697254411347427328 : UInt64)), .second, .val (.double da), .second, .val (.double db), .second, .val (.double (4635681760191971328 : UInt64)), .second, .val (.double (FP.dadd (4635681760191971328 : UInt64) (FP.ddiv FP.dconst1 (4697254411347427328 : UInt64)))), .second, .val (.int (if (0 : Int32) < (cmpValue (FP.dcmp (4635681760191971328 : UInt64) (4635681760191971328 : UInt64)) .l) then (1 : Int32) else (0 : Int32))), .val (.int (if (0 : Int32) < (cmpValue (FP.dcmp (FP.dadd (4635681760191971328 : UInt64) (FP.ddiv FP.dconst1 (4697254411347427328 : UInt64))) (4635681760191971328 : UInt64)) .l) then (1 : Int32) else (0 : Int32))), .val (.int (if (0 : Int32) < (cmpValue (FP.dcmp da (4635681760191971328 : UInt64)) .l) then (1 : Int32) else (0 : Int32))), .val (.int (if (0 : Int32) < (cmpValue (FP.dcmp db (4635681760191971328 : UInt64)) .l) then (1 : Int32) else (0 : Int32))), .val (.int (1 : Int32))]) rfl ?_
    show Steps p.tables e below (T15.setTop (mkF m 83 #[.val (.int p1), .val (.int p2), .val (.double (4697254411347427328 : UInt64)), .second, .val (.double da), .second, .val (.double db), .second, .val (.double (4635681760191971328 : UInt64)), .second, .val (.double (FP.dadd (4635681760191971328 : UInt64) (FP.ddiv FP.dconst1 (4697254411347427328 : UInt64)))), .second, .val (.int (if (0 : Int32) < (cmpValue (FP.dcmp (4635681760191971328 : UInt64) (4635681760191971328 : UInt64)) .l) then (1 : Int32) else (0 : Int32))), .val (.int (if (0 : Int32) < (cmpValue (FP.dcmp (FP.dadd (4635681760191971328 : UInt64) (FP.ddiv FP.dconst1 (4697254411347427328 : UInt64))) (4635681760191971328 : UInt64)) .l) then (1 : Int32) else (0 : Int32))), .val (.int (if (0 : Int32) < (cmpValue (FP.dcmp da (4635681760191971328 : UInt64)) .l) then (1 : Int32) else (0 : Int32))), .val (.int (if (0 : Int32) < (cmpValue (FP.dcmp db (4635681760191971328 : UInt64)) .l) then (1 : Int32) else (0 : Int32))), .val (.int (1 : Int32))] [])) _
    refine XS.iload X15.here hx rfl (hb hby at_83) rfl ?_
    show Steps p.tables e below (T15.setTop (mkF m 85 #[.val (.int p1), .val (.int p2), .val (.double (4697254411347427328 : UInt64)), .second, .val (.double da), .second, .val (.double db), .second, .val (.double (4635681760191971328 : UInt64)), .second, .val (.double (FP.dadd (4635681760191971328 : UInt64) (FP.ddiv FP.dconst1 (4697254411347427328 : UInt64)))), .second, .val (.int (if (0 : Int32) < (cmpValue (FP.dcmp (4635681760191971328 : UInt64) (4635681760191971328 : UInt64)) .l) then (1 : Int32) else (0 : Int32))), .val (.int (if (0 : Int32) < (cmpValue (FP.dcmp (FP.dadd (4635681760191971328 : UInt64) (FP.ddiv FP.dconst1 (4697254411347427328 : UInt64))) (4635681760191971328 : UInt64)) .l) then (1 : Int32) else (0 : Int32))), .val (.int (if (0 : Int32) < (cmpValue (FP.dcmp da (4635681760191971328 : UInt64)) .l) then (1 : Int32) else (0 : Int32))), .val (.int (if (0 : Int32) < (cmpValue (FP.dcmp db (4635681760191971328 : UInt64)) .l) then (1 : Int32) else (0 : Int32))), .val (.int (1 : Int32))] [(.int (if (0 : Int32) < (cmpValue (FP.dcmp (4635681760191971328 : UInt64) (4635681760191971328 : UInt64)) .l) then (1 : Int32) else (0 : Int32)))])) _
    refine XS.ifNo X15.here hx rfl (hb hby at_85) rfl ((if0 _ _).trans (teq (by decide +kernel : (if (0 : Int32) < (cmpValue (FP.dcmp (4635681760191971328 : UInt64) (4635681760191971328 : UInt64)) .l) then (1 : Int32) else (0 : Int32)) = (0 : Int32))).2) ?_
    show Steps p.tables e below (T15.setTop (mkF m 88 #[.val (.int p1), .val (.int p2), .val (.double (4697254411347427328 : UInt64)), .second, .val (.double da), .second, .val (.double db), .second, .val (.double (4635681760191971328 : UInt64)), .second, .val (.double (FP.dadd (4635681760191971328 : UInt64) (FP.ddiv FP.dconst1 (4697254411347427328 : UInt64)))), .second, .val (.int (if (0 : Int32) < (cmpValue (FP.dcmp (4635681760191971328 : UInt64) (4635681760191971328 : UInt64)) .l) then (1 : Int32) else (0 : Int32))), .val (.int (if (0 : Int32) < (cmpValue (FP.dcmp (FP.dadd (4635681760191971328 : UInt64) (FP.ddiv FP.dconst1 (4697254411347427328 : UInt64))) (4635681760191971328 : UInt64)) .l) then (1 : Int32) else (0 : Int32))), .val (.int (if (0 : Int32) < (cmpValue (FP.dcmp da (4635681760191971328 : UInt64)) .l) then (1 : Int32) else (0 : Int32))), .val (.int (if (0 : Int32) < (cmpValue (FP.dcmp db (4635681760191971328 : UInt64)) .l) then (1 : Int32) else (0 : Int32))), .val (.int (1 : Int32))] [])) _
    refine XS.iload X15.here hx rfl (hb hby at_88) rfl ?_
    show Steps p.tables e below (T15.setTop (mkF m 90 #[.val (.int p1), .val (.int p2), .val (.double (4697254411347427328 : UInt64)), .second, .val (.double da), .second, .val (.double db), .second, .val (.double (4635681760191971328 : UInt64)), .second, .val (.double (FP.dadd (4635681760191971328 : UInt64) (FP.ddiv FP.dconst1 (4697254411347427328 : UInt64)))), .second, .val (.int (if (0 : Int32) < (cmpValue (FP.dcmp (4635681760191971328 : UInt64) (4635681760191971328 : UInt64)) .l) then (1 : Int32) else (0 : Int32))), .val (.int (if (0 : Int32) < (cmpValue (FP.dcmp (FP.dadd (4635681760191971328 : UInt64) (FP.ddiv FP.dconst1 (4697254411347427328 : UInt64))) (4635681760191971328 : UInt64)) .l) then (1 : Int32) else (0 : Int32))), .val (.int (if (0 : Int32) < (cmpValue (FP.dcmp da (4635681760191971328 : UInt64)) .l) then (1 : Int32) else (0 : Int32))), .val (.int (if (0 : Int32) < (cmpValue (FP.dcmp db (4635681760191971328 : UInt64)) .l) then (1 : Int32) else (0 : Int32))), .val (.int (1 : Int32))] [(.int (if (0 : Int32) < (cmpValue (FP.dcmp (FP.dadd (4635681760191971328 : UInt64) (FP.ddiv FP.dconst1 (4697254411347427328 : UInt64))) (4635681760191971328 : UInt64)) .l) then (1 : Int32) else (0 : Int32)))])) _
    refine XS.ifNo X15.here hx rfl (hb hby at_90) rfl ((if0 _ _).trans (feq (by decide +kernel : ¬ ((if (0 : Int32) < (cmpValue (FP.dcmp (FP.dadd (4635681760191971328 : UInt64) (FP.ddiv FP.dconst1 (4697254411347427328 : UInt64))) (4635681760191971328 : UInt64)) .l) then (1 : Int32) else (0 : Int32)) = (0 : Int32)))).1) ?_
    show Steps p.tables e below (T15.setTop (mkF m 93 #[.val (.int p1), .val (.int p2), .val (.double (4697254411347427328 : UInt64)), .second, .val (.double da), .second, .val (.double db), .second, .val (.double (4635681760191971328 : UInt64)), .second, .val (.double (FP.dadd (4635681760191971328 : UInt64) (FP.ddiv FP.dconst1 (4697254411347427328 : UInt64)))), .second, .val (.int (if (0 : Int32) < (cmpValue (FP.dcmp (4635681760191971328 : UInt64) (4635681760191971328 : UInt64)) .l) then (1 : Int32) else (0 : Int32))), .val (.int (if (0 : Int32) < (cmpValue (FP.dcmp (FP.dadd (4635681760191971328 : UInt64) (FP.ddiv FP.dconst1 (4697254411347427328 : UInt64))) (4635681760191971328 : UInt64)) .l) then (1 : Int32) else (0 : Int32))), .val (.int (if (0 : Int32) < (cmpValue (FP.dcmp da (4635681760191971328 : UInt64)) .l) then (1 : Int32) else (0 : Int32))), .val (.int (if (0 : Int32) < (cmpValue (FP.dcmp db (4635681760191971328 : UInt64)) .l) then (1 : Int32) else (0 : Int32))), .val (.int (1 : Int32))] [])) _
    refine XS.iload X15.here hx rfl (hb hby at_93) rfl ?_
    show Steps p.tables e below (T15.setTop (mkF m 95 #[.val (.int p1), .val (.int p2), .val (.double (4697254411347427328 : UInt64)), .second, .val (.double da), .second, .val (.double db), .second, .val (.double (4635681760191971328 : UInt64)), .second, .val (.double (FP.dadd (4635681760191971328 : UInt64) (FP.ddiv FP.dconst1 (4697254411347427328 : UInt64)))), .second, .val (.int (if (0 : Int32) < (cmpValue (FP.dcmp (4635681760191971328 : UInt64) (4635681760191971328 : UInt64)) .l) then (1 : Int32) else (0 : Int32))), .val (.int (if (0 : Int32) < (cmpValue (FP.dcmp (FP.dadd (4635681760191971328 : UInt64) (FP.ddiv FP.dconst1 (4697254411347427328 : UInt64))) (4635681760191971328 : UInt64)) .l) then (1 : Int32) else (0 : Int32))), .val (.int (if (0 : Int32) < (cmpValue (FP.dcmp da (4635681760191971328 : UInt64)) .l) then (1 : Int32) else (0 : Int32))), .val (.int (if (0 : Int32) < (cmpValue (FP.dcmp db (4635681760191971328 : UInt64)) .l) then (1 : Int32) else (0 : Int32))), .val (.int (1 : Int32))] [(.int (1 : Int32))])) _
    refine XS.ifNo X15.here hx rfl (hb hby at_95) rfl ((if0 _ _).trans (feq (by decide : ¬ ((1 : Int32) = (0 : Int32)))).1) ?_
    show Steps p.tables e below (T15.setTop (mkF m 98 #[.val (.int p1), .val (.int p2), .val (.double (4697254411347427328 : UInt64)), .second, .val (.double da), .second, .val (.double db), .second, .val (.double (4635681760191971328 : UInt64)), .second, .val (.double (FP.dadd (4635681760191971328 : UInt64) (FP.ddiv FP.dconst1 (4697254411347427328 : UInt64)))), .second, .val (.int (if (0 : Int32) < (cmpValue (FP.dcmp (4635681760191971328 : UInt64) (4635681760191971328 : UInt64)) .l) then (1 : Int32) else (0 : Int32))), .val (.int (if (0 : Int32) < (cmpValue (FP.dcmp (FP.dadd (4635681760191971328 : UInt64) (FP.ddiv FP.dconst1 (4697254411347427328 : UInt64))) (4635681760191971328 : UInt64)) .l) then (1 : Int32) else (0 : Int32))), .val (.int (if (0 : Int32) < (cmpValue (FP.dcmp da (4635681760191971328 : UInt64)) .l) then (1 : Int32) else (0 : Int32))), .val (.int (if (0 : Int32) < (cmpValue (FP.dcmp db (4635681760191971328 : UInt64)) .l) then (1 : Int32) else (0 : Int32))), .val (.int (1 : Int32))] [])) _
    refine XS.iconst X15.here hx rfl (hb hby at_98) ?_
    show Steps p.tables e below (T15.setTop (mkF m 99 #[.val (.int p1), .val (.int p2), .val (.double (4697254411347427328 : UInt64)), .second, .val (.double da), .second, .val (.double db), .second, .val (.double (4635681760191971328 : UInt64)), .second, .val (.double (FP.dadd (4635681760191971328 : UInt64) (FP.ddiv FP.dconst1 (4697254411347427328 : UInt64)))), .second, .val (.int (if (0 : Int32) < (cmpValue (FP.dcmp (4635681760191971328 : UInt64) (4635681760191971328 : UInt64)) .l) then (1 : Int32) else (0 : Int32))), .val (.int (if (0 : Int32) < (cmpValue (FP.dcmp (FP.dadd (4635681760191971328 : UInt64) (FP.ddiv FP.dconst1 (4697254411347427328 : UInt64))) (4635681760191971328 : UInt64)) .l) then (1 : Int32) else (0 : Int32))), .val (.int (if (0 : Int32) < (cmpValue (FP.dcmp da (4635681760191971328 : UInt64)) .l) then (1 : Int32) else (0 : Int32))), .val (.int (if (0 : Int32) < (cmpValue (FP.dcmp db (4635681760191971328 : UInt64)) .l) then (1 : Int32) else (0 : Int32))), .val (.int (1 : Int32))] [(.int (1 : Int32))])) _
    refine XS.goto X15.here hx rfl (pc0 := 99) (pc' := 103) rfl (hb hby at_99) (by decide) (by decide) ?_
    show Steps p.tables e below (T15.setTop (mkF m 103 #[.val (.int p1), .val (.int p2), .val (.double (4697254411347427328 : UInt64)), .second, .val (.double da), .second, .val (.double db), .second, .val (.double (4635681760191971328 : UInt64)), .second, .val (.double (FP.dadd (4635681760191971328 : UInt64) (FP.ddiv FP.dconst1 (4697254411347427328 : UInt64)))), .second, .val (.int (if (0 : Int32) < (cmpValue (FP.dcmp (4635681760191971328 : UInt64) (4635681760191971328 : UInt64)) .l) then (1 : Int32) else (0 : Int32))), .val (.int (if (0 : Int32) < (cmpValue (FP.dcmp (FP.dadd (4635681760191971328 : UInt64) (FP.ddiv FP.dconst1 (4697254411347427328 : UInt64))) (4635681760191971328 : UInt64)) .l) then (1 : Int32) else (0 : Int32))), .val (.int (if (0 : Int32) < (cmpValue (FP.dcmp da (4635681760191971328 : UInt64)) .l) then (1 : Int32) else (0 : Int32))), .val (.int (if (0 : Int32) < (cmpValue (FP.dcmp db (4635681760191971328 : UInt64)) .l) then (1 : Int32) else (0 : Int32))), .val (.int (1 : Int32))] [(.int (1 : Int32))])) _
    exact kt)
  obtain ⟨fs, hr, hrun, hended, hW, hsame⟩ := X15.leave (v := (some (.int (1 : Int32)))) (fun h => by rw [Bd.returns] at h; cases h)
  refine ⟨_, _, pre19 _ ?_, hrun, hended, _, _, rfl, ?_, ⟨_, rfl⟩, hW, hsame.mono (by decide) (by decide)⟩
  · exact retN X15 hx (t := .boolean) Bd.returns (by simp) (hb hby at_103) hr
  · show Q0 Z  h0 n0 _ T15.heap _
    rw [e15q]
    exact ⟨rfl, N15⟩
set_option maxRecDepth 65536 in
set_option maxHeartbeats 40000000 in
theorem comes_1 {Post : Tables → Env → Array Value → State → Outcome → State → Prop} (hpost : ∀ tb e args s v u, (limb_1_1.after args s (.returned v) u = true ∧ limb_1_2.after args s (.returned v) u = true ∧ True) → FrameEnd s (.returned v) u (Jvm.fieldLocs frame_1_writes args s ++ Jvm.arrayLocs frame_1_arrays args s ++ Jvm.staticLocs frame_1_statics s) 0 0 → Post tb e args s (.returned v) u) :
    ArmFor flags0 classFile x code maxLocals ret World_1 tables_1 room_1 Calls_1 rest_1 Pre_1 Post := by
  intro l hfl _ _ p e ha hc hk s m args below hf hA hF happ hP
  obtain ⟨hcalls, hrest, hpre⟩ := hP
  obtain ⟨-, -, -, hnamed, -, -, -, hat⟩ := (Spec.applies_iff hf).mp happ
  obtain ⟨hg, hn⟩ := and_e (Cond.before_iff.mp (show (Jvm.Cond.and given_1 narrow_1).before args s = true from hpre))
  obtain ⟨gc, ga⟩ := and_e hg
  obtain ⟨g0, r0⟩ := and_e ga
  obtain ⟨w0, w1, rfl⟩ : ∃ w0 w1 : Value, args = #[w0, w1] := by
    have hs : args.size = 2 := by simpa [Cond.value, given_1] using gc
    obtain ⟨L⟩ := args
    match L, hs with
    | [w0, w1], _ => exact ⟨w0, w1, rfl⟩
  have hw := fun d (hd : d ∈ tables_1) => atoms_spec (ws := Jvm.Cond.code x code maxLocals ret :: tables_1) hat d (List.mem_cons_of_mem _ hd)
  have hfit : Fit s := fun {y c} hc i hi => by
    obtain ⟨ha, rfl⟩ := Array.getElem?_eq_some_iff.mp hc
    have q := List.all_eq_true.mp ((Array.all_eq_true_iff_forall_mem.mp hF) _ (Array.getElem_mem ha)) i (List.mem_range.mpr hi)
    simpa [Array.getElem?_eq_getElem hi] using q
  obtain ⟨i0, ei0⟩ := is_v g0
  obtain rfl : w0 = (.int i0) := Option.some.inj ei0
  obtain ⟨i1, ei1⟩ := is_v r0
  obtain rfl : w1 = (.int i1) := Option.some.inj ei1
  obtain ⟨n, o, h1, h2, h3, _, L, rfl, ⟨rfl, N⟩, hq⟩ := rm0 l s _ hw tables_1 i0 i1  s.heap s.heap.size (Nat.le_refl _)  p e ha hc hk s m _ below hf ((Spec.applies_iff_loose hf).mp happ).1 ⟨rfl, State.Warmed39.refl s, rfl⟩ trivial
  refine ⟨n, _, h1, h2, h3, hpost _ _ _ _ _ _ ⟨Cond.after_iff.mpr rfl, Cond.after_iff.mpr (eq_i res_at (Term.int_eval (1)) rfl), trivial⟩ ⟨hq.1, hq.2.1, (hq.2.2.sift fun y hy => Or.inr (N y hy)).mono (by decide) (by decide)⟩⟩
theorem main_1_1 : Claimed_1_1 := comes_1 fun _ _ _ _ _ _ h hF => ⟨h.1, hF⟩
theorem main_1_2 : Claimed_1_2 := comes_1 fun _ _ _ _ _ _ h hF => ⟨h.2.1, hF⟩
end Jvm.Pilot.@@N@@
namespace Jvm.Pilot.@@N@@
open Jvm Jvm.ClassFile Sem Op Lib Jvm.Free Jvm.Stand Jvm.Pilot.@@N@@.Jvm.D
/-! MADE BY PROGRAM (witnessworld.py) out of the Statement's table words and the real class files: 9 classes; the members and pool entries that the words name. The judged class is class 1, her method 1. -/
namespace start1
open Jvm.ClassFile
def u (s : String) : CpInfo := .utf8 (stringToUtf16 s)
/-- a pool by its gaps: so many unusable entries, then the entry; so many at the end -/
def gap : Nat → List CpInfo → List CpInfo
  | 0, r => r
  | n + 1, r => .unusable :: gap n r
def poolList (es : List (Nat × CpInfo)) (last : Nat) : List CpInfo := es.foldr (fun e r => gap e.1 (e.2 :: r)) (gap last [])
def pool (es : List (Nat × CpInfo)) (last : Nat) : Array CpInfo := ⟨poolList es last⟩
def fileOf (pool : Array CpInfo) (this : Nat) (attrs : Array Attribute := #[]) (ms : Array MethodInfo := #[]) (fl : Nat := 33) (sup : Nat := 0) (ifs : Array Nat := #[]) (fds : Array FieldInfo := #[]) : ClassFile where
  minorVersion := 0
  majorVersion := 65
  constantPool := pool
  accessFlags := fl
  thisClass := this
  superClass := sup
  interfaces := ifs
  fields := fds
  methods := ms
  attributes := attrs
def plain (name : String) (sup : Option ClassId) : Class where
  name := name
  kind := .ordinary
  loader := none
  accessFlags := 33
  super := sup
  interfaces := #[]
  cf := none
  fields := #[]
  methods := #[]
  instanceTypes := #[]
  staticTypes := #[]
  resolved := #[]
  callSites := []
  init := .initialized
  statics := none
  mirror := none

def pool0 : Array CpInfo := pool [(5, u "<init>"), (0, u "()V"), (1, .class_ 10), (1, u "java/lang/Object")] 113

def k0m0 : Method := { name := "<init>", desc := "()V", sig := { parameters := [], returnType := none }, accessFlags := 1, code := none }
/-- java/lang/Object -/
def k0 : Class := { plain "java/lang/Object" none with
  accessFlags := 33
  interfaces := #[]
  cf := some (fileOf pool0 8 #[] #[{ accessFlags := 1, nameIndex := 5, descriptorIndex := 6, attributes := #[] }] 33 0 #[] #[])
  fields := #[]
  methods := #[k0m0]
  instanceTypes := #[]
  staticTypes := #[]
  resolved := Array.replicate 124 none
  statics := none }

def pool1 : Array CpInfo := pool [(2, .class_ 4), (1, u "java/lang/Object"), (0, u "<init>"), (0, u "()V"), (0, .double 4697254411347427328), (1, .double 4635681760191971328), (1, .methodref 12 13), (0, .class_ 14), (0, .nameAndType 15 16), (0, u "com/example/calm_balancer/calmbalancer/Overload"), (0, u "isOverloaded"), (0, u "(D)Z"), (0, .class_ 18), (0, u "com/example/calm_balancer/calmbalancer/OverloadIsOverloadedPinLaw"), (2, u "law"), (0, u "(II)Z")] 3

def k1m0 : Method := { name := "<init>", desc := "()V", sig := { parameters := [], returnType := none }, accessFlags := 2, code := none }
def k1c1 : Code := { maxStack := 6, maxLocals := 17, code := code, exceptionTable := #[], attributes := #[] }
def k1m1 : Method := { name := "law", desc := "(II)Z", sig := { parameters := [.int, .int], returnType := some .boolean }, accessFlags := 9, code := some k1c1 }
/-- com/example/calm_balancer/calmbalancer/OverloadIsOverloadedPinLaw -/
def k1 : Class := { plain "com/example/calm_balancer/calmbalancer/OverloadIsOverloadedPinLaw" (some 0) with
  accessFlags := 49
  interfaces := #[]
  cf := some (fileOf pool1 17 #[] #[{ accessFlags := 2, nameIndex := 5, descriptorIndex := 6, attributes := #[] }, { accessFlags := 9, nameIndex := 21, descriptorIndex := 22, attributes := #[] }] 49 2 #[] #[])
  fields := #[]
  methods := #[k1m0, k1m1]
  instanceTypes := #[]
  staticTypes := #[]
  resolved := Array.replicate 26 none
  statics := none }

def pool2 : Array CpInfo := pool [(2, .class_ 4), (1, u "java/lang/Object"), (0, u "<init>"), (0, u "()V"), (0, .class_ 8), (0, u "com/example/calm_balancer/calmbalancer/Overload"), (0, .double 4635681760191971328), (1, u "THRESHOLD"), (0, u "D"), (3, u "isOverloaded"), (0, u "(D)Z")] 3

def k2m0 : Method := { name := "<init>", desc := "()V", sig := { parameters := [], returnType := none }, accessFlags := 2, code := none }
def k2c1 : Code := { maxStack := 4, maxLocals := 2, code := prog_18_method_2_code, exceptionTable := #[], attributes := #[] }
def k2m1 : Method := { name := "isOverloaded", desc := "(D)Z", sig := { parameters := [.double], returnType := some .boolean }, accessFlags := 8, code := some k2c1 }
/-- com/example/calm_balancer/calmbalancer/Overload -/
def k2 : Class := { plain "com/example/calm_balancer/calmbalancer/Overload" (some 0) with
  accessFlags := 32
  interfaces := #[]
  cf := some (fileOf pool2 7 #[] #[{ accessFlags := 2, nameIndex := 5, descriptorIndex := 6, attributes := #[] }, { accessFlags := 8, nameIndex := 16, descriptorIndex := 17, attributes := #[] }] 32 2 #[] #[{ accessFlags := 26, nameIndex := 11, descriptorIndex := 12, attributes := #[] }])
  fields := #[{ name := "THRESHOLD", type := .double, accessFlags := 26, slot := 0, constantValue := 0 }]
  methods := #[k2m0, k2m1]
  instanceTypes := #[]
  staticTypes := #[.double]
  resolved := Array.replicate 21 none
  statics := none }

def pool3 : Array CpInfo := pool [(1, u "java/lang/Cloneable"), (0, .class_ 1), (0, u "java/lang/Object"), (0, .class_ 3)] 3

/-- java/lang/Cloneable -/
def k3 : Class := { plain "java/lang/Cloneable" (some 0) with
  accessFlags := 1537
  interfaces := #[]
  cf := some (fileOf pool3 2 #[] #[] 1537 4 #[] #[])
  fields := #[]
  methods := #[]
  instanceTypes := #[]
  staticTypes := #[]
  resolved := Array.replicate 8 none
  statics := none }

def pool4 : Array CpInfo := pool [(1, u "java/io/Serializable"), (0, .class_ 1), (0, u "java/lang/Object"), (0, .class_ 3)] 3

/-- java/io/Serializable -/
def k4 : Class := { plain "java/io/Serializable" (some 0) with
  accessFlags := 1537
  interfaces := #[]
  cf := some (fileOf pool4 2 #[] #[] 1537 4 #[] #[])
  fields := #[]
  methods := #[]
  instanceTypes := #[]
  staticTypes := #[]
  resolved := Array.replicate 8 none
  statics := none }

/-- the primitive byte -/
def k5 : Class := { plain "byte" none with kind := .primitive 'B', accessFlags := 0x411 }
/-- [B -/
def k6 : Class := { plain "[B" (some 0) with kind := .array 5 .byte, interfaces := #[3, 4], accessFlags := 1041 }

/-- the primitive int -/
def k7 : Class := { plain "int" none with kind := .primitive 'I', accessFlags := 0x411 }
/-- [I -/
def k8 : Class := { plain "[I" (some 0) with kind := .array 7 .int, interfaces := #[3, 4], accessFlags := 1041 }

def heap : Heap := #[]
def classes : Array Class := #[k0, k1, k2, k3, k4, k5, k6, k7, k8]
def interned : List (Array UInt16 × Addr) := []
def slotsUsed : Nat := 0
def theMethod : MethodId := ⟨1, 1⟩
def args0 : Array Value := #[.int 5, .int 9]
def aboutOver (below : List Frame) : State where
  vm := { classes := classes, interned := interned.toArray }
  heap := heap
  slotsUsed := slotsUsed
  threads := #[{ frames := .invoking theMethod args0 :: below }]
def below0 : List Frame := [.native { method := ⟨0, 0⟩, args := #[] }]
def about1 : State := aboutOver below0
def p0 : Program := .bare "" "" ""
def e0 : Env := launch0.env 0 0 0
theorem w_frames : about1.frames = Frame.invoking theMethod args0 :: below0 := rfl
set_option maxRecDepth 65536 in
theorem w_args : argsFit about1.vm theMethod args0 = true := by decide +kernel
set_option maxRecDepth 65536 in
theorem w_heap : heapFits about1 = true := by decide +kernel
set_option maxRecDepth 65536 in
theorem w_runnable : about1.curStatus? = some .runnable := by decide +kernel
set_option maxRecDepth 65536 in
theorem w_alone : about1.alone = true := by decide +kernel
set_option maxRecDepth 65536 in
theorem w_named : about1.methodNamed? x = some theMethod := by decide +kernel
set_option maxRecDepth 65536 in
theorem w_hears : about1.hears theMethod below0 = true := by decide +kernel
set_option maxRecDepth 65536 in
theorem w_ripe : about1.ripe theMethod args0 below0 = true := by decide +kernel
theorem w_running : about1.status = .running := rfl
set_option maxRecDepth 65536 in
theorem w_room : about1.hasRoom e0.platform room_1 = true :=
  launch0.hasRoom_least _ room_1 (by decide +kernel) (by decide +kernel) (by decide +kernel) (by decide +kernel) (by decide +kernel) (by decide +kernel)
theorem allAtoms_all (ts : List Jvm.Cond) (a : Array Jvm.Value) (st : Jvm.State) : (allAtoms ts).before a st = ts.all (fun c => c.before a st) := by
  induction ts with
  | nil => rfl
  | cons c t ih =>
    show (Jvm.Cond.and c (allAtoms t)).before a st = _
    rw [Jvm.Cond.before_and, ih, List.all_cons]
def words1 : List Jvm.Cond := Jvm.Cond.code x code maxLocals ret :: tables_1
/-- a 'code' word, met by the world's own term for the bytes: nothing is compared byte by byte -/
theorem code_word {y : MethodName} {bytes : ByteArray} {mx : Nat} {rt : Option FieldType} {a : Array Value} {s : State} {m : MethodId} {meth : Method} {c : Code} (h1 : s.methodNamed? y = some m) (h2 : s.vm.method? m = some meth) (h3 : meth.code = some c) (h4 : c.code = bytes)
    (h5 : (c.maxLocals == mx && c.exceptionTable.isEmpty && decide (c.maxStack ≤ mostOperands) && decide (meth.sig.returnType = rt) && !meth.locks && decide (parseMethodDescriptor y.desc = some meth.sig)) = true) : (Jvm.Cond.code y bytes mx rt).before a s = true := by
  simp only [Bool.and_eq_true, beq_iff_eq, Bool.not_eq_true', decide_eq_true_eq] at h5
  obtain ⟨⟨⟨⟨⟨g1, g2⟩, g3⟩, g4⟩, g5⟩, g6⟩ := h5
  simp [Cond.before, Cond.holds, Cond.value, h1, h2, h3, h4, g1, g2, g3, g4, g5, g6]
def isCode : Jvm.Cond → Bool
  | .code _ _ _ _ => true
  | _ => false
theorem all_split {L : List Jvm.Cond} {P : Jvm.Cond → Bool} (h1 : L.all (fun c => isCode c || P c) = true) (h2 : ∀ c ∈ L.filter isCode, P c = true) : L.all P = true := by
  refine List.all_eq_true.mpr fun c hc => ?_
  have h := List.all_eq_true.mp h1 c hc
  rcases Bool.eq_false_or_eq_true (isCode c) with hi | hi
  · exact h2 c (List.mem_filter.mpr ⟨hc, hi⟩)
  · simpa [hi] using h
set_option maxRecDepth 65536 in
theorem w_c0 : (Jvm.Cond.code x code maxLocals ret).before args0 about1 = true := code_word (m := ⟨1, 1⟩) (meth := k1m1) (c := k1c1) (by decide +kernel) rfl rfl rfl (by decide +kernel)
set_option maxRecDepth 65536 in
theorem w_c1 : (Jvm.Cond.code ({ cls := "com/example/calm_balancer/calmbalancer/Overload", name := "isOverloaded", desc := "(D)Z" } : Jvm.MethodName) prog_18_method_2_code (2 : Nat) (Option.some Jvm.ClassFile.FieldType.boolean)).before args0 about1 = true := code_word (m := ⟨2, 1⟩) (meth := k2m1) (c := k2c1) (by decide +kernel) rfl rfl rfl (by decide +kernel)
def codes1 : List Jvm.Cond := [Jvm.Cond.code x code maxLocals ret, Jvm.Cond.code ({ cls := "com/example/calm_balancer/calmbalancer/Overload", name := "isOverloaded", desc := "(D)Z" } : Jvm.MethodName) prog_18_method_2_code (2 : Nat) (Option.some Jvm.ClassFile.FieldType.boolean)]
set_option maxRecDepth 65536 in
theorem codes_eq : words1.filter isCode = codes1 := rfl
theorem w_codes : ∀ c ∈ words1.filter isCode, c.before args0 about1 = true := by
  rw [codes_eq]
  intro c hc
  simp only [codes1, List.mem_cons, List.not_mem_nil, or_false] at hc
  rcases hc with rfl | rfl
  · exact w_c0
  · exact w_c1
set_option maxRecDepth 65536 in
theorem w_t1 : words1.all (fun c => isCode c || c.before args0 about1) = true := by decide +kernel
theorem w_tables : (allAtoms (Jvm.Cond.code x code maxLocals ret :: tables_1)).before args0 about1 = true := by
  rw [allAtoms_all]
  show words1.all (fun c => c.before args0 about1) = true
  refine all_split ?_ w_codes
  rw [w_t1]
set_option maxRecDepth 65536 in
theorem w_case : (Jvm.Cond.and given_1 narrow_1).before args0 about1 = true := by decide +kernel
theorem w_applies : (headSpec (Jvm.Cond.code x code maxLocals ret :: tables_1) room_1).applies x e0.platform about1 = true :=
  (Spec.applies_iff w_frames).mpr ⟨w_running, w_runnable, w_alone, w_named, w_hears, w_ripe, w_room, w_tables⟩
theorem atStart : AtStart classFile x code maxLocals ret World_1 tables_1 room_1 Calls_1 rest_1 Pre_1 launch0 p0 e0 about1 theMethod args0 below0 :=
  ⟨lists_1, trivial, launch0.admits_env _ _ _, launch0.least_env, fairChoices_fair.cas, fairChoices_fair.clock, w_frames, w_args, w_heap, w_applies, trivial, trivial, w_case⟩
end start1
theorem witness_1 : WitnessClaimed_1 := ⟨start1.p0, start1.e0, start1.about1, start1.theMethod, start1.args0, start1.below0, start1.atStart⟩
end Jvm.Pilot.@@N@@
