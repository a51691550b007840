import JvmDerived
import JvmDerived.Pilot.@@N@@Statement
import JvmDerived.Pilot.@@N@@Code
set_option linter.unusedVariables false
set_option linter.unusedSimpArgs false
namespace Jvm.RoadKit
open Sem ClassFile Op Lib Jvm.Stand Jvm.Free Jvm.LawKit
section New
variable {p : Program} {l : Launch} {e : Env} {R : Room} {s : State} {m : MethodId} {args : Array Value} {below : List Frame} {meth : Method} {c : Code} {T : State} {locs : List Loc} {cells slots : Nat}
theorem retI (X : Stand p l e R s m args below meth c T locs cells slots) (hx : p.tables.exec = Jvm.exec) {pc : Nat} {Ls : Array Slot} {z : Int32} {rest : List Value} (hret : meth.sig.returnType = some .int) (hd : decode c.code pc = .ok (.ireturn, 1)) {fs : List Frame}
    (hl : ∀ (f : JFrame) (acts : List Action), f.method = m → f.locked = none → f.entered = [] → (doReturn e (T.setTop f) acts (some (.int z))).1 = T.setFrames fs) : Steps p.tables e below (T.setTop (mkF m pc Ls (.int z :: rest))) (T.setFrames fs) := by
  have hm' : T.vm.method? m = some meth := X.method'
  have hn : narrow .int (.int z) = .int z := rfl
  show Steps p.tables e below (T.setTop { method := m, pc := pc, locals := Ls, stack := _ :: rest, locked := none }) _
  jvm_step X.here [X.here.top, hx, hd, hm', hret, hn]
  first | (intro acts; rw [hl _ acts rfl rfl rfl]) | rw [hl _ _ rfl rfl rfl]
  exact Steps.refl _
theorem own_lremM {g : JFrame} {target : State} (X : Stand p l e R s m args below meth c T locs cells slots) (hx : p.tables.exec = Jvm.exec) (hg : g.method = m) {x y : Int64} {rest : List Value} (hd : decode c.code g.pc = .ok (.lrem, 1)) (hs : g.stack = .long y :: .long x :: rest) (hy : y ≠ 0)
    (hr : Steps p.tables e below (T.setTop { g with pc := g.pc + 1, stack := .long (x % y) :: rest }) target) : Steps p.tables e below (T.setTop g) target := by
  have q : x - (x / y) * y = x % y := lrem_mod x y
  exact XS.lrem X.here hx hg hd hs hy (by rw [q]; exact hr)
end New
end Jvm.RoadKit
namespace Jvm.Pilot.@@N@@
open Jvm Jvm.ClassFile Sem Op Lib Jvm.Free Jvm.Stand Jvm.LawKit Jvm.RoadKit Bundle Jvm.Pilot.@@N@@.Jvm.D
theorem own_notin0 {a : Addr} : a ∉ ([] : List Addr) := fun q => nomatch q
theorem own_notin1 {a b : Addr} (h : a ≠ b) : a ∉ [b] := fun q => h (List.mem_singleton.mp q)
theorem own_narb {x : Int32} (h : x = 0 ∨ x = 1) : nar .boolean x = x := by rcases h with rfl | rfl <;> rfl
theorem own_all0 {P : Addr → Prop} : ∀ x ∈ ([] : List Addr), P x := fun _ q => nomatch q
theorem own_all1 {P : Addr → Prop} {a : Addr} (h : P a) : ∀ x ∈ [a], P x := fun x q => by cases List.mem_singleton.mp q; exact h
def Lg (Z : State) (h : Heap) (a : Addr) (xs : List Int64) : Prop := ∃ cl : Cell, Arr Z h a cl .long ∧ cl.slots.size = xs.length ∧ xs.length ≤ 4 ∧ ∀ (j : Nat) (x : Int64), xs[j]? = some x → cl.slots[j]? = some (.long x)
theorem Lg.ext {Z : State} {h h' : Heap} {a : Addr} {xs : List Int64} (F : Lg Z h a xs) (E : Ext h h') : Lg Z h' a xs := by obtain ⟨cl, A, r⟩ := F; exact ⟨cl, A.ext E, r⟩
theorem Lg.keep {Z : State} {h h' : Heap} {a : Addr} {xs : List Int64} {ws : List Addr} (F : Lg Z h a xs) (K : Keep h h' ws) (q : a ∉ ws) : Lg Z h' a xs := by obtain ⟨cl, A, r⟩ := F; exact ⟨cl, ⟨K.2.1 a cl A.1 q, A.2⟩, r⟩
theorem Lg.lt {Z : State} {h : Heap} {a : Addr} {xs : List Int64} (F : Lg Z h a xs) : a < h.size := by obtain ⟨cl, A, r⟩ := F; exact A.lt
theorem own_lg {Z : State} {h : Heap} {a : Addr} {k : ClassId} {n : Int32} {xs : List Int64} {d : Value} (V : Arv Z h a k .long n (xs.map Value.long) d) (q : n.toNatClampNeg = xs.length) (b : xs.length ≤ 4) : Lg Z h a xs := by
  obtain ⟨cl, A, -, S, -, H, -⟩ := V
  refine ⟨cl, A, by rw [S, q], b, fun j x hj => ?_⟩
  have hl : j < xs.length := (List.getElem?_eq_some_iff.mp hj).1
  rw [H j (by rw [S, q]; exact hl)]
  simp [List.getD_eq_getElem?_getD, hj]
def hdE {α : Type} (eq : α → α → Bool) (x : α) : List α → Bool
  | [] => false
  | y :: _ => eq y x
def wfG {α : Type} (lt eq : α → α → Bool) : List α → List α → Bool → Bool
  | [], _, b => b
  | x :: u, ys, b => if b then wfG lt eq u (ys.dropWhile (fun y => lt y x)) (hdE eq x (ys.dropWhile (fun y => lt y x))) else false
def wf (xs ys : List Int64) (b : Bool) : Bool := wfG (fun a b => decide (a < b)) (fun a b => decide (a = b)) xs ys b
def b2i (b : Bool) : Int32 := if b then 1 else 0
theorem own_b01 (b : Bool) : b2i b = 0 ∨ b2i b = 1 := by cases b <;> simp [b2i]
theorem wfG_map {α β : Type} (lt eq : β → β → Bool) (f : α → β) : ∀ (xs ys : List α) (b : Bool), wfG lt eq (xs.map f) (ys.map f) b = wfG (fun a b => lt (f a) (f b)) (fun a b => eq (f a) (f b)) xs ys b
  | [], _, _ => rfl
  | x :: u, ys, b => by
    have e : (ys.map f).dropWhile (fun y => lt y (f x)) = (ys.dropWhile (fun y => lt (f y) (f x))).map f := by rw [List.dropWhile_map]; rfl
    simp only [List.map_cons, wfG, e]
    rw [wfG_map lt eq f u]
    cases ys.dropWhile (fun y => lt (f y) (f x)) <;> rfl
def pk (M : Nat) : List (Fin 4) := (if M % 2 = 1 then [0] else []) ++ (if M / 2 % 2 = 1 then [1] else []) ++ (if M / 4 % 2 = 1 then [2] else []) ++ (if M / 8 % 2 = 1 then [3] else [])
def Vf (v0 v1 v2 v3 : Int64) : Fin 4 → Int64
  | 0 => v0
  | 1 => v1
  | 2 => v2
  | 3 => v3
theorem own_all : ∀ (M N : Fin 16) (t : Bool), wfG (fun a b : Fin 4 => decide (a < b)) (fun a b : Fin 4 => decide (a = b)) (pk M.val) (pk N.val) (t && decide ((pk M.val).length ≤ (pk N.val).length)) = (t && decide ((Int32.ofNat M.val &&& (Int32.ofNat N.val ^^^ (-1 : Int32))) = (0 : Int32))) := by decide +kernel
theorem own_fin (v0 v1 v2 v3 : Int64) (h01 : v0.toInt < v1.toInt) (h12 : v1.toInt < v2.toInt) (h23 : v2.toInt < v3.toInt) (M N : Fin 16) (t1 t2 : Int32) :
    b2i (wf ((pk M.val).map (Vf v0 v1 v2 v3)) ((pk N.val).map (Vf v0 v1 v2 v3)) (decide (t1 = t2) && decide (((pk M.val).map (Vf v0 v1 v2 v3)).length ≤ ((pk N.val).map (Vf v0 v1 v2 v3)).length))) = (if t1 = t2 then (if (Int32.ofNat M.val &&& (Int32.ofNat N.val ^^^ (-1 : Int32))) = (0 : Int32) then (1 : Int32) else (0 : Int32)) else (0 : Int32)) := by
  have e1 : (fun a b : Fin 4 => decide (Vf v0 v1 v2 v3 a < Vf v0 v1 v2 v3 b)) = (fun a b : Fin 4 => decide (a < b)) := by
    funext a b
    congr 1
    rw [Int64.lt_iff_toInt_lt]
    match a, b with
    | 0, 0 | 0, 1 | 0, 2 | 0, 3 | 1, 0 | 1, 1 | 1, 2 | 1, 3 | 2, 0 | 2, 1 | 2, 2 | 2, 3 | 3, 0 | 3, 1 | 3, 2 | 3, 3 => simp [Vf]; try omega
  have e2 : (fun a b : Fin 4 => decide (Vf v0 v1 v2 v3 a = Vf v0 v1 v2 v3 b)) = (fun a b : Fin 4 => decide (a = b)) := by
    funext a b
    congr 1
    rw [← Int64.toInt_inj]
    match a, b with
    | 0, 0 | 0, 1 | 0, 2 | 0, 3 | 1, 0 | 1, 1 | 1, 2 | 1, 3 | 2, 0 | 2, 1 | 2, 2 | 2, 3 | 3, 0 | 3, 1 | 3, 2 | 3, 3 => simp [Vf]; try omega
  rw [wf, wfG_map, e1, e2, List.length_map, List.length_map, own_all]
  by_cases q : t1 = t2 <;> by_cases r : (Int32.ofNat M.val &&& (Int32.ofNat N.val ^^^ (-1 : Int32))) = (0 : Int32) <;> simp [q, r, b2i]
theorem own_m16 (x y : Int32) (h : y = (x &&& (15 : Int32))) : ∃ M : Fin 16, y = Int32.ofNat M.val := by
  have a := c_mask x 15 4 (by decide) (by decide)
  have p : ((2 ^ 4 : Nat) : Int) = 16 := by decide
  rw [p, ← h] at a
  refine ⟨⟨y.toInt.toNat, by omega⟩, ?_⟩
  rw [← Int32.toInt_inj, Int32.toInt_ofNat_of_lt (by show y.toInt.toNat < _; omega)]
  show y.toInt = ((y.toInt.toNat : Nat) : Int); omega
theorem own_step (v g w : Int64) (B : Int) (h0 : -2305843009213693952 ≤ v.toInt) (h1 : v.toInt ≤ B) (hB : B ≤ 6000000000000000000) (h : w = ((v + (1 : Int64)) + ((g.toUInt64 >>> ((4 : Int32) &&& 0x3f).toInt64.toUInt64).toInt64))) : v.toInt < w.toInt ∧ w.toInt ≤ B + 1152921504606846977 := by
  have u := c_lushr g (4 : Int32) 4 (by decide) (by decide)
  have p : ((2 ^ 4 : Nat) : Int) = 16 := by decide
  rw [p] at u
  have s1 := c_ladd v 1
  have s2 := c_ladd (v + 1) ((g.toUInt64 >>> ((4 : Int32) &&& 0x3f).toInt64.toUInt64).toInt64)
  rw [← h] at s2
  have e1 : (1 : Int64).toInt = 1 := rfl
  have r1 := rng64 (v + 1)
  have r2 := rng64 w
  have m1 := Int.emod_nonneg g.toInt (b := 18446744073709551616) (by decide)
  have m2 := Int.emod_lt_of_pos g.toInt (b := 18446744073709551616) (by decide)
  generalize g.toInt % 18446744073709551616 = z at *
  omega
theorem own_v0 (a v : Int64) (h : v = (a >>> ((2 : Int32) &&& 0x3f).toInt64)) : -2305843009213693952 ≤ v.toInt ∧ v.toInt ≤ 2305843009213693951 := by
  have u := c_lshr a (2 : Int32) 2 (by decide)
  rw [h, u]
  have p : ((2 ^ 2 : Nat) : Int) = 4 := by decide
  rw [p]
  have r := rng64 a
  omega
theorem own_lt {i n : Nat} (h : i < n) (hn : n ≤ 4) : Int32.ofNat i < Int32.ofNat n := by
  rw [Int32.lt_iff_toInt_lt, Int32.toInt_ofNat_of_lt (by omega), Int32.toInt_ofNat_of_lt (by omega)]; omega
theorem own_nlt {i n : Nat} (h : n ≤ i) (hn : i ≤ 4) : ¬ Int32.ofNat i < Int32.ofNat n := by
  rw [Int32.lt_iff_toInt_lt, Int32.toInt_ofNat_of_lt (by omega), Int32.toInt_ofNat_of_lt (by omega)]; omega
theorem own_n32 {n : Nat} (hn : n ≤ 4) : (Int32.ofNat n).toNatClampNeg = n := by
  simp only [Int32.toNatClampNeg, Int32.toInt_ofNat_of_lt (show n < 2 ^ 31 by omega)]; rfl
theorem own_one (i : Nat) : Int32.ofNat i + (1 : Int32) = Int32.ofNat (i + 1) := (Int32.ofNat_add i 1).symm
theorem own_in {cl : Cell} {xs : List Int64} {j : Nat} {x : Int64} (S : cl.slots.size = xs.length) (b : xs.length ≤ 4) (h : xs[j]? = some x) : ¬ (Int32.ofNat j < 0 ∨ cl.slots.size ≤ (Int32.ofNat j).toNatClampNeg) := by
  have hl : j < xs.length := (List.getElem?_eq_some_iff.mp h).1
  rw [own_n32 (by omega), S, Int32.lt_iff_toInt_lt, Int32.toInt_ofNat_of_lt (by omega)]
  have e0 : (0 : Int32).toInt = 0 := rfl
  omega
theorem own_at {cl : Cell} {xs : List Int64} {j : Nat} {x : Int64} (H : ∀ (j : Nat) (x : Int64), xs[j]? = some x → cl.slots[j]? = some (.long x)) (b : xs.length ≤ 4) (h : xs[j]? = some x) : cl.slots[(Int32.ofNat j).toNatClampNeg]? = some (.long x) := by
  have hl : j < xs.length := (List.getElem?_eq_some_iff.mp h).1
  rw [own_n32 (by omega)]; exact H j x h
def QR (Z : State) (a1 : Addr) (h0 : Heap) (n0 : Nat) (v : Option Value) (h : Heap) (L : List Loc) : Prop := v = none ∧ Fr n0 L ∧ h = h0
theorem ef_rmR (m : MethodId) (x0 : Addr) : entryFrame m #[(.ref x0)] 1 = mkF m 0 #[.val (.ref x0)] [] := by first | (simp [entryFrame, mkF, argsToLocals, Value.category]; done) | rfl
theorem pn_java_lang_Record : plainName "java/lang/Record" = true := by first | (simp [plainName, overriddenIn]; done) | decide +kernel
theorem d3_0 : decode jdk_30_method_1_code 0 = .ok (.aload_n 0, 1) := by decide +kernel
theorem d3_1 : decode jdk_30_method_1_code 1 = .ok (.invokespecial 1, 3) := by decide +kernel
theorem d3_4 : decode jdk_30_method_1_code 4 = .ok (.return_, 1) := by decide +kernel
set_option maxRecDepth 65536 in
set_option maxHeartbeats 40000000 in
theorem rmR (l : Launch) (Z : State) (a0 : Array Value) (hw : ∀ d ∈ tables_1, d.before a0 Z = true) (ws : List Jvm.Cond) (a1 : Addr) (h0 : Heap) (n0 : Nat) (Z0 : n0 ≤ h0.size)  :
    MetFree l (⟨"java/lang/Record", "<init>", "()V"⟩ : MethodName) (head1 (Jvm.Cond.code (⟨"java/lang/Record", "<init>", "()V"⟩ : MethodName) jdk_30_method_1_code 1 none :: ws) ({ frames := 1, cells := 0, slots := 0, locals := 12 } : Room)) (fun a U => a = #[(.ref a1)] ∧ Z.Warmed39 U.vm ∧ U.heap = h0) (fun _ _ _ _ _ => True) (fun _ U o U' => ∃ v L, o = .returned v ∧ QR Z a1 h0 n0 v U'.heap L ∧ FrameEnd U o U' L ({ frames := 1, cells := 0, slots := 0, locals := 12 } : Room).cells ({ frames := 1, cells := 0, slots := 0, locals := 12 } : Room).slots) := by
  refine MetFree.of_bodySF (plainFor_of_name pn_java_lang_Record) hisR ?_
  intro p e s m args below meth c s₁ Bd hml0 hP hK
  obtain ⟨rfl, hZ, hh⟩ := hP
  have hx := Bd.exec
  have hby := Bd.bytes
  have hml : c.maxLocals = 1 := hml0
  have hown : s.vm.findClass "java/lang/Record" = some m.cls := findClass_of_methodNamed Bd.named
  have hnm := (name_of_methodNamed Bd.named Bd.method).1
  have X0 : Stand p l e ({ frames := 1, cells := 0, slots := 0, locals := 12 } : Room) s m #[(.ref a1)] below meth c s₁ [] 0 0 := Stand.of_body Bd
  have e0 : s₁.heap = h0 := by rw [← hh, Bd.state]; rfl
  have N0 := Fr.nil n0
  have pre0 : ∀ t, Steps p.tables e below (s₁.setTop (mkF m 0 #[.val (.ref a1)] [])) t → Steps p.tables e below (s₁.setTop (entryFrame m #[(.ref a1)] 1)) t := fun t kt => castTop (ef_rmR m a1) kt
  have pre1 : ∀ t, Steps p.tables e below (s₁.setTop (mkF m 1 #[.val (.ref a1)] [(.ref a1)])) t → Steps p.tables e below (s₁.setTop (entryFrame m #[(.ref a1)] 1)) t := fun t kt => pre0 t (by
    refine XS.aloadN X0.here hx rfl (hb hby d3_0) rfl rfl ?_
    show Steps p.tables e below (s₁.setTop (mkF m 1 #[.val (.ref a1)] [(.ref a1)])) _
    exact kt)
  obtain ⟨T2, X2, e2, st2⟩ := initO X0 hx hZ hown (hw _ (List.mem_of_getElem? (i := 16) rfl)) (hw _ (List.mem_of_getElem? (i := 17) rfl)) (hw _ (List.mem_of_getElem? (i := 18) rfl)) e0 (g := (mkF m 1 #[.val (.ref a1)] [(.ref a1)])) rfl (by rw [hml]; rfl) rfl (hb hby d3_1) (by decide) (W := 0) (by show 2 * 0 + _ ≤ _; exact Nat.le_of_eq rfl) (by decide)
  have pre3 : ∀ t, Steps p.tables e below (T2.setTop (mkF m 4 #[.val (.ref a1)] [])) t → Steps p.tables e below (s₁.setTop (entryFrame m #[(.ref a1)] 1)) t := fun t kt => pre1 t (st2 _ kt)
  obtain ⟨fs, hr, hrun, hended, hW, hsame⟩ := X2.leave (v := none) (fun _ => rfl)
  refine ⟨_, _, pre3 _ ?_, hrun, hended, _, _, rfl, ?_, ⟨_, rfl⟩, hW, hsame.mono (by decide) (by decide)⟩
  · exact X2.returnOut hx Bd.returns (hb hby d3_4) hr
  · show QR Z a1 h0 n0 _ T2.heap _
    rw [e2]
    exact ⟨rfl, N0, rfl⟩
def QI (Z : State) (a1 : Addr) (z : Int32) (x1 : Addr) (h0 : Heap) (n0 : Nat) (v : Option Value) (h : Heap) (L : List Loc) : Prop := v = none ∧ Fr n0 L ∧ Keep h0 h [a1] ∧ Exa Z h a1 "com/example/nest3/nest3/Determinization$Subset" ∧ Fld Z h a1 "com/example/nest3/nest3/Determinization$Subset" "top" "Z" (.int z) ∧ Fld Z h a1 "com/example/nest3/nest3/Determinization$Subset" "pairs" "[J" (.ref x1)
theorem ef_rmI (m : MethodId) (x0 : Addr) (x1 : Int32) (x2 : Addr) : entryFrame m #[(.ref x0), (.int x1), (.ref x2)] 3 = mkF m 0 #[.val (.ref x0), .val (.int x1), .val (.ref x2)] [] := by first | (simp [entryFrame, mkF, argsToLocals, Value.category]; done) | rfl
theorem pn_com_example_nest3_nest3_Determinization_Subset : plainName "com/example/nest3/nest3/Determinization$Subset" = true := by first | (simp [plainName, overriddenIn]; done) | decide +kernel
theorem d2_0 : decode prog_21_method_1_code 0 = .ok (.aload_n 0, 1) := by decide +kernel
theorem pd__28_29V : parseMethodDescriptor "()V" = some ⟨[], none⟩ := by decide +kernel
theorem d2_1 : decode prog_21_method_1_code 1 = .ok (.invokespecial 1, 3) := by decide +kernel
theorem d2_4 : decode prog_21_method_1_code 4 = .ok (.aload_n 0, 1) := by decide +kernel
theorem d2_5 : decode prog_21_method_1_code 5 = .ok (.iload_n 1, 1) := by decide +kernel
theorem d2_6 : decode prog_21_method_1_code 6 = .ok (.putfield 7, 3) := by decide +kernel
theorem d2_9 : decode prog_21_method_1_code 9 = .ok (.aload_n 0, 1) := by decide +kernel
theorem d2_10 : decode prog_21_method_1_code 10 = .ok (.aload_n 2, 1) := by decide +kernel
theorem d2_11 : decode prog_21_method_1_code 11 = .ok (.putfield 13, 3) := by decide +kernel
theorem d2_14 : decode prog_21_method_1_code 14 = .ok (.return_, 1) := by decide +kernel
set_option maxRecDepth 65536 in
set_option maxHeartbeats 40000000 in
theorem rmI (l : Launch) (Z : State) (a0 : Array Value) (hw : ∀ d ∈ tables_1, d.before a0 Z = true) (ws : List Jvm.Cond) (a1 : Addr) (z : Int32) (x1 : Addr) (u1 u2 : Value) (h0 : Heap) (n0 : Nat) (Z0 : n0 ≤ h0.size) (E1 : Exa Z h0 a1 "com/example/nest3/nest3/Determinization$Subset") (g1 : n0 ≤ a1) (F1 : Fld Z h0 a1 "com/example/nest3/nest3/Determinization$Subset" "top" "Z" u1) (F2 : Fld Z h0 a1 "com/example/nest3/nest3/Determinization$Subset" "pairs" "[J" u2) (hz : z = 0 ∨ z = 1) :
    MetFree l (⟨"com/example/nest3/nest3/Determinization$Subset", "<init>", "(Z[J)V"⟩ : MethodName) (head1 (Jvm.Cond.code (⟨"com/example/nest3/nest3/Determinization$Subset", "<init>", "(Z[J)V"⟩ : MethodName) prog_21_method_1_code 3 none :: ws) ({ frames := 2, cells := 0, slots := 0, locals := 24 } : Room)) (fun a U => a = #[(.ref a1), (.int z), (.ref x1)] ∧ Z.Warmed39 U.vm ∧ U.heap = h0) (fun _ _ _ _ _ => True) (fun _ U o U' => ∃ v L, o = .returned v ∧ QI Z a1 z x1 h0 n0 v U'.heap L ∧ FrameEnd U o U' L ({ frames := 2, cells := 0, slots := 0, locals := 24 } : Room).cells ({ frames := 2, cells := 0, slots := 0, locals := 24 } : Room).slots) := by
  refine MetFree.of_bodySF (plainFor_of_name pn_com_example_nest3_nest3_Determinization_Subset) hisR ?_
  intro p e s m args below meth c s₁ Bd hml0 hP hK
  obtain ⟨rfl, hZ, hh⟩ := hP
  have hx := Bd.exec
  have hby := Bd.bytes
  have hml : c.maxLocals = 3 := hml0
  have hown : s.vm.findClass "com/example/nest3/nest3/Determinization$Subset" = some m.cls := findClass_of_methodNamed Bd.named
  have hnm := (name_of_methodNamed Bd.named Bd.method).1
  have X0 : Stand p l e ({ frames := 2, cells := 0, slots := 0, locals := 24 } : Room) s m #[(.ref a1), (.int z), (.ref x1)] below meth c s₁ [] 0 0 := Stand.of_body Bd
  have e0 : s₁.heap = h0 := by rw [← hh, Bd.state]; rfl
  have N0 := Fr.nil n0
  have pre0 : ∀ t, Steps p.tables e below (s₁.setTop (mkF m 0 #[.val (.ref a1), .val (.int z), .val (.ref x1)] [])) t → Steps p.tables e below (s₁.setTop (entryFrame m #[(.ref a1), (.int z), (.ref x1)] 3)) t := fun t kt => castTop (ef_rmI m a1 z x1) kt
  have pre1 : ∀ t, Steps p.tables e below (s₁.setTop (mkF m 1 #[.val (.ref a1), .val (.int z), .val (.ref x1)] [(.ref a1)])) t → Steps p.tables e below (s₁.setTop (entryFrame m #[(.ref a1), (.int z), (.ref x1)] 3)) t := fun t kt => pre0 t (by
    refine XS.aloadN X0.here hx rfl (hb hby d2_0) rfl rfl ?_
    show Steps p.tables e below (s₁.setTop (mkF m 1 #[.val (.ref a1), .val (.int z), .val (.ref x1)] [(.ref a1)])) _
    exact kt)
  obtain ⟨_, _, ⟨T2, L2, k2, n2⟩, -, X2, ⟨Lc2, hQ2, l2, y2, z2⟩, st2⟩ := X0.specialBack hx (y := (⟨"java/lang/Record", "<init>", "()V"⟩ : MethodName)) rfl hown (mvT hZ (hw _ (List.mem_of_getElem? (i := 11) rfl))) (mvT hZ (hw _ (List.mem_of_getElem? (i := 12) rfl))) (mvT hZ (hw _ (List.mem_of_getElem? (i := 15) rfl))) (by decide) (backOf (W := 0) (rmR l Z a0 hw [] a1 h0 n0 Z0) hZ (hw _ (List.mem_of_getElem? (i := 15) rfl)) (hw _ (List.mem_of_getElem? (i := 14) rfl)) (by decide) (by decide)) (g := (mkF m 1 #[.val (.ref a1), .val (.int z), .val (.ref x1)] [(.ref a1)])) rfl (by rw [hml]; rfl) (Steps.refl _) (a := a1) (argsL := []) (rest := []) (lenOf pd__28_29V rfl) rfl (by show 2 * 0 + _ ≤ _; exact Nat.le_of_eq rfl) (hb hby d2_1) (fun _ _ => ⟨rfl, e0, (by decide : 0 + 0 ≤ _), (by decide : 0 + 0 ≤ _)⟩)
  dsimp only [Pt.U, Pt.locs, Pt.cells, Pt.slots] at X2 l2 y2 z2 st2 hQ2
  subst l2 y2 z2
  obtain ⟨rfl, N2q, e2q⟩ := hQ2
  have N2 := Fr.app N0 N2q
  have pre3 : ∀ t, Steps p.tables e below (T2.setTop (mkF m 4 #[.val (.ref a1), .val (.int z), .val (.ref x1)] [])) t → Steps p.tables e below (s₁.setTop (entryFrame m #[(.ref a1), (.int z), (.ref x1)] 3)) t := fun t kt => pre1 t (st2.trans kt)
  have pre4 : ∀ t, Steps p.tables e below (T2.setTop (mkF m 6 #[.val (.ref a1), .val (.int z), .val (.ref x1)] [(.int z), (.ref a1)])) t → Steps p.tables e below (s₁.setTop (entryFrame m #[(.ref a1), (.int z), (.ref x1)] 3)) t := fun t kt => pre3 t (by
    refine XS.aloadN X2.here hx rfl (hb hby d2_4) rfl rfl ?_
    show Steps p.tables e below (T2.setTop (mkF m 5 #[.val (.ref a1), .val (.int z), .val (.ref x1)] [(.ref a1)])) _
    refine XS.iloadN X2.here hx rfl (hb hby d2_5) rfl ?_
    show Steps p.tables e below (T2.setTop (mkF m 6 #[.val (.ref a1), .val (.int z), .val (.ref x1)] [(.int z), (.ref a1)])) _
    exact kt)
  obtain ⟨T5, h5, X5, e5, W5, st5⟩ := putFN X2 hx hZ hown (hw _ (List.mem_of_getElem? (i := 19) rfl)) Via.refl e2q F1 E1 (Or.inr ⟨(hw _ (List.mem_of_getElem? (i := 20) rfl)), rfl, hnm⟩) (hw _ (List.mem_of_getElem? (i := 1) rfl)) (ty := .boolean) (v' := (.int z)) (by decide) (by show Value.int (nar .boolean z) = _; rw [own_narb hz]) (by rcases hz with rfl | rfl <;> rfl) (g := (mkF m 6 #[.val (.ref a1), .val (.int z), .val (.ref x1)] [(.int z), (.ref a1)])) rfl rfl (hb hby d2_6)
  have f6 := (E1).wr W5
  have f7 := ((Keep.refl h0 [a1])).wr W5 (Or.inl (List.mem_singleton.mpr rfl))
  have f8 := (F2).other W5 (Or.inr (slot_ne (Or.inr (hw _ (List.mem_of_getElem? (i := 22) rfl))) (Or.inr (hw _ (List.mem_of_getElem? (i := 20) rfl))) (by decide) (t := (.array .long)) (t' := .boolean) (by decide) (by decide)))
  have Fw5 := (F1).same W5
  have Nf9 := Fr.snoc X5 N2 g1
  have Zf10 : n0 ≤ h5.size := Nat.le_trans Z0 (Keep.of_wr W5).1
  have pre11 : ∀ t, Steps p.tables e below (T5.setTop (mkF m 9 #[.val (.ref a1), .val (.int z), .val (.ref x1)] [])) t → Steps p.tables e below (s₁.setTop (entryFrame m #[(.ref a1), (.int z), (.ref x1)] 3)) t := fun t kt => pre4 t (st5 _ kt)
  have pre12 : ∀ t, Steps p.tables e below (T5.setTop (mkF m 11 #[.val (.ref a1), .val (.int z), .val (.ref x1)] [(.ref x1), (.ref a1)])) t → Steps p.tables e below (s₁.setTop (entryFrame m #[(.ref a1), (.int z), (.ref x1)] 3)) t := fun t kt => pre11 t (by
    refine XS.aloadN X5.here hx rfl (hb hby d2_9) rfl rfl ?_
    show Steps p.tables e below (T5.setTop (mkF m 10 #[.val (.ref a1), .val (.int z), .val (.ref x1)] [(.ref a1)])) _
    refine XS.aloadN X5.here hx rfl (hb hby d2_10) rfl rfl ?_
    show Steps p.tables e below (T5.setTop (mkF m 11 #[.val (.ref a1), .val (.int z), .val (.ref x1)] [(.ref x1), (.ref a1)])) _
    exact kt)
  obtain ⟨T13, h13, X13, e13, W13, st13⟩ := putF X5 hx hZ hown (host := "") (Or.inl (hw _ (List.mem_of_getElem? (i := 21) rfl))) Via.refl e5 f8 f6 (Or.inr ⟨(hw _ (List.mem_of_getElem? (i := 22) rfl)), rfl, hnm⟩) (hw _ (List.mem_of_getElem? (i := 1) rfl)) (ty := (.array .long)) (by decide) rfl rfl (g := (mkF m 11 #[.val (.ref a1), .val (.int z), .val (.ref x1)] [(.ref x1), (.ref a1)])) rfl rfl (hb hby d2_11)
  have f14 := (f6).wr W13
  have f15 := (f7).wr W13 (Or.inl (List.mem_singleton.mpr rfl))
  have f16 := (Fw5).other W13 (Or.inr (slot_ne (Or.inr (hw _ (List.mem_of_getElem? (i := 20) rfl))) (Or.inr (hw _ (List.mem_of_getElem? (i := 22) rfl))) (by decide) (t := .boolean) (t' := (.array .long)) (by decide) (by decide)))
  have Fw13 := (f8).same W13
  have Nf17 := Fr.snoc X13 Nf9 g1
  have Zf18 : n0 ≤ h13.size := Nat.le_trans Zf10 (Keep.of_wr W13).1
  have pre19 : ∀ t, Steps p.tables e below (T13.setTop (mkF m 14 #[.val (.ref a1), .val (.int z), .val (.ref x1)] [])) t → Steps p.tables e below (s₁.setTop (entryFrame m #[(.ref a1), (.int z), (.ref x1)] 3)) t := fun t kt => pre12 t (st13 _ kt)
  obtain ⟨fs, hr, hrun, hended, hW, hsame⟩ := X13.leave (v := none) (fun _ => rfl)
  refine ⟨_, _, pre19 _ ?_, hrun, hended, _, _, rfl, ?_, ⟨_, rfl⟩, hW, hsame.mono (by decide) (by decide)⟩
  · exact X13.returnOut hx Bd.returns (hb hby d2_14) hr
  · show QI Z a1 z x1 h0 n0 _ T13.heap _
    rw [e13]
    exact ⟨rfl, Nf17, f15, f14, f16, Fw13⟩
def QP (Z : State) (xs : List Int64) (h0 : Heap) (n0 : Nat) (v : Option Value) (h : Heap) (L : List Loc) : Prop := ∃ b : Addr, v = some (.ref b) ∧ Fr n0 L ∧ Keep h0 h [] ∧ n0 ≤ b ∧ h0.size ≤ b ∧ Lg Z h b xs
theorem ef_rmP_0 (m : MethodId) (x0 : Int32) (x1 : Int64) (x2 : Int64) (x3 : Int64) (x4 : Int64) : entryFrame m #[(.int x0), (.long x1), (.long x2), (.long x3), (.long x4)] 12 = mkF m 0 #[.val (.int x0), .val (.long x1), .second, .val (.long x2), .second, .val (.long x3), .second, .val (.long x4), .second, .unset, .unset, .unset] [] := by first | (simp [entryFrame, mkF, argsToLocals, Value.category]; done) | rfl
theorem pn_com_example_nest3_nest3_SubsetWithinPinLaw : plainName "com/example/nest3/nest3/SubsetWithinPinLaw" = true := by first | (simp [plainName, overriddenIn]; done) | decide +kernel
theorem d1_0 : decode method_3_code 0 = .ok (.iload_n 0, 1) := by decide +kernel
theorem d1_1 : decode method_3_code 1 = .ok (.iconst 1, 1) := by decide +kernel
theorem d1_2 : decode method_3_code 2 = .ok (.iand, 1) := by decide +kernel
theorem d1_3 : decode method_3_code 3 = .ok (.iload_n 0, 1) := by decide +kernel
theorem d1_4 : decode method_3_code 4 = .ok (.iconst 1, 1) := by decide +kernel
theorem d1_5 : decode method_3_code 5 = .ok (.iushr, 1) := by decide +kernel
theorem d1_6 : decode method_3_code 6 = .ok (.iconst 1, 1) := by decide +kernel
theorem d1_7 : decode method_3_code 7 = .ok (.iand, 1) := by decide +kernel
theorem d1_8 : decode method_3_code 8 = .ok (.iadd, 1) := by decide +kernel
theorem d1_9 : decode method_3_code 9 = .ok (.iload_n 0, 1) := by decide +kernel
theorem d1_10 : decode method_3_code 10 = .ok (.iconst 2, 1) := by decide +kernel
theorem d1_11 : decode method_3_code 11 = .ok (.iushr, 1) := by decide +kernel
theorem d1_12 : decode method_3_code 12 = .ok (.iconst 1, 1) := by decide +kernel
theorem d1_13 : decode method_3_code 13 = .ok (.iand, 1) := by decide +kernel
theorem d1_14 : decode method_3_code 14 = .ok (.iadd, 1) := by decide +kernel
theorem d1_15 : decode method_3_code 15 = .ok (.iload_n 0, 1) := by decide +kernel
theorem d1_16 : decode method_3_code 16 = .ok (.iconst 3, 1) := by decide +kernel
theorem d1_17 : decode method_3_code 17 = .ok (.iushr, 1) := by decide +kernel
theorem d1_18 : decode method_3_code 18 = .ok (.iconst 1, 1) := by decide +kernel
theorem d1_19 : decode method_3_code 19 = .ok (.iand, 1) := by decide +kernel
theorem d1_20 : decode method_3_code 20 = .ok (.iadd, 1) := by decide +kernel
theorem d1_21 : decode method_3_code 21 = .ok (.istore 9, 2) := by decide +kernel
theorem d1_23 : decode method_3_code 23 = .ok (.iload 9, 2) := by decide +kernel
theorem d1_25 : decode method_3_code 25 = .ok (.newarray .long, 2) := by decide +kernel
theorem d1_27 : decode method_3_code 27 = .ok (.astore 10, 2) := by decide +kernel
theorem d1_29 : decode method_3_code 29 = .ok (.iconst 0, 1) := by decide +kernel
theorem d1_30 : decode method_3_code 30 = .ok (.istore 11, 2) := by decide +kernel
theorem d1_32 : decode method_3_code 32 = .ok (.iload_n 0, 1) := by decide +kernel
theorem d1_33 : decode method_3_code 33 = .ok (.iconst 1, 1) := by decide +kernel
theorem d1_34 : decode method_3_code 34 = .ok (.iand, 1) := by decide +kernel
theorem d1_35 : decode method_3_code 35 = .ok (.ifCond .eq 12, 3) := by decide +kernel
theorem d1_47 : decode method_3_code 47 = .ok (.iload_n 0, 1) := by decide +kernel
theorem d1_48 : decode method_3_code 48 = .ok (.iconst 2, 1) := by decide +kernel
theorem d1_49 : decode method_3_code 49 = .ok (.iand, 1) := by decide +kernel
theorem d1_50 : decode method_3_code 50 = .ok (.ifCond .eq 12, 3) := by decide +kernel
theorem d1_62 : decode method_3_code 62 = .ok (.iload_n 0, 1) := by decide +kernel
theorem d1_63 : decode method_3_code 63 = .ok (.iconst 4, 1) := by decide +kernel
theorem d1_64 : decode method_3_code 64 = .ok (.iand, 1) := by decide +kernel
theorem d1_65 : decode method_3_code 65 = .ok (.ifCond .eq 13, 3) := by decide +kernel
theorem d1_78 : decode method_3_code 78 = .ok (.iload_n 0, 1) := by decide +kernel
theorem d1_79 : decode method_3_code 79 = .ok (.bipush 8, 2) := by decide +kernel
theorem d1_81 : decode method_3_code 81 = .ok (.iand, 1) := by decide +kernel
theorem d1_82 : decode method_3_code 82 = .ok (.ifCond .eq 13, 3) := by decide +kernel
theorem d1_95 : decode method_3_code 95 = .ok (.aload 10, 2) := by decide +kernel
theorem d1_97 : decode method_3_code 97 = .ok (.areturn, 1) := by decide +kernel
set_option maxRecDepth 65536 in
set_option maxHeartbeats 40000000 in
theorem rmP_0 (l : Launch) (Z : State) (a0 : Array Value) (hw : ∀ d ∈ tables_1, d.before a0 Z = true) (ws : List Jvm.Cond) (v0 v1 v2 v3 : Int64) (h0 : Heap) (n0 : Nat) (Z0 : n0 ≤ h0.size)  :
    MetFree l (⟨"com/example/nest3/nest3/SubsetWithinPinLaw", "pick", "(IJJJJ)[J"⟩ : MethodName) (head1 (Jvm.Cond.code (⟨"com/example/nest3/nest3/SubsetWithinPinLaw", "pick", "(IJJJJ)[J"⟩ : MethodName) method_3_code 12 (some (.array .long)) :: ws) ({ frames := 0, cells := 1, slots := 4, locals := 0 } : Room)) (fun a U => a = #[(.int (0 : Int32)), (.long v0), (.long v1), (.long v2), (.long v3)] ∧ Z.Warmed39 U.vm ∧ U.heap = h0) (fun _ _ _ _ _ => True) (fun _ U o U' => ∃ v L, o = .returned v ∧ QP Z [] h0 n0 v U'.heap L ∧ FrameEnd U o U' L ({ frames := 0, cells := 1, slots := 4, locals := 0 } : Room).cells ({ frames := 0, cells := 1, slots := 4, locals := 0 } : Room).slots) := by
  refine MetFree.of_bodySF (plainFor_of_name pn_com_example_nest3_nest3_SubsetWithinPinLaw) hisR ?_
  intro p e s m args below meth c s₁ Bd hml0 hP hK
  obtain ⟨rfl, hZ, hh⟩ := hP
  have hx := Bd.exec
  have hby := Bd.bytes
  have hml : c.maxLocals = 12 := hml0
  have hown : s.vm.findClass "com/example/nest3/nest3/SubsetWithinPinLaw" = some m.cls := findClass_of_methodNamed Bd.named
  have hnm := (name_of_methodNamed Bd.named Bd.method).1
  have X0 : Stand p l e ({ frames := 0, cells := 1, slots := 4, locals := 0 } : Room) s m #[(.int (0 : Int32)), (.long v0), (.long v1), (.long v2), (.long v3)] below meth c s₁ [] 0 0 := Stand.of_body Bd
  have e0 : s₁.heap = h0 := by rw [← hh, Bd.state]; rfl
  have N0 := Fr.nil n0
  have pre0 : ∀ t, Steps p.tables e below (s₁.setTop (mkF m 0 #[.val (.int (0 : Int32)), .val (.long v0), .second, .val (.long v1), .second, .val (.long v2), .second, .val (.long v3), .second, .unset, .unset, .unset] [])) t → Steps p.tables e below (s₁.setTop (entryFrame m #[(.int (0 : Int32)), (.long v0), (.long v1), (.long v2), (.long v3)] 12)) t := fun t kt => castTop (ef_rmP_0 m (0 : Int32) v0 v1 v2 v3) kt
  have pre1 : ∀ t, Steps p.tables e below (s₁.setTop (mkF m 25 #[.val (.int (0 : Int32)), .val (.long v0), .second, .val (.long v1), .second, .val (.long v2), .second, .val (.long v3), .second, .val (.int (0 : Int32)), .unset, .unset] [(.int (0 : Int32))])) t → Steps p.tables e below (s₁.setTop (entryFrame m #[(.int (0 : Int32)), (.long v0), (.long v1), (.long v2), (.long v3)] 12)) t := fun t kt => pre0 t (by
    refine XS.iloadN X0.here hx rfl (hb hby d1_0) rfl ?_
    show Steps p.tables e below (s₁.setTop (mkF m 1 #[.val (.int (0 : Int32)), .val (.long v0), .second, .val (.long v1), .second, .val (.long v2), .second, .val (.long v3), .second, .unset, .unset, .unset] [(.int (0 : Int32))])) _
    refine XS.iconst X0.here hx rfl (hb hby d1_1) ?_
    show Steps p.tables e below (s₁.setTop (mkF m 2 #[.val (.int (0 : Int32)), .val (.long v0), .second, .val (.long v1), .second, .val (.long v2), .second, .val (.long v3), .second, .unset, .unset, .unset] [(.int (1 : Int32)), (.int (0 : Int32))])) _
    refine XS.iand X0.here hx rfl (hb hby d1_2) rfl ?_
    show Steps p.tables e below (s₁.setTop (mkF m 3 #[.val (.int (0 : Int32)), .val (.long v0), .second, .val (.long v1), .second, .val (.long v2), .second, .val (.long v3), .second, .unset, .unset, .unset] [(.int (0 : Int32))])) _
    refine XS.iloadN X0.here hx rfl (hb hby d1_3) rfl ?_
    show Steps p.tables e below (s₁.setTop (mkF m 4 #[.val (.int (0 : Int32)), .val (.long v0), .second, .val (.long v1), .second, .val (.long v2), .second, .val (.long v3), .second, .unset, .unset, .unset] [(.int (0 : Int32)), (.int (0 : Int32))])) _
    refine XS.iconst X0.here hx rfl (hb hby d1_4) ?_
    show Steps p.tables e below (s₁.setTop (mkF m 5 #[.val (.int (0 : Int32)), .val (.long v0), .second, .val (.long v1), .second, .val (.long v2), .second, .val (.long v3), .second, .unset, .unset, .unset] [(.int (1 : Int32)), (.int (0 : Int32)), (.int (0 : Int32))])) _
    refine XS.iushr X0.here hx rfl (hb hby d1_5) rfl ?_
    show Steps p.tables e below (s₁.setTop (mkF m 6 #[.val (.int (0 : Int32)), .val (.long v0), .second, .val (.long v1), .second, .val (.long v2), .second, .val (.long v3), .second, .unset, .unset, .unset] [(.int (0 : Int32)), (.int (0 : Int32))])) _
    refine XS.iconst X0.here hx rfl (hb hby d1_6) ?_
    show Steps p.tables e below (s₁.setTop (mkF m 7 #[.val (.int (0 : Int32)), .val (.long v0), .second, .val (.long v1), .second, .val (.long v2), .second, .val (.long v3), .second, .unset, .unset, .unset] [(.int (1 : Int32)), (.int (0 : Int32)), (.int (0 : Int32))])) _
    refine XS.iand X0.here hx rfl (hb hby d1_7) rfl ?_
    show Steps p.tables e below (s₁.setTop (mkF m 8 #[.val (.int (0 : Int32)), .val (.long v0), .second, .val (.long v1), .second, .val (.long v2), .second, .val (.long v3), .second, .unset, .unset, .unset] [(.int (0 : Int32)), (.int (0 : Int32))])) _
    refine XS.iadd X0.here hx rfl (hb hby d1_8) rfl ?_
    show Steps p.tables e below (s₁.setTop (mkF m 9 #[.val (.int (0 : Int32)), .val (.long v0), .second, .val (.long v1), .second, .val (.long v2), .second, .val (.long v3), .second, .unset, .unset, .unset] [(.int (0 : Int32))])) _
    refine XS.iloadN X0.here hx rfl (hb hby d1_9) rfl ?_
    show Steps p.tables e below (s₁.setTop (mkF m 10 #[.val (.int (0 : Int32)), .val (.long v0), .second, .val (.long v1), .second, .val (.long v2), .second, .val (.long v3), .second, .unset, .unset, .unset] [(.int (0 : Int32)), (.int (0 : Int32))])) _
    refine XS.iconst X0.here hx rfl (hb hby d1_10) ?_
    show Steps p.tables e below (s₁.setTop (mkF m 11 #[.val (.int (0 : Int32)), .val (.long v0), .second, .val (.long v1), .second, .val (.long v2), .second, .val (.long v3), .second, .unset, .unset, .unset] [(.int (2 : Int32)), (.int (0 : Int32)), (.int (0 : Int32))])) _
    refine XS.iushr X0.here hx rfl (hb hby d1_11) rfl ?_
    show Steps p.tables e below (s₁.setTop (mkF m 12 #[.val (.int (0 : Int32)), .val (.long v0), .second, .val (.long v1), .second, .val (.long v2), .second, .val (.long v3), .second, .unset, .unset, .unset] [(.int (0 : Int32)), (.int (0 : Int32))])) _
    refine XS.iconst X0.here hx rfl (hb hby d1_12) ?_
    show Steps p.tables e below (s₁.setTop (mkF m 13 #[.val (.int (0 : Int32)), .val (.long v0), .second, .val (.long v1), .second, .val (.long v2), .second, .val (.long v3), .second, .unset, .unset, .unset] [(.int (1 : Int32)), (.int (0 : Int32)), (.int (0 : Int32))])) _
    refine XS.iand X0.here hx rfl (hb hby d1_13) rfl ?_
    show Steps p.tables e below (s₁.setTop (mkF m 14 #[.val (.int (0 : Int32)), .val (.long v0), .second, .val (.long v1), .second, .val (.long v2), .second, .val (.long v3), .second, .unset, .unset, .unset] [(.int (0 : Int32)), (.int (0 : Int32))])) _
    refine XS.iadd X0.here hx rfl (hb hby d1_14) rfl ?_
    show Steps p.tables e below (s₁.setTop (mkF m 15 #[.val (.int (0 : Int32)), .val (.long v0), .second, .val (.long v1), .second, .val (.long v2), .second, .val (.long v3), .second, .unset, .unset, .unset] [(.int (0 : Int32))])) _
    refine XS.iloadN X0.here hx rfl (hb hby d1_15) rfl ?_
    show Steps p.tables e below (s₁.setTop (mkF m 16 #[.val (.int (0 : Int32)), .val (.long v0), .second, .val (.long v1), .second, .val (.long v2), .second, .val (.long v3), .second, .unset, .unset, .unset] [(.int (0 : Int32)), (.int (0 : Int32))])) _
    refine XS.iconst X0.here hx rfl (hb hby d1_16) ?_
    show Steps p.tables e below (s₁.setTop (mkF m 17 #[.val (.int (0 : Int32)), .val (.long v0), .second, .val (.long v1), .second, .val (.long v2), .second, .val (.long v3), .second, .unset, .unset, .unset] [(.int (3 : Int32)), (.int (0 : Int32)), (.int (0 : Int32))])) _
    refine XS.iushr X0.here hx rfl (hb hby d1_17) rfl ?_
    show Steps p.tables e below (s₁.setTop (mkF m 18 #[.val (.int (0 : Int32)), .val (.long v0), .second, .val (.long v1), .second, .val (.long v2), .second, .val (.long v3), .second, .unset, .unset, .unset] [(.int (0 : Int32)), (.int (0 : Int32))])) _
    refine XS.iconst X0.here hx rfl (hb hby d1_18) ?_
    show Steps p.tables e below (s₁.setTop (mkF m 19 #[.val (.int (0 : Int32)), .val (.long v0), .second, .val (.long v1), .second, .val (.long v2), .second, .val (.long v3), .second, .unset, .unset, .unset] [(.int (1 : Int32)), (.int (0 : Int32)), (.int (0 : Int32))])) _
    refine XS.iand X0.here hx rfl (hb hby d1_19) rfl ?_
    show Steps p.tables e below (s₁.setTop (mkF m 20 #[.val (.int (0 : Int32)), .val (.long v0), .second, .val (.long v1), .second, .val (.long v2), .second, .val (.long v3), .second, .unset, .unset, .unset] [(.int (0 : Int32)), (.int (0 : Int32))])) _
    refine XS.iadd X0.here hx rfl (hb hby d1_20) rfl ?_
    show Steps p.tables e below (s₁.setTop (mkF m 21 #[.val (.int (0 : Int32)), .val (.long v0), .second, .val (.long v1), .second, .val (.long v2), .second, .val (.long v3), .second, .unset, .unset, .unset] [(.int (0 : Int32))])) _
    refine XS.istore X0.here hx rfl (hb hby d1_21) rfl (l' := #[.val (.int (0 : Int32)), .val (.long v0), .second, .val (.long v1), .second, .val (.long v2), .second, .val (.long v3), .second, .val (.int (0 : Int32)), .unset, .unset]) rfl ?_
    show Steps p.tables e below (s₁.setTop (mkF m 23 #[.val (.int (0 : Int32)), .val (.long v0), .second, .val (.long v1), .second, .val (.long v2), .second, .val (.long v3), .second, .val (.int (0 : Int32)), .unset, .unset] [])) _
    refine XS.iload X0.here hx rfl (hb hby d1_23) rfl ?_
    show Steps p.tables e below (s₁.setTop (mkF m 25 #[.val (.int (0 : Int32)), .val (.long v0), .second, .val (.long v1), .second, .val (.long v2), .second, .val (.long v3), .second, .val (.int (0 : Int32)), .unset, .unset] [(.int (0 : Int32))])) _
    exact kt)
  obtain ⟨T2, h2, k2, X2, e2, E2, A2, st2⟩ := newP X0 hx hZ (hw _ (List.mem_of_getElem? (i := 7) rfl)) e0 (g := (mkF m 25 #[.val (.int (0 : Int32)), .val (.long v0), .second, .val (.long v1), .second, .val (.long v2), .second, .val (.long v3), .second, .val (.int (0 : Int32)), .unset, .unset] [(.int (0 : Int32))])) rfl (hb hby d1_25) rfl (by decide) (cap := 0) (by decide) (by decide) (by decide) (by decide)
  obtain ⟨b2, g2⟩ : ∃ z, z = h0.size := ⟨_, rfl⟩
  rw [← g2] at A2 st2
  have gz3 : n0 ≤ b2 := Nat.le_trans Z0 (Nat.le_of_eq g2.symm)
  have f5 := ((Keep.refl h0 [])).ext E2
  have Zf6 : n0 ≤ h2.size := Nat.le_trans Z0 E2.1
  have sz2 : h0.size ≤ b2 := Nat.le_of_eq g2.symm
  have V2 : Arv Z h2 b2 k2 .long (0 : Int32) [] (.long (0 : Int64)) := (Arv.new A2 (by decide)).pad (pad_rep [] (.long (0 : Int64)) 0)
  have pre7 : ∀ t, Steps p.tables e below (T2.setTop (mkF m 27 #[.val (.int (0 : Int32)), .val (.long v0), .second, .val (.long v1), .second, .val (.long v2), .second, .val (.long v3), .second, .val (.int (0 : Int32)), .unset, .unset] [(.ref b2)])) t → Steps p.tables e below (s₁.setTop (entryFrame m #[(.int (0 : Int32)), (.long v0), (.long v1), (.long v2), (.long v3)] 12)) t := fun t kt => pre1 t (st2 _ kt)
  have pre8 : ∀ t, Steps p.tables e below (T2.setTop (mkF m 97 #[.val (.int (0 : Int32)), .val (.long v0), .second, .val (.long v1), .second, .val (.long v2), .second, .val (.long v3), .second, .val (.int (0 : Int32)), .val (.ref b2), .val (.int (0 : Int32))] [(.ref b2)])) t → Steps p.tables e below (s₁.setTop (entryFrame m #[(.int (0 : Int32)), (.long v0), (.long v1), (.long v2), (.long v3)] 12)) t := fun t kt => pre7 t (by
    refine XS.astore X2.here hx rfl (hb hby d1_27) rfl rfl (l' := #[.val (.int (0 : Int32)), .val (.long v0), .second, .val (.long v1), .second, .val (.long v2), .second, .val (.long v3), .second, .val (.int (0 : Int32)), .val (.ref b2), .unset]) rfl ?_
    show Steps p.tables e below (T2.setTop (mkF m 29 #[.val (.int (0 : Int32)), .val (.long v0), .second, .val (.long v1), .second, .val (.long v2), .second, .val (.long v3), .second, .val (.int (0 : Int32)), .val (.ref b2), .unset] [])) _
    refine XS.iconst X2.here hx rfl (hb hby d1_29) ?_
    show Steps p.tables e below (T2.setTop (mkF m 30 #[.val (.int (0 : Int32)), .val (.long v0), .second, .val (.long v1), .second, .val (.long v2), .second, .val (.long v3), .second, .val (.int (0 : Int32)), .val (.ref b2), .unset] [(.int (0 : Int32))])) _
    refine XS.istore X2.here hx rfl (hb hby d1_30) rfl (l' := #[.val (.int (0 : Int32)), .val (.long v0), .second, .val (.long v1), .second, .val (.long v2), .second, .val (.long v3), .second, .val (.int (0 : Int32)), .val (.ref b2), .val (.int (0 : Int32))]) rfl ?_
    show Steps p.tables e below (T2.setTop (mkF m 32 #[.val (.int (0 : Int32)), .val (.long v0), .second, .val (.long v1), .second, .val (.long v2), .second, .val (.long v3), .second, .val (.int (0 : Int32)), .val (.ref b2), .val (.int (0 : Int32))] [])) _
    refine XS.iloadN X2.here hx rfl (hb hby d1_32) rfl ?_
    show Steps p.tables e below (T2.setTop (mkF m 33 #[.val (.int (0 : Int32)), .val (.long v0), .second, .val (.long v1), .second, .val (.long v2), .second, .val (.long v3), .second, .val (.int (0 : Int32)), .val (.ref b2), .val (.int (0 : Int32))] [(.int (0 : Int32))])) _
    refine XS.iconst X2.here hx rfl (hb hby d1_33) ?_
    show Steps p.tables e below (T2.setTop (mkF m 34 #[.val (.int (0 : Int32)), .val (.long v0), .second, .val (.long v1), .second, .val (.long v2), .second, .val (.long v3), .second, .val (.int (0 : Int32)), .val (.ref b2), .val (.int (0 : Int32))] [(.int (1 : Int32)), (.int (0 : Int32))])) _
    refine XS.iand X2.here hx rfl (hb hby d1_34) rfl ?_
    show Steps p.tables e below (T2.setTop (mkF m 35 #[.val (.int (0 : Int32)), .val (.long v0), .second, .val (.long v1), .second, .val (.long v2), .second, .val (.long v3), .second, .val (.int (0 : Int32)), .val (.ref b2), .val (.int (0 : Int32))] [(.int (0 : Int32))])) _
    refine XS.ifYes X2.here hx rfl (pc0 := 35) (pc' := 47) rfl (hb hby d1_35) rfl ((if0 _ _).trans (teq (by decide : (0 : Int32) = (0 : Int32))).1) (by decide) (by decide) ?_
    show Steps p.tables e below (T2.setTop (mkF m 47 #[.val (.int (0 : Int32)), .val (.long v0), .second, .val (.long v1), .second, .val (.long v2), .second, .val (.long v3), .second, .val (.int (0 : Int32)), .val (.ref b2), .val (.int (0 : Int32))] [])) _
    refine XS.iloadN X2.here hx rfl (hb hby d1_47) rfl ?_
    show Steps p.tables e below (T2.setTop (mkF m 48 #[.val (.int (0 : Int32)), .val (.long v0), .second, .val (.long v1), .second, .val (.long v2), .second, .val (.long v3), .second, .val (.int (0 : Int32)), .val (.ref b2), .val (.int (0 : Int32))] [(.int (0 : Int32))])) _
    refine XS.iconst X2.here hx rfl (hb hby d1_48) ?_
    show Steps p.tables e below (T2.setTop (mkF m 49 #[.val (.int (0 : Int32)), .val (.long v0), .second, .val (.long v1), .second, .val (.long v2), .second, .val (.long v3), .second, .val (.int (0 : Int32)), .val (.ref b2), .val (.int (0 : Int32))] [(.int (2 : Int32)), (.int (0 : Int32))])) _
    refine XS.iand X2.here hx rfl (hb hby d1_49) rfl ?_
    show Steps p.tables e below (T2.setTop (mkF m 50 #[.val (.int (0 : Int32)), .val (.long v0), .second, .val (.long v1), .second, .val (.long v2), .second, .val (.long v3), .second, .val (.int (0 : Int32)), .val (.ref b2), .val (.int (0 : Int32))] [(.int (0 : Int32))])) _
    refine XS.ifYes X2.here hx rfl (pc0 := 50) (pc' := 62) rfl (hb hby d1_50) rfl ((if0 _ _).trans (teq (by decide : (0 : Int32) = (0 : Int32))).1) (by decide) (by decide) ?_
    show Steps p.tables e below (T2.setTop (mkF m 62 #[.val (.int (0 : Int32)), .val (.long v0), .second, .val (.long v1), .second, .val (.long v2), .second, .val (.long v3), .second, .val (.int (0 : Int32)), .val (.ref b2), .val (.int (0 : Int32))] [])) _
    refine XS.iloadN X2.here hx rfl (hb hby d1_62) rfl ?_
    show Steps p.tables e below (T2.setTop (mkF m 63 #[.val (.int (0 : Int32)), .val (.long v0), .second, .val (.long v1), .second, .val (.long v2), .second, .val (.long v3), .second, .val (.int (0 : Int32)), .val (.ref b2), .val (.int (0 : Int32))] [(.int (0 : Int32))])) _
    refine XS.iconst X2.here hx rfl (hb hby d1_63) ?_
    show Steps p.tables e below (T2.setTop (mkF m 64 #[.val (.int (0 : Int32)), .val (.long v0), .second, .val (.long v1), .second, .val (.long v2), .second, .val (.long v3), .second, .val (.int (0 : Int32)), .val (.ref b2), .val (.int (0 : Int32))] [(.int (4 : Int32)), (.int (0 : Int32))])) _
    refine XS.iand X2.here hx rfl (hb hby d1_64) rfl ?_
    show Steps p.tables e below (T2.setTop (mkF m 65 #[.val (.int (0 : Int32)), .val (.long v0), .second, .val (.long v1), .second, .val (.long v2), .second, .val (.long v3), .second, .val (.int (0 : Int32)), .val (.ref b2), .val (.int (0 : Int32))] [(.int (0 : Int32))])) _
    refine XS.ifYes X2.here hx rfl (pc0 := 65) (pc' := 78) rfl (hb hby d1_65) rfl ((if0 _ _).trans (teq (by decide : (0 : Int32) = (0 : Int32))).1) (by decide) (by decide) ?_
    show Steps p.tables e below (T2.setTop (mkF m 78 #[.val (.int (0 : Int32)), .val (.long v0), .second, .val (.long v1), .second, .val (.long v2), .second, .val (.long v3), .second, .val (.int (0 : Int32)), .val (.ref b2), .val (.int (0 : Int32))] [])) _
    refine XS.iloadN X2.here hx rfl (hb hby d1_78) rfl ?_
    show Steps p.tables e below (T2.setTop (mkF m 79 #[.val (.int (0 : Int32)), .val (.long v0), .second, .val (.long v1), .second, .val (.long v2), .second, .val (.long v3), .second, .val (.int (0 : Int32)), .val (.ref b2), .val (.int (0 : Int32))] [(.int (0 : Int32))])) _
    refine XS.bipush X2.here hx rfl (hb hby d1_79) ?_
    show Steps p.tables e below (T2.setTop (mkF m 81 #[.val (.int (0 : Int32)), .val (.long v0), .second, .val (.long v1), .second, .val (.long v2), .second, .val (.long v3), .second, .val (.int (0 : Int32)), .val (.ref b2), .val (.int (0 : Int32))] [(.int (8 : Int32)), (.int (0 : Int32))])) _
    refine XS.iand X2.here hx rfl (hb hby d1_81) rfl ?_
    show Steps p.tables e below (T2.setTop (mkF m 82 #[.val (.int (0 : Int32)), .val (.long v0), .second, .val (.long v1), .second, .val (.long v2), .second, .val (.long v3), .second, .val (.int (0 : Int32)), .val (.ref b2), .val (.int (0 : Int32))] [(.int (0 : Int32))])) _
    refine XS.ifYes X2.here hx rfl (pc0 := 82) (pc' := 95) rfl (hb hby d1_82) rfl ((if0 _ _).trans (teq (by decide : (0 : Int32) = (0 : Int32))).1) (by decide) (by decide) ?_
    show Steps p.tables e below (T2.setTop (mkF m 95 #[.val (.int (0 : Int32)), .val (.long v0), .second, .val (.long v1), .second, .val (.long v2), .second, .val (.long v3), .second, .val (.int (0 : Int32)), .val (.ref b2), .val (.int (0 : Int32))] [])) _
    refine XS.aload X2.here hx rfl (hb hby d1_95) rfl rfl ?_
    show Steps p.tables e below (T2.setTop (mkF m 97 #[.val (.int (0 : Int32)), .val (.long v0), .second, .val (.long v1), .second, .val (.long v2), .second, .val (.long v3), .second, .val (.int (0 : Int32)), .val (.ref b2), .val (.int (0 : Int32))] [(.ref b2)])) _
    exact kt)
  obtain ⟨fs, hr, hrun, hended, hW, hsame⟩ := X2.leave (v := (some (.ref b2))) (fun h => by rw [Bd.returns] at h; cases h)
  refine ⟨_, _, pre8 _ ?_, hrun, hended, _, _, rfl, ?_, ⟨_, rfl⟩, hW, hsame.mono (by decide) (by decide)⟩
  · exact retOut X2 hx Bd.returns rfl (Or.inr (Or.inr (Or.inr (Or.inr ⟨rfl, rfl, rfl⟩)))) (hb hby d1_97) hr
  · show QP Z [] h0 n0 _ T2.heap _
    rw [e2]
    exact ⟨_, rfl, N0, f5, gz3, (sz2), own_lg (xs := []) V2 rfl (by simp)⟩
theorem ef_rmP_1 (m : MethodId) (x0 : Int32) (x1 : Int64) (x2 : Int64) (x3 : Int64) (x4 : Int64) : entryFrame m #[(.int x0), (.long x1), (.long x2), (.long x3), (.long x4)] 12 = mkF m 0 #[.val (.int x0), .val (.long x1), .second, .val (.long x2), .second, .val (.long x3), .second, .val (.long x4), .second, .unset, .unset, .unset] [] := by first | (simp [entryFrame, mkF, argsToLocals, Value.category]; done) | rfl
theorem d1_38 : decode method_3_code 38 = .ok (.aload 10, 2) := by decide +kernel
theorem d1_40 : decode method_3_code 40 = .ok (.iload 11, 2) := by decide +kernel
theorem d1_42 : decode method_3_code 42 = .ok (.lload_n 1, 1) := by decide +kernel
theorem d1_43 : decode method_3_code 43 = .ok (.lastore, 1) := by decide +kernel
theorem d1_44 : decode method_3_code 44 = .ok (.iinc 11 1, 3) := by decide +kernel
set_option maxRecDepth 65536 in
set_option maxHeartbeats 40000000 in
theorem rmP_1 (l : Launch) (Z : State) (a0 : Array Value) (hw : ∀ d ∈ tables_1, d.before a0 Z = true) (ws : List Jvm.Cond) (v0 v1 v2 v3 : Int64) (h0 : Heap) (n0 : Nat) (Z0 : n0 ≤ h0.size)  :
    MetFree l (⟨"com/example/nest3/nest3/SubsetWithinPinLaw", "pick", "(IJJJJ)[J"⟩ : MethodName) (head1 (Jvm.Cond.code (⟨"com/example/nest3/nest3/SubsetWithinPinLaw", "pick", "(IJJJJ)[J"⟩ : MethodName) method_3_code 12 (some (.array .long)) :: ws) ({ frames := 0, cells := 1, slots := 4, locals := 0 } : Room)) (fun a U => a = #[(.int (1 : Int32)), (.long v0), (.long v1), (.long v2), (.long v3)] ∧ Z.Warmed39 U.vm ∧ U.heap = h0) (fun _ _ _ _ _ => True) (fun _ U o U' => ∃ v L, o = .returned v ∧ QP Z [v0] h0 n0 v U'.heap L ∧ FrameEnd U o U' L ({ frames := 0, cells := 1, slots := 4, locals := 0 } : Room).cells ({ frames := 0, cells := 1, slots := 4, locals := 0 } : Room).slots) := by
  refine MetFree.of_bodySF (plainFor_of_name pn_com_example_nest3_nest3_SubsetWithinPinLaw) hisR ?_
  intro p e s m args below meth c s₁ Bd hml0 hP hK
  obtain ⟨rfl, hZ, hh⟩ := hP
  have hx := Bd.exec
  have hby := Bd.bytes
  have hml : c.maxLocals = 12 := hml0
  have hown : s.vm.findClass "com/example/nest3/nest3/SubsetWithinPinLaw" = some m.cls := findClass_of_methodNamed Bd.named
  have hnm := (name_of_methodNamed Bd.named Bd.method).1
  have X0 : Stand p l e ({ frames := 0, cells := 1, slots := 4, locals := 0 } : Room) s m #[(.int (1 : Int32)), (.long v0), (.long v1), (.long v2), (.long v3)] below meth c s₁ [] 0 0 := Stand.of_body Bd
  have e0 : s₁.heap = h0 := by rw [← hh, Bd.state]; rfl
  have N0 := Fr.nil n0
  have pre0 : ∀ t, Steps p.tables e below (s₁.setTop (mkF m 0 #[.val (.int (1 : Int32)), .val (.long v0), .second, .val (.long v1), .second, .val (.long v2), .second, .val (.long v3), .second, .unset, .unset, .unset] [])) t → Steps p.tables e below (s₁.setTop (entryFrame m #[(.int (1 : Int32)), (.long v0), (.long v1), (.long v2), (.long v3)] 12)) t := fun t kt => castTop (ef_rmP_1 m (1 : Int32) v0 v1 v2 v3) kt
  have pre1 : ∀ t, Steps p.tables e below (s₁.setTop (mkF m 25 #[.val (.int (1 : Int32)), .val (.long v0), .second, .val (.long v1), .second, .val (.long v2), .second, .val (.long v3), .second, .val (.int (1 : Int32)), .unset, .unset] [(.int (1 : Int32))])) t → Steps p.tables e below (s₁.setTop (entryFrame m #[(.int (1 : Int32)), (.long v0), (.long v1), (.long v2), (.long v3)] 12)) t := fun t kt => pre0 t (by
    refine XS.iloadN X0.here hx rfl (hb hby d1_0) rfl ?_
    show Steps p.tables e below (s₁.setTop (mkF m 1 #[.val (.int (1 : Int32)), .val (.long v0), .second, .val (.long v1), .second, .val (.long v2), .second, .val (.long v3), .second, .unset, .unset, .unset] [(.int (1 : Int32))])) _
    refine XS.iconst X0.here hx rfl (hb hby d1_1) ?_
    show Steps p.tables e below (s₁.setTop (mkF m 2 #[.val (.int (1 : Int32)), .val (.long v0), .second, .val (.long v1), .second, .val (.long v2), .second, .val (.long v3), .second, .unset, .unset, .unset] [(.int (1 : Int32)), (.int (1 : Int32))])) _
    refine XS.iand X0.here hx rfl (hb hby d1_2) rfl ?_
    show Steps p.tables e below (s₁.setTop (mkF m 3 #[.val (.int (1 : Int32)), .val (.long v0), .second, .val (.long v1), .second, .val (.long v2), .second, .val (.long v3), .second, .unset, .unset, .unset] [(.int (1 : Int32))])) _
    refine XS.iloadN X0.here hx rfl (hb hby d1_3) rfl ?_
    show Steps p.tables e below (s₁.setTop (mkF m 4 #[.val (.int (1 : Int32)), .val (.long v0), .second, .val (.long v1), .second, .val (.long v2), .second, .val (.long v3), .second, .unset, .unset, .unset] [(.int (1 : Int32)), (.int (1 : Int32))])) _
    refine XS.iconst X0.here hx rfl (hb hby d1_4) ?_
    show Steps p.tables e below (s₁.setTop (mkF m 5 #[.val (.int (1 : Int32)), .val (.long v0), .second, .val (.long v1), .second, .val (.long v2), .second, .val (.long v3), .second, .unset, .unset, .unset] [(.int (1 : Int32)), (.int (1 : Int32)), (.int (1 : Int32))])) _
    refine XS.iushr X0.here hx rfl (hb hby d1_5) rfl ?_
    show Steps p.tables e below (s₁.setTop (mkF m 6 #[.val (.int (1 : Int32)), .val (.long v0), .second, .val (.long v1), .second, .val (.long v2), .second, .val (.long v3), .second, .unset, .unset, .unset] [(.int (0 : Int32)), (.int (1 : Int32))])) _
    refine XS.iconst X0.here hx rfl (hb hby d1_6) ?_
    show Steps p.tables e below (s₁.setTop (mkF m 7 #[.val (.int (1 : Int32)), .val (.long v0), .second, .val (.long v1), .second, .val (.long v2), .second, .val (.long v3), .second, .unset, .unset, .unset] [(.int (1 : Int32)), (.int (0 : Int32)), (.int (1 : Int32))])) _
    refine XS.iand X0.here hx rfl (hb hby d1_7) rfl ?_
    show Steps p.tables e below (s₁.setTop (mkF m 8 #[.val (.int (1 : Int32)), .val (.long v0), .second, .val (.long v1), .second, .val (.long v2), .second, .val (.long v3), .second, .unset, .unset, .unset] [(.int (0 : Int32)), (.int (1 : Int32))])) _
    refine XS.iadd X0.here hx rfl (hb hby d1_8) rfl ?_
    show Steps p.tables e below (s₁.setTop (mkF m 9 #[.val (.int (1 : Int32)), .val (.long v0), .second, .val (.long v1), .second, .val (.long v2), .second, .val (.long v3), .second, .unset, .unset, .unset] [(.int (1 : Int32))])) _
    refine XS.iloadN X0.here hx rfl (hb hby d1_9) rfl ?_
    show Steps p.tables e below (s₁.setTop (mkF m 10 #[.val (.int (1 : Int32)), .val (.long v0), .second, .val (.long v1), .second, .val (.long v2), .second, .val (.long v3), .second, .unset, .unset, .unset] [(.int (1 : Int32)), (.int (1 : Int32))])) _
    refine XS.iconst X0.here hx rfl (hb hby d1_10) ?_
    show Steps p.tables e below (s₁.setTop (mkF m 11 #[.val (.int (1 : Int32)), .val (.long v0), .second, .val (.long v1), .second, .val (.long v2), .second, .val (.long v3), .second, .unset, .unset, .unset] [(.int (2 : Int32)), (.int (1 : Int32)), (.int (1 : Int32))])) _
    refine XS.iushr X0.here hx rfl (hb hby d1_11) rfl ?_
    show Steps p.tables e below (s₁.setTop (mkF m 12 #[.val (.int (1 : Int32)), .val (.long v0), .second, .val (.long v1), .second, .val (.long v2), .second, .val (.long v3), .second, .unset, .unset, .unset] [(.int (0 : Int32)), (.int (1 : Int32))])) _
    refine XS.iconst X0.here hx rfl (hb hby d1_12) ?_
    show Steps p.tables e below (s₁.setTop (mkF m 13 #[.val (.int (1 : Int32)), .val (.long v0), .second, .val (.long v1), .second, .val (.long v2), .second, .val (.long v3), .second, .unset, .unset, .unset] [(.int (1 : Int32)), (.int (0 : Int32)), (.int (1 : Int32))])) _
    refine XS.iand X0.here hx rfl (hb hby d1_13) rfl ?_
    show Steps p.tables e below (s₁.setTop (mkF m 14 #[.val (.int (1 : Int32)), .val (.long v0), .second, .val (.long v1), .second, .val (.long v2), .second, .val (.long v3), .second, .unset, .unset, .unset] [(.int (0 : Int32)), (.int (1 : Int32))])) _
    refine XS.iadd X0.here hx rfl (hb hby d1_14) rfl ?_
    show Steps p.tables e below (s₁.setTop (mkF m 15 #[.val (.int (1 : Int32)), .val (.long v0), .second, .val (.long v1), .second, .val (.long v2), .second, .val (.long v3), .second, .unset, .unset, .unset] [(.int (1 : Int32))])) _
    refine XS.iloadN X0.here hx rfl (hb hby d1_15) rfl ?_
    show Steps p.tables e below (s₁.setTop (mkF m 16 #[.val (.int (1 : Int32)), .val (.long v0), .second, .val (.long v1), .second, .val (.long v2), .second, .val (.long v3), .second, .unset, .unset, .unset] [(.int (1 : Int32)), (.int (1 : Int32))])) _
    refine XS.iconst X0.here hx rfl (hb hby d1_16) ?_
    show Steps p.tables e below (s₁.setTop (mkF m 17 #[.val (.int (1 : Int32)), .val (.long v0), .second, .val (.long v1), .second, .val (.long v2), .second, .val (.long v3), .second, .unset, .unset, .unset] [(.int (3 : Int32)), (.int (1 : Int32)), (.int (1 : Int32))])) _
    refine XS.iushr X0.here hx rfl (hb hby d1_17) rfl ?_
    show Steps p.tables e below (s₁.setTop (mkF m 18 #[.val (.int (1 : Int32)), .val (.long v0), .second, .val (.long v1), .second, .val (.long v2), .second, .val (.long v3), .second, .unset, .unset, .unset] [(.int (0 : Int32)), (.int (1 : Int32))])) _
    refine XS.iconst X0.here hx rfl (hb hby d1_18) ?_
    show Steps p.tables e below (s₁.setTop (mkF m 19 #[.val (.int (1 : Int32)), .val (.long v0), .second, .val (.long v1), .second, .val (.long v2), .second, .val (.long v3), .second, .unset, .unset, .unset] [(.int (1 : Int32)), (.int (0 : Int32)), (.int (1 : Int32))])) _
    refine XS.iand X0.here hx rfl (hb hby d1_19) rfl ?_
    show Steps p.tables e below (s₁.setTop (mkF m 20 #[.val (.int (1 : Int32)), .val (.long v0), .second, .val (.long v1), .second, .val (.long v2), .second, .val (.long v3), .second, .unset, .unset, .unset] [(.int (0 : Int32)), (.int (1 : Int32))])) _
    refine XS.iadd X0.here hx rfl (hb hby d1_20) rfl ?_
    show Steps p.tables e below (s₁.setTop (mkF m 21 #[.val (.int (1 : Int32)), .val (.long v0), .second, .val (.long v1), .second, .val (.long v2), .second, .val (.long v3), .second, .unset, .unset, .unset] [(.int (1 : Int32))])) _
    refine XS.istore X0.here hx rfl (hb hby d1_21) rfl (l' := #[.val (.int (1 : Int32)), .val (.long v0), .second, .val (.long v1), .second, .val (.long v2), .second, .val (.long v3), .second, .val (.int (1 : Int32)), .unset, .unset]) rfl ?_
    show Steps p.tables e below (s₁.setTop (mkF m 23 #[.val (.int (1 : Int32)), .val (.long v0), .second, .val (.long v1), .second, .val (.long v2), .second, .val (.long v3), .second, .val (.int (1 : Int32)), .unset, .unset] [])) _
    refine XS.iload X0.here hx rfl (hb hby d1_23) rfl ?_
    show Steps p.tables e below (s₁.setTop (mkF m 25 #[.val (.int (1 : Int32)), .val (.long v0), .second, .val (.long v1), .second, .val (.long v2), .second, .val (.long v3), .second, .val (.int (1 : Int32)), .unset, .unset] [(.int (1 : Int32))])) _
    exact kt)
  obtain ⟨T2, h2, k2, X2, e2, E2, A2, st2⟩ := newP X0 hx hZ (hw _ (List.mem_of_getElem? (i := 7) rfl)) e0 (g := (mkF m 25 #[.val (.int (1 : Int32)), .val (.long v0), .second, .val (.long v1), .second, .val (.long v2), .second, .val (.long v3), .second, .val (.int (1 : Int32)), .unset, .unset] [(.int (1 : Int32))])) rfl (hb hby d1_25) rfl (by decide) (cap := 1) (by decide) (by decide) (by decide) (by decide)
  obtain ⟨b2, g2⟩ : ∃ z, z = h0.size := ⟨_, rfl⟩
  rw [← g2] at A2 st2
  have gz3 : n0 ≤ b2 := Nat.le_trans Z0 (Nat.le_of_eq g2.symm)
  have f5 := ((Keep.refl h0 [])).ext E2
  have Zf6 : n0 ≤ h2.size := Nat.le_trans Z0 E2.1
  have sz2 : h0.size ≤ b2 := Nat.le_of_eq g2.symm
  have V2 : Arv Z h2 b2 k2 .long (1 : Int32) [(.long (0 : Int64))] (.long (0 : Int64)) := (Arv.new A2 (by decide)).pad (pad_rep [] (.long (0 : Int64)) 1)
  have pre7 : ∀ t, Steps p.tables e below (T2.setTop (mkF m 27 #[.val (.int (1 : Int32)), .val (.long v0), .second, .val (.long v1), .second, .val (.long v2), .second, .val (.long v3), .second, .val (.int (1 : Int32)), .unset, .unset] [(.ref b2)])) t → Steps p.tables e below (s₁.setTop (entryFrame m #[(.int (1 : Int32)), (.long v0), (.long v1), (.long v2), (.long v3)] 12)) t := fun t kt => pre1 t (st2 _ kt)
  have pre8 : ∀ t, Steps p.tables e below (T2.setTop (mkF m 43 #[.val (.int (1 : Int32)), .val (.long v0), .second, .val (.long v1), .second, .val (.long v2), .second, .val (.long v3), .second, .val (.int (1 : Int32)), .val (.ref b2), .val (.int (0 : Int32))] [(.long v0), (.int (0 : Int32)), (.ref b2)])) t → Steps p.tables e below (s₁.setTop (entryFrame m #[(.int (1 : Int32)), (.long v0), (.long v1), (.long v2), (.long v3)] 12)) t := fun t kt => pre7 t (by
    refine XS.astore X2.here hx rfl (hb hby d1_27) rfl rfl (l' := #[.val (.int (1 : Int32)), .val (.long v0), .second, .val (.long v1), .second, .val (.long v2), .second, .val (.long v3), .second, .val (.int (1 : Int32)), .val (.ref b2), .unset]) rfl ?_
    show Steps p.tables e below (T2.setTop (mkF m 29 #[.val (.int (1 : Int32)), .val (.long v0), .second, .val (.long v1), .second, .val (.long v2), .second, .val (.long v3), .second, .val (.int (1 : Int32)), .val (.ref b2), .unset] [])) _
    refine XS.iconst X2.here hx rfl (hb hby d1_29) ?_
    show Steps p.tables e below (T2.setTop (mkF m 30 #[.val (.int (1 : Int32)), .val (.long v0), .second, .val (.long v1), .second, .val (.long v2), .second, .val (.long v3), .second, .val (.int (1 : Int32)), .val (.ref b2), .unset] [(.int (0 : Int32))])) _
    refine XS.istore X2.here hx rfl (hb hby d1_30) rfl (l' := #[.val (.int (1 : Int32)), .val (.long v0), .second, .val (.long v1), .second, .val (.long v2), .second, .val (.long v3), .second, .val (.int (1 : Int32)), .val (.ref b2), .val (.int (0 : Int32))]) rfl ?_
    show Steps p.tables e below (T2.setTop (mkF m 32 #[.val (.int (1 : Int32)), .val (.long v0), .second, .val (.long v1), .second, .val (.long v2), .second, .val (.long v3), .second, .val (.int (1 : Int32)), .val (.ref b2), .val (.int (0 : Int32))] [])) _
    refine XS.iloadN X2.here hx rfl (hb hby d1_32) rfl ?_
    show Steps p.tables e below (T2.setTop (mkF m 33 #[.val (.int (1 : Int32)), .val (.long v0), .second, .val (.long v1), .second, .val (.long v2), .second, .val (.long v3), .second, .val (.int (1 : Int32)), .val (.ref b2), .val (.int (0 : Int32))] [(.int (1 : Int32))])) _
    refine XS.iconst X2.here hx rfl (hb hby d1_33) ?_
    show Steps p.tables e below (T2.setTop (mkF m 34 #[.val (.int (1 : Int32)), .val (.long v0), .second, .val (.long v1), .second, .val (.long v2), .second, .val (.long v3), .second, .val (.int (1 : Int32)), .val (.ref b2), .val (.int (0 : Int32))] [(.int (1 : Int32)), (.int (1 : Int32))])) _
    refine XS.iand X2.here hx rfl (hb hby d1_34) rfl ?_
    show Steps p.tables e below (T2.setTop (mkF m 35 #[.val (.int (1 : Int32)), .val (.long v0), .second, .val (.long v1), .second, .val (.long v2), .second, .val (.long v3), .second, .val (.int (1 : Int32)), .val (.ref b2), .val (.int (0 : Int32))] [(.int (1 : Int32))])) _
    refine XS.ifNo X2.here hx rfl (hb hby d1_35) rfl ((if0 _ _).trans (feq (by decide : ¬ ((1 : Int32) = (0 : Int32)))).1) ?_
    show Steps p.tables e below (T2.setTop (mkF m 38 #[.val (.int (1 : Int32)), .val (.long v0), .second, .val (.long v1), .second, .val (.long v2), .second, .val (.long v3), .second, .val (.int (1 : Int32)), .val (.ref b2), .val (.int (0 : Int32))] [])) _
    refine XS.aload X2.here hx rfl (hb hby d1_38) rfl rfl ?_
    show Steps p.tables e below (T2.setTop (mkF m 40 #[.val (.int (1 : Int32)), .val (.long v0), .second, .val (.long v1), .second, .val (.long v2), .second, .val (.long v3), .second, .val (.int (1 : Int32)), .val (.ref b2), .val (.int (0 : Int32))] [(.ref b2)])) _
    refine XS.iload X2.here hx rfl (hb hby d1_40) rfl ?_
    show Steps p.tables e below (T2.setTop (mkF m 42 #[.val (.int (1 : Int32)), .val (.long v0), .second, .val (.long v1), .second, .val (.long v2), .second, .val (.long v3), .second, .val (.int (1 : Int32)), .val (.ref b2), .val (.int (0 : Int32))] [(.int (0 : Int32)), (.ref b2)])) _
    refine XS.lloadN X2.here hx rfl (hb hby d1_42) rfl ?_
    show Steps p.tables e below (T2.setTop (mkF m 43 #[.val (.int (1 : Int32)), .val (.long v0), .second, .val (.long v1), .second, .val (.long v2), .second, .val (.long v3), .second, .val (.int (1 : Int32)), .val (.ref b2), .val (.int (0 : Int32))] [(.long v0), (.int (0 : Int32)), (.ref b2)])) _
    exact kt)
  obtain ⟨cl9, Ar9, q9, S9, M9, H9, G9⟩ := V2
  have hin9 : ¬ ((0 : Int32) < 0 ∨ cl9.slots.size ≤ ((0 : Int32)).toNatClampNeg) := inb_of S9 ⟨by decide, by decide⟩
  obtain ⟨T9, h9, X9, e9, W9, st9⟩ := stJ X2 hx hZ e2 Ar9 (j := (0 : Int32)) hin9 (g := (mkF m 43 #[.val (.int (1 : Int32)), .val (.long v0), .second, .val (.long v1), .second, .val (.long v2), .second, .val (.long v3), .second, .val (.int (1 : Int32)), .val (.ref b2), .val (.int (0 : Int32))] [(.long v0), (.int (0 : Int32)), (.ref b2)])) rfl rfl (hb hby d1_43)
  have f10 := (f5).wr W9 ((Or.inr (Nat.le_trans ((Keep.refl h0 [])).1 (Nat.le_of_eq g2.symm))))
  have Va9 := Arv.set Ar9 q9 S9 M9 H9 G9 rfl W9 0 rfl (Nat.le_of_ble_eq_true rfl)
  have Nf9 := Fr.snoc X9 N0 gz3
  have Zf9 : n0 ≤ h9.size := Nat.le_trans Zf6 (Keep.of_wr W9).1
  have pre11 : ∀ t, Steps p.tables e below (T9.setTop (mkF m 44 #[.val (.int (1 : Int32)), .val (.long v0), .second, .val (.long v1), .second, .val (.long v2), .second, .val (.long v3), .second, .val (.int (1 : Int32)), .val (.ref b2), .val (.int (0 : Int32))] [])) t → Steps p.tables e below (s₁.setTop (entryFrame m #[(.int (1 : Int32)), (.long v0), (.long v1), (.long v2), (.long v3)] 12)) t := fun t kt => pre8 t (st9 _ kt)
  have pre12 : ∀ t, Steps p.tables e below (T9.setTop (mkF m 97 #[.val (.int (1 : Int32)), .val (.long v0), .second, .val (.long v1), .second, .val (.long v2), .second, .val (.long v3), .second, .val (.int (1 : Int32)), .val (.ref b2), .val (.int (1 : Int32))] [(.ref b2)])) t → Steps p.tables e below (s₁.setTop (entryFrame m #[(.int (1 : Int32)), (.long v0), (.long v1), (.long v2), (.long v3)] 12)) t := fun t kt => pre11 t (by
    refine XS.iinc X9.here hx rfl (hb hby d1_44) rfl (l' := #[.val (.int (1 : Int32)), .val (.long v0), .second, .val (.long v1), .second, .val (.long v2), .second, .val (.long v3), .second, .val (.int (1 : Int32)), .val (.ref b2), .val (.int (1 : Int32))]) rfl ?_
    show Steps p.tables e below (T9.setTop (mkF m 47 #[.val (.int (1 : Int32)), .val (.long v0), .second, .val (.long v1), .second, .val (.long v2), .second, .val (.long v3), .second, .val (.int (1 : Int32)), .val (.ref b2), .val (.int (1 : Int32))] [])) _
    refine XS.iloadN X9.here hx rfl (hb hby d1_47) rfl ?_
    show Steps p.tables e below (T9.setTop (mkF m 48 #[.val (.int (1 : Int32)), .val (.long v0), .second, .val (.long v1), .second, .val (.long v2), .second, .val (.long v3), .second, .val (.int (1 : Int32)), .val (.ref b2), .val (.int (1 : Int32))] [(.int (1 : Int32))])) _
    refine XS.iconst X9.here hx rfl (hb hby d1_48) ?_
    show Steps p.tables e below (T9.setTop (mkF m 49 #[.val (.int (1 : Int32)), .val (.long v0), .second, .val (.long v1), .second, .val (.long v2), .second, .val (.long v3), .second, .val (.int (1 : Int32)), .val (.ref b2), .val (.int (1 : Int32))] [(.int (2 : Int32)), (.int (1 : Int32))])) _
    refine XS.iand X9.here hx rfl (hb hby d1_49) rfl ?_
    show Steps p.tables e below (T9.setTop (mkF m 50 #[.val (.int (1 : Int32)), .val (.long v0), .second, .val (.long v1), .second, .val (.long v2), .second, .val (.long v3), .second, .val (.int (1 : Int32)), .val (.ref b2), .val (.int (1 : Int32))] [(.int (0 : Int32))])) _
    refine XS.ifYes X9.here hx rfl (pc0 := 50) (pc' := 62) rfl (hb hby d1_50) rfl ((if0 _ _).trans (teq (by decide : (0 : Int32) = (0 : Int32))).1) (by decide) (by decide) ?_
    show Steps p.tables e below (T9.setTop (mkF m 62 #[.val (.int (1 : Int32)), .val (.long v0), .second, .val (.long v1), .second, .val (.long v2), .second, .val (.long v3), .second, .val (.int (1 : Int32)), .val (.ref b2), .val (.int (1 : Int32))] [])) _
    refine XS.iloadN X9.here hx rfl (hb hby d1_62) rfl ?_
    show Steps p.tables e below (T9.setTop (mkF m 63 #[.val (.int (1 : Int32)), .val (.long v0), .second, .val (.long v1), .second, .val (.long v2), .second, .val (.long v3), .second, .val (.int (1 : Int32)), .val (.ref b2), .val (.int (1 : Int32))] [(.int (1 : Int32))])) _
    refine XS.iconst X9.here hx rfl (hb hby d1_63) ?_
    show Steps p.tables e below (T9.setTop (mkF m 64 #[.val (.int (1 : Int32)), .val (.long v0), .second, .val (.long v1), .second, .val (.long v2), .second, .val (.long v3), .second, .val (.int (1 : Int32)), .val (.ref b2), .val (.int (1 : Int32))] [(.int (4 : Int32)), (.int (1 : Int32))])) _
    refine XS.iand X9.here hx rfl (hb hby d1_64) rfl ?_
    show Steps p.tables e below (T9.setTop (mkF m 65 #[.val (.int (1 : Int32)), .val (.long v0), .second, .val (.long v1), .second, .val (.long v2), .second, .val (.long v3), .second, .val (.int (1 : Int32)), .val (.ref b2), .val (.int (1 : Int32))] [(.int (0 : Int32))])) _
    refine XS.ifYes X9.here hx rfl (pc0 := 65) (pc' := 78) rfl (hb hby d1_65) rfl ((if0 _ _).trans (teq (by decide : (0 : Int32) = (0 : Int32))).1) (by decide) (by decide) ?_
    show Steps p.tables e below (T9.setTop (mkF m 78 #[.val (.int (1 : Int32)), .val (.long v0), .second, .val (.long v1), .second, .val (.long v2), .second, .val (.long v3), .second, .val (.int (1 : Int32)), .val (.ref b2), .val (.int (1 : Int32))] [])) _
    refine XS.iloadN X9.here hx rfl (hb hby d1_78) rfl ?_
    show Steps p.tables e below (T9.setTop (mkF m 79 #[.val (.int (1 : Int32)), .val (.long v0), .second, .val (.long v1), .second, .val (.long v2), .second, .val (.long v3), .second, .val (.int (1 : Int32)), .val (.ref b2), .val (.int (1 : Int32))] [(.int (1 : Int32))])) _
    refine XS.bipush X9.here hx rfl (hb hby d1_79) ?_
    show Steps p.tables e below (T9.setTop (mkF m 81 #[.val (.int (1 : Int32)), .val (.long v0), .second, .val (.long v1), .second, .val (.long v2), .second, .val (.long v3), .second, .val (.int (1 : Int32)), .val (.ref b2), .val (.int (1 : Int32))] [(.int (8 : Int32)), (.int (1 : Int32))])) _
    refine XS.iand X9.here hx rfl (hb hby d1_81) rfl ?_
    show Steps p.tables e below (T9.setTop (mkF m 82 #[.val (.int (1 : Int32)), .val (.long v0), .second, .val (.long v1), .second, .val (.long v2), .second, .val (.long v3), .second, .val (.int (1 : Int32)), .val (.ref b2), .val (.int (1 : Int32))] [(.int (0 : Int32))])) _
    refine XS.ifYes X9.here hx rfl (pc0 := 82) (pc' := 95) rfl (hb hby d1_82) rfl ((if0 _ _).trans (teq (by decide : (0 : Int32) = (0 : Int32))).1) (by decide) (by decide) ?_
    show Steps p.tables e below (T9.setTop (mkF m 95 #[.val (.int (1 : Int32)), .val (.long v0), .second, .val (.long v1), .second, .val (.long v2), .second, .val (.long v3), .second, .val (.int (1 : Int32)), .val (.ref b2), .val (.int (1 : Int32))] [])) _
    refine XS.aload X9.here hx rfl (hb hby d1_95) rfl rfl ?_
    show Steps p.tables e below (T9.setTop (mkF m 97 #[.val (.int (1 : Int32)), .val (.long v0), .second, .val (.long v1), .second, .val (.long v2), .second, .val (.long v3), .second, .val (.int (1 : Int32)), .val (.ref b2), .val (.int (1 : Int32))] [(.ref b2)])) _
    exact kt)
  obtain ⟨fs, hr, hrun, hended, hW, hsame⟩ := X9.leave (v := (some (.ref b2))) (fun h => by rw [Bd.returns] at h; cases h)
  refine ⟨_, _, pre12 _ ?_, hrun, hended, _, _, rfl, ?_, ⟨_, rfl⟩, hW, hsame.mono (by decide) (by decide)⟩
  · exact retOut X9 hx Bd.returns rfl (Or.inr (Or.inr (Or.inr (Or.inr ⟨rfl, rfl, rfl⟩)))) (hb hby d1_97) hr
  · show QP Z [v0] h0 n0 _ T9.heap _
    rw [e9]
    exact ⟨_, rfl, Nf9, f10, gz3, (sz2), own_lg (xs := [v0]) Va9 rfl (by simp)⟩
theorem ef_rmP_2 (m : MethodId) (x0 : Int32) (x1 : Int64) (x2 : Int64) (x3 : Int64) (x4 : Int64) : entryFrame m #[(.int x0), (.long x1), (.long x2), (.long x3), (.long x4)] 12 = mkF m 0 #[.val (.int x0), .val (.long x1), .second, .val (.long x2), .second, .val (.long x3), .second, .val (.long x4), .second, .unset, .unset, .unset] [] := by first | (simp [entryFrame, mkF, argsToLocals, Value.category]; done) | rfl
theorem d1_53 : decode method_3_code 53 = .ok (.aload 10, 2) := by decide +kernel
theorem d1_55 : decode method_3_code 55 = .ok (.iload 11, 2) := by decide +kernel
theorem d1_57 : decode method_3_code 57 = .ok (.lload_n 3, 1) := by decide +kernel
theorem d1_58 : decode method_3_code 58 = .ok (.lastore, 1) := by decide +kernel
theorem d1_59 : decode method_3_code 59 = .ok (.iinc 11 1, 3) := by decide +kernel
set_option maxRecDepth 65536 in
set_option maxHeartbeats 40000000 in
theorem rmP_2 (l : Launch) (Z : State) (a0 : Array Value) (hw : ∀ d ∈ tables_1, d.before a0 Z = true) (ws : List Jvm.Cond) (v0 v1 v2 v3 : Int64) (h0 : Heap) (n0 : Nat) (Z0 : n0 ≤ h0.size)  :
    MetFree l (⟨"com/example/nest3/nest3/SubsetWithinPinLaw", "pick", "(IJJJJ)[J"⟩ : MethodName) (head1 (Jvm.Cond.code (⟨"com/example/nest3/nest3/SubsetWithinPinLaw", "pick", "(IJJJJ)[J"⟩ : MethodName) method_3_code 12 (some (.array .long)) :: ws) ({ frames := 0, cells := 1, slots := 4, locals := 0 } : Room)) (fun a U => a = #[(.int (2 : Int32)), (.long v0), (.long v1), (.long v2), (.long v3)] ∧ Z.Warmed39 U.vm ∧ U.heap = h0) (fun _ _ _ _ _ => True) (fun _ U o U' => ∃ v L, o = .returned v ∧ QP Z [v1] h0 n0 v U'.heap L ∧ FrameEnd U o U' L ({ frames := 0, cells := 1, slots := 4, locals := 0 } : Room).cells ({ frames := 0, cells := 1, slots := 4, locals := 0 } : Room).slots) := by
  refine MetFree.of_bodySF (plainFor_of_name pn_com_example_nest3_nest3_SubsetWithinPinLaw) hisR ?_
  intro p e s m args below meth c s₁ Bd hml0 hP hK
  obtain ⟨rfl, hZ, hh⟩ := hP
  have hx := Bd.exec
  have hby := Bd.bytes
  have hml : c.maxLocals = 12 := hml0
  have hown : s.vm.findClass "com/example/nest3/nest3/SubsetWithinPinLaw" = some m.cls := findClass_of_methodNamed Bd.named
  have hnm := (name_of_methodNamed Bd.named Bd.method).1
  have X0 : Stand p l e ({ frames := 0, cells := 1, slots := 4, locals := 0 } : Room) s m #[(.int (2 : Int32)), (.long v0), (.long v1), (.long v2), (.long v3)] below meth c s₁ [] 0 0 := Stand.of_body Bd
  have e0 : s₁.heap = h0 := by rw [← hh, Bd.state]; rfl
  have N0 := Fr.nil n0
  have pre0 : ∀ t, Steps p.tables e below (s₁.setTop (mkF m 0 #[.val (.int (2 : Int32)), .val (.long v0), .second, .val (.long v1), .second, .val (.long v2), .second, .val (.long v3), .second, .unset, .unset, .unset] [])) t → Steps p.tables e below (s₁.setTop (entryFrame m #[(.int (2 : Int32)), (.long v0), (.long v1), (.long v2), (.long v3)] 12)) t := fun t kt => castTop (ef_rmP_2 m (2 : Int32) v0 v1 v2 v3) kt
  have pre1 : ∀ t, Steps p.tables e below (s₁.setTop (mkF m 25 #[.val (.int (2 : Int32)), .val (.long v0), .second, .val (.long v1), .second, .val (.long v2), .second, .val (.long v3), .second, .val (.int (1 : Int32)), .unset, .unset] [(.int (1 : Int32))])) t → Steps p.tables e below (s₁.setTop (entryFrame m #[(.int (2 : Int32)), (.long v0), (.long v1), (.long v2), (.long v3)] 12)) t := fun t kt => pre0 t (by
    refine XS.iloadN X0.here hx rfl (hb hby d1_0) rfl ?_
    show Steps p.tables e below (s₁.setTop (mkF m 1 #[.val (.int (2 : Int32)), .val (.long v0), .second, .val (.long v1), .second, .val (.long v2), .second, .val (.long v3), .second, .unset, .unset, .unset] [(.int (2 : Int32))])) _
    refine XS.iconst X0.here hx rfl (hb hby d1_1) ?_
    show Steps p.tables e below (s₁.setTop (mkF m 2 #[.val (.int (2 : Int32)), .val (.long v0), .second, .val (.long v1), .second, .val (.long v2), .second, .val (.long v3), .second, .unset, .unset, .unset] [(.int (1 : Int32)), (.int (2 : Int32))])) _
    refine XS.iand X0.here hx rfl (hb hby d1_2) rfl ?_
    show Steps p.tables e below (s₁.setTop (mkF m 3 #[.val (.int (2 : Int32)), .val (.long v0), .second, .val (.long v1), .second, .val (.long v2), .second, .val (.long v3), .second, .unset, .unset, .unset] [(.int (0 : Int32))])) _
    refine XS.iloadN X0.here hx rfl (hb hby d1_3) rfl ?_
    show Steps p.tables e below (s₁.setTop (mkF m 4 #[.val (.int (2 : Int32)), .val (.long v0), .second, .val (.long v1), .second, .val (.long v2), .second, .val (.long v3), .second, .unset, .unset, .unset] [(.int (2 : Int32)), (.int (0 : Int32))])) _
    refine XS.iconst X0.here hx rfl (hb hby d1_4) ?_
    show Steps p.tables e below (s₁.setTop (mkF m 5 #[.val (.int (2 : Int32)), .val (.long v0), .second, .val (.long v1), .second, .val (.long v2), .second, .val (.long v3), .second, .unset, .unset, .unset] [(.int (1 : Int32)), (.int (2 : Int32)), (.int (0 : Int32))])) _
    refine XS.iushr X0.here hx rfl (hb hby d1_5) rfl ?_
    show Steps p.tables e below (s₁.setTop (mkF m 6 #[.val (.int (2 : Int32)), .val (.long v0), .second, .val (.long v1), .second, .val (.long v2), .second, .val (.long v3), .second, .unset, .unset, .unset] [(.int (1 : Int32)), (.int (0 : Int32))])) _
    refine XS.iconst X0.here hx rfl (hb hby d1_6) ?_
    show Steps p.tables e below (s₁.setTop (mkF m 7 #[.val (.int (2 : Int32)), .val (.long v0), .second, .val (.long v1), .second, .val (.long v2), .second, .val (.long v3), .second, .unset, .unset, .unset] [(.int (1 : Int32)), (.int (1 : Int32)), (.int (0 : Int32))])) _
    refine XS.iand X0.here hx rfl (hb hby d1_7) rfl ?_
    show Steps p.tables e below (s₁.setTop (mkF m 8 #[.val (.int (2 : Int32)), .val (.long v0), .second, .val (.long v1), .second, .val (.long v2), .second, .val (.long v3), .second, .unset, .unset, .unset] [(.int (1 : Int32)), (.int (0 : Int32))])) _
    refine XS.iadd X0.here hx rfl (hb hby d1_8) rfl ?_
    show Steps p.tables e below (s₁.setTop (mkF m 9 #[.val (.int (2 : Int32)), .val (.long v0), .second, .val (.long v1), .second, .val (.long v2), .second, .val (.long v3), .second, .unset, .unset, .unset] [(.int (1 : Int32))])) _
    refine XS.iloadN X0.here hx rfl (hb hby d1_9) rfl ?_
    show Steps p.tables e below (s₁.setTop (mkF m 10 #[.val (.int (2 : Int32)), .val (.long v0), .second, .val (.long v1), .second, .val (.long v2), .second, .val (.long v3), .second, .unset, .unset, .unset] [(.int (2 : Int32)), (.int (1 : Int32))])) _
    refine XS.iconst X0.here hx rfl (hb hby d1_10) ?_
    show Steps p.tables e below (s₁.setTop (mkF m 11 #[.val (.int (2 : Int32)), .val (.long v0), .second, .val (.long v1), .second, .val (.long v2), .second, .val (.long v3), .second, .unset, .unset, .unset] [(.int (2 : Int32)), (.int (2 : Int32)), (.int (1 : Int32))])) _
    refine XS.iushr X0.here hx rfl (hb hby d1_11) rfl ?_
    show Steps p.tables e below (s₁.setTop (mkF m 12 #[.val (.int (2 : Int32)), .val (.long v0), .second, .val (.long v1), .second, .val (.long v2), .second, .val (.long v3), .second, .unset, .unset, .unset] [(.int (0 : Int32)), (.int (1 : Int32))])) _
    refine XS.iconst X0.here hx rfl (hb hby d1_12) ?_
    show Steps p.tables e below (s₁.setTop (mkF m 13 #[.val (.int (2 : Int32)), .val (.long v0), .second, .val (.long v1), .second, .val (.long v2), .second, .val (.long v3), .second, .unset, .unset, .unset] [(.int (1 : Int32)), (.int (0 : Int32)), (.int (1 : Int32))])) _
    refine XS.iand X0.here hx rfl (hb hby d1_13) rfl ?_
    show Steps p.tables e below (s₁.setTop (mkF m 14 #[.val (.int (2 : Int32)), .val (.long v0), .second, .val (.long v1), .second, .val (.long v2), .second, .val (.long v3), .second, .unset, .unset, .unset] [(.int (0 : Int32)), (.int (1 : Int32))])) _
    refine XS.iadd X0.here hx rfl (hb hby d1_14) rfl ?_
    show Steps p.tables e below (s₁.setTop (mkF m 15 #[.val (.int (2 : Int32)), .val (.long v0), .second, .val (.long v1), .second, .val (.long v2), .second, .val (.long v3), .second, .unset, .unset, .unset] [(.int (1 : Int32))])) _
    refine XS.iloadN X0.here hx rfl (hb hby d1_15) rfl ?_
    show Steps p.tables e below (s₁.setTop (mkF m 16 #[.val (.int (2 : Int32)), .val (.long v0), .second, .val (.long v1), .second, .val (.long v2), .second, .val (.long v3), .second, .unset, .unset, .unset] [(.int (2 : Int32)), (.int (1 : Int32))])) _
    refine XS.iconst X0.here hx rfl (hb hby d1_16) ?_
    show Steps p.tables e below (s₁.setTop (mkF m 17 #[.val (.int (2 : Int32)), .val (.long v0), .second, .val (.long v1), .second, .val (.long v2), .second, .val (.long v3), .second, .unset, .unset, .unset] [(.int (3 : Int32)), (.int (2 : Int32)), (.int (1 : Int32))])) _
    refine XS.iushr X0.here hx rfl (hb hby d1_17) rfl ?_
    show Steps p.tables e below (s₁.setTop (mkF m 18 #[.val (.int (2 : Int32)), .val (.long v0), .second, .val (.long v1), .second, .val (.long v2), .second, .val (.long v3), .second, .unset, .unset, .unset] [(.int (0 : Int32)), (.int (1 : Int32))])) _
    refine XS.iconst X0.here hx rfl (hb hby d1_18) ?_
    show Steps p.tables e below (s₁.setTop (mkF m 19 #[.val (.int (2 : Int32)), .val (.long v0), .second, .val (.long v1), .second, .val (.long v2), .second, .val (.long v3), .second, .unset, .unset, .unset] [(.int (1 : Int32)), (.int (0 : Int32)), (.int (1 : Int32))])) _
    refine XS.iand X0.here hx rfl (hb hby d1_19) rfl ?_
    show Steps p.tables e below (s₁.setTop (mkF m 20 #[.val (.int (2 : Int32)), .val (.long v0), .second, .val (.long v1), .second, .val (.long v2), .second, .val (.long v3), .second, .unset, .unset, .unset] [(.int (0 : Int32)), (.int (1 : Int32))])) _
    refine XS.iadd X0.here hx rfl (hb hby d1_20) rfl ?_
    show Steps p.tables e below (s₁.setTop (mkF m 21 #[.val (.int (2 : Int32)), .val (.long v0), .second, .val (.long v1), .second, .val (.long v2), .second, .val (.long v3), .second, .unset, .unset, .unset] [(.int (1 : Int32))])) _
    refine XS.istore X0.here hx rfl (hb hby d1_21) rfl (l' := #[.val (.int (2 : Int32)), .val (.long v0), .second, .val (.long v1), .second, .val (.long v2), .second, .val (.long v3), .second, .val (.int (1 : Int32)), .unset, .unset]) rfl ?_
    show Steps p.tables e below (s₁.setTop (mkF m 23 #[.val (.int (2 : Int32)), .val (.long v0), .second, .val (.long v1), .second, .val (.long v2), .second, .val (.long v3), .second, .val (.int (1 : Int32)), .unset, .unset] [])) _
    refine XS.iload X0.here hx rfl (hb hby d1_23) rfl ?_
    show Steps p.tables e below (s₁.setTop (mkF m 25 #[.val (.int (2 : Int32)), .val (.long v0), .second, .val (.long v1), .second, .val (.long v2), .second, .val (.long v3), .second, .val (.int (1 : Int32)), .unset, .unset] [(.int (1 : Int32))])) _
    exact kt)
  obtain ⟨T2, h2, k2, X2, e2, E2, A2, st2⟩ := newP X0 hx hZ (hw _ (List.mem_of_getElem? (i := 7) rfl)) e0 (g := (mkF m 25 #[.val (.int (2 : Int32)), .val (.long v0), .second, .val (.long v1), .second, .val (.long v2), .second, .val (.long v3), .second, .val (.int (1 : Int32)), .unset, .unset] [(.int (1 : Int32))])) rfl (hb hby d1_25) rfl (by decide) (cap := 1) (by decide) (by decide) (by decide) (by decide)
  obtain ⟨b2, g2⟩ : ∃ z, z = h0.size := ⟨_, rfl⟩
  rw [← g2] at A2 st2
  have gz3 : n0 ≤ b2 := Nat.le_trans Z0 (Nat.le_of_eq g2.symm)
  have f5 := ((Keep.refl h0 [])).ext E2
  have Zf6 : n0 ≤ h2.size := Nat.le_trans Z0 E2.1
  have sz2 : h0.size ≤ b2 := Nat.le_of_eq g2.symm
  have V2 : Arv Z h2 b2 k2 .long (1 : Int32) [(.long (0 : Int64))] (.long (0 : Int64)) := (Arv.new A2 (by decide)).pad (pad_rep [] (.long (0 : Int64)) 1)
  have pre7 : ∀ t, Steps p.tables e below (T2.setTop (mkF m 27 #[.val (.int (2 : Int32)), .val (.long v0), .second, .val (.long v1), .second, .val (.long v2), .second, .val (.long v3), .second, .val (.int (1 : Int32)), .unset, .unset] [(.ref b2)])) t → Steps p.tables e below (s₁.setTop (entryFrame m #[(.int (2 : Int32)), (.long v0), (.long v1), (.long v2), (.long v3)] 12)) t := fun t kt => pre1 t (st2 _ kt)
  have pre8 : ∀ t, Steps p.tables e below (T2.setTop (mkF m 58 #[.val (.int (2 : Int32)), .val (.long v0), .second, .val (.long v1), .second, .val (.long v2), .second, .val (.long v3), .second, .val (.int (1 : Int32)), .val (.ref b2), .val (.int (0 : Int32))] [(.long v1), (.int (0 : Int32)), (.ref b2)])) t → Steps p.tables e below (s₁.setTop (entryFrame m #[(.int (2 : Int32)), (.long v0), (.long v1), (.long v2), (.long v3)] 12)) t := fun t kt => pre7 t (by
    refine XS.astore X2.here hx rfl (hb hby d1_27) rfl rfl (l' := #[.val (.int (2 : Int32)), .val (.long v0), .second, .val (.long v1), .second, .val (.long v2), .second, .val (.long v3), .second, .val (.int (1 : Int32)), .val (.ref b2), .unset]) rfl ?_
    show Steps p.tables e below (T2.setTop (mkF m 29 #[.val (.int (2 : Int32)), .val (.long v0), .second, .val (.long v1), .second, .val (.long v2), .second, .val (.long v3), .second, .val (.int (1 : Int32)), .val (.ref b2), .unset] [])) _
    refine XS.iconst X2.here hx rfl (hb hby d1_29) ?_
    show Steps p.tables e below (T2.setTop (mkF m 30 #[.val (.int (2 : Int32)), .val (.long v0), .second, .val (.long v1), .second, .val (.long v2), .second, .val (.long v3), .second, .val (.int (1 : Int32)), .val (.ref b2), .unset] [(.int (0 : Int32))])) _
    refine XS.istore X2.here hx rfl (hb hby d1_30) rfl (l' := #[.val (.int (2 : Int32)), .val (.long v0), .second, .val (.long v1), .second, .val (.long v2), .second, .val (.long v3), .second, .val (.int (1 : Int32)), .val (.ref b2), .val (.int (0 : Int32))]) rfl ?_
    show Steps p.tables e below (T2.setTop (mkF m 32 #[.val (.int (2 : Int32)), .val (.long v0), .second, .val (.long v1), .second, .val (.long v2), .second, .val (.long v3), .second, .val (.int (1 : Int32)), .val (.ref b2), .val (.int (0 : Int32))] [])) _
    refine XS.iloadN X2.here hx rfl (hb hby d1_32) rfl ?_
    show Steps p.tables e below (T2.setTop (mkF m 33 #[.val (.int (2 : Int32)), .val (.long v0), .second, .val (.long v1), .second, .val (.long v2), .second, .val (.long v3), .second, .val (.int (1 : Int32)), .val (.ref b2), .val (.int (0 : Int32))] [(.int (2 : Int32))])) _
    refine XS.iconst X2.here hx rfl (hb hby d1_33) ?_
    show Steps p.tables e below (T2.setTop (mkF m 34 #[.val (.int (2 : Int32)), .val (.long v0), .second, .val (.long v1), .second, .val (.long v2), .second, .val (.long v3), .second, .val (.int (1 : Int32)), .val (.ref b2), .val (.int (0 : Int32))] [(.int (1 : Int32)), (.int (2 : Int32))])) _
    refine XS.iand X2.here hx rfl (hb hby d1_34) rfl ?_
    show Steps p.tables e below (T2.setTop (mkF m 35 #[.val (.int (2 : Int32)), .val (.long v0), .second, .val (.long v1), .second, .val (.long v2), .second, .val (.long v3), .second, .val (.int (1 : Int32)), .val (.ref b2), .val (.int (0 : Int32))] [(.int (0 : Int32))])) _
    refine XS.ifYes X2.here hx rfl (pc0 := 35) (pc' := 47) rfl (hb hby d1_35) rfl ((if0 _ _).trans (teq (by decide : (0 : Int32) = (0 : Int32))).1) (by decide) (by decide) ?_
    show Steps p.tables e below (T2.setTop (mkF m 47 #[.val (.int (2 : Int32)), .val (.long v0), .second, .val (.long v1), .second, .val (.long v2), .second, .val (.long v3), .second, .val (.int (1 : Int32)), .val (.ref b2), .val (.int (0 : Int32))] [])) _
    refine XS.iloadN X2.here hx rfl (hb hby d1_47) rfl ?_
    show Steps p.tables e below (T2.setTop (mkF m 48 #[.val (.int (2 : Int32)), .val (.long v0), .second, .val (.long v1), .second, .val (.long v2), .second, .val (.long v3), .second, .val (.int (1 : Int32)), .val (.ref b2), .val (.int (0 : Int32))] [(.int (2 : Int32))])) _
    refine XS.iconst X2.here hx rfl (hb hby d1_48) ?_
    show Steps p.tables e below (T2.setTop (mkF m 49 #[.val (.int (2 : Int32)), .val (.long v0), .second, .val (.long v1), .second, .val (.long v2), .second, .val (.long v3), .second, .val (.int (1 : Int32)), .val (.ref b2), .val (.int (0 : Int32))] [(.int (2 : Int32)), (.int (2 : Int32))])) _
    refine XS.iand X2.here hx rfl (hb hby d1_49) rfl ?_
    show Steps p.tables e below (T2.setTop (mkF m 50 #[.val (.int (2 : Int32)), .val (.long v0), .second, .val (.long v1), .second, .val (.long v2), .second, .val (.long v3), .second, .val (.int (1 : Int32)), .val (.ref b2), .val (.int (0 : Int32))] [(.int (2 : Int32))])) _
    refine XS.ifNo X2.here hx rfl (hb hby d1_50) rfl ((if0 _ _).trans (feq (by decide : ¬ ((2 : Int32) = (0 : Int32)))).1) ?_
    show Steps p.tables e below (T2.setTop (mkF m 53 #[.val (.int (2 : Int32)), .val (.long v0), .second, .val (.long v1), .second, .val (.long v2), .second, .val (.long v3), .second, .val (.int (1 : Int32)), .val (.ref b2), .val (.int (0 : Int32))] [])) _
    refine XS.aload X2.here hx rfl (hb hby d1_53) rfl rfl ?_
    show Steps p.tables e below (T2.setTop (mkF m 55 #[.val (.int (2 : Int32)), .val (.long v0), .second, .val (.long v1), .second, .val (.long v2), .second, .val (.long v3), .second, .val (.int (1 : Int32)), .val (.ref b2), .val (.int (0 : Int32))] [(.ref b2)])) _
    refine XS.iload X2.here hx rfl (hb hby d1_55) rfl ?_
    show Steps p.tables e below (T2.setTop (mkF m 57 #[.val (.int (2 : Int32)), .val (.long v0), .second, .val (.long v1), .second, .val (.long v2), .second, .val (.long v3), .second, .val (.int (1 : Int32)), .val (.ref b2), .val (.int (0 : Int32))] [(.int (0 : Int32)), (.ref b2)])) _
    refine XS.lloadN X2.here hx rfl (hb hby d1_57) rfl ?_
    show Steps p.tables e below (T2.setTop (mkF m 58 #[.val (.int (2 : Int32)), .val (.long v0), .second, .val (.long v1), .second, .val (.long v2), .second, .val (.long v3), .second, .val (.int (1 : Int32)), .val (.ref b2), .val (.int (0 : Int32))] [(.long v1), (.int (0 : Int32)), (.ref b2)])) _
    exact kt)
  obtain ⟨cl9, Ar9, q9, S9, M9, H9, G9⟩ := V2
  have hin9 : ¬ ((0 : Int32) < 0 ∨ cl9.slots.size ≤ ((0 : Int32)).toNatClampNeg) := inb_of S9 ⟨by decide, by decide⟩
  obtain ⟨T9, h9, X9, e9, W9, st9⟩ := stJ X2 hx hZ e2 Ar9 (j := (0 : Int32)) hin9 (g := (mkF m 58 #[.val (.int (2 : Int32)), .val (.long v0), .second, .val (.long v1), .second, .val (.long v2), .second, .val (.long v3), .second, .val (.int (1 : Int32)), .val (.ref b2), .val (.int (0 : Int32))] [(.long v1), (.int (0 : Int32)), (.ref b2)])) rfl rfl (hb hby d1_58)
  have f10 := (f5).wr W9 ((Or.inr (Nat.le_trans ((Keep.refl h0 [])).1 (Nat.le_of_eq g2.symm))))
  have Va9 := Arv.set Ar9 q9 S9 M9 H9 G9 rfl W9 0 rfl (Nat.le_of_ble_eq_true rfl)
  have Nf9 := Fr.snoc X9 N0 gz3
  have Zf9 : n0 ≤ h9.size := Nat.le_trans Zf6 (Keep.of_wr W9).1
  have pre11 : ∀ t, Steps p.tables e below (T9.setTop (mkF m 59 #[.val (.int (2 : Int32)), .val (.long v0), .second, .val (.long v1), .second, .val (.long v2), .second, .val (.long v3), .second, .val (.int (1 : Int32)), .val (.ref b2), .val (.int (0 : Int32))] [])) t → Steps p.tables e below (s₁.setTop (entryFrame m #[(.int (2 : Int32)), (.long v0), (.long v1), (.long v2), (.long v3)] 12)) t := fun t kt => pre8 t (st9 _ kt)
  have pre12 : ∀ t, Steps p.tables e below (T9.setTop (mkF m 97 #[.val (.int (2 : Int32)), .val (.long v0), .second, .val (.long v1), .second, .val (.long v2), .second, .val (.long v3), .second, .val (.int (1 : Int32)), .val (.ref b2), .val (.int (1 : Int32))] [(.ref b2)])) t → Steps p.tables e below (s₁.setTop (entryFrame m #[(.int (2 : Int32)), (.long v0), (.long v1), (.long v2), (.long v3)] 12)) t := fun t kt => pre11 t (by
    refine XS.iinc X9.here hx rfl (hb hby d1_59) rfl (l' := #[.val (.int (2 : Int32)), .val (.long v0), .second, .val (.long v1), .second, .val (.long v2), .second, .val (.long v3), .second, .val (.int (1 : Int32)), .val (.ref b2), .val (.int (1 : Int32))]) rfl ?_
    show Steps p.tables e below (T9.setTop (mkF m 62 #[.val (.int (2 : Int32)), .val (.long v0), .second, .val (.long v1), .second, .val (.long v2), .second, .val (.long v3), .second, .val (.int (1 : Int32)), .val (.ref b2), .val (.int (1 : Int32))] [])) _
    refine XS.iloadN X9.here hx rfl (hb hby d1_62) rfl ?_
    show Steps p.tables e below (T9.setTop (mkF m 63 #[.val (.int (2 : Int32)), .val (.long v0), .second, .val (.long v1), .second, .val (.long v2), .second, .val (.long v3), .second, .val (.int (1 : Int32)), .val (.ref b2), .val (.int (1 : Int32))] [(.int (2 : Int32))])) _
    refine XS.iconst X9.here hx rfl (hb hby d1_63) ?_
    show Steps p.tables e below (T9.setTop (mkF m 64 #[.val (.int (2 : Int32)), .val (.long v0), .second, .val (.long v1), .second, .val (.long v2), .second, .val (.long v3), .second, .val (.int (1 : Int32)), .val (.ref b2), .val (.int (1 : Int32))] [(.int (4 : Int32)), (.int (2 : Int32))])) _
    refine XS.iand X9.here hx rfl (hb hby d1_64) rfl ?_
    show Steps p.tables e below (T9.setTop (mkF m 65 #[.val (.int (2 : Int32)), .val (.long v0), .second, .val (.long v1), .second, .val (.long v2), .second, .val (.long v3), .second, .val (.int (1 : Int32)), .val (.ref b2), .val (.int (1 : Int32))] [(.int (0 : Int32))])) _
    refine XS.ifYes X9.here hx rfl (pc0 := 65) (pc' := 78) rfl (hb hby d1_65) rfl ((if0 _ _).trans (teq (by decide : (0 : Int32) = (0 : Int32))).1) (by decide) (by decide) ?_
    show Steps p.tables e below (T9.setTop (mkF m 78 #[.val (.int (2 : Int32)), .val (.long v0), .second, .val (.long v1), .second, .val (.long v2), .second, .val (.long v3), .second, .val (.int (1 : Int32)), .val (.ref b2), .val (.int (1 : Int32))] [])) _
    refine XS.iloadN X9.here hx rfl (hb hby d1_78) rfl ?_
    show Steps p.tables e below (T9.setTop (mkF m 79 #[.val (.int (2 : Int32)), .val (.long v0), .second, .val (.long v1), .second, .val (.long v2), .second, .val (.long v3), .second, .val (.int (1 : Int32)), .val (.ref b2), .val (.int (1 : Int32))] [(.int (2 : Int32))])) _
    refine XS.bipush X9.here hx rfl (hb hby d1_79) ?_
    show Steps p.tables e below (T9.setTop (mkF m 81 #[.val (.int (2 : Int32)), .val (.long v0), .second, .val (.long v1), .second, .val (.long v2), .second, .val (.long v3), .second, .val (.int (1 : Int32)), .val (.ref b2), .val (.int (1 : Int32))] [(.int (8 : Int32)), (.int (2 : Int32))])) _
    refine XS.iand X9.here hx rfl (hb hby d1_81) rfl ?_
    show Steps p.tables e below (T9.setTop (mkF m 82 #[.val (.int (2 : Int32)), .val (.long v0), .second, .val (.long v1), .second, .val (.long v2), .second, .val (.long v3), .second, .val (.int (1 : Int32)), .val (.ref b2), .val (.int (1 : Int32))] [(.int (0 : Int32))])) _
    refine XS.ifYes X9.here hx rfl (pc0 := 82) (pc' := 95) rfl (hb hby d1_82) rfl ((if0 _ _).trans (teq (by decide : (0 : Int32) = (0 : Int32))).1) (by decide) (by decide) ?_
    show Steps p.tables e below (T9.setTop (mkF m 95 #[.val (.int (2 : Int32)), .val (.long v0), .second, .val (.long v1), .second, .val (.long v2), .second, .val (.long v3), .second, .val (.int (1 : Int32)), .val (.ref b2), .val (.int (1 : Int32))] [])) _
    refine XS.aload X9.here hx rfl (hb hby d1_95) rfl rfl ?_
    show Steps p.tables e below (T9.setTop (mkF m 97 #[.val (.int (2 : Int32)), .val (.long v0), .second, .val (.long v1), .second, .val (.long v2), .second, .val (.long v3), .second, .val (.int (1 : Int32)), .val (.ref b2), .val (.int (1 : Int32))] [(.ref b2)])) _
    exact kt)
  obtain ⟨fs, hr, hrun, hended, hW, hsame⟩ := X9.leave (v := (some (.ref b2))) (fun h => by rw [Bd.returns] at h; cases h)
  refine ⟨_, _, pre12 _ ?_, hrun, hended, _, _, rfl, ?_, ⟨_, rfl⟩, hW, hsame.mono (by decide) (by decide)⟩
  · exact retOut X9 hx Bd.returns rfl (Or.inr (Or.inr (Or.inr (Or.inr ⟨rfl, rfl, rfl⟩)))) (hb hby d1_97) hr
  · show QP Z [v1] h0 n0 _ T9.heap _
    rw [e9]
    exact ⟨_, rfl, Nf9, f10, gz3, (sz2), own_lg (xs := [v1]) Va9 rfl (by simp)⟩
theorem ef_rmP_3 (m : MethodId) (x0 : Int32) (x1 : Int64) (x2 : Int64) (x3 : Int64) (x4 : Int64) : entryFrame m #[(.int x0), (.long x1), (.long x2), (.long x3), (.long x4)] 12 = mkF m 0 #[.val (.int x0), .val (.long x1), .second, .val (.long x2), .second, .val (.long x3), .second, .val (.long x4), .second, .unset, .unset, .unset] [] := by first | (simp [entryFrame, mkF, argsToLocals, Value.category]; done) | rfl
set_option maxRecDepth 65536 in
set_option maxHeartbeats 40000000 in
theorem rmP_3 (l : Launch) (Z : State) (a0 : Array Value) (hw : ∀ d ∈ tables_1, d.before a0 Z = true) (ws : List Jvm.Cond) (v0 v1 v2 v3 : Int64) (h0 : Heap) (n0 : Nat) (Z0 : n0 ≤ h0.size)  :
    MetFree l (⟨"com/example/nest3/nest3/SubsetWithinPinLaw", "pick", "(IJJJJ)[J"⟩ : MethodName) (head1 (Jvm.Cond.code (⟨"com/example/nest3/nest3/SubsetWithinPinLaw", "pick", "(IJJJJ)[J"⟩ : MethodName) method_3_code 12 (some (.array .long)) :: ws) ({ frames := 0, cells := 1, slots := 4, locals := 0 } : Room)) (fun a U => a = #[(.int (3 : Int32)), (.long v0), (.long v1), (.long v2), (.long v3)] ∧ Z.Warmed39 U.vm ∧ U.heap = h0) (fun _ _ _ _ _ => True) (fun _ U o U' => ∃ v L, o = .returned v ∧ QP Z [v0, v1] h0 n0 v U'.heap L ∧ FrameEnd U o U' L ({ frames := 0, cells := 1, slots := 4, locals := 0 } : Room).cells ({ frames := 0, cells := 1, slots := 4, locals := 0 } : Room).slots) := by
  refine MetFree.of_bodySF (plainFor_of_name pn_com_example_nest3_nest3_SubsetWithinPinLaw) hisR ?_
  intro p e s m args below meth c s₁ Bd hml0 hP hK
  obtain ⟨rfl, hZ, hh⟩ := hP
  have hx := Bd.exec
  have hby := Bd.bytes
  have hml : c.maxLocals = 12 := hml0
  have hown : s.vm.findClass "com/example/nest3/nest3/SubsetWithinPinLaw" = some m.cls := findClass_of_methodNamed Bd.named
  have hnm := (name_of_methodNamed Bd.named Bd.method).1
  have X0 : Stand p l e ({ frames := 0, cells := 1, slots := 4, locals := 0 } : Room) s m #[(.int (3 : Int32)), (.long v0), (.long v1), (.long v2), (.long v3)] below meth c s₁ [] 0 0 := Stand.of_body Bd
  have e0 : s₁.heap = h0 := by rw [← hh, Bd.state]; rfl
  have N0 := Fr.nil n0
  have pre0 : ∀ t, Steps p.tables e below (s₁.setTop (mkF m 0 #[.val (.int (3 : Int32)), .val (.long v0), .second, .val (.long v1), .second, .val (.long v2), .second, .val (.long v3), .second, .unset, .unset, .unset] [])) t → Steps p.tables e below (s₁.setTop (entryFrame m #[(.int (3 : Int32)), (.long v0), (.long v1), (.long v2), (.long v3)] 12)) t := fun t kt => castTop (ef_rmP_3 m (3 : Int32) v0 v1 v2 v3) kt
  have pre1 : ∀ t, Steps p.tables e below (s₁.setTop (mkF m 25 #[.val (.int (3 : Int32)), .val (.long v0), .second, .val (.long v1), .second, .val (.long v2), .second, .val (.long v3), .second, .val (.int (2 : Int32)), .unset, .unset] [(.int (2 : Int32))])) t → Steps p.tables e below (s₁.setTop (entryFrame m #[(.int (3 : Int32)), (.long v0), (.long v1), (.long v2), (.long v3)] 12)) t := fun t kt => pre0 t (by
    refine XS.iloadN X0.here hx rfl (hb hby d1_0) rfl ?_
    show Steps p.tables e below (s₁.setTop (mkF m 1 #[.val (.int (3 : Int32)), .val (.long v0), .second, .val (.long v1), .second, .val (.long v2), .second, .val (.long v3), .second, .unset, .unset, .unset] [(.int (3 : Int32))])) _
    refine XS.iconst X0.here hx rfl (hb hby d1_1) ?_
    show Steps p.tables e below (s₁.setTop (mkF m 2 #[.val (.int (3 : Int32)), .val (.long v0), .second, .val (.long v1), .second, .val (.long v2), .second, .val (.long v3), .second, .unset, .unset, .unset] [(.int (1 : Int32)), (.int (3 : Int32))])) _
    refine XS.iand X0.here hx rfl (hb hby d1_2) rfl ?_
    show Steps p.tables e below (s₁.setTop (mkF m 3 #[.val (.int (3 : Int32)), .val (.long v0), .second, .val (.long v1), .second, .val (.long v2), .second, .val (.long v3), .second, .unset, .unset, .unset] [(.int (1 : Int32))])) _
    refine XS.iloadN X0.here hx rfl (hb hby d1_3) rfl ?_
    show Steps p.tables e below (s₁.setTop (mkF m 4 #[.val (.int (3 : Int32)), .val (.long v0), .second, .val (.long v1), .second, .val (.long v2), .second, .val (.long v3), .second, .unset, .unset, .unset] [(.int (3 : Int32)), (.int (1 : Int32))])) _
    refine XS.iconst X0.here hx rfl (hb hby d1_4) ?_
    show Steps p.tables e below (s₁.setTop (mkF m 5 #[.val (.int (3 : Int32)), .val (.long v0), .second, .val (.long v1), .second, .val (.long v2), .second, .val (.long v3), .second, .unset, .unset, .unset] [(.int (1 : Int32)), (.int (3 : Int32)), (.int (1 : Int32))])) _
    refine XS.iushr X0.here hx rfl (hb hby d1_5) rfl ?_
    show Steps p.tables e below (s₁.setTop (mkF m 6 #[.val (.int (3 : Int32)), .val (.long v0), .second, .val (.long v1), .second, .val (.long v2), .second, .val (.long v3), .second, .unset, .unset, .unset] [(.int (1 : Int32)), (.int (1 : Int32))])) _
    refine XS.iconst X0.here hx rfl (hb hby d1_6) ?_
    show Steps p.tables e below (s₁.setTop (mkF m 7 #[.val (.int (3 : Int32)), .val (.long v0), .second, .val (.long v1), .second, .val (.long v2), .second, .val (.long v3), .second, .unset, .unset, .unset] [(.int (1 : Int32)), (.int (1 : Int32)), (.int (1 : Int32))])) _
    refine XS.iand X0.here hx rfl (hb hby d1_7) rfl ?_
    show Steps p.tables e below (s₁.setTop (mkF m 8 #[.val (.int (3 : Int32)), .val (.long v0), .second, .val (.long v1), .second, .val (.long v2), .second, .val (.long v3), .second, .unset, .unset, .unset] [(.int (1 : Int32)), (.int (1 : Int32))])) _
    refine XS.iadd X0.here hx rfl (hb hby d1_8) rfl ?_
    show Steps p.tables e below (s₁.setTop (mkF m 9 #[.val (.int (3 : Int32)), .val (.long v0), .second, .val (.long v1), .second, .val (.long v2), .second, .val (.long v3), .second, .unset, .unset, .unset] [(.int (2 : Int32))])) _
    refine XS.iloadN X0.here hx rfl (hb hby d1_9) rfl ?_
    show Steps p.tables e below (s₁.setTop (mkF m 10 #[.val (.int (3 : Int32)), .val (.long v0), .second, .val (.long v1), .second, .val (.long v2), .second, .val (.long v3), .second, .unset, .unset, .unset] [(.int (3 : Int32)), (.int (2 : Int32))])) _
    refine XS.iconst X0.here hx rfl (hb hby d1_10) ?_
    show Steps p.tables e below (s₁.setTop (mkF m 11 #[.val (.int (3 : Int32)), .val (.long v0), .second, .val (.long v1), .second, .val (.long v2), .second, .val (.long v3), .second, .unset, .unset, .unset] [(.int (2 : Int32)), (.int (3 : Int32)), (.int (2 : Int32))])) _
    refine XS.iushr X0.here hx rfl (hb hby d1_11) rfl ?_
    show Steps p.tables e below (s₁.setTop (mkF m 12 #[.val (.int (3 : Int32)), .val (.long v0), .second, .val (.long v1), .second, .val (.long v2), .second, .val (.long v3), .second, .unset, .unset, .unset] [(.int (0 : Int32)), (.int (2 : Int32))])) _
    refine XS.iconst X0.here hx rfl (hb hby d1_12) ?_
    show Steps p.tables e below (s₁.setTop (mkF m 13 #[.val (.int (3 : Int32)), .val (.long v0), .second, .val (.long v1), .second, .val (.long v2), .second, .val (.long v3), .second, .unset, .unset, .unset] [(.int (1 : Int32)), (.int (0 : Int32)), (.int (2 : Int32))])) _
    refine XS.iand X0.here hx rfl (hb hby d1_13) rfl ?_
    show Steps p.tables e below (s₁.setTop (mkF m 14 #[.val (.int (3 : Int32)), .val (.long v0), .second, .val (.long v1), .second, .val (.long v2), .second, .val (.long v3), .second, .unset, .unset, .unset] [(.int (0 : Int32)), (.int (2 : Int32))])) _
    refine XS.iadd X0.here hx rfl (hb hby d1_14) rfl ?_
    show Steps p.tables e below (s₁.setTop (mkF m 15 #[.val (.int (3 : Int32)), .val (.long v0), .second, .val (.long v1), .second, .val (.long v2), .second, .val (.long v3), .second, .unset, .unset, .unset] [(.int (2 : Int32))])) _
    refine XS.iloadN X0.here hx rfl (hb hby d1_15) rfl ?_
    show Steps p.tables e below (s₁.setTop (mkF m 16 #[.val (.int (3 : Int32)), .val (.long v0), .second, .val (.long v1), .second, .val (.long v2), .second, .val (.long v3), .second, .unset, .unset, .unset] [(.int (3 : Int32)), (.int (2 : Int32))])) _
    refine XS.iconst X0.here hx rfl (hb hby d1_16) ?_
    show Steps p.tables e below (s₁.setTop (mkF m 17 #[.val (.int (3 : Int32)), .val (.long v0), .second, .val (.long v1), .second, .val (.long v2), .second, .val (.long v3), .second, .unset, .unset, .unset] [(.int (3 : Int32)), (.int (3 : Int32)), (.int (2 : Int32))])) _
    refine XS.iushr X0.here hx rfl (hb hby d1_17) rfl ?_
    show Steps p.tables e below (s₁.setTop (mkF m 18 #[.val (.int (3 : Int32)), .val (.long v0), .second, .val (.long v1), .second, .val (.long v2), .second, .val (.long v3), .second, .unset, .unset, .unset] [(.int (0 : Int32)), (.int (2 : Int32))])) _
    refine XS.iconst X0.here hx rfl (hb hby d1_18) ?_
    show Steps p.tables e below (s₁.setTop (mkF m 19 #[.val (.int (3 : Int32)), .val (.long v0), .second, .val (.long v1), .second, .val (.long v2), .second, .val (.long v3), .second, .unset, .unset, .unset] [(.int (1 : Int32)), (.int (0 : Int32)), (.int (2 : Int32))])) _
    refine XS.iand X0.here hx rfl (hb hby d1_19) rfl ?_
    show Steps p.tables e below (s₁.setTop (mkF m 20 #[.val (.int (3 : Int32)), .val (.long v0), .second, .val (.long v1), .second, .val (.long v2), .second, .val (.long v3), .second, .unset, .unset, .unset] [(.int (0 : Int32)), (.int (2 : Int32))])) _
    refine XS.iadd X0.here hx rfl (hb hby d1_20) rfl ?_
    show Steps p.tables e below (s₁.setTop (mkF m 21 #[.val (.int (3 : Int32)), .val (.long v0), .second, .val (.long v1), .second, .val (.long v2), .second, .val (.long v3), .second, .unset, .unset, .unset] [(.int (2 : Int32))])) _
    refine XS.istore X0.here hx rfl (hb hby d1_21) rfl (l' := #[.val (.int (3 : Int32)), .val (.long v0), .second, .val (.long v1), .second, .val (.long v2), .second, .val (.long v3), .second, .val (.int (2 : Int32)), .unset, .unset]) rfl ?_
    show Steps p.tables e below (s₁.setTop (mkF m 23 #[.val (.int (3 : Int32)), .val (.long v0), .second, .val (.long v1), .second, .val (.long v2), .second, .val (.long v3), .second, .val (.int (2 : Int32)), .unset, .unset] [])) _
    refine XS.iload X0.here hx rfl (hb hby d1_23) rfl ?_
    show Steps p.tables e below (s₁.setTop (mkF m 25 #[.val (.int (3 : Int32)), .val (.long v0), .second, .val (.long v1), .second, .val (.long v2), .second, .val (.long v3), .second, .val (.int (2 : Int32)), .unset, .unset] [(.int (2 : Int32))])) _
    exact kt)
  obtain ⟨T2, h2, k2, X2, e2, E2, A2, st2⟩ := newP X0 hx hZ (hw _ (List.mem_of_getElem? (i := 7) rfl)) e0 (g := (mkF m 25 #[.val (.int (3 : Int32)), .val (.long v0), .second, .val (.long v1), .second, .val (.long v2), .second, .val (.long v3), .second, .val (.int (2 : Int32)), .unset, .unset] [(.int (2 : Int32))])) rfl (hb hby d1_25) rfl (by decide) (cap := 2) (by decide) (by decide) (by decide) (by decide)
  obtain ⟨b2, g2⟩ : ∃ z, z = h0.size := ⟨_, rfl⟩
  rw [← g2] at A2 st2
  have gz3 : n0 ≤ b2 := Nat.le_trans Z0 (Nat.le_of_eq g2.symm)
  have f5 := ((Keep.refl h0 [])).ext E2
  have Zf6 : n0 ≤ h2.size := Nat.le_trans Z0 E2.1
  have sz2 : h0.size ≤ b2 := Nat.le_of_eq g2.symm
  have V2 : Arv Z h2 b2 k2 .long (2 : Int32) [(.long (0 : Int64)), (.long (0 : Int64))] (.long (0 : Int64)) := (Arv.new A2 (by decide)).pad (pad_rep [] (.long (0 : Int64)) 2)
  have pre7 : ∀ t, Steps p.tables e below (T2.setTop (mkF m 27 #[.val (.int (3 : Int32)), .val (.long v0), .second, .val (.long v1), .second, .val (.long v2), .second, .val (.long v3), .second, .val (.int (2 : Int32)), .unset, .unset] [(.ref b2)])) t → Steps p.tables e below (s₁.setTop (entryFrame m #[(.int (3 : Int32)), (.long v0), (.long v1), (.long v2), (.long v3)] 12)) t := fun t kt => pre1 t (st2 _ kt)
  have pre8 : ∀ t, Steps p.tables e below (T2.setTop (mkF m 43 #[.val (.int (3 : Int32)), .val (.long v0), .second, .val (.long v1), .second, .val (.long v2), .second, .val (.long v3), .second, .val (.int (2 : Int32)), .val (.ref b2), .val (.int (0 : Int32))] [(.long v0), (.int (0 : Int32)), (.ref b2)])) t → Steps p.tables e below (s₁.setTop (entryFrame m #[(.int (3 : Int32)), (.long v0), (.long v1), (.long v2), (.long v3)] 12)) t := fun t kt => pre7 t (by
    refine XS.astore X2.here hx rfl (hb hby d1_27) rfl rfl (l' := #[.val (.int (3 : Int32)), .val (.long v0), .second, .val (.long v1), .second, .val (.long v2), .second, .val (.long v3), .second, .val (.int (2 : Int32)), .val (.ref b2), .unset]) rfl ?_
    show Steps p.tables e below (T2.setTop (mkF m 29 #[.val (.int (3 : Int32)), .val (.long v0), .second, .val (.long v1), .second, .val (.long v2), .second, .val (.long v3), .second, .val (.int (2 : Int32)), .val (.ref b2), .unset] [])) _
    refine XS.iconst X2.here hx rfl (hb hby d1_29) ?_
    show Steps p.tables e below (T2.setTop (mkF m 30 #[.val (.int (3 : Int32)), .val (.long v0), .second, .val (.long v1), .second, .val (.long v2), .second, .val (.long v3), .second, .val (.int (2 : Int32)), .val (.ref b2), .unset] [(.int (0 : Int32))])) _
    refine XS.istore X2.here hx rfl (hb hby d1_30) rfl (l' := #[.val (.int (3 : Int32)), .val (.long v0), .second, .val (.long v1), .second, .val (.long v2), .second, .val (.long v3), .second, .val (.int (2 : Int32)), .val (.ref b2), .val (.int (0 : Int32))]) rfl ?_
    show Steps p.tables e below (T2.setTop (mkF m 32 #[.val (.int (3 : Int32)), .val (.long v0), .second, .val (.long v1), .second, .val (.long v2), .second, .val (.long v3), .second, .val (.int (2 : Int32)), .val (.ref b2), .val (.int (0 : Int32))] [])) _
    refine XS.iloadN X2.here hx rfl (hb hby d1_32) rfl ?_
    show Steps p.tables e below (T2.setTop (mkF m 33 #[.val (.int (3 : Int32)), .val (.long v0), .second, .val (.long v1), .second, .val (.long v2), .second, .val (.long v3), .second, .val (.int (2 : Int32)), .val (.ref b2), .val (.int (0 : Int32))] [(.int (3 : Int32))])) _
    refine XS.iconst X2.here hx rfl (hb hby d1_33) ?_
    show Steps p.tables e below (T2.setTop (mkF m 34 #[.val (.int (3 : Int32)), .val (.long v0), .second, .val (.long v1), .second, .val (.long v2), .second, .val (.long v3), .second, .val (.int (2 : Int32)), .val (.ref b2), .val (.int (0 : Int32))] [(.int (1 : Int32)), (.int (3 : Int32))])) _
    refine XS.iand X2.here hx rfl (hb hby d1_34) rfl ?_
    show Steps p.tables e below (T2.setTop (mkF m 35 #[.val (.int (3 : Int32)), .val (.long v0), .second, .val (.long v1), .second, .val (.long v2), .second, .val (.long v3), .second, .val (.int (2 : Int32)), .val (.ref b2), .val (.int (0 : Int32))] [(.int (1 : Int32))])) _
    refine XS.ifNo X2.here hx rfl (hb hby d1_35) rfl ((if0 _ _).trans (feq (by decide : ¬ ((1 : Int32) = (0 : Int32)))).1) ?_
    show Steps p.tables e below (T2.setTop (mkF m 38 #[.val (.int (3 : Int32)), .val (.long v0), .second, .val (.long v1), .second, .val (.long v2), .second, .val (.long v3), .second, .val (.int (2 : Int32)), .val (.ref b2), .val (.int (0 : Int32))] [])) _
    refine XS.aload X2.here hx rfl (hb hby d1_38) rfl rfl ?_
    show Steps p.tables e below (T2.setTop (mkF m 40 #[.val (.int (3 : Int32)), .val (.long v0), .second, .val (.long v1), .second, .val (.long v2), .second, .val (.long v3), .second, .val (.int (2 : Int32)), .val (.ref b2), .val (.int (0 : Int32))] [(.ref b2)])) _
    refine XS.iload X2.here hx rfl (hb hby d1_40) rfl ?_
    show Steps p.tables e below (T2.setTop (mkF m 42 #[.val (.int (3 : Int32)), .val (.long v0), .second, .val (.long v1), .second, .val (.long v2), .second, .val (.long v3), .second, .val (.int (2 : Int32)), .val (.ref b2), .val (.int (0 : Int32))] [(.int (0 : Int32)), (.ref b2)])) _
    refine XS.lloadN X2.here hx rfl (hb hby d1_42) rfl ?_
    show Steps p.tables e below (T2.setTop (mkF m 43 #[.val (.int (3 : Int32)), .val (.long v0), .second, .val (.long v1), .second, .val (.long v2), .second, .val (.long v3), .second, .val (.int (2 : Int32)), .val (.ref b2), .val (.int (0 : Int32))] [(.long v0), (.int (0 : Int32)), (.ref b2)])) _
    exact kt)
  obtain ⟨cl9, Ar9, q9, S9, M9, H9, G9⟩ := V2
  have hin9 : ¬ ((0 : Int32) < 0 ∨ cl9.slots.size ≤ ((0 : Int32)).toNatClampNeg) := inb_of S9 ⟨by decide, by decide⟩
  obtain ⟨T9, h9, X9, e9, W9, st9⟩ := stJ X2 hx hZ e2 Ar9 (j := (0 : Int32)) hin9 (g := (mkF m 43 #[.val (.int (3 : Int32)), .val (.long v0), .second, .val (.long v1), .second, .val (.long v2), .second, .val (.long v3), .second, .val (.int (2 : Int32)), .val (.ref b2), .val (.int (0 : Int32))] [(.long v0), (.int (0 : Int32)), (.ref b2)])) rfl rfl (hb hby d1_43)
  have f10 := (f5).wr W9 ((Or.inr (Nat.le_trans ((Keep.refl h0 [])).1 (Nat.le_of_eq g2.symm))))
  have Va9 := Arv.set Ar9 q9 S9 M9 H9 G9 rfl W9 0 rfl (Nat.le_of_ble_eq_true rfl)
  have Nf9 := Fr.snoc X9 N0 gz3
  have Zf9 : n0 ≤ h9.size := Nat.le_trans Zf6 (Keep.of_wr W9).1
  have pre11 : ∀ t, Steps p.tables e below (T9.setTop (mkF m 44 #[.val (.int (3 : Int32)), .val (.long v0), .second, .val (.long v1), .second, .val (.long v2), .second, .val (.long v3), .second, .val (.int (2 : Int32)), .val (.ref b2), .val (.int (0 : Int32))] [])) t → Steps p.tables e below (s₁.setTop (entryFrame m #[(.int (3 : Int32)), (.long v0), (.long v1), (.long v2), (.long v3)] 12)) t := fun t kt => pre8 t (st9 _ kt)
  have pre12 : ∀ t, Steps p.tables e below (T9.setTop (mkF m 58 #[.val (.int (3 : Int32)), .val (.long v0), .second, .val (.long v1), .second, .val (.long v2), .second, .val (.long v3), .second, .val (.int (2 : Int32)), .val (.ref b2), .val (.int (1 : Int32))] [(.long v1), (.int (1 : Int32)), (.ref b2)])) t → Steps p.tables e below (s₁.setTop (entryFrame m #[(.int (3 : Int32)), (.long v0), (.long v1), (.long v2), (.long v3)] 12)) t := fun t kt => pre11 t (by
    refine XS.iinc X9.here hx rfl (hb hby d1_44) rfl (l' := #[.val (.int (3 : Int32)), .val (.long v0), .second, .val (.long v1), .second, .val (.long v2), .second, .val (.long v3), .second, .val (.int (2 : Int32)), .val (.ref b2), .val (.int (1 : Int32))]) rfl ?_
    show Steps p.tables e below (T9.setTop (mkF m 47 #[.val (.int (3 : Int32)), .val (.long v0), .second, .val (.long v1), .second, .val (.long v2), .second, .val (.long v3), .second, .val (.int (2 : Int32)), .val (.ref b2), .val (.int (1 : Int32))] [])) _
    refine XS.iloadN X9.here hx rfl (hb hby d1_47) rfl ?_
    show Steps p.tables e below (T9.setTop (mkF m 48 #[.val (.int (3 : Int32)), .val (.long v0), .second, .val (.long v1), .second, .val (.long v2), .second, .val (.long v3), .second, .val (.int (2 : Int32)), .val (.ref b2), .val (.int (1 : Int32))] [(.int (3 : Int32))])) _
    refine XS.iconst X9.here hx rfl (hb hby d1_48) ?_
    show Steps p.tables e below (T9.setTop (mkF m 49 #[.val (.int (3 : Int32)), .val (.long v0), .second, .val (.long v1), .second, .val (.long v2), .second, .val (.long v3), .second, .val (.int (2 : Int32)), .val (.ref b2), .val (.int (1 : Int32))] [(.int (2 : Int32)), (.int (3 : Int32))])) _
    refine XS.iand X9.here hx rfl (hb hby d1_49) rfl ?_
    show Steps p.tables e below (T9.setTop (mkF m 50 #[.val (.int (3 : Int32)), .val (.long v0), .second, .val (.long v1), .second, .val (.long v2), .second, .val (.long v3), .second, .val (.int (2 : Int32)), .val (.ref b2), .val (.int (1 : Int32))] [(.int (2 : Int32))])) _
    refine XS.ifNo X9.here hx rfl (hb hby d1_50) rfl ((if0 _ _).trans (feq (by decide : ¬ ((2 : Int32) = (0 : Int32)))).1) ?_
    show Steps p.tables e below (T9.setTop (mkF m 53 #[.val (.int (3 : Int32)), .val (.long v0), .second, .val (.long v1), .second, .val (.long v2), .second, .val (.long v3), .second, .val (.int (2 : Int32)), .val (.ref b2), .val (.int (1 : Int32))] [])) _
    refine XS.aload X9.here hx rfl (hb hby d1_53) rfl rfl ?_
    show Steps p.tables e below (T9.setTop (mkF m 55 #[.val (.int (3 : Int32)), .val (.long v0), .second, .val (.long v1), .second, .val (.long v2), .second, .val (.long v3), .second, .val (.int (2 : Int32)), .val (.ref b2), .val (.int (1 : Int32))] [(.ref b2)])) _
    refine XS.iload X9.here hx rfl (hb hby d1_55) rfl ?_
    show Steps p.tables e below (T9.setTop (mkF m 57 #[.val (.int (3 : Int32)), .val (.long v0), .second, .val (.long v1), .second, .val (.long v2), .second, .val (.long v3), .second, .val (.int (2 : Int32)), .val (.ref b2), .val (.int (1 : Int32))] [(.int (1 : Int32)), (.ref b2)])) _
    refine XS.lloadN X9.here hx rfl (hb hby d1_57) rfl ?_
    show Steps p.tables e below (T9.setTop (mkF m 58 #[.val (.int (3 : Int32)), .val (.long v0), .second, .val (.long v1), .second, .val (.long v2), .second, .val (.long v3), .second, .val (.int (2 : Int32)), .val (.ref b2), .val (.int (1 : Int32))] [(.long v1), (.int (1 : Int32)), (.ref b2)])) _
    exact kt)
  obtain ⟨cl13, Ar13, q13, S13, M13, H13, G13⟩ := Va9
  have hin13 : ¬ ((1 : Int32) < 0 ∨ cl13.slots.size ≤ ((1 : Int32)).toNatClampNeg) := inb_of S13 ⟨by decide, by decide⟩
  obtain ⟨T13, h13, X13, e13, W13, st13⟩ := stJ X9 hx hZ e9 Ar13 (j := (1 : Int32)) hin13 (g := (mkF m 58 #[.val (.int (3 : Int32)), .val (.long v0), .second, .val (.long v1), .second, .val (.long v2), .second, .val (.long v3), .second, .val (.int (2 : Int32)), .val (.ref b2), .val (.int (1 : Int32))] [(.long v1), (.int (1 : Int32)), (.ref b2)])) rfl rfl (hb hby d1_58)
  have f14 := (f10).wr W13 ((Or.inr (Nat.le_trans ((Keep.refl h0 [])).1 (Nat.le_of_eq g2.symm))))
  have Va13 := Arv.set Ar13 q13 S13 M13 H13 G13 rfl W13 1 rfl (Nat.le_of_ble_eq_true rfl)
  have Nf13 := Fr.snoc X13 Nf9 gz3
  have Zf13 : n0 ≤ h13.size := Nat.le_trans Zf9 (Keep.of_wr W13).1
  have pre15 : ∀ t, Steps p.tables e below (T13.setTop (mkF m 59 #[.val (.int (3 : Int32)), .val (.long v0), .second, .val (.long v1), .second, .val (.long v2), .second, .val (.long v3), .second, .val (.int (2 : Int32)), .val (.ref b2), .val (.int (1 : Int32))] [])) t → Steps p.tables e below (s₁.setTop (entryFrame m #[(.int (3 : Int32)), (.long v0), (.long v1), (.long v2), (.long v3)] 12)) t := fun t kt => pre12 t (st13 _ kt)
  have pre16 : ∀ t, Steps p.tables e below (T13.setTop (mkF m 97 #[.val (.int (3 : Int32)), .val (.long v0), .second, .val (.long v1), .second, .val (.long v2), .second, .val (.long v3), .second, .val (.int (2 : Int32)), .val (.ref b2), .val (.int (2 : Int32))] [(.ref b2)])) t → Steps p.tables e below (s₁.setTop (entryFrame m #[(.int (3 : Int32)), (.long v0), (.long v1), (.long v2), (.long v3)] 12)) t := fun t kt => pre15 t (by
    refine XS.iinc X13.here hx rfl (hb hby d1_59) rfl (l' := #[.val (.int (3 : Int32)), .val (.long v0), .second, .val (.long v1), .second, .val (.long v2), .second, .val (.long v3), .second, .val (.int (2 : Int32)), .val (.ref b2), .val (.int (2 : Int32))]) rfl ?_
    show Steps p.tables e below (T13.setTop (mkF m 62 #[.val (.int (3 : Int32)), .val (.long v0), .second, .val (.long v1), .second, .val (.long v2), .second, .val (.long v3), .second, .val (.int (2 : Int32)), .val (.ref b2), .val (.int (2 : Int32))] [])) _
    refine XS.iloadN X13.here hx rfl (hb hby d1_62) rfl ?_
    show Steps p.tables e below (T13.setTop (mkF m 63 #[.val (.int (3 : Int32)), .val (.long v0), .second, .val (.long v1), .second, .val (.long v2), .second, .val (.long v3), .second, .val (.int (2 : Int32)), .val (.ref b2), .val (.int (2 : Int32))] [(.int (3 : Int32))])) _
    refine XS.iconst X13.here hx rfl (hb hby d1_63) ?_
    show Steps p.tables e below (T13.setTop (mkF m 64 #[.val (.int (3 : Int32)), .val (.long v0), .second, .val (.long v1), .second, .val (.long v2), .second, .val (.long v3), .second, .val (.int (2 : Int32)), .val (.ref b2), .val (.int (2 : Int32))] [(.int (4 : Int32)), (.int (3 : Int32))])) _
    refine XS.iand X13.here hx rfl (hb hby d1_64) rfl ?_
    show Steps p.tables e below (T13.setTop (mkF m 65 #[.val (.int (3 : Int32)), .val (.long v0), .second, .val (.long v1), .second, .val (.long v2), .second, .val (.long v3), .second, .val (.int (2 : Int32)), .val (.ref b2), .val (.int (2 : Int32))] [(.int (0 : Int32))])) _
    refine XS.ifYes X13.here hx rfl (pc0 := 65) (pc' := 78) rfl (hb hby d1_65) rfl ((if0 _ _).trans (teq (by decide : (0 : Int32) = (0 : Int32))).1) (by decide) (by decide) ?_
    show Steps p.tables e below (T13.setTop (mkF m 78 #[.val (.int (3 : Int32)), .val (.long v0), .second, .val (.long v1), .second, .val (.long v2), .second, .val (.long v3), .second, .val (.int (2 : Int32)), .val (.ref b2), .val (.int (2 : Int32))] [])) _
    refine XS.iloadN X13.here hx rfl (hb hby d1_78) rfl ?_
    show Steps p.tables e below (T13.setTop (mkF m 79 #[.val (.int (3 : Int32)), .val (.long v0), .second, .val (.long v1), .second, .val (.long v2), .second, .val (.long v3), .second, .val (.int (2 : Int32)), .val (.ref b2), .val (.int (2 : Int32))] [(.int (3 : Int32))])) _
    refine XS.bipush X13.here hx rfl (hb hby d1_79) ?_
    show Steps p.tables e below (T13.setTop (mkF m 81 #[.val (.int (3 : Int32)), .val (.long v0), .second, .val (.long v1), .second, .val (.long v2), .second, .val (.long v3), .second, .val (.int (2 : Int32)), .val (.ref b2), .val (.int (2 : Int32))] [(.int (8 : Int32)), (.int (3 : Int32))])) _
    refine XS.iand X13.here hx rfl (hb hby d1_81) rfl ?_
    show Steps p.tables e below (T13.setTop (mkF m 82 #[.val (.int (3 : Int32)), .val (.long v0), .second, .val (.long v1), .second, .val (.long v2), .second, .val (.long v3), .second, .val (.int (2 : Int32)), .val (.ref b2), .val (.int (2 : Int32))] [(.int (0 : Int32))])) _
    refine XS.ifYes X13.here hx rfl (pc0 := 82) (pc' := 95) rfl (hb hby d1_82) rfl ((if0 _ _).trans (teq (by decide : (0 : Int32) = (0 : Int32))).1) (by decide) (by decide) ?_
    show Steps p.tables e below (T13.setTop (mkF m 95 #[.val (.int (3 : Int32)), .val (.long v0), .second, .val (.long v1), .second, .val (.long v2), .second, .val (.long v3), .second, .val (.int (2 : Int32)), .val (.ref b2), .val (.int (2 : Int32))] [])) _
    refine XS.aload X13.here hx rfl (hb hby d1_95) rfl rfl ?_
    show Steps p.tables e below (T13.setTop (mkF m 97 #[.val (.int (3 : Int32)), .val (.long v0), .second, .val (.long v1), .second, .val (.long v2), .second, .val (.long v3), .second, .val (.int (2 : Int32)), .val (.ref b2), .val (.int (2 : Int32))] [(.ref b2)])) _
    exact kt)
  obtain ⟨fs, hr, hrun, hended, hW, hsame⟩ := X13.leave (v := (some (.ref b2))) (fun h => by rw [Bd.returns] at h; cases h)
  refine ⟨_, _, pre16 _ ?_, hrun, hended, _, _, rfl, ?_, ⟨_, rfl⟩, hW, hsame.mono (by decide) (by decide)⟩
  · exact retOut X13 hx Bd.returns rfl (Or.inr (Or.inr (Or.inr (Or.inr ⟨rfl, rfl, rfl⟩)))) (hb hby d1_97) hr
  · show QP Z [v0, v1] h0 n0 _ T13.heap _
    rw [e13]
    exact ⟨_, rfl, Nf13, f14, gz3, (sz2), own_lg (xs := [v0, v1]) Va13 rfl (by simp)⟩
theorem ef_rmP_4 (m : MethodId) (x0 : Int32) (x1 : Int64) (x2 : Int64) (x3 : Int64) (x4 : Int64) : entryFrame m #[(.int x0), (.long x1), (.long x2), (.long x3), (.long x4)] 12 = mkF m 0 #[.val (.int x0), .val (.long x1), .second, .val (.long x2), .second, .val (.long x3), .second, .val (.long x4), .second, .unset, .unset, .unset] [] := by first | (simp [entryFrame, mkF, argsToLocals, Value.category]; done) | rfl
theorem d1_68 : decode method_3_code 68 = .ok (.aload 10, 2) := by decide +kernel
theorem d1_70 : decode method_3_code 70 = .ok (.iload 11, 2) := by decide +kernel
theorem d1_72 : decode method_3_code 72 = .ok (.lload 5, 2) := by decide +kernel
theorem d1_74 : decode method_3_code 74 = .ok (.lastore, 1) := by decide +kernel
theorem d1_75 : decode method_3_code 75 = .ok (.iinc 11 1, 3) := by decide +kernel
set_option maxRecDepth 65536 in
set_option maxHeartbeats 40000000 in
theorem rmP_4 (l : Launch) (Z : State) (a0 : Array Value) (hw : ∀ d ∈ tables_1, d.before a0 Z = true) (ws : List Jvm.Cond) (v0 v1 v2 v3 : Int64) (h0 : Heap) (n0 : Nat) (Z0 : n0 ≤ h0.size)  :
    MetFree l (⟨"com/example/nest3/nest3/SubsetWithinPinLaw", "pick", "(IJJJJ)[J"⟩ : MethodName) (head1 (Jvm.Cond.code (⟨"com/example/nest3/nest3/SubsetWithinPinLaw", "pick", "(IJJJJ)[J"⟩ : MethodName) method_3_code 12 (some (.array .long)) :: ws) ({ frames := 0, cells := 1, slots := 4, locals := 0 } : Room)) (fun a U => a = #[(.int (4 : Int32)), (.long v0), (.long v1), (.long v2), (.long v3)] ∧ Z.Warmed39 U.vm ∧ U.heap = h0) (fun _ _ _ _ _ => True) (fun _ U o U' => ∃ v L, o = .returned v ∧ QP Z [v2] h0 n0 v U'.heap L ∧ FrameEnd U o U' L ({ frames := 0, cells := 1, slots := 4, locals := 0 } : Room).cells ({ frames := 0, cells := 1, slots := 4, locals := 0 } : Room).slots) := by
  refine MetFree.of_bodySF (plainFor_of_name pn_com_example_nest3_nest3_SubsetWithinPinLaw) hisR ?_
  intro p e s m args below meth c s₁ Bd hml0 hP hK
  obtain ⟨rfl, hZ, hh⟩ := hP
  have hx := Bd.exec
  have hby := Bd.bytes
  have hml : c.maxLocals = 12 := hml0
  have hown : s.vm.findClass "com/example/nest3/nest3/SubsetWithinPinLaw" = some m.cls := findClass_of_methodNamed Bd.named
  have hnm := (name_of_methodNamed Bd.named Bd.method).1
  have X0 : Stand p l e ({ frames := 0, cells := 1, slots := 4, locals := 0 } : Room) s m #[(.int (4 : Int32)), (.long v0), (.long v1), (.long v2), (.long v3)] below meth c s₁ [] 0 0 := Stand.of_body Bd
  have e0 : s₁.heap = h0 := by rw [← hh, Bd.state]; rfl
  have N0 := Fr.nil n0
  have pre0 : ∀ t, Steps p.tables e below (s₁.setTop (mkF m 0 #[.val (.int (4 : Int32)), .val (.long v0), .second, .val (.long v1), .second, .val (.long v2), .second, .val (.long v3), .second, .unset, .unset, .unset] [])) t → Steps p.tables e below (s₁.setTop (entryFrame m #[(.int (4 : Int32)), (.long v0), (.long v1), (.long v2), (.long v3)] 12)) t := fun t kt => castTop (ef_rmP_4 m (4 : Int32) v0 v1 v2 v3) kt
  have pre1 : ∀ t, Steps p.tables e below (s₁.setTop (mkF m 25 #[.val (.int (4 : Int32)), .val (.long v0), .second, .val (.long v1), .second, .val (.long v2), .second, .val (.long v3), .second, .val (.int (1 : Int32)), .unset, .unset] [(.int (1 : Int32))])) t → Steps p.tables e below (s₁.setTop (entryFrame m #[(.int (4 : Int32)), (.long v0), (.long v1), (.long v2), (.long v3)] 12)) t := fun t kt => pre0 t (by
    refine XS.iloadN X0.here hx rfl (hb hby d1_0) rfl ?_
    show Steps p.tables e below (s₁.setTop (mkF m 1 #[.val (.int (4 : Int32)), .val (.long v0), .second, .val (.long v1), .second, .val (.long v2), .second, .val (.long v3), .second, .unset, .unset, .unset] [(.int (4 : Int32))])) _
    refine XS.iconst X0.here hx rfl (hb hby d1_1) ?_
    show Steps p.tables e below (s₁.setTop (mkF m 2 #[.val (.int (4 : Int32)), .val (.long v0), .second, .val (.long v1), .second, .val (.long v2), .second, .val (.long v3), .second, .unset, .unset, .unset] [(.int (1 : Int32)), (.int (4 : Int32))])) _
    refine XS.iand X0.here hx rfl (hb hby d1_2) rfl ?_
    show Steps p.tables e below (s₁.setTop (mkF m 3 #[.val (.int (4 : Int32)), .val (.long v0), .second, .val (.long v1), .second, .val (.long v2), .second, .val (.long v3), .second, .unset, .unset, .unset] [(.int (0 : Int32))])) _
    refine XS.iloadN X0.here hx rfl (hb hby d1_3) rfl ?_
    show Steps p.tables e below (s₁.setTop (mkF m 4 #[.val (.int (4 : Int32)), .val (.long v0), .second, .val (.long v1), .second, .val (.long v2), .second, .val (.long v3), .second, .unset, .unset, .unset] [(.int (4 : Int32)), (.int (0 : Int32))])) _
    refine XS.iconst X0.here hx rfl (hb hby d1_4) ?_
    show Steps p.tables e below (s₁.setTop (mkF m 5 #[.val (.int (4 : Int32)), .val (.long v0), .second, .val (.long v1), .second, .val (.long v2), .second, .val (.long v3), .second, .unset, .unset, .unset] [(.int (1 : Int32)), (.int (4 : Int32)), (.int (0 : Int32))])) _
    refine XS.iushr X0.here hx rfl (hb hby d1_5) rfl ?_
    show Steps p.tables e below (s₁.setTop (mkF m 6 #[.val (.int (4 : Int32)), .val (.long v0), .second, .val (.long v1), .second, .val (.long v2), .second, .val (.long v3), .second, .unset, .unset, .unset] [(.int (2 : Int32)), (.int (0 : Int32))])) _
    refine XS.iconst X0.here hx rfl (hb hby d1_6) ?_
    show Steps p.tables e below (s₁.setTop (mkF m 7 #[.val (.int (4 : Int32)), .val (.long v0), .second, .val (.long v1), .second, .val (.long v2), .second, .val (.long v3), .second, .unset, .unset, .unset] [(.int (1 : Int32)), (.int (2 : Int32)), (.int (0 : Int32))])) _
    refine XS.iand X0.here hx rfl (hb hby d1_7) rfl ?_
    show Steps p.tables e below (s₁.setTop (mkF m 8 #[.val (.int (4 : Int32)), .val (.long v0), .second, .val (.long v1), .second, .val (.long v2), .second, .val (.long v3), .second, .unset, .unset, .unset] [(.int (0 : Int32)), (.int (0 : Int32))])) _
    refine XS.iadd X0.here hx rfl (hb hby d1_8) rfl ?_
    show Steps p.tables e below (s₁.setTop (mkF m 9 #[.val (.int (4 : Int32)), .val (.long v0), .second, .val (.long v1), .second, .val (.long v2), .second, .val (.long v3), .second, .unset, .unset, .unset] [(.int (0 : Int32))])) _
    refine XS.iloadN X0.here hx rfl (hb hby d1_9) rfl ?_
    show Steps p.tables e below (s₁.setTop (mkF m 10 #[.val (.int (4 : Int32)), .val (.long v0), .second, .val (.long v1), .second, .val (.long v2), .second, .val (.long v3), .second, .unset, .unset, .unset] [(.int (4 : Int32)), (.int (0 : Int32))])) _
    refine XS.iconst X0.here hx rfl (hb hby d1_10) ?_
    show Steps p.tables e below (s₁.setTop (mkF m 11 #[.val (.int (4 : Int32)), .val (.long v0), .second, .val (.long v1), .second, .val (.long v2), .second, .val (.long v3), .second, .unset, .unset, .unset] [(.int (2 : Int32)), (.int (4 : Int32)), (.int (0 : Int32))])) _
    refine XS.iushr X0.here hx rfl (hb hby d1_11) rfl ?_
    show Steps p.tables e below (s₁.setTop (mkF m 12 #[.val (.int (4 : Int32)), .val (.long v0), .second, .val (.long v1), .second, .val (.long v2), .second, .val (.long v3), .second, .unset, .unset, .unset] [(.int (1 : Int32)), (.int (0 : Int32))])) _
    refine XS.iconst X0.here hx rfl (hb hby d1_12) ?_
    show Steps p.tables e below (s₁.setTop (mkF m 13 #[.val (.int (4 : Int32)), .val (.long v0), .second, .val (.long v1), .second, .val (.long v2), .second, .val (.long v3), .second, .unset, .unset, .unset] [(.int (1 : Int32)), (.int (1 : Int32)), (.int (0 : Int32))])) _
    refine XS.iand X0.here hx rfl (hb hby d1_13) rfl ?_
    show Steps p.tables e below (s₁.setTop (mkF m 14 #[.val (.int (4 : Int32)), .val (.long v0), .second, .val (.long v1), .second, .val (.long v2), .second, .val (.long v3), .second, .unset, .unset, .unset] [(.int (1 : Int32)), (.int (0 : Int32))])) _
    refine XS.iadd X0.here hx rfl (hb hby d1_14) rfl ?_
    show Steps p.tables e below (s₁.setTop (mkF m 15 #[.val (.int (4 : Int32)), .val (.long v0), .second, .val (.long v1), .second, .val (.long v2), .second, .val (.long v3), .second, .unset, .unset, .unset] [(.int (1 : Int32))])) _
    refine XS.iloadN X0.here hx rfl (hb hby d1_15) rfl ?_
    show Steps p.tables e below (s₁.setTop (mkF m 16 #[.val (.int (4 : Int32)), .val (.long v0), .second, .val (.long v1), .second, .val (.long v2), .second, .val (.long v3), .second, .unset, .unset, .unset] [(.int (4 : Int32)), (.int (1 : Int32))])) _
    refine XS.iconst X0.here hx rfl (hb hby d1_16) ?_
    show Steps p.tables e below (s₁.setTop (mkF m 17 #[.val (.int (4 : Int32)), .val (.long v0), .second, .val (.long v1), .second, .val (.long v2), .second, .val (.long v3), .second, .unset, .unset, .unset] [(.int (3 : Int32)), (.int (4 : Int32)), (.int (1 : Int32))])) _
    refine XS.iushr X0.here hx rfl (hb hby d1_17) rfl ?_
    show Steps p.tables e below (s₁.setTop (mkF m 18 #[.val (.int (4 : Int32)), .val (.long v0), .second, .val (.long v1), .second, .val (.long v2), .second, .val (.long v3), .second, .unset, .unset, .unset] [(.int (0 : Int32)), (.int (1 : Int32))])) _
    refine XS.iconst X0.here hx rfl (hb hby d1_18) ?_
    show Steps p.tables e below (s₁.setTop (mkF m 19 #[.val (.int (4 : Int32)), .val (.long v0), .second, .val (.long v1), .second, .val (.long v2), .second, .val (.long v3), .second, .unset, .unset, .unset] [(.int (1 : Int32)), (.int (0 : Int32)), (.int (1 : Int32))])) _
    refine XS.iand X0.here hx rfl (hb hby d1_19) rfl ?_
    show Steps p.tables e below (s₁.setTop (mkF m 20 #[.val (.int (4 : Int32)), .val (.long v0), .second, .val (.long v1), .second, .val (.long v2), .second, .val (.long v3), .second, .unset, .unset, .unset] [(.int (0 : Int32)), (.int (1 : Int32))])) _
    refine XS.iadd X0.here hx rfl (hb hby d1_20) rfl ?_
    show Steps p.tables e below (s₁.setTop (mkF m 21 #[.val (.int (4 : Int32)), .val (.long v0), .second, .val (.long v1), .second, .val (.long v2), .second, .val (.long v3), .second, .unset, .unset, .unset] [(.int (1 : Int32))])) _
    refine XS.istore X0.here hx rfl (hb hby d1_21) rfl (l' := #[.val (.int (4 : Int32)), .val (.long v0), .second, .val (.long v1), .second, .val (.long v2), .second, .val (.long v3), .second, .val (.int (1 : Int32)), .unset, .unset]) rfl ?_
    show Steps p.tables e below (s₁.setTop (mkF m 23 #[.val (.int (4 : Int32)), .val (.long v0), .second, .val (.long v1), .second, .val (.long v2), .second, .val (.long v3), .second, .val (.int (1 : Int32)), .unset, .unset] [])) _
    refine XS.iload X0.here hx rfl (hb hby d1_23) rfl ?_
    show Steps p.tables e below (s₁.setTop (mkF m 25 #[.val (.int (4 : Int32)), .val (.long v0), .second, .val (.long v1), .second, .val (.long v2), .second, .val (.long v3), .second, .val (.int (1 : Int32)), .unset, .unset] [(.int (1 : Int32))])) _
    exact kt)
  obtain ⟨T2, h2, k2, X2, e2, E2, A2, st2⟩ := newP X0 hx hZ (hw _ (List.mem_of_getElem? (i := 7) rfl)) e0 (g := (mkF m 25 #[.val (.int (4 : Int32)), .val (.long v0), .second, .val (.long v1), .second, .val (.long v2), .second, .val (.long v3), .second, .val (.int (1 : Int32)), .unset, .unset] [(.int (1 : Int32))])) rfl (hb hby d1_25) rfl (by decide) (cap := 1) (by decide) (by decide) (by decide) (by decide)
  obtain ⟨b2, g2⟩ : ∃ z, z = h0.size := ⟨_, rfl⟩
  rw [← g2] at A2 st2
  have gz3 : n0 ≤ b2 := Nat.le_trans Z0 (Nat.le_of_eq g2.symm)
  have f5 := ((Keep.refl h0 [])).ext E2
  have Zf6 : n0 ≤ h2.size := Nat.le_trans Z0 E2.1
  have sz2 : h0.size ≤ b2 := Nat.le_of_eq g2.symm
  have V2 : Arv Z h2 b2 k2 .long (1 : Int32) [(.long (0 : Int64))] (.long (0 : Int64)) := (Arv.new A2 (by decide)).pad (pad_rep [] (.long (0 : Int64)) 1)
  have pre7 : ∀ t, Steps p.tables e below (T2.setTop (mkF m 27 #[.val (.int (4 : Int32)), .val (.long v0), .second, .val (.long v1), .second, .val (.long v2), .second, .val (.long v3), .second, .val (.int (1 : Int32)), .unset, .unset] [(.ref b2)])) t → Steps p.tables e below (s₁.setTop (entryFrame m #[(.int (4 : Int32)), (.long v0), (.long v1), (.long v2), (.long v3)] 12)) t := fun t kt => pre1 t (st2 _ kt)
  have pre8 : ∀ t, Steps p.tables e below (T2.setTop (mkF m 74 #[.val (.int (4 : Int32)), .val (.long v0), .second, .val (.long v1), .second, .val (.long v2), .second, .val (.long v3), .second, .val (.int (1 : Int32)), .val (.ref b2), .val (.int (0 : Int32))] [(.long v2), (.int (0 : Int32)), (.ref b2)])) t → Steps p.tables e below (s₁.setTop (entryFrame m #[(.int (4 : Int32)), (.long v0), (.long v1), (.long v2), (.long v3)] 12)) t := fun t kt => pre7 t (by
    refine XS.astore X2.here hx rfl (hb hby d1_27) rfl rfl (l' := #[.val (.int (4 : Int32)), .val (.long v0), .second, .val (.long v1), .second, .val (.long v2), .second, .val (.long v3), .second, .val (.int (1 : Int32)), .val (.ref b2), .unset]) rfl ?_
    show Steps p.tables e below (T2.setTop (mkF m 29 #[.val (.int (4 : Int32)), .val (.long v0), .second, .val (.long v1), .second, .val (.long v2), .second, .val (.long v3), .second, .val (.int (1 : Int32)), .val (.ref b2), .unset] [])) _
    refine XS.iconst X2.here hx rfl (hb hby d1_29) ?_
    show Steps p.tables e below (T2.setTop (mkF m 30 #[.val (.int (4 : Int32)), .val (.long v0), .second, .val (.long v1), .second, .val (.long v2), .second, .val (.long v3), .second, .val (.int (1 : Int32)), .val (.ref b2), .unset] [(.int (0 : Int32))])) _
    refine XS.istore X2.here hx rfl (hb hby d1_30) rfl (l' := #[.val (.int (4 : Int32)), .val (.long v0), .second, .val (.long v1), .second, .val (.long v2), .second, .val (.long v3), .second, .val (.int (1 : Int32)), .val (.ref b2), .val (.int (0 : Int32))]) rfl ?_
    show Steps p.tables e below (T2.setTop (mkF m 32 #[.val (.int (4 : Int32)), .val (.long v0), .second, .val (.long v1), .second, .val (.long v2), .second, .val (.long v3), .second, .val (.int (1 : Int32)), .val (.ref b2), .val (.int (0 : Int32))] [])) _
    refine XS.iloadN X2.here hx rfl (hb hby d1_32) rfl ?_
    show Steps p.tables e below (T2.setTop (mkF m 33 #[.val (.int (4 : Int32)), .val (.long v0), .second, .val (.long v1), .second, .val (.long v2), .second, .val (.long v3), .second, .val (.int (1 : Int32)), .val (.ref b2), .val (.int (0 : Int32))] [(.int (4 : Int32))])) _
    refine XS.iconst X2.here hx rfl (hb hby d1_33) ?_
    show Steps p.tables e below (T2.setTop (mkF m 34 #[.val (.int (4 : Int32)), .val (.long v0), .second, .val (.long v1), .second, .val (.long v2), .second, .val (.long v3), .second, .val (.int (1 : Int32)), .val (.ref b2), .val (.int (0 : Int32))] [(.int (1 : Int32)), (.int (4 : Int32))])) _
    refine XS.iand X2.here hx rfl (hb hby d1_34) rfl ?_
    show Steps p.tables e below (T2.setTop (mkF m 35 #[.val (.int (4 : Int32)), .val (.long v0), .second, .val (.long v1), .second, .val (.long v2), .second, .val (.long v3), .second, .val (.int (1 : Int32)), .val (.ref b2), .val (.int (0 : Int32))] [(.int (0 : Int32))])) _
    refine XS.ifYes X2.here hx rfl (pc0 := 35) (pc' := 47) rfl (hb hby d1_35) rfl ((if0 _ _).trans (teq (by decide : (0 : Int32) = (0 : Int32))).1) (by decide) (by decide) ?_
    show Steps p.tables e below (T2.setTop (mkF m 47 #[.val (.int (4 : Int32)), .val (.long v0), .second, .val (.long v1), .second, .val (.long v2), .second, .val (.long v3), .second, .val (.int (1 : Int32)), .val (.ref b2), .val (.int (0 : Int32))] [])) _
    refine XS.iloadN X2.here hx rfl (hb hby d1_47) rfl ?_
    show Steps p.tables e below (T2.setTop (mkF m 48 #[.val (.int (4 : Int32)), .val (.long v0), .second, .val (.long v1), .second, .val (.long v2), .second, .val (.long v3), .second, .val (.int (1 : Int32)), .val (.ref b2), .val (.int (0 : Int32))] [(.int (4 : Int32))])) _
    refine XS.iconst X2.here hx rfl (hb hby d1_48) ?_
    show Steps p.tables e below (T2.setTop (mkF m 49 #[.val (.int (4 : Int32)), .val (.long v0), .second, .val (.long v1), .second, .val (.long v2), .second, .val (.long v3), .second, .val (.int (1 : Int32)), .val (.ref b2), .val (.int (0 : Int32))] [(.int (2 : Int32)), (.int (4 : Int32))])) _
    refine XS.iand X2.here hx rfl (hb hby d1_49) rfl ?_
    show Steps p.tables e below (T2.setTop (mkF m 50 #[.val (.int (4 : Int32)), .val (.long v0), .second, .val (.long v1), .second, .val (.long v2), .second, .val (.long v3), .second, .val (.int (1 : Int32)), .val (.ref b2), .val (.int (0 : Int32))] [(.int (0 : Int32))])) _
    refine XS.ifYes X2.here hx rfl (pc0 := 50) (pc' := 62) rfl (hb hby d1_50) rfl ((if0 _ _).trans (teq (by decide : (0 : Int32) = (0 : Int32))).1) (by decide) (by decide) ?_
    show Steps p.tables e below (T2.setTop (mkF m 62 #[.val (.int (4 : Int32)), .val (.long v0), .second, .val (.long v1), .second, .val (.long v2), .second, .val (.long v3), .second, .val (.int (1 : Int32)), .val (.ref b2), .val (.int (0 : Int32))] [])) _
    refine XS.iloadN X2.here hx rfl (hb hby d1_62) rfl ?_
    show Steps p.tables e below (T2.setTop (mkF m 63 #[.val (.int (4 : Int32)), .val (.long v0), .second, .val (.long v1), .second, .val (.long v2), .second, .val (.long v3), .second, .val (.int (1 : Int32)), .val (.ref b2), .val (.int (0 : Int32))] [(.int (4 : Int32))])) _
    refine XS.iconst X2.here hx rfl (hb hby d1_63) ?_
    show Steps p.tables e below (T2.setTop (mkF m 64 #[.val (.int (4 : Int32)), .val (.long v0), .second, .val (.long v1), .second, .val (.long v2), .second, .val (.long v3), .second, .val (.int (1 : Int32)), .val (.ref b2), .val (.int (0 : Int32))] [(.int (4 : Int32)), (.int (4 : Int32))])) _
    refine XS.iand X2.here hx rfl (hb hby d1_64) rfl ?_
    show Steps p.tables e below (T2.setTop (mkF m 65 #[.val (.int (4 : Int32)), .val (.long v0), .second, .val (.long v1), .second, .val (.long v2), .second, .val (.long v3), .second, .val (.int (1 : Int32)), .val (.ref b2), .val (.int (0 : Int32))] [(.int (4 : Int32))])) _
    refine XS.ifNo X2.here hx rfl (hb hby d1_65) rfl ((if0 _ _).trans (feq (by decide : ¬ ((4 : Int32) = (0 : Int32)))).1) ?_
    show Steps p.tables e below (T2.setTop (mkF m 68 #[.val (.int (4 : Int32)), .val (.long v0), .second, .val (.long v1), .second, .val (.long v2), .second, .val (.long v3), .second, .val (.int (1 : Int32)), .val (.ref b2), .val (.int (0 : Int32))] [])) _
    refine XS.aload X2.here hx rfl (hb hby d1_68) rfl rfl ?_
    show Steps p.tables e below (T2.setTop (mkF m 70 #[.val (.int (4 : Int32)), .val (.long v0), .second, .val (.long v1), .second, .val (.long v2), .second, .val (.long v3), .second, .val (.int (1 : Int32)), .val (.ref b2), .val (.int (0 : Int32))] [(.ref b2)])) _
    refine XS.iload X2.here hx rfl (hb hby d1_70) rfl ?_
    show Steps p.tables e below (T2.setTop (mkF m 72 #[.val (.int (4 : Int32)), .val (.long v0), .second, .val (.long v1), .second, .val (.long v2), .second, .val (.long v3), .second, .val (.int (1 : Int32)), .val (.ref b2), .val (.int (0 : Int32))] [(.int (0 : Int32)), (.ref b2)])) _
    refine XS.lload X2.here hx rfl (hb hby d1_72) rfl ?_
    show Steps p.tables e below (T2.setTop (mkF m 74 #[.val (.int (4 : Int32)), .val (.long v0), .second, .val (.long v1), .second, .val (.long v2), .second, .val (.long v3), .second, .val (.int (1 : Int32)), .val (.ref b2), .val (.int (0 : Int32))] [(.long v2), (.int (0 : Int32)), (.ref b2)])) _
    exact kt)
  obtain ⟨cl9, Ar9, q9, S9, M9, H9, G9⟩ := V2
  have hin9 : ¬ ((0 : Int32) < 0 ∨ cl9.slots.size ≤ ((0 : Int32)).toNatClampNeg) := inb_of S9 ⟨by decide, by decide⟩
  obtain ⟨T9, h9, X9, e9, W9, st9⟩ := stJ X2 hx hZ e2 Ar9 (j := (0 : Int32)) hin9 (g := (mkF m 74 #[.val (.int (4 : Int32)), .val (.long v0), .second, .val (.long v1), .second, .val (.long v2), .second, .val (.long v3), .second, .val (.int (1 : Int32)), .val (.ref b2), .val (.int (0 : Int32))] [(.long v2), (.int (0 : Int32)), (.ref b2)])) rfl rfl (hb hby d1_74)
  have f10 := (f5).wr W9 ((Or.inr (Nat.le_trans ((Keep.refl h0 [])).1 (Nat.le_of_eq g2.symm))))
  have Va9 := Arv.set Ar9 q9 S9 M9 H9 G9 rfl W9 0 rfl (Nat.le_of_ble_eq_true rfl)
  have Nf9 := Fr.snoc X9 N0 gz3
  have Zf9 : n0 ≤ h9.size := Nat.le_trans Zf6 (Keep.of_wr W9).1
  have pre11 : ∀ t, Steps p.tables e below (T9.setTop (mkF m 75 #[.val (.int (4 : Int32)), .val (.long v0), .second, .val (.long v1), .second, .val (.long v2), .second, .val (.long v3), .second, .val (.int (1 : Int32)), .val (.ref b2), .val (.int (0 : Int32))] [])) t → Steps p.tables e below (s₁.setTop (entryFrame m #[(.int (4 : Int32)), (.long v0), (.long v1), (.long v2), (.long v3)] 12)) t := fun t kt => pre8 t (st9 _ kt)
  have pre12 : ∀ t, Steps p.tables e below (T9.setTop (mkF m 97 #[.val (.int (4 : Int32)), .val (.long v0), .second, .val (.long v1), .second, .val (.long v2), .second, .val (.long v3), .second, .val (.int (1 : Int32)), .val (.ref b2), .val (.int (1 : Int32))] [(.ref b2)])) t → Steps p.tables e below (s₁.setTop (entryFrame m #[(.int (4 : Int32)), (.long v0), (.long v1), (.long v2), (.long v3)] 12)) t := fun t kt => pre11 t (by
    refine XS.iinc X9.here hx rfl (hb hby d1_75) rfl (l' := #[.val (.int (4 : Int32)), .val (.long v0), .second, .val (.long v1), .second, .val (.long v2), .second, .val (.long v3), .second, .val (.int (1 : Int32)), .val (.ref b2), .val (.int (1 : Int32))]) rfl ?_
    show Steps p.tables e below (T9.setTop (mkF m 78 #[.val (.int (4 : Int32)), .val (.long v0), .second, .val (.long v1), .second, .val (.long v2), .second, .val (.long v3), .second, .val (.int (1 : Int32)), .val (.ref b2), .val (.int (1 : Int32))] [])) _
    refine XS.iloadN X9.here hx rfl (hb hby d1_78) rfl ?_
    show Steps p.tables e below (T9.setTop (mkF m 79 #[.val (.int (4 : Int32)), .val (.long v0), .second, .val (.long v1), .second, .val (.long v2), .second, .val (.long v3), .second, .val (.int (1 : Int32)), .val (.ref b2), .val (.int (1 : Int32))] [(.int (4 : Int32))])) _
    refine XS.bipush X9.here hx rfl (hb hby d1_79) ?_
    show Steps p.tables e below (T9.setTop (mkF m 81 #[.val (.int (4 : Int32)), .val (.long v0), .second, .val (.long v1), .second, .val (.long v2), .second, .val (.long v3), .second, .val (.int (1 : Int32)), .val (.ref b2), .val (.int (1 : Int32))] [(.int (8 : Int32)), (.int (4 : Int32))])) _
    refine XS.iand X9.here hx rfl (hb hby d1_81) rfl ?_
    show Steps p.tables e below (T9.setTop (mkF m 82 #[.val (.int (4 : Int32)), .val (.long v0), .second, .val (.long v1), .second, .val (.long v2), .second, .val (.long v3), .second, .val (.int (1 : Int32)), .val (.ref b2), .val (.int (1 : Int32))] [(.int (0 : Int32))])) _
    refine XS.ifYes X9.here hx rfl (pc0 := 82) (pc' := 95) rfl (hb hby d1_82) rfl ((if0 _ _).trans (teq (by decide : (0 : Int32) = (0 : Int32))).1) (by decide) (by decide) ?_
    show Steps p.tables e below (T9.setTop (mkF m 95 #[.val (.int (4 : Int32)), .val (.long v0), .second, .val (.long v1), .second, .val (.long v2), .second, .val (.long v3), .second, .val (.int (1 : Int32)), .val (.ref b2), .val (.int (1 : Int32))] [])) _
    refine XS.aload X9.here hx rfl (hb hby d1_95) rfl rfl ?_
    show Steps p.tables e below (T9.setTop (mkF m 97 #[.val (.int (4 : Int32)), .val (.long v0), .second, .val (.long v1), .second, .val (.long v2), .second, .val (.long v3), .second, .val (.int (1 : Int32)), .val (.ref b2), .val (.int (1 : Int32))] [(.ref b2)])) _
    exact kt)
  obtain ⟨fs, hr, hrun, hended, hW, hsame⟩ := X9.leave (v := (some (.ref b2))) (fun h => by rw [Bd.returns] at h; cases h)
  refine ⟨_, _, pre12 _ ?_, hrun, hended, _, _, rfl, ?_, ⟨_, rfl⟩, hW, hsame.mono (by decide) (by decide)⟩
  · exact retOut X9 hx Bd.returns rfl (Or.inr (Or.inr (Or.inr (Or.inr ⟨rfl, rfl, rfl⟩)))) (hb hby d1_97) hr
  · show QP Z [v2] h0 n0 _ T9.heap _
    rw [e9]
    exact ⟨_, rfl, Nf9, f10, gz3, (sz2), own_lg (xs := [v2]) Va9 rfl (by simp)⟩
theorem ef_rmP_5 (m : MethodId) (x0 : Int32) (x1 : Int64) (x2 : Int64) (x3 : Int64) (x4 : Int64) : entryFrame m #[(.int x0), (.long x1), (.long x2), (.long x3), (.long x4)] 12 = mkF m 0 #[.val (.int x0), .val (.long x1), .second, .val (.long x2), .second, .val (.long x3), .second, .val (.long x4), .second, .unset, .unset, .unset] [] := by first | (simp [entryFrame, mkF, argsToLocals, Value.category]; done) | rfl
set_option maxRecDepth 65536 in
set_option maxHeartbeats 40000000 in
theorem rmP_5 (l : Launch) (Z : State) (a0 : Array Value) (hw : ∀ d ∈ tables_1, d.before a0 Z = true) (ws : List Jvm.Cond) (v0 v1 v2 v3 : Int64) (h0 : Heap) (n0 : Nat) (Z0 : n0 ≤ h0.size)  :
    MetFree l (⟨"com/example/nest3/nest3/SubsetWithinPinLaw", "pick", "(IJJJJ)[J"⟩ : MethodName) (head1 (Jvm.Cond.code (⟨"com/example/nest3/nest3/SubsetWithinPinLaw", "pick", "(IJJJJ)[J"⟩ : MethodName) method_3_code 12 (some (.array .long)) :: ws) ({ frames := 0, cells := 1, slots := 4, locals := 0 } : Room)) (fun a U => a = #[(.int (5 : Int32)), (.long v0), (.long v1), (.long v2), (.long v3)] ∧ Z.Warmed39 U.vm ∧ U.heap = h0) (fun _ _ _ _ _ => True) (fun _ U o U' => ∃ v L, o = .returned v ∧ QP Z [v0, v2] h0 n0 v U'.heap L ∧ FrameEnd U o U' L ({ frames := 0, cells := 1, slots := 4, locals := 0 } : Room).cells ({ frames := 0, cells := 1, slots := 4, locals := 0 } : Room).slots) := by
  refine MetFree.of_bodySF (plainFor_of_name pn_com_example_nest3_nest3_SubsetWithinPinLaw) hisR ?_
  intro p e s m args below meth c s₁ Bd hml0 hP hK
  obtain ⟨rfl, hZ, hh⟩ := hP
  have hx := Bd.exec
  have hby := Bd.bytes
  have hml : c.maxLocals = 12 := hml0
  have hown : s.vm.findClass "com/example/nest3/nest3/SubsetWithinPinLaw" = some m.cls := findClass_of_methodNamed Bd.named
  have hnm := (name_of_methodNamed Bd.named Bd.method).1
  have X0 : Stand p l e ({ frames := 0, cells := 1, slots := 4, locals := 0 } : Room) s m #[(.int (5 : Int32)), (.long v0), (.long v1), (.long v2), (.long v3)] below meth c s₁ [] 0 0 := Stand.of_body Bd
  have e0 : s₁.heap = h0 := by rw [← hh, Bd.state]; rfl
  have N0 := Fr.nil n0
  have pre0 : ∀ t, Steps p.tables e below (s₁.setTop (mkF m 0 #[.val (.int (5 : Int32)), .val (.long v0), .second, .val (.long v1), .second, .val (.long v2), .second, .val (.long v3), .second, .unset, .unset, .unset] [])) t → Steps p.tables e below (s₁.setTop (entryFrame m #[(.int (5 : Int32)), (.long v0), (.long v1), (.long v2), (.long v3)] 12)) t := fun t kt => castTop (ef_rmP_5 m (5 : Int32) v0 v1 v2 v3) kt
  have pre1 : ∀ t, Steps p.tables e below (s₁.setTop (mkF m 25 #[.val (.int (5 : Int32)), .val (.long v0), .second, .val (.long v1), .second, .val (.long v2), .second, .val (.long v3), .second, .val (.int (2 : Int32)), .unset, .unset] [(.int (2 : Int32))])) t → Steps p.tables e below (s₁.setTop (entryFrame m #[(.int (5 : Int32)), (.long v0), (.long v1), (.long v2), (.long v3)] 12)) t := fun t kt => pre0 t (by
    refine XS.iloadN X0.here hx rfl (hb hby d1_0) rfl ?_
    show Steps p.tables e below (s₁.setTop (mkF m 1 #[.val (.int (5 : Int32)), .val (.long v0), .second, .val (.long v1), .second, .val (.long v2), .second, .val (.long v3), .second, .unset, .unset, .unset] [(.int (5 : Int32))])) _
    refine XS.iconst X0.here hx rfl (hb hby d1_1) ?_
    show Steps p.tables e below (s₁.setTop (mkF m 2 #[.val (.int (5 : Int32)), .val (.long v0), .second, .val (.long v1), .second, .val (.long v2), .second, .val (.long v3), .second, .unset, .unset, .unset] [(.int (1 : Int32)), (.int (5 : Int32))])) _
    refine XS.iand X0.here hx rfl (hb hby d1_2) rfl ?_
    show Steps p.tables e below (s₁.setTop (mkF m 3 #[.val (.int (5 : Int32)), .val (.long v0), .second, .val (.long v1), .second, .val (.long v2), .second, .val (.long v3), .second, .unset, .unset, .unset] [(.int (1 : Int32))])) _
    refine XS.iloadN X0.here hx rfl (hb hby d1_3) rfl ?_
    show Steps p.tables e below (s₁.setTop (mkF m 4 #[.val (.int (5 : Int32)), .val (.long v0), .second, .val (.long v1), .second, .val (.long v2), .second, .val (.long v3), .second, .unset, .unset, .unset] [(.int (5 : Int32)), (.int (1 : Int32))])) _
    refine XS.iconst X0.here hx rfl (hb hby d1_4) ?_
    show Steps p.tables e below (s₁.setTop (mkF m 5 #[.val (.int (5 : Int32)), .val (.long v0), .second, .val (.long v1), .second, .val (.long v2), .second, .val (.long v3), .second, .unset, .unset, .unset] [(.int (1 : Int32)), (.int (5 : Int32)), (.int (1 : Int32))])) _
    refine XS.iushr X0.here hx rfl (hb hby d1_5) rfl ?_
    show Steps p.tables e below (s₁.setTop (mkF m 6 #[.val (.int (5 : Int32)), .val (.long v0), .second, .val (.long v1), .second, .val (.long v2), .second, .val (.long v3), .second, .unset, .unset, .unset] [(.int (2 : Int32)), (.int (1 : Int32))])) _
    refine XS.iconst X0.here hx rfl (hb hby d1_6) ?_
    show Steps p.tables e below (s₁.setTop (mkF m 7 #[.val (.int (5 : Int32)), .val (.long v0), .second, .val (.long v1), .second, .val (.long v2), .second, .val (.long v3), .second, .unset, .unset, .unset] [(.int (1 : Int32)), (.int (2 : Int32)), (.int (1 : Int32))])) _
    refine XS.iand X0.here hx rfl (hb hby d1_7) rfl ?_
    show Steps p.tables e below (s₁.setTop (mkF m 8 #[.val (.int (5 : Int32)), .val (.long v0), .second, .val (.long v1), .second, .val (.long v2), .second, .val (.long v3), .second, .unset, .unset, .unset] [(.int (0 : Int32)), (.int (1 : Int32))])) _
    refine XS.iadd X0.here hx rfl (hb hby d1_8) rfl ?_
    show Steps p.tables e below (s₁.setTop (mkF m 9 #[.val (.int (5 : Int32)), .val (.long v0), .second, .val (.long v1), .second, .val (.long v2), .second, .val (.long v3), .second, .unset, .unset, .unset] [(.int (1 : Int32))])) _
    refine XS.iloadN X0.here hx rfl (hb hby d1_9) rfl ?_
    show Steps p.tables e below (s₁.setTop (mkF m 10 #[.val (.int (5 : Int32)), .val (.long v0), .second, .val (.long v1), .second, .val (.long v2), .second, .val (.long v3), .second, .unset, .unset, .unset] [(.int (5 : Int32)), (.int (1 : Int32))])) _
    refine XS.iconst X0.here hx rfl (hb hby d1_10) ?_
    show Steps p.tables e below (s₁.setTop (mkF m 11 #[.val (.int (5 : Int32)), .val (.long v0), .second, .val (.long v1), .second, .val (.long v2), .second, .val (.long v3), .second, .unset, .unset, .unset] [(.int (2 : Int32)), (.int (5 : Int32)), (.int (1 : Int32))])) _
    refine XS.iushr X0.here hx rfl (hb hby d1_11) rfl ?_
    show Steps p.tables e below (s₁.setTop (mkF m 12 #[.val (.int (5 : Int32)), .val (.long v0), .second, .val (.long v1), .second, .val (.long v2), .second, .val (.long v3), .second, .unset, .unset, .unset] [(.int (1 : Int32)), (.int (1 : Int32))])) _
    refine XS.iconst X0.here hx rfl (hb hby d1_12) ?_
    show Steps p.tables e below (s₁.setTop (mkF m 13 #[.val (.int (5 : Int32)), .val (.long v0), .second, .val (.long v1), .second, .val (.long v2), .second, .val (.long v3), .second, .unset, .unset, .unset] [(.int (1 : Int32)), (.int (1 : Int32)), (.int (1 : Int32))])) _
    refine XS.iand X0.here hx rfl (hb hby d1_13) rfl ?_
    show Steps p.tables e below (s₁.setTop (mkF m 14 #[.val (.int (5 : Int32)), .val (.long v0), .second, .val (.long v1), .second, .val (.long v2), .second, .val (.long v3), .second, .unset, .unset, .unset] [(.int (1 : Int32)), (.int (1 : Int32))])) _
    refine XS.iadd X0.here hx rfl (hb hby d1_14) rfl ?_
    show Steps p.tables e below (s₁.setTop (mkF m 15 #[.val (.int (5 : Int32)), .val (.long v0), .second, .val (.long v1), .second, .val (.long v2), .second, .val (.long v3), .second, .unset, .unset, .unset] [(.int (2 : Int32))])) _
    refine XS.iloadN X0.here hx rfl (hb hby d1_15) rfl ?_
    show Steps p.tables e below (s₁.setTop (mkF m 16 #[.val (.int (5 : Int32)), .val (.long v0), .second, .val (.long v1), .second, .val (.long v2), .second, .val (.long v3), .second, .unset, .unset, .unset] [(.int (5 : Int32)), (.int (2 : Int32))])) _
    refine XS.iconst X0.here hx rfl (hb hby d1_16) ?_
    show Steps p.tables e below (s₁.setTop (mkF m 17 #[.val (.int (5 : Int32)), .val (.long v0), .second, .val (.long v1), .second, .val (.long v2), .second, .val (.long v3), .second, .unset, .unset, .unset] [(.int (3 : Int32)), (.int (5 : Int32)), (.int (2 : Int32))])) _
    refine XS.iushr X0.here hx rfl (hb hby d1_17) rfl ?_
    show Steps p.tables e below (s₁.setTop (mkF m 18 #[.val (.int (5 : Int32)), .val (.long v0), .second, .val (.long v1), .second, .val (.long v2), .second, .val (.long v3), .second, .unset, .unset, .unset] [(.int (0 : Int32)), (.int (2 : Int32))])) _
    refine XS.iconst X0.here hx rfl (hb hby d1_18) ?_
    show Steps p.tables e below (s₁.setTop (mkF m 19 #[.val (.int (5 : Int32)), .val (.long v0), .second, .val (.long v1), .second, .val (.long v2), .second, .val (.long v3), .second, .unset, .unset, .unset] [(.int (1 : Int32)), (.int (0 : Int32)), (.int (2 : Int32))])) _
    refine XS.iand X0.here hx rfl (hb hby d1_19) rfl ?_
    show Steps p.tables e below (s₁.setTop (mkF m 20 #[.val (.int (5 : Int32)), .val (.long v0), .second, .val (.long v1), .second, .val (.long v2), .second, .val (.long v3), .second, .unset, .unset, .unset] [(.int (0 : Int32)), (.int (2 : Int32))])) _
    refine XS.iadd X0.here hx rfl (hb hby d1_20) rfl ?_
    show Steps p.tables e below (s₁.setTop (mkF m 21 #[.val (.int (5 : Int32)), .val (.long v0), .second, .val (.long v1), .second, .val (.long v2), .second, .val (.long v3), .second, .unset, .unset, .unset] [(.int (2 : Int32))])) _
    refine XS.istore X0.here hx rfl (hb hby d1_21) rfl (l' := #[.val (.int (5 : Int32)), .val (.long v0), .second, .val (.long v1), .second, .val (.long v2), .second, .val (.long v3), .second, .val (.int (2 : Int32)), .unset, .unset]) rfl ?_
    show Steps p.tables e below (s₁.setTop (mkF m 23 #[.val (.int (5 : Int32)), .val (.long v0), .second, .val (.long v1), .second, .val (.long v2), .second, .val (.long v3), .second, .val (.int (2 : Int32)), .unset, .unset] [])) _
    refine XS.iload X0.here hx rfl (hb hby d1_23) rfl ?_
    show Steps p.tables e below (s₁.setTop (mkF m 25 #[.val (.int (5 : Int32)), .val (.long v0), .second, .val (.long v1), .second, .val (.long v2), .second, .val (.long v3), .second, .val (.int (2 : Int32)), .unset, .unset] [(.int (2 : Int32))])) _
    exact kt)
  obtain ⟨T2, h2, k2, X2, e2, E2, A2, st2⟩ := newP X0 hx hZ (hw _ (List.mem_of_getElem? (i := 7) rfl)) e0 (g := (mkF m 25 #[.val (.int (5 : Int32)), .val (.long v0), .second, .val (.long v1), .second, .val (.long v2), .second, .val (.long v3), .second, .val (.int (2 : Int32)), .unset, .unset] [(.int (2 : Int32))])) rfl (hb hby d1_25) rfl (by decide) (cap := 2) (by decide) (by decide) (by decide) (by decide)
  obtain ⟨b2, g2⟩ : ∃ z, z = h0.size := ⟨_, rfl⟩
  rw [← g2] at A2 st2
  have gz3 : n0 ≤ b2 := Nat.le_trans Z0 (Nat.le_of_eq g2.symm)
  have f5 := ((Keep.refl h0 [])).ext E2
  have Zf6 : n0 ≤ h2.size := Nat.le_trans Z0 E2.1
  have sz2 : h0.size ≤ b2 := Nat.le_of_eq g2.symm
  have V2 : Arv Z h2 b2 k2 .long (2 : Int32) [(.long (0 : Int64)), (.long (0 : Int64))] (.long (0 : Int64)) := (Arv.new A2 (by decide)).pad (pad_rep [] (.long (0 : Int64)) 2)
  have pre7 : ∀ t, Steps p.tables e below (T2.setTop (mkF m 27 #[.val (.int (5 : Int32)), .val (.long v0), .second, .val (.long v1), .second, .val (.long v2), .second, .val (.long v3), .second, .val (.int (2 : Int32)), .unset, .unset] [(.ref b2)])) t → Steps p.tables e below (s₁.setTop (entryFrame m #[(.int (5 : Int32)), (.long v0), (.long v1), (.long v2), (.long v3)] 12)) t := fun t kt => pre1 t (st2 _ kt)
  have pre8 : ∀ t, Steps p.tables e below (T2.setTop (mkF m 43 #[.val (.int (5 : Int32)), .val (.long v0), .second, .val (.long v1), .second, .val (.long v2), .second, .val (.long v3), .second, .val (.int (2 : Int32)), .val (.ref b2), .val (.int (0 : Int32))] [(.long v0), (.int (0 : Int32)), (.ref b2)])) t → Steps p.tables e below (s₁.setTop (entryFrame m #[(.int (5 : Int32)), (.long v0), (.long v1), (.long v2), (.long v3)] 12)) t := fun t kt => pre7 t (by
    refine XS.astore X2.here hx rfl (hb hby d1_27) rfl rfl (l' := #[.val (.int (5 : Int32)), .val (.long v0), .second, .val (.long v1), .second, .val (.long v2), .second, .val (.long v3), .second, .val (.int (2 : Int32)), .val (.ref b2), .unset]) rfl ?_
    show Steps p.tables e below (T2.setTop (mkF m 29 #[.val (.int (5 : Int32)), .val (.long v0), .second, .val (.long v1), .second, .val (.long v2), .second, .val (.long v3), .second, .val (.int (2 : Int32)), .val (.ref b2), .unset] [])) _
    refine XS.iconst X2.here hx rfl (hb hby d1_29) ?_
    show Steps p.tables e below (T2.setTop (mkF m 30 #[.val (.int (5 : Int32)), .val (.long v0), .second, .val (.long v1), .second, .val (.long v2), .second, .val (.long v3), .second, .val (.int (2 : Int32)), .val (.ref b2), .unset] [(.int (0 : Int32))])) _
    refine XS.istore X2.here hx rfl (hb hby d1_30) rfl (l' := #[.val (.int (5 : Int32)), .val (.long v0), .second, .val (.long v1), .second, .val (.long v2), .second, .val (.long v3), .second, .val (.int (2 : Int32)), .val (.ref b2), .val (.int (0 : Int32))]) rfl ?_
    show Steps p.tables e below (T2.setTop (mkF m 32 #[.val (.int (5 : Int32)), .val (.long v0), .second, .val (.long v1), .second, .val (.long v2), .second, .val (.long v3), .second, .val (.int (2 : Int32)), .val (.ref b2), .val (.int (0 : Int32))] [])) _
    refine XS.iloadN X2.here hx rfl (hb hby d1_32) rfl ?_
    show Steps p.tables e below (T2.setTop (mkF m 33 #[.val (.int (5 : Int32)), .val (.long v0), .second, .val (.long v1), .second, .val (.long v2), .second, .val (.long v3), .second, .val (.int (2 : Int32)), .val (.ref b2), .val (.int (0 : Int32))] [(.int (5 : Int32))])) _
    refine XS.iconst X2.here hx rfl (hb hby d1_33) ?_
    show Steps p.tables e below (T2.setTop (mkF m 34 #[.val (.int (5 : Int32)), .val (.long v0), .second, .val (.long v1), .second, .val (.long v2), .second, .val (.long v3), .second, .val (.int (2 : Int32)), .val (.ref b2), .val (.int (0 : Int32))] [(.int (1 : Int32)), (.int (5 : Int32))])) _
    refine XS.iand X2.here hx rfl (hb hby d1_34) rfl ?_
    show Steps p.tables e below (T2.setTop (mkF m 35 #[.val (.int (5 : Int32)), .val (.long v0), .second, .val (.long v1), .second, .val (.long v2), .second, .val (.long v3), .second, .val (.int (2 : Int32)), .val (.ref b2), .val (.int (0 : Int32))] [(.int (1 : Int32))])) _
    refine XS.ifNo X2.here hx rfl (hb hby d1_35) rfl ((if0 _ _).trans (feq (by decide : ¬ ((1 : Int32) = (0 : Int32)))).1) ?_
    show Steps p.tables e below (T2.setTop (mkF m 38 #[.val (.int (5 : Int32)), .val (.long v0), .second, .val (.long v1), .second, .val (.long v2), .second, .val (.long v3), .second, .val (.int (2 : Int32)), .val (.ref b2), .val (.int (0 : Int32))] [])) _
    refine XS.aload X2.here hx rfl (hb hby d1_38) rfl rfl ?_
    show Steps p.tables e below (T2.setTop (mkF m 40 #[.val (.int (5 : Int32)), .val (.long v0), .second, .val (.long v1), .second, .val (.long v2), .second, .val (.long v3), .second, .val (.int (2 : Int32)), .val (.ref b2), .val (.int (0 : Int32))] [(.ref b2)])) _
    refine XS.iload X2.here hx rfl (hb hby d1_40) rfl ?_
    show Steps p.tables e below (T2.setTop (mkF m 42 #[.val (.int (5 : Int32)), .val (.long v0), .second, .val (.long v1), .second, .val (.long v2), .second, .val (.long v3), .second, .val (.int (2 : Int32)), .val (.ref b2), .val (.int (0 : Int32))] [(.int (0 : Int32)), (.ref b2)])) _
    refine XS.lloadN X2.here hx rfl (hb hby d1_42) rfl ?_
    show Steps p.tables e below (T2.setTop (mkF m 43 #[.val (.int (5 : Int32)), .val (.long v0), .second, .val (.long v1), .second, .val (.long v2), .second, .val (.long v3), .second, .val (.int (2 : Int32)), .val (.ref b2), .val (.int (0 : Int32))] [(.long v0), (.int (0 : Int32)), (.ref b2)])) _
    exact kt)
  obtain ⟨cl9, Ar9, q9, S9, M9, H9, G9⟩ := V2
  have hin9 : ¬ ((0 : Int32) < 0 ∨ cl9.slots.size ≤ ((0 : Int32)).toNatClampNeg) := inb_of S9 ⟨by decide, by decide⟩
  obtain ⟨T9, h9, X9, e9, W9, st9⟩ := stJ X2 hx hZ e2 Ar9 (j := (0 : Int32)) hin9 (g := (mkF m 43 #[.val (.int (5 : Int32)), .val (.long v0), .second, .val (.long v1), .second, .val (.long v2), .second, .val (.long v3), .second, .val (.int (2 : Int32)), .val (.ref b2), .val (.int (0 : Int32))] [(.long v0), (.int (0 : Int32)), (.ref b2)])) rfl rfl (hb hby d1_43)
  have f10 := (f5).wr W9 ((Or.inr (Nat.le_trans ((Keep.refl h0 [])).1 (Nat.le_of_eq g2.symm))))
  have Va9 := Arv.set Ar9 q9 S9 M9 H9 G9 rfl W9 0 rfl (Nat.le_of_ble_eq_true rfl)
  have Nf9 := Fr.snoc X9 N0 gz3
  have Zf9 : n0 ≤ h9.size := Nat.le_trans Zf6 (Keep.of_wr W9).1
  have pre11 : ∀ t, Steps p.tables e below (T9.setTop (mkF m 44 #[.val (.int (5 : Int32)), .val (.long v0), .second, .val (.long v1), .second, .val (.long v2), .second, .val (.long v3), .second, .val (.int (2 : Int32)), .val (.ref b2), .val (.int (0 : Int32))] [])) t → Steps p.tables e below (s₁.setTop (entryFrame m #[(.int (5 : Int32)), (.long v0), (.long v1), (.long v2), (.long v3)] 12)) t := fun t kt => pre8 t (st9 _ kt)
  have pre12 : ∀ t, Steps p.tables e below (T9.setTop (mkF m 74 #[.val (.int (5 : Int32)), .val (.long v0), .second, .val (.long v1), .second, .val (.long v2), .second, .val (.long v3), .second, .val (.int (2 : Int32)), .val (.ref b2), .val (.int (1 : Int32))] [(.long v2), (.int (1 : Int32)), (.ref b2)])) t → Steps p.tables e below (s₁.setTop (entryFrame m #[(.int (5 : Int32)), (.long v0), (.long v1), (.long v2), (.long v3)] 12)) t := fun t kt => pre11 t (by
    refine XS.iinc X9.here hx rfl (hb hby d1_44) rfl (l' := #[.val (.int (5 : Int32)), .val (.long v0), .second, .val (.long v1), .second, .val (.long v2), .second, .val (.long v3), .second, .val (.int (2 : Int32)), .val (.ref b2), .val (.int (1 : Int32))]) rfl ?_
    show Steps p.tables e below (T9.setTop (mkF m 47 #[.val (.int (5 : Int32)), .val (.long v0), .second, .val (.long v1), .second, .val (.long v2), .second, .val (.long v3), .second, .val (.int (2 : Int32)), .val (.ref b2), .val (.int (1 : Int32))] [])) _
    refine XS.iloadN X9.here hx rfl (hb hby d1_47) rfl ?_
    show Steps p.tables e below (T9.setTop (mkF m 48 #[.val (.int (5 : Int32)), .val (.long v0), .second, .val (.long v1), .second, .val (.long v2), .second, .val (.long v3), .second, .val (.int (2 : Int32)), .val (.ref b2), .val (.int (1 : Int32))] [(.int (5 : Int32))])) _
    refine XS.iconst X9.here hx rfl (hb hby d1_48) ?_
    show Steps p.tables e below (T9.setTop (mkF m 49 #[.val (.int (5 : Int32)), .val (.long v0), .second, .val (.long v1), .second, .val (.long v2), .second, .val (.long v3), .second, .val (.int (2 : Int32)), .val (.ref b2), .val (.int (1 : Int32))] [(.int (2 : Int32)), (.int (5 : Int32))])) _
    refine XS.iand X9.here hx rfl (hb hby d1_49) rfl ?_
    show Steps p.tables e below (T9.setTop (mkF m 50 #[.val (.int (5 : Int32)), .val (.long v0), .second, .val (.long v1), .second, .val (.long v2), .second, .val (.long v3), .second, .val (.int (2 : Int32)), .val (.ref b2), .val (.int (1 : Int32))] [(.int (0 : Int32))])) _
    refine XS.ifYes X9.here hx rfl (pc0 := 50) (pc' := 62) rfl (hb hby d1_50) rfl ((if0 _ _).trans (teq (by decide : (0 : Int32) = (0 : Int32))).1) (by decide) (by decide) ?_
    show Steps p.tables e below (T9.setTop (mkF m 62 #[.val (.int (5 : Int32)), .val (.long v0), .second, .val (.long v1), .second, .val (.long v2), .second, .val (.long v3), .second, .val (.int (2 : Int32)), .val (.ref b2), .val (.int (1 : Int32))] [])) _
    refine XS.iloadN X9.here hx rfl (hb hby d1_62) rfl ?_
    show Steps p.tables e below (T9.setTop (mkF m 63 #[.val (.int (5 : Int32)), .val (.long v0), .second, .val (.long v1), .second, .val (.long v2), .second, .val (.long v3), .second, .val (.int (2 : Int32)), .val (.ref b2), .val (.int (1 : Int32))] [(.int (5 : Int32))])) _
    refine XS.iconst X9.here hx rfl (hb hby d1_63) ?_
    show Steps p.tables e below (T9.setTop (mkF m 64 #[.val (.int (5 : Int32)), .val (.long v0), .second, .val (.long v1), .second, .val (.long v2), .second, .val (.long v3), .second, .val (.int (2 : Int32)), .val (.ref b2), .val (.int (1 : Int32))] [(.int (4 : Int32)), (.int (5 : Int32))])) _
    refine XS.iand X9.here hx rfl (hb hby d1_64) rfl ?_
    show Steps p.tables e below (T9.setTop (mkF m 65 #[.val (.int (5 : Int32)), .val (.long v0), .second, .val (.long v1), .second, .val (.long v2), .second, .val (.long v3), .second, .val (.int (2 : Int32)), .val (.ref b2), .val (.int (1 : Int32))] [(.int (4 : Int32))])) _
    refine XS.ifNo X9.here hx rfl (hb hby d1_65) rfl ((if0 _ _).trans (feq (by decide : ¬ ((4 : Int32) = (0 : Int32)))).1) ?_
    show Steps p.tables e below (T9.setTop (mkF m 68 #[.val (.int (5 : Int32)), .val (.long v0), .second, .val (.long v1), .second, .val (.long v2), .second, .val (.long v3), .second, .val (.int (2 : Int32)), .val (.ref b2), .val (.int (1 : Int32))] [])) _
    refine XS.aload X9.here hx rfl (hb hby d1_68) rfl rfl ?_
    show Steps p.tables e below (T9.setTop (mkF m 70 #[.val (.int (5 : Int32)), .val (.long v0), .second, .val (.long v1), .second, .val (.long v2), .second, .val (.long v3), .second, .val (.int (2 : Int32)), .val (.ref b2), .val (.int (1 : Int32))] [(.ref b2)])) _
    refine XS.iload X9.here hx rfl (hb hby d1_70) rfl ?_
    show Steps p.tables e below (T9.setTop (mkF m 72 #[.val (.int (5 : Int32)), .val (.long v0), .second, .val (.long v1), .second, .val (.long v2), .second, .val (.long v3), .second, .val (.int (2 : Int32)), .val (.ref b2), .val (.int (1 : Int32))] [(.int (1 : Int32)), (.ref b2)])) _
    refine XS.lload X9.here hx rfl (hb hby d1_72) rfl ?_
    show Steps p.tables e below (T9.setTop (mkF m 74 #[.val (.int (5 : Int32)), .val (.long v0), .second, .val (.long v1), .second, .val (.long v2), .second, .val (.long v3), .second, .val (.int (2 : Int32)), .val (.ref b2), .val (.int (1 : Int32))] [(.long v2), (.int (1 : Int32)), (.ref b2)])) _
    exact kt)
  obtain ⟨cl13, Ar13, q13, S13, M13, H13, G13⟩ := Va9
  have hin13 : ¬ ((1 : Int32) < 0 ∨ cl13.slots.size ≤ ((1 : Int32)).toNatClampNeg) := inb_of S13 ⟨by decide, by decide⟩
  obtain ⟨T13, h13, X13, e13, W13, st13⟩ := stJ X9 hx hZ e9 Ar13 (j := (1 : Int32)) hin13 (g := (mkF m 74 #[.val (.int (5 : Int32)), .val (.long v0), .second, .val (.long v1), .second, .val (.long v2), .second, .val (.long v3), .second, .val (.int (2 : Int32)), .val (.ref b2), .val (.int (1 : Int32))] [(.long v2), (.int (1 : Int32)), (.ref b2)])) rfl rfl (hb hby d1_74)
  have f14 := (f10).wr W13 ((Or.inr (Nat.le_trans ((Keep.refl h0 [])).1 (Nat.le_of_eq g2.symm))))
  have Va13 := Arv.set Ar13 q13 S13 M13 H13 G13 rfl W13 1 rfl (Nat.le_of_ble_eq_true rfl)
  have Nf13 := Fr.snoc X13 Nf9 gz3
  have Zf13 : n0 ≤ h13.size := Nat.le_trans Zf9 (Keep.of_wr W13).1
  have pre15 : ∀ t, Steps p.tables e below (T13.setTop (mkF m 75 #[.val (.int (5 : Int32)), .val (.long v0), .second, .val (.long v1), .second, .val (.long v2), .second, .val (.long v3), .second, .val (.int (2 : Int32)), .val (.ref b2), .val (.int (1 : Int32))] [])) t → Steps p.tables e below (s₁.setTop (entryFrame m #[(.int (5 : Int32)), (.long v0), (.long v1), (.long v2), (.long v3)] 12)) t := fun t kt => pre12 t (st13 _ kt)
  have pre16 : ∀ t, Steps p.tables e below (T13.setTop (mkF m 97 #[.val (.int (5 : Int32)), .val (.long v0), .second, .val (.long v1), .second, .val (.long v2), .second, .val (.long v3), .second, .val (.int (2 : Int32)), .val (.ref b2), .val (.int (2 : Int32))] [(.ref b2)])) t → Steps p.tables e below (s₁.setTop (entryFrame m #[(.int (5 : Int32)), (.long v0), (.long v1), (.long v2), (.long v3)] 12)) t := fun t kt => pre15 t (by
    refine XS.iinc X13.here hx rfl (hb hby d1_75) rfl (l' := #[.val (.int (5 : Int32)), .val (.long v0), .second, .val (.long v1), .second, .val (.long v2), .second, .val (.long v3), .second, .val (.int (2 : Int32)), .val (.ref b2), .val (.int (2 : Int32))]) rfl ?_
    show Steps p.tables e below (T13.setTop (mkF m 78 #[.val (.int (5 : Int32)), .val (.long v0), .second, .val (.long v1), .second, .val (.long v2), .second, .val (.long v3), .second, .val (.int (2 : Int32)), .val (.ref b2), .val (.int (2 : Int32))] [])) _
    refine XS.iloadN X13.here hx rfl (hb hby d1_78) rfl ?_
    show Steps p.tables e below (T13.setTop (mkF m 79 #[.val (.int (5 : Int32)), .val (.long v0), .second, .val (.long v1), .second, .val (.long v2), .second, .val (.long v3), .second, .val (.int (2 : Int32)), .val (.ref b2), .val (.int (2 : Int32))] [(.int (5 : Int32))])) _
    refine XS.bipush X13.here hx rfl (hb hby d1_79) ?_
    show Steps p.tables e below (T13.setTop (mkF m 81 #[.val (.int (5 : Int32)), .val (.long v0), .second, .val (.long v1), .second, .val (.long v2), .second, .val (.long v3), .second, .val (.int (2 : Int32)), .val (.ref b2), .val (.int (2 : Int32))] [(.int (8 : Int32)), (.int (5 : Int32))])) _
    refine XS.iand X13.here hx rfl (hb hby d1_81) rfl ?_
    show Steps p.tables e below (T13.setTop (mkF m 82 #[.val (.int (5 : Int32)), .val (.long v0), .second, .val (.long v1), .second, .val (.long v2), .second, .val (.long v3), .second, .val (.int (2 : Int32)), .val (.ref b2), .val (.int (2 : Int32))] [(.int (0 : Int32))])) _
    refine XS.ifYes X13.here hx rfl (pc0 := 82) (pc' := 95) rfl (hb hby d1_82) rfl ((if0 _ _).trans (teq (by decide : (0 : Int32) = (0 : Int32))).1) (by decide) (by decide) ?_
    show Steps p.tables e below (T13.setTop (mkF m 95 #[.val (.int (5 : Int32)), .val (.long v0), .second, .val (.long v1), .second, .val (.long v2), .second, .val (.long v3), .second, .val (.int (2 : Int32)), .val (.ref b2), .val (.int (2 : Int32))] [])) _
    refine XS.aload X13.here hx rfl (hb hby d1_95) rfl rfl ?_
    show Steps p.tables e below (T13.setTop (mkF m 97 #[.val (.int (5 : Int32)), .val (.long v0), .second, .val (.long v1), .second, .val (.long v2), .second, .val (.long v3), .second, .val (.int (2 : Int32)), .val (.ref b2), .val (.int (2 : Int32))] [(.ref b2)])) _
    exact kt)
  obtain ⟨fs, hr, hrun, hended, hW, hsame⟩ := X13.leave (v := (some (.ref b2))) (fun h => by rw [Bd.returns] at h; cases h)
  refine ⟨_, _, pre16 _ ?_, hrun, hended, _, _, rfl, ?_, ⟨_, rfl⟩, hW, hsame.mono (by decide) (by decide)⟩
  · exact retOut X13 hx Bd.returns rfl (Or.inr (Or.inr (Or.inr (Or.inr ⟨rfl, rfl, rfl⟩)))) (hb hby d1_97) hr
  · show QP Z [v0, v2] h0 n0 _ T13.heap _
    rw [e13]
    exact ⟨_, rfl, Nf13, f14, gz3, (sz2), own_lg (xs := [v0, v2]) Va13 rfl (by simp)⟩
theorem ef_rmP_6 (m : MethodId) (x0 : Int32) (x1 : Int64) (x2 : Int64) (x3 : Int64) (x4 : Int64) : entryFrame m #[(.int x0), (.long x1), (.long x2), (.long x3), (.long x4)] 12 = mkF m 0 #[.val (.int x0), .val (.long x1), .second, .val (.long x2), .second, .val (.long x3), .second, .val (.long x4), .second, .unset, .unset, .unset] [] := by first | (simp [entryFrame, mkF, argsToLocals, Value.category]; done) | rfl
set_option maxRecDepth 65536 in
set_option maxHeartbeats 40000000 in
theorem rmP_6 (l : Launch) (Z : State) (a0 : Array Value) (hw : ∀ d ∈ tables_1, d.before a0 Z = true) (ws : List Jvm.Cond) (v0 v1 v2 v3 : Int64) (h0 : Heap) (n0 : Nat) (Z0 : n0 ≤ h0.size)  :
    MetFree l (⟨"com/example/nest3/nest3/SubsetWithinPinLaw", "pick", "(IJJJJ)[J"⟩ : MethodName) (head1 (Jvm.Cond.code (⟨"com/example/nest3/nest3/SubsetWithinPinLaw", "pick", "(IJJJJ)[J"⟩ : MethodName) method_3_code 12 (some (.array .long)) :: ws) ({ frames := 0, cells := 1, slots := 4, locals := 0 } : Room)) (fun a U => a = #[(.int (6 : Int32)), (.long v0), (.long v1), (.long v2), (.long v3)] ∧ Z.Warmed39 U.vm ∧ U.heap = h0) (fun _ _ _ _ _ => True) (fun _ U o U' => ∃ v L, o = .returned v ∧ QP Z [v1, v2] h0 n0 v U'.heap L ∧ FrameEnd U o U' L ({ frames := 0, cells := 1, slots := 4, locals := 0 } : Room).cells ({ frames := 0, cells := 1, slots := 4, locals := 0 } : Room).slots) := by
  refine MetFree.of_bodySF (plainFor_of_name pn_com_example_nest3_nest3_SubsetWithinPinLaw) hisR ?_
  intro p e s m args below meth c s₁ Bd hml0 hP hK
  obtain ⟨rfl, hZ, hh⟩ := hP
  have hx := Bd.exec
  have hby := Bd.bytes
  have hml : c.maxLocals = 12 := hml0
  have hown : s.vm.findClass "com/example/nest3/nest3/SubsetWithinPinLaw" = some m.cls := findClass_of_methodNamed Bd.named
  have hnm := (name_of_methodNamed Bd.named Bd.method).1
  have X0 : Stand p l e ({ frames := 0, cells := 1, slots := 4, locals := 0 } : Room) s m #[(.int (6 : Int32)), (.long v0), (.long v1), (.long v2), (.long v3)] below meth c s₁ [] 0 0 := Stand.of_body Bd
  have e0 : s₁.heap = h0 := by rw [← hh, Bd.state]; rfl
  have N0 := Fr.nil n0
  have pre0 : ∀ t, Steps p.tables e below (s₁.setTop (mkF m 0 #[.val (.int (6 : Int32)), .val (.long v0), .second, .val (.long v1), .second, .val (.long v2), .second, .val (.long v3), .second, .unset, .unset, .unset] [])) t → Steps p.tables e below (s₁.setTop (entryFrame m #[(.int (6 : Int32)), (.long v0), (.long v1), (.long v2), (.long v3)] 12)) t := fun t kt => castTop (ef_rmP_6 m (6 : Int32) v0 v1 v2 v3) kt
  have pre1 : ∀ t, Steps p.tables e below (s₁.setTop (mkF m 25 #[.val (.int (6 : Int32)), .val (.long v0), .second, .val (.long v1), .second, .val (.long v2), .second, .val (.long v3), .second, .val (.int (2 : Int32)), .unset, .unset] [(.int (2 : Int32))])) t → Steps p.tables e below (s₁.setTop (entryFrame m #[(.int (6 : Int32)), (.long v0), (.long v1), (.long v2), (.long v3)] 12)) t := fun t kt => pre0 t (by
    refine XS.iloadN X0.here hx rfl (hb hby d1_0) rfl ?_
    show Steps p.tables e below (s₁.setTop (mkF m 1 #[.val (.int (6 : Int32)), .val (.long v0), .second, .val (.long v1), .second, .val (.long v2), .second, .val (.long v3), .second, .unset, .unset, .unset] [(.int (6 : Int32))])) _
    refine XS.iconst X0.here hx rfl (hb hby d1_1) ?_
    show Steps p.tables e below (s₁.setTop (mkF m 2 #[.val (.int (6 : Int32)), .val (.long v0), .second, .val (.long v1), .second, .val (.long v2), .second, .val (.long v3), .second, .unset, .unset, .unset] [(.int (1 : Int32)), (.int (6 : Int32))])) _
    refine XS.iand X0.here hx rfl (hb hby d1_2) rfl ?_
    show Steps p.tables e below (s₁.setTop (mkF m 3 #[.val (.int (6 : Int32)), .val (.long v0), .second, .val (.long v1), .second, .val (.long v2), .second, .val (.long v3), .second, .unset, .unset, .unset] [(.int (0 : Int32))])) _
    refine XS.iloadN X0.here hx rfl (hb hby d1_3) rfl ?_
    show Steps p.tables e below (s₁.setTop (mkF m 4 #[.val (.int (6 : Int32)), .val (.long v0), .second, .val (.long v1), .second, .val (.long v2), .second, .val (.long v3), .second, .unset, .unset, .unset] [(.int (6 : Int32)), (.int (0 : Int32))])) _
    refine XS.iconst X0.here hx rfl (hb hby d1_4) ?_
    show Steps p.tables e below (s₁.setTop (mkF m 5 #[.val (.int (6 : Int32)), .val (.long v0), .second, .val (.long v1), .second, .val (.long v2), .second, .val (.long v3), .second, .unset, .unset, .unset] [(.int (1 : Int32)), (.int (6 : Int32)), (.int (0 : Int32))])) _
    refine XS.iushr X0.here hx rfl (hb hby d1_5) rfl ?_
    show Steps p.tables e below (s₁.setTop (mkF m 6 #[.val (.int (6 : Int32)), .val (.long v0), .second, .val (.long v1), .second, .val (.long v2), .second, .val (.long v3), .second, .unset, .unset, .unset] [(.int (3 : Int32)), (.int (0 : Int32))])) _
    refine XS.iconst X0.here hx rfl (hb hby d1_6) ?_
    show Steps p.tables e below (s₁.setTop (mkF m 7 #[.val (.int (6 : Int32)), .val (.long v0), .second, .val (.long v1), .second, .val (.long v2), .second, .val (.long v3), .second, .unset, .unset, .unset] [(.int (1 : Int32)), (.int (3 : Int32)), (.int (0 : Int32))])) _
    refine XS.iand X0.here hx rfl (hb hby d1_7) rfl ?_
    show Steps p.tables e below (s₁.setTop (mkF m 8 #[.val (.int (6 : Int32)), .val (.long v0), .second, .val (.long v1), .second, .val (.long v2), .second, .val (.long v3), .second, .unset, .unset, .unset] [(.int (1 : Int32)), (.int (0 : Int32))])) _
    refine XS.iadd X0.here hx rfl (hb hby d1_8) rfl ?_
    show Steps p.tables e below (s₁.setTop (mkF m 9 #[.val (.int (6 : Int32)), .val (.long v0), .second, .val (.long v1), .second, .val (.long v2), .second, .val (.long v3), .second, .unset, .unset, .unset] [(.int (1 : Int32))])) _
    refine XS.iloadN X0.here hx rfl (hb hby d1_9) rfl ?_
    show Steps p.tables e below (s₁.setTop (mkF m 10 #[.val (.int (6 : Int32)), .val (.long v0), .second, .val (.long v1), .second, .val (.long v2), .second, .val (.long v3), .second, .unset, .unset, .unset] [(.int (6 : Int32)), (.int (1 : Int32))])) _
    refine XS.iconst X0.here hx rfl (hb hby d1_10) ?_
    show Steps p.tables e below (s₁.setTop (mkF m 11 #[.val (.int (6 : Int32)), .val (.long v0), .second, .val (.long v1), .second, .val (.long v2), .second, .val (.long v3), .second, .unset, .unset, .unset] [(.int (2 : Int32)), (.int (6 : Int32)), (.int (1 : Int32))])) _
    refine XS.iushr X0.here hx rfl (hb hby d1_11) rfl ?_
    show Steps p.tables e below (s₁.setTop (mkF m 12 #[.val (.int (6 : Int32)), .val (.long v0), .second, .val (.long v1), .second, .val (.long v2), .second, .val (.long v3), .second, .unset, .unset, .unset] [(.int (1 : Int32)), (.int (1 : Int32))])) _
    refine XS.iconst X0.here hx rfl (hb hby d1_12) ?_
    show Steps p.tables e below (s₁.setTop (mkF m 13 #[.val (.int (6 : Int32)), .val (.long v0), .second, .val (.long v1), .second, .val (.long v2), .second, .val (.long v3), .second, .unset, .unset, .unset] [(.int (1 : Int32)), (.int (1 : Int32)), (.int (1 : Int32))])) _
    refine XS.iand X0.here hx rfl (hb hby d1_13) rfl ?_
    show Steps p.tables e below (s₁.setTop (mkF m 14 #[.val (.int (6 : Int32)), .val (.long v0), .second, .val (.long v1), .second, .val (.long v2), .second, .val (.long v3), .second, .unset, .unset, .unset] [(.int (1 : Int32)), (.int (1 : Int32))])) _
    refine XS.iadd X0.here hx rfl (hb hby d1_14) rfl ?_
    show Steps p.tables e below (s₁.setTop (mkF m 15 #[.val (.int (6 : Int32)), .val (.long v0), .second, .val (.long v1), .second, .val (.long v2), .second, .val (.long v3), .second, .unset, .unset, .unset] [(.int (2 : Int32))])) _
    refine XS.iloadN X0.here hx rfl (hb hby d1_15) rfl ?_
    show Steps p.tables e below (s₁.setTop (mkF m 16 #[.val (.int (6 : Int32)), .val (.long v0), .second, .val (.long v1), .second, .val (.long v2), .second, .val (.long v3), .second, .unset, .unset, .unset] [(.int (6 : Int32)), (.int (2 : Int32))])) _
    refine XS.iconst X0.here hx rfl (hb hby d1_16) ?_
    show Steps p.tables e below (s₁.setTop (mkF m 17 #[.val (.int (6 : Int32)), .val (.long v0), .second, .val (.long v1), .second, .val (.long v2), .second, .val (.long v3), .second, .unset, .unset, .unset] [(.int (3 : Int32)), (.int (6 : Int32)), (.int (2 : Int32))])) _
    refine XS.iushr X0.here hx rfl (hb hby d1_17) rfl ?_
    show Steps p.tables e below (s₁.setTop (mkF m 18 #[.val (.int (6 : Int32)), .val (.long v0), .second, .val (.long v1), .second, .val (.long v2), .second, .val (.long v3), .second, .unset, .unset, .unset] [(.int (0 : Int32)), (.int (2 : Int32))])) _
    refine XS.iconst X0.here hx rfl (hb hby d1_18) ?_
    show Steps p.tables e below (s₁.setTop (mkF m 19 #[.val (.int (6 : Int32)), .val (.long v0), .second, .val (.long v1), .second, .val (.long v2), .second, .val (.long v3), .second, .unset, .unset, .unset] [(.int (1 : Int32)), (.int (0 : Int32)), (.int (2 : Int32))])) _
    refine XS.iand X0.here hx rfl (hb hby d1_19) rfl ?_
    show Steps p.tables e below (s₁.setTop (mkF m 20 #[.val (.int (6 : Int32)), .val (.long v0), .second, .val (.long v1), .second, .val (.long v2), .second, .val (.long v3), .second, .unset, .unset, .unset] [(.int (0 : Int32)), (.int (2 : Int32))])) _
    refine XS.iadd X0.here hx rfl (hb hby d1_20) rfl ?_
    show Steps p.tables e below (s₁.setTop (mkF m 21 #[.val (.int (6 : Int32)), .val (.long v0), .second, .val (.long v1), .second, .val (.long v2), .second, .val (.long v3), .second, .unset, .unset, .unset] [(.int (2 : Int32))])) _
    refine XS.istore X0.here hx rfl (hb hby d1_21) rfl (l' := #[.val (.int (6 : Int32)), .val (.long v0), .second, .val (.long v1), .second, .val (.long v2), .second, .val (.long v3), .second, .val (.int (2 : Int32)), .unset, .unset]) rfl ?_
    show Steps p.tables e below (s₁.setTop (mkF m 23 #[.val (.int (6 : Int32)), .val (.long v0), .second, .val (.long v1), .second, .val (.long v2), .second, .val (.long v3), .second, .val (.int (2 : Int32)), .unset, .unset] [])) _
    refine XS.iload X0.here hx rfl (hb hby d1_23) rfl ?_
    show Steps p.tables e below (s₁.setTop (mkF m 25 #[.val (.int (6 : Int32)), .val (.long v0), .second, .val (.long v1), .second, .val (.long v2), .second, .val (.long v3), .second, .val (.int (2 : Int32)), .unset, .unset] [(.int (2 : Int32))])) _
    exact kt)
  obtain ⟨T2, h2, k2, X2, e2, E2, A2, st2⟩ := newP X0 hx hZ (hw _ (List.mem_of_getElem? (i := 7) rfl)) e0 (g := (mkF m 25 #[.val (.int (6 : Int32)), .val (.long v0), .second, .val (.long v1), .second, .val (.long v2), .second, .val (.long v3), .second, .val (.int (2 : Int32)), .unset, .unset] [(.int (2 : Int32))])) rfl (hb hby d1_25) rfl (by decide) (cap := 2) (by decide) (by decide) (by decide) (by decide)
  obtain ⟨b2, g2⟩ : ∃ z, z = h0.size := ⟨_, rfl⟩
  rw [← g2] at A2 st2
  have gz3 : n0 ≤ b2 := Nat.le_trans Z0 (Nat.le_of_eq g2.symm)
  have f5 := ((Keep.refl h0 [])).ext E2
  have Zf6 : n0 ≤ h2.size := Nat.le_trans Z0 E2.1
  have sz2 : h0.size ≤ b2 := Nat.le_of_eq g2.symm
  have V2 : Arv Z h2 b2 k2 .long (2 : Int32) [(.long (0 : Int64)), (.long (0 : Int64))] (.long (0 : Int64)) := (Arv.new A2 (by decide)).pad (pad_rep [] (.long (0 : Int64)) 2)
  have pre7 : ∀ t, Steps p.tables e below (T2.setTop (mkF m 27 #[.val (.int (6 : Int32)), .val (.long v0), .second, .val (.long v1), .second, .val (.long v2), .second, .val (.long v3), .second, .val (.int (2 : Int32)), .unset, .unset] [(.ref b2)])) t → Steps p.tables e below (s₁.setTop (entryFrame m #[(.int (6 : Int32)), (.long v0), (.long v1), (.long v2), (.long v3)] 12)) t := fun t kt => pre1 t (st2 _ kt)
  have pre8 : ∀ t, Steps p.tables e below (T2.setTop (mkF m 58 #[.val (.int (6 : Int32)), .val (.long v0), .second, .val (.long v1), .second, .val (.long v2), .second, .val (.long v3), .second, .val (.int (2 : Int32)), .val (.ref b2), .val (.int (0 : Int32))] [(.long v1), (.int (0 : Int32)), (.ref b2)])) t → Steps p.tables e below (s₁.setTop (entryFrame m #[(.int (6 : Int32)), (.long v0), (.long v1), (.long v2), (.long v3)] 12)) t := fun t kt => pre7 t (by
    refine XS.astore X2.here hx rfl (hb hby d1_27) rfl rfl (l' := #[.val (.int (6 : Int32)), .val (.long v0), .second, .val (.long v1), .second, .val (.long v2), .second, .val (.long v3), .second, .val (.int (2 : Int32)), .val (.ref b2), .unset]) rfl ?_
    show Steps p.tables e below (T2.setTop (mkF m 29 #[.val (.int (6 : Int32)), .val (.long v0), .second, .val (.long v1), .second, .val (.long v2), .second, .val (.long v3), .second, .val (.int (2 : Int32)), .val (.ref b2), .unset] [])) _
    refine XS.iconst X2.here hx rfl (hb hby d1_29) ?_
    show Steps p.tables e below (T2.setTop (mkF m 30 #[.val (.int (6 : Int32)), .val (.long v0), .second, .val (.long v1), .second, .val (.long v2), .second, .val (.long v3), .second, .val (.int (2 : Int32)), .val (.ref b2), .unset] [(.int (0 : Int32))])) _
    refine XS.istore X2.here hx rfl (hb hby d1_30) rfl (l' := #[.val (.int (6 : Int32)), .val (.long v0), .second, .val (.long v1), .second, .val (.long v2), .second, .val (.long v3), .second, .val (.int (2 : Int32)), .val (.ref b2), .val (.int (0 : Int32))]) rfl ?_
    show Steps p.tables e below (T2.setTop (mkF m 32 #[.val (.int (6 : Int32)), .val (.long v0), .second, .val (.long v1), .second, .val (.long v2), .second, .val (.long v3), .second, .val (.int (2 : Int32)), .val (.ref b2), .val (.int (0 : Int32))] [])) _
    refine XS.iloadN X2.here hx rfl (hb hby d1_32) rfl ?_
    show Steps p.tables e below (T2.setTop (mkF m 33 #[.val (.int (6 : Int32)), .val (.long v0), .second, .val (.long v1), .second, .val (.long v2), .second, .val (.long v3), .second, .val (.int (2 : Int32)), .val (.ref b2), .val (.int (0 : Int32))] [(.int (6 : Int32))])) _
    refine XS.iconst X2.here hx rfl (hb hby d1_33) ?_
    show Steps p.tables e below (T2.setTop (mkF m 34 #[.val (.int (6 : Int32)), .val (.long v0), .second, .val (.long v1), .second, .val (.long v2), .second, .val (.long v3), .second, .val (.int (2 : Int32)), .val (.ref b2), .val (.int (0 : Int32))] [(.int (1 : Int32)), (.int (6 : Int32))])) _
    refine XS.iand X2.here hx rfl (hb hby d1_34) rfl ?_
    show Steps p.tables e below (T2.setTop (mkF m 35 #[.val (.int (6 : Int32)), .val (.long v0), .second, .val (.long v1), .second, .val (.long v2), .second, .val (.long v3), .second, .val (.int (2 : Int32)), .val (.ref b2), .val (.int (0 : Int32))] [(.int (0 : Int32))])) _
    refine XS.ifYes X2.here hx rfl (pc0 := 35) (pc' := 47) rfl (hb hby d1_35) rfl ((if0 _ _).trans (teq (by decide : (0 : Int32) = (0 : Int32))).1) (by decide) (by decide) ?_
    show Steps p.tables e below (T2.setTop (mkF m 47 #[.val (.int (6 : Int32)), .val (.long v0), .second, .val (.long v1), .second, .val (.long v2), .second, .val (.long v3), .second, .val (.int (2 : Int32)), .val (.ref b2), .val (.int (0 : Int32))] [])) _
    refine XS.iloadN X2.here hx rfl (hb hby d1_47) rfl ?_
    show Steps p.tables e below (T2.setTop (mkF m 48 #[.val (.int (6 : Int32)), .val (.long v0), .second, .val (.long v1), .second, .val (.long v2), .second, .val (.long v3), .second, .val (.int (2 : Int32)), .val (.ref b2), .val (.int (0 : Int32))] [(.int (6 : Int32))])) _
    refine XS.iconst X2.here hx rfl (hb hby d1_48) ?_
    show Steps p.tables e below (T2.setTop (mkF m 49 #[.val (.int (6 : Int32)), .val (.long v0), .second, .val (.long v1), .second, .val (.long v2), .second, .val (.long v3), .second, .val (.int (2 : Int32)), .val (.ref b2), .val (.int (0 : Int32))] [(.int (2 : Int32)), (.int (6 : Int32))])) _
    refine XS.iand X2.here hx rfl (hb hby d1_49) rfl ?_
    show Steps p.tables e below (T2.setTop (mkF m 50 #[.val (.int (6 : Int32)), .val (.long v0), .second, .val (.long v1), .second, .val (.long v2), .second, .val (.long v3), .second, .val (.int (2 : Int32)), .val (.ref b2), .val (.int (0 : Int32))] [(.int (2 : Int32))])) _
    refine XS.ifNo X2.here hx rfl (hb hby d1_50) rfl ((if0 _ _).trans (feq (by decide : ¬ ((2 : Int32) = (0 : Int32)))).1) ?_
    show Steps p.tables e below (T2.setTop (mkF m 53 #[.val (.int (6 : Int32)), .val (.long v0), .second, .val (.long v1), .second, .val (.long v2), .second, .val (.long v3), .second, .val (.int (2 : Int32)), .val (.ref b2), .val (.int (0 : Int32))] [])) _
    refine XS.aload X2.here hx rfl (hb hby d1_53) rfl rfl ?_
    show Steps p.tables e below (T2.setTop (mkF m 55 #[.val (.int (6 : Int32)), .val (.long v0), .second, .val (.long v1), .second, .val (.long v2), .second, .val (.long v3), .second, .val (.int (2 : Int32)), .val (.ref b2), .val (.int (0 : Int32))] [(.ref b2)])) _
    refine XS.iload X2.here hx rfl (hb hby d1_55) rfl ?_
    show Steps p.tables e below (T2.setTop (mkF m 57 #[.val (.int (6 : Int32)), .val (.long v0), .second, .val (.long v1), .second, .val (.long v2), .second, .val (.long v3), .second, .val (.int (2 : Int32)), .val (.ref b2), .val (.int (0 : Int32))] [(.int (0 : Int32)), (.ref b2)])) _
    refine XS.lloadN X2.here hx rfl (hb hby d1_57) rfl ?_
    show Steps p.tables e below (T2.setTop (mkF m 58 #[.val (.int (6 : Int32)), .val (.long v0), .second, .val (.long v1), .second, .val (.long v2), .second, .val (.long v3), .second, .val (.int (2 : Int32)), .val (.ref b2), .val (.int (0 : Int32))] [(.long v1), (.int (0 : Int32)), (.ref b2)])) _
    exact kt)
  obtain ⟨cl9, Ar9, q9, S9, M9, H9, G9⟩ := V2
  have hin9 : ¬ ((0 : Int32) < 0 ∨ cl9.slots.size ≤ ((0 : Int32)).toNatClampNeg) := inb_of S9 ⟨by decide, by decide⟩
  obtain ⟨T9, h9, X9, e9, W9, st9⟩ := stJ X2 hx hZ e2 Ar9 (j := (0 : Int32)) hin9 (g := (mkF m 58 #[.val (.int (6 : Int32)), .val (.long v0), .second, .val (.long v1), .second, .val (.long v2), .second, .val (.long v3), .second, .val (.int (2 : Int32)), .val (.ref b2), .val (.int (0 : Int32))] [(.long v1), (.int (0 : Int32)), (.ref b2)])) rfl rfl (hb hby d1_58)
  have f10 := (f5).wr W9 ((Or.inr (Nat.le_trans ((Keep.refl h0 [])).1 (Nat.le_of_eq g2.symm))))
  have Va9 := Arv.set Ar9 q9 S9 M9 H9 G9 rfl W9 0 rfl (Nat.le_of_ble_eq_true rfl)
  have Nf9 := Fr.snoc X9 N0 gz3
  have Zf9 : n0 ≤ h9.size := Nat.le_trans Zf6 (Keep.of_wr W9).1
  have pre11 : ∀ t, Steps p.tables e below (T9.setTop (mkF m 59 #[.val (.int (6 : Int32)), .val (.long v0), .second, .val (.long v1), .second, .val (.long v2), .second, .val (.long v3), .second, .val (.int (2 : Int32)), .val (.ref b2), .val (.int (0 : Int32))] [])) t → Steps p.tables e below (s₁.setTop (entryFrame m #[(.int (6 : Int32)), (.long v0), (.long v1), (.long v2), (.long v3)] 12)) t := fun t kt => pre8 t (st9 _ kt)
  have pre12 : ∀ t, Steps p.tables e below (T9.setTop (mkF m 74 #[.val (.int (6 : Int32)), .val (.long v0), .second, .val (.long v1), .second, .val (.long v2), .second, .val (.long v3), .second, .val (.int (2 : Int32)), .val (.ref b2), .val (.int (1 : Int32))] [(.long v2), (.int (1 : Int32)), (.ref b2)])) t → Steps p.tables e below (s₁.setTop (entryFrame m #[(.int (6 : Int32)), (.long v0), (.long v1), (.long v2), (.long v3)] 12)) t := fun t kt => pre11 t (by
    refine XS.iinc X9.here hx rfl (hb hby d1_59) rfl (l' := #[.val (.int (6 : Int32)), .val (.long v0), .second, .val (.long v1), .second, .val (.long v2), .second, .val (.long v3), .second, .val (.int (2 : Int32)), .val (.ref b2), .val (.int (1 : Int32))]) rfl ?_
    show Steps p.tables e below (T9.setTop (mkF m 62 #[.val (.int (6 : Int32)), .val (.long v0), .second, .val (.long v1), .second, .val (.long v2), .second, .val (.long v3), .second, .val (.int (2 : Int32)), .val (.ref b2), .val (.int (1 : Int32))] [])) _
    refine XS.iloadN X9.here hx rfl (hb hby d1_62) rfl ?_
    show Steps p.tables e below (T9.setTop (mkF m 63 #[.val (.int (6 : Int32)), .val (.long v0), .second, .val (.long v1), .second, .val (.long v2), .second, .val (.long v3), .second, .val (.int (2 : Int32)), .val (.ref b2), .val (.int (1 : Int32))] [(.int (6 : Int32))])) _
    refine XS.iconst X9.here hx rfl (hb hby d1_63) ?_
    show Steps p.tables e below (T9.setTop (mkF m 64 #[.val (.int (6 : Int32)), .val (.long v0), .second, .val (.long v1), .second, .val (.long v2), .second, .val (.long v3), .second, .val (.int (2 : Int32)), .val (.ref b2), .val (.int (1 : Int32))] [(.int (4 : Int32)), (.int (6 : Int32))])) _
    refine XS.iand X9.here hx rfl (hb hby d1_64) rfl ?_
    show Steps p.tables e below (T9.setTop (mkF m 65 #[.val (.int (6 : Int32)), .val (.long v0), .second, .val (.long v1), .second, .val (.long v2), .second, .val (.long v3), .second, .val (.int (2 : Int32)), .val (.ref b2), .val (.int (1 : Int32))] [(.int (4 : Int32))])) _
    refine XS.ifNo X9.here hx rfl (hb hby d1_65) rfl ((if0 _ _).trans (feq (by decide : ¬ ((4 : Int32) = (0 : Int32)))).1) ?_
    show Steps p.tables e below (T9.setTop (mkF m 68 #[.val (.int (6 : Int32)), .val (.long v0), .second, .val (.long v1), .second, .val (.long v2), .second, .val (.long v3), .second, .val (.int (2 : Int32)), .val (.ref b2), .val (.int (1 : Int32))] [])) _
    refine XS.aload X9.here hx rfl (hb hby d1_68) rfl rfl ?_
    show Steps p.tables e below (T9.setTop (mkF m 70 #[.val (.int (6 : Int32)), .val (.long v0), .second, .val (.long v1), .second, .val (.long v2), .second, .val (.long v3), .second, .val (.int (2 : Int32)), .val (.ref b2), .val (.int (1 : Int32))] [(.ref b2)])) _
    refine XS.iload X9.here hx rfl (hb hby d1_70) rfl ?_
    show Steps p.tables e below (T9.setTop (mkF m 72 #[.val (.int (6 : Int32)), .val (.long v0), .second, .val (.long v1), .second, .val (.long v2), .second, .val (.long v3), .second, .val (.int (2 : Int32)), .val (.ref b2), .val (.int (1 : Int32))] [(.int (1 : Int32)), (.ref b2)])) _
    refine XS.lload X9.here hx rfl (hb hby d1_72) rfl ?_
    show Steps p.tables e below (T9.setTop (mkF m 74 #[.val (.int (6 : Int32)), .val (.long v0), .second, .val (.long v1), .second, .val (.long v2), .second, .val (.long v3), .second, .val (.int (2 : Int32)), .val (.ref b2), .val (.int (1 : Int32))] [(.long v2), (.int (1 : Int32)), (.ref b2)])) _
    exact kt)
  obtain ⟨cl13, Ar13, q13, S13, M13, H13, G13⟩ := Va9
  have hin13 : ¬ ((1 : Int32) < 0 ∨ cl13.slots.size ≤ ((1 : Int32)).toNatClampNeg) := inb_of S13 ⟨by decide, by decide⟩
  obtain ⟨T13, h13, X13, e13, W13, st13⟩ := stJ X9 hx hZ e9 Ar13 (j := (1 : Int32)) hin13 (g := (mkF m 74 #[.val (.int (6 : Int32)), .val (.long v0), .second, .val (.long v1), .second, .val (.long v2), .second, .val (.long v3), .second, .val (.int (2 : Int32)), .val (.ref b2), .val (.int (1 : Int32))] [(.long v2), (.int (1 : Int32)), (.ref b2)])) rfl rfl (hb hby d1_74)
  have f14 := (f10).wr W13 ((Or.inr (Nat.le_trans ((Keep.refl h0 [])).1 (Nat.le_of_eq g2.symm))))
  have Va13 := Arv.set Ar13 q13 S13 M13 H13 G13 rfl W13 1 rfl (Nat.le_of_ble_eq_true rfl)
  have Nf13 := Fr.snoc X13 Nf9 gz3
  have Zf13 : n0 ≤ h13.size := Nat.le_trans Zf9 (Keep.of_wr W13).1
  have pre15 : ∀ t, Steps p.tables e below (T13.setTop (mkF m 75 #[.val (.int (6 : Int32)), .val (.long v0), .second, .val (.long v1), .second, .val (.long v2), .second, .val (.long v3), .second, .val (.int (2 : Int32)), .val (.ref b2), .val (.int (1 : Int32))] [])) t → Steps p.tables e below (s₁.setTop (entryFrame m #[(.int (6 : Int32)), (.long v0), (.long v1), (.long v2), (.long v3)] 12)) t := fun t kt => pre12 t (st13 _ kt)
  have pre16 : ∀ t, Steps p.tables e below (T13.setTop (mkF m 97 #[.val (.int (6 : Int32)), .val (.long v0), .second, .val (.long v1), .second, .val (.long v2), .second, .val (.long v3), .second, .val (.int (2 : Int32)), .val (.ref b2), .val (.int (2 : Int32))] [(.ref b2)])) t → Steps p.tables e below (s₁.setTop (entryFrame m #[(.int (6 : Int32)), (.long v0), (.long v1), (.long v2), (.long v3)] 12)) t := fun t kt => pre15 t (by
    refine XS.iinc X13.here hx rfl (hb hby d1_75) rfl (l' := #[.val (.int (6 : Int32)), .val (.long v0), .second, .val (.long v1), .second, .val (.long v2), .second, .val (.long v3), .second, .val (.int (2 : Int32)), .val (.ref b2), .val (.int (2 : Int32))]) rfl ?_
    show Steps p.tables e below (T13.setTop (mkF m 78 #[.val (.int (6 : Int32)), .val (.long v0), .second, .val (.long v1), .second, .val (.long v2), .second, .val (.long v3), .second, .val (.int (2 : Int32)), .val (.ref b2), .val (.int (2 : Int32))] [])) _
    refine XS.iloadN X13.here hx rfl (hb hby d1_78) rfl ?_
    show Steps p.tables e below (T13.setTop (mkF m 79 #[.val (.int (6 : Int32)), .val (.long v0), .second, .val (.long v1), .second, .val (.long v2), .second, .val (.long v3), .second, .val (.int (2 : Int32)), .val (.ref b2), .val (.int (2 : Int32))] [(.int (6 : Int32))])) _
    refine XS.bipush X13.here hx rfl (hb hby d1_79) ?_
    show Steps p.tables e below (T13.setTop (mkF m 81 #[.val (.int (6 : Int32)), .val (.long v0), .second, .val (.long v1), .second, .val (.long v2), .second, .val (.long v3), .second, .val (.int (2 : Int32)), .val (.ref b2), .val (.int (2 : Int32))] [(.int (8 : Int32)), (.int (6 : Int32))])) _
    refine XS.iand X13.here hx rfl (hb hby d1_81) rfl ?_
    show Steps p.tables e below (T13.setTop (mkF m 82 #[.val (.int (6 : Int32)), .val (.long v0), .second, .val (.long v1), .second, .val (.long v2), .second, .val (.long v3), .second, .val (.int (2 : Int32)), .val (.ref b2), .val (.int (2 : Int32))] [(.int (0 : Int32))])) _
    refine XS.ifYes X13.here hx rfl (pc0 := 82) (pc' := 95) rfl (hb hby d1_82) rfl ((if0 _ _).trans (teq (by decide : (0 : Int32) = (0 : Int32))).1) (by decide) (by decide) ?_
    show Steps p.tables e below (T13.setTop (mkF m 95 #[.val (.int (6 : Int32)), .val (.long v0), .second, .val (.long v1), .second, .val (.long v2), .second, .val (.long v3), .second, .val (.int (2 : Int32)), .val (.ref b2), .val (.int (2 : Int32))] [])) _
    refine XS.aload X13.here hx rfl (hb hby d1_95) rfl rfl ?_
    show Steps p.tables e below (T13.setTop (mkF m 97 #[.val (.int (6 : Int32)), .val (.long v0), .second, .val (.long v1), .second, .val (.long v2), .second, .val (.long v3), .second, .val (.int (2 : Int32)), .val (.ref b2), .val (.int (2 : Int32))] [(.ref b2)])) _
    exact kt)
  obtain ⟨fs, hr, hrun, hended, hW, hsame⟩ := X13.leave (v := (some (.ref b2))) (fun h => by rw [Bd.returns] at h; cases h)
  refine ⟨_, _, pre16 _ ?_, hrun, hended, _, _, rfl, ?_, ⟨_, rfl⟩, hW, hsame.mono (by decide) (by decide)⟩
  · exact retOut X13 hx Bd.returns rfl (Or.inr (Or.inr (Or.inr (Or.inr ⟨rfl, rfl, rfl⟩)))) (hb hby d1_97) hr
  · show QP Z [v1, v2] h0 n0 _ T13.heap _
    rw [e13]
    exact ⟨_, rfl, Nf13, f14, gz3, (sz2), own_lg (xs := [v1, v2]) Va13 rfl (by simp)⟩
theorem ef_rmP_7 (m : MethodId) (x0 : Int32) (x1 : Int64) (x2 : Int64) (x3 : Int64) (x4 : Int64) : entryFrame m #[(.int x0), (.long x1), (.long x2), (.long x3), (.long x4)] 12 = mkF m 0 #[.val (.int x0), .val (.long x1), .second, .val (.long x2), .second, .val (.long x3), .second, .val (.long x4), .second, .unset, .unset, .unset] [] := by first | (simp [entryFrame, mkF, argsToLocals, Value.category]; done) | rfl
set_option maxRecDepth 65536 in
set_option maxHeartbeats 40000000 in
theorem rmP_7 (l : Launch) (Z : State) (a0 : Array Value) (hw : ∀ d ∈ tables_1, d.before a0 Z = true) (ws : List Jvm.Cond) (v0 v1 v2 v3 : Int64) (h0 : Heap) (n0 : Nat) (Z0 : n0 ≤ h0.size)  :
    MetFree l (⟨"com/example/nest3/nest3/SubsetWithinPinLaw", "pick", "(IJJJJ)[J"⟩ : MethodName) (head1 (Jvm.Cond.code (⟨"com/example/nest3/nest3/SubsetWithinPinLaw", "pick", "(IJJJJ)[J"⟩ : MethodName) method_3_code 12 (some (.array .long)) :: ws) ({ frames := 0, cells := 1, slots := 4, locals := 0 } : Room)) (fun a U => a = #[(.int (7 : Int32)), (.long v0), (.long v1), (.long v2), (.long v3)] ∧ Z.Warmed39 U.vm ∧ U.heap = h0) (fun _ _ _ _ _ => True) (fun _ U o U' => ∃ v L, o = .returned v ∧ QP Z [v0, v1, v2] h0 n0 v U'.heap L ∧ FrameEnd U o U' L ({ frames := 0, cells := 1, slots := 4, locals := 0 } : Room).cells ({ frames := 0, cells := 1, slots := 4, locals := 0 } : Room).slots) := by
  refine MetFree.of_bodySF (plainFor_of_name pn_com_example_nest3_nest3_SubsetWithinPinLaw) hisR ?_
  intro p e s m args below meth c s₁ Bd hml0 hP hK
  obtain ⟨rfl, hZ, hh⟩ := hP
  have hx := Bd.exec
  have hby := Bd.bytes
  have hml : c.maxLocals = 12 := hml0
  have hown : s.vm.findClass "com/example/nest3/nest3/SubsetWithinPinLaw" = some m.cls := findClass_of_methodNamed Bd.named
  have hnm := (name_of_methodNamed Bd.named Bd.method).1
  have X0 : Stand p l e ({ frames := 0, cells := 1, slots := 4, locals := 0 } : Room) s m #[(.int (7 : Int32)), (.long v0), (.long v1), (.long v2), (.long v3)] below meth c s₁ [] 0 0 := Stand.of_body Bd
  have e0 : s₁.heap = h0 := by rw [← hh, Bd.state]; rfl
  have N0 := Fr.nil n0
  have pre0 : ∀ t, Steps p.tables e below (s₁.setTop (mkF m 0 #[.val (.int (7 : Int32)), .val (.long v0), .second, .val (.long v1), .second, .val (.long v2), .second, .val (.long v3), .second, .unset, .unset, .unset] [])) t → Steps p.tables e below (s₁.setTop (entryFrame m #[(.int (7 : Int32)), (.long v0), (.long v1), (.long v2), (.long v3)] 12)) t := fun t kt => castTop (ef_rmP_7 m (7 : Int32) v0 v1 v2 v3) kt
  have pre1 : ∀ t, Steps p.tables e below (s₁.setTop (mkF m 25 #[.val (.int (7 : Int32)), .val (.long v0), .second, .val (.long v1), .second, .val (.long v2), .second, .val (.long v3), .second, .val (.int (3 : Int32)), .unset, .unset] [(.int (3 : Int32))])) t → Steps p.tables e below (s₁.setTop (entryFrame m #[(.int (7 : Int32)), (.long v0), (.long v1), (.long v2), (.long v3)] 12)) t := fun t kt => pre0 t (by
    refine XS.iloadN X0.here hx rfl (hb hby d1_0) rfl ?_
    show Steps p.tables e below (s₁.setTop (mkF m 1 #[.val (.int (7 : Int32)), .val (.long v0), .second, .val (.long v1), .second, .val (.long v2), .second, .val (.long v3), .second, .unset, .unset, .unset] [(.int (7 : Int32))])) _
    refine XS.iconst X0.here hx rfl (hb hby d1_1) ?_
    show Steps p.tables e below (s₁.setTop (mkF m 2 #[.val (.int (7 : Int32)), .val (.long v0), .second, .val (.long v1), .second, .val (.long v2), .second, .val (.long v3), .second, .unset, .unset, .unset] [(.int (1 : Int32)), (.int (7 : Int32))])) _
    refine XS.iand X0.here hx rfl (hb hby d1_2) rfl ?_
    show Steps p.tables e below (s₁.setTop (mkF m 3 #[.val (.int (7 : Int32)), .val (.long v0), .second, .val (.long v1), .second, .val (.long v2), .second, .val (.long v3), .second, .unset, .unset, .unset] [(.int (1 : Int32))])) _
    refine XS.iloadN X0.here hx rfl (hb hby d1_3) rfl ?_
    show Steps p.tables e below (s₁.setTop (mkF m 4 #[.val (.int (7 : Int32)), .val (.long v0), .second, .val (.long v1), .second, .val (.long v2), .second, .val (.long v3), .second, .unset, .unset, .unset] [(.int (7 : Int32)), (.int (1 : Int32))])) _
    refine XS.iconst X0.here hx rfl (hb hby d1_4) ?_
    show Steps p.tables e below (s₁.setTop (mkF m 5 #[.val (.int (7 : Int32)), .val (.long v0), .second, .val (.long v1), .second, .val (.long v2), .second, .val (.long v3), .second, .unset, .unset, .unset] [(.int (1 : Int32)), (.int (7 : Int32)), (.int (1 : Int32))])) _
    refine XS.iushr X0.here hx rfl (hb hby d1_5) rfl ?_
    show Steps p.tables e below (s₁.setTop (mkF m 6 #[.val (.int (7 : Int32)), .val (.long v0), .second, .val (.long v1), .second, .val (.long v2), .second, .val (.long v3), .second, .unset, .unset, .unset] [(.int (3 : Int32)), (.int (1 : Int32))])) _
    refine XS.iconst X0.here hx rfl (hb hby d1_6) ?_
    show Steps p.tables e below (s₁.setTop (mkF m 7 #[.val (.int (7 : Int32)), .val (.long v0), .second, .val (.long v1), .second, .val (.long v2), .second, .val (.long v3), .second, .unset, .unset, .unset] [(.int (1 : Int32)), (.int (3 : Int32)), (.int (1 : Int32))])) _
    refine XS.iand X0.here hx rfl (hb hby d1_7) rfl ?_
    show Steps p.tables e below (s₁.setTop (mkF m 8 #[.val (.int (7 : Int32)), .val (.long v0), .second, .val (.long v1), .second, .val (.long v2), .second, .val (.long v3), .second, .unset, .unset, .unset] [(.int (1 : Int32)), (.int (1 : Int32))])) _
    refine XS.iadd X0.here hx rfl (hb hby d1_8) rfl ?_
    show Steps p.tables e below (s₁.setTop (mkF m 9 #[.val (.int (7 : Int32)), .val (.long v0), .second, .val (.long v1), .second, .val (.long v2), .second, .val (.long v3), .second, .unset, .unset, .unset] [(.int (2 : Int32))])) _
    refine XS.iloadN X0.here hx rfl (hb hby d1_9) rfl ?_
    show Steps p.tables e below (s₁.setTop (mkF m 10 #[.val (.int (7 : Int32)), .val (.long v0), .second, .val (.long v1), .second, .val (.long v2), .second, .val (.long v3), .second, .unset, .unset, .unset] [(.int (7 : Int32)), (.int (2 : Int32))])) _
    refine XS.iconst X0.here hx rfl (hb hby d1_10) ?_
    show Steps p.tables e below (s₁.setTop (mkF m 11 #[.val (.int (7 : Int32)), .val (.long v0), .second, .val (.long v1), .second, .val (.long v2), .second, .val (.long v3), .second, .unset, .unset, .unset] [(.int (2 : Int32)), (.int (7 : Int32)), (.int (2 : Int32))])) _
    refine XS.iushr X0.here hx rfl (hb hby d1_11) rfl ?_
    show Steps p.tables e below (s₁.setTop (mkF m 12 #[.val (.int (7 : Int32)), .val (.long v0), .second, .val (.long v1), .second, .val (.long v2), .second, .val (.long v3), .second, .unset, .unset, .unset] [(.int (1 : Int32)), (.int (2 : Int32))])) _
    refine XS.iconst X0.here hx rfl (hb hby d1_12) ?_
    show Steps p.tables e below (s₁.setTop (mkF m 13 #[.val (.int (7 : Int32)), .val (.long v0), .second, .val (.long v1), .second, .val (.long v2), .second, .val (.long v3), .second, .unset, .unset, .unset] [(.int (1 : Int32)), (.int (1 : Int32)), (.int (2 : Int32))])) _
    refine XS.iand X0.here hx rfl (hb hby d1_13) rfl ?_
    show Steps p.tables e below (s₁.setTop (mkF m 14 #[.val (.int (7 : Int32)), .val (.long v0), .second, .val (.long v1), .second, .val (.long v2), .second, .val (.long v3), .second, .unset, .unset, .unset] [(.int (1 : Int32)), (.int (2 : Int32))])) _
    refine XS.iadd X0.here hx rfl (hb hby d1_14) rfl ?_
    show Steps p.tables e below (s₁.setTop (mkF m 15 #[.val (.int (7 : Int32)), .val (.long v0), .second, .val (.long v1), .second, .val (.long v2), .second, .val (.long v3), .second, .unset, .unset, .unset] [(.int (3 : Int32))])) _
    refine XS.iloadN X0.here hx rfl (hb hby d1_15) rfl ?_
    show Steps p.tables e below (s₁.setTop (mkF m 16 #[.val (.int (7 : Int32)), .val (.long v0), .second, .val (.long v1), .second, .val (.long v2), .second, .val (.long v3), .second, .unset, .unset, .unset] [(.int (7 : Int32)), (.int (3 : Int32))])) _
    refine XS.iconst X0.here hx rfl (hb hby d1_16) ?_
    show Steps p.tables e below (s₁.setTop (mkF m 17 #[.val (.int (7 : Int32)), .val (.long v0), .second, .val (.long v1), .second, .val (.long v2), .second, .val (.long v3), .second, .unset, .unset, .unset] [(.int (3 : Int32)), (.int (7 : Int32)), (.int (3 : Int32))])) _
    refine XS.iushr X0.here hx rfl (hb hby d1_17) rfl ?_
    show Steps p.tables e below (s₁.setTop (mkF m 18 #[.val (.int (7 : Int32)), .val (.long v0), .second, .val (.long v1), .second, .val (.long v2), .second, .val (.long v3), .second, .unset, .unset, .unset] [(.int (0 : Int32)), (.int (3 : Int32))])) _
    refine XS.iconst X0.here hx rfl (hb hby d1_18) ?_
    show Steps p.tables e below (s₁.setTop (mkF m 19 #[.val (.int (7 : Int32)), .val (.long v0), .second, .val (.long v1), .second, .val (.long v2), .second, .val (.long v3), .second, .unset, .unset, .unset] [(.int (1 : Int32)), (.int (0 : Int32)), (.int (3 : Int32))])) _
    refine XS.iand X0.here hx rfl (hb hby d1_19) rfl ?_
    show Steps p.tables e below (s₁.setTop (mkF m 20 #[.val (.int (7 : Int32)), .val (.long v0), .second, .val (.long v1), .second, .val (.long v2), .second, .val (.long v3), .second, .unset, .unset, .unset] [(.int (0 : Int32)), (.int (3 : Int32))])) _
    refine XS.iadd X0.here hx rfl (hb hby d1_20) rfl ?_
    show Steps p.tables e below (s₁.setTop (mkF m 21 #[.val (.int (7 : Int32)), .val (.long v0), .second, .val (.long v1), .second, .val (.long v2), .second, .val (.long v3), .second, .unset, .unset, .unset] [(.int (3 : Int32))])) _
    refine XS.istore X0.here hx rfl (hb hby d1_21) rfl (l' := #[.val (.int (7 : Int32)), .val (.long v0), .second, .val (.long v1), .second, .val (.long v2), .second, .val (.long v3), .second, .val (.int (3 : Int32)), .unset, .unset]) rfl ?_
    show Steps p.tables e below (s₁.setTop (mkF m 23 #[.val (.int (7 : Int32)), .val (.long v0), .second, .val (.long v1), .second, .val (.long v2), .second, .val (.long v3), .second, .val (.int (3 : Int32)), .unset, .unset] [])) _
    refine XS.iload X0.here hx rfl (hb hby d1_23) rfl ?_
    show Steps p.tables e below (s₁.setTop (mkF m 25 #[.val (.int (7 : Int32)), .val (.long v0), .second, .val (.long v1), .second, .val (.long v2), .second, .val (.long v3), .second, .val (.int (3 : Int32)), .unset, .unset] [(.int (3 : Int32))])) _
    exact kt)
  obtain ⟨T2, h2, k2, X2, e2, E2, A2, st2⟩ := newP X0 hx hZ (hw _ (List.mem_of_getElem? (i := 7) rfl)) e0 (g := (mkF m 25 #[.val (.int (7 : Int32)), .val (.long v0), .second, .val (.long v1), .second, .val (.long v2), .second, .val (.long v3), .second, .val (.int (3 : Int32)), .unset, .unset] [(.int (3 : Int32))])) rfl (hb hby d1_25) rfl (by decide) (cap := 3) (by decide) (by decide) (by decide) (by decide)
  obtain ⟨b2, g2⟩ : ∃ z, z = h0.size := ⟨_, rfl⟩
  rw [← g2] at A2 st2
  have gz3 : n0 ≤ b2 := Nat.le_trans Z0 (Nat.le_of_eq g2.symm)
  have f5 := ((Keep.refl h0 [])).ext E2
  have Zf6 : n0 ≤ h2.size := Nat.le_trans Z0 E2.1
  have sz2 : h0.size ≤ b2 := Nat.le_of_eq g2.symm
  have V2 : Arv Z h2 b2 k2 .long (3 : Int32) [(.long (0 : Int64)), (.long (0 : Int64)), (.long (0 : Int64))] (.long (0 : Int64)) := (Arv.new A2 (by decide)).pad (pad_rep [] (.long (0 : Int64)) 3)
  have pre7 : ∀ t, Steps p.tables e below (T2.setTop (mkF m 27 #[.val (.int (7 : Int32)), .val (.long v0), .second, .val (.long v1), .second, .val (.long v2), .second, .val (.long v3), .second, .val (.int (3 : Int32)), .unset, .unset] [(.ref b2)])) t → Steps p.tables e below (s₁.setTop (entryFrame m #[(.int (7 : Int32)), (.long v0), (.long v1), (.long v2), (.long v3)] 12)) t := fun t kt => pre1 t (st2 _ kt)
  have pre8 : ∀ t, Steps p.tables e below (T2.setTop (mkF m 43 #[.val (.int (7 : Int32)), .val (.long v0), .second, .val (.long v1), .second, .val (.long v2), .second, .val (.long v3), .second, .val (.int (3 : Int32)), .val (.ref b2), .val (.int (0 : Int32))] [(.long v0), (.int (0 : Int32)), (.ref b2)])) t → Steps p.tables e below (s₁.setTop (entryFrame m #[(.int (7 : Int32)), (.long v0), (.long v1), (.long v2), (.long v3)] 12)) t := fun t kt => pre7 t (by
    refine XS.astore X2.here hx rfl (hb hby d1_27) rfl rfl (l' := #[.val (.int (7 : Int32)), .val (.long v0), .second, .val (.long v1), .second, .val (.long v2), .second, .val (.long v3), .second, .val (.int (3 : Int32)), .val (.ref b2), .unset]) rfl ?_
    show Steps p.tables e below (T2.setTop (mkF m 29 #[.val (.int (7 : Int32)), .val (.long v0), .second, .val (.long v1), .second, .val (.long v2), .second, .val (.long v3), .second, .val (.int (3 : Int32)), .val (.ref b2), .unset] [])) _
    refine XS.iconst X2.here hx rfl (hb hby d1_29) ?_
    show Steps p.tables e below (T2.setTop (mkF m 30 #[.val (.int (7 : Int32)), .val (.long v0), .second, .val (.long v1), .second, .val (.long v2), .second, .val (.long v3), .second, .val (.int (3 : Int32)), .val (.ref b2), .unset] [(.int (0 : Int32))])) _
    refine XS.istore X2.here hx rfl (hb hby d1_30) rfl (l' := #[.val (.int (7 : Int32)), .val (.long v0), .second, .val (.long v1), .second, .val (.long v2), .second, .val (.long v3), .second, .val (.int (3 : Int32)), .val (.ref b2), .val (.int (0 : Int32))]) rfl ?_
    show Steps p.tables e below (T2.setTop (mkF m 32 #[.val (.int (7 : Int32)), .val (.long v0), .second, .val (.long v1), .second, .val (.long v2), .second, .val (.long v3), .second, .val (.int (3 : Int32)), .val (.ref b2), .val (.int (0 : Int32))] [])) _
    refine XS.iloadN X2.here hx rfl (hb hby d1_32) rfl ?_
    show Steps p.tables e below (T2.setTop (mkF m 33 #[.val (.int (7 : Int32)), .val (.long v0), .second, .val (.long v1), .second, .val (.long v2), .second, .val (.long v3), .second, .val (.int (3 : Int32)), .val (.ref b2), .val (.int (0 : Int32))] [(.int (7 : Int32))])) _
    refine XS.iconst X2.here hx rfl (hb hby d1_33) ?_
    show Steps p.tables e below (T2.setTop (mkF m 34 #[.val (.int (7 : Int32)), .val (.long v0), .second, .val (.long v1), .second, .val (.long v2), .second, .val (.long v3), .second, .val (.int (3 : Int32)), .val (.ref b2), .val (.int (0 : Int32))] [(.int (1 : Int32)), (.int (7 : Int32))])) _
    refine XS.iand X2.here hx rfl (hb hby d1_34) rfl ?_
    show Steps p.tables e below (T2.setTop (mkF m 35 #[.val (.int (7 : Int32)), .val (.long v0), .second, .val (.long v1), .second, .val (.long v2), .second, .val (.long v3), .second, .val (.int (3 : Int32)), .val (.ref b2), .val (.int (0 : Int32))] [(.int (1 : Int32))])) _
    refine XS.ifNo X2.here hx rfl (hb hby d1_35) rfl ((if0 _ _).trans (feq (by decide : ¬ ((1 : Int32) = (0 : Int32)))).1) ?_
    show Steps p.tables e below (T2.setTop (mkF m 38 #[.val (.int (7 : Int32)), .val (.long v0), .second, .val (.long v1), .second, .val (.long v2), .second, .val (.long v3), .second, .val (.int (3 : Int32)), .val (.ref b2), .val (.int (0 : Int32))] [])) _
    refine XS.aload X2.here hx rfl (hb hby d1_38) rfl rfl ?_
    show Steps p.tables e below (T2.setTop (mkF m 40 #[.val (.int (7 : Int32)), .val (.long v0), .second, .val (.long v1), .second, .val (.long v2), .second, .val (.long v3), .second, .val (.int (3 : Int32)), .val (.ref b2), .val (.int (0 : Int32))] [(.ref b2)])) _
    refine XS.iload X2.here hx rfl (hb hby d1_40) rfl ?_
    show Steps p.tables e below (T2.setTop (mkF m 42 #[.val (.int (7 : Int32)), .val (.long v0), .second, .val (.long v1), .second, .val (.long v2), .second, .val (.long v3), .second, .val (.int (3 : Int32)), .val (.ref b2), .val (.int (0 : Int32))] [(.int (0 : Int32)), (.ref b2)])) _
    refine XS.lloadN X2.here hx rfl (hb hby d1_42) rfl ?_
    show Steps p.tables e below (T2.setTop (mkF m 43 #[.val (.int (7 : Int32)), .val (.long v0), .second, .val (.long v1), .second, .val (.long v2), .second, .val (.long v3), .second, .val (.int (3 : Int32)), .val (.ref b2), .val (.int (0 : Int32))] [(.long v0), (.int (0 : Int32)), (.ref b2)])) _
    exact kt)
  obtain ⟨cl9, Ar9, q9, S9, M9, H9, G9⟩ := V2
  have hin9 : ¬ ((0 : Int32) < 0 ∨ cl9.slots.size ≤ ((0 : Int32)).toNatClampNeg) := inb_of S9 ⟨by decide, by decide⟩
  obtain ⟨T9, h9, X9, e9, W9, st9⟩ := stJ X2 hx hZ e2 Ar9 (j := (0 : Int32)) hin9 (g := (mkF m 43 #[.val (.int (7 : Int32)), .val (.long v0), .second, .val (.long v1), .second, .val (.long v2), .second, .val (.long v3), .second, .val (.int (3 : Int32)), .val (.ref b2), .val (.int (0 : Int32))] [(.long v0), (.int (0 : Int32)), (.ref b2)])) rfl rfl (hb hby d1_43)
  have f10 := (f5).wr W9 ((Or.inr (Nat.le_trans ((Keep.refl h0 [])).1 (Nat.le_of_eq g2.symm))))
  have Va9 := Arv.set Ar9 q9 S9 M9 H9 G9 rfl W9 0 rfl (Nat.le_of_ble_eq_true rfl)
  have Nf9 := Fr.snoc X9 N0 gz3
  have Zf9 : n0 ≤ h9.size := Nat.le_trans Zf6 (Keep.of_wr W9).1
  have pre11 : ∀ t, Steps p.tables e below (T9.setTop (mkF m 44 #[.val (.int (7 : Int32)), .val (.long v0), .second, .val (.long v1), .second, .val (.long v2), .second, .val (.long v3), .second, .val (.int (3 : Int32)), .val (.ref b2), .val (.int (0 : Int32))] [])) t → Steps p.tables e below (s₁.setTop (entryFrame m #[(.int (7 : Int32)), (.long v0), (.long v1), (.long v2), (.long v3)] 12)) t := fun t kt => pre8 t (st9 _ kt)
  have pre12 : ∀ t, Steps p.tables e below (T9.setTop (mkF m 58 #[.val (.int (7 : Int32)), .val (.long v0), .second, .val (.long v1), .second, .val (.long v2), .second, .val (.long v3), .second, .val (.int (3 : Int32)), .val (.ref b2), .val (.int (1 : Int32))] [(.long v1), (.int (1 : Int32)), (.ref b2)])) t → Steps p.tables e below (s₁.setTop (entryFrame m #[(.int (7 : Int32)), (.long v0), (.long v1), (.long v2), (.long v3)] 12)) t := fun t kt => pre11 t (by
    refine XS.iinc X9.here hx rfl (hb hby d1_44) rfl (l' := #[.val (.int (7 : Int32)), .val (.long v0), .second, .val (.long v1), .second, .val (.long v2), .second, .val (.long v3), .second, .val (.int (3 : Int32)), .val (.ref b2), .val (.int (1 : Int32))]) rfl ?_
    show Steps p.tables e below (T9.setTop (mkF m 47 #[.val (.int (7 : Int32)), .val (.long v0), .second, .val (.long v1), .second, .val (.long v2), .second, .val (.long v3), .second, .val (.int (3 : Int32)), .val (.ref b2), .val (.int (1 : Int32))] [])) _
    refine XS.iloadN X9.here hx rfl (hb hby d1_47) rfl ?_
    show Steps p.tables e below (T9.setTop (mkF m 48 #[.val (.int (7 : Int32)), .val (.long v0), .second, .val (.long v1), .second, .val (.long v2), .second, .val (.long v3), .second, .val (.int (3 : Int32)), .val (.ref b2), .val (.int (1 : Int32))] [(.int (7 : Int32))])) _
    refine XS.iconst X9.here hx rfl (hb hby d1_48) ?_
    show Steps p.tables e below (T9.setTop (mkF m 49 #[.val (.int (7 : Int32)), .val (.long v0), .second, .val (.long v1), .second, .val (.long v2), .second, .val (.long v3), .second, .val (.int (3 : Int32)), .val (.ref b2), .val (.int (1 : Int32))] [(.int (2 : Int32)), (.int (7 : Int32))])) _
    refine XS.iand X9.here hx rfl (hb hby d1_49) rfl ?_
    show Steps p.tables e below (T9.setTop (mkF m 50 #[.val (.int (7 : Int32)), .val (.long v0), .second, .val (.long v1), .second, .val (.long v2), .second, .val (.long v3), .second, .val (.int (3 : Int32)), .val (.ref b2), .val (.int (1 : Int32))] [(.int (2 : Int32))])) _
    refine XS.ifNo X9.here hx rfl (hb hby d1_50) rfl ((if0 _ _).trans (feq (by decide : ¬ ((2 : Int32) = (0 : Int32)))).1) ?_
    show Steps p.tables e below (T9.setTop (mkF m 53 #[.val (.int (7 : Int32)), .val (.long v0), .second, .val (.long v1), .second, .val (.long v2), .second, .val (.long v3), .second, .val (.int (3 : Int32)), .val (.ref b2), .val (.int (1 : Int32))] [])) _
    refine XS.aload X9.here hx rfl (hb hby d1_53) rfl rfl ?_
    show Steps p.tables e below (T9.setTop (mkF m 55 #[.val (.int (7 : Int32)), .val (.long v0), .second, .val (.long v1), .second, .val (.long v2), .second, .val (.long v3), .second, .val (.int (3 : Int32)), .val (.ref b2), .val (.int (1 : Int32))] [(.ref b2)])) _
    refine XS.iload X9.here hx rfl (hb hby d1_55) rfl ?_
    show Steps p.tables e below (T9.setTop (mkF m 57 #[.val (.int (7 : Int32)), .val (.long v0), .second, .val (.long v1), .second, .val (.long v2), .second, .val (.long v3), .second, .val (.int (3 : Int32)), .val (.ref b2), .val (.int (1 : Int32))] [(.int (1 : Int32)), (.ref b2)])) _
    refine XS.lloadN X9.here hx rfl (hb hby d1_57) rfl ?_
    show Steps p.tables e below (T9.setTop (mkF m 58 #[.val (.int (7 : Int32)), .val (.long v0), .second, .val (.long v1), .second, .val (.long v2), .second, .val (.long v3), .second, .val (.int (3 : Int32)), .val (.ref b2), .val (.int (1 : Int32))] [(.long v1), (.int (1 : Int32)), (.ref b2)])) _
    exact kt)
  obtain ⟨cl13, Ar13, q13, S13, M13, H13, G13⟩ := Va9
  have hin13 : ¬ ((1 : Int32) < 0 ∨ cl13.slots.size ≤ ((1 : Int32)).toNatClampNeg) := inb_of S13 ⟨by decide, by decide⟩
  obtain ⟨T13, h13, X13, e13, W13, st13⟩ := stJ X9 hx hZ e9 Ar13 (j := (1 : Int32)) hin13 (g := (mkF m 58 #[.val (.int (7 : Int32)), .val (.long v0), .second, .val (.long v1), .second, .val (.long v2), .second, .val (.long v3), .second, .val (.int (3 : Int32)), .val (.ref b2), .val (.int (1 : Int32))] [(.long v1), (.int (1 : Int32)), (.ref b2)])) rfl rfl (hb hby d1_58)
  have f14 := (f10).wr W13 ((Or.inr (Nat.le_trans ((Keep.refl h0 [])).1 (Nat.le_of_eq g2.symm))))
  have Va13 := Arv.set Ar13 q13 S13 M13 H13 G13 rfl W13 1 rfl (Nat.le_of_ble_eq_true rfl)
  have Nf13 := Fr.snoc X13 Nf9 gz3
  have Zf13 : n0 ≤ h13.size := Nat.le_trans Zf9 (Keep.of_wr W13).1
  have pre15 : ∀ t, Steps p.tables e below (T13.setTop (mkF m 59 #[.val (.int (7 : Int32)), .val (.long v0), .second, .val (.long v1), .second, .val (.long v2), .second, .val (.long v3), .second, .val (.int (3 : Int32)), .val (.ref b2), .val (.int (1 : Int32))] [])) t → Steps p.tables e below (s₁.setTop (entryFrame m #[(.int (7 : Int32)), (.long v0), (.long v1), (.long v2), (.long v3)] 12)) t := fun t kt => pre12 t (st13 _ kt)
  have pre16 : ∀ t, Steps p.tables e below (T13.setTop (mkF m 74 #[.val (.int (7 : Int32)), .val (.long v0), .second, .val (.long v1), .second, .val (.long v2), .second, .val (.long v3), .second, .val (.int (3 : Int32)), .val (.ref b2), .val (.int (2 : Int32))] [(.long v2), (.int (2 : Int32)), (.ref b2)])) t → Steps p.tables e below (s₁.setTop (entryFrame m #[(.int (7 : Int32)), (.long v0), (.long v1), (.long v2), (.long v3)] 12)) t := fun t kt => pre15 t (by
    refine XS.iinc X13.here hx rfl (hb hby d1_59) rfl (l' := #[.val (.int (7 : Int32)), .val (.long v0), .second, .val (.long v1), .second, .val (.long v2), .second, .val (.long v3), .second, .val (.int (3 : Int32)), .val (.ref b2), .val (.int (2 : Int32))]) rfl ?_
    show Steps p.tables e below (T13.setTop (mkF m 62 #[.val (.int (7 : Int32)), .val (.long v0), .second, .val (.long v1), .second, .val (.long v2), .second, .val (.long v3), .second, .val (.int (3 : Int32)), .val (.ref b2), .val (.int (2 : Int32))] [])) _
    refine XS.iloadN X13.here hx rfl (hb hby d1_62) rfl ?_
    show Steps p.tables e below (T13.setTop (mkF m 63 #[.val (.int (7 : Int32)), .val (.long v0), .second, .val (.long v1), .second, .val (.long v2), .second, .val (.long v3), .second, .val (.int (3 : Int32)), .val (.ref b2), .val (.int (2 : Int32))] [(.int (7 : Int32))])) _
    refine XS.iconst X13.here hx rfl (hb hby d1_63) ?_
    show Steps p.tables e below (T13.setTop (mkF m 64 #[.val (.int (7 : Int32)), .val (.long v0), .second, .val (.long v1), .second, .val (.long v2), .second, .val (.long v3), .second, .val (.int (3 : Int32)), .val (.ref b2), .val (.int (2 : Int32))] [(.int (4 : Int32)), (.int (7 : Int32))])) _
    refine XS.iand X13.here hx rfl (hb hby d1_64) rfl ?_
    show Steps p.tables e below (T13.setTop (mkF m 65 #[.val (.int (7 : Int32)), .val (.long v0), .second, .val (.long v1), .second, .val (.long v2), .second, .val (.long v3), .second, .val (.int (3 : Int32)), .val (.ref b2), .val (.int (2 : Int32))] [(.int (4 : Int32))])) _
    refine XS.ifNo X13.here hx rfl (hb hby d1_65) rfl ((if0 _ _).trans (feq (by decide : ¬ ((4 : Int32) = (0 : Int32)))).1) ?_
    show Steps p.tables e below (T13.setTop (mkF m 68 #[.val (.int (7 : Int32)), .val (.long v0), .second, .val (.long v1), .second, .val (.long v2), .second, .val (.long v3), .second, .val (.int (3 : Int32)), .val (.ref b2), .val (.int (2 : Int32))] [])) _
    refine XS.aload X13.here hx rfl (hb hby d1_68) rfl rfl ?_
    show Steps p.tables e below (T13.setTop (mkF m 70 #[.val (.int (7 : Int32)), .val (.long v0), .second, .val (.long v1), .second, .val (.long v2), .second, .val (.long v3), .second, .val (.int (3 : Int32)), .val (.ref b2), .val (.int (2 : Int32))] [(.ref b2)])) _
    refine XS.iload X13.here hx rfl (hb hby d1_70) rfl ?_
    show Steps p.tables e below (T13.setTop (mkF m 72 #[.val (.int (7 : Int32)), .val (.long v0), .second, .val (.long v1), .second, .val (.long v2), .second, .val (.long v3), .second, .val (.int (3 : Int32)), .val (.ref b2), .val (.int (2 : Int32))] [(.int (2 : Int32)), (.ref b2)])) _
    refine XS.lload X13.here hx rfl (hb hby d1_72) rfl ?_
    show Steps p.tables e below (T13.setTop (mkF m 74 #[.val (.int (7 : Int32)), .val (.long v0), .second, .val (.long v1), .second, .val (.long v2), .second, .val (.long v3), .second, .val (.int (3 : Int32)), .val (.ref b2), .val (.int (2 : Int32))] [(.long v2), (.int (2 : Int32)), (.ref b2)])) _
    exact kt)
  obtain ⟨cl17, Ar17, q17, S17, M17, H17, G17⟩ := Va13
  have hin17 : ¬ ((2 : Int32) < 0 ∨ cl17.slots.size ≤ ((2 : Int32)).toNatClampNeg) := inb_of S17 ⟨by decide, by decide⟩
  obtain ⟨T17, h17, X17, e17, W17, st17⟩ := stJ X13 hx hZ e13 Ar17 (j := (2 : Int32)) hin17 (g := (mkF m 74 #[.val (.int (7 : Int32)), .val (.long v0), .second, .val (.long v1), .second, .val (.long v2), .second, .val (.long v3), .second, .val (.int (3 : Int32)), .val (.ref b2), .val (.int (2 : Int32))] [(.long v2), (.int (2 : Int32)), (.ref b2)])) rfl rfl (hb hby d1_74)
  have f18 := (f14).wr W17 ((Or.inr (Nat.le_trans ((Keep.refl h0 [])).1 (Nat.le_of_eq g2.symm))))
  have Va17 := Arv.set Ar17 q17 S17 M17 H17 G17 rfl W17 2 rfl (Nat.le_of_ble_eq_true rfl)
  have Nf17 := Fr.snoc X17 Nf13 gz3
  have Zf17 : n0 ≤ h17.size := Nat.le_trans Zf13 (Keep.of_wr W17).1
  have pre19 : ∀ t, Steps p.tables e below (T17.setTop (mkF m 75 #[.val (.int (7 : Int32)), .val (.long v0), .second, .val (.long v1), .second, .val (.long v2), .second, .val (.long v3), .second, .val (.int (3 : Int32)), .val (.ref b2), .val (.int (2 : Int32))] [])) t → Steps p.tables e below (s₁.setTop (entryFrame m #[(.int (7 : Int32)), (.long v0), (.long v1), (.long v2), (.long v3)] 12)) t := fun t kt => pre16 t (st17 _ kt)
  have pre20 : ∀ t, Steps p.tables e below (T17.setTop (mkF m 97 #[.val (.int (7 : Int32)), .val (.long v0), .second, .val (.long v1), .second, .val (.long v2), .second, .val (.long v3), .second, .val (.int (3 : Int32)), .val (.ref b2), .val (.int (3 : Int32))] [(.ref b2)])) t → Steps p.tables e below (s₁.setTop (entryFrame m #[(.int (7 : Int32)), (.long v0), (.long v1), (.long v2), (.long v3)] 12)) t := fun t kt => pre19 t (by
    refine XS.iinc X17.here hx rfl (hb hby d1_75) rfl (l' := #[.val (.int (7 : Int32)), .val (.long v0), .second, .val (.long v1), .second, .val (.long v2), .second, .val (.long v3), .second, .val (.int (3 : Int32)), .val (.ref b2), .val (.int (3 : Int32))]) rfl ?_
    show Steps p.tables e below (T17.setTop (mkF m 78 #[.val (.int (7 : Int32)), .val (.long v0), .second, .val (.long v1), .second, .val (.long v2), .second, .val (.long v3), .second, .val (.int (3 : Int32)), .val (.ref b2), .val (.int (3 : Int32))] [])) _
    refine XS.iloadN X17.here hx rfl (hb hby d1_78) rfl ?_
    show Steps p.tables e below (T17.setTop (mkF m 79 #[.val (.int (7 : Int32)), .val (.long v0), .second, .val (.long v1), .second, .val (.long v2), .second, .val (.long v3), .second, .val (.int (3 : Int32)), .val (.ref b2), .val (.int (3 : Int32))] [(.int (7 : Int32))])) _
    refine XS.bipush X17.here hx rfl (hb hby d1_79) ?_
    show Steps p.tables e below (T17.setTop (mkF m 81 #[.val (.int (7 : Int32)), .val (.long v0), .second, .val (.long v1), .second, .val (.long v2), .second, .val (.long v3), .second, .val (.int (3 : Int32)), .val (.ref b2), .val (.int (3 : Int32))] [(.int (8 : Int32)), (.int (7 : Int32))])) _
    refine XS.iand X17.here hx rfl (hb hby d1_81) rfl ?_
    show Steps p.tables e below (T17.setTop (mkF m 82 #[.val (.int (7 : Int32)), .val (.long v0), .second, .val (.long v1), .second, .val (.long v2), .second, .val (.long v3), .second, .val (.int (3 : Int32)), .val (.ref b2), .val (.int (3 : Int32))] [(.int (0 : Int32))])) _
    refine XS.ifYes X17.here hx rfl (pc0 := 82) (pc' := 95) rfl (hb hby d1_82) rfl ((if0 _ _).trans (teq (by decide : (0 : Int32) = (0 : Int32))).1) (by decide) (by decide) ?_
    show Steps p.tables e below (T17.setTop (mkF m 95 #[.val (.int (7 : Int32)), .val (.long v0), .second, .val (.long v1), .second, .val (.long v2), .second, .val (.long v3), .second, .val (.int (3 : Int32)), .val (.ref b2), .val (.int (3 : Int32))] [])) _
    refine XS.aload X17.here hx rfl (hb hby d1_95) rfl rfl ?_
    show Steps p.tables e below (T17.setTop (mkF m 97 #[.val (.int (7 : Int32)), .val (.long v0), .second, .val (.long v1), .second, .val (.long v2), .second, .val (.long v3), .second, .val (.int (3 : Int32)), .val (.ref b2), .val (.int (3 : Int32))] [(.ref b2)])) _
    exact kt)
  obtain ⟨fs, hr, hrun, hended, hW, hsame⟩ := X17.leave (v := (some (.ref b2))) (fun h => by rw [Bd.returns] at h; cases h)
  refine ⟨_, _, pre20 _ ?_, hrun, hended, _, _, rfl, ?_, ⟨_, rfl⟩, hW, hsame.mono (by decide) (by decide)⟩
  · exact retOut X17 hx Bd.returns rfl (Or.inr (Or.inr (Or.inr (Or.inr ⟨rfl, rfl, rfl⟩)))) (hb hby d1_97) hr
  · show QP Z [v0, v1, v2] h0 n0 _ T17.heap _
    rw [e17]
    exact ⟨_, rfl, Nf17, f18, gz3, (sz2), own_lg (xs := [v0, v1, v2]) Va17 rfl (by simp)⟩
theorem ef_rmP_8 (m : MethodId) (x0 : Int32) (x1 : Int64) (x2 : Int64) (x3 : Int64) (x4 : Int64) : entryFrame m #[(.int x0), (.long x1), (.long x2), (.long x3), (.long x4)] 12 = mkF m 0 #[.val (.int x0), .val (.long x1), .second, .val (.long x2), .second, .val (.long x3), .second, .val (.long x4), .second, .unset, .unset, .unset] [] := by first | (simp [entryFrame, mkF, argsToLocals, Value.category]; done) | rfl
theorem d1_85 : decode method_3_code 85 = .ok (.aload 10, 2) := by decide +kernel
theorem d1_87 : decode method_3_code 87 = .ok (.iload 11, 2) := by decide +kernel
theorem d1_89 : decode method_3_code 89 = .ok (.lload 7, 2) := by decide +kernel
theorem d1_91 : decode method_3_code 91 = .ok (.lastore, 1) := by decide +kernel
theorem d1_92 : decode method_3_code 92 = .ok (.iinc 11 1, 3) := by decide +kernel
set_option maxRecDepth 65536 in
set_option maxHeartbeats 40000000 in
theorem rmP_8 (l : Launch) (Z : State) (a0 : Array Value) (hw : ∀ d ∈ tables_1, d.before a0 Z = true) (ws : List Jvm.Cond) (v0 v1 v2 v3 : Int64) (h0 : Heap) (n0 : Nat) (Z0 : n0 ≤ h0.size)  :
    MetFree l (⟨"com/example/nest3/nest3/SubsetWithinPinLaw", "pick", "(IJJJJ)[J"⟩ : MethodName) (head1 (Jvm.Cond.code (⟨"com/example/nest3/nest3/SubsetWithinPinLaw", "pick", "(IJJJJ)[J"⟩ : MethodName) method_3_code 12 (some (.array .long)) :: ws) ({ frames := 0, cells := 1, slots := 4, locals := 0 } : Room)) (fun a U => a = #[(.int (8 : Int32)), (.long v0), (.long v1), (.long v2), (.long v3)] ∧ Z.Warmed39 U.vm ∧ U.heap = h0) (fun _ _ _ _ _ => True) (fun _ U o U' => ∃ v L, o = .returned v ∧ QP Z [v3] h0 n0 v U'.heap L ∧ FrameEnd U o U' L ({ frames := 0, cells := 1, slots := 4, locals := 0 } : Room).cells ({ frames := 0, cells := 1, slots := 4, locals := 0 } : Room).slots) := by
  refine MetFree.of_bodySF (plainFor_of_name pn_com_example_nest3_nest3_SubsetWithinPinLaw) hisR ?_
  intro p e s m args below meth c s₁ Bd hml0 hP hK
  obtain ⟨rfl, hZ, hh⟩ := hP
  have hx := Bd.exec
  have hby := Bd.bytes
  have hml : c.maxLocals = 12 := hml0
  have hown : s.vm.findClass "com/example/nest3/nest3/SubsetWithinPinLaw" = some m.cls := findClass_of_methodNamed Bd.named
  have hnm := (name_of_methodNamed Bd.named Bd.method).1
  have X0 : Stand p l e ({ frames := 0, cells := 1, slots := 4, locals := 0 } : Room) s m #[(.int (8 : Int32)), (.long v0), (.long v1), (.long v2), (.long v3)] below meth c s₁ [] 0 0 := Stand.of_body Bd
  have e0 : s₁.heap = h0 := by rw [← hh, Bd.state]; rfl
  have N0 := Fr.nil n0
  have pre0 : ∀ t, Steps p.tables e below (s₁.setTop (mkF m 0 #[.val (.int (8 : Int32)), .val (.long v0), .second, .val (.long v1), .second, .val (.long v2), .second, .val (.long v3), .second, .unset, .unset, .unset] [])) t → Steps p.tables e below (s₁.setTop (entryFrame m #[(.int (8 : Int32)), (.long v0), (.long v1), (.long v2), (.long v3)] 12)) t := fun t kt => castTop (ef_rmP_8 m (8 : Int32) v0 v1 v2 v3) kt
  have pre1 : ∀ t, Steps p.tables e below (s₁.setTop (mkF m 25 #[.val (.int (8 : Int32)), .val (.long v0), .second, .val (.long v1), .second, .val (.long v2), .second, .val (.long v3), .second, .val (.int (1 : Int32)), .unset, .unset] [(.int (1 : Int32))])) t → Steps p.tables e below (s₁.setTop (entryFrame m #[(.int (8 : Int32)), (.long v0), (.long v1), (.long v2), (.long v3)] 12)) t := fun t kt => pre0 t (by
    refine XS.iloadN X0.here hx rfl (hb hby d1_0) rfl ?_
    show Steps p.tables e below (s₁.setTop (mkF m 1 #[.val (.int (8 : Int32)), .val (.long v0), .second, .val (.long v1), .second, .val (.long v2), .second, .val (.long v3), .second, .unset, .unset, .unset] [(.int (8 : Int32))])) _
    refine XS.iconst X0.here hx rfl (hb hby d1_1) ?_
    show Steps p.tables e below (s₁.setTop (mkF m 2 #[.val (.int (8 : Int32)), .val (.long v0), .second, .val (.long v1), .second, .val (.long v2), .second, .val (.long v3), .second, .unset, .unset, .unset] [(.int (1 : Int32)), (.int (8 : Int32))])) _
    refine XS.iand X0.here hx rfl (hb hby d1_2) rfl ?_
    show Steps p.tables e below (s₁.setTop (mkF m 3 #[.val (.int (8 : Int32)), .val (.long v0), .second, .val (.long v1), .second, .val (.long v2), .second, .val (.long v3), .second, .unset, .unset, .unset] [(.int (0 : Int32))])) _
    refine XS.iloadN X0.here hx rfl (hb hby d1_3) rfl ?_
    show Steps p.tables e below (s₁.setTop (mkF m 4 #[.val (.int (8 : Int32)), .val (.long v0), .second, .val (.long v1), .second, .val (.long v2), .second, .val (.long v3), .second, .unset, .unset, .unset] [(.int (8 : Int32)), (.int (0 : Int32))])) _
    refine XS.iconst X0.here hx rfl (hb hby d1_4) ?_
    show Steps p.tables e below (s₁.setTop (mkF m 5 #[.val (.int (8 : Int32)), .val (.long v0), .second, .val (.long v1), .second, .val (.long v2), .second, .val (.long v3), .second, .unset, .unset, .unset] [(.int (1 : Int32)), (.int (8 : Int32)), (.int (0 : Int32))])) _
    refine XS.iushr X0.here hx rfl (hb hby d1_5) rfl ?_
    show Steps p.tables e below (s₁.setTop (mkF m 6 #[.val (.int (8 : Int32)), .val (.long v0), .second, .val (.long v1), .second, .val (.long v2), .second, .val (.long v3), .second, .unset, .unset, .unset] [(.int (4 : Int32)), (.int (0 : Int32))])) _
    refine XS.iconst X0.here hx rfl (hb hby d1_6) ?_
    show Steps p.tables e below (s₁.setTop (mkF m 7 #[.val (.int (8 : Int32)), .val (.long v0), .second, .val (.long v1), .second, .val (.long v2), .second, .val (.long v3), .second, .unset, .unset, .unset] [(.int (1 : Int32)), (.int (4 : Int32)), (.int (0 : Int32))])) _
    refine XS.iand X0.here hx rfl (hb hby d1_7) rfl ?_
    show Steps p.tables e below (s₁.setTop (mkF m 8 #[.val (.int (8 : Int32)), .val (.long v0), .second, .val (.long v1), .second, .val (.long v2), .second, .val (.long v3), .second, .unset, .unset, .unset] [(.int (0 : Int32)), (.int (0 : Int32))])) _
    refine XS.iadd X0.here hx rfl (hb hby d1_8) rfl ?_
    show Steps p.tables e below (s₁.setTop (mkF m 9 #[.val (.int (8 : Int32)), .val (.long v0), .second, .val (.long v1), .second, .val (.long v2), .second, .val (.long v3), .second, .unset, .unset, .unset] [(.int (0 : Int32))])) _
    refine XS.iloadN X0.here hx rfl (hb hby d1_9) rfl ?_
    show Steps p.tables e below (s₁.setTop (mkF m 10 #[.val (.int (8 : Int32)), .val (.long v0), .second, .val (.long v1), .second, .val (.long v2), .second, .val (.long v3), .second, .unset, .unset, .unset] [(.int (8 : Int32)), (.int (0 : Int32))])) _
    refine XS.iconst X0.here hx rfl (hb hby d1_10) ?_
    show Steps p.tables e below (s₁.setTop (mkF m 11 #[.val (.int (8 : Int32)), .val (.long v0), .second, .val (.long v1), .second, .val (.long v2), .second, .val (.long v3), .second, .unset, .unset, .unset] [(.int (2 : Int32)), (.int (8 : Int32)), (.int (0 : Int32))])) _
    refine XS.iushr X0.here hx rfl (hb hby d1_11) rfl ?_
    show Steps p.tables e below (s₁.setTop (mkF m 12 #[.val (.int (8 : Int32)), .val (.long v0), .second, .val (.long v1), .second, .val (.long v2), .second, .val (.long v3), .second, .unset, .unset, .unset] [(.int (2 : Int32)), (.int (0 : Int32))])) _
    refine XS.iconst X0.here hx rfl (hb hby d1_12) ?_
    show Steps p.tables e below (s₁.setTop (mkF m 13 #[.val (.int (8 : Int32)), .val (.long v0), .second, .val (.long v1), .second, .val (.long v2), .second, .val (.long v3), .second, .unset, .unset, .unset] [(.int (1 : Int32)), (.int (2 : Int32)), (.int (0 : Int32))])) _
    refine XS.iand X0.here hx rfl (hb hby d1_13) rfl ?_
    show Steps p.tables e below (s₁.setTop (mkF m 14 #[.val (.int (8 : Int32)), .val (.long v0), .second, .val (.long v1), .second, .val (.long v2), .second, .val (.long v3), .second, .unset, .unset, .unset] [(.int (0 : Int32)), (.int (0 : Int32))])) _
    refine XS.iadd X0.here hx rfl (hb hby d1_14) rfl ?_
    show Steps p.tables e below (s₁.setTop (mkF m 15 #[.val (.int (8 : Int32)), .val (.long v0), .second, .val (.long v1), .second, .val (.long v2), .second, .val (.long v3), .second, .unset, .unset, .unset] [(.int (0 : Int32))])) _
    refine XS.iloadN X0.here hx rfl (hb hby d1_15) rfl ?_
    show Steps p.tables e below (s₁.setTop (mkF m 16 #[.val (.int (8 : Int32)), .val (.long v0), .second, .val (.long v1), .second, .val (.long v2), .second, .val (.long v3), .second, .unset, .unset, .unset] [(.int (8 : Int32)), (.int (0 : Int32))])) _
    refine XS.iconst X0.here hx rfl (hb hby d1_16) ?_
    show Steps p.tables e below (s₁.setTop (mkF m 17 #[.val (.int (8 : Int32)), .val (.long v0), .second, .val (.long v1), .second, .val (.long v2), .second, .val (.long v3), .second, .unset, .unset, .unset] [(.int (3 : Int32)), (.int (8 : Int32)), (.int (0 : Int32))])) _
    refine XS.iushr X0.here hx rfl (hb hby d1_17) rfl ?_
    show Steps p.tables e below (s₁.setTop (mkF m 18 #[.val (.int (8 : Int32)), .val (.long v0), .second, .val (.long v1), .second, .val (.long v2), .second, .val (.long v3), .second, .unset, .unset, .unset] [(.int (1 : Int32)), (.int (0 : Int32))])) _
    refine XS.iconst X0.here hx rfl (hb hby d1_18) ?_
    show Steps p.tables e below (s₁.setTop (mkF m 19 #[.val (.int (8 : Int32)), .val (.long v0), .second, .val (.long v1), .second, .val (.long v2), .second, .val (.long v3), .second, .unset, .unset, .unset] [(.int (1 : Int32)), (.int (1 : Int32)), (.int (0 : Int32))])) _
    refine XS.iand X0.here hx rfl (hb hby d1_19) rfl ?_
    show Steps p.tables e below (s₁.setTop (mkF m 20 #[.val (.int (8 : Int32)), .val (.long v0), .second, .val (.long v1), .second, .val (.long v2), .second, .val (.long v3), .second, .unset, .unset, .unset] [(.int (1 : Int32)), (.int (0 : Int32))])) _
    refine XS.iadd X0.here hx rfl (hb hby d1_20) rfl ?_
    show Steps p.tables e below (s₁.setTop (mkF m 21 #[.val (.int (8 : Int32)), .val (.long v0), .second, .val (.long v1), .second, .val (.long v2), .second, .val (.long v3), .second, .unset, .unset, .unset] [(.int (1 : Int32))])) _
    refine XS.istore X0.here hx rfl (hb hby d1_21) rfl (l' := #[.val (.int (8 : Int32)), .val (.long v0), .second, .val (.long v1), .second, .val (.long v2), .second, .val (.long v3), .second, .val (.int (1 : Int32)), .unset, .unset]) rfl ?_
    show Steps p.tables e below (s₁.setTop (mkF m 23 #[.val (.int (8 : Int32)), .val (.long v0), .second, .val (.long v1), .second, .val (.long v2), .second, .val (.long v3), .second, .val (.int (1 : Int32)), .unset, .unset] [])) _
    refine XS.iload X0.here hx rfl (hb hby d1_23) rfl ?_
    show Steps p.tables e below (s₁.setTop (mkF m 25 #[.val (.int (8 : Int32)), .val (.long v0), .second, .val (.long v1), .second, .val (.long v2), .second, .val (.long v3), .second, .val (.int (1 : Int32)), .unset, .unset] [(.int (1 : Int32))])) _
    exact kt)
  obtain ⟨T2, h2, k2, X2, e2, E2, A2, st2⟩ := newP X0 hx hZ (hw _ (List.mem_of_getElem? (i := 7) rfl)) e0 (g := (mkF m 25 #[.val (.int (8 : Int32)), .val (.long v0), .second, .val (.long v1), .second, .val (.long v2), .second, .val (.long v3), .second, .val (.int (1 : Int32)), .unset, .unset] [(.int (1 : Int32))])) rfl (hb hby d1_25) rfl (by decide) (cap := 1) (by decide) (by decide) (by decide) (by decide)
  obtain ⟨b2, g2⟩ : ∃ z, z = h0.size := ⟨_, rfl⟩
  rw [← g2] at A2 st2
  have gz3 : n0 ≤ b2 := Nat.le_trans Z0 (Nat.le_of_eq g2.symm)
  have f5 := ((Keep.refl h0 [])).ext E2
  have Zf6 : n0 ≤ h2.size := Nat.le_trans Z0 E2.1
  have sz2 : h0.size ≤ b2 := Nat.le_of_eq g2.symm
  have V2 : Arv Z h2 b2 k2 .long (1 : Int32) [(.long (0 : Int64))] (.long (0 : Int64)) := (Arv.new A2 (by decide)).pad (pad_rep [] (.long (0 : Int64)) 1)
  have pre7 : ∀ t, Steps p.tables e below (T2.setTop (mkF m 27 #[.val (.int (8 : Int32)), .val (.long v0), .second, .val (.long v1), .second, .val (.long v2), .second, .val (.long v3), .second, .val (.int (1 : Int32)), .unset, .unset] [(.ref b2)])) t → Steps p.tables e below (s₁.setTop (entryFrame m #[(.int (8 : Int32)), (.long v0), (.long v1), (.long v2), (.long v3)] 12)) t := fun t kt => pre1 t (st2 _ kt)
  have pre8 : ∀ t, Steps p.tables e below (T2.setTop (mkF m 91 #[.val (.int (8 : Int32)), .val (.long v0), .second, .val (.long v1), .second, .val (.long v2), .second, .val (.long v3), .second, .val (.int (1 : Int32)), .val (.ref b2), .val (.int (0 : Int32))] [(.long v3), (.int (0 : Int32)), (.ref b2)])) t → Steps p.tables e below (s₁.setTop (entryFrame m #[(.int (8 : Int32)), (.long v0), (.long v1), (.long v2), (.long v3)] 12)) t := fun t kt => pre7 t (by
    refine XS.astore X2.here hx rfl (hb hby d1_27) rfl rfl (l' := #[.val (.int (8 : Int32)), .val (.long v0), .second, .val (.long v1), .second, .val (.long v2), .second, .val (.long v3), .second, .val (.int (1 : Int32)), .val (.ref b2), .unset]) rfl ?_
    show Steps p.tables e below (T2.setTop (mkF m 29 #[.val (.int (8 : Int32)), .val (.long v0), .second, .val (.long v1), .second, .val (.long v2), .second, .val (.long v3), .second, .val (.int (1 : Int32)), .val (.ref b2), .unset] [])) _
    refine XS.iconst X2.here hx rfl (hb hby d1_29) ?_
    show Steps p.tables e below (T2.setTop (mkF m 30 #[.val (.int (8 : Int32)), .val (.long v0), .second, .val (.long v1), .second, .val (.long v2), .second, .val (.long v3), .second, .val (.int (1 : Int32)), .val (.ref b2), .unset] [(.int (0 : Int32))])) _
    refine XS.istore X2.here hx rfl (hb hby d1_30) rfl (l' := #[.val (.int (8 : Int32)), .val (.long v0), .second, .val (.long v1), .second, .val (.long v2), .second, .val (.long v3), .second, .val (.int (1 : Int32)), .val (.ref b2), .val (.int (0 : Int32))]) rfl ?_
    show Steps p.tables e below (T2.setTop (mkF m 32 #[.val (.int (8 : Int32)), .val (.long v0), .second, .val (.long v1), .second, .val (.long v2), .second, .val (.long v3), .second, .val (.int (1 : Int32)), .val (.ref b2), .val (.int (0 : Int32))] [])) _
    refine XS.iloadN X2.here hx rfl (hb hby d1_32) rfl ?_
    show Steps p.tables e below (T2.setTop (mkF m 33 #[.val (.int (8 : Int32)), .val (.long v0), .second, .val (.long v1), .second, .val (.long v2), .second, .val (.long v3), .second, .val (.int (1 : Int32)), .val (.ref b2), .val (.int (0 : Int32))] [(.int (8 : Int32))])) _
    refine XS.iconst X2.here hx rfl (hb hby d1_33) ?_
    show Steps p.tables e below (T2.setTop (mkF m 34 #[.val (.int (8 : Int32)), .val (.long v0), .second, .val (.long v1), .second, .val (.long v2), .second, .val (.long v3), .second, .val (.int (1 : Int32)), .val (.ref b2), .val (.int (0 : Int32))] [(.int (1 : Int32)), (.int (8 : Int32))])) _
    refine XS.iand X2.here hx rfl (hb hby d1_34) rfl ?_
    show Steps p.tables e below (T2.setTop (mkF m 35 #[.val (.int (8 : Int32)), .val (.long v0), .second, .val (.long v1), .second, .val (.long v2), .second, .val (.long v3), .second, .val (.int (1 : Int32)), .val (.ref b2), .val (.int (0 : Int32))] [(.int (0 : Int32))])) _
    refine XS.ifYes X2.here hx rfl (pc0 := 35) (pc' := 47) rfl (hb hby d1_35) rfl ((if0 _ _).trans (teq (by decide : (0 : Int32) = (0 : Int32))).1) (by decide) (by decide) ?_
    show Steps p.tables e below (T2.setTop (mkF m 47 #[.val (.int (8 : Int32)), .val (.long v0), .second, .val (.long v1), .second, .val (.long v2), .second, .val (.long v3), .second, .val (.int (1 : Int32)), .val (.ref b2), .val (.int (0 : Int32))] [])) _
    refine XS.iloadN X2.here hx rfl (hb hby d1_47) rfl ?_
    show Steps p.tables e below (T2.setTop (mkF m 48 #[.val (.int (8 : Int32)), .val (.long v0), .second, .val (.long v1), .second, .val (.long v2), .second, .val (.long v3), .second, .val (.int (1 : Int32)), .val (.ref b2), .val (.int (0 : Int32))] [(.int (8 : Int32))])) _
    refine XS.iconst X2.here hx rfl (hb hby d1_48) ?_
    show Steps p.tables e below (T2.setTop (mkF m 49 #[.val (.int (8 : Int32)), .val (.long v0), .second, .val (.long v1), .second, .val (.long v2), .second, .val (.long v3), .second, .val (.int (1 : Int32)), .val (.ref b2), .val (.int (0 : Int32))] [(.int (2 : Int32)), (.int (8 : Int32))])) _
    refine XS.iand X2.here hx rfl (hb hby d1_49) rfl ?_
    show Steps p.tables e below (T2.setTop (mkF m 50 #[.val (.int (8 : Int32)), .val (.long v0), .second, .val (.long v1), .second, .val (.long v2), .second, .val (.long v3), .second, .val (.int (1 : Int32)), .val (.ref b2), .val (.int (0 : Int32))] [(.int (0 : Int32))])) _
    refine XS.ifYes X2.here hx rfl (pc0 := 50) (pc' := 62) rfl (hb hby d1_50) rfl ((if0 _ _).trans (teq (by decide : (0 : Int32) = (0 : Int32))).1) (by decide) (by decide) ?_
    show Steps p.tables e below (T2.setTop (mkF m 62 #[.val (.int (8 : Int32)), .val (.long v0), .second, .val (.long v1), .second, .val (.long v2), .second, .val (.long v3), .second, .val (.int (1 : Int32)), .val (.ref b2), .val (.int (0 : Int32))] [])) _
    refine XS.iloadN X2.here hx rfl (hb hby d1_62) rfl ?_
    show Steps p.tables e below (T2.setTop (mkF m 63 #[.val (.int (8 : Int32)), .val (.long v0), .second, .val (.long v1), .second, .val (.long v2), .second, .val (.long v3), .second, .val (.int (1 : Int32)), .val (.ref b2), .val (.int (0 : Int32))] [(.int (8 : Int32))])) _
    refine XS.iconst X2.here hx rfl (hb hby d1_63) ?_
    show Steps p.tables e below (T2.setTop (mkF m 64 #[.val (.int (8 : Int32)), .val (.long v0), .second, .val (.long v1), .second, .val (.long v2), .second, .val (.long v3), .second, .val (.int (1 : Int32)), .val (.ref b2), .val (.int (0 : Int32))] [(.int (4 : Int32)), (.int (8 : Int32))])) _
    refine XS.iand X2.here hx rfl (hb hby d1_64) rfl ?_
    show Steps p.tables e below (T2.setTop (mkF m 65 #[.val (.int (8 : Int32)), .val (.long v0), .second, .val (.long v1), .second, .val (.long v2), .second, .val (.long v3), .second, .val (.int (1 : Int32)), .val (.ref b2), .val (.int (0 : Int32))] [(.int (0 : Int32))])) _
    refine XS.ifYes X2.here hx rfl (pc0 := 65) (pc' := 78) rfl (hb hby d1_65) rfl ((if0 _ _).trans (teq (by decide : (0 : Int32) = (0 : Int32))).1) (by decide) (by decide) ?_
    show Steps p.tables e below (T2.setTop (mkF m 78 #[.val (.int (8 : Int32)), .val (.long v0), .second, .val (.long v1), .second, .val (.long v2), .second, .val (.long v3), .second, .val (.int (1 : Int32)), .val (.ref b2), .val (.int (0 : Int32))] [])) _
    refine XS.iloadN X2.here hx rfl (hb hby d1_78) rfl ?_
    show Steps p.tables e below (T2.setTop (mkF m 79 #[.val (.int (8 : Int32)), .val (.long v0), .second, .val (.long v1), .second, .val (.long v2), .second, .val (.long v3), .second, .val (.int (1 : Int32)), .val (.ref b2), .val (.int (0 : Int32))] [(.int (8 : Int32))])) _
    refine XS.bipush X2.here hx rfl (hb hby d1_79) ?_
    show Steps p.tables e below (T2.setTop (mkF m 81 #[.val (.int (8 : Int32)), .val (.long v0), .second, .val (.long v1), .second, .val (.long v2), .second, .val (.long v3), .second, .val (.int (1 : Int32)), .val (.ref b2), .val (.int (0 : Int32))] [(.int (8 : Int32)), (.int (8 : Int32))])) _
    refine XS.iand X2.here hx rfl (hb hby d1_81) rfl ?_
    show Steps p.tables e below (T2.setTop (mkF m 82 #[.val (.int (8 : Int32)), .val (.long v0), .second, .val (.long v1), .second, .val (.long v2), .second, .val (.long v3), .second, .val (.int (1 : Int32)), .val (.ref b2), .val (.int (0 : Int32))] [(.int (8 : Int32))])) _
    refine XS.ifNo X2.here hx rfl (hb hby d1_82) rfl ((if0 _ _).trans (feq (by decide : ¬ ((8 : Int32) = (0 : Int32)))).1) ?_
    show Steps p.tables e below (T2.setTop (mkF m 85 #[.val (.int (8 : Int32)), .val (.long v0), .second, .val (.long v1), .second, .val (.long v2), .second, .val (.long v3), .second, .val (.int (1 : Int32)), .val (.ref b2), .val (.int (0 : Int32))] [])) _
    refine XS.aload X2.here hx rfl (hb hby d1_85) rfl rfl ?_
    show Steps p.tables e below (T2.setTop (mkF m 87 #[.val (.int (8 : Int32)), .val (.long v0), .second, .val (.long v1), .second, .val (.long v2), .second, .val (.long v3), .second, .val (.int (1 : Int32)), .val (.ref b2), .val (.int (0 : Int32))] [(.ref b2)])) _
    refine XS.iload X2.here hx rfl (hb hby d1_87) rfl ?_
    show Steps p.tables e below (T2.setTop (mkF m 89 #[.val (.int (8 : Int32)), .val (.long v0), .second, .val (.long v1), .second, .val (.long v2), .second, .val (.long v3), .second, .val (.int (1 : Int32)), .val (.ref b2), .val (.int (0 : Int32))] [(.int (0 : Int32)), (.ref b2)])) _
    refine XS.lload X2.here hx rfl (hb hby d1_89) rfl ?_
    show Steps p.tables e below (T2.setTop (mkF m 91 #[.val (.int (8 : Int32)), .val (.long v0), .second, .val (.long v1), .second, .val (.long v2), .second, .val (.long v3), .second, .val (.int (1 : Int32)), .val (.ref b2), .val (.int (0 : Int32))] [(.long v3), (.int (0 : Int32)), (.ref b2)])) _
    exact kt)
  obtain ⟨cl9, Ar9, q9, S9, M9, H9, G9⟩ := V2
  have hin9 : ¬ ((0 : Int32) < 0 ∨ cl9.slots.size ≤ ((0 : Int32)).toNatClampNeg) := inb_of S9 ⟨by decide, by decide⟩
  obtain ⟨T9, h9, X9, e9, W9, st9⟩ := stJ X2 hx hZ e2 Ar9 (j := (0 : Int32)) hin9 (g := (mkF m 91 #[.val (.int (8 : Int32)), .val (.long v0), .second, .val (.long v1), .second, .val (.long v2), .second, .val (.long v3), .second, .val (.int (1 : Int32)), .val (.ref b2), .val (.int (0 : Int32))] [(.long v3), (.int (0 : Int32)), (.ref b2)])) rfl rfl (hb hby d1_91)
  have f10 := (f5).wr W9 ((Or.inr (Nat.le_trans ((Keep.refl h0 [])).1 (Nat.le_of_eq g2.symm))))
  have Va9 := Arv.set Ar9 q9 S9 M9 H9 G9 rfl W9 0 rfl (Nat.le_of_ble_eq_true rfl)
  have Nf9 := Fr.snoc X9 N0 gz3
  have Zf9 : n0 ≤ h9.size := Nat.le_trans Zf6 (Keep.of_wr W9).1
  have pre11 : ∀ t, Steps p.tables e below (T9.setTop (mkF m 92 #[.val (.int (8 : Int32)), .val (.long v0), .second, .val (.long v1), .second, .val (.long v2), .second, .val (.long v3), .second, .val (.int (1 : Int32)), .val (.ref b2), .val (.int (0 : Int32))] [])) t → Steps p.tables e below (s₁.setTop (entryFrame m #[(.int (8 : Int32)), (.long v0), (.long v1), (.long v2), (.long v3)] 12)) t := fun t kt => pre8 t (st9 _ kt)
  have pre12 : ∀ t, Steps p.tables e below (T9.setTop (mkF m 97 #[.val (.int (8 : Int32)), .val (.long v0), .second, .val (.long v1), .second, .val (.long v2), .second, .val (.long v3), .second, .val (.int (1 : Int32)), .val (.ref b2), .val (.int (1 : Int32))] [(.ref b2)])) t → Steps p.tables e below (s₁.setTop (entryFrame m #[(.int (8 : Int32)), (.long v0), (.long v1), (.long v2), (.long v3)] 12)) t := fun t kt => pre11 t (by
    refine XS.iinc X9.here hx rfl (hb hby d1_92) rfl (l' := #[.val (.int (8 : Int32)), .val (.long v0), .second, .val (.long v1), .second, .val (.long v2), .second, .val (.long v3), .second, .val (.int (1 : Int32)), .val (.ref b2), .val (.int (1 : Int32))]) rfl ?_
    show Steps p.tables e below (T9.setTop (mkF m 95 #[.val (.int (8 : Int32)), .val (.long v0), .second, .val (.long v1), .second, .val (.long v2), .second, .val (.long v3), .second, .val (.int (1 : Int32)), .val (.ref b2), .val (.int (1 : Int32))] [])) _
    refine XS.aload X9.here hx rfl (hb hby d1_95) rfl rfl ?_
    show Steps p.tables e below (T9.setTop (mkF m 97 #[.val (.int (8 : Int32)), .val (.long v0), .second, .val (.long v1), .second, .val (.long v2), .second, .val (.long v3), .second, .val (.int (1 : Int32)), .val (.ref b2), .val (.int (1 : Int32))] [(.ref b2)])) _
    exact kt)
  obtain ⟨fs, hr, hrun, hended, hW, hsame⟩ := X9.leave (v := (some (.ref b2))) (fun h => by rw [Bd.returns] at h; cases h)
  refine ⟨_, _, pre12 _ ?_, hrun, hended, _, _, rfl, ?_, ⟨_, rfl⟩, hW, hsame.mono (by decide) (by decide)⟩
  · exact retOut X9 hx Bd.returns rfl (Or.inr (Or.inr (Or.inr (Or.inr ⟨rfl, rfl, rfl⟩)))) (hb hby d1_97) hr
  · show QP Z [v3] h0 n0 _ T9.heap _
    rw [e9]
    exact ⟨_, rfl, Nf9, f10, gz3, (sz2), own_lg (xs := [v3]) Va9 rfl (by simp)⟩
theorem ef_rmP_9 (m : MethodId) (x0 : Int32) (x1 : Int64) (x2 : Int64) (x3 : Int64) (x4 : Int64) : entryFrame m #[(.int x0), (.long x1), (.long x2), (.long x3), (.long x4)] 12 = mkF m 0 #[.val (.int x0), .val (.long x1), .second, .val (.long x2), .second, .val (.long x3), .second, .val (.long x4), .second, .unset, .unset, .unset] [] := by first | (simp [entryFrame, mkF, argsToLocals, Value.category]; done) | rfl
set_option maxRecDepth 65536 in
set_option maxHeartbeats 40000000 in
theorem rmP_9 (l : Launch) (Z : State) (a0 : Array Value) (hw : ∀ d ∈ tables_1, d.before a0 Z = true) (ws : List Jvm.Cond) (v0 v1 v2 v3 : Int64) (h0 : Heap) (n0 : Nat) (Z0 : n0 ≤ h0.size)  :
    MetFree l (⟨"com/example/nest3/nest3/SubsetWithinPinLaw", "pick", "(IJJJJ)[J"⟩ : MethodName) (head1 (Jvm.Cond.code (⟨"com/example/nest3/nest3/SubsetWithinPinLaw", "pick", "(IJJJJ)[J"⟩ : MethodName) method_3_code 12 (some (.array .long)) :: ws) ({ frames := 0, cells := 1, slots := 4, locals := 0 } : Room)) (fun a U => a = #[(.int (9 : Int32)), (.long v0), (.long v1), (.long v2), (.long v3)] ∧ Z.Warmed39 U.vm ∧ U.heap = h0) (fun _ _ _ _ _ => True) (fun _ U o U' => ∃ v L, o = .returned v ∧ QP Z [v0, v3] h0 n0 v U'.heap L ∧ FrameEnd U o U' L ({ frames := 0, cells := 1, slots := 4, locals := 0 } : Room).cells ({ frames := 0, cells := 1, slots := 4, locals := 0 } : Room).slots) := by
  refine MetFree.of_bodySF (plainFor_of_name pn_com_example_nest3_nest3_SubsetWithinPinLaw) hisR ?_
  intro p e s m args below meth c s₁ Bd hml0 hP hK
  obtain ⟨rfl, hZ, hh⟩ := hP
  have hx := Bd.exec
  have hby := Bd.bytes
  have hml : c.maxLocals = 12 := hml0
  have hown : s.vm.findClass "com/example/nest3/nest3/SubsetWithinPinLaw" = some m.cls := findClass_of_methodNamed Bd.named
  have hnm := (name_of_methodNamed Bd.named Bd.method).1
  have X0 : Stand p l e ({ frames := 0, cells := 1, slots := 4, locals := 0 } : Room) s m #[(.int (9 : Int32)), (.long v0), (.long v1), (.long v2), (.long v3)] below meth c s₁ [] 0 0 := Stand.of_body Bd
  have e0 : s₁.heap = h0 := by rw [← hh, Bd.state]; rfl
  have N0 := Fr.nil n0
  have pre0 : ∀ t, Steps p.tables e below (s₁.setTop (mkF m 0 #[.val (.int (9 : Int32)), .val (.long v0), .second, .val (.long v1), .second, .val (.long v2), .second, .val (.long v3), .second, .unset, .unset, .unset] [])) t → Steps p.tables e below (s₁.setTop (entryFrame m #[(.int (9 : Int32)), (.long v0), (.long v1), (.long v2), (.long v3)] 12)) t := fun t kt => castTop (ef_rmP_9 m (9 : Int32) v0 v1 v2 v3) kt
  have pre1 : ∀ t, Steps p.tables e below (s₁.setTop (mkF m 25 #[.val (.int (9 : Int32)), .val (.long v0), .second, .val (.long v1), .second, .val (.long v2), .second, .val (.long v3), .second, .val (.int (2 : Int32)), .unset, .unset] [(.int (2 : Int32))])) t → Steps p.tables e below (s₁.setTop (entryFrame m #[(.int (9 : Int32)), (.long v0), (.long v1), (.long v2), (.long v3)] 12)) t := fun t kt => pre0 t (by
    refine XS.iloadN X0.here hx rfl (hb hby d1_0) rfl ?_
    show Steps p.tables e below (s₁.setTop (mkF m 1 #[.val (.int (9 : Int32)), .val (.long v0), .second, .val (.long v1), .second, .val (.long v2), .second, .val (.long v3), .second, .unset, .unset, .unset] [(.int (9 : Int32))])) _
    refine XS.iconst X0.here hx rfl (hb hby d1_1) ?_
    show Steps p.tables e below (s₁.setTop (mkF m 2 #[.val (.int (9 : Int32)), .val (.long v0), .second, .val (.long v1), .second, .val (.long v2), .second, .val (.long v3), .second, .unset, .unset, .unset] [(.int (1 : Int32)), (.int (9 : Int32))])) _
    refine XS.iand X0.here hx rfl (hb hby d1_2) rfl ?_
    show Steps p.tables e below (s₁.setTop (mkF m 3 #[.val (.int (9 : Int32)), .val (.long v0), .second, .val (.long v1), .second, .val (.long v2), .second, .val (.long v3), .second, .unset, .unset, .unset] [(.int (1 : Int32))])) _
    refine XS.iloadN X0.here hx rfl (hb hby d1_3) rfl ?_
    show Steps p.tables e below (s₁.setTop (mkF m 4 #[.val (.int (9 : Int32)), .val (.long v0), .second, .val (.long v1), .second, .val (.long v2), .second, .val (.long v3), .second, .unset, .unset, .unset] [(.int (9 : Int32)), (.int (1 : Int32))])) _
    refine XS.iconst X0.here hx rfl (hb hby d1_4) ?_
    show Steps p.tables e below (s₁.setTop (mkF m 5 #[.val (.int (9 : Int32)), .val (.long v0), .second, .val (.long v1), .second, .val (.long v2), .second, .val (.long v3), .second, .unset, .unset, .unset] [(.int (1 : Int32)), (.int (9 : Int32)), (.int (1 : Int32))])) _
    refine XS.iushr X0.here hx rfl (hb hby d1_5) rfl ?_
    show Steps p.tables e below (s₁.setTop (mkF m 6 #[.val (.int (9 : Int32)), .val (.long v0), .second, .val (.long v1), .second, .val (.long v2), .second, .val (.long v3), .second, .unset, .unset, .unset] [(.int (4 : Int32)), (.int (1 : Int32))])) _
    refine XS.iconst X0.here hx rfl (hb hby d1_6) ?_
    show Steps p.tables e below (s₁.setTop (mkF m 7 #[.val (.int (9 : Int32)), .val (.long v0), .second, .val (.long v1), .second, .val (.long v2), .second, .val (.long v3), .second, .unset, .unset, .unset] [(.int (1 : Int32)), (.int (4 : Int32)), (.int (1 : Int32))])) _
    refine XS.iand X0.here hx rfl (hb hby d1_7) rfl ?_
    show Steps p.tables e below (s₁.setTop (mkF m 8 #[.val (.int (9 : Int32)), .val (.long v0), .second, .val (.long v1), .second, .val (.long v2), .second, .val (.long v3), .second, .unset, .unset, .unset] [(.int (0 : Int32)), (.int (1 : Int32))])) _
    refine XS.iadd X0.here hx rfl (hb hby d1_8) rfl ?_
    show Steps p.tables e below (s₁.setTop (mkF m 9 #[.val (.int (9 : Int32)), .val (.long v0), .second, .val (.long v1), .second, .val (.long v2), .second, .val (.long v3), .second, .unset, .unset, .unset] [(.int (1 : Int32))])) _
    refine XS.iloadN X0.here hx rfl (hb hby d1_9) rfl ?_
    show Steps p.tables e below (s₁.setTop (mkF m 10 #[.val (.int (9 : Int32)), .val (.long v0), .second, .val (.long v1), .second, .val (.long v2), .second, .val (.long v3), .second, .unset, .unset, .unset] [(.int (9 : Int32)), (.int (1 : Int32))])) _
    refine XS.iconst X0.here hx rfl (hb hby d1_10) ?_
    show Steps p.tables e below (s₁.setTop (mkF m 11 #[.val (.int (9 : Int32)), .val (.long v0), .second, .val (.long v1), .second, .val (.long v2), .second, .val (.long v3), .second, .unset, .unset, .unset] [(.int (2 : Int32)), (.int (9 : Int32)), (.int (1 : Int32))])) _
    refine XS.iushr X0.here hx rfl (hb hby d1_11) rfl ?_
    show Steps p.tables e below (s₁.setTop (mkF m 12 #[.val (.int (9 : Int32)), .val (.long v0), .second, .val (.long v1), .second, .val (.long v2), .second, .val (.long v3), .second, .unset, .unset, .unset] [(.int (2 : Int32)), (.int (1 : Int32))])) _
    refine XS.iconst X0.here hx rfl (hb hby d1_12) ?_
    show Steps p.tables e below (s₁.setTop (mkF m 13 #[.val (.int (9 : Int32)), .val (.long v0), .second, .val (.long v1), .second, .val (.long v2), .second, .val (.long v3), .second, .unset, .unset, .unset] [(.int (1 : Int32)), (.int (2 : Int32)), (.int (1 : Int32))])) _
    refine XS.iand X0.here hx rfl (hb hby d1_13) rfl ?_
    show Steps p.tables e below (s₁.setTop (mkF m 14 #[.val (.int (9 : Int32)), .val (.long v0), .second, .val (.long v1), .second, .val (.long v2), .second, .val (.long v3), .second, .unset, .unset, .unset] [(.int (0 : Int32)), (.int (1 : Int32))])) _
    refine XS.iadd X0.here hx rfl (hb hby d1_14) rfl ?_
    show Steps p.tables e below (s₁.setTop (mkF m 15 #[.val (.int (9 : Int32)), .val (.long v0), .second, .val (.long v1), .second, .val (.long v2), .second, .val (.long v3), .second, .unset, .unset, .unset] [(.int (1 : Int32))])) _
    refine XS.iloadN X0.here hx rfl (hb hby d1_15) rfl ?_
    show Steps p.tables e below (s₁.setTop (mkF m 16 #[.val (.int (9 : Int32)), .val (.long v0), .second, .val (.long v1), .second, .val (.long v2), .second, .val (.long v3), .second, .unset, .unset, .unset] [(.int (9 : Int32)), (.int (1 : Int32))])) _
    refine XS.iconst X0.here hx rfl (hb hby d1_16) ?_
    show Steps p.tables e below (s₁.setTop (mkF m 17 #[.val (.int (9 : Int32)), .val (.long v0), .second, .val (.long v1), .second, .val (.long v2), .second, .val (.long v3), .second, .unset, .unset, .unset] [(.int (3 : Int32)), (.int (9 : Int32)), (.int (1 : Int32))])) _
    refine XS.iushr X0.here hx rfl (hb hby d1_17) rfl ?_
    show Steps p.tables e below (s₁.setTop (mkF m 18 #[.val (.int (9 : Int32)), .val (.long v0), .second, .val (.long v1), .second, .val (.long v2), .second, .val (.long v3), .second, .unset, .unset, .unset] [(.int (1 : Int32)), (.int (1 : Int32))])) _
    refine XS.iconst X0.here hx rfl (hb hby d1_18) ?_
    show Steps p.tables e below (s₁.setTop (mkF m 19 #[.val (.int (9 : Int32)), .val (.long v0), .second, .val (.long v1), .second, .val (.long v2), .second, .val (.long v3), .second, .unset, .unset, .unset] [(.int (1 : Int32)), (.int (1 : Int32)), (.int (1 : Int32))])) _
    refine XS.iand X0.here hx rfl (hb hby d1_19) rfl ?_
    show Steps p.tables e below (s₁.setTop (mkF m 20 #[.val (.int (9 : Int32)), .val (.long v0), .second, .val (.long v1), .second, .val (.long v2), .second, .val (.long v3), .second, .unset, .unset, .unset] [(.int (1 : Int32)), (.int (1 : Int32))])) _
    refine XS.iadd X0.here hx rfl (hb hby d1_20) rfl ?_
    show Steps p.tables e below (s₁.setTop (mkF m 21 #[.val (.int (9 : Int32)), .val (.long v0), .second, .val (.long v1), .second, .val (.long v2), .second, .val (.long v3), .second, .unset, .unset, .unset] [(.int (2 : Int32))])) _
    refine XS.istore X0.here hx rfl (hb hby d1_21) rfl (l' := #[.val (.int (9 : Int32)), .val (.long v0), .second, .val (.long v1), .second, .val (.long v2), .second, .val (.long v3), .second, .val (.int (2 : Int32)), .unset, .unset]) rfl ?_
    show Steps p.tables e below (s₁.setTop (mkF m 23 #[.val (.int (9 : Int32)), .val (.long v0), .second, .val (.long v1), .second, .val (.long v2), .second, .val (.long v3), .second, .val (.int (2 : Int32)), .unset, .unset] [])) _
    refine XS.iload X0.here hx rfl (hb hby d1_23) rfl ?_
    show Steps p.tables e below (s₁.setTop (mkF m 25 #[.val (.int (9 : Int32)), .val (.long v0), .second, .val (.long v1), .second, .val (.long v2), .second, .val (.long v3), .second, .val (.int (2 : Int32)), .unset, .unset] [(.int (2 : Int32))])) _
    exact kt)
  obtain ⟨T2, h2, k2, X2, e2, E2, A2, st2⟩ := newP X0 hx hZ (hw _ (List.mem_of_getElem? (i := 7) rfl)) e0 (g := (mkF m 25 #[.val (.int (9 : Int32)), .val (.long v0), .second, .val (.long v1), .second, .val (.long v2), .second, .val (.long v3), .second, .val (.int (2 : Int32)), .unset, .unset] [(.int (2 : Int32))])) rfl (hb hby d1_25) rfl (by decide) (cap := 2) (by decide) (by decide) (by decide) (by decide)
  obtain ⟨b2, g2⟩ : ∃ z, z = h0.size := ⟨_, rfl⟩
  rw [← g2] at A2 st2
  have gz3 : n0 ≤ b2 := Nat.le_trans Z0 (Nat.le_of_eq g2.symm)
  have f5 := ((Keep.refl h0 [])).ext E2
  have Zf6 : n0 ≤ h2.size := Nat.le_trans Z0 E2.1
  have sz2 : h0.size ≤ b2 := Nat.le_of_eq g2.symm
  have V2 : Arv Z h2 b2 k2 .long (2 : Int32) [(.long (0 : Int64)), (.long (0 : Int64))] (.long (0 : Int64)) := (Arv.new A2 (by decide)).pad (pad_rep [] (.long (0 : Int64)) 2)
  have pre7 : ∀ t, Steps p.tables e below (T2.setTop (mkF m 27 #[.val (.int (9 : Int32)), .val (.long v0), .second, .val (.long v1), .second, .val (.long v2), .second, .val (.long v3), .second, .val (.int (2 : Int32)), .unset, .unset] [(.ref b2)])) t → Steps p.tables e below (s₁.setTop (entryFrame m #[(.int (9 : Int32)), (.long v0), (.long v1), (.long v2), (.long v3)] 12)) t := fun t kt => pre1 t (st2 _ kt)
  have pre8 : ∀ t, Steps p.tables e below (T2.setTop (mkF m 43 #[.val (.int (9 : Int32)), .val (.long v0), .second, .val (.long v1), .second, .val (.long v2), .second, .val (.long v3), .second, .val (.int (2 : Int32)), .val (.ref b2), .val (.int (0 : Int32))] [(.long v0), (.int (0 : Int32)), (.ref b2)])) t → Steps p.tables e below (s₁.setTop (entryFrame m #[(.int (9 : Int32)), (.long v0), (.long v1), (.long v2), (.long v3)] 12)) t := fun t kt => pre7 t (by
    refine XS.astore X2.here hx rfl (hb hby d1_27) rfl rfl (l' := #[.val (.int (9 : Int32)), .val (.long v0), .second, .val (.long v1), .second, .val (.long v2), .second, .val (.long v3), .second, .val (.int (2 : Int32)), .val (.ref b2), .unset]) rfl ?_
    show Steps p.tables e below (T2.setTop (mkF m 29 #[.val (.int (9 : Int32)), .val (.long v0), .second, .val (.long v1), .second, .val (.long v2), .second, .val (.long v3), .second, .val (.int (2 : Int32)), .val (.ref b2), .unset] [])) _
    refine XS.iconst X2.here hx rfl (hb hby d1_29) ?_
    show Steps p.tables e below (T2.setTop (mkF m 30 #[.val (.int (9 : Int32)), .val (.long v0), .second, .val (.long v1), .second, .val (.long v2), .second, .val (.long v3), .second, .val (.int (2 : Int32)), .val (.ref b2), .unset] [(.int (0 : Int32))])) _
    refine XS.istore X2.here hx rfl (hb hby d1_30) rfl (l' := #[.val (.int (9 : Int32)), .val (.long v0), .second, .val (.long v1), .second, .val (.long v2), .second, .val (.long v3), .second, .val (.int (2 : Int32)), .val (.ref b2), .val (.int (0 : Int32))]) rfl ?_
    show Steps p.tables e below (T2.setTop (mkF m 32 #[.val (.int (9 : Int32)), .val (.long v0), .second, .val (.long v1), .second, .val (.long v2), .second, .val (.long v3), .second, .val (.int (2 : Int32)), .val (.ref b2), .val (.int (0 : Int32))] [])) _
    refine XS.iloadN X2.here hx rfl (hb hby d1_32) rfl ?_
    show Steps p.tables e below (T2.setTop (mkF m 33 #[.val (.int (9 : Int32)), .val (.long v0), .second, .val (.long v1), .second, .val (.long v2), .second, .val (.long v3), .second, .val (.int (2 : Int32)), .val (.ref b2), .val (.int (0 : Int32))] [(.int (9 : Int32))])) _
    refine XS.iconst X2.here hx rfl (hb hby d1_33) ?_
    show Steps p.tables e below (T2.setTop (mkF m 34 #[.val (.int (9 : Int32)), .val (.long v0), .second, .val (.long v1), .second, .val (.long v2), .second, .val (.long v3), .second, .val (.int (2 : Int32)), .val (.ref b2), .val (.int (0 : Int32))] [(.int (1 : Int32)), (.int (9 : Int32))])) _
    refine XS.iand X2.here hx rfl (hb hby d1_34) rfl ?_
    show Steps p.tables e below (T2.setTop (mkF m 35 #[.val (.int (9 : Int32)), .val (.long v0), .second, .val (.long v1), .second, .val (.long v2), .second, .val (.long v3), .second, .val (.int (2 : Int32)), .val (.ref b2), .val (.int (0 : Int32))] [(.int (1 : Int32))])) _
    refine XS.ifNo X2.here hx rfl (hb hby d1_35) rfl ((if0 _ _).trans (feq (by decide : ¬ ((1 : Int32) = (0 : Int32)))).1) ?_
    show Steps p.tables e below (T2.setTop (mkF m 38 #[.val (.int (9 : Int32)), .val (.long v0), .second, .val (.long v1), .second, .val (.long v2), .second, .val (.long v3), .second, .val (.int (2 : Int32)), .val (.ref b2), .val (.int (0 : Int32))] [])) _
    refine XS.aload X2.here hx rfl (hb hby d1_38) rfl rfl ?_
    show Steps p.tables e below (T2.setTop (mkF m 40 #[.val (.int (9 : Int32)), .val (.long v0), .second, .val (.long v1), .second, .val (.long v2), .second, .val (.long v3), .second, .val (.int (2 : Int32)), .val (.ref b2), .val (.int (0 : Int32))] [(.ref b2)])) _
    refine XS.iload X2.here hx rfl (hb hby d1_40) rfl ?_
    show Steps p.tables e below (T2.setTop (mkF m 42 #[.val (.int (9 : Int32)), .val (.long v0), .second, .val (.long v1), .second, .val (.long v2), .second, .val (.long v3), .second, .val (.int (2 : Int32)), .val (.ref b2), .val (.int (0 : Int32))] [(.int (0 : Int32)), (.ref b2)])) _
    refine XS.lloadN X2.here hx rfl (hb hby d1_42) rfl ?_
    show Steps p.tables e below (T2.setTop (mkF m 43 #[.val (.int (9 : Int32)), .val (.long v0), .second, .val (.long v1), .second, .val (.long v2), .second, .val (.long v3), .second, .val (.int (2 : Int32)), .val (.ref b2), .val (.int (0 : Int32))] [(.long v0), (.int (0 : Int32)), (.ref b2)])) _
    exact kt)
  obtain ⟨cl9, Ar9, q9, S9, M9, H9, G9⟩ := V2
  have hin9 : ¬ ((0 : Int32) < 0 ∨ cl9.slots.size ≤ ((0 : Int32)).toNatClampNeg) := inb_of S9 ⟨by decide, by decide⟩
  obtain ⟨T9, h9, X9, e9, W9, st9⟩ := stJ X2 hx hZ e2 Ar9 (j := (0 : Int32)) hin9 (g := (mkF m 43 #[.val (.int (9 : Int32)), .val (.long v0), .second, .val (.long v1), .second, .val (.long v2), .second, .val (.long v3), .second, .val (.int (2 : Int32)), .val (.ref b2), .val (.int (0 : Int32))] [(.long v0), (.int (0 : Int32)), (.ref b2)])) rfl rfl (hb hby d1_43)
  have f10 := (f5).wr W9 ((Or.inr (Nat.le_trans ((Keep.refl h0 [])).1 (Nat.le_of_eq g2.symm))))
  have Va9 := Arv.set Ar9 q9 S9 M9 H9 G9 rfl W9 0 rfl (Nat.le_of_ble_eq_true rfl)
  have Nf9 := Fr.snoc X9 N0 gz3
  have Zf9 : n0 ≤ h9.size := Nat.le_trans Zf6 (Keep.of_wr W9).1
  have pre11 : ∀ t, Steps p.tables e below (T9.setTop (mkF m 44 #[.val (.int (9 : Int32)), .val (.long v0), .second, .val (.long v1), .second, .val (.long v2), .second, .val (.long v3), .second, .val (.int (2 : Int32)), .val (.ref b2), .val (.int (0 : Int32))] [])) t → Steps p.tables e below (s₁.setTop (entryFrame m #[(.int (9 : Int32)), (.long v0), (.long v1), (.long v2), (.long v3)] 12)) t := fun t kt => pre8 t (st9 _ kt)
  have pre12 : ∀ t, Steps p.tables e below (T9.setTop (mkF m 91 #[.val (.int (9 : Int32)), .val (.long v0), .second, .val (.long v1), .second, .val (.long v2), .second, .val (.long v3), .second, .val (.int (2 : Int32)), .val (.ref b2), .val (.int (1 : Int32))] [(.long v3), (.int (1 : Int32)), (.ref b2)])) t → Steps p.tables e below (s₁.setTop (entryFrame m #[(.int (9 : Int32)), (.long v0), (.long v1), (.long v2), (.long v3)] 12)) t := fun t kt => pre11 t (by
    refine XS.iinc X9.here hx rfl (hb hby d1_44) rfl (l' := #[.val (.int (9 : Int32)), .val (.long v0), .second, .val (.long v1), .second, .val (.long v2), .second, .val (.long v3), .second, .val (.int (2 : Int32)), .val (.ref b2), .val (.int (1 : Int32))]) rfl ?_
    show Steps p.tables e below (T9.setTop (mkF m 47 #[.val (.int (9 : Int32)), .val (.long v0), .second, .val (.long v1), .second, .val (.long v2), .second, .val (.long v3), .second, .val (.int (2 : Int32)), .val (.ref b2), .val (.int (1 : Int32))] [])) _
    refine XS.iloadN X9.here hx rfl (hb hby d1_47) rfl ?_
    show Steps p.tables e below (T9.setTop (mkF m 48 #[.val (.int (9 : Int32)), .val (.long v0), .second, .val (.long v1), .second, .val (.long v2), .second, .val (.long v3), .second, .val (.int (2 : Int32)), .val (.ref b2), .val (.int (1 : Int32))] [(.int (9 : Int32))])) _
    refine XS.iconst X9.here hx rfl (hb hby d1_48) ?_
    show Steps p.tables e below (T9.setTop (mkF m 49 #[.val (.int (9 : Int32)), .val (.long v0), .second, .val (.long v1), .second, .val (.long v2), .second, .val (.long v3), .second, .val (.int (2 : Int32)), .val (.ref b2), .val (.int (1 : Int32))] [(.int (2 : Int32)), (.int (9 : Int32))])) _
    refine XS.iand X9.here hx rfl (hb hby d1_49) rfl ?_
    show Steps p.tables e below (T9.setTop (mkF m 50 #[.val (.int (9 : Int32)), .val (.long v0), .second, .val (.long v1), .second, .val (.long v2), .second, .val (.long v3), .second, .val (.int (2 : Int32)), .val (.ref b2), .val (.int (1 : Int32))] [(.int (0 : Int32))])) _
    refine XS.ifYes X9.here hx rfl (pc0 := 50) (pc' := 62) rfl (hb hby d1_50) rfl ((if0 _ _).trans (teq (by decide : (0 : Int32) = (0 : Int32))).1) (by decide) (by decide) ?_
    show Steps p.tables e below (T9.setTop (mkF m 62 #[.val (.int (9 : Int32)), .val (.long v0), .second, .val (.long v1), .second, .val (.long v2), .second, .val (.long v3), .second, .val (.int (2 : Int32)), .val (.ref b2), .val (.int (1 : Int32))] [])) _
    refine XS.iloadN X9.here hx rfl (hb hby d1_62) rfl ?_
    show Steps p.tables e below (T9.setTop (mkF m 63 #[.val (.int (9 : Int32)), .val (.long v0), .second, .val (.long v1), .second, .val (.long v2), .second, .val (.long v3), .second, .val (.int (2 : Int32)), .val (.ref b2), .val (.int (1 : Int32))] [(.int (9 : Int32))])) _
    refine XS.iconst X9.here hx rfl (hb hby d1_63) ?_
    show Steps p.tables e below (T9.setTop (mkF m 64 #[.val (.int (9 : Int32)), .val (.long v0), .second, .val (.long v1), .second, .val (.long v2), .second, .val (.long v3), .second, .val (.int (2 : Int32)), .val (.ref b2), .val (.int (1 : Int32))] [(.int (4 : Int32)), (.int (9 : Int32))])) _
    refine XS.iand X9.here hx rfl (hb hby d1_64) rfl ?_
    show Steps p.tables e below (T9.setTop (mkF m 65 #[.val (.int (9 : Int32)), .val (.long v0), .second, .val (.long v1), .second, .val (.long v2), .second, .val (.long v3), .second, .val (.int (2 : Int32)), .val (.ref b2), .val (.int (1 : Int32))] [(.int (0 : Int32))])) _
    refine XS.ifYes X9.here hx rfl (pc0 := 65) (pc' := 78) rfl (hb hby d1_65) rfl ((if0 _ _).trans (teq (by decide : (0 : Int32) = (0 : Int32))).1) (by decide) (by decide) ?_
    show Steps p.tables e below (T9.setTop (mkF m 78 #[.val (.int (9 : Int32)), .val (.long v0), .second, .val (.long v1), .second, .val (.long v2), .second, .val (.long v3), .second, .val (.int (2 : Int32)), .val (.ref b2), .val (.int (1 : Int32))] [])) _
    refine XS.iloadN X9.here hx rfl (hb hby d1_78) rfl ?_
    show Steps p.tables e below (T9.setTop (mkF m 79 #[.val (.int (9 : Int32)), .val (.long v0), .second, .val (.long v1), .second, .val (.long v2), .second, .val (.long v3), .second, .val (.int (2 : Int32)), .val (.ref b2), .val (.int (1 : Int32))] [(.int (9 : Int32))])) _
    refine XS.bipush X9.here hx rfl (hb hby d1_79) ?_
    show Steps p.tables e below (T9.setTop (mkF m 81 #[.val (.int (9 : Int32)), .val (.long v0), .second, .val (.long v1), .second, .val (.long v2), .second, .val (.long v3), .second, .val (.int (2 : Int32)), .val (.ref b2), .val (.int (1 : Int32))] [(.int (8 : Int32)), (.int (9 : Int32))])) _
    refine XS.iand X9.here hx rfl (hb hby d1_81) rfl ?_
    show Steps p.tables e below (T9.setTop (mkF m 82 #[.val (.int (9 : Int32)), .val (.long v0), .second, .val (.long v1), .second, .val (.long v2), .second, .val (.long v3), .second, .val (.int (2 : Int32)), .val (.ref b2), .val (.int (1 : Int32))] [(.int (8 : Int32))])) _
    refine XS.ifNo X9.here hx rfl (hb hby d1_82) rfl ((if0 _ _).trans (feq (by decide : ¬ ((8 : Int32) = (0 : Int32)))).1) ?_
    show Steps p.tables e below (T9.setTop (mkF m 85 #[.val (.int (9 : Int32)), .val (.long v0), .second, .val (.long v1), .second, .val (.long v2), .second, .val (.long v3), .second, .val (.int (2 : Int32)), .val (.ref b2), .val (.int (1 : Int32))] [])) _
    refine XS.aload X9.here hx rfl (hb hby d1_85) rfl rfl ?_
    show Steps p.tables e below (T9.setTop (mkF m 87 #[.val (.int (9 : Int32)), .val (.long v0), .second, .val (.long v1), .second, .val (.long v2), .second, .val (.long v3), .second, .val (.int (2 : Int32)), .val (.ref b2), .val (.int (1 : Int32))] [(.ref b2)])) _
    refine XS.iload X9.here hx rfl (hb hby d1_87) rfl ?_
    show Steps p.tables e below (T9.setTop (mkF m 89 #[.val (.int (9 : Int32)), .val (.long v0), .second, .val (.long v1), .second, .val (.long v2), .second, .val (.long v3), .second, .val (.int (2 : Int32)), .val (.ref b2), .val (.int (1 : Int32))] [(.int (1 : Int32)), (.ref b2)])) _
    refine XS.lload X9.here hx rfl (hb hby d1_89) rfl ?_
    show Steps p.tables e below (T9.setTop (mkF m 91 #[.val (.int (9 : Int32)), .val (.long v0), .second, .val (.long v1), .second, .val (.long v2), .second, .val (.long v3), .second, .val (.int (2 : Int32)), .val (.ref b2), .val (.int (1 : Int32))] [(.long v3), (.int (1 : Int32)), (.ref b2)])) _
    exact kt)
  obtain ⟨cl13, Ar13, q13, S13, M13, H13, G13⟩ := Va9
  have hin13 : ¬ ((1 : Int32) < 0 ∨ cl13.slots.size ≤ ((1 : Int32)).toNatClampNeg) := inb_of S13 ⟨by decide, by decide⟩
  obtain ⟨T13, h13, X13, e13, W13, st13⟩ := stJ X9 hx hZ e9 Ar13 (j := (1 : Int32)) hin13 (g := (mkF m 91 #[.val (.int (9 : Int32)), .val (.long v0), .second, .val (.long v1), .second, .val (.long v2), .second, .val (.long v3), .second, .val (.int (2 : Int32)), .val (.ref b2), .val (.int (1 : Int32))] [(.long v3), (.int (1 : Int32)), (.ref b2)])) rfl rfl (hb hby d1_91)
  have f14 := (f10).wr W13 ((Or.inr (Nat.le_trans ((Keep.refl h0 [])).1 (Nat.le_of_eq g2.symm))))
  have Va13 := Arv.set Ar13 q13 S13 M13 H13 G13 rfl W13 1 rfl (Nat.le_of_ble_eq_true rfl)
  have Nf13 := Fr.snoc X13 Nf9 gz3
  have Zf13 : n0 ≤ h13.size := Nat.le_trans Zf9 (Keep.of_wr W13).1
  have pre15 : ∀ t, Steps p.tables e below (T13.setTop (mkF m 92 #[.val (.int (9 : Int32)), .val (.long v0), .second, .val (.long v1), .second, .val (.long v2), .second, .val (.long v3), .second, .val (.int (2 : Int32)), .val (.ref b2), .val (.int (1 : Int32))] [])) t → Steps p.tables e below (s₁.setTop (entryFrame m #[(.int (9 : Int32)), (.long v0), (.long v1), (.long v2), (.long v3)] 12)) t := fun t kt => pre12 t (st13 _ kt)
  have pre16 : ∀ t, Steps p.tables e below (T13.setTop (mkF m 97 #[.val (.int (9 : Int32)), .val (.long v0), .second, .val (.long v1), .second, .val (.long v2), .second, .val (.long v3), .second, .val (.int (2 : Int32)), .val (.ref b2), .val (.int (2 : Int32))] [(.ref b2)])) t → Steps p.tables e below (s₁.setTop (entryFrame m #[(.int (9 : Int32)), (.long v0), (.long v1), (.long v2), (.long v3)] 12)) t := fun t kt => pre15 t (by
    refine XS.iinc X13.here hx rfl (hb hby d1_92) rfl (l' := #[.val (.int (9 : Int32)), .val (.long v0), .second, .val (.long v1), .second, .val (.long v2), .second, .val (.long v3), .second, .val (.int (2 : Int32)), .val (.ref b2), .val (.int (2 : Int32))]) rfl ?_
    show Steps p.tables e below (T13.setTop (mkF m 95 #[.val (.int (9 : Int32)), .val (.long v0), .second, .val (.long v1), .second, .val (.long v2), .second, .val (.long v3), .second, .val (.int (2 : Int32)), .val (.ref b2), .val (.int (2 : Int32))] [])) _
    refine XS.aload X13.here hx rfl (hb hby d1_95) rfl rfl ?_
    show Steps p.tables e below (T13.setTop (mkF m 97 #[.val (.int (9 : Int32)), .val (.long v0), .second, .val (.long v1), .second, .val (.long v2), .second, .val (.long v3), .second, .val (.int (2 : Int32)), .val (.ref b2), .val (.int (2 : Int32))] [(.ref b2)])) _
    exact kt)
  obtain ⟨fs, hr, hrun, hended, hW, hsame⟩ := X13.leave (v := (some (.ref b2))) (fun h => by rw [Bd.returns] at h; cases h)
  refine ⟨_, _, pre16 _ ?_, hrun, hended, _, _, rfl, ?_, ⟨_, rfl⟩, hW, hsame.mono (by decide) (by decide)⟩
  · exact retOut X13 hx Bd.returns rfl (Or.inr (Or.inr (Or.inr (Or.inr ⟨rfl, rfl, rfl⟩)))) (hb hby d1_97) hr
  · show QP Z [v0, v3] h0 n0 _ T13.heap _
    rw [e13]
    exact ⟨_, rfl, Nf13, f14, gz3, (sz2), own_lg (xs := [v0, v3]) Va13 rfl (by simp)⟩
theorem ef_rmP_10 (m : MethodId) (x0 : Int32) (x1 : Int64) (x2 : Int64) (x3 : Int64) (x4 : Int64) : entryFrame m #[(.int x0), (.long x1), (.long x2), (.long x3), (.long x4)] 12 = mkF m 0 #[.val (.int x0), .val (.long x1), .second, .val (.long x2), .second, .val (.long x3), .second, .val (.long x4), .second, .unset, .unset, .unset] [] := by first | (simp [entryFrame, mkF, argsToLocals, Value.category]; done) | rfl
set_option maxRecDepth 65536 in
set_option maxHeartbeats 40000000 in
theorem rmP_10 (l : Launch) (Z : State) (a0 : Array Value) (hw : ∀ d ∈ tables_1, d.before a0 Z = true) (ws : List Jvm.Cond) (v0 v1 v2 v3 : Int64) (h0 : Heap) (n0 : Nat) (Z0 : n0 ≤ h0.size)  :
    MetFree l (⟨"com/example/nest3/nest3/SubsetWithinPinLaw", "pick", "(IJJJJ)[J"⟩ : MethodName) (head1 (Jvm.Cond.code (⟨"com/example/nest3/nest3/SubsetWithinPinLaw", "pick", "(IJJJJ)[J"⟩ : MethodName) method_3_code 12 (some (.array .long)) :: ws) ({ frames := 0, cells := 1, slots := 4, locals := 0 } : Room)) (fun a U => a = #[(.int (10 : Int32)), (.long v0), (.long v1), (.long v2), (.long v3)] ∧ Z.Warmed39 U.vm ∧ U.heap = h0) (fun _ _ _ _ _ => True) (fun _ U o U' => ∃ v L, o = .returned v ∧ QP Z [v1, v3] h0 n0 v U'.heap L ∧ FrameEnd U o U' L ({ frames := 0, cells := 1, slots := 4, locals := 0 } : Room).cells ({ frames := 0, cells := 1, slots := 4, locals := 0 } : Room).slots) := by
  refine MetFree.of_bodySF (plainFor_of_name pn_com_example_nest3_nest3_SubsetWithinPinLaw) hisR ?_
  intro p e s m args below meth c s₁ Bd hml0 hP hK
  obtain ⟨rfl, hZ, hh⟩ := hP
  have hx := Bd.exec
  have hby := Bd.bytes
  have hml : c.maxLocals = 12 := hml0
  have hown : s.vm.findClass "com/example/nest3/nest3/SubsetWithinPinLaw" = some m.cls := findClass_of_methodNamed Bd.named
  have hnm := (name_of_methodNamed Bd.named Bd.method).1
  have X0 : Stand p l e ({ frames := 0, cells := 1, slots := 4, locals := 0 } : Room) s m #[(.int (10 : Int32)), (.long v0), (.long v1), (.long v2), (.long v3)] below meth c s₁ [] 0 0 := Stand.of_body Bd
  have e0 : s₁.heap = h0 := by rw [← hh, Bd.state]; rfl
  have N0 := Fr.nil n0
  have pre0 : ∀ t, Steps p.tables e below (s₁.setTop (mkF m 0 #[.val (.int (10 : Int32)), .val (.long v0), .second, .val (.long v1), .second, .val (.long v2), .second, .val (.long v3), .second, .unset, .unset, .unset] [])) t → Steps p.tables e below (s₁.setTop (entryFrame m #[(.int (10 : Int32)), (.long v0), (.long v1), (.long v2), (.long v3)] 12)) t := fun t kt => castTop (ef_rmP_10 m (10 : Int32) v0 v1 v2 v3) kt
  have pre1 : ∀ t, Steps p.tables e below (s₁.setTop (mkF m 25 #[.val (.int (10 : Int32)), .val (.long v0), .second, .val (.long v1), .second, .val (.long v2), .second, .val (.long v3), .second, .val (.int (2 : Int32)), .unset, .unset] [(.int (2 : Int32))])) t → Steps p.tables e below (s₁.setTop (entryFrame m #[(.int (10 : Int32)), (.long v0), (.long v1), (.long v2), (.long v3)] 12)) t := fun t kt => pre0 t (by
    refine XS.iloadN X0.here hx rfl (hb hby d1_0) rfl ?_
    show Steps p.tables e below (s₁.setTop (mkF m 1 #[.val (.int (10 : Int32)), .val (.long v0), .second, .val (.long v1), .second, .val (.long v2), .second, .val (.long v3), .second, .unset, .unset, .unset] [(.int (10 : Int32))])) _
    refine XS.iconst X0.here hx rfl (hb hby d1_1) ?_
    show Steps p.tables e below (s₁.setTop (mkF m 2 #[.val (.int (10 : Int32)), .val (.long v0), .second, .val (.long v1), .second, .val (.long v2), .second, .val (.long v3), .second, .unset, .unset, .unset] [(.int (1 : Int32)), (.int (10 : Int32))])) _
    refine XS.iand X0.here hx rfl (hb hby d1_2) rfl ?_
    show Steps p.tables e below (s₁.setTop (mkF m 3 #[.val (.int (10 : Int32)), .val (.long v0), .second, .val (.long v1), .second, .val (.long v2), .second, .val (.long v3), .second, .unset, .unset, .unset] [(.int (0 : Int32))])) _
    refine XS.iloadN X0.here hx rfl (hb hby d1_3) rfl ?_
    show Steps p.tables e below (s₁.setTop (mkF m 4 #[.val (.int (10 : Int32)), .val (.long v0), .second, .val (.long v1), .second, .val (.long v2), .second, .val (.long v3), .second, .unset, .unset, .unset] [(.int (10 : Int32)), (.int (0 : Int32))])) _
    refine XS.iconst X0.here hx rfl (hb hby d1_4) ?_
    show Steps p.tables e below (s₁.setTop (mkF m 5 #[.val (.int (10 : Int32)), .val (.long v0), .second, .val (.long v1), .second, .val (.long v2), .second, .val (.long v3), .second, .unset, .unset, .unset] [(.int (1 : Int32)), (.int (10 : Int32)), (.int (0 : Int32))])) _
    refine XS.iushr X0.here hx rfl (hb hby d1_5) rfl ?_
    show Steps p.tables e below (s₁.setTop (mkF m 6 #[.val (.int (10 : Int32)), .val (.long v0), .second, .val (.long v1), .second, .val (.long v2), .second, .val (.long v3), .second, .unset, .unset, .unset] [(.int (5 : Int32)), (.int (0 : Int32))])) _
    refine XS.iconst X0.here hx rfl (hb hby d1_6) ?_
    show Steps p.tables e below (s₁.setTop (mkF m 7 #[.val (.int (10 : Int32)), .val (.long v0), .second, .val (.long v1), .second, .val (.long v2), .second, .val (.long v3), .second, .unset, .unset, .unset] [(.int (1 : Int32)), (.int (5 : Int32)), (.int (0 : Int32))])) _
    refine XS.iand X0.here hx rfl (hb hby d1_7) rfl ?_
    show Steps p.tables e below (s₁.setTop (mkF m 8 #[.val (.int (10 : Int32)), .val (.long v0), .second, .val (.long v1), .second, .val (.long v2), .second, .val (.long v3), .second, .unset, .unset, .unset] [(.int (1 : Int32)), (.int (0 : Int32))])) _
    refine XS.iadd X0.here hx rfl (hb hby d1_8) rfl ?_
    show Steps p.tables e below (s₁.setTop (mkF m 9 #[.val (.int (10 : Int32)), .val (.long v0), .second, .val (.long v1), .second, .val (.long v2), .second, .val (.long v3), .second, .unset, .unset, .unset] [(.int (1 : Int32))])) _
    refine XS.iloadN X0.here hx rfl (hb hby d1_9) rfl ?_
    show Steps p.tables e below (s₁.setTop (mkF m 10 #[.val (.int (10 : Int32)), .val (.long v0), .second, .val (.long v1), .second, .val (.long v2), .second, .val (.long v3), .second, .unset, .unset, .unset] [(.int (10 : Int32)), (.int (1 : Int32))])) _
    refine XS.iconst X0.here hx rfl (hb hby d1_10) ?_
    show Steps p.tables e below (s₁.setTop (mkF m 11 #[.val (.int (10 : Int32)), .val (.long v0), .second, .val (.long v1), .second, .val (.long v2), .second, .val (.long v3), .second, .unset, .unset, .unset] [(.int (2 : Int32)), (.int (10 : Int32)), (.int (1 : Int32))])) _
    refine XS.iushr X0.here hx rfl (hb hby d1_11) rfl ?_
    show Steps p.tables e below (s₁.setTop (mkF m 12 #[.val (.int (10 : Int32)), .val (.long v0), .second, .val (.long v1), .second, .val (.long v2), .second, .val (.long v3), .second, .unset, .unset, .unset] [(.int (2 : Int32)), (.int (1 : Int32))])) _
    refine XS.iconst X0.here hx rfl (hb hby d1_12) ?_
    show Steps p.tables e below (s₁.setTop (mkF m 13 #[.val (.int (10 : Int32)), .val (.long v0), .second, .val (.long v1), .second, .val (.long v2), .second, .val (.long v3), .second, .unset, .unset, .unset] [(.int (1 : Int32)), (.int (2 : Int32)), (.int (1 : Int32))])) _
    refine XS.iand X0.here hx rfl (hb hby d1_13) rfl ?_
    show Steps p.tables e below (s₁.setTop (mkF m 14 #[.val (.int (10 : Int32)), .val (.long v0), .second, .val (.long v1), .second, .val (.long v2), .second, .val (.long v3), .second, .unset, .unset, .unset] [(.int (0 : Int32)), (.int (1 : Int32))])) _
    refine XS.iadd X0.here hx rfl (hb hby d1_14) rfl ?_
    show Steps p.tables e below (s₁.setTop (mkF m 15 #[.val (.int (10 : Int32)), .val (.long v0), .second, .val (.long v1), .second, .val (.long v2), .second, .val (.long v3), .second, .unset, .unset, .unset] [(.int (1 : Int32))])) _
    refine XS.iloadN X0.here hx rfl (hb hby d1_15) rfl ?_
    show Steps p.tables e below (s₁.setTop (mkF m 16 #[.val (.int (10 : Int32)), .val (.long v0), .second, .val (.long v1), .second, .val (.long v2), .second, .val (.long v3), .second, .unset, .unset, .unset] [(.int (10 : Int32)), (.int (1 : Int32))])) _
    refine XS.iconst X0.here hx rfl (hb hby d1_16) ?_
    show Steps p.tables e below (s₁.setTop (mkF m 17 #[.val (.int (10 : Int32)), .val (.long v0), .second, .val (.long v1), .second, .val (.long v2), .second, .val (.long v3), .second, .unset, .unset, .unset] [(.int (3 : Int32)), (.int (10 : Int32)), (.int (1 : Int32))])) _
    refine XS.iushr X0.here hx rfl (hb hby d1_17) rfl ?_
    show Steps p.tables e below (s₁.setTop (mkF m 18 #[.val (.int (10 : Int32)), .val (.long v0), .second, .val (.long v1), .second, .val (.long v2), .second, .val (.long v3), .second, .unset, .unset, .unset] [(.int (1 : Int32)), (.int (1 : Int32))])) _
    refine XS.iconst X0.here hx rfl (hb hby d1_18) ?_
    show Steps p.tables e below (s₁.setTop (mkF m 19 #[.val (.int (10 : Int32)), .val (.long v0), .second, .val (.long v1), .second, .val (.long v2), .second, .val (.long v3), .second, .unset, .unset, .unset] [(.int (1 : Int32)), (.int (1 : Int32)), (.int (1 : Int32))])) _
    refine XS.iand X0.here hx rfl (hb hby d1_19) rfl ?_
    show Steps p.tables e below (s₁.setTop (mkF m 20 #[.val (.int (10 : Int32)), .val (.long v0), .second, .val (.long v1), .second, .val (.long v2), .second, .val (.long v3), .second, .unset, .unset, .unset] [(.int (1 : Int32)), (.int (1 : Int32))])) _
    refine XS.iadd X0.here hx rfl (hb hby d1_20) rfl ?_
    show Steps p.tables e below (s₁.setTop (mkF m 21 #[.val (.int (10 : Int32)), .val (.long v0), .second, .val (.long v1), .second, .val (.long v2), .second, .val (.long v3), .second, .unset, .unset, .unset] [(.int (2 : Int32))])) _
    refine XS.istore X0.here hx rfl (hb hby d1_21) rfl (l' := #[.val (.int (10 : Int32)), .val (.long v0), .second, .val (.long v1), .second, .val (.long v2), .second, .val (.long v3), .second, .val (.int (2 : Int32)), .unset, .unset]) rfl ?_
    show Steps p.tables e below (s₁.setTop (mkF m 23 #[.val (.int (10 : Int32)), .val (.long v0), .second, .val (.long v1), .second, .val (.long v2), .second, .val (.long v3), .second, .val (.int (2 : Int32)), .unset, .unset] [])) _
    refine XS.iload X0.here hx rfl (hb hby d1_23) rfl ?_
    show Steps p.tables e below (s₁.setTop (mkF m 25 #[.val (.int (10 : Int32)), .val (.long v0), .second, .val (.long v1), .second, .val (.long v2), .second, .val (.long v3), .second, .val (.int (2 : Int32)), .unset, .unset] [(.int (2 : Int32))])) _
    exact kt)
  obtain ⟨T2, h2, k2, X2, e2, E2, A2, st2⟩ := newP X0 hx hZ (hw _ (List.mem_of_getElem? (i := 7) rfl)) e0 (g := (mkF m 25 #[.val (.int (10 : Int32)), .val (.long v0), .second, .val (.long v1), .second, .val (.long v2), .second, .val (.long v3), .second, .val (.int (2 : Int32)), .unset, .unset] [(.int (2 : Int32))])) rfl (hb hby d1_25) rfl (by decide) (cap := 2) (by decide) (by decide) (by decide) (by decide)
  obtain ⟨b2, g2⟩ : ∃ z, z = h0.size := ⟨_, rfl⟩
  rw [← g2] at A2 st2
  have gz3 : n0 ≤ b2 := Nat.le_trans Z0 (Nat.le_of_eq g2.symm)
  have f5 := ((Keep.refl h0 [])).ext E2
  have Zf6 : n0 ≤ h2.size := Nat.le_trans Z0 E2.1
  have sz2 : h0.size ≤ b2 := Nat.le_of_eq g2.symm
  have V2 : Arv Z h2 b2 k2 .long (2 : Int32) [(.long (0 : Int64)), (.long (0 : Int64))] (.long (0 : Int64)) := (Arv.new A2 (by decide)).pad (pad_rep [] (.long (0 : Int64)) 2)
  have pre7 : ∀ t, Steps p.tables e below (T2.setTop (mkF m 27 #[.val (.int (10 : Int32)), .val (.long v0), .second, .val (.long v1), .second, .val (.long v2), .second, .val (.long v3), .second, .val (.int (2 : Int32)), .unset, .unset] [(.ref b2)])) t → Steps p.tables e below (s₁.setTop (entryFrame m #[(.int (10 : Int32)), (.long v0), (.long v1), (.long v2), (.long v3)] 12)) t := fun t kt => pre1 t (st2 _ kt)
  have pre8 : ∀ t, Steps p.tables e below (T2.setTop (mkF m 58 #[.val (.int (10 : Int32)), .val (.long v0), .second, .val (.long v1), .second, .val (.long v2), .second, .val (.long v3), .second, .val (.int (2 : Int32)), .val (.ref b2), .val (.int (0 : Int32))] [(.long v1), (.int (0 : Int32)), (.ref b2)])) t → Steps p.tables e below (s₁.setTop (entryFrame m #[(.int (10 : Int32)), (.long v0), (.long v1), (.long v2), (.long v3)] 12)) t := fun t kt => pre7 t (by
    refine XS.astore X2.here hx rfl (hb hby d1_27) rfl rfl (l' := #[.val (.int (10 : Int32)), .val (.long v0), .second, .val (.long v1), .second, .val (.long v2), .second, .val (.long v3), .second, .val (.int (2 : Int32)), .val (.ref b2), .unset]) rfl ?_
    show Steps p.tables e below (T2.setTop (mkF m 29 #[.val (.int (10 : Int32)), .val (.long v0), .second, .val (.long v1), .second, .val (.long v2), .second, .val (.long v3), .second, .val (.int (2 : Int32)), .val (.ref b2), .unset] [])) _
    refine XS.iconst X2.here hx rfl (hb hby d1_29) ?_
    show Steps p.tables e below (T2.setTop (mkF m 30 #[.val (.int (10 : Int32)), .val (.long v0), .second, .val (.long v1), .second, .val (.long v2), .second, .val (.long v3), .second, .val (.int (2 : Int32)), .val (.ref b2), .unset] [(.int (0 : Int32))])) _
    refine XS.istore X2.here hx rfl (hb hby d1_30) rfl (l' := #[.val (.int (10 : Int32)), .val (.long v0), .second, .val (.long v1), .second, .val (.long v2), .second, .val (.long v3), .second, .val (.int (2 : Int32)), .val (.ref b2), .val (.int (0 : Int32))]) rfl ?_
    show Steps p.tables e below (T2.setTop (mkF m 32 #[.val (.int (10 : Int32)), .val (.long v0), .second, .val (.long v1), .second, .val (.long v2), .second, .val (.long v3), .second, .val (.int (2 : Int32)), .val (.ref b2), .val (.int (0 : Int32))] [])) _
    refine XS.iloadN X2.here hx rfl (hb hby d1_32) rfl ?_
    show Steps p.tables e below (T2.setTop (mkF m 33 #[.val (.int (10 : Int32)), .val (.long v0), .second, .val (.long v1), .second, .val (.long v2), .second, .val (.long v3), .second, .val (.int (2 : Int32)), .val (.ref b2), .val (.int (0 : Int32))] [(.int (10 : Int32))])) _
    refine XS.iconst X2.here hx rfl (hb hby d1_33) ?_
    show Steps p.tables e below (T2.setTop (mkF m 34 #[.val (.int (10 : Int32)), .val (.long v0), .second, .val (.long v1), .second, .val (.long v2), .second, .val (.long v3), .second, .val (.int (2 : Int32)), .val (.ref b2), .val (.int (0 : Int32))] [(.int (1 : Int32)), (.int (10 : Int32))])) _
    refine XS.iand X2.here hx rfl (hb hby d1_34) rfl ?_
    show Steps p.tables e below (T2.setTop (mkF m 35 #[.val (.int (10 : Int32)), .val (.long v0), .second, .val (.long v1), .second, .val (.long v2), .second, .val (.long v3), .second, .val (.int (2 : Int32)), .val (.ref b2), .val (.int (0 : Int32))] [(.int (0 : Int32))])) _
    refine XS.ifYes X2.here hx rfl (pc0 := 35) (pc' := 47) rfl (hb hby d1_35) rfl ((if0 _ _).trans (teq (by decide : (0 : Int32) = (0 : Int32))).1) (by decide) (by decide) ?_
    show Steps p.tables e below (T2.setTop (mkF m 47 #[.val (.int (10 : Int32)), .val (.long v0), .second, .val (.long v1), .second, .val (.long v2), .second, .val (.long v3), .second, .val (.int (2 : Int32)), .val (.ref b2), .val (.int (0 : Int32))] [])) _
    refine XS.iloadN X2.here hx rfl (hb hby d1_47) rfl ?_
    show Steps p.tables e below (T2.setTop (mkF m 48 #[.val (.int (10 : Int32)), .val (.long v0), .second, .val (.long v1), .second, .val (.long v2), .second, .val (.long v3), .second, .val (.int (2 : Int32)), .val (.ref b2), .val (.int (0 : Int32))] [(.int (10 : Int32))])) _
    refine XS.iconst X2.here hx rfl (hb hby d1_48) ?_
    show Steps p.tables e below (T2.setTop (mkF m 49 #[.val (.int (10 : Int32)), .val (.long v0), .second, .val (.long v1), .second, .val (.long v2), .second, .val (.long v3), .second, .val (.int (2 : Int32)), .val (.ref b2), .val (.int (0 : Int32))] [(.int (2 : Int32)), (.int (10 : Int32))])) _
    refine XS.iand X2.here hx rfl (hb hby d1_49) rfl ?_
    show Steps p.tables e below (T2.setTop (mkF m 50 #[.val (.int (10 : Int32)), .val (.long v0), .second, .val (.long v1), .second, .val (.long v2), .second, .val (.long v3), .second, .val (.int (2 : Int32)), .val (.ref b2), .val (.int (0 : Int32))] [(.int (2 : Int32))])) _
    refine XS.ifNo X2.here hx rfl (hb hby d1_50) rfl ((if0 _ _).trans (feq (by decide : ¬ ((2 : Int32) = (0 : Int32)))).1) ?_
    show Steps p.tables e below (T2.setTop (mkF m 53 #[.val (.int (10 : Int32)), .val (.long v0), .second, .val (.long v1), .second, .val (.long v2), .second, .val (.long v3), .second, .val (.int (2 : Int32)), .val (.ref b2), .val (.int (0 : Int32))] [])) _
    refine XS.aload X2.here hx rfl (hb hby d1_53) rfl rfl ?_
    show Steps p.tables e below (T2.setTop (mkF m 55 #[.val (.int (10 : Int32)), .val (.long v0), .second, .val (.long v1), .second, .val (.long v2), .second, .val (.long v3), .second, .val (.int (2 : Int32)), .val (.ref b2), .val (.int (0 : Int32))] [(.ref b2)])) _
    refine XS.iload X2.here hx rfl (hb hby d1_55) rfl ?_
    show Steps p.tables e below (T2.setTop (mkF m 57 #[.val (.int (10 : Int32)), .val (.long v0), .second, .val (.long v1), .second, .val (.long v2), .second, .val (.long v3), .second, .val (.int (2 : Int32)), .val (.ref b2), .val (.int (0 : Int32))] [(.int (0 : Int32)), (.ref b2)])) _
    refine XS.lloadN X2.here hx rfl (hb hby d1_57) rfl ?_
    show Steps p.tables e below (T2.setTop (mkF m 58 #[.val (.int (10 : Int32)), .val (.long v0), .second, .val (.long v1), .second, .val (.long v2), .second, .val (.long v3), .second, .val (.int (2 : Int32)), .val (.ref b2), .val (.int (0 : Int32))] [(.long v1), (.int (0 : Int32)), (.ref b2)])) _
    exact kt)
  obtain ⟨cl9, Ar9, q9, S9, M9, H9, G9⟩ := V2
  have hin9 : ¬ ((0 : Int32) < 0 ∨ cl9.slots.size ≤ ((0 : Int32)).toNatClampNeg) := inb_of S9 ⟨by decide, by decide⟩
  obtain ⟨T9, h9, X9, e9, W9, st9⟩ := stJ X2 hx hZ e2 Ar9 (j := (0 : Int32)) hin9 (g := (mkF m 58 #[.val (.int (10 : Int32)), .val (.long v0), .second, .val (.long v1), .second, .val (.long v2), .second, .val (.long v3), .second, .val (.int (2 : Int32)), .val (.ref b2), .val (.int (0 : Int32))] [(.long v1), (.int (0 : Int32)), (.ref b2)])) rfl rfl (hb hby d1_58)
  have f10 := (f5).wr W9 ((Or.inr (Nat.le_trans ((Keep.refl h0 [])).1 (Nat.le_of_eq g2.symm))))
  have Va9 := Arv.set Ar9 q9 S9 M9 H9 G9 rfl W9 0 rfl (Nat.le_of_ble_eq_true rfl)
  have Nf9 := Fr.snoc X9 N0 gz3
  have Zf9 : n0 ≤ h9.size := Nat.le_trans Zf6 (Keep.of_wr W9).1
  have pre11 : ∀ t, Steps p.tables e below (T9.setTop (mkF m 59 #[.val (.int (10 : Int32)), .val (.long v0), .second, .val (.long v1), .second, .val (.long v2), .second, .val (.long v3), .second, .val (.int (2 : Int32)), .val (.ref b2), .val (.int (0 : Int32))] [])) t → Steps p.tables e below (s₁.setTop (entryFrame m #[(.int (10 : Int32)), (.long v0), (.long v1), (.long v2), (.long v3)] 12)) t := fun t kt => pre8 t (st9 _ kt)
  have pre12 : ∀ t, Steps p.tables e below (T9.setTop (mkF m 91 #[.val (.int (10 : Int32)), .val (.long v0), .second, .val (.long v1), .second, .val (.long v2), .second, .val (.long v3), .second, .val (.int (2 : Int32)), .val (.ref b2), .val (.int (1 : Int32))] [(.long v3), (.int (1 : Int32)), (.ref b2)])) t → Steps p.tables e below (s₁.setTop (entryFrame m #[(.int (10 : Int32)), (.long v0), (.long v1), (.long v2), (.long v3)] 12)) t := fun t kt => pre11 t (by
    refine XS.iinc X9.here hx rfl (hb hby d1_59) rfl (l' := #[.val (.int (10 : Int32)), .val (.long v0), .second, .val (.long v1), .second, .val (.long v2), .second, .val (.long v3), .second, .val (.int (2 : Int32)), .val (.ref b2), .val (.int (1 : Int32))]) rfl ?_
    show Steps p.tables e below (T9.setTop (mkF m 62 #[.val (.int (10 : Int32)), .val (.long v0), .second, .val (.long v1), .second, .val (.long v2), .second, .val (.long v3), .second, .val (.int (2 : Int32)), .val (.ref b2), .val (.int (1 : Int32))] [])) _
    refine XS.iloadN X9.here hx rfl (hb hby d1_62) rfl ?_
    show Steps p.tables e below (T9.setTop (mkF m 63 #[.val (.int (10 : Int32)), .val (.long v0), .second, .val (.long v1), .second, .val (.long v2), .second, .val (.long v3), .second, .val (.int (2 : Int32)), .val (.ref b2), .val (.int (1 : Int32))] [(.int (10 : Int32))])) _
    refine XS.iconst X9.here hx rfl (hb hby d1_63) ?_
    show Steps p.tables e below (T9.setTop (mkF m 64 #[.val (.int (10 : Int32)), .val (.long v0), .second, .val (.long v1), .second, .val (.long v2), .second, .val (.long v3), .second, .val (.int (2 : Int32)), .val (.ref b2), .val (.int (1 : Int32))] [(.int (4 : Int32)), (.int (10 : Int32))])) _
    refine XS.iand X9.here hx rfl (hb hby d1_64) rfl ?_
    show Steps p.tables e below (T9.setTop (mkF m 65 #[.val (.int (10 : Int32)), .val (.long v0), .second, .val (.long v1), .second, .val (.long v2), .second, .val (.long v3), .second, .val (.int (2 : Int32)), .val (.ref b2), .val (.int (1 : Int32))] [(.int (0 : Int32))])) _
    refine XS.ifYes X9.here hx rfl (pc0 := 65) (pc' := 78) rfl (hb hby d1_65) rfl ((if0 _ _).trans (teq (by decide : (0 : Int32) = (0 : Int32))).1) (by decide) (by decide) ?_
    show Steps p.tables e below (T9.setTop (mkF m 78 #[.val (.int (10 : Int32)), .val (.long v0), .second, .val (.long v1), .second, .val (.long v2), .second, .val (.long v3), .second, .val (.int (2 : Int32)), .val (.ref b2), .val (.int (1 : Int32))] [])) _
    refine XS.iloadN X9.here hx rfl (hb hby d1_78) rfl ?_
    show Steps p.tables e below (T9.setTop (mkF m 79 #[.val (.int (10 : Int32)), .val (.long v0), .second, .val (.long v1), .second, .val (.long v2), .second, .val (.long v3), .second, .val (.int (2 : Int32)), .val (.ref b2), .val (.int (1 : Int32))] [(.int (10 : Int32))])) _
    refine XS.bipush X9.here hx rfl (hb hby d1_79) ?_
    show Steps p.tables e below (T9.setTop (mkF m 81 #[.val (.int (10 : Int32)), .val (.long v0), .second, .val (.long v1), .second, .val (.long v2), .second, .val (.long v3), .second, .val (.int (2 : Int32)), .val (.ref b2), .val (.int (1 : Int32))] [(.int (8 : Int32)), (.int (10 : Int32))])) _
    refine XS.iand X9.here hx rfl (hb hby d1_81) rfl ?_
    show Steps p.tables e below (T9.setTop (mkF m 82 #[.val (.int (10 : Int32)), .val (.long v0), .second, .val (.long v1), .second, .val (.long v2), .second, .val (.long v3), .second, .val (.int (2 : Int32)), .val (.ref b2), .val (.int (1 : Int32))] [(.int (8 : Int32))])) _
    refine XS.ifNo X9.here hx rfl (hb hby d1_82) rfl ((if0 _ _).trans (feq (by decide : ¬ ((8 : Int32) = (0 : Int32)))).1) ?_
    show Steps p.tables e below (T9.setTop (mkF m 85 #[.val (.int (10 : Int32)), .val (.long v0), .second, .val (.long v1), .second, .val (.long v2), .second, .val (.long v3), .second, .val (.int (2 : Int32)), .val (.ref b2), .val (.int (1 : Int32))] [])) _
    refine XS.aload X9.here hx rfl (hb hby d1_85) rfl rfl ?_
    show Steps p.tables e below (T9.setTop (mkF m 87 #[.val (.int (10 : Int32)), .val (.long v0), .second, .val (.long v1), .second, .val (.long v2), .second, .val (.long v3), .second, .val (.int (2 : Int32)), .val (.ref b2), .val (.int (1 : Int32))] [(.ref b2)])) _
    refine XS.iload X9.here hx rfl (hb hby d1_87) rfl ?_
    show Steps p.tables e below (T9.setTop (mkF m 89 #[.val (.int (10 : Int32)), .val (.long v0), .second, .val (.long v1), .second, .val (.long v2), .second, .val (.long v3), .second, .val (.int (2 : Int32)), .val (.ref b2), .val (.int (1 : Int32))] [(.int (1 : Int32)), (.ref b2)])) _
    refine XS.lload X9.here hx rfl (hb hby d1_89) rfl ?_
    show Steps p.tables e below (T9.setTop (mkF m 91 #[.val (.int (10 : Int32)), .val (.long v0), .second, .val (.long v1), .second, .val (.long v2), .second, .val (.long v3), .second, .val (.int (2 : Int32)), .val (.ref b2), .val (.int (1 : Int32))] [(.long v3), (.int (1 : Int32)), (.ref b2)])) _
    exact kt)
  obtain ⟨cl13, Ar13, q13, S13, M13, H13, G13⟩ := Va9
  have hin13 : ¬ ((1 : Int32) < 0 ∨ cl13.slots.size ≤ ((1 : Int32)).toNatClampNeg) := inb_of S13 ⟨by decide, by decide⟩
  obtain ⟨T13, h13, X13, e13, W13, st13⟩ := stJ X9 hx hZ e9 Ar13 (j := (1 : Int32)) hin13 (g := (mkF m 91 #[.val (.int (10 : Int32)), .val (.long v0), .second, .val (.long v1), .second, .val (.long v2), .second, .val (.long v3), .second, .val (.int (2 : Int32)), .val (.ref b2), .val (.int (1 : Int32))] [(.long v3), (.int (1 : Int32)), (.ref b2)])) rfl rfl (hb hby d1_91)
  have f14 := (f10).wr W13 ((Or.inr (Nat.le_trans ((Keep.refl h0 [])).1 (Nat.le_of_eq g2.symm))))
  have Va13 := Arv.set Ar13 q13 S13 M13 H13 G13 rfl W13 1 rfl (Nat.le_of_ble_eq_true rfl)
  have Nf13 := Fr.snoc X13 Nf9 gz3
  have Zf13 : n0 ≤ h13.size := Nat.le_trans Zf9 (Keep.of_wr W13).1
  have pre15 : ∀ t, Steps p.tables e below (T13.setTop (mkF m 92 #[.val (.int (10 : Int32)), .val (.long v0), .second, .val (.long v1), .second, .val (.long v2), .second, .val (.long v3), .second, .val (.int (2 : Int32)), .val (.ref b2), .val (.int (1 : Int32))] [])) t → Steps p.tables e below (s₁.setTop (entryFrame m #[(.int (10 : Int32)), (.long v0), (.long v1), (.long v2), (.long v3)] 12)) t := fun t kt => pre12 t (st13 _ kt)
  have pre16 : ∀ t, Steps p.tables e below (T13.setTop (mkF m 97 #[.val (.int (10 : Int32)), .val (.long v0), .second, .val (.long v1), .second, .val (.long v2), .second, .val (.long v3), .second, .val (.int (2 : Int32)), .val (.ref b2), .val (.int (2 : Int32))] [(.ref b2)])) t → Steps p.tables e below (s₁.setTop (entryFrame m #[(.int (10 : Int32)), (.long v0), (.long v1), (.long v2), (.long v3)] 12)) t := fun t kt => pre15 t (by
    refine XS.iinc X13.here hx rfl (hb hby d1_92) rfl (l' := #[.val (.int (10 : Int32)), .val (.long v0), .second, .val (.long v1), .second, .val (.long v2), .second, .val (.long v3), .second, .val (.int (2 : Int32)), .val (.ref b2), .val (.int (2 : Int32))]) rfl ?_
    show Steps p.tables e below (T13.setTop (mkF m 95 #[.val (.int (10 : Int32)), .val (.long v0), .second, .val (.long v1), .second, .val (.long v2), .second, .val (.long v3), .second, .val (.int (2 : Int32)), .val (.ref b2), .val (.int (2 : Int32))] [])) _
    refine XS.aload X13.here hx rfl (hb hby d1_95) rfl rfl ?_
    show Steps p.tables e below (T13.setTop (mkF m 97 #[.val (.int (10 : Int32)), .val (.long v0), .second, .val (.long v1), .second, .val (.long v2), .second, .val (.long v3), .second, .val (.int (2 : Int32)), .val (.ref b2), .val (.int (2 : Int32))] [(.ref b2)])) _
    exact kt)
  obtain ⟨fs, hr, hrun, hended, hW, hsame⟩ := X13.leave (v := (some (.ref b2))) (fun h => by rw [Bd.returns] at h; cases h)
  refine ⟨_, _, pre16 _ ?_, hrun, hended, _, _, rfl, ?_, ⟨_, rfl⟩, hW, hsame.mono (by decide) (by decide)⟩
  · exact retOut X13 hx Bd.returns rfl (Or.inr (Or.inr (Or.inr (Or.inr ⟨rfl, rfl, rfl⟩)))) (hb hby d1_97) hr
  · show QP Z [v1, v3] h0 n0 _ T13.heap _
    rw [e13]
    exact ⟨_, rfl, Nf13, f14, gz3, (sz2), own_lg (xs := [v1, v3]) Va13 rfl (by simp)⟩
theorem ef_rmP_11 (m : MethodId) (x0 : Int32) (x1 : Int64) (x2 : Int64) (x3 : Int64) (x4 : Int64) : entryFrame m #[(.int x0), (.long x1), (.long x2), (.long x3), (.long x4)] 12 = mkF m 0 #[.val (.int x0), .val (.long x1), .second, .val (.long x2), .second, .val (.long x3), .second, .val (.long x4), .second, .unset, .unset, .unset] [] := by first | (simp [entryFrame, mkF, argsToLocals, Value.category]; done) | rfl
set_option maxRecDepth 65536 in
set_option maxHeartbeats 40000000 in
theorem rmP_11 (l : Launch) (Z : State) (a0 : Array Value) (hw : ∀ d ∈ tables_1, d.before a0 Z = true) (ws : List Jvm.Cond) (v0 v1 v2 v3 : Int64) (h0 : Heap) (n0 : Nat) (Z0 : n0 ≤ h0.size)  :
    MetFree l (⟨"com/example/nest3/nest3/SubsetWithinPinLaw", "pick", "(IJJJJ)[J"⟩ : MethodName) (head1 (Jvm.Cond.code (⟨"com/example/nest3/nest3/SubsetWithinPinLaw", "pick", "(IJJJJ)[J"⟩ : MethodName) method_3_code 12 (some (.array .long)) :: ws) ({ frames := 0, cells := 1, slots := 4, locals := 0 } : Room)) (fun a U => a = #[(.int (11 : Int32)), (.long v0), (.long v1), (.long v2), (.long v3)] ∧ Z.Warmed39 U.vm ∧ U.heap = h0) (fun _ _ _ _ _ => True) (fun _ U o U' => ∃ v L, o = .returned v ∧ QP Z [v0, v1, v3] h0 n0 v U'.heap L ∧ FrameEnd U o U' L ({ frames := 0, cells := 1, slots := 4, locals := 0 } : Room).cells ({ frames := 0, cells := 1, slots := 4, locals := 0 } : Room).slots) := by
  refine MetFree.of_bodySF (plainFor_of_name pn_com_example_nest3_nest3_SubsetWithinPinLaw) hisR ?_
  intro p e s m args below meth c s₁ Bd hml0 hP hK
  obtain ⟨rfl, hZ, hh⟩ := hP
  have hx := Bd.exec
  have hby := Bd.bytes
  have hml : c.maxLocals = 12 := hml0
  have hown : s.vm.findClass "com/example/nest3/nest3/SubsetWithinPinLaw" = some m.cls := findClass_of_methodNamed Bd.named
  have hnm := (name_of_methodNamed Bd.named Bd.method).1
  have X0 : Stand p l e ({ frames := 0, cells := 1, slots := 4, locals := 0 } : Room) s m #[(.int (11 : Int32)), (.long v0), (.long v1), (.long v2), (.long v3)] below meth c s₁ [] 0 0 := Stand.of_body Bd
  have e0 : s₁.heap = h0 := by rw [← hh, Bd.state]; rfl
  have N0 := Fr.nil n0
  have pre0 : ∀ t, Steps p.tables e below (s₁.setTop (mkF m 0 #[.val (.int (11 : Int32)), .val (.long v0), .second, .val (.long v1), .second, .val (.long v2), .second, .val (.long v3), .second, .unset, .unset, .unset] [])) t → Steps p.tables e below (s₁.setTop (entryFrame m #[(.int (11 : Int32)), (.long v0), (.long v1), (.long v2), (.long v3)] 12)) t := fun t kt => castTop (ef_rmP_11 m (11 : Int32) v0 v1 v2 v3) kt
  have pre1 : ∀ t, Steps p.tables e below (s₁.setTop (mkF m 25 #[.val (.int (11 : Int32)), .val (.long v0), .second, .val (.long v1), .second, .val (.long v2), .second, .val (.long v3), .second, .val (.int (3 : Int32)), .unset, .unset] [(.int (3 : Int32))])) t → Steps p.tables e below (s₁.setTop (entryFrame m #[(.int (11 : Int32)), (.long v0), (.long v1), (.long v2), (.long v3)] 12)) t := fun t kt => pre0 t (by
    refine XS.iloadN X0.here hx rfl (hb hby d1_0) rfl ?_
    show Steps p.tables e below (s₁.setTop (mkF m 1 #[.val (.int (11 : Int32)), .val (.long v0), .second, .val (.long v1), .second, .val (.long v2), .second, .val (.long v3), .second, .unset, .unset, .unset] [(.int (11 : Int32))])) _
    refine XS.iconst X0.here hx rfl (hb hby d1_1) ?_
    show Steps p.tables e below (s₁.setTop (mkF m 2 #[.val (.int (11 : Int32)), .val (.long v0), .second, .val (.long v1), .second, .val (.long v2), .second, .val (.long v3), .second, .unset, .unset, .unset] [(.int (1 : Int32)), (.int (11 : Int32))])) _
    refine XS.iand X0.here hx rfl (hb hby d1_2) rfl ?_
    show Steps p.tables e below (s₁.setTop (mkF m 3 #[.val (.int (11 : Int32)), .val (.long v0), .second, .val (.long v1), .second, .val (.long v2), .second, .val (.long v3), .second, .unset, .unset, .unset] [(.int (1 : Int32))])) _
    refine XS.iloadN X0.here hx rfl (hb hby d1_3) rfl ?_
    show Steps p.tables e below (s₁.setTop (mkF m 4 #[.val (.int (11 : Int32)), .val (.long v0), .second, .val (.long v1), .second, .val (.long v2), .second, .val (.long v3), .second, .unset, .unset, .unset] [(.int (11 : Int32)), (.int (1 : Int32))])) _
    refine XS.iconst X0.here hx rfl (hb hby d1_4) ?_
    show Steps p.tables e below (s₁.setTop (mkF m 5 #[.val (.int (11 : Int32)), .val (.long v0), .second, .val (.long v1), .second, .val (.long v2), .second, .val (.long v3), .second, .unset, .unset, .unset] [(.int (1 : Int32)), (.int (11 : Int32)), (.int (1 : Int32))])) _
    refine XS.iushr X0.here hx rfl (hb hby d1_5) rfl ?_
    show Steps p.tables e below (s₁.setTop (mkF m 6 #[.val (.int (11 : Int32)), .val (.long v0), .second, .val (.long v1), .second, .val (.long v2), .second, .val (.long v3), .second, .unset, .unset, .unset] [(.int (5 : Int32)), (.int (1 : Int32))])) _
    refine XS.iconst X0.here hx rfl (hb hby d1_6) ?_
    show Steps p.tables e below (s₁.setTop (mkF m 7 #[.val (.int (11 : Int32)), .val (.long v0), .second, .val (.long v1), .second, .val (.long v2), .second, .val (.long v3), .second, .unset, .unset, .unset] [(.int (1 : Int32)), (.int (5 : Int32)), (.int (1 : Int32))])) _
    refine XS.iand X0.here hx rfl (hb hby d1_7) rfl ?_
    show Steps p.tables e below (s₁.setTop (mkF m 8 #[.val (.int (11 : Int32)), .val (.long v0), .second, .val (.long v1), .second, .val (.long v2), .second, .val (.long v3), .second, .unset, .unset, .unset] [(.int (1 : Int32)), (.int (1 : Int32))])) _
    refine XS.iadd X0.here hx rfl (hb hby d1_8) rfl ?_
    show Steps p.tables e below (s₁.setTop (mkF m 9 #[.val (.int (11 : Int32)), .val (.long v0), .second, .val (.long v1), .second, .val (.long v2), .second, .val (.long v3), .second, .unset, .unset, .unset] [(.int (2 : Int32))])) _
    refine XS.iloadN X0.here hx rfl (hb hby d1_9) rfl ?_
    show Steps p.tables e below (s₁.setTop (mkF m 10 #[.val (.int (11 : Int32)), .val (.long v0), .second, .val (.long v1), .second, .val (.long v2), .second, .val (.long v3), .second, .unset, .unset, .unset] [(.int (11 : Int32)), (.int (2 : Int32))])) _
    refine XS.iconst X0.here hx rfl (hb hby d1_10) ?_
    show Steps p.tables e below (s₁.setTop (mkF m 11 #[.val (.int (11 : Int32)), .val (.long v0), .second, .val (.long v1), .second, .val (.long v2), .second, .val (.long v3), .second, .unset, .unset, .unset] [(.int (2 : Int32)), (.int (11 : Int32)), (.int (2 : Int32))])) _
    refine XS.iushr X0.here hx rfl (hb hby d1_11) rfl ?_
    show Steps p.tables e below (s₁.setTop (mkF m 12 #[.val (.int (11 : Int32)), .val (.long v0), .second, .val (.long v1), .second, .val (.long v2), .second, .val (.long v3), .second, .unset, .unset, .unset] [(.int (2 : Int32)), (.int (2 : Int32))])) _
    refine XS.iconst X0.here hx rfl (hb hby d1_12) ?_
    show Steps p.tables e below (s₁.setTop (mkF m 13 #[.val (.int (11 : Int32)), .val (.long v0), .second, .val (.long v1), .second, .val (.long v2), .second, .val (.long v3), .second, .unset, .unset, .unset] [(.int (1 : Int32)), (.int (2 : Int32)), (.int (2 : Int32))])) _
    refine XS.iand X0.here hx rfl (hb hby d1_13) rfl ?_
    show Steps p.tables e below (s₁.setTop (mkF m 14 #[.val (.int (11 : Int32)), .val (.long v0), .second, .val (.long v1), .second, .val (.long v2), .second, .val (.long v3), .second, .unset, .unset, .unset] [(.int (0 : Int32)), (.int (2 : Int32))])) _
    refine XS.iadd X0.here hx rfl (hb hby d1_14) rfl ?_
    show Steps p.tables e below (s₁.setTop (mkF m 15 #[.val (.int (11 : Int32)), .val (.long v0), .second, .val (.long v1), .second, .val (.long v2), .second, .val (.long v3), .second, .unset, .unset, .unset] [(.int (2 : Int32))])) _
    refine XS.iloadN X0.here hx rfl (hb hby d1_15) rfl ?_
    show Steps p.tables e below (s₁.setTop (mkF m 16 #[.val (.int (11 : Int32)), .val (.long v0), .second, .val (.long v1), .second, .val (.long v2), .second, .val (.long v3), .second, .unset, .unset, .unset] [(.int (11 : Int32)), (.int (2 : Int32))])) _
    refine XS.iconst X0.here hx rfl (hb hby d1_16) ?_
    show Steps p.tables e below (s₁.setTop (mkF m 17 #[.val (.int (11 : Int32)), .val (.long v0), .second, .val (.long v1), .second, .val (.long v2), .second, .val (.long v3), .second, .unset, .unset, .unset] [(.int (3 : Int32)), (.int (11 : Int32)), (.int (2 : Int32))])) _
    refine XS.iushr X0.here hx rfl (hb hby d1_17) rfl ?_
    show Steps p.tables e below (s₁.setTop (mkF m 18 #[.val (.int (11 : Int32)), .val (.long v0), .second, .val (.long v1), .second, .val (.long v2), .second, .val (.long v3), .second, .unset, .unset, .unset] [(.int (1 : Int32)), (.int (2 : Int32))])) _
    refine XS.iconst X0.here hx rfl (hb hby d1_18) ?_
    show Steps p.tables e below (s₁.setTop (mkF m 19 #[.val (.int (11 : Int32)), .val (.long v0), .second, .val (.long v1), .second, .val (.long v2), .second, .val (.long v3), .second, .unset, .unset, .unset] [(.int (1 : Int32)), (.int (1 : Int32)), (.int (2 : Int32))])) _
    refine XS.iand X0.here hx rfl (hb hby d1_19) rfl ?_
    show Steps p.tables e below (s₁.setTop (mkF m 20 #[.val (.int (11 : Int32)), .val (.long v0), .second, .val (.long v1), .second, .val (.long v2), .second, .val (.long v3), .second, .unset, .unset, .unset] [(.int (1 : Int32)), (.int (2 : Int32))])) _
    refine XS.iadd X0.here hx rfl (hb hby d1_20) rfl ?_
    show Steps p.tables e below (s₁.setTop (mkF m 21 #[.val (.int (11 : Int32)), .val (.long v0), .second, .val (.long v1), .second, .val (.long v2), .second, .val (.long v3), .second, .unset, .unset, .unset] [(.int (3 : Int32))])) _
    refine XS.istore X0.here hx rfl (hb hby d1_21) rfl (l' := #[.val (.int (11 : Int32)), .val (.long v0), .second, .val (.long v1), .second, .val (.long v2), .second, .val (.long v3), .second, .val (.int (3 : Int32)), .unset, .unset]) rfl ?_
    show Steps p.tables e below (s₁.setTop (mkF m 23 #[.val (.int (11 : Int32)), .val (.long v0), .second, .val (.long v1), .second, .val (.long v2), .second, .val (.long v3), .second, .val (.int (3 : Int32)), .unset, .unset] [])) _
    refine XS.iload X0.here hx rfl (hb hby d1_23) rfl ?_
    show Steps p.tables e below (s₁.setTop (mkF m 25 #[.val (.int (11 : Int32)), .val (.long v0), .second, .val (.long v1), .second, .val (.long v2), .second, .val (.long v3), .second, .val (.int (3 : Int32)), .unset, .unset] [(.int (3 : Int32))])) _
    exact kt)
  obtain ⟨T2, h2, k2, X2, e2, E2, A2, st2⟩ := newP X0 hx hZ (hw _ (List.mem_of_getElem? (i := 7) rfl)) e0 (g := (mkF m 25 #[.val (.int (11 : Int32)), .val (.long v0), .second, .val (.long v1), .second, .val (.long v2), .second, .val (.long v3), .second, .val (.int (3 : Int32)), .unset, .unset] [(.int (3 : Int32))])) rfl (hb hby d1_25) rfl (by decide) (cap := 3) (by decide) (by decide) (by decide) (by decide)
  obtain ⟨b2, g2⟩ : ∃ z, z = h0.size := ⟨_, rfl⟩
  rw [← g2] at A2 st2
  have gz3 : n0 ≤ b2 := Nat.le_trans Z0 (Nat.le_of_eq g2.symm)
  have f5 := ((Keep.refl h0 [])).ext E2
  have Zf6 : n0 ≤ h2.size := Nat.le_trans Z0 E2.1
  have sz2 : h0.size ≤ b2 := Nat.le_of_eq g2.symm
  have V2 : Arv Z h2 b2 k2 .long (3 : Int32) [(.long (0 : Int64)), (.long (0 : Int64)), (.long (0 : Int64))] (.long (0 : Int64)) := (Arv.new A2 (by decide)).pad (pad_rep [] (.long (0 : Int64)) 3)
  have pre7 : ∀ t, Steps p.tables e below (T2.setTop (mkF m 27 #[.val (.int (11 : Int32)), .val (.long v0), .second, .val (.long v1), .second, .val (.long v2), .second, .val (.long v3), .second, .val (.int (3 : Int32)), .unset, .unset] [(.ref b2)])) t → Steps p.tables e below (s₁.setTop (entryFrame m #[(.int (11 : Int32)), (.long v0), (.long v1), (.long v2), (.long v3)] 12)) t := fun t kt => pre1 t (st2 _ kt)
  have pre8 : ∀ t, Steps p.tables e below (T2.setTop (mkF m 43 #[.val (.int (11 : Int32)), .val (.long v0), .second, .val (.long v1), .second, .val (.long v2), .second, .val (.long v3), .second, .val (.int (3 : Int32)), .val (.ref b2), .val (.int (0 : Int32))] [(.long v0), (.int (0 : Int32)), (.ref b2)])) t → Steps p.tables e below (s₁.setTop (entryFrame m #[(.int (11 : Int32)), (.long v0), (.long v1), (.long v2), (.long v3)] 12)) t := fun t kt => pre7 t (by
    refine XS.astore X2.here hx rfl (hb hby d1_27) rfl rfl (l' := #[.val (.int (11 : Int32)), .val (.long v0), .second, .val (.long v1), .second, .val (.long v2), .second, .val (.long v3), .second, .val (.int (3 : Int32)), .val (.ref b2), .unset]) rfl ?_
    show Steps p.tables e below (T2.setTop (mkF m 29 #[.val (.int (11 : Int32)), .val (.long v0), .second, .val (.long v1), .second, .val (.long v2), .second, .val (.long v3), .second, .val (.int (3 : Int32)), .val (.ref b2), .unset] [])) _
    refine XS.iconst X2.here hx rfl (hb hby d1_29) ?_
    show Steps p.tables e below (T2.setTop (mkF m 30 #[.val (.int (11 : Int32)), .val (.long v0), .second, .val (.long v1), .second, .val (.long v2), .second, .val (.long v3), .second, .val (.int (3 : Int32)), .val (.ref b2), .unset] [(.int (0 : Int32))])) _
    refine XS.istore X2.here hx rfl (hb hby d1_30) rfl (l' := #[.val (.int (11 : Int32)), .val (.long v0), .second, .val (.long v1), .second, .val (.long v2), .second, .val (.long v3), .second, .val (.int (3 : Int32)), .val (.ref b2), .val (.int (0 : Int32))]) rfl ?_
    show Steps p.tables e below (T2.setTop (mkF m 32 #[.val (.int (11 : Int32)), .val (.long v0), .second, .val (.long v1), .second, .val (.long v2), .second, .val (.long v3), .second, .val (.int (3 : Int32)), .val (.ref b2), .val (.int (0 : Int32))] [])) _
    refine XS.iloadN X2.here hx rfl (hb hby d1_32) rfl ?_
    show Steps p.tables e below (T2.setTop (mkF m 33 #[.val (.int (11 : Int32)), .val (.long v0), .second, .val (.long v1), .second, .val (.long v2), .second, .val (.long v3), .second, .val (.int (3 : Int32)), .val (.ref b2), .val (.int (0 : Int32))] [(.int (11 : Int32))])) _
    refine XS.iconst X2.here hx rfl (hb hby d1_33) ?_
    show Steps p.tables e below (T2.setTop (mkF m 34 #[.val (.int (11 : Int32)), .val (.long v0), .second, .val (.long v1), .second, .val (.long v2), .second, .val (.long v3), .second, .val (.int (3 : Int32)), .val (.ref b2), .val (.int (0 : Int32))] [(.int (1 : Int32)), (.int (11 : Int32))])) _
    refine XS.iand X2.here hx rfl (hb hby d1_34) rfl ?_
    show Steps p.tables e below (T2.setTop (mkF m 35 #[.val (.int (11 : Int32)), .val (.long v0), .second, .val (.long v1), .second, .val (.long v2), .second, .val (.long v3), .second, .val (.int (3 : Int32)), .val (.ref b2), .val (.int (0 : Int32))] [(.int (1 : Int32))])) _
    refine XS.ifNo X2.here hx rfl (hb hby d1_35) rfl ((if0 _ _).trans (feq (by decide : ¬ ((1 : Int32) = (0 : Int32)))).1) ?_
    show Steps p.tables e below (T2.setTop (mkF m 38 #[.val (.int (11 : Int32)), .val (.long v0), .second, .val (.long v1), .second, .val (.long v2), .second, .val (.long v3), .second, .val (.int (3 : Int32)), .val (.ref b2), .val (.int (0 : Int32))] [])) _
    refine XS.aload X2.here hx rfl (hb hby d1_38) rfl rfl ?_
    show Steps p.tables e below (T2.setTop (mkF m 40 #[.val (.int (11 : Int32)), .val (.long v0), .second, .val (.long v1), .second, .val (.long v2), .second, .val (.long v3), .second, .val (.int (3 : Int32)), .val (.ref b2), .val (.int (0 : Int32))] [(.ref b2)])) _
    refine XS.iload X2.here hx rfl (hb hby d1_40) rfl ?_
    show Steps p.tables e below (T2.setTop (mkF m 42 #[.val (.int (11 : Int32)), .val (.long v0), .second, .val (.long v1), .second, .val (.long v2), .second, .val (.long v3), .second, .val (.int (3 : Int32)), .val (.ref b2), .val (.int (0 : Int32))] [(.int (0 : Int32)), (.ref b2)])) _
    refine XS.lloadN X2.here hx rfl (hb hby d1_42) rfl ?_
    show Steps p.tables e below (T2.setTop (mkF m 43 #[.val (.int (11 : Int32)), .val (.long v0), .second, .val (.long v1), .second, .val (.long v2), .second, .val (.long v3), .second, .val (.int (3 : Int32)), .val (.ref b2), .val (.int (0 : Int32))] [(.long v0), (.int (0 : Int32)), (.ref b2)])) _
    exact kt)
  obtain ⟨cl9, Ar9, q9, S9, M9, H9, G9⟩ := V2
  have hin9 : ¬ ((0 : Int32) < 0 ∨ cl9.slots.size ≤ ((0 : Int32)).toNatClampNeg) := inb_of S9 ⟨by decide, by decide⟩
  obtain ⟨T9, h9, X9, e9, W9, st9⟩ := stJ X2 hx hZ e2 Ar9 (j := (0 : Int32)) hin9 (g := (mkF m 43 #[.val (.int (11 : Int32)), .val (.long v0), .second, .val (.long v1), .second, .val (.long v2), .second, .val (.long v3), .second, .val (.int (3 : Int32)), .val (.ref b2), .val (.int (0 : Int32))] [(.long v0), (.int (0 : Int32)), (.ref b2)])) rfl rfl (hb hby d1_43)
  have f10 := (f5).wr W9 ((Or.inr (Nat.le_trans ((Keep.refl h0 [])).1 (Nat.le_of_eq g2.symm))))
  have Va9 := Arv.set Ar9 q9 S9 M9 H9 G9 rfl W9 0 rfl (Nat.le_of_ble_eq_true rfl)
  have Nf9 := Fr.snoc X9 N0 gz3
  have Zf9 : n0 ≤ h9.size := Nat.le_trans Zf6 (Keep.of_wr W9).1
  have pre11 : ∀ t, Steps p.tables e below (T9.setTop (mkF m 44 #[.val (.int (11 : Int32)), .val (.long v0), .second, .val (.long v1), .second, .val (.long v2), .second, .val (.long v3), .second, .val (.int (3 : Int32)), .val (.ref b2), .val (.int (0 : Int32))] [])) t → Steps p.tables e below (s₁.setTop (entryFrame m #[(.int (11 : Int32)), (.long v0), (.long v1), (.long v2), (.long v3)] 12)) t := fun t kt => pre8 t (st9 _ kt)
  have pre12 : ∀ t, Steps p.tables e below (T9.setTop (mkF m 58 #[.val (.int (11 : Int32)), .val (.long v0), .second, .val (.long v1), .second, .val (.long v2), .second, .val (.long v3), .second, .val (.int (3 : Int32)), .val (.ref b2), .val (.int (1 : Int32))] [(.long v1), (.int (1 : Int32)), (.ref b2)])) t → Steps p.tables e below (s₁.setTop (entryFrame m #[(.int (11 : Int32)), (.long v0), (.long v1), (.long v2), (.long v3)] 12)) t := fun t kt => pre11 t (by
    refine XS.iinc X9.here hx rfl (hb hby d1_44) rfl (l' := #[.val (.int (11 : Int32)), .val (.long v0), .second, .val (.long v1), .second, .val (.long v2), .second, .val (.long v3), .second, .val (.int (3 : Int32)), .val (.ref b2), .val (.int (1 : Int32))]) rfl ?_
    show Steps p.tables e below (T9.setTop (mkF m 47 #[.val (.int (11 : Int32)), .val (.long v0), .second, .val (.long v1), .second, .val (.long v2), .second, .val (.long v3), .second, .val (.int (3 : Int32)), .val (.ref b2), .val (.int (1 : Int32))] [])) _
    refine XS.iloadN X9.here hx rfl (hb hby d1_47) rfl ?_
    show Steps p.tables e below (T9.setTop (mkF m 48 #[.val (.int (11 : Int32)), .val (.long v0), .second, .val (.long v1), .second, .val (.long v2), .second, .val (.long v3), .second, .val (.int (3 : Int32)), .val (.ref b2), .val (.int (1 : Int32))] [(.int (11 : Int32))])) _
    refine XS.iconst X9.here hx rfl (hb hby d1_48) ?_
    show Steps p.tables e below (T9.setTop (mkF m 49 #[.val (.int (11 : Int32)), .val (.long v0), .second, .val (.long v1), .second, .val (.long v2), .second, .val (.long v3), .second, .val (.int (3 : Int32)), .val (.ref b2), .val (.int (1 : Int32))] [(.int (2 : Int32)), (.int (11 : Int32))])) _
    refine XS.iand X9.here hx rfl (hb hby d1_49) rfl ?_
    show Steps p.tables e below (T9.setTop (mkF m 50 #[.val (.int (11 : Int32)), .val (.long v0), .second, .val (.long v1), .second, .val (.long v2), .second, .val (.long v3), .second, .val (.int (3 : Int32)), .val (.ref b2), .val (.int (1 : Int32))] [(.int (2 : Int32))])) _
    refine XS.ifNo X9.here hx rfl (hb hby d1_50) rfl ((if0 _ _).trans (feq (by decide : ¬ ((2 : Int32) = (0 : Int32)))).1) ?_
    show Steps p.tables e below (T9.setTop (mkF m 53 #[.val (.int (11 : Int32)), .val (.long v0), .second, .val (.long v1), .second, .val (.long v2), .second, .val (.long v3), .second, .val (.int (3 : Int32)), .val (.ref b2), .val (.int (1 : Int32))] [])) _
    refine XS.aload X9.here hx rfl (hb hby d1_53) rfl rfl ?_
    show Steps p.tables e below (T9.setTop (mkF m 55 #[.val (.int (11 : Int32)), .val (.long v0), .second, .val (.long v1), .second, .val (.long v2), .second, .val (.long v3), .second, .val (.int (3 : Int32)), .val (.ref b2), .val (.int (1 : Int32))] [(.ref b2)])) _
    refine XS.iload X9.here hx rfl (hb hby d1_55) rfl ?_
    show Steps p.tables e below (T9.setTop (mkF m 57 #[.val (.int (11 : Int32)), .val (.long v0), .second, .val (.long v1), .second, .val (.long v2), .second, .val (.long v3), .second, .val (.int (3 : Int32)), .val (.ref b2), .val (.int (1 : Int32))] [(.int (1 : Int32)), (.ref b2)])) _
    refine XS.lloadN X9.here hx rfl (hb hby d1_57) rfl ?_
    show Steps p.tables e below (T9.setTop (mkF m 58 #[.val (.int (11 : Int32)), .val (.long v0), .second, .val (.long v1), .second, .val (.long v2), .second, .val (.long v3), .second, .val (.int (3 : Int32)), .val (.ref b2), .val (.int (1 : Int32))] [(.long v1), (.int (1 : Int32)), (.ref b2)])) _
    exact kt)
  obtain ⟨cl13, Ar13, q13, S13, M13, H13, G13⟩ := Va9
  have hin13 : ¬ ((1 : Int32) < 0 ∨ cl13.slots.size ≤ ((1 : Int32)).toNatClampNeg) := inb_of S13 ⟨by decide, by decide⟩
  obtain ⟨T13, h13, X13, e13, W13, st13⟩ := stJ X9 hx hZ e9 Ar13 (j := (1 : Int32)) hin13 (g := (mkF m 58 #[.val (.int (11 : Int32)), .val (.long v0), .second, .val (.long v1), .second, .val (.long v2), .second, .val (.long v3), .second, .val (.int (3 : Int32)), .val (.ref b2), .val (.int (1 : Int32))] [(.long v1), (.int (1 : Int32)), (.ref b2)])) rfl rfl (hb hby d1_58)
  have f14 := (f10).wr W13 ((Or.inr (Nat.le_trans ((Keep.refl h0 [])).1 (Nat.le_of_eq g2.symm))))
  have Va13 := Arv.set Ar13 q13 S13 M13 H13 G13 rfl W13 1 rfl (Nat.le_of_ble_eq_true rfl)
  have Nf13 := Fr.snoc X13 Nf9 gz3
  have Zf13 : n0 ≤ h13.size := Nat.le_trans Zf9 (Keep.of_wr W13).1
  have pre15 : ∀ t, Steps p.tables e below (T13.setTop (mkF m 59 #[.val (.int (11 : Int32)), .val (.long v0), .second, .val (.long v1), .second, .val (.long v2), .second, .val (.long v3), .second, .val (.int (3 : Int32)), .val (.ref b2), .val (.int (1 : Int32))] [])) t → Steps p.tables e below (s₁.setTop (entryFrame m #[(.int (11 : Int32)), (.long v0), (.long v1), (.long v2), (.long v3)] 12)) t := fun t kt => pre12 t (st13 _ kt)
  have pre16 : ∀ t, Steps p.tables e below (T13.setTop (mkF m 91 #[.val (.int (11 : Int32)), .val (.long v0), .second, .val (.long v1), .second, .val (.long v2), .second, .val (.long v3), .second, .val (.int (3 : Int32)), .val (.ref b2), .val (.int (2 : Int32))] [(.long v3), (.int (2 : Int32)), (.ref b2)])) t → Steps p.tables e below (s₁.setTop (entryFrame m #[(.int (11 : Int32)), (.long v0), (.long v1), (.long v2), (.long v3)] 12)) t := fun t kt => pre15 t (by
    refine XS.iinc X13.here hx rfl (hb hby d1_59) rfl (l' := #[.val (.int (11 : Int32)), .val (.long v0), .second, .val (.long v1), .second, .val (.long v2), .second, .val (.long v3), .second, .val (.int (3 : Int32)), .val (.ref b2), .val (.int (2 : Int32))]) rfl ?_
    show Steps p.tables e below (T13.setTop (mkF m 62 #[.val (.int (11 : Int32)), .val (.long v0), .second, .val (.long v1), .second, .val (.long v2), .second, .val (.long v3), .second, .val (.int (3 : Int32)), .val (.ref b2), .val (.int (2 : Int32))] [])) _
    refine XS.iloadN X13.here hx rfl (hb hby d1_62) rfl ?_
    show Steps p.tables e below (T13.setTop (mkF m 63 #[.val (.int (11 : Int32)), .val (.long v0), .second, .val (.long v1), .second, .val (.long v2), .second, .val (.long v3), .second, .val (.int (3 : Int32)), .val (.ref b2), .val (.int (2 : Int32))] [(.int (11 : Int32))])) _
    refine XS.iconst X13.here hx rfl (hb hby d1_63) ?_
    show Steps p.tables e below (T13.setTop (mkF m 64 #[.val (.int (11 : Int32)), .val (.long v0), .second, .val (.long v1), .second, .val (.long v2), .second, .val (.long v3), .second, .val (.int (3 : Int32)), .val (.ref b2), .val (.int (2 : Int32))] [(.int (4 : Int32)), (.int (11 : Int32))])) _
    refine XS.iand X13.here hx rfl (hb hby d1_64) rfl ?_
    show Steps p.tables e below (T13.setTop (mkF m 65 #[.val (.int (11 : Int32)), .val (.long v0), .second, .val (.long v1), .second, .val (.long v2), .second, .val (.long v3), .second, .val (.int (3 : Int32)), .val (.ref b2), .val (.int (2 : Int32))] [(.int (0 : Int32))])) _
    refine XS.ifYes X13.here hx rfl (pc0 := 65) (pc' := 78) rfl (hb hby d1_65) rfl ((if0 _ _).trans (teq (by decide : (0 : Int32) = (0 : Int32))).1) (by decide) (by decide) ?_
    show Steps p.tables e below (T13.setTop (mkF m 78 #[.val (.int (11 : Int32)), .val (.long v0), .second, .val (.long v1), .second, .val (.long v2), .second, .val (.long v3), .second, .val (.int (3 : Int32)), .val (.ref b2), .val (.int (2 : Int32))] [])) _
    refine XS.iloadN X13.here hx rfl (hb hby d1_78) rfl ?_
    show Steps p.tables e below (T13.setTop (mkF m 79 #[.val (.int (11 : Int32)), .val (.long v0), .second, .val (.long v1), .second, .val (.long v2), .second, .val (.long v3), .second, .val (.int (3 : Int32)), .val (.ref b2), .val (.int (2 : Int32))] [(.int (11 : Int32))])) _
    refine XS.bipush X13.here hx rfl (hb hby d1_79) ?_
    show Steps p.tables e below (T13.setTop (mkF m 81 #[.val (.int (11 : Int32)), .val (.long v0), .second, .val (.long v1), .second, .val (.long v2), .second, .val (.long v3), .second, .val (.int (3 : Int32)), .val (.ref b2), .val (.int (2 : Int32))] [(.int (8 : Int32)), (.int (11 : Int32))])) _
    refine XS.iand X13.here hx rfl (hb hby d1_81) rfl ?_
    show Steps p.tables e below (T13.setTop (mkF m 82 #[.val (.int (11 : Int32)), .val (.long v0), .second, .val (.long v1), .second, .val (.long v2), .second, .val (.long v3), .second, .val (.int (3 : Int32)), .val (.ref b2), .val (.int (2 : Int32))] [(.int (8 : Int32))])) _
    refine XS.ifNo X13.here hx rfl (hb hby d1_82) rfl ((if0 _ _).trans (feq (by decide : ¬ ((8 : Int32) = (0 : Int32)))).1) ?_
    show Steps p.tables e below (T13.setTop (mkF m 85 #[.val (.int (11 : Int32)), .val (.long v0), .second, .val (.long v1), .second, .val (.long v2), .second, .val (.long v3), .second, .val (.int (3 : Int32)), .val (.ref b2), .val (.int (2 : Int32))] [])) _
    refine XS.aload X13.here hx rfl (hb hby d1_85) rfl rfl ?_
    show Steps p.tables e below (T13.setTop (mkF m 87 #[.val (.int (11 : Int32)), .val (.long v0), .second, .val (.long v1), .second, .val (.long v2), .second, .val (.long v3), .second, .val (.int (3 : Int32)), .val (.ref b2), .val (.int (2 : Int32))] [(.ref b2)])) _
    refine XS.iload X13.here hx rfl (hb hby d1_87) rfl ?_
    show Steps p.tables e below (T13.setTop (mkF m 89 #[.val (.int (11 : Int32)), .val (.long v0), .second, .val (.long v1), .second, .val (.long v2), .second, .val (.long v3), .second, .val (.int (3 : Int32)), .val (.ref b2), .val (.int (2 : Int32))] [(.int (2 : Int32)), (.ref b2)])) _
    refine XS.lload X13.here hx rfl (hb hby d1_89) rfl ?_
    show Steps p.tables e below (T13.setTop (mkF m 91 #[.val (.int (11 : Int32)), .val (.long v0), .second, .val (.long v1), .second, .val (.long v2), .second, .val (.long v3), .second, .val (.int (3 : Int32)), .val (.ref b2), .val (.int (2 : Int32))] [(.long v3), (.int (2 : Int32)), (.ref b2)])) _
    exact kt)
  obtain ⟨cl17, Ar17, q17, S17, M17, H17, G17⟩ := Va13
  have hin17 : ¬ ((2 : Int32) < 0 ∨ cl17.slots.size ≤ ((2 : Int32)).toNatClampNeg) := inb_of S17 ⟨by decide, by decide⟩
  obtain ⟨T17, h17, X17, e17, W17, st17⟩ := stJ X13 hx hZ e13 Ar17 (j := (2 : Int32)) hin17 (g := (mkF m 91 #[.val (.int (11 : Int32)), .val (.long v0), .second, .val (.long v1), .second, .val (.long v2), .second, .val (.long v3), .second, .val (.int (3 : Int32)), .val (.ref b2), .val (.int (2 : Int32))] [(.long v3), (.int (2 : Int32)), (.ref b2)])) rfl rfl (hb hby d1_91)
  have f18 := (f14).wr W17 ((Or.inr (Nat.le_trans ((Keep.refl h0 [])).1 (Nat.le_of_eq g2.symm))))
  have Va17 := Arv.set Ar17 q17 S17 M17 H17 G17 rfl W17 2 rfl (Nat.le_of_ble_eq_true rfl)
  have Nf17 := Fr.snoc X17 Nf13 gz3
  have Zf17 : n0 ≤ h17.size := Nat.le_trans Zf13 (Keep.of_wr W17).1
  have pre19 : ∀ t, Steps p.tables e below (T17.setTop (mkF m 92 #[.val (.int (11 : Int32)), .val (.long v0), .second, .val (.long v1), .second, .val (.long v2), .second, .val (.long v3), .second, .val (.int (3 : Int32)), .val (.ref b2), .val (.int (2 : Int32))] [])) t → Steps p.tables e below (s₁.setTop (entryFrame m #[(.int (11 : Int32)), (.long v0), (.long v1), (.long v2), (.long v3)] 12)) t := fun t kt => pre16 t (st17 _ kt)
  have pre20 : ∀ t, Steps p.tables e below (T17.setTop (mkF m 97 #[.val (.int (11 : Int32)), .val (.long v0), .second, .val (.long v1), .second, .val (.long v2), .second, .val (.long v3), .second, .val (.int (3 : Int32)), .val (.ref b2), .val (.int (3 : Int32))] [(.ref b2)])) t → Steps p.tables e below (s₁.setTop (entryFrame m #[(.int (11 : Int32)), (.long v0), (.long v1), (.long v2), (.long v3)] 12)) t := fun t kt => pre19 t (by
    refine XS.iinc X17.here hx rfl (hb hby d1_92) rfl (l' := #[.val (.int (11 : Int32)), .val (.long v0), .second, .val (.long v1), .second, .val (.long v2), .second, .val (.long v3), .second, .val (.int (3 : Int32)), .val (.ref b2), .val (.int (3 : Int32))]) rfl ?_
    show Steps p.tables e below (T17.setTop (mkF m 95 #[.val (.int (11 : Int32)), .val (.long v0), .second, .val (.long v1), .second, .val (.long v2), .second, .val (.long v3), .second, .val (.int (3 : Int32)), .val (.ref b2), .val (.int (3 : Int32))] [])) _
    refine XS.aload X17.here hx rfl (hb hby d1_95) rfl rfl ?_
    show Steps p.tables e below (T17.setTop (mkF m 97 #[.val (.int (11 : Int32)), .val (.long v0), .second, .val (.long v1), .second, .val (.long v2), .second, .val (.long v3), .second, .val (.int (3 : Int32)), .val (.ref b2), .val (.int (3 : Int32))] [(.ref b2)])) _
    exact kt)
  obtain ⟨fs, hr, hrun, hended, hW, hsame⟩ := X17.leave (v := (some (.ref b2))) (fun h => by rw [Bd.returns] at h; cases h)
  refine ⟨_, _, pre20 _ ?_, hrun, hended, _, _, rfl, ?_, ⟨_, rfl⟩, hW, hsame.mono (by decide) (by decide)⟩
  · exact retOut X17 hx Bd.returns rfl (Or.inr (Or.inr (Or.inr (Or.inr ⟨rfl, rfl, rfl⟩)))) (hb hby d1_97) hr
  · show QP Z [v0, v1, v3] h0 n0 _ T17.heap _
    rw [e17]
    exact ⟨_, rfl, Nf17, f18, gz3, (sz2), own_lg (xs := [v0, v1, v3]) Va17 rfl (by simp)⟩
theorem ef_rmP_12 (m : MethodId) (x0 : Int32) (x1 : Int64) (x2 : Int64) (x3 : Int64) (x4 : Int64) : entryFrame m #[(.int x0), (.long x1), (.long x2), (.long x3), (.long x4)] 12 = mkF m 0 #[.val (.int x0), .val (.long x1), .second, .val (.long x2), .second, .val (.long x3), .second, .val (.long x4), .second, .unset, .unset, .unset] [] := by first | (simp [entryFrame, mkF, argsToLocals, Value.category]; done) | rfl
set_option maxRecDepth 65536 in
set_option maxHeartbeats 40000000 in
theorem rmP_12 (l : Launch) (Z : State) (a0 : Array Value) (hw : ∀ d ∈ tables_1, d.before a0 Z = true) (ws : List Jvm.Cond) (v0 v1 v2 v3 : Int64) (h0 : Heap) (n0 : Nat) (Z0 : n0 ≤ h0.size)  :
    MetFree l (⟨"com/example/nest3/nest3/SubsetWithinPinLaw", "pick", "(IJJJJ)[J"⟩ : MethodName) (head1 (Jvm.Cond.code (⟨"com/example/nest3/nest3/SubsetWithinPinLaw", "pick", "(IJJJJ)[J"⟩ : MethodName) method_3_code 12 (some (.array .long)) :: ws) ({ frames := 0, cells := 1, slots := 4, locals := 0 } : Room)) (fun a U => a = #[(.int (12 : Int32)), (.long v0), (.long v1), (.long v2), (.long v3)] ∧ Z.Warmed39 U.vm ∧ U.heap = h0) (fun _ _ _ _ _ => True) (fun _ U o U' => ∃ v L, o = .returned v ∧ QP Z [v2, v3] h0 n0 v U'.heap L ∧ FrameEnd U o U' L ({ frames := 0, cells := 1, slots := 4, locals := 0 } : Room).cells ({ frames := 0, cells := 1, slots := 4, locals := 0 } : Room).slots) := by
  refine MetFree.of_bodySF (plainFor_of_name pn_com_example_nest3_nest3_SubsetWithinPinLaw) hisR ?_
  intro p e s m args below meth c s₁ Bd hml0 hP hK
  obtain ⟨rfl, hZ, hh⟩ := hP
  have hx := Bd.exec
  have hby := Bd.bytes
  have hml : c.maxLocals = 12 := hml0
  have hown : s.vm.findClass "com/example/nest3/nest3/SubsetWithinPinLaw" = some m.cls := findClass_of_methodNamed Bd.named
  have hnm := (name_of_methodNamed Bd.named Bd.method).1
  have X0 : Stand p l e ({ frames := 0, cells := 1, slots := 4, locals := 0 } : Room) s m #[(.int (12 : Int32)), (.long v0), (.long v1), (.long v2), (.long v3)] below meth c s₁ [] 0 0 := Stand.of_body Bd
  have e0 : s₁.heap = h0 := by rw [← hh, Bd.state]; rfl
  have N0 := Fr.nil n0
  have pre0 : ∀ t, Steps p.tables e below (s₁.setTop (mkF m 0 #[.val (.int (12 : Int32)), .val (.long v0), .second, .val (.long v1), .second, .val (.long v2), .second, .val (.long v3), .second, .unset, .unset, .unset] [])) t → Steps p.tables e below (s₁.setTop (entryFrame m #[(.int (12 : Int32)), (.long v0), (.long v1), (.long v2), (.long v3)] 12)) t := fun t kt => castTop (ef_rmP_12 m (12 : Int32) v0 v1 v2 v3) kt
  have pre1 : ∀ t, Steps p.tables e below (s₁.setTop (mkF m 25 #[.val (.int (12 : Int32)), .val (.long v0), .second, .val (.long v1), .second, .val (.long v2), .second, .val (.long v3), .second, .val (.int (2 : Int32)), .unset, .unset] [(.int (2 : Int32))])) t → Steps p.tables e below (s₁.setTop (entryFrame m #[(.int (12 : Int32)), (.long v0), (.long v1), (.long v2), (.long v3)] 12)) t := fun t kt => pre0 t (by
    refine XS.iloadN X0.here hx rfl (hb hby d1_0) rfl ?_
    show Steps p.tables e below (s₁.setTop (mkF m 1 #[.val (.int (12 : Int32)), .val (.long v0), .second, .val (.long v1), .second, .val (.long v2), .second, .val (.long v3), .second, .unset, .unset, .unset] [(.int (12 : Int32))])) _
    refine XS.iconst X0.here hx rfl (hb hby d1_1) ?_
    show Steps p.tables e below (s₁.setTop (mkF m 2 #[.val (.int (12 : Int32)), .val (.long v0), .second, .val (.long v1), .second, .val (.long v2), .second, .val (.long v3), .second, .unset, .unset, .unset] [(.int (1 : Int32)), (.int (12 : Int32))])) _
    refine XS.iand X0.here hx rfl (hb hby d1_2) rfl ?_
    show Steps p.tables e below (s₁.setTop (mkF m 3 #[.val (.int (12 : Int32)), .val (.long v0), .second, .val (.long v1), .second, .val (.long v2), .second, .val (.long v3), .second, .unset, .unset, .unset] [(.int (0 : Int32))])) _
    refine XS.iloadN X0.here hx rfl (hb hby d1_3) rfl ?_
    show Steps p.tables e below (s₁.setTop (mkF m 4 #[.val (.int (12 : Int32)), .val (.long v0), .second, .val (.long v1), .second, .val (.long v2), .second, .val (.long v3), .second, .unset, .unset, .unset] [(.int (12 : Int32)), (.int (0 : Int32))])) _
    refine XS.iconst X0.here hx rfl (hb hby d1_4) ?_
    show Steps p.tables e below (s₁.setTop (mkF m 5 #[.val (.int (12 : Int32)), .val (.long v0), .second, .val (.long v1), .second, .val (.long v2), .second, .val (.long v3), .second, .unset, .unset, .unset] [(.int (1 : Int32)), (.int (12 : Int32)), (.int (0 : Int32))])) _
    refine XS.iushr X0.here hx rfl (hb hby d1_5) rfl ?_
    show Steps p.tables e below (s₁.setTop (mkF m 6 #[.val (.int (12 : Int32)), .val (.long v0), .second, .val (.long v1), .second, .val (.long v2), .second, .val (.long v3), .second, .unset, .unset, .unset] [(.int (6 : Int32)), (.int (0 : Int32))])) _
    refine XS.iconst X0.here hx rfl (hb hby d1_6) ?_
    show Steps p.tables e below (s₁.setTop (mkF m 7 #[.val (.int (12 : Int32)), .val (.long v0), .second, .val (.long v1), .second, .val (.long v2), .second, .val (.long v3), .second, .unset, .unset, .unset] [(.int (1 : Int32)), (.int (6 : Int32)), (.int (0 : Int32))])) _
    refine XS.iand X0.here hx rfl (hb hby d1_7) rfl ?_
    show Steps p.tables e below (s₁.setTop (mkF m 8 #[.val (.int (12 : Int32)), .val (.long v0), .second, .val (.long v1), .second, .val (.long v2), .second, .val (.long v3), .second, .unset, .unset, .unset] [(.int (0 : Int32)), (.int (0 : Int32))])) _
    refine XS.iadd X0.here hx rfl (hb hby d1_8) rfl ?_
    show Steps p.tables e below (s₁.setTop (mkF m 9 #[.val (.int (12 : Int32)), .val (.long v0), .second, .val (.long v1), .second, .val (.long v2), .second, .val (.long v3), .second, .unset, .unset, .unset] [(.int (0 : Int32))])) _
    refine XS.iloadN X0.here hx rfl (hb hby d1_9) rfl ?_
    show Steps p.tables e below (s₁.setTop (mkF m 10 #[.val (.int (12 : Int32)), .val (.long v0), .second, .val (.long v1), .second, .val (.long v2), .second, .val (.long v3), .second, .unset, .unset, .unset] [(.int (12 : Int32)), (.int (0 : Int32))])) _
    refine XS.iconst X0.here hx rfl (hb hby d1_10) ?_
    show Steps p.tables e below (s₁.setTop (mkF m 11 #[.val (.int (12 : Int32)), .val (.long v0), .second, .val (.long v1), .second, .val (.long v2), .second, .val (.long v3), .second, .unset, .unset, .unset] [(.int (2 : Int32)), (.int (12 : Int32)), (.int (0 : Int32))])) _
    refine XS.iushr X0.here hx rfl (hb hby d1_11) rfl ?_
    show Steps p.tables e below (s₁.setTop (mkF m 12 #[.val (.int (12 : Int32)), .val (.long v0), .second, .val (.long v1), .second, .val (.long v2), .second, .val (.long v3), .second, .unset, .unset, .unset] [(.int (3 : Int32)), (.int (0 : Int32))])) _
    refine XS.iconst X0.here hx rfl (hb hby d1_12) ?_
    show Steps p.tables e below (s₁.setTop (mkF m 13 #[.val (.int (12 : Int32)), .val (.long v0), .second, .val (.long v1), .second, .val (.long v2), .second, .val (.long v3), .second, .unset, .unset, .unset] [(.int (1 : Int32)), (.int (3 : Int32)), (.int (0 : Int32))])) _
    refine XS.iand X0.here hx rfl (hb hby d1_13) rfl ?_
    show Steps p.tables e below (s₁.setTop (mkF m 14 #[.val (.int (12 : Int32)), .val (.long v0), .second, .val (.long v1), .second, .val (.long v2), .second, .val (.long v3), .second, .unset, .unset, .unset] [(.int (1 : Int32)), (.int (0 : Int32))])) _
    refine XS.iadd X0.here hx rfl (hb hby d1_14) rfl ?_
    show Steps p.tables e below (s₁.setTop (mkF m 15 #[.val (.int (12 : Int32)), .val (.long v0), .second, .val (.long v1), .second, .val (.long v2), .second, .val (.long v3), .second, .unset, .unset, .unset] [(.int (1 : Int32))])) _
    refine XS.iloadN X0.here hx rfl (hb hby d1_15) rfl ?_
    show Steps p.tables e below (s₁.setTop (mkF m 16 #[.val (.int (12 : Int32)), .val (.long v0), .second, .val (.long v1), .second, .val (.long v2), .second, .val (.long v3), .second, .unset, .unset, .unset] [(.int (12 : Int32)), (.int (1 : Int32))])) _
    refine XS.iconst X0.here hx rfl (hb hby d1_16) ?_
    show Steps p.tables e below (s₁.setTop (mkF m 17 #[.val (.int (12 : Int32)), .val (.long v0), .second, .val (.long v1), .second, .val (.long v2), .second, .val (.long v3), .second, .unset, .unset, .unset] [(.int (3 : Int32)), (.int (12 : Int32)), (.int (1 : Int32))])) _
    refine XS.iushr X0.here hx rfl (hb hby d1_17) rfl ?_
    show Steps p.tables e below (s₁.setTop (mkF m 18 #[.val (.int (12 : Int32)), .val (.long v0), .second, .val (.long v1), .second, .val (.long v2), .second, .val (.long v3), .second, .unset, .unset, .unset] [(.int (1 : Int32)), (.int (1 : Int32))])) _
    refine XS.iconst X0.here hx rfl (hb hby d1_18) ?_
    show Steps p.tables e below (s₁.setTop (mkF m 19 #[.val (.int (12 : Int32)), .val (.long v0), .second, .val (.long v1), .second, .val (.long v2), .second, .val (.long v3), .second, .unset, .unset, .unset] [(.int (1 : Int32)), (.int (1 : Int32)), (.int (1 : Int32))])) _
    refine XS.iand X0.here hx rfl (hb hby d1_19) rfl ?_
    show Steps p.tables e below (s₁.setTop (mkF m 20 #[.val (.int (12 : Int32)), .val (.long v0), .second, .val (.long v1), .second, .val (.long v2), .second, .val (.long v3), .second, .unset, .unset, .unset] [(.int (1 : Int32)), (.int (1 : Int32))])) _
    refine XS.iadd X0.here hx rfl (hb hby d1_20) rfl ?_
    show Steps p.tables e below (s₁.setTop (mkF m 21 #[.val (.int (12 : Int32)), .val (.long v0), .second, .val (.long v1), .second, .val (.long v2), .second, .val (.long v3), .second, .unset, .unset, .unset] [(.int (2 : Int32))])) _
    refine XS.istore X0.here hx rfl (hb hby d1_21) rfl (l' := #[.val (.int (12 : Int32)), .val (.long v0), .second, .val (.long v1), .second, .val (.long v2), .second, .val (.long v3), .second, .val (.int (2 : Int32)), .unset, .unset]) rfl ?_
    show Steps p.tables e below (s₁.setTop (mkF m 23 #[.val (.int (12 : Int32)), .val (.long v0), .second, .val (.long v1), .second, .val (.long v2), .second, .val (.long v3), .second, .val (.int (2 : Int32)), .unset, .unset] [])) _
    refine XS.iload X0.here hx rfl (hb hby d1_23) rfl ?_
    show Steps p.tables e below (s₁.setTop (mkF m 25 #[.val (.int (12 : Int32)), .val (.long v0), .second, .val (.long v1), .second, .val (.long v2), .second, .val (.long v3), .second, .val (.int (2 : Int32)), .unset, .unset] [(.int (2 : Int32))])) _
    exact kt)
  obtain ⟨T2, h2, k2, X2, e2, E2, A2, st2⟩ := newP X0 hx hZ (hw _ (List.mem_of_getElem? (i := 7) rfl)) e0 (g := (mkF m 25 #[.val (.int (12 : Int32)), .val (.long v0), .second, .val (.long v1), .second, .val (.long v2), .second, .val (.long v3), .second, .val (.int (2 : Int32)), .unset, .unset] [(.int (2 : Int32))])) rfl (hb hby d1_25) rfl (by decide) (cap := 2) (by decide) (by decide) (by decide) (by decide)
  obtain ⟨b2, g2⟩ : ∃ z, z = h0.size := ⟨_, rfl⟩
  rw [← g2] at A2 st2
  have gz3 : n0 ≤ b2 := Nat.le_trans Z0 (Nat.le_of_eq g2.symm)
  have f5 := ((Keep.refl h0 [])).ext E2
  have Zf6 : n0 ≤ h2.size := Nat.le_trans Z0 E2.1
  have sz2 : h0.size ≤ b2 := Nat.le_of_eq g2.symm
  have V2 : Arv Z h2 b2 k2 .long (2 : Int32) [(.long (0 : Int64)), (.long (0 : Int64))] (.long (0 : Int64)) := (Arv.new A2 (by decide)).pad (pad_rep [] (.long (0 : Int64)) 2)
  have pre7 : ∀ t, Steps p.tables e below (T2.setTop (mkF m 27 #[.val (.int (12 : Int32)), .val (.long v0), .second, .val (.long v1), .second, .val (.long v2), .second, .val (.long v3), .second, .val (.int (2 : Int32)), .unset, .unset] [(.ref b2)])) t → Steps p.tables e below (s₁.setTop (entryFrame m #[(.int (12 : Int32)), (.long v0), (.long v1), (.long v2), (.long v3)] 12)) t := fun t kt => pre1 t (st2 _ kt)
  have pre8 : ∀ t, Steps p.tables e below (T2.setTop (mkF m 74 #[.val (.int (12 : Int32)), .val (.long v0), .second, .val (.long v1), .second, .val (.long v2), .second, .val (.long v3), .second, .val (.int (2 : Int32)), .val (.ref b2), .val (.int (0 : Int32))] [(.long v2), (.int (0 : Int32)), (.ref b2)])) t → Steps p.tables e below (s₁.setTop (entryFrame m #[(.int (12 : Int32)), (.long v0), (.long v1), (.long v2), (.long v3)] 12)) t := fun t kt => pre7 t (by
    refine XS.astore X2.here hx rfl (hb hby d1_27) rfl rfl (l' := #[.val (.int (12 : Int32)), .val (.long v0), .second, .val (.long v1), .second, .val (.long v2), .second, .val (.long v3), .second, .val (.int (2 : Int32)), .val (.ref b2), .unset]) rfl ?_
    show Steps p.tables e below (T2.setTop (mkF m 29 #[.val (.int (12 : Int32)), .val (.long v0), .second, .val (.long v1), .second, .val (.long v2), .second, .val (.long v3), .second, .val (.int (2 : Int32)), .val (.ref b2), .unset] [])) _
    refine XS.iconst X2.here hx rfl (hb hby d1_29) ?_
    show Steps p.tables e below (T2.setTop (mkF m 30 #[.val (.int (12 : Int32)), .val (.long v0), .second, .val (.long v1), .second, .val (.long v2), .second, .val (.long v3), .second, .val (.int (2 : Int32)), .val (.ref b2), .unset] [(.int (0 : Int32))])) _
    refine XS.istore X2.here hx rfl (hb hby d1_30) rfl (l' := #[.val (.int (12 : Int32)), .val (.long v0), .second, .val (.long v1), .second, .val (.long v2), .second, .val (.long v3), .second, .val (.int (2 : Int32)), .val (.ref b2), .val (.int (0 : Int32))]) rfl ?_
    show Steps p.tables e below (T2.setTop (mkF m 32 #[.val (.int (12 : Int32)), .val (.long v0), .second, .val (.long v1), .second, .val (.long v2), .second, .val (.long v3), .second, .val (.int (2 : Int32)), .val (.ref b2), .val (.int (0 : Int32))] [])) _
    refine XS.iloadN X2.here hx rfl (hb hby d1_32) rfl ?_
    show Steps p.tables e below (T2.setTop (mkF m 33 #[.val (.int (12 : Int32)), .val (.long v0), .second, .val (.long v1), .second, .val (.long v2), .second, .val (.long v3), .second, .val (.int (2 : Int32)), .val (.ref b2), .val (.int (0 : Int32))] [(.int (12 : Int32))])) _
    refine XS.iconst X2.here hx rfl (hb hby d1_33) ?_
    show Steps p.tables e below (T2.setTop (mkF m 34 #[.val (.int (12 : Int32)), .val (.long v0), .second, .val (.long v1), .second, .val (.long v2), .second, .val (.long v3), .second, .val (.int (2 : Int32)), .val (.ref b2), .val (.int (0 : Int32))] [(.int (1 : Int32)), (.int (12 : Int32))])) _
    refine XS.iand X2.here hx rfl (hb hby d1_34) rfl ?_
    show Steps p.tables e below (T2.setTop (mkF m 35 #[.val (.int (12 : Int32)), .val (.long v0), .second, .val (.long v1), .second, .val (.long v2), .second, .val (.long v3), .second, .val (.int (2 : Int32)), .val (.ref b2), .val (.int (0 : Int32))] [(.int (0 : Int32))])) _
    refine XS.ifYes X2.here hx rfl (pc0 := 35) (pc' := 47) rfl (hb hby d1_35) rfl ((if0 _ _).trans (teq (by decide : (0 : Int32) = (0 : Int32))).1) (by decide) (by decide) ?_
    show Steps p.tables e below (T2.setTop (mkF m 47 #[.val (.int (12 : Int32)), .val (.long v0), .second, .val (.long v1), .second, .val (.long v2), .second, .val (.long v3), .second, .val (.int (2 : Int32)), .val (.ref b2), .val (.int (0 : Int32))] [])) _
    refine XS.iloadN X2.here hx rfl (hb hby d1_47) rfl ?_
    show Steps p.tables e below (T2.setTop (mkF m 48 #[.val (.int (12 : Int32)), .val (.long v0), .second, .val (.long v1), .second, .val (.long v2), .second, .val (.long v3), .second, .val (.int (2 : Int32)), .val (.ref b2), .val (.int (0 : Int32))] [(.int (12 : Int32))])) _
    refine XS.iconst X2.here hx rfl (hb hby d1_48) ?_
    show Steps p.tables e below (T2.setTop (mkF m 49 #[.val (.int (12 : Int32)), .val (.long v0), .second, .val (.long v1), .second, .val (.long v2), .second, .val (.long v3), .second, .val (.int (2 : Int32)), .val (.ref b2), .val (.int (0 : Int32))] [(.int (2 : Int32)), (.int (12 : Int32))])) _
    refine XS.iand X2.here hx rfl (hb hby d1_49) rfl ?_
    show Steps p.tables e below (T2.setTop (mkF m 50 #[.val (.int (12 : Int32)), .val (.long v0), .second, .val (.long v1), .second, .val (.long v2), .second, .val (.long v3), .second, .val (.int (2 : Int32)), .val (.ref b2), .val (.int (0 : Int32))] [(.int (0 : Int32))])) _
    refine XS.ifYes X2.here hx rfl (pc0 := 50) (pc' := 62) rfl (hb hby d1_50) rfl ((if0 _ _).trans (teq (by decide : (0 : Int32) = (0 : Int32))).1) (by decide) (by decide) ?_
    show Steps p.tables e below (T2.setTop (mkF m 62 #[.val (.int (12 : Int32)), .val (.long v0), .second, .val (.long v1), .second, .val (.long v2), .second, .val (.long v3), .second, .val (.int (2 : Int32)), .val (.ref b2), .val (.int (0 : Int32))] [])) _
    refine XS.iloadN X2.here hx rfl (hb hby d1_62) rfl ?_
    show Steps p.tables e below (T2.setTop (mkF m 63 #[.val (.int (12 : Int32)), .val (.long v0), .second, .val (.long v1), .second, .val (.long v2), .second, .val (.long v3), .second, .val (.int (2 : Int32)), .val (.ref b2), .val (.int (0 : Int32))] [(.int (12 : Int32))])) _
    refine XS.iconst X2.here hx rfl (hb hby d1_63) ?_
    show Steps p.tables e below (T2.setTop (mkF m 64 #[.val (.int (12 : Int32)), .val (.long v0), .second, .val (.long v1), .second, .val (.long v2), .second, .val (.long v3), .second, .val (.int (2 : Int32)), .val (.ref b2), .val (.int (0 : Int32))] [(.int (4 : Int32)), (.int (12 : Int32))])) _
    refine XS.iand X2.here hx rfl (hb hby d1_64) rfl ?_
    show Steps p.tables e below (T2.setTop (mkF m 65 #[.val (.int (12 : Int32)), .val (.long v0), .second, .val (.long v1), .second, .val (.long v2), .second, .val (.long v3), .second, .val (.int (2 : Int32)), .val (.ref b2), .val (.int (0 : Int32))] [(.int (4 : Int32))])) _
    refine XS.ifNo X2.here hx rfl (hb hby d1_65) rfl ((if0 _ _).trans (feq (by decide : ¬ ((4 : Int32) = (0 : Int32)))).1) ?_
    show Steps p.tables e below (T2.setTop (mkF m 68 #[.val (.int (12 : Int32)), .val (.long v0), .second, .val (.long v1), .second, .val (.long v2), .second, .val (.long v3), .second, .val (.int (2 : Int32)), .val (.ref b2), .val (.int (0 : Int32))] [])) _
    refine XS.aload X2.here hx rfl (hb hby d1_68) rfl rfl ?_
    show Steps p.tables e below (T2.setTop (mkF m 70 #[.val (.int (12 : Int32)), .val (.long v0), .second, .val (.long v1), .second, .val (.long v2), .second, .val (.long v3), .second, .val (.int (2 : Int32)), .val (.ref b2), .val (.int (0 : Int32))] [(.ref b2)])) _
    refine XS.iload X2.here hx rfl (hb hby d1_70) rfl ?_
    show Steps p.tables e below (T2.setTop (mkF m 72 #[.val (.int (12 : Int32)), .val (.long v0), .second, .val (.long v1), .second, .val (.long v2), .second, .val (.long v3), .second, .val (.int (2 : Int32)), .val (.ref b2), .val (.int (0 : Int32))] [(.int (0 : Int32)), (.ref b2)])) _
    refine XS.lload X2.here hx rfl (hb hby d1_72) rfl ?_
    show Steps p.tables e below (T2.setTop (mkF m 74 #[.val (.int (12 : Int32)), .val (.long v0), .second, .val (.long v1), .second, .val (.long v2), .second, .val (.long v3), .second, .val (.int (2 : Int32)), .val (.ref b2), .val (.int (0 : Int32))] [(.long v2), (.int (0 : Int32)), (.ref b2)])) _
    exact kt)
  obtain ⟨cl9, Ar9, q9, S9, M9, H9, G9⟩ := V2
  have hin9 : ¬ ((0 : Int32) < 0 ∨ cl9.slots.size ≤ ((0 : Int32)).toNatClampNeg) := inb_of S9 ⟨by decide, by decide⟩
  obtain ⟨T9, h9, X9, e9, W9, st9⟩ := stJ X2 hx hZ e2 Ar9 (j := (0 : Int32)) hin9 (g := (mkF m 74 #[.val (.int (12 : Int32)), .val (.long v0), .second, .val (.long v1), .second, .val (.long v2), .second, .val (.long v3), .second, .val (.int (2 : Int32)), .val (.ref b2), .val (.int (0 : Int32))] [(.long v2), (.int (0 : Int32)), (.ref b2)])) rfl rfl (hb hby d1_74)
  have f10 := (f5).wr W9 ((Or.inr (Nat.le_trans ((Keep.refl h0 [])).1 (Nat.le_of_eq g2.symm))))
  have Va9 := Arv.set Ar9 q9 S9 M9 H9 G9 rfl W9 0 rfl (Nat.le_of_ble_eq_true rfl)
  have Nf9 := Fr.snoc X9 N0 gz3
  have Zf9 : n0 ≤ h9.size := Nat.le_trans Zf6 (Keep.of_wr W9).1
  have pre11 : ∀ t, Steps p.tables e below (T9.setTop (mkF m 75 #[.val (.int (12 : Int32)), .val (.long v0), .second, .val (.long v1), .second, .val (.long v2), .second, .val (.long v3), .second, .val (.int (2 : Int32)), .val (.ref b2), .val (.int (0 : Int32))] [])) t → Steps p.tables e below (s₁.setTop (entryFrame m #[(.int (12 : Int32)), (.long v0), (.long v1), (.long v2), (.long v3)] 12)) t := fun t kt => pre8 t (st9 _ kt)
  have pre12 : ∀ t, Steps p.tables e below (T9.setTop (mkF m 91 #[.val (.int (12 : Int32)), .val (.long v0), .second, .val (.long v1), .second, .val (.long v2), .second, .val (.long v3), .second, .val (.int (2 : Int32)), .val (.ref b2), .val (.int (1 : Int32))] [(.long v3), (.int (1 : Int32)), (.ref b2)])) t → Steps p.tables e below (s₁.setTop (entryFrame m #[(.int (12 : Int32)), (.long v0), (.long v1), (.long v2), (.long v3)] 12)) t := fun t kt => pre11 t (by
    refine XS.iinc X9.here hx rfl (hb hby d1_75) rfl (l' := #[.val (.int (12 : Int32)), .val (.long v0), .second, .val (.long v1), .second, .val (.long v2), .second, .val (.long v3), .second, .val (.int (2 : Int32)), .val (.ref b2), .val (.int (1 : Int32))]) rfl ?_
    show Steps p.tables e below (T9.setTop (mkF m 78 #[.val (.int (12 : Int32)), .val (.long v0), .second, .val (.long v1), .second, .val (.long v2), .second, .val (.long v3), .second, .val (.int (2 : Int32)), .val (.ref b2), .val (.int (1 : Int32))] [])) _
    refine XS.iloadN X9.here hx rfl (hb hby d1_78) rfl ?_
    show Steps p.tables e below (T9.setTop (mkF m 79 #[.val (.int (12 : Int32)), .val (.long v0), .second, .val (.long v1), .second, .val (.long v2), .second, .val (.long v3), .second, .val (.int (2 : Int32)), .val (.ref b2), .val (.int (1 : Int32))] [(.int (12 : Int32))])) _
    refine XS.bipush X9.here hx rfl (hb hby d1_79) ?_
    show Steps p.tables e below (T9.setTop (mkF m 81 #[.val (.int (12 : Int32)), .val (.long v0), .second, .val (.long v1), .second, .val (.long v2), .second, .val (.long v3), .second, .val (.int (2 : Int32)), .val (.ref b2), .val (.int (1 : Int32))] [(.int (8 : Int32)), (.int (12 : Int32))])) _
    refine XS.iand X9.here hx rfl (hb hby d1_81) rfl ?_
    show Steps p.tables e below (T9.setTop (mkF m 82 #[.val (.int (12 : Int32)), .val (.long v0), .second, .val (.long v1), .second, .val (.long v2), .second, .val (.long v3), .second, .val (.int (2 : Int32)), .val (.ref b2), .val (.int (1 : Int32))] [(.int (8 : Int32))])) _
    refine XS.ifNo X9.here hx rfl (hb hby d1_82) rfl ((if0 _ _).trans (feq (by decide : ¬ ((8 : Int32) = (0 : Int32)))).1) ?_
    show Steps p.tables e below (T9.setTop (mkF m 85 #[.val (.int (12 : Int32)), .val (.long v0), .second, .val (.long v1), .second, .val (.long v2), .second, .val (.long v3), .second, .val (.int (2 : Int32)), .val (.ref b2), .val (.int (1 : Int32))] [])) _
    refine XS.aload X9.here hx rfl (hb hby d1_85) rfl rfl ?_
    show Steps p.tables e below (T9.setTop (mkF m 87 #[.val (.int (12 : Int32)), .val (.long v0), .second, .val (.long v1), .second, .val (.long v2), .second, .val (.long v3), .second, .val (.int (2 : Int32)), .val (.ref b2), .val (.int (1 : Int32))] [(.ref b2)])) _
    refine XS.iload X9.here hx rfl (hb hby d1_87) rfl ?_
    show Steps p.tables e below (T9.setTop (mkF m 89 #[.val (.int (12 : Int32)), .val (.long v0), .second, .val (.long v1), .second, .val (.long v2), .second, .val (.long v3), .second, .val (.int (2 : Int32)), .val (.ref b2), .val (.int (1 : Int32))] [(.int (1 : Int32)), (.ref b2)])) _
    refine XS.lload X9.here hx rfl (hb hby d1_89) rfl ?_
    show Steps p.tables e below (T9.setTop (mkF m 91 #[.val (.int (12 : Int32)), .val (.long v0), .second, .val (.long v1), .second, .val (.long v2), .second, .val (.long v3), .second, .val (.int (2 : Int32)), .val (.ref b2), .val (.int (1 : Int32))] [(.long v3), (.int (1 : Int32)), (.ref b2)])) _
    exact kt)
  obtain ⟨cl13, Ar13, q13, S13, M13, H13, G13⟩ := Va9
  have hin13 : ¬ ((1 : Int32) < 0 ∨ cl13.slots.size ≤ ((1 : Int32)).toNatClampNeg) := inb_of S13 ⟨by decide, by decide⟩
  obtain ⟨T13, h13, X13, e13, W13, st13⟩ := stJ X9 hx hZ e9 Ar13 (j := (1 : Int32)) hin13 (g := (mkF m 91 #[.val (.int (12 : Int32)), .val (.long v0), .second, .val (.long v1), .second, .val (.long v2), .second, .val (.long v3), .second, .val (.int (2 : Int32)), .val (.ref b2), .val (.int (1 : Int32))] [(.long v3), (.int (1 : Int32)), (.ref b2)])) rfl rfl (hb hby d1_91)
  have f14 := (f10).wr W13 ((Or.inr (Nat.le_trans ((Keep.refl h0 [])).1 (Nat.le_of_eq g2.symm))))
  have Va13 := Arv.set Ar13 q13 S13 M13 H13 G13 rfl W13 1 rfl (Nat.le_of_ble_eq_true rfl)
  have Nf13 := Fr.snoc X13 Nf9 gz3
  have Zf13 : n0 ≤ h13.size := Nat.le_trans Zf9 (Keep.of_wr W13).1
  have pre15 : ∀ t, Steps p.tables e below (T13.setTop (mkF m 92 #[.val (.int (12 : Int32)), .val (.long v0), .second, .val (.long v1), .second, .val (.long v2), .second, .val (.long v3), .second, .val (.int (2 : Int32)), .val (.ref b2), .val (.int (1 : Int32))] [])) t → Steps p.tables e below (s₁.setTop (entryFrame m #[(.int (12 : Int32)), (.long v0), (.long v1), (.long v2), (.long v3)] 12)) t := fun t kt => pre12 t (st13 _ kt)
  have pre16 : ∀ t, Steps p.tables e below (T13.setTop (mkF m 97 #[.val (.int (12 : Int32)), .val (.long v0), .second, .val (.long v1), .second, .val (.long v2), .second, .val (.long v3), .second, .val (.int (2 : Int32)), .val (.ref b2), .val (.int (2 : Int32))] [(.ref b2)])) t → Steps p.tables e below (s₁.setTop (entryFrame m #[(.int (12 : Int32)), (.long v0), (.long v1), (.long v2), (.long v3)] 12)) t := fun t kt => pre15 t (by
    refine XS.iinc X13.here hx rfl (hb hby d1_92) rfl (l' := #[.val (.int (12 : Int32)), .val (.long v0), .second, .val (.long v1), .second, .val (.long v2), .second, .val (.long v3), .second, .val (.int (2 : Int32)), .val (.ref b2), .val (.int (2 : Int32))]) rfl ?_
    show Steps p.tables e below (T13.setTop (mkF m 95 #[.val (.int (12 : Int32)), .val (.long v0), .second, .val (.long v1), .second, .val (.long v2), .second, .val (.long v3), .second, .val (.int (2 : Int32)), .val (.ref b2), .val (.int (2 : Int32))] [])) _
    refine XS.aload X13.here hx rfl (hb hby d1_95) rfl rfl ?_
    show Steps p.tables e below (T13.setTop (mkF m 97 #[.val (.int (12 : Int32)), .val (.long v0), .second, .val (.long v1), .second, .val (.long v2), .second, .val (.long v3), .second, .val (.int (2 : Int32)), .val (.ref b2), .val (.int (2 : Int32))] [(.ref b2)])) _
    exact kt)
  obtain ⟨fs, hr, hrun, hended, hW, hsame⟩ := X13.leave (v := (some (.ref b2))) (fun h => by rw [Bd.returns] at h; cases h)
  refine ⟨_, _, pre16 _ ?_, hrun, hended, _, _, rfl, ?_, ⟨_, rfl⟩, hW, hsame.mono (by decide) (by decide)⟩
  · exact retOut X13 hx Bd.returns rfl (Or.inr (Or.inr (Or.inr (Or.inr ⟨rfl, rfl, rfl⟩)))) (hb hby d1_97) hr
  · show QP Z [v2, v3] h0 n0 _ T13.heap _
    rw [e13]
    exact ⟨_, rfl, Nf13, f14, gz3, (sz2), own_lg (xs := [v2, v3]) Va13 rfl (by simp)⟩
theorem ef_rmP_13 (m : MethodId) (x0 : Int32) (x1 : Int64) (x2 : Int64) (x3 : Int64) (x4 : Int64) : entryFrame m #[(.int x0), (.long x1), (.long x2), (.long x3), (.long x4)] 12 = mkF m 0 #[.val (.int x0), .val (.long x1), .second, .val (.long x2), .second, .val (.long x3), .second, .val (.long x4), .second, .unset, .unset, .unset] [] := by first | (simp [entryFrame, mkF, argsToLocals, Value.category]; done) | rfl
set_option maxRecDepth 65536 in
set_option maxHeartbeats 40000000 in
theorem rmP_13 (l : Launch) (Z : State) (a0 : Array Value) (hw : ∀ d ∈ tables_1, d.before a0 Z = true) (ws : List Jvm.Cond) (v0 v1 v2 v3 : Int64) (h0 : Heap) (n0 : Nat) (Z0 : n0 ≤ h0.size)  :
    MetFree l (⟨"com/example/nest3/nest3/SubsetWithinPinLaw", "pick", "(IJJJJ)[J"⟩ : MethodName) (head1 (Jvm.Cond.code (⟨"com/example/nest3/nest3/SubsetWithinPinLaw", "pick", "(IJJJJ)[J"⟩ : MethodName) method_3_code 12 (some (.array .long)) :: ws) ({ frames := 0, cells := 1, slots := 4, locals := 0 } : Room)) (fun a U => a = #[(.int (13 : Int32)), (.long v0), (.long v1), (.long v2), (.long v3)] ∧ Z.Warmed39 U.vm ∧ U.heap = h0) (fun _ _ _ _ _ => True) (fun _ U o U' => ∃ v L, o = .returned v ∧ QP Z [v0, v2, v3] h0 n0 v U'.heap L ∧ FrameEnd U o U' L ({ frames := 0, cells := 1, slots := 4, locals := 0 } : Room).cells ({ frames := 0, cells := 1, slots := 4, locals := 0 } : Room).slots) := by
  refine MetFree.of_bodySF (plainFor_of_name pn_com_example_nest3_nest3_SubsetWithinPinLaw) hisR ?_
  intro p e s m args below meth c s₁ Bd hml0 hP hK
  obtain ⟨rfl, hZ, hh⟩ := hP
  have hx := Bd.exec
  have hby := Bd.bytes
  have hml : c.maxLocals = 12 := hml0
  have hown : s.vm.findClass "com/example/nest3/nest3/SubsetWithinPinLaw" = some m.cls := findClass_of_methodNamed Bd.named
  have hnm := (name_of_methodNamed Bd.named Bd.method).1
  have X0 : Stand p l e ({ frames := 0, cells := 1, slots := 4, locals := 0 } : Room) s m #[(.int (13 : Int32)), (.long v0), (.long v1), (.long v2), (.long v3)] below meth c s₁ [] 0 0 := Stand.of_body Bd
  have e0 : s₁.heap = h0 := by rw [← hh, Bd.state]; rfl
  have N0 := Fr.nil n0
  have pre0 : ∀ t, Steps p.tables e below (s₁.setTop (mkF m 0 #[.val (.int (13 : Int32)), .val (.long v0), .second, .val (.long v1), .second, .val (.long v2), .second, .val (.long v3), .second, .unset, .unset, .unset] [])) t → Steps p.tables e below (s₁.setTop (entryFrame m #[(.int (13 : Int32)), (.long v0), (.long v1), (.long v2), (.long v3)] 12)) t := fun t kt => castTop (ef_rmP_13 m (13 : Int32) v0 v1 v2 v3) kt
  have pre1 : ∀ t, Steps p.tables e below (s₁.setTop (mkF m 25 #[.val (.int (13 : Int32)), .val (.long v0), .second, .val (.long v1), .second, .val (.long v2), .second, .val (.long v3), .second, .val (.int (3 : Int32)), .unset, .unset] [(.int (3 : Int32))])) t → Steps p.tables e below (s₁.setTop (entryFrame m #[(.int (13 : Int32)), (.long v0), (.long v1), (.long v2), (.long v3)] 12)) t := fun t kt => pre0 t (by
    refine XS.iloadN X0.here hx rfl (hb hby d1_0) rfl ?_
    show Steps p.tables e below (s₁.setTop (mkF m 1 #[.val (.int (13 : Int32)), .val (.long v0), .second, .val (.long v1), .second, .val (.long v2), .second, .val (.long v3), .second, .unset, .unset, .unset] [(.int (13 : Int32))])) _
    refine XS.iconst X0.here hx rfl (hb hby d1_1) ?_
    show Steps p.tables e below (s₁.setTop (mkF m 2 #[.val (.int (13 : Int32)), .val (.long v0), .second, .val (.long v1), .second, .val (.long v2), .second, .val (.long v3), .second, .unset, .unset, .unset] [(.int (1 : Int32)), (.int (13 : Int32))])) _
    refine XS.iand X0.here hx rfl (hb hby d1_2) rfl ?_
    show Steps p.tables e below (s₁.setTop (mkF m 3 #[.val (.int (13 : Int32)), .val (.long v0), .second, .val (.long v1), .second, .val (.long v2), .second, .val (.long v3), .second, .unset, .unset, .unset] [(.int (1 : Int32))])) _
    refine XS.iloadN X0.here hx rfl (hb hby d1_3) rfl ?_
    show Steps p.tables e below (s₁.setTop (mkF m 4 #[.val (.int (13 : Int32)), .val (.long v0), .second, .val (.long v1), .second, .val (.long v2), .second, .val (.long v3), .second, .unset, .unset, .unset] [(.int (13 : Int32)), (.int (1 : Int32))])) _
    refine XS.iconst X0.here hx rfl (hb hby d1_4) ?_
    show Steps p.tables e below (s₁.setTop (mkF m 5 #[.val (.int (13 : Int32)), .val (.long v0), .second, .val (.long v1), .second, .val (.long v2), .second, .val (.long v3), .second, .unset, .unset, .unset] [(.int (1 : Int32)), (.int (13 : Int32)), (.int (1 : Int32))])) _
    refine XS.iushr X0.here hx rfl (hb hby d1_5) rfl ?_
    show Steps p.tables e below (s₁.setTop (mkF m 6 #[.val (.int (13 : Int32)), .val (.long v0), .second, .val (.long v1), .second, .val (.long v2), .second, .val (.long v3), .second, .unset, .unset, .unset] [(.int (6 : Int32)), (.int (1 : Int32))])) _
    refine XS.iconst X0.here hx rfl (hb hby d1_6) ?_
    show Steps p.tables e below (s₁.setTop (mkF m 7 #[.val (.int (13 : Int32)), .val (.long v0), .second, .val (.long v1), .second, .val (.long v2), .second, .val (.long v3), .second, .unset, .unset, .unset] [(.int (1 : Int32)), (.int (6 : Int32)), (.int (1 : Int32))])) _
    refine XS.iand X0.here hx rfl (hb hby d1_7) rfl ?_
    show Steps p.tables e below (s₁.setTop (mkF m 8 #[.val (.int (13 : Int32)), .val (.long v0), .second, .val (.long v1), .second, .val (.long v2), .second, .val (.long v3), .second, .unset, .unset, .unset] [(.int (0 : Int32)), (.int (1 : Int32))])) _
    refine XS.iadd X0.here hx rfl (hb hby d1_8) rfl ?_
    show Steps p.tables e below (s₁.setTop (mkF m 9 #[.val (.int (13 : Int32)), .val (.long v0), .second, .val (.long v1), .second, .val (.long v2), .second, .val (.long v3), .second, .unset, .unset, .unset] [(.int (1 : Int32))])) _
    refine XS.iloadN X0.here hx rfl (hb hby d1_9) rfl ?_
    show Steps p.tables e below (s₁.setTop (mkF m 10 #[.val (.int (13 : Int32)), .val (.long v0), .second, .val (.long v1), .second, .val (.long v2), .second, .val (.long v3), .second, .unset, .unset, .unset] [(.int (13 : Int32)), (.int (1 : Int32))])) _
    refine XS.iconst X0.here hx rfl (hb hby d1_10) ?_
    show Steps p.tables e below (s₁.setTop (mkF m 11 #[.val (.int (13 : Int32)), .val (.long v0), .second, .val (.long v1), .second, .val (.long v2), .second, .val (.long v3), .second, .unset, .unset, .unset] [(.int (2 : Int32)), (.int (13 : Int32)), (.int (1 : Int32))])) _
    refine XS.iushr X0.here hx rfl (hb hby d1_11) rfl ?_
    show Steps p.tables e below (s₁.setTop (mkF m 12 #[.val (.int (13 : Int32)), .val (.long v0), .second, .val (.long v1), .second, .val (.long v2), .second, .val (.long v3), .second, .unset, .unset, .unset] [(.int (3 : Int32)), (.int (1 : Int32))])) _
    refine XS.iconst X0.here hx rfl (hb hby d1_12) ?_
    show Steps p.tables e below (s₁.setTop (mkF m 13 #[.val (.int (13 : Int32)), .val (.long v0), .second, .val (.long v1), .second, .val (.long v2), .second, .val (.long v3), .second, .unset, .unset, .unset] [(.int (1 : Int32)), (.int (3 : Int32)), (.int (1 : Int32))])) _
    refine XS.iand X0.here hx rfl (hb hby d1_13) rfl ?_
    show Steps p.tables e below (s₁.setTop (mkF m 14 #[.val (.int (13 : Int32)), .val (.long v0), .second, .val (.long v1), .second, .val (.long v2), .second, .val (.long v3), .second, .unset, .unset, .unset] [(.int (1 : Int32)), (.int (1 : Int32))])) _
    refine XS.iadd X0.here hx rfl (hb hby d1_14) rfl ?_
    show Steps p.tables e below (s₁.setTop (mkF m 15 #[.val (.int (13 : Int32)), .val (.long v0), .second, .val (.long v1), .second, .val (.long v2), .second, .val (.long v3), .second, .unset, .unset, .unset] [(.int (2 : Int32))])) _
    refine XS.iloadN X0.here hx rfl (hb hby d1_15) rfl ?_
    show Steps p.tables e below (s₁.setTop (mkF m 16 #[.val (.int (13 : Int32)), .val (.long v0), .second, .val (.long v1), .second, .val (.long v2), .second, .val (.long v3), .second, .unset, .unset, .unset] [(.int (13 : Int32)), (.int (2 : Int32))])) _
    refine XS.iconst X0.here hx rfl (hb hby d1_16) ?_
    show Steps p.tables e below (s₁.setTop (mkF m 17 #[.val (.int (13 : Int32)), .val (.long v0), .second, .val (.long v1), .second, .val (.long v2), .second, .val (.long v3), .second, .unset, .unset, .unset] [(.int (3 : Int32)), (.int (13 : Int32)), (.int (2 : Int32))])) _
    refine XS.iushr X0.here hx rfl (hb hby d1_17) rfl ?_
    show Steps p.tables e below (s₁.setTop (mkF m 18 #[.val (.int (13 : Int32)), .val (.long v0), .second, .val (.long v1), .second, .val (.long v2), .second, .val (.long v3), .second, .unset, .unset, .unset] [(.int (1 : Int32)), (.int (2 : Int32))])) _
    refine XS.iconst X0.here hx rfl (hb hby d1_18) ?_
    show Steps p.tables e below (s₁.setTop (mkF m 19 #[.val (.int (13 : Int32)), .val (.long v0), .second, .val (.long v1), .second, .val (.long v2), .second, .val (.long v3), .second, .unset, .unset, .unset] [(.int (1 : Int32)), (.int (1 : Int32)), (.int (2 : Int32))])) _
    refine XS.iand X0.here hx rfl (hb hby d1_19) rfl ?_
    show Steps p.tables e below (s₁.setTop (mkF m 20 #[.val (.int (13 : Int32)), .val (.long v0), .second, .val (.long v1), .second, .val (.long v2), .second, .val (.long v3), .second, .unset, .unset, .unset] [(.int (1 : Int32)), (.int (2 : Int32))])) _
    refine XS.iadd X0.here hx rfl (hb hby d1_20) rfl ?_
    show Steps p.tables e below (s₁.setTop (mkF m 21 #[.val (.int (13 : Int32)), .val (.long v0), .second, .val (.long v1), .second, .val (.long v2), .second, .val (.long v3), .second, .unset, .unset, .unset] [(.int (3 : Int32))])) _
    refine XS.istore X0.here hx rfl (hb hby d1_21) rfl (l' := #[.val (.int (13 : Int32)), .val (.long v0), .second, .val (.long v1), .second, .val (.long v2), .second, .val (.long v3), .second, .val (.int (3 : Int32)), .unset, .unset]) rfl ?_
    show Steps p.tables e below (s₁.setTop (mkF m 23 #[.val (.int (13 : Int32)), .val (.long v0), .second, .val (.long v1), .second, .val (.long v2), .second, .val (.long v3), .second, .val (.int (3 : Int32)), .unset, .unset] [])) _
    refine XS.iload X0.here hx rfl (hb hby d1_23) rfl ?_
    show Steps p.tables e below (s₁.setTop (mkF m 25 #[.val (.int (13 : Int32)), .val (.long v0), .second, .val (.long v1), .second, .val (.long v2), .second, .val (.long v3), .second, .val (.int (3 : Int32)), .unset, .unset] [(.int (3 : Int32))])) _
    exact kt)
  obtain ⟨T2, h2, k2, X2, e2, E2, A2, st2⟩ := newP X0 hx hZ (hw _ (List.mem_of_getElem? (i := 7) rfl)) e0 (g := (mkF m 25 #[.val (.int (13 : Int32)), .val (.long v0), .second, .val (.long v1), .second, .val (.long v2), .second, .val (.long v3), .second, .val (.int (3 : Int32)), .unset, .unset] [(.int (3 : Int32))])) rfl (hb hby d1_25) rfl (by decide) (cap := 3) (by decide) (by decide) (by decide) (by decide)
  obtain ⟨b2, g2⟩ : ∃ z, z = h0.size := ⟨_, rfl⟩
  rw [← g2] at A2 st2
  have gz3 : n0 ≤ b2 := Nat.le_trans Z0 (Nat.le_of_eq g2.symm)
  have f5 := ((Keep.refl h0 [])).ext E2
  have Zf6 : n0 ≤ h2.size := Nat.le_trans Z0 E2.1
  have sz2 : h0.size ≤ b2 := Nat.le_of_eq g2.symm
  have V2 : Arv Z h2 b2 k2 .long (3 : Int32) [(.long (0 : Int64)), (.long (0 : Int64)), (.long (0 : Int64))] (.long (0 : Int64)) := (Arv.new A2 (by decide)).pad (pad_rep [] (.long (0 : Int64)) 3)
  have pre7 : ∀ t, Steps p.tables e below (T2.setTop (mkF m 27 #[.val (.int (13 : Int32)), .val (.long v0), .second, .val (.long v1), .second, .val (.long v2), .second, .val (.long v3), .second, .val (.int (3 : Int32)), .unset, .unset] [(.ref b2)])) t → Steps p.tables e below (s₁.setTop (entryFrame m #[(.int (13 : Int32)), (.long v0), (.long v1), (.long v2), (.long v3)] 12)) t := fun t kt => pre1 t (st2 _ kt)
  have pre8 : ∀ t, Steps p.tables e below (T2.setTop (mkF m 43 #[.val (.int (13 : Int32)), .val (.long v0), .second, .val (.long v1), .second, .val (.long v2), .second, .val (.long v3), .second, .val (.int (3 : Int32)), .val (.ref b2), .val (.int (0 : Int32))] [(.long v0), (.int (0 : Int32)), (.ref b2)])) t → Steps p.tables e below (s₁.setTop (entryFrame m #[(.int (13 : Int32)), (.long v0), (.long v1), (.long v2), (.long v3)] 12)) t := fun t kt => pre7 t (by
    refine XS.astore X2.here hx rfl (hb hby d1_27) rfl rfl (l' := #[.val (.int (13 : Int32)), .val (.long v0), .second, .val (.long v1), .second, .val (.long v2), .second, .val (.long v3), .second, .val (.int (3 : Int32)), .val (.ref b2), .unset]) rfl ?_
    show Steps p.tables e below (T2.setTop (mkF m 29 #[.val (.int (13 : Int32)), .val (.long v0), .second, .val (.long v1), .second, .val (.long v2), .second, .val (.long v3), .second, .val (.int (3 : Int32)), .val (.ref b2), .unset] [])) _
    refine XS.iconst X2.here hx rfl (hb hby d1_29) ?_
    show Steps p.tables e below (T2.setTop (mkF m 30 #[.val (.int (13 : Int32)), .val (.long v0), .second, .val (.long v1), .second, .val (.long v2), .second, .val (.long v3), .second, .val (.int (3 : Int32)), .val (.ref b2), .unset] [(.int (0 : Int32))])) _
    refine XS.istore X2.here hx rfl (hb hby d1_30) rfl (l' := #[.val (.int (13 : Int32)), .val (.long v0), .second, .val (.long v1), .second, .val (.long v2), .second, .val (.long v3), .second, .val (.int (3 : Int32)), .val (.ref b2), .val (.int (0 : Int32))]) rfl ?_
    show Steps p.tables e below (T2.setTop (mkF m 32 #[.val (.int (13 : Int32)), .val (.long v0), .second, .val (.long v1), .second, .val (.long v2), .second, .val (.long v3), .second, .val (.int (3 : Int32)), .val (.ref b2), .val (.int (0 : Int32))] [])) _
    refine XS.iloadN X2.here hx rfl (hb hby d1_32) rfl ?_
    show Steps p.tables e below (T2.setTop (mkF m 33 #[.val (.int (13 : Int32)), .val (.long v0), .second, .val (.long v1), .second, .val (.long v2), .second, .val (.long v3), .second, .val (.int (3 : Int32)), .val (.ref b2), .val (.int (0 : Int32))] [(.int (13 : Int32))])) _
    refine XS.iconst X2.here hx rfl (hb hby d1_33) ?_
    show Steps p.tables e below (T2.setTop (mkF m 34 #[.val (.int (13 : Int32)), .val (.long v0), .second, .val (.long v1), .second, .val (.long v2), .second, .val (.long v3), .second, .val (.int (3 : Int32)), .val (.ref b2), .val (.int (0 : Int32))] [(.int (1 : Int32)), (.int (13 : Int32))])) _
    refine XS.iand X2.here hx rfl (hb hby d1_34) rfl ?_
    show Steps p.tables e below (T2.setTop (mkF m 35 #[.val (.int (13 : Int32)), .val (.long v0), .second, .val (.long v1), .second, .val (.long v2), .second, .val (.long v3), .second, .val (.int (3 : Int32)), .val (.ref b2), .val (.int (0 : Int32))] [(.int (1 : Int32))])) _
    refine XS.ifNo X2.here hx rfl (hb hby d1_35) rfl ((if0 _ _).trans (feq (by decide : ¬ ((1 : Int32) = (0 : Int32)))).1) ?_
    show Steps p.tables e below (T2.setTop (mkF m 38 #[.val (.int (13 : Int32)), .val (.long v0), .second, .val (.long v1), .second, .val (.long v2), .second, .val (.long v3), .second, .val (.int (3 : Int32)), .val (.ref b2), .val (.int (0 : Int32))] [])) _
    refine XS.aload X2.here hx rfl (hb hby d1_38) rfl rfl ?_
    show Steps p.tables e below (T2.setTop (mkF m 40 #[.val (.int (13 : Int32)), .val (.long v0), .second, .val (.long v1), .second, .val (.long v2), .second, .val (.long v3), .second, .val (.int (3 : Int32)), .val (.ref b2), .val (.int (0 : Int32))] [(.ref b2)])) _
    refine XS.iload X2.here hx rfl (hb hby d1_40) rfl ?_
    show Steps p.tables e below (T2.setTop (mkF m 42 #[.val (.int (13 : Int32)), .val (.long v0), .second, .val (.long v1), .second, .val (.long v2), .second, .val (.long v3), .second, .val (.int (3 : Int32)), .val (.ref b2), .val (.int (0 : Int32))] [(.int (0 : Int32)), (.ref b2)])) _
    refine XS.lloadN X2.here hx rfl (hb hby d1_42) rfl ?_
    show Steps p.tables e below (T2.setTop (mkF m 43 #[.val (.int (13 : Int32)), .val (.long v0), .second, .val (.long v1), .second, .val (.long v2), .second, .val (.long v3), .second, .val (.int (3 : Int32)), .val (.ref b2), .val (.int (0 : Int32))] [(.long v0), (.int (0 : Int32)), (.ref b2)])) _
    exact kt)
  obtain ⟨cl9, Ar9, q9, S9, M9, H9, G9⟩ := V2
  have hin9 : ¬ ((0 : Int32) < 0 ∨ cl9.slots.size ≤ ((0 : Int32)).toNatClampNeg) := inb_of S9 ⟨by decide, by decide⟩
  obtain ⟨T9, h9, X9, e9, W9, st9⟩ := stJ X2 hx hZ e2 Ar9 (j := (0 : Int32)) hin9 (g := (mkF m 43 #[.val (.int (13 : Int32)), .val (.long v0), .second, .val (.long v1), .second, .val (.long v2), .second, .val (.long v3), .second, .val (.int (3 : Int32)), .val (.ref b2), .val (.int (0 : Int32))] [(.long v0), (.int (0 : Int32)), (.ref b2)])) rfl rfl (hb hby d1_43)
  have f10 := (f5).wr W9 ((Or.inr (Nat.le_trans ((Keep.refl h0 [])).1 (Nat.le_of_eq g2.symm))))
  have Va9 := Arv.set Ar9 q9 S9 M9 H9 G9 rfl W9 0 rfl (Nat.le_of_ble_eq_true rfl)
  have Nf9 := Fr.snoc X9 N0 gz3
  have Zf9 : n0 ≤ h9.size := Nat.le_trans Zf6 (Keep.of_wr W9).1
  have pre11 : ∀ t, Steps p.tables e below (T9.setTop (mkF m 44 #[.val (.int (13 : Int32)), .val (.long v0), .second, .val (.long v1), .second, .val (.long v2), .second, .val (.long v3), .second, .val (.int (3 : Int32)), .val (.ref b2), .val (.int (0 : Int32))] [])) t → Steps p.tables e below (s₁.setTop (entryFrame m #[(.int (13 : Int32)), (.long v0), (.long v1), (.long v2), (.long v3)] 12)) t := fun t kt => pre8 t (st9 _ kt)
  have pre12 : ∀ t, Steps p.tables e below (T9.setTop (mkF m 74 #[.val (.int (13 : Int32)), .val (.long v0), .second, .val (.long v1), .second, .val (.long v2), .second, .val (.long v3), .second, .val (.int (3 : Int32)), .val (.ref b2), .val (.int (1 : Int32))] [(.long v2), (.int (1 : Int32)), (.ref b2)])) t → Steps p.tables e below (s₁.setTop (entryFrame m #[(.int (13 : Int32)), (.long v0), (.long v1), (.long v2), (.long v3)] 12)) t := fun t kt => pre11 t (by
    refine XS.iinc X9.here hx rfl (hb hby d1_44) rfl (l' := #[.val (.int (13 : Int32)), .val (.long v0), .second, .val (.long v1), .second, .val (.long v2), .second, .val (.long v3), .second, .val (.int (3 : Int32)), .val (.ref b2), .val (.int (1 : Int32))]) rfl ?_
    show Steps p.tables e below (T9.setTop (mkF m 47 #[.val (.int (13 : Int32)), .val (.long v0), .second, .val (.long v1), .second, .val (.long v2), .second, .val (.long v3), .second, .val (.int (3 : Int32)), .val (.ref b2), .val (.int (1 : Int32))] [])) _
    refine XS.iloadN X9.here hx rfl (hb hby d1_47) rfl ?_
    show Steps p.tables e below (T9.setTop (mkF m 48 #[.val (.int (13 : Int32)), .val (.long v0), .second, .val (.long v1), .second, .val (.long v2), .second, .val (.long v3), .second, .val (.int (3 : Int32)), .val (.ref b2), .val (.int (1 : Int32))] [(.int (13 : Int32))])) _
    refine XS.iconst X9.here hx rfl (hb hby d1_48) ?_
    show Steps p.tables e below (T9.setTop (mkF m 49 #[.val (.int (13 : Int32)), .val (.long v0), .second, .val (.long v1), .second, .val (.long v2), .second, .val (.long v3), .second, .val (.int (3 : Int32)), .val (.ref b2), .val (.int (1 : Int32))] [(.int (2 : Int32)), (.int (13 : Int32))])) _
    refine XS.iand X9.here hx rfl (hb hby d1_49) rfl ?_
    show Steps p.tables e below (T9.setTop (mkF m 50 #[.val (.int (13 : Int32)), .val (.long v0), .second, .val (.long v1), .second, .val (.long v2), .second, .val (.long v3), .second, .val (.int (3 : Int32)), .val (.ref b2), .val (.int (1 : Int32))] [(.int (0 : Int32))])) _
    refine XS.ifYes X9.here hx rfl (pc0 := 50) (pc' := 62) rfl (hb hby d1_50) rfl ((if0 _ _).trans (teq (by decide : (0 : Int32) = (0 : Int32))).1) (by decide) (by decide) ?_
    show Steps p.tables e below (T9.setTop (mkF m 62 #[.val (.int (13 : Int32)), .val (.long v0), .second, .val (.long v1), .second, .val (.long v2), .second, .val (.long v3), .second, .val (.int (3 : Int32)), .val (.ref b2), .val (.int (1 : Int32))] [])) _
    refine XS.iloadN X9.here hx rfl (hb hby d1_62) rfl ?_
    show Steps p.tables e below (T9.setTop (mkF m 63 #[.val (.int (13 : Int32)), .val (.long v0), .second, .val (.long v1), .second, .val (.long v2), .second, .val (.long v3), .second, .val (.int (3 : Int32)), .val (.ref b2), .val (.int (1 : Int32))] [(.int (13 : Int32))])) _
    refine XS.iconst X9.here hx rfl (hb hby d1_63) ?_
    show Steps p.tables e below (T9.setTop (mkF m 64 #[.val (.int (13 : Int32)), .val (.long v0), .second, .val (.long v1), .second, .val (.long v2), .second, .val (.long v3), .second, .val (.int (3 : Int32)), .val (.ref b2), .val (.int (1 : Int32))] [(.int (4 : Int32)), (.int (13 : Int32))])) _
    refine XS.iand X9.here hx rfl (hb hby d1_64) rfl ?_
    show Steps p.tables e below (T9.setTop (mkF m 65 #[.val (.int (13 : Int32)), .val (.long v0), .second, .val (.long v1), .second, .val (.long v2), .second, .val (.long v3), .second, .val (.int (3 : Int32)), .val (.ref b2), .val (.int (1 : Int32))] [(.int (4 : Int32))])) _
    refine XS.ifNo X9.here hx rfl (hb hby d1_65) rfl ((if0 _ _).trans (feq (by decide : ¬ ((4 : Int32) = (0 : Int32)))).1) ?_
    show Steps p.tables e below (T9.setTop (mkF m 68 #[.val (.int (13 : Int32)), .val (.long v0), .second, .val (.long v1), .second, .val (.long v2), .second, .val (.long v3), .second, .val (.int (3 : Int32)), .val (.ref b2), .val (.int (1 : Int32))] [])) _
    refine XS.aload X9.here hx rfl (hb hby d1_68) rfl rfl ?_
    show Steps p.tables e below (T9.setTop (mkF m 70 #[.val (.int (13 : Int32)), .val (.long v0), .second, .val (.long v1), .second, .val (.long v2), .second, .val (.long v3), .second, .val (.int (3 : Int32)), .val (.ref b2), .val (.int (1 : Int32))] [(.ref b2)])) _
    refine XS.iload X9.here hx rfl (hb hby d1_70) rfl ?_
    show Steps p.tables e below (T9.setTop (mkF m 72 #[.val (.int (13 : Int32)), .val (.long v0), .second, .val (.long v1), .second, .val (.long v2), .second, .val (.long v3), .second, .val (.int (3 : Int32)), .val (.ref b2), .val (.int (1 : Int32))] [(.int (1 : Int32)), (.ref b2)])) _
    refine XS.lload X9.here hx rfl (hb hby d1_72) rfl ?_
    show Steps p.tables e below (T9.setTop (mkF m 74 #[.val (.int (13 : Int32)), .val (.long v0), .second, .val (.long v1), .second, .val (.long v2), .second, .val (.long v3), .second, .val (.int (3 : Int32)), .val (.ref b2), .val (.int (1 : Int32))] [(.long v2), (.int (1 : Int32)), (.ref b2)])) _
    exact kt)
  obtain ⟨cl13, Ar13, q13, S13, M13, H13, G13⟩ := Va9
  have hin13 : ¬ ((1 : Int32) < 0 ∨ cl13.slots.size ≤ ((1 : Int32)).toNatClampNeg) := inb_of S13 ⟨by decide, by decide⟩
  obtain ⟨T13, h13, X13, e13, W13, st13⟩ := stJ X9 hx hZ e9 Ar13 (j := (1 : Int32)) hin13 (g := (mkF m 74 #[.val (.int (13 : Int32)), .val (.long v0), .second, .val (.long v1), .second, .val (.long v2), .second, .val (.long v3), .second, .val (.int (3 : Int32)), .val (.ref b2), .val (.int (1 : Int32))] [(.long v2), (.int (1 : Int32)), (.ref b2)])) rfl rfl (hb hby d1_74)
  have f14 := (f10).wr W13 ((Or.inr (Nat.le_trans ((Keep.refl h0 [])).1 (Nat.le_of_eq g2.symm))))
  have Va13 := Arv.set Ar13 q13 S13 M13 H13 G13 rfl W13 1 rfl (Nat.le_of_ble_eq_true rfl)
  have Nf13 := Fr.snoc X13 Nf9 gz3
  have Zf13 : n0 ≤ h13.size := Nat.le_trans Zf9 (Keep.of_wr W13).1
  have pre15 : ∀ t, Steps p.tables e below (T13.setTop (mkF m 75 #[.val (.int (13 : Int32)), .val (.long v0), .second, .val (.long v1), .second, .val (.long v2), .second, .val (.long v3), .second, .val (.int (3 : Int32)), .val (.ref b2), .val (.int (1 : Int32))] [])) t → Steps p.tables e below (s₁.setTop (entryFrame m #[(.int (13 : Int32)), (.long v0), (.long v1), (.long v2), (.long v3)] 12)) t := fun t kt => pre12 t (st13 _ kt)
  have pre16 : ∀ t, Steps p.tables e below (T13.setTop (mkF m 91 #[.val (.int (13 : Int32)), .val (.long v0), .second, .val (.long v1), .second, .val (.long v2), .second, .val (.long v3), .second, .val (.int (3 : Int32)), .val (.ref b2), .val (.int (2 : Int32))] [(.long v3), (.int (2 : Int32)), (.ref b2)])) t → Steps p.tables e below (s₁.setTop (entryFrame m #[(.int (13 : Int32)), (.long v0), (.long v1), (.long v2), (.long v3)] 12)) t := fun t kt => pre15 t (by
    refine XS.iinc X13.here hx rfl (hb hby d1_75) rfl (l' := #[.val (.int (13 : Int32)), .val (.long v0), .second, .val (.long v1), .second, .val (.long v2), .second, .val (.long v3), .second, .val (.int (3 : Int32)), .val (.ref b2), .val (.int (2 : Int32))]) rfl ?_
    show Steps p.tables e below (T13.setTop (mkF m 78 #[.val (.int (13 : Int32)), .val (.long v0), .second, .val (.long v1), .second, .val (.long v2), .second, .val (.long v3), .second, .val (.int (3 : Int32)), .val (.ref b2), .val (.int (2 : Int32))] [])) _
    refine XS.iloadN X13.here hx rfl (hb hby d1_78) rfl ?_
    show Steps p.tables e below (T13.setTop (mkF m 79 #[.val (.int (13 : Int32)), .val (.long v0), .second, .val (.long v1), .second, .val (.long v2), .second, .val (.long v3), .second, .val (.int (3 : Int32)), .val (.ref b2), .val (.int (2 : Int32))] [(.int (13 : Int32))])) _
    refine XS.bipush X13.here hx rfl (hb hby d1_79) ?_
    show Steps p.tables e below (T13.setTop (mkF m 81 #[.val (.int (13 : Int32)), .val (.long v0), .second, .val (.long v1), .second, .val (.long v2), .second, .val (.long v3), .second, .val (.int (3 : Int32)), .val (.ref b2), .val (.int (2 : Int32))] [(.int (8 : Int32)), (.int (13 : Int32))])) _
    refine XS.iand X13.here hx rfl (hb hby d1_81) rfl ?_
    show Steps p.tables e below (T13.setTop (mkF m 82 #[.val (.int (13 : Int32)), .val (.long v0), .second, .val (.long v1), .second, .val (.long v2), .second, .val (.long v3), .second, .val (.int (3 : Int32)), .val (.ref b2), .val (.int (2 : Int32))] [(.int (8 : Int32))])) _
    refine XS.ifNo X13.here hx rfl (hb hby d1_82) rfl ((if0 _ _).trans (feq (by decide : ¬ ((8 : Int32) = (0 : Int32)))).1) ?_
    show Steps p.tables e below (T13.setTop (mkF m 85 #[.val (.int (13 : Int32)), .val (.long v0), .second, .val (.long v1), .second, .val (.long v2), .second, .val (.long v3), .second, .val (.int (3 : Int32)), .val (.ref b2), .val (.int (2 : Int32))] [])) _
    refine XS.aload X13.here hx rfl (hb hby d1_85) rfl rfl ?_
    show Steps p.tables e below (T13.setTop (mkF m 87 #[.val (.int (13 : Int32)), .val (.long v0), .second, .val (.long v1), .second, .val (.long v2), .second, .val (.long v3), .second, .val (.int (3 : Int32)), .val (.ref b2), .val (.int (2 : Int32))] [(.ref b2)])) _
    refine XS.iload X13.here hx rfl (hb hby d1_87) rfl ?_
    show Steps p.tables e below (T13.setTop (mkF m 89 #[.val (.int (13 : Int32)), .val (.long v0), .second, .val (.long v1), .second, .val (.long v2), .second, .val (.long v3), .second, .val (.int (3 : Int32)), .val (.ref b2), .val (.int (2 : Int32))] [(.int (2 : Int32)), (.ref b2)])) _
    refine XS.lload X13.here hx rfl (hb hby d1_89) rfl ?_
    show Steps p.tables e below (T13.setTop (mkF m 91 #[.val (.int (13 : Int32)), .val (.long v0), .second, .val (.long v1), .second, .val (.long v2), .second, .val (.long v3), .second, .val (.int (3 : Int32)), .val (.ref b2), .val (.int (2 : Int32))] [(.long v3), (.int (2 : Int32)), (.ref b2)])) _
    exact kt)
  obtain ⟨cl17, Ar17, q17, S17, M17, H17, G17⟩ := Va13
  have hin17 : ¬ ((2 : Int32) < 0 ∨ cl17.slots.size ≤ ((2 : Int32)).toNatClampNeg) := inb_of S17 ⟨by decide, by decide⟩
  obtain ⟨T17, h17, X17, e17, W17, st17⟩ := stJ X13 hx hZ e13 Ar17 (j := (2 : Int32)) hin17 (g := (mkF m 91 #[.val (.int (13 : Int32)), .val (.long v0), .second, .val (.long v1), .second, .val (.long v2), .second, .val (.long v3), .second, .val (.int (3 : Int32)), .val (.ref b2), .val (.int (2 : Int32))] [(.long v3), (.int (2 : Int32)), (.ref b2)])) rfl rfl (hb hby d1_91)
  have f18 := (f14).wr W17 ((Or.inr (Nat.le_trans ((Keep.refl h0 [])).1 (Nat.le_of_eq g2.symm))))
  have Va17 := Arv.set Ar17 q17 S17 M17 H17 G17 rfl W17 2 rfl (Nat.le_of_ble_eq_true rfl)
  have Nf17 := Fr.snoc X17 Nf13 gz3
  have Zf17 : n0 ≤ h17.size := Nat.le_trans Zf13 (Keep.of_wr W17).1
  have pre19 : ∀ t, Steps p.tables e below (T17.setTop (mkF m 92 #[.val (.int (13 : Int32)), .val (.long v0), .second, .val (.long v1), .second, .val (.long v2), .second, .val (.long v3), .second, .val (.int (3 : Int32)), .val (.ref b2), .val (.int (2 : Int32))] [])) t → Steps p.tables e below (s₁.setTop (entryFrame m #[(.int (13 : Int32)), (.long v0), (.long v1), (.long v2), (.long v3)] 12)) t := fun t kt => pre16 t (st17 _ kt)
  have pre20 : ∀ t, Steps p.tables e below (T17.setTop (mkF m 97 #[.val (.int (13 : Int32)), .val (.long v0), .second, .val (.long v1), .second, .val (.long v2), .second, .val (.long v3), .second, .val (.int (3 : Int32)), .val (.ref b2), .val (.int (3 : Int32))] [(.ref b2)])) t → Steps p.tables e below (s₁.setTop (entryFrame m #[(.int (13 : Int32)), (.long v0), (.long v1), (.long v2), (.long v3)] 12)) t := fun t kt => pre19 t (by
    refine XS.iinc X17.here hx rfl (hb hby d1_92) rfl (l' := #[.val (.int (13 : Int32)), .val (.long v0), .second, .val (.long v1), .second, .val (.long v2), .second, .val (.long v3), .second, .val (.int (3 : Int32)), .val (.ref b2), .val (.int (3 : Int32))]) rfl ?_
    show Steps p.tables e below (T17.setTop (mkF m 95 #[.val (.int (13 : Int32)), .val (.long v0), .second, .val (.long v1), .second, .val (.long v2), .second, .val (.long v3), .second, .val (.int (3 : Int32)), .val (.ref b2), .val (.int (3 : Int32))] [])) _
    refine XS.aload X17.here hx rfl (hb hby d1_95) rfl rfl ?_
    show Steps p.tables e below (T17.setTop (mkF m 97 #[.val (.int (13 : Int32)), .val (.long v0), .second, .val (.long v1), .second, .val (.long v2), .second, .val (.long v3), .second, .val (.int (3 : Int32)), .val (.ref b2), .val (.int (3 : Int32))] [(.ref b2)])) _
    exact kt)
  obtain ⟨fs, hr, hrun, hended, hW, hsame⟩ := X17.leave (v := (some (.ref b2))) (fun h => by rw [Bd.returns] at h; cases h)
  refine ⟨_, _, pre20 _ ?_, hrun, hended, _, _, rfl, ?_, ⟨_, rfl⟩, hW, hsame.mono (by decide) (by decide)⟩
  · exact retOut X17 hx Bd.returns rfl (Or.inr (Or.inr (Or.inr (Or.inr ⟨rfl, rfl, rfl⟩)))) (hb hby d1_97) hr
  · show QP Z [v0, v2, v3] h0 n0 _ T17.heap _
    rw [e17]
    exact ⟨_, rfl, Nf17, f18, gz3, (sz2), own_lg (xs := [v0, v2, v3]) Va17 rfl (by simp)⟩
theorem ef_rmP_14 (m : MethodId) (x0 : Int32) (x1 : Int64) (x2 : Int64) (x3 : Int64) (x4 : Int64) : entryFrame m #[(.int x0), (.long x1), (.long x2), (.long x3), (.long x4)] 12 = mkF m 0 #[.val (.int x0), .val (.long x1), .second, .val (.long x2), .second, .val (.long x3), .second, .val (.long x4), .second, .unset, .unset, .unset] [] := by first | (simp [entryFrame, mkF, argsToLocals, Value.category]; done) | rfl
set_option maxRecDepth 65536 in
set_option maxHeartbeats 40000000 in
theorem rmP_14 (l : Launch) (Z : State) (a0 : Array Value) (hw : ∀ d ∈ tables_1, d.before a0 Z = true) (ws : List Jvm.Cond) (v0 v1 v2 v3 : Int64) (h0 : Heap) (n0 : Nat) (Z0 : n0 ≤ h0.size)  :
    MetFree l (⟨"com/example/nest3/nest3/SubsetWithinPinLaw", "pick", "(IJJJJ)[J"⟩ : MethodName) (head1 (Jvm.Cond.code (⟨"com/example/nest3/nest3/SubsetWithinPinLaw", "pick", "(IJJJJ)[J"⟩ : MethodName) method_3_code 12 (some (.array .long)) :: ws) ({ frames := 0, cells := 1, slots := 4, locals := 0 } : Room)) (fun a U => a = #[(.int (14 : Int32)), (.long v0), (.long v1), (.long v2), (.long v3)] ∧ Z.Warmed39 U.vm ∧ U.heap = h0) (fun _ _ _ _ _ => True) (fun _ U o U' => ∃ v L, o = .returned v ∧ QP Z [v1, v2, v3] h0 n0 v U'.heap L ∧ FrameEnd U o U' L ({ frames := 0, cells := 1, slots := 4, locals := 0 } : Room).cells ({ frames := 0, cells := 1, slots := 4, locals := 0 } : Room).slots) := by
  refine MetFree.of_bodySF (plainFor_of_name pn_com_example_nest3_nest3_SubsetWithinPinLaw) hisR ?_
  intro p e s m args below meth c s₁ Bd hml0 hP hK
  obtain ⟨rfl, hZ, hh⟩ := hP
  have hx := Bd.exec
  have hby := Bd.bytes
  have hml : c.maxLocals = 12 := hml0
  have hown : s.vm.findClass "com/example/nest3/nest3/SubsetWithinPinLaw" = some m.cls := findClass_of_methodNamed Bd.named
  have hnm := (name_of_methodNamed Bd.named Bd.method).1
  have X0 : Stand p l e ({ frames := 0, cells := 1, slots := 4, locals := 0 } : Room) s m #[(.int (14 : Int32)), (.long v0), (.long v1), (.long v2), (.long v3)] below meth c s₁ [] 0 0 := Stand.of_body Bd
  have e0 : s₁.heap = h0 := by rw [← hh, Bd.state]; rfl
  have N0 := Fr.nil n0
  have pre0 : ∀ t, Steps p.tables e below (s₁.setTop (mkF m 0 #[.val (.int (14 : Int32)), .val (.long v0), .second, .val (.long v1), .second, .val (.long v2), .second, .val (.long v3), .second, .unset, .unset, .unset] [])) t → Steps p.tables e below (s₁.setTop (entryFrame m #[(.int (14 : Int32)), (.long v0), (.long v1), (.long v2), (.long v3)] 12)) t := fun t kt => castTop (ef_rmP_14 m (14 : Int32) v0 v1 v2 v3) kt
  have pre1 : ∀ t, Steps p.tables e below (s₁.setTop (mkF m 25 #[.val (.int (14 : Int32)), .val (.long v0), .second, .val (.long v1), .second, .val (.long v2), .second, .val (.long v3), .second, .val (.int (3 : Int32)), .unset, .unset] [(.int (3 : Int32))])) t → Steps p.tables e below (s₁.setTop (entryFrame m #[(.int (14 : Int32)), (.long v0), (.long v1), (.long v2), (.long v3)] 12)) t := fun t kt => pre0 t (by
    refine XS.iloadN X0.here hx rfl (hb hby d1_0) rfl ?_
    show Steps p.tables e below (s₁.setTop (mkF m 1 #[.val (.int (14 : Int32)), .val (.long v0), .second, .val (.long v1), .second, .val (.long v2), .second, .val (.long v3), .second, .unset, .unset, .unset] [(.int (14 : Int32))])) _
    refine XS.iconst X0.here hx rfl (hb hby d1_1) ?_
    show Steps p.tables e below (s₁.setTop (mkF m 2 #[.val (.int (14 : Int32)), .val (.long v0), .second, .val (.long v1), .second, .val (.long v2), .second, .val (.long v3), .second, .unset, .unset, .unset] [(.int (1 : Int32)), (.int (14 : Int32))])) _
    refine XS.iand X0.here hx rfl (hb hby d1_2) rfl ?_
    show Steps p.tables e below (s₁.setTop (mkF m 3 #[.val (.int (14 : Int32)), .val (.long v0), .second, .val (.long v1), .second, .val (.long v2), .second, .val (.long v3), .second, .unset, .unset, .unset] [(.int (0 : Int32))])) _
    refine XS.iloadN X0.here hx rfl (hb hby d1_3) rfl ?_
    show Steps p.tables e below (s₁.setTop (mkF m 4 #[.val (.int (14 : Int32)), .val (.long v0), .second, .val (.long v1), .second, .val (.long v2), .second, .val (.long v3), .second, .unset, .unset, .unset] [(.int (14 : Int32)), (.int (0 : Int32))])) _
    refine XS.iconst X0.here hx rfl (hb hby d1_4) ?_
    show Steps p.tables e below (s₁.setTop (mkF m 5 #[.val (.int (14 : Int32)), .val (.long v0), .second, .val (.long v1), .second, .val (.long v2), .second, .val (.long v3), .second, .unset, .unset, .unset] [(.int (1 : Int32)), (.int (14 : Int32)), (.int (0 : Int32))])) _
    refine XS.iushr X0.here hx rfl (hb hby d1_5) rfl ?_
    show Steps p.tables e below (s₁.setTop (mkF m 6 #[.val (.int (14 : Int32)), .val (.long v0), .second, .val (.long v1), .second, .val (.long v2), .second, .val (.long v3), .second, .unset, .unset, .unset] [(.int (7 : Int32)), (.int (0 : Int32))])) _
    refine XS.iconst X0.here hx rfl (hb hby d1_6) ?_
    show Steps p.tables e below (s₁.setTop (mkF m 7 #[.val (.int (14 : Int32)), .val (.long v0), .second, .val (.long v1), .second, .val (.long v2), .second, .val (.long v3), .second, .unset, .unset, .unset] [(.int (1 : Int32)), (.int (7 : Int32)), (.int (0 : Int32))])) _
    refine XS.iand X0.here hx rfl (hb hby d1_7) rfl ?_
    show Steps p.tables e below (s₁.setTop (mkF m 8 #[.val (.int (14 : Int32)), .val (.long v0), .second, .val (.long v1), .second, .val (.long v2), .second, .val (.long v3), .second, .unset, .unset, .unset] [(.int (1 : Int32)), (.int (0 : Int32))])) _
    refine XS.iadd X0.here hx rfl (hb hby d1_8) rfl ?_
    show Steps p.tables e below (s₁.setTop (mkF m 9 #[.val (.int (14 : Int32)), .val (.long v0), .second, .val (.long v1), .second, .val (.long v2), .second, .val (.long v3), .second, .unset, .unset, .unset] [(.int (1 : Int32))])) _
    refine XS.iloadN X0.here hx rfl (hb hby d1_9) rfl ?_
    show Steps p.tables e below (s₁.setTop (mkF m 10 #[.val (.int (14 : Int32)), .val (.long v0), .second, .val (.long v1), .second, .val (.long v2), .second, .val (.long v3), .second, .unset, .unset, .unset] [(.int (14 : Int32)), (.int (1 : Int32))])) _
    refine XS.iconst X0.here hx rfl (hb hby d1_10) ?_
    show Steps p.tables e below (s₁.setTop (mkF m 11 #[.val (.int (14 : Int32)), .val (.long v0), .second, .val (.long v1), .second, .val (.long v2), .second, .val (.long v3), .second, .unset, .unset, .unset] [(.int (2 : Int32)), (.int (14 : Int32)), (.int (1 : Int32))])) _
    refine XS.iushr X0.here hx rfl (hb hby d1_11) rfl ?_
    show Steps p.tables e below (s₁.setTop (mkF m 12 #[.val (.int (14 : Int32)), .val (.long v0), .second, .val (.long v1), .second, .val (.long v2), .second, .val (.long v3), .second, .unset, .unset, .unset] [(.int (3 : Int32)), (.int (1 : Int32))])) _
    refine XS.iconst X0.here hx rfl (hb hby d1_12) ?_
    show Steps p.tables e below (s₁.setTop (mkF m 13 #[.val (.int (14 : Int32)), .val (.long v0), .second, .val (.long v1), .second, .val (.long v2), .second, .val (.long v3), .second, .unset, .unset, .unset] [(.int (1 : Int32)), (.int (3 : Int32)), (.int (1 : Int32))])) _
    refine XS.iand X0.here hx rfl (hb hby d1_13) rfl ?_
    show Steps p.tables e below (s₁.setTop (mkF m 14 #[.val (.int (14 : Int32)), .val (.long v0), .second, .val (.long v1), .second, .val (.long v2), .second, .val (.long v3), .second, .unset, .unset, .unset] [(.int (1 : Int32)), (.int (1 : Int32))])) _
    refine XS.iadd X0.here hx rfl (hb hby d1_14) rfl ?_
    show Steps p.tables e below (s₁.setTop (mkF m 15 #[.val (.int (14 : Int32)), .val (.long v0), .second, .val (.long v1), .second, .val (.long v2), .second, .val (.long v3), .second, .unset, .unset, .unset] [(.int (2 : Int32))])) _
    refine XS.iloadN X0.here hx rfl (hb hby d1_15) rfl ?_
    show Steps p.tables e below (s₁.setTop (mkF m 16 #[.val (.int (14 : Int32)), .val (.long v0), .second, .val (.long v1), .second, .val (.long v2), .second, .val (.long v3), .second, .unset, .unset, .unset] [(.int (14 : Int32)), (.int (2 : Int32))])) _
    refine XS.iconst X0.here hx rfl (hb hby d1_16) ?_
    show Steps p.tables e below (s₁.setTop (mkF m 17 #[.val (.int (14 : Int32)), .val (.long v0), .second, .val (.long v1), .second, .val (.long v2), .second, .val (.long v3), .second, .unset, .unset, .unset] [(.int (3 : Int32)), (.int (14 : Int32)), (.int (2 : Int32))])) _
    refine XS.iushr X0.here hx rfl (hb hby d1_17) rfl ?_
    show Steps p.tables e below (s₁.setTop (mkF m 18 #[.val (.int (14 : Int32)), .val (.long v0), .second, .val (.long v1), .second, .val (.long v2), .second, .val (.long v3), .second, .unset, .unset, .unset] [(.int (1 : Int32)), (.int (2 : Int32))])) _
    refine XS.iconst X0.here hx rfl (hb hby d1_18) ?_
    show Steps p.tables e below (s₁.setTop (mkF m 19 #[.val (.int (14 : Int32)), .val (.long v0), .second, .val (.long v1), .second, .val (.long v2), .second, .val (.long v3), .second, .unset, .unset, .unset] [(.int (1 : Int32)), (.int (1 : Int32)), (.int (2 : Int32))])) _
    refine XS.iand X0.here hx rfl (hb hby d1_19) rfl ?_
    show Steps p.tables e below (s₁.setTop (mkF m 20 #[.val (.int (14 : Int32)), .val (.long v0), .second, .val (.long v1), .second, .val (.long v2), .second, .val (.long v3), .second, .unset, .unset, .unset] [(.int (1 : Int32)), (.int (2 : Int32))])) _
    refine XS.iadd X0.here hx rfl (hb hby d1_20) rfl ?_
    show Steps p.tables e below (s₁.setTop (mkF m 21 #[.val (.int (14 : Int32)), .val (.long v0), .second, .val (.long v1), .second, .val (.long v2), .second, .val (.long v3), .second, .unset, .unset, .unset] [(.int (3 : Int32))])) _
    refine XS.istore X0.here hx rfl (hb hby d1_21) rfl (l' := #[.val (.int (14 : Int32)), .val (.long v0), .second, .val (.long v1), .second, .val (.long v2), .second, .val (.long v3), .second, .val (.int (3 : Int32)), .unset, .unset]) rfl ?_
    show Steps p.tables e below (s₁.setTop (mkF m 23 #[.val (.int (14 : Int32)), .val (.long v0), .second, .val (.long v1), .second, .val (.long v2), .second, .val (.long v3), .second, .val (.int (3 : Int32)), .unset, .unset] [])) _
    refine XS.iload X0.here hx rfl (hb hby d1_23) rfl ?_
    show Steps p.tables e below (s₁.setTop (mkF m 25 #[.val (.int (14 : Int32)), .val (.long v0), .second, .val (.long v1), .second, .val (.long v2), .second, .val (.long v3), .second, .val (.int (3 : Int32)), .unset, .unset] [(.int (3 : Int32))])) _
    exact kt)
  obtain ⟨T2, h2, k2, X2, e2, E2, A2, st2⟩ := newP X0 hx hZ (hw _ (List.mem_of_getElem? (i := 7) rfl)) e0 (g := (mkF m 25 #[.val (.int (14 : Int32)), .val (.long v0), .second, .val (.long v1), .second, .val (.long v2), .second, .val (.long v3), .second, .val (.int (3 : Int32)), .unset, .unset] [(.int (3 : Int32))])) rfl (hb hby d1_25) rfl (by decide) (cap := 3) (by decide) (by decide) (by decide) (by decide)
  obtain ⟨b2, g2⟩ : ∃ z, z = h0.size := ⟨_, rfl⟩
  rw [← g2] at A2 st2
  have gz3 : n0 ≤ b2 := Nat.le_trans Z0 (Nat.le_of_eq g2.symm)
  have f5 := ((Keep.refl h0 [])).ext E2
  have Zf6 : n0 ≤ h2.size := Nat.le_trans Z0 E2.1
  have sz2 : h0.size ≤ b2 := Nat.le_of_eq g2.symm
  have V2 : Arv Z h2 b2 k2 .long (3 : Int32) [(.long (0 : Int64)), (.long (0 : Int64)), (.long (0 : Int64))] (.long (0 : Int64)) := (Arv.new A2 (by decide)).pad (pad_rep [] (.long (0 : Int64)) 3)
  have pre7 : ∀ t, Steps p.tables e below (T2.setTop (mkF m 27 #[.val (.int (14 : Int32)), .val (.long v0), .second, .val (.long v1), .second, .val (.long v2), .second, .val (.long v3), .second, .val (.int (3 : Int32)), .unset, .unset] [(.ref b2)])) t → Steps p.tables e below (s₁.setTop (entryFrame m #[(.int (14 : Int32)), (.long v0), (.long v1), (.long v2), (.long v3)] 12)) t := fun t kt => pre1 t (st2 _ kt)
  have pre8 : ∀ t, Steps p.tables e below (T2.setTop (mkF m 58 #[.val (.int (14 : Int32)), .val (.long v0), .second, .val (.long v1), .second, .val (.long v2), .second, .val (.long v3), .second, .val (.int (3 : Int32)), .val (.ref b2), .val (.int (0 : Int32))] [(.long v1), (.int (0 : Int32)), (.ref b2)])) t → Steps p.tables e below (s₁.setTop (entryFrame m #[(.int (14 : Int32)), (.long v0), (.long v1), (.long v2), (.long v3)] 12)) t := fun t kt => pre7 t (by
    refine XS.astore X2.here hx rfl (hb hby d1_27) rfl rfl (l' := #[.val (.int (14 : Int32)), .val (.long v0), .second, .val (.long v1), .second, .val (.long v2), .second, .val (.long v3), .second, .val (.int (3 : Int32)), .val (.ref b2), .unset]) rfl ?_
    show Steps p.tables e below (T2.setTop (mkF m 29 #[.val (.int (14 : Int32)), .val (.long v0), .second, .val (.long v1), .second, .val (.long v2), .second, .val (.long v3), .second, .val (.int (3 : Int32)), .val (.ref b2), .unset] [])) _
    refine XS.iconst X2.here hx rfl (hb hby d1_29) ?_
    show Steps p.tables e below (T2.setTop (mkF m 30 #[.val (.int (14 : Int32)), .val (.long v0), .second, .val (.long v1), .second, .val (.long v2), .second, .val (.long v3), .second, .val (.int (3 : Int32)), .val (.ref b2), .unset] [(.int (0 : Int32))])) _
    refine XS.istore X2.here hx rfl (hb hby d1_30) rfl (l' := #[.val (.int (14 : Int32)), .val (.long v0), .second, .val (.long v1), .second, .val (.long v2), .second, .val (.long v3), .second, .val (.int (3 : Int32)), .val (.ref b2), .val (.int (0 : Int32))]) rfl ?_
    show Steps p.tables e below (T2.setTop (mkF m 32 #[.val (.int (14 : Int32)), .val (.long v0), .second, .val (.long v1), .second, .val (.long v2), .second, .val (.long v3), .second, .val (.int (3 : Int32)), .val (.ref b2), .val (.int (0 : Int32))] [])) _
    refine XS.iloadN X2.here hx rfl (hb hby d1_32) rfl ?_
    show Steps p.tables e below (T2.setTop (mkF m 33 #[.val (.int (14 : Int32)), .val (.long v0), .second, .val (.long v1), .second, .val (.long v2), .second, .val (.long v3), .second, .val (.int (3 : Int32)), .val (.ref b2), .val (.int (0 : Int32))] [(.int (14 : Int32))])) _
    refine XS.iconst X2.here hx rfl (hb hby d1_33) ?_
    show Steps p.tables e below (T2.setTop (mkF m 34 #[.val (.int (14 : Int32)), .val (.long v0), .second, .val (.long v1), .second, .val (.long v2), .second, .val (.long v3), .second, .val (.int (3 : Int32)), .val (.ref b2), .val (.int (0 : Int32))] [(.int (1 : Int32)), (.int (14 : Int32))])) _
    refine XS.iand X2.here hx rfl (hb hby d1_34) rfl ?_
    show Steps p.tables e below (T2.setTop (mkF m 35 #[.val (.int (14 : Int32)), .val (.long v0), .second, .val (.long v1), .second, .val (.long v2), .second, .val (.long v3), .second, .val (.int (3 : Int32)), .val (.ref b2), .val (.int (0 : Int32))] [(.int (0 : Int32))])) _
    refine XS.ifYes X2.here hx rfl (pc0 := 35) (pc' := 47) rfl (hb hby d1_35) rfl ((if0 _ _).trans (teq (by decide : (0 : Int32) = (0 : Int32))).1) (by decide) (by decide) ?_
    show Steps p.tables e below (T2.setTop (mkF m 47 #[.val (.int (14 : Int32)), .val (.long v0), .second, .val (.long v1), .second, .val (.long v2), .second, .val (.long v3), .second, .val (.int (3 : Int32)), .val (.ref b2), .val (.int (0 : Int32))] [])) _
    refine XS.iloadN X2.here hx rfl (hb hby d1_47) rfl ?_
    show Steps p.tables e below (T2.setTop (mkF m 48 #[.val (.int (14 : Int32)), .val (.long v0), .second, .val (.long v1), .second, .val (.long v2), .second, .val (.long v3), .second, .val (.int (3 : Int32)), .val (.ref b2), .val (.int (0 : Int32))] [(.int (14 : Int32))])) _
    refine XS.iconst X2.here hx rfl (hb hby d1_48) ?_
    show Steps p.tables e below (T2.setTop (mkF m 49 #[.val (.int (14 : Int32)), .val (.long v0), .second, .val (.long v1), .second, .val (.long v2), .second, .val (.long v3), .second, .val (.int (3 : Int32)), .val (.ref b2), .val (.int (0 : Int32))] [(.int (2 : Int32)), (.int (14 : Int32))])) _
    refine XS.iand X2.here hx rfl (hb hby d1_49) rfl ?_
    show Steps p.tables e below (T2.setTop (mkF m 50 #[.val (.int (14 : Int32)), .val (.long v0), .second, .val (.long v1), .second, .val (.long v2), .second, .val (.long v3), .second, .val (.int (3 : Int32)), .val (.ref b2), .val (.int (0 : Int32))] [(.int (2 : Int32))])) _
    refine XS.ifNo X2.here hx rfl (hb hby d1_50) rfl ((if0 _ _).trans (feq (by decide : ¬ ((2 : Int32) = (0 : Int32)))).1) ?_
    show Steps p.tables e below (T2.setTop (mkF m 53 #[.val (.int (14 : Int32)), .val (.long v0), .second, .val (.long v1), .second, .val (.long v2), .second, .val (.long v3), .second, .val (.int (3 : Int32)), .val (.ref b2), .val (.int (0 : Int32))] [])) _
    refine XS.aload X2.here hx rfl (hb hby d1_53) rfl rfl ?_
    show Steps p.tables e below (T2.setTop (mkF m 55 #[.val (.int (14 : Int32)), .val (.long v0), .second, .val (.long v1), .second, .val (.long v2), .second, .val (.long v3), .second, .val (.int (3 : Int32)), .val (.ref b2), .val (.int (0 : Int32))] [(.ref b2)])) _
    refine XS.iload X2.here hx rfl (hb hby d1_55) rfl ?_
    show Steps p.tables e below (T2.setTop (mkF m 57 #[.val (.int (14 : Int32)), .val (.long v0), .second, .val (.long v1), .second, .val (.long v2), .second, .val (.long v3), .second, .val (.int (3 : Int32)), .val (.ref b2), .val (.int (0 : Int32))] [(.int (0 : Int32)), (.ref b2)])) _
    refine XS.lloadN X2.here hx rfl (hb hby d1_57) rfl ?_
    show Steps p.tables e below (T2.setTop (mkF m 58 #[.val (.int (14 : Int32)), .val (.long v0), .second, .val (.long v1), .second, .val (.long v2), .second, .val (.long v3), .second, .val (.int (3 : Int32)), .val (.ref b2), .val (.int (0 : Int32))] [(.long v1), (.int (0 : Int32)), (.ref b2)])) _
    exact kt)
  obtain ⟨cl9, Ar9, q9, S9, M9, H9, G9⟩ := V2
  have hin9 : ¬ ((0 : Int32) < 0 ∨ cl9.slots.size ≤ ((0 : Int32)).toNatClampNeg) := inb_of S9 ⟨by decide, by decide⟩
  obtain ⟨T9, h9, X9, e9, W9, st9⟩ := stJ X2 hx hZ e2 Ar9 (j := (0 : Int32)) hin9 (g := (mkF m 58 #[.val (.int (14 : Int32)), .val (.long v0), .second, .val (.long v1), .second, .val (.long v2), .second, .val (.long v3), .second, .val (.int (3 : Int32)), .val (.ref b2), .val (.int (0 : Int32))] [(.long v1), (.int (0 : Int32)), (.ref b2)])) rfl rfl (hb hby d1_58)
  have f10 := (f5).wr W9 ((Or.inr (Nat.le_trans ((Keep.refl h0 [])).1 (Nat.le_of_eq g2.symm))))
  have Va9 := Arv.set Ar9 q9 S9 M9 H9 G9 rfl W9 0 rfl (Nat.le_of_ble_eq_true rfl)
  have Nf9 := Fr.snoc X9 N0 gz3
  have Zf9 : n0 ≤ h9.size := Nat.le_trans Zf6 (Keep.of_wr W9).1
  have pre11 : ∀ t, Steps p.tables e below (T9.setTop (mkF m 59 #[.val (.int (14 : Int32)), .val (.long v0), .second, .val (.long v1), .second, .val (.long v2), .second, .val (.long v3), .second, .val (.int (3 : Int32)), .val (.ref b2), .val (.int (0 : Int32))] [])) t → Steps p.tables e below (s₁.setTop (entryFrame m #[(.int (14 : Int32)), (.long v0), (.long v1), (.long v2), (.long v3)] 12)) t := fun t kt => pre8 t (st9 _ kt)
  have pre12 : ∀ t, Steps p.tables e below (T9.setTop (mkF m 74 #[.val (.int (14 : Int32)), .val (.long v0), .second, .val (.long v1), .second, .val (.long v2), .second, .val (.long v3), .second, .val (.int (3 : Int32)), .val (.ref b2), .val (.int (1 : Int32))] [(.long v2), (.int (1 : Int32)), (.ref b2)])) t → Steps p.tables e below (s₁.setTop (entryFrame m #[(.int (14 : Int32)), (.long v0), (.long v1), (.long v2), (.long v3)] 12)) t := fun t kt => pre11 t (by
    refine XS.iinc X9.here hx rfl (hb hby d1_59) rfl (l' := #[.val (.int (14 : Int32)), .val (.long v0), .second, .val (.long v1), .second, .val (.long v2), .second, .val (.long v3), .second, .val (.int (3 : Int32)), .val (.ref b2), .val (.int (1 : Int32))]) rfl ?_
    show Steps p.tables e below (T9.setTop (mkF m 62 #[.val (.int (14 : Int32)), .val (.long v0), .second, .val (.long v1), .second, .val (.long v2), .second, .val (.long v3), .second, .val (.int (3 : Int32)), .val (.ref b2), .val (.int (1 : Int32))] [])) _
    refine XS.iloadN X9.here hx rfl (hb hby d1_62) rfl ?_
    show Steps p.tables e below (T9.setTop (mkF m 63 #[.val (.int (14 : Int32)), .val (.long v0), .second, .val (.long v1), .second, .val (.long v2), .second, .val (.long v3), .second, .val (.int (3 : Int32)), .val (.ref b2), .val (.int (1 : Int32))] [(.int (14 : Int32))])) _
    refine XS.iconst X9.here hx rfl (hb hby d1_63) ?_
    show Steps p.tables e below (T9.setTop (mkF m 64 #[.val (.int (14 : Int32)), .val (.long v0), .second, .val (.long v1), .second, .val (.long v2), .second, .val (.long v3), .second, .val (.int (3 : Int32)), .val (.ref b2), .val (.int (1 : Int32))] [(.int (4 : Int32)), (.int (14 : Int32))])) _
    refine XS.iand X9.here hx rfl (hb hby d1_64) rfl ?_
    show Steps p.tables e below (T9.setTop (mkF m 65 #[.val (.int (14 : Int32)), .val (.long v0), .second, .val (.long v1), .second, .val (.long v2), .second, .val (.long v3), .second, .val (.int (3 : Int32)), .val (.ref b2), .val (.int (1 : Int32))] [(.int (4 : Int32))])) _
    refine XS.ifNo X9.here hx rfl (hb hby d1_65) rfl ((if0 _ _).trans (feq (by decide : ¬ ((4 : Int32) = (0 : Int32)))).1) ?_
    show Steps p.tables e below (T9.setTop (mkF m 68 #[.val (.int (14 : Int32)), .val (.long v0), .second, .val (.long v1), .second, .val (.long v2), .second, .val (.long v3), .second, .val (.int (3 : Int32)), .val (.ref b2), .val (.int (1 : Int32))] [])) _
    refine XS.aload X9.here hx rfl (hb hby d1_68) rfl rfl ?_
    show Steps p.tables e below (T9.setTop (mkF m 70 #[.val (.int (14 : Int32)), .val (.long v0), .second, .val (.long v1), .second, .val (.long v2), .second, .val (.long v3), .second, .val (.int (3 : Int32)), .val (.ref b2), .val (.int (1 : Int32))] [(.ref b2)])) _
    refine XS.iload X9.here hx rfl (hb hby d1_70) rfl ?_
    show Steps p.tables e below (T9.setTop (mkF m 72 #[.val (.int (14 : Int32)), .val (.long v0), .second, .val (.long v1), .second, .val (.long v2), .second, .val (.long v3), .second, .val (.int (3 : Int32)), .val (.ref b2), .val (.int (1 : Int32))] [(.int (1 : Int32)), (.ref b2)])) _
    refine XS.lload X9.here hx rfl (hb hby d1_72) rfl ?_
    show Steps p.tables e below (T9.setTop (mkF m 74 #[.val (.int (14 : Int32)), .val (.long v0), .second, .val (.long v1), .second, .val (.long v2), .second, .val (.long v3), .second, .val (.int (3 : Int32)), .val (.ref b2), .val (.int (1 : Int32))] [(.long v2), (.int (1 : Int32)), (.ref b2)])) _
    exact kt)
  obtain ⟨cl13, Ar13, q13, S13, M13, H13, G13⟩ := Va9
  have hin13 : ¬ ((1 : Int32) < 0 ∨ cl13.slots.size ≤ ((1 : Int32)).toNatClampNeg) := inb_of S13 ⟨by decide, by decide⟩
  obtain ⟨T13, h13, X13, e13, W13, st13⟩ := stJ X9 hx hZ e9 Ar13 (j := (1 : Int32)) hin13 (g := (mkF m 74 #[.val (.int (14 : Int32)), .val (.long v0), .second, .val (.long v1), .second, .val (.long v2), .second, .val (.long v3), .second, .val (.int (3 : Int32)), .val (.ref b2), .val (.int (1 : Int32))] [(.long v2), (.int (1 : Int32)), (.ref b2)])) rfl rfl (hb hby d1_74)
  have f14 := (f10).wr W13 ((Or.inr (Nat.le_trans ((Keep.refl h0 [])).1 (Nat.le_of_eq g2.symm))))
  have Va13 := Arv.set Ar13 q13 S13 M13 H13 G13 rfl W13 1 rfl (Nat.le_of_ble_eq_true rfl)
  have Nf13 := Fr.snoc X13 Nf9 gz3
  have Zf13 : n0 ≤ h13.size := Nat.le_trans Zf9 (Keep.of_wr W13).1
  have pre15 : ∀ t, Steps p.tables e below (T13.setTop (mkF m 75 #[.val (.int (14 : Int32)), .val (.long v0), .second, .val (.long v1), .second, .val (.long v2), .second, .val (.long v3), .second, .val (.int (3 : Int32)), .val (.ref b2), .val (.int (1 : Int32))] [])) t → Steps p.tables e below (s₁.setTop (entryFrame m #[(.int (14 : Int32)), (.long v0), (.long v1), (.long v2), (.long v3)] 12)) t := fun t kt => pre12 t (st13 _ kt)
  have pre16 : ∀ t, Steps p.tables e below (T13.setTop (mkF m 91 #[.val (.int (14 : Int32)), .val (.long v0), .second, .val (.long v1), .second, .val (.long v2), .second, .val (.long v3), .second, .val (.int (3 : Int32)), .val (.ref b2), .val (.int (2 : Int32))] [(.long v3), (.int (2 : Int32)), (.ref b2)])) t → Steps p.tables e below (s₁.setTop (entryFrame m #[(.int (14 : Int32)), (.long v0), (.long v1), (.long v2), (.long v3)] 12)) t := fun t kt => pre15 t (by
    refine XS.iinc X13.here hx rfl (hb hby d1_75) rfl (l' := #[.val (.int (14 : Int32)), .val (.long v0), .second, .val (.long v1), .second, .val (.long v2), .second, .val (.long v3), .second, .val (.int (3 : Int32)), .val (.ref b2), .val (.int (2 : Int32))]) rfl ?_
    show Steps p.tables e below (T13.setTop (mkF m 78 #[.val (.int (14 : Int32)), .val (.long v0), .second, .val (.long v1), .second, .val (.long v2), .second, .val (.long v3), .second, .val (.int (3 : Int32)), .val (.ref b2), .val (.int (2 : Int32))] [])) _
    refine XS.iloadN X13.here hx rfl (hb hby d1_78) rfl ?_
    show Steps p.tables e below (T13.setTop (mkF m 79 #[.val (.int (14 : Int32)), .val (.long v0), .second, .val (.long v1), .second, .val (.long v2), .second, .val (.long v3), .second, .val (.int (3 : Int32)), .val (.ref b2), .val (.int (2 : Int32))] [(.int (14 : Int32))])) _
    refine XS.bipush X13.here hx rfl (hb hby d1_79) ?_
    show Steps p.tables e below (T13.setTop (mkF m 81 #[.val (.int (14 : Int32)), .val (.long v0), .second, .val (.long v1), .second, .val (.long v2), .second, .val (.long v3), .second, .val (.int (3 : Int32)), .val (.ref b2), .val (.int (2 : Int32))] [(.int (8 : Int32)), (.int (14 : Int32))])) _
    refine XS.iand X13.here hx rfl (hb hby d1_81) rfl ?_
    show Steps p.tables e below (T13.setTop (mkF m 82 #[.val (.int (14 : Int32)), .val (.long v0), .second, .val (.long v1), .second, .val (.long v2), .second, .val (.long v3), .second, .val (.int (3 : Int32)), .val (.ref b2), .val (.int (2 : Int32))] [(.int (8 : Int32))])) _
    refine XS.ifNo X13.here hx rfl (hb hby d1_82) rfl ((if0 _ _).trans (feq (by decide : ¬ ((8 : Int32) = (0 : Int32)))).1) ?_
    show Steps p.tables e below (T13.setTop (mkF m 85 #[.val (.int (14 : Int32)), .val (.long v0), .second, .val (.long v1), .second, .val (.long v2), .second, .val (.long v3), .second, .val (.int (3 : Int32)), .val (.ref b2), .val (.int (2 : Int32))] [])) _
    refine XS.aload X13.here hx rfl (hb hby d1_85) rfl rfl ?_
    show Steps p.tables e below (T13.setTop (mkF m 87 #[.val (.int (14 : Int32)), .val (.long v0), .second, .val (.long v1), .second, .val (.long v2), .second, .val (.long v3), .second, .val (.int (3 : Int32)), .val (.ref b2), .val (.int (2 : Int32))] [(.ref b2)])) _
    refine XS.iload X13.here hx rfl (hb hby d1_87) rfl ?_
    show Steps p.tables e below (T13.setTop (mkF m 89 #[.val (.int (14 : Int32)), .val (.long v0), .second, .val (.long v1), .second, .val (.long v2), .second, .val (.long v3), .second, .val (.int (3 : Int32)), .val (.ref b2), .val (.int (2 : Int32))] [(.int (2 : Int32)), (.ref b2)])) _
    refine XS.lload X13.here hx rfl (hb hby d1_89) rfl ?_
    show Steps p.tables e below (T13.setTop (mkF m 91 #[.val (.int (14 : Int32)), .val (.long v0), .second, .val (.long v1), .second, .val (.long v2), .second, .val (.long v3), .second, .val (.int (3 : Int32)), .val (.ref b2), .val (.int (2 : Int32))] [(.long v3), (.int (2 : Int32)), (.ref b2)])) _
    exact kt)
  obtain ⟨cl17, Ar17, q17, S17, M17, H17, G17⟩ := Va13
  have hin17 : ¬ ((2 : Int32) < 0 ∨ cl17.slots.size ≤ ((2 : Int32)).toNatClampNeg) := inb_of S17 ⟨by decide, by decide⟩
  obtain ⟨T17, h17, X17, e17, W17, st17⟩ := stJ X13 hx hZ e13 Ar17 (j := (2 : Int32)) hin17 (g := (mkF m 91 #[.val (.int (14 : Int32)), .val (.long v0), .second, .val (.long v1), .second, .val (.long v2), .second, .val (.long v3), .second, .val (.int (3 : Int32)), .val (.ref b2), .val (.int (2 : Int32))] [(.long v3), (.int (2 : Int32)), (.ref b2)])) rfl rfl (hb hby d1_91)
  have f18 := (f14).wr W17 ((Or.inr (Nat.le_trans ((Keep.refl h0 [])).1 (Nat.le_of_eq g2.symm))))
  have Va17 := Arv.set Ar17 q17 S17 M17 H17 G17 rfl W17 2 rfl (Nat.le_of_ble_eq_true rfl)
  have Nf17 := Fr.snoc X17 Nf13 gz3
  have Zf17 : n0 ≤ h17.size := Nat.le_trans Zf13 (Keep.of_wr W17).1
  have pre19 : ∀ t, Steps p.tables e below (T17.setTop (mkF m 92 #[.val (.int (14 : Int32)), .val (.long v0), .second, .val (.long v1), .second, .val (.long v2), .second, .val (.long v3), .second, .val (.int (3 : Int32)), .val (.ref b2), .val (.int (2 : Int32))] [])) t → Steps p.tables e below (s₁.setTop (entryFrame m #[(.int (14 : Int32)), (.long v0), (.long v1), (.long v2), (.long v3)] 12)) t := fun t kt => pre16 t (st17 _ kt)
  have pre20 : ∀ t, Steps p.tables e below (T17.setTop (mkF m 97 #[.val (.int (14 : Int32)), .val (.long v0), .second, .val (.long v1), .second, .val (.long v2), .second, .val (.long v3), .second, .val (.int (3 : Int32)), .val (.ref b2), .val (.int (3 : Int32))] [(.ref b2)])) t → Steps p.tables e below (s₁.setTop (entryFrame m #[(.int (14 : Int32)), (.long v0), (.long v1), (.long v2), (.long v3)] 12)) t := fun t kt => pre19 t (by
    refine XS.iinc X17.here hx rfl (hb hby d1_92) rfl (l' := #[.val (.int (14 : Int32)), .val (.long v0), .second, .val (.long v1), .second, .val (.long v2), .second, .val (.long v3), .second, .val (.int (3 : Int32)), .val (.ref b2), .val (.int (3 : Int32))]) rfl ?_
    show Steps p.tables e below (T17.setTop (mkF m 95 #[.val (.int (14 : Int32)), .val (.long v0), .second, .val (.long v1), .second, .val (.long v2), .second, .val (.long v3), .second, .val (.int (3 : Int32)), .val (.ref b2), .val (.int (3 : Int32))] [])) _
    refine XS.aload X17.here hx rfl (hb hby d1_95) rfl rfl ?_
    show Steps p.tables e below (T17.setTop (mkF m 97 #[.val (.int (14 : Int32)), .val (.long v0), .second, .val (.long v1), .second, .val (.long v2), .second, .val (.long v3), .second, .val (.int (3 : Int32)), .val (.ref b2), .val (.int (3 : Int32))] [(.ref b2)])) _
    exact kt)
  obtain ⟨fs, hr, hrun, hended, hW, hsame⟩ := X17.leave (v := (some (.ref b2))) (fun h => by rw [Bd.returns] at h; cases h)
  refine ⟨_, _, pre20 _ ?_, hrun, hended, _, _, rfl, ?_, ⟨_, rfl⟩, hW, hsame.mono (by decide) (by decide)⟩
  · exact retOut X17 hx Bd.returns rfl (Or.inr (Or.inr (Or.inr (Or.inr ⟨rfl, rfl, rfl⟩)))) (hb hby d1_97) hr
  · show QP Z [v1, v2, v3] h0 n0 _ T17.heap _
    rw [e17]
    exact ⟨_, rfl, Nf17, f18, gz3, (sz2), own_lg (xs := [v1, v2, v3]) Va17 rfl (by simp)⟩
theorem ef_rmP_15 (m : MethodId) (x0 : Int32) (x1 : Int64) (x2 : Int64) (x3 : Int64) (x4 : Int64) : entryFrame m #[(.int x0), (.long x1), (.long x2), (.long x3), (.long x4)] 12 = mkF m 0 #[.val (.int x0), .val (.long x1), .second, .val (.long x2), .second, .val (.long x3), .second, .val (.long x4), .second, .unset, .unset, .unset] [] := by first | (simp [entryFrame, mkF, argsToLocals, Value.category]; done) | rfl
set_option maxRecDepth 65536 in
set_option maxHeartbeats 40000000 in
theorem rmP_15 (l : Launch) (Z : State) (a0 : Array Value) (hw : ∀ d ∈ tables_1, d.before a0 Z = true) (ws : List Jvm.Cond) (v0 v1 v2 v3 : Int64) (h0 : Heap) (n0 : Nat) (Z0 : n0 ≤ h0.size)  :
    MetFree l (⟨"com/example/nest3/nest3/SubsetWithinPinLaw", "pick", "(IJJJJ)[J"⟩ : MethodName) (head1 (Jvm.Cond.code (⟨"com/example/nest3/nest3/SubsetWithinPinLaw", "pick", "(IJJJJ)[J"⟩ : MethodName) method_3_code 12 (some (.array .long)) :: ws) ({ frames := 0, cells := 1, slots := 4, locals := 0 } : Room)) (fun a U => a = #[(.int (15 : Int32)), (.long v0), (.long v1), (.long v2), (.long v3)] ∧ Z.Warmed39 U.vm ∧ U.heap = h0) (fun _ _ _ _ _ => True) (fun _ U o U' => ∃ v L, o = .returned v ∧ QP Z [v0, v1, v2, v3] h0 n0 v U'.heap L ∧ FrameEnd U o U' L ({ frames := 0, cells := 1, slots := 4, locals := 0 } : Room).cells ({ frames := 0, cells := 1, slots := 4, locals := 0 } : Room).slots) := by
  refine MetFree.of_bodySF (plainFor_of_name pn_com_example_nest3_nest3_SubsetWithinPinLaw) hisR ?_
  intro p e s m args below meth c s₁ Bd hml0 hP hK
  obtain ⟨rfl, hZ, hh⟩ := hP
  have hx := Bd.exec
  have hby := Bd.bytes
  have hml : c.maxLocals = 12 := hml0
  have hown : s.vm.findClass "com/example/nest3/nest3/SubsetWithinPinLaw" = some m.cls := findClass_of_methodNamed Bd.named
  have hnm := (name_of_methodNamed Bd.named Bd.method).1
  have X0 : Stand p l e ({ frames := 0, cells := 1, slots := 4, locals := 0 } : Room) s m #[(.int (15 : Int32)), (.long v0), (.long v1), (.long v2), (.long v3)] below meth c s₁ [] 0 0 := Stand.of_body Bd
  have e0 : s₁.heap = h0 := by rw [← hh, Bd.state]; rfl
  have N0 := Fr.nil n0
  have pre0 : ∀ t, Steps p.tables e below (s₁.setTop (mkF m 0 #[.val (.int (15 : Int32)), .val (.long v0), .second, .val (.long v1), .second, .val (.long v2), .second, .val (.long v3), .second, .unset, .unset, .unset] [])) t → Steps p.tables e below (s₁.setTop (entryFrame m #[(.int (15 : Int32)), (.long v0), (.long v1), (.long v2), (.long v3)] 12)) t := fun t kt => castTop (ef_rmP_15 m (15 : Int32) v0 v1 v2 v3) kt
  have pre1 : ∀ t, Steps p.tables e below (s₁.setTop (mkF m 25 #[.val (.int (15 : Int32)), .val (.long v0), .second, .val (.long v1), .second, .val (.long v2), .second, .val (.long v3), .second, .val (.int (4 : Int32)), .unset, .unset] [(.int (4 : Int32))])) t → Steps p.tables e below (s₁.setTop (entryFrame m #[(.int (15 : Int32)), (.long v0), (.long v1), (.long v2), (.long v3)] 12)) t := fun t kt => pre0 t (by
    refine XS.iloadN X0.here hx rfl (hb hby d1_0) rfl ?_
    show Steps p.tables e below (s₁.setTop (mkF m 1 #[.val (.int (15 : Int32)), .val (.long v0), .second, .val (.long v1), .second, .val (.long v2), .second, .val (.long v3), .second, .unset, .unset, .unset] [(.int (15 : Int32))])) _
    refine XS.iconst X0.here hx rfl (hb hby d1_1) ?_
    show Steps p.tables e below (s₁.setTop (mkF m 2 #[.val (.int (15 : Int32)), .val (.long v0), .second, .val (.long v1), .second, .val (.long v2), .second, .val (.long v3), .second, .unset, .unset, .unset] [(.int (1 : Int32)), (.int (15 : Int32))])) _
    refine XS.iand X0.here hx rfl (hb hby d1_2) rfl ?_
    show Steps p.tables e below (s₁.setTop (mkF m 3 #[.val (.int (15 : Int32)), .val (.long v0), .second, .val (.long v1), .second, .val (.long v2), .second, .val (.long v3), .second, .unset, .unset, .unset] [(.int (1 : Int32))])) _
    refine XS.iloadN X0.here hx rfl (hb hby d1_3) rfl ?_
    show Steps p.tables e below (s₁.setTop (mkF m 4 #[.val (.int (15 : Int32)), .val (.long v0), .second, .val (.long v1), .second, .val (.long v2), .second, .val (.long v3), .second, .unset, .unset, .unset] [(.int (15 : Int32)), (.int (1 : Int32))])) _
    refine XS.iconst X0.here hx rfl (hb hby d1_4) ?_
    show Steps p.tables e below (s₁.setTop (mkF m 5 #[.val (.int (15 : Int32)), .val (.long v0), .second, .val (.long v1), .second, .val (.long v2), .second, .val (.long v3), .second, .unset, .unset, .unset] [(.int (1 : Int32)), (.int (15 : Int32)), (.int (1 : Int32))])) _
    refine XS.iushr X0.here hx rfl (hb hby d1_5) rfl ?_
    show Steps p.tables e below (s₁.setTop (mkF m 6 #[.val (.int (15 : Int32)), .val (.long v0), .second, .val (.long v1), .second, .val (.long v2), .second, .val (.long v3), .second, .unset, .unset, .unset] [(.int (7 : Int32)), (.int (1 : Int32))])) _
    refine XS.iconst X0.here hx rfl (hb hby d1_6) ?_
    show Steps p.tables e below (s₁.setTop (mkF m 7 #[.val (.int (15 : Int32)), .val (.long v0), .second, .val (.long v1), .second, .val (.long v2), .second, .val (.long v3), .second, .unset, .unset, .unset] [(.int (1 : Int32)), (.int (7 : Int32)), (.int (1 : Int32))])) _
    refine XS.iand X0.here hx rfl (hb hby d1_7) rfl ?_
    show Steps p.tables e below (s₁.setTop (mkF m 8 #[.val (.int (15 : Int32)), .val (.long v0), .second, .val (.long v1), .second, .val (.long v2), .second, .val (.long v3), .second, .unset, .unset, .unset] [(.int (1 : Int32)), (.int (1 : Int32))])) _
    refine XS.iadd X0.here hx rfl (hb hby d1_8) rfl ?_
    show Steps p.tables e below (s₁.setTop (mkF m 9 #[.val (.int (15 : Int32)), .val (.long v0), .second, .val (.long v1), .second, .val (.long v2), .second, .val (.long v3), .second, .unset, .unset, .unset] [(.int (2 : Int32))])) _
    refine XS.iloadN X0.here hx rfl (hb hby d1_9) rfl ?_
    show Steps p.tables e below (s₁.setTop (mkF m 10 #[.val (.int (15 : Int32)), .val (.long v0), .second, .val (.long v1), .second, .val (.long v2), .second, .val (.long v3), .second, .unset, .unset, .unset] [(.int (15 : Int32)), (.int (2 : Int32))])) _
    refine XS.iconst X0.here hx rfl (hb hby d1_10) ?_
    show Steps p.tables e below (s₁.setTop (mkF m 11 #[.val (.int (15 : Int32)), .val (.long v0), .second, .val (.long v1), .second, .val (.long v2), .second, .val (.long v3), .second, .unset, .unset, .unset] [(.int (2 : Int32)), (.int (15 : Int32)), (.int (2 : Int32))])) _
    refine XS.iushr X0.here hx rfl (hb hby d1_11) rfl ?_
    show Steps p.tables e below (s₁.setTop (mkF m 12 #[.val (.int (15 : Int32)), .val (.long v0), .second, .val (.long v1), .second, .val (.long v2), .second, .val (.long v3), .second, .unset, .unset, .unset] [(.int (3 : Int32)), (.int (2 : Int32))])) _
    refine XS.iconst X0.here hx rfl (hb hby d1_12) ?_
    show Steps p.tables e below (s₁.setTop (mkF m 13 #[.val (.int (15 : Int32)), .val (.long v0), .second, .val (.long v1), .second, .val (.long v2), .second, .val (.long v3), .second, .unset, .unset, .unset] [(.int (1 : Int32)), (.int (3 : Int32)), (.int (2 : Int32))])) _
    refine XS.iand X0.here hx rfl (hb hby d1_13) rfl ?_
    show Steps p.tables e below (s₁.setTop (mkF m 14 #[.val (.int (15 : Int32)), .val (.long v0), .second, .val (.long v1), .second, .val (.long v2), .second, .val (.long v3), .second, .unset, .unset, .unset] [(.int (1 : Int32)), (.int (2 : Int32))])) _
    refine XS.iadd X0.here hx rfl (hb hby d1_14) rfl ?_
    show Steps p.tables e below (s₁.setTop (mkF m 15 #[.val (.int (15 : Int32)), .val (.long v0), .second, .val (.long v1), .second, .val (.long v2), .second, .val (.long v3), .second, .unset, .unset, .unset] [(.int (3 : Int32))])) _
    refine XS.iloadN X0.here hx rfl (hb hby d1_15) rfl ?_
    show Steps p.tables e below (s₁.setTop (mkF m 16 #[.val (.int (15 : Int32)), .val (.long v0), .second, .val (.long v1), .second, .val (.long v2), .second, .val (.long v3), .second, .unset, .unset, .unset] [(.int (15 : Int32)), (.int (3 : Int32))])) _
    refine XS.iconst X0.here hx rfl (hb hby d1_16) ?_
    show Steps p.tables e below (s₁.setTop (mkF m 17 #[.val (.int (15 : Int32)), .val (.long v0), .second, .val (.long v1), .second, .val (.long v2), .second, .val (.long v3), .second, .unset, .unset, .unset] [(.int (3 : Int32)), (.int (15 : Int32)), (.int (3 : Int32))])) _
    refine XS.iushr X0.here hx rfl (hb hby d1_17) rfl ?_
    show Steps p.tables e below (s₁.setTop (mkF m 18 #[.val (.int (15 : Int32)), .val (.long v0), .second, .val (.long v1), .second, .val (.long v2), .second, .val (.long v3), .second, .unset, .unset, .unset] [(.int (1 : Int32)), (.int (3 : Int32))])) _
    refine XS.iconst X0.here hx rfl (hb hby d1_18) ?_
    show Steps p.tables e below (s₁.setTop (mkF m 19 #[.val (.int (15 : Int32)), .val (.long v0), .second, .val (.long v1), .second, .val (.long v2), .second, .val (.long v3), .second, .unset, .unset, .unset] [(.int (1 : Int32)), (.int (1 : Int32)), (.int (3 : Int32))])) _
    refine XS.iand X0.here hx rfl (hb hby d1_19) rfl ?_
    show Steps p.tables e below (s₁.setTop (mkF m 20 #[.val (.int (15 : Int32)), .val (.long v0), .second, .val (.long v1), .second, .val (.long v2), .second, .val (.long v3), .second, .unset, .unset, .unset] [(.int (1 : Int32)), (.int (3 : Int32))])) _
    refine XS.iadd X0.here hx rfl (hb hby d1_20) rfl ?_
    show Steps p.tables e below (s₁.setTop (mkF m 21 #[.val (.int (15 : Int32)), .val (.long v0), .second, .val (.long v1), .second, .val (.long v2), .second, .val (.long v3), .second, .unset, .unset, .unset] [(.int (4 : Int32))])) _
    refine XS.istore X0.here hx rfl (hb hby d1_21) rfl (l' := #[.val (.int (15 : Int32)), .val (.long v0), .second, .val (.long v1), .second, .val (.long v2), .second, .val (.long v3), .second, .val (.int (4 : Int32)), .unset, .unset]) rfl ?_
    show Steps p.tables e below (s₁.setTop (mkF m 23 #[.val (.int (15 : Int32)), .val (.long v0), .second, .val (.long v1), .second, .val (.long v2), .second, .val (.long v3), .second, .val (.int (4 : Int32)), .unset, .unset] [])) _
    refine XS.iload X0.here hx rfl (hb hby d1_23) rfl ?_
    show Steps p.tables e below (s₁.setTop (mkF m 25 #[.val (.int (15 : Int32)), .val (.long v0), .second, .val (.long v1), .second, .val (.long v2), .second, .val (.long v3), .second, .val (.int (4 : Int32)), .unset, .unset] [(.int (4 : Int32))])) _
    exact kt)
  obtain ⟨T2, h2, k2, X2, e2, E2, A2, st2⟩ := newP X0 hx hZ (hw _ (List.mem_of_getElem? (i := 7) rfl)) e0 (g := (mkF m 25 #[.val (.int (15 : Int32)), .val (.long v0), .second, .val (.long v1), .second, .val (.long v2), .second, .val (.long v3), .second, .val (.int (4 : Int32)), .unset, .unset] [(.int (4 : Int32))])) rfl (hb hby d1_25) rfl (by decide) (cap := 4) (by decide) (by decide) (by decide) (by decide)
  obtain ⟨b2, g2⟩ : ∃ z, z = h0.size := ⟨_, rfl⟩
  rw [← g2] at A2 st2
  have gz3 : n0 ≤ b2 := Nat.le_trans Z0 (Nat.le_of_eq g2.symm)
  have f5 := ((Keep.refl h0 [])).ext E2
  have Zf6 : n0 ≤ h2.size := Nat.le_trans Z0 E2.1
  have sz2 : h0.size ≤ b2 := Nat.le_of_eq g2.symm
  have V2 : Arv Z h2 b2 k2 .long (4 : Int32) [(.long (0 : Int64)), (.long (0 : Int64)), (.long (0 : Int64)), (.long (0 : Int64))] (.long (0 : Int64)) := (Arv.new A2 (by decide)).pad (pad_rep [] (.long (0 : Int64)) 4)
  have pre7 : ∀ t, Steps p.tables e below (T2.setTop (mkF m 27 #[.val (.int (15 : Int32)), .val (.long v0), .second, .val (.long v1), .second, .val (.long v2), .second, .val (.long v3), .second, .val (.int (4 : Int32)), .unset, .unset] [(.ref b2)])) t → Steps p.tables e below (s₁.setTop (entryFrame m #[(.int (15 : Int32)), (.long v0), (.long v1), (.long v2), (.long v3)] 12)) t := fun t kt => pre1 t (st2 _ kt)
  have pre8 : ∀ t, Steps p.tables e below (T2.setTop (mkF m 43 #[.val (.int (15 : Int32)), .val (.long v0), .second, .val (.long v1), .second, .val (.long v2), .second, .val (.long v3), .second, .val (.int (4 : Int32)), .val (.ref b2), .val (.int (0 : Int32))] [(.long v0), (.int (0 : Int32)), (.ref b2)])) t → Steps p.tables e below (s₁.setTop (entryFrame m #[(.int (15 : Int32)), (.long v0), (.long v1), (.long v2), (.long v3)] 12)) t := fun t kt => pre7 t (by
    refine XS.astore X2.here hx rfl (hb hby d1_27) rfl rfl (l' := #[.val (.int (15 : Int32)), .val (.long v0), .second, .val (.long v1), .second, .val (.long v2), .second, .val (.long v3), .second, .val (.int (4 : Int32)), .val (.ref b2), .unset]) rfl ?_
    show Steps p.tables e below (T2.setTop (mkF m 29 #[.val (.int (15 : Int32)), .val (.long v0), .second, .val (.long v1), .second, .val (.long v2), .second, .val (.long v3), .second, .val (.int (4 : Int32)), .val (.ref b2), .unset] [])) _
    refine XS.iconst X2.here hx rfl (hb hby d1_29) ?_
    show Steps p.tables e below (T2.setTop (mkF m 30 #[.val (.int (15 : Int32)), .val (.long v0), .second, .val (.long v1), .second, .val (.long v2), .second, .val (.long v3), .second, .val (.int (4 : Int32)), .val (.ref b2), .unset] [(.int (0 : Int32))])) _
    refine XS.istore X2.here hx rfl (hb hby d1_30) rfl (l' := #[.val (.int (15 : Int32)), .val (.long v0), .second, .val (.long v1), .second, .val (.long v2), .second, .val (.long v3), .second, .val (.int (4 : Int32)), .val (.ref b2), .val (.int (0 : Int32))]) rfl ?_
    show Steps p.tables e below (T2.setTop (mkF m 32 #[.val (.int (15 : Int32)), .val (.long v0), .second, .val (.long v1), .second, .val (.long v2), .second, .val (.long v3), .second, .val (.int (4 : Int32)), .val (.ref b2), .val (.int (0 : Int32))] [])) _
    refine XS.iloadN X2.here hx rfl (hb hby d1_32) rfl ?_
    show Steps p.tables e below (T2.setTop (mkF m 33 #[.val (.int (15 : Int32)), .val (.long v0), .second, .val (.long v1), .second, .val (.long v2), .second, .val (.long v3), .second, .val (.int (4 : Int32)), .val (.ref b2), .val (.int (0 : Int32))] [(.int (15 : Int32))])) _
    refine XS.iconst X2.here hx rfl (hb hby d1_33) ?_
    show Steps p.tables e below (T2.setTop (mkF m 34 #[.val (.int (15 : Int32)), .val (.long v0), .second, .val (.long v1), .second, .val (.long v2), .second, .val (.long v3), .second, .val (.int (4 : Int32)), .val (.ref b2), .val (.int (0 : Int32))] [(.int (1 : Int32)), (.int (15 : Int32))])) _
    refine XS.iand X2.here hx rfl (hb hby d1_34) rfl ?_
    show Steps p.tables e below (T2.setTop (mkF m 35 #[.val (.int (15 : Int32)), .val (.long v0), .second, .val (.long v1), .second, .val (.long v2), .second, .val (.long v3), .second, .val (.int (4 : Int32)), .val (.ref b2), .val (.int (0 : Int32))] [(.int (1 : Int32))])) _
    refine XS.ifNo X2.here hx rfl (hb hby d1_35) rfl ((if0 _ _).trans (feq (by decide : ¬ ((1 : Int32) = (0 : Int32)))).1) ?_
    show Steps p.tables e below (T2.setTop (mkF m 38 #[.val (.int (15 : Int32)), .val (.long v0), .second, .val (.long v1), .second, .val (.long v2), .second, .val (.long v3), .second, .val (.int (4 : Int32)), .val (.ref b2), .val (.int (0 : Int32))] [])) _
    refine XS.aload X2.here hx rfl (hb hby d1_38) rfl rfl ?_
    show Steps p.tables e below (T2.setTop (mkF m 40 #[.val (.int (15 : Int32)), .val (.long v0), .second, .val (.long v1), .second, .val (.long v2), .second, .val (.long v3), .second, .val (.int (4 : Int32)), .val (.ref b2), .val (.int (0 : Int32))] [(.ref b2)])) _
    refine XS.iload X2.here hx rfl (hb hby d1_40) rfl ?_
    show Steps p.tables e below (T2.setTop (mkF m 42 #[.val (.int (15 : Int32)), .val (.long v0), .second, .val (.long v1), .second, .val (.long v2), .second, .val (.long v3), .second, .val (.int (4 : Int32)), .val (.ref b2), .val (.int (0 : Int32))] [(.int (0 : Int32)), (.ref b2)])) _
    refine XS.lloadN X2.here hx rfl (hb hby d1_42) rfl ?_
    show Steps p.tables e below (T2.setTop (mkF m 43 #[.val (.int (15 : Int32)), .val (.long v0), .second, .val (.long v1), .second, .val (.long v2), .second, .val (.long v3), .second, .val (.int (4 : Int32)), .val (.ref b2), .val (.int (0 : Int32))] [(.long v0), (.int (0 : Int32)), (.ref b2)])) _
    exact kt)
  obtain ⟨cl9, Ar9, q9, S9, M9, H9, G9⟩ := V2
  have hin9 : ¬ ((0 : Int32) < 0 ∨ cl9.slots.size ≤ ((0 : Int32)).toNatClampNeg) := inb_of S9 ⟨by decide, by decide⟩
  obtain ⟨T9, h9, X9, e9, W9, st9⟩ := stJ X2 hx hZ e2 Ar9 (j := (0 : Int32)) hin9 (g := (mkF m 43 #[.val (.int (15 : Int32)), .val (.long v0), .second, .val (.long v1), .second, .val (.long v2), .second, .val (.long v3), .second, .val (.int (4 : Int32)), .val (.ref b2), .val (.int (0 : Int32))] [(.long v0), (.int (0 : Int32)), (.ref b2)])) rfl rfl (hb hby d1_43)
  have f10 := (f5).wr W9 ((Or.inr (Nat.le_trans ((Keep.refl h0 [])).1 (Nat.le_of_eq g2.symm))))
  have Va9 := Arv.set Ar9 q9 S9 M9 H9 G9 rfl W9 0 rfl (Nat.le_of_ble_eq_true rfl)
  have Nf9 := Fr.snoc X9 N0 gz3
  have Zf9 : n0 ≤ h9.size := Nat.le_trans Zf6 (Keep.of_wr W9).1
  have pre11 : ∀ t, Steps p.tables e below (T9.setTop (mkF m 44 #[.val (.int (15 : Int32)), .val (.long v0), .second, .val (.long v1), .second, .val (.long v2), .second, .val (.long v3), .second, .val (.int (4 : Int32)), .val (.ref b2), .val (.int (0 : Int32))] [])) t → Steps p.tables e below (s₁.setTop (entryFrame m #[(.int (15 : Int32)), (.long v0), (.long v1), (.long v2), (.long v3)] 12)) t := fun t kt => pre8 t (st9 _ kt)
  have pre12 : ∀ t, Steps p.tables e below (T9.setTop (mkF m 58 #[.val (.int (15 : Int32)), .val (.long v0), .second, .val (.long v1), .second, .val (.long v2), .second, .val (.long v3), .second, .val (.int (4 : Int32)), .val (.ref b2), .val (.int (1 : Int32))] [(.long v1), (.int (1 : Int32)), (.ref b2)])) t → Steps p.tables e below (s₁.setTop (entryFrame m #[(.int (15 : Int32)), (.long v0), (.long v1), (.long v2), (.long v3)] 12)) t := fun t kt => pre11 t (by
    refine XS.iinc X9.here hx rfl (hb hby d1_44) rfl (l' := #[.val (.int (15 : Int32)), .val (.long v0), .second, .val (.long v1), .second, .val (.long v2), .second, .val (.long v3), .second, .val (.int (4 : Int32)), .val (.ref b2), .val (.int (1 : Int32))]) rfl ?_
    show Steps p.tables e below (T9.setTop (mkF m 47 #[.val (.int (15 : Int32)), .val (.long v0), .second, .val (.long v1), .second, .val (.long v2), .second, .val (.long v3), .second, .val (.int (4 : Int32)), .val (.ref b2), .val (.int (1 : Int32))] [])) _
    refine XS.iloadN X9.here hx rfl (hb hby d1_47) rfl ?_
    show Steps p.tables e below (T9.setTop (mkF m 48 #[.val (.int (15 : Int32)), .val (.long v0), .second, .val (.long v1), .second, .val (.long v2), .second, .val (.long v3), .second, .val (.int (4 : Int32)), .val (.ref b2), .val (.int (1 : Int32))] [(.int (15 : Int32))])) _
    refine XS.iconst X9.here hx rfl (hb hby d1_48) ?_
    show Steps p.tables e below (T9.setTop (mkF m 49 #[.val (.int (15 : Int32)), .val (.long v0), .second, .val (.long v1), .second, .val (.long v2), .second, .val (.long v3), .second, .val (.int (4 : Int32)), .val (.ref b2), .val (.int (1 : Int32))] [(.int (2 : Int32)), (.int (15 : Int32))])) _
    refine XS.iand X9.here hx rfl (hb hby d1_49) rfl ?_
    show Steps p.tables e below (T9.setTop (mkF m 50 #[.val (.int (15 : Int32)), .val (.long v0), .second, .val (.long v1), .second, .val (.long v2), .second, .val (.long v3), .second, .val (.int (4 : Int32)), .val (.ref b2), .val (.int (1 : Int32))] [(.int (2 : Int32))])) _
    refine XS.ifNo X9.here hx rfl (hb hby d1_50) rfl ((if0 _ _).trans (feq (by decide : ¬ ((2 : Int32) = (0 : Int32)))).1) ?_
    show Steps p.tables e below (T9.setTop (mkF m 53 #[.val (.int (15 : Int32)), .val (.long v0), .second, .val (.long v1), .second, .val (.long v2), .second, .val (.long v3), .second, .val (.int (4 : Int32)), .val (.ref b2), .val (.int (1 : Int32))] [])) _
    refine XS.aload X9.here hx rfl (hb hby d1_53) rfl rfl ?_
    show Steps p.tables e below (T9.setTop (mkF m 55 #[.val (.int (15 : Int32)), .val (.long v0), .second, .val (.long v1), .second, .val (.long v2), .second, .val (.long v3), .second, .val (.int (4 : Int32)), .val (.ref b2), .val (.int (1 : Int32))] [(.ref b2)])) _
    refine XS.iload X9.here hx rfl (hb hby d1_55) rfl ?_
    show Steps p.tables e below (T9.setTop (mkF m 57 #[.val (.int (15 : Int32)), .val (.long v0), .second, .val (.long v1), .second, .val (.long v2), .second, .val (.long v3), .second, .val (.int (4 : Int32)), .val (.ref b2), .val (.int (1 : Int32))] [(.int (1 : Int32)), (.ref b2)])) _
    refine XS.lloadN X9.here hx rfl (hb hby d1_57) rfl ?_
    show Steps p.tables e below (T9.setTop (mkF m 58 #[.val (.int (15 : Int32)), .val (.long v0), .second, .val (.long v1), .second, .val (.long v2), .second, .val (.long v3), .second, .val (.int (4 : Int32)), .val (.ref b2), .val (.int (1 : Int32))] [(.long v1), (.int (1 : Int32)), (.ref b2)])) _
    exact kt)
  obtain ⟨cl13, Ar13, q13, S13, M13, H13, G13⟩ := Va9
  have hin13 : ¬ ((1 : Int32) < 0 ∨ cl13.slots.size ≤ ((1 : Int32)).toNatClampNeg) := inb_of S13 ⟨by decide, by decide⟩
  obtain ⟨T13, h13, X13, e13, W13, st13⟩ := stJ X9 hx hZ e9 Ar13 (j := (1 : Int32)) hin13 (g := (mkF m 58 #[.val (.int (15 : Int32)), .val (.long v0), .second, .val (.long v1), .second, .val (.long v2), .second, .val (.long v3), .second, .val (.int (4 : Int32)), .val (.ref b2), .val (.int (1 : Int32))] [(.long v1), (.int (1 : Int32)), (.ref b2)])) rfl rfl (hb hby d1_58)
  have f14 := (f10).wr W13 ((Or.inr (Nat.le_trans ((Keep.refl h0 [])).1 (Nat.le_of_eq g2.symm))))
  have Va13 := Arv.set Ar13 q13 S13 M13 H13 G13 rfl W13 1 rfl (Nat.le_of_ble_eq_true rfl)
  have Nf13 := Fr.snoc X13 Nf9 gz3
  have Zf13 : n0 ≤ h13.size := Nat.le_trans Zf9 (Keep.of_wr W13).1
  have pre15 : ∀ t, Steps p.tables e below (T13.setTop (mkF m 59 #[.val (.int (15 : Int32)), .val (.long v0), .second, .val (.long v1), .second, .val (.long v2), .second, .val (.long v3), .second, .val (.int (4 : Int32)), .val (.ref b2), .val (.int (1 : Int32))] [])) t → Steps p.tables e below (s₁.setTop (entryFrame m #[(.int (15 : Int32)), (.long v0), (.long v1), (.long v2), (.long v3)] 12)) t := fun t kt => pre12 t (st13 _ kt)
  have pre16 : ∀ t, Steps p.tables e below (T13.setTop (mkF m 74 #[.val (.int (15 : Int32)), .val (.long v0), .second, .val (.long v1), .second, .val (.long v2), .second, .val (.long v3), .second, .val (.int (4 : Int32)), .val (.ref b2), .val (.int (2 : Int32))] [(.long v2), (.int (2 : Int32)), (.ref b2)])) t → Steps p.tables e below (s₁.setTop (entryFrame m #[(.int (15 : Int32)), (.long v0), (.long v1), (.long v2), (.long v3)] 12)) t := fun t kt => pre15 t (by
    refine XS.iinc X13.here hx rfl (hb hby d1_59) rfl (l' := #[.val (.int (15 : Int32)), .val (.long v0), .second, .val (.long v1), .second, .val (.long v2), .second, .val (.long v3), .second, .val (.int (4 : Int32)), .val (.ref b2), .val (.int (2 : Int32))]) rfl ?_
    show Steps p.tables e below (T13.setTop (mkF m 62 #[.val (.int (15 : Int32)), .val (.long v0), .second, .val (.long v1), .second, .val (.long v2), .second, .val (.long v3), .second, .val (.int (4 : Int32)), .val (.ref b2), .val (.int (2 : Int32))] [])) _
    refine XS.iloadN X13.here hx rfl (hb hby d1_62) rfl ?_
    show Steps p.tables e below (T13.setTop (mkF m 63 #[.val (.int (15 : Int32)), .val (.long v0), .second, .val (.long v1), .second, .val (.long v2), .second, .val (.long v3), .second, .val (.int (4 : Int32)), .val (.ref b2), .val (.int (2 : Int32))] [(.int (15 : Int32))])) _
    refine XS.iconst X13.here hx rfl (hb hby d1_63) ?_
    show Steps p.tables e below (T13.setTop (mkF m 64 #[.val (.int (15 : Int32)), .val (.long v0), .second, .val (.long v1), .second, .val (.long v2), .second, .val (.long v3), .second, .val (.int (4 : Int32)), .val (.ref b2), .val (.int (2 : Int32))] [(.int (4 : Int32)), (.int (15 : Int32))])) _
    refine XS.iand X13.here hx rfl (hb hby d1_64) rfl ?_
    show Steps p.tables e below (T13.setTop (mkF m 65 #[.val (.int (15 : Int32)), .val (.long v0), .second, .val (.long v1), .second, .val (.long v2), .second, .val (.long v3), .second, .val (.int (4 : Int32)), .val (.ref b2), .val (.int (2 : Int32))] [(.int (4 : Int32))])) _
    refine XS.ifNo X13.here hx rfl (hb hby d1_65) rfl ((if0 _ _).trans (feq (by decide : ¬ ((4 : Int32) = (0 : Int32)))).1) ?_
    show Steps p.tables e below (T13.setTop (mkF m 68 #[.val (.int (15 : Int32)), .val (.long v0), .second, .val (.long v1), .second, .val (.long v2), .second, .val (.long v3), .second, .val (.int (4 : Int32)), .val (.ref b2), .val (.int (2 : Int32))] [])) _
    refine XS.aload X13.here hx rfl (hb hby d1_68) rfl rfl ?_
    show Steps p.tables e below (T13.setTop (mkF m 70 #[.val (.int (15 : Int32)), .val (.long v0), .second, .val (.long v1), .second, .val (.long v2), .second, .val (.long v3), .second, .val (.int (4 : Int32)), .val (.ref b2), .val (.int (2 : Int32))] [(.ref b2)])) _
    refine XS.iload X13.here hx rfl (hb hby d1_70) rfl ?_
    show Steps p.tables e below (T13.setTop (mkF m 72 #[.val (.int (15 : Int32)), .val (.long v0), .second, .val (.long v1), .second, .val (.long v2), .second, .val (.long v3), .second, .val (.int (4 : Int32)), .val (.ref b2), .val (.int (2 : Int32))] [(.int (2 : Int32)), (.ref b2)])) _
    refine XS.lload X13.here hx rfl (hb hby d1_72) rfl ?_
    show Steps p.tables e below (T13.setTop (mkF m 74 #[.val (.int (15 : Int32)), .val (.long v0), .second, .val (.long v1), .second, .val (.long v2), .second, .val (.long v3), .second, .val (.int (4 : Int32)), .val (.ref b2), .val (.int (2 : Int32))] [(.long v2), (.int (2 : Int32)), (.ref b2)])) _
    exact kt)
  obtain ⟨cl17, Ar17, q17, S17, M17, H17, G17⟩ := Va13
  have hin17 : ¬ ((2 : Int32) < 0 ∨ cl17.slots.size ≤ ((2 : Int32)).toNatClampNeg) := inb_of S17 ⟨by decide, by decide⟩
  obtain ⟨T17, h17, X17, e17, W17, st17⟩ := stJ X13 hx hZ e13 Ar17 (j := (2 : Int32)) hin17 (g := (mkF m 74 #[.val (.int (15 : Int32)), .val (.long v0), .second, .val (.long v1), .second, .val (.long v2), .second, .val (.long v3), .second, .val (.int (4 : Int32)), .val (.ref b2), .val (.int (2 : Int32))] [(.long v2), (.int (2 : Int32)), (.ref b2)])) rfl rfl (hb hby d1_74)
  have f18 := (f14).wr W17 ((Or.inr (Nat.le_trans ((Keep.refl h0 [])).1 (Nat.le_of_eq g2.symm))))
  have Va17 := Arv.set Ar17 q17 S17 M17 H17 G17 rfl W17 2 rfl (Nat.le_of_ble_eq_true rfl)
  have Nf17 := Fr.snoc X17 Nf13 gz3
  have Zf17 : n0 ≤ h17.size := Nat.le_trans Zf13 (Keep.of_wr W17).1
  have pre19 : ∀ t, Steps p.tables e below (T17.setTop (mkF m 75 #[.val (.int (15 : Int32)), .val (.long v0), .second, .val (.long v1), .second, .val (.long v2), .second, .val (.long v3), .second, .val (.int (4 : Int32)), .val (.ref b2), .val (.int (2 : Int32))] [])) t → Steps p.tables e below (s₁.setTop (entryFrame m #[(.int (15 : Int32)), (.long v0), (.long v1), (.long v2), (.long v3)] 12)) t := fun t kt => pre16 t (st17 _ kt)
  have pre20 : ∀ t, Steps p.tables e below (T17.setTop (mkF m 91 #[.val (.int (15 : Int32)), .val (.long v0), .second, .val (.long v1), .second, .val (.long v2), .second, .val (.long v3), .second, .val (.int (4 : Int32)), .val (.ref b2), .val (.int (3 : Int32))] [(.long v3), (.int (3 : Int32)), (.ref b2)])) t → Steps p.tables e below (s₁.setTop (entryFrame m #[(.int (15 : Int32)), (.long v0), (.long v1), (.long v2), (.long v3)] 12)) t := fun t kt => pre19 t (by
    refine XS.iinc X17.here hx rfl (hb hby d1_75) rfl (l' := #[.val (.int (15 : Int32)), .val (.long v0), .second, .val (.long v1), .second, .val (.long v2), .second, .val (.long v3), .second, .val (.int (4 : Int32)), .val (.ref b2), .val (.int (3 : Int32))]) rfl ?_
    show Steps p.tables e below (T17.setTop (mkF m 78 #[.val (.int (15 : Int32)), .val (.long v0), .second, .val (.long v1), .second, .val (.long v2), .second, .val (.long v3), .second, .val (.int (4 : Int32)), .val (.ref b2), .val (.int (3 : Int32))] [])) _
    refine XS.iloadN X17.here hx rfl (hb hby d1_78) rfl ?_
    show Steps p.tables e below (T17.setTop (mkF m 79 #[.val (.int (15 : Int32)), .val (.long v0), .second, .val (.long v1), .second, .val (.long v2), .second, .val (.long v3), .second, .val (.int (4 : Int32)), .val (.ref b2), .val (.int (3 : Int32))] [(.int (15 : Int32))])) _
    refine XS.bipush X17.here hx rfl (hb hby d1_79) ?_
    show Steps p.tables e below (T17.setTop (mkF m 81 #[.val (.int (15 : Int32)), .val (.long v0), .second, .val (.long v1), .second, .val (.long v2), .second, .val (.long v3), .second, .val (.int (4 : Int32)), .val (.ref b2), .val (.int (3 : Int32))] [(.int (8 : Int32)), (.int (15 : Int32))])) _
    refine XS.iand X17.here hx rfl (hb hby d1_81) rfl ?_
    show Steps p.tables e below (T17.setTop (mkF m 82 #[.val (.int (15 : Int32)), .val (.long v0), .second, .val (.long v1), .second, .val (.long v2), .second, .val (.long v3), .second, .val (.int (4 : Int32)), .val (.ref b2), .val (.int (3 : Int32))] [(.int (8 : Int32))])) _
    refine XS.ifNo X17.here hx rfl (hb hby d1_82) rfl ((if0 _ _).trans (feq (by decide : ¬ ((8 : Int32) = (0 : Int32)))).1) ?_
    show Steps p.tables e below (T17.setTop (mkF m 85 #[.val (.int (15 : Int32)), .val (.long v0), .second, .val (.long v1), .second, .val (.long v2), .second, .val (.long v3), .second, .val (.int (4 : Int32)), .val (.ref b2), .val (.int (3 : Int32))] [])) _
    refine XS.aload X17.here hx rfl (hb hby d1_85) rfl rfl ?_
    show Steps p.tables e below (T17.setTop (mkF m 87 #[.val (.int (15 : Int32)), .val (.long v0), .second, .val (.long v1), .second, .val (.long v2), .second, .val (.long v3), .second, .val (.int (4 : Int32)), .val (.ref b2), .val (.int (3 : Int32))] [(.ref b2)])) _
    refine XS.iload X17.here hx rfl (hb hby d1_87) rfl ?_
    show Steps p.tables e below (T17.setTop (mkF m 89 #[.val (.int (15 : Int32)), .val (.long v0), .second, .val (.long v1), .second, .val (.long v2), .second, .val (.long v3), .second, .val (.int (4 : Int32)), .val (.ref b2), .val (.int (3 : Int32))] [(.int (3 : Int32)), (.ref b2)])) _
    refine XS.lload X17.here hx rfl (hb hby d1_89) rfl ?_
    show Steps p.tables e below (T17.setTop (mkF m 91 #[.val (.int (15 : Int32)), .val (.long v0), .second, .val (.long v1), .second, .val (.long v2), .second, .val (.long v3), .second, .val (.int (4 : Int32)), .val (.ref b2), .val (.int (3 : Int32))] [(.long v3), (.int (3 : Int32)), (.ref b2)])) _
    exact kt)
  obtain ⟨cl21, Ar21, q21, S21, M21, H21, G21⟩ := Va17
  have hin21 : ¬ ((3 : Int32) < 0 ∨ cl21.slots.size ≤ ((3 : Int32)).toNatClampNeg) := inb_of S21 ⟨by decide, by decide⟩
  obtain ⟨T21, h21, X21, e21, W21, st21⟩ := stJ X17 hx hZ e17 Ar21 (j := (3 : Int32)) hin21 (g := (mkF m 91 #[.val (.int (15 : Int32)), .val (.long v0), .second, .val (.long v1), .second, .val (.long v2), .second, .val (.long v3), .second, .val (.int (4 : Int32)), .val (.ref b2), .val (.int (3 : Int32))] [(.long v3), (.int (3 : Int32)), (.ref b2)])) rfl rfl (hb hby d1_91)
  have f22 := (f18).wr W21 ((Or.inr (Nat.le_trans ((Keep.refl h0 [])).1 (Nat.le_of_eq g2.symm))))
  have Va21 := Arv.set Ar21 q21 S21 M21 H21 G21 rfl W21 3 rfl (Nat.le_of_ble_eq_true rfl)
  have Nf21 := Fr.snoc X21 Nf17 gz3
  have Zf21 : n0 ≤ h21.size := Nat.le_trans Zf17 (Keep.of_wr W21).1
  have pre23 : ∀ t, Steps p.tables e below (T21.setTop (mkF m 92 #[.val (.int (15 : Int32)), .val (.long v0), .second, .val (.long v1), .second, .val (.long v2), .second, .val (.long v3), .second, .val (.int (4 : Int32)), .val (.ref b2), .val (.int (3 : Int32))] [])) t → Steps p.tables e below (s₁.setTop (entryFrame m #[(.int (15 : Int32)), (.long v0), (.long v1), (.long v2), (.long v3)] 12)) t := fun t kt => pre20 t (st21 _ kt)
  have pre24 : ∀ t, Steps p.tables e below (T21.setTop (mkF m 97 #[.val (.int (15 : Int32)), .val (.long v0), .second, .val (.long v1), .second, .val (.long v2), .second, .val (.long v3), .second, .val (.int (4 : Int32)), .val (.ref b2), .val (.int (4 : Int32))] [(.ref b2)])) t → Steps p.tables e below (s₁.setTop (entryFrame m #[(.int (15 : Int32)), (.long v0), (.long v1), (.long v2), (.long v3)] 12)) t := fun t kt => pre23 t (by
    refine XS.iinc X21.here hx rfl (hb hby d1_92) rfl (l' := #[.val (.int (15 : Int32)), .val (.long v0), .second, .val (.long v1), .second, .val (.long v2), .second, .val (.long v3), .second, .val (.int (4 : Int32)), .val (.ref b2), .val (.int (4 : Int32))]) rfl ?_
    show Steps p.tables e below (T21.setTop (mkF m 95 #[.val (.int (15 : Int32)), .val (.long v0), .second, .val (.long v1), .second, .val (.long v2), .second, .val (.long v3), .second, .val (.int (4 : Int32)), .val (.ref b2), .val (.int (4 : Int32))] [])) _
    refine XS.aload X21.here hx rfl (hb hby d1_95) rfl rfl ?_
    show Steps p.tables e below (T21.setTop (mkF m 97 #[.val (.int (15 : Int32)), .val (.long v0), .second, .val (.long v1), .second, .val (.long v2), .second, .val (.long v3), .second, .val (.int (4 : Int32)), .val (.ref b2), .val (.int (4 : Int32))] [(.ref b2)])) _
    exact kt)
  obtain ⟨fs, hr, hrun, hended, hW, hsame⟩ := X21.leave (v := (some (.ref b2))) (fun h => by rw [Bd.returns] at h; cases h)
  refine ⟨_, _, pre24 _ ?_, hrun, hended, _, _, rfl, ?_, ⟨_, rfl⟩, hW, hsame.mono (by decide) (by decide)⟩
  · exact retOut X21 hx Bd.returns rfl (Or.inr (Or.inr (Or.inr (Or.inr ⟨rfl, rfl, rfl⟩)))) (hb hby d1_97) hr
  · show QP Z [v0, v1, v2, v3] h0 n0 _ T21.heap _
    rw [e21]
    exact ⟨_, rfl, Nf21, f22, gz3, (sz2), own_lg (xs := [v0, v1, v2, v3]) Va21 rfl (by simp)⟩
theorem rmP (l : Launch) (Z : State) (a0 : Array Value) (hw : ∀ d ∈ tables_1, d.before a0 Z = true) (ws : List Jvm.Cond) (mask : Int32) (v0 v1 v2 v3 : Int64) (M : Nat) (h0 : Heap) (n0 : Nat) (Z0 : n0 ≤ h0.size) (hlt : M < 16) (hM : mask = Int32.ofNat M) :
    MetFree l (⟨"com/example/nest3/nest3/SubsetWithinPinLaw", "pick", "(IJJJJ)[J"⟩ : MethodName) (head1 (Jvm.Cond.code (⟨"com/example/nest3/nest3/SubsetWithinPinLaw", "pick", "(IJJJJ)[J"⟩ : MethodName) method_3_code 12 (some (.array .long)) :: ws) ({ frames := 0, cells := 1, slots := 4, locals := 0 } : Room)) (fun a U => a = #[(.int mask), (.long v0), (.long v1), (.long v2), (.long v3)] ∧ Z.Warmed39 U.vm ∧ U.heap = h0) (fun _ _ _ _ _ => True) (fun _ U o U' => ∃ v L, o = .returned v ∧ QP Z ((pk M).map (Vf v0 v1 v2 v3)) h0 n0 v U'.heap L ∧ FrameEnd U o U' L ({ frames := 0, cells := 1, slots := 4, locals := 0 } : Room).cells ({ frames := 0, cells := 1, slots := 4, locals := 0 } : Room).slots) := by
  subst hM
  match M, hlt with
  | 0, _ => exact rmP_0 l Z a0 hw ws v0 v1 v2 v3 h0 n0 Z0
  | 1, _ => exact rmP_1 l Z a0 hw ws v0 v1 v2 v3 h0 n0 Z0
  | 2, _ => exact rmP_2 l Z a0 hw ws v0 v1 v2 v3 h0 n0 Z0
  | 3, _ => exact rmP_3 l Z a0 hw ws v0 v1 v2 v3 h0 n0 Z0
  | 4, _ => exact rmP_4 l Z a0 hw ws v0 v1 v2 v3 h0 n0 Z0
  | 5, _ => exact rmP_5 l Z a0 hw ws v0 v1 v2 v3 h0 n0 Z0
  | 6, _ => exact rmP_6 l Z a0 hw ws v0 v1 v2 v3 h0 n0 Z0
  | 7, _ => exact rmP_7 l Z a0 hw ws v0 v1 v2 v3 h0 n0 Z0
  | 8, _ => exact rmP_8 l Z a0 hw ws v0 v1 v2 v3 h0 n0 Z0
  | 9, _ => exact rmP_9 l Z a0 hw ws v0 v1 v2 v3 h0 n0 Z0
  | 10, _ => exact rmP_10 l Z a0 hw ws v0 v1 v2 v3 h0 n0 Z0
  | 11, _ => exact rmP_11 l Z a0 hw ws v0 v1 v2 v3 h0 n0 Z0
  | 12, _ => exact rmP_12 l Z a0 hw ws v0 v1 v2 v3 h0 n0 Z0
  | 13, _ => exact rmP_13 l Z a0 hw ws v0 v1 v2 v3 h0 n0 Z0
  | 14, _ => exact rmP_14 l Z a0 hw ws v0 v1 v2 v3 h0 n0 Z0
  | 15, _ => exact rmP_15 l Z a0 hw ws v0 v1 v2 v3 h0 n0 Z0
  | n + 16, q => exact absurd q (by omega)
theorem d5_49 : decode prog_21_method_5_code 49 = .ok (.iload_n 3, 1) := by decide +kernel
theorem d5_50 : decode prog_21_method_5_code 50 = .ok (.aload_n 1, 1) := by decide +kernel
theorem d5_51 : decode prog_21_method_5_code 51 = .ok (.getfield 13, 3) := by decide +kernel
theorem d5_54 : decode prog_21_method_5_code 54 = .ok (.arraylength, 1) := by decide +kernel
theorem d5_55 : decode prog_21_method_5_code 55 = .ok (.if_icmp .ge 26, 3) := by decide +kernel
set_option maxRecDepth 65536 in
set_option maxHeartbeats 40000000 in
theorem tA {p : Program} {l : Launch} {e : Env} {s : State} {m : MethodId} {args : Array Value} {below : List Frame} {meth : Method} {c : Code} {T0 : State} {locs : List Loc} {Z : State} {a0 : Array Value} {h0 : Heap}  (a1 a2 x1 x2 : Addr) (xs ys : List Int64) (clx cly : Cell) (inn : Int32) (k i : Nat) 
    (X0 : Stand p l e ({ frames := 0, cells := 0, slots := 0, locals := 0 } : Room) s m args below meth c T0 locs 0 0) (hx : p.tables.exec = Jvm.exec) (hZ : Z.Warmed39 s.vm) (hw : ∀ d ∈ tables_1, d.before a0 Z = true) (hby : c.code = prog_21_method_5_code) (hml : c.maxLocals = 5) (hown : s.vm.findClass "com/example/nest3/nest3/Determinization$Subset" = some m.cls) (e0 : T0.heap = h0)  (F1p : Fld Z h0 a1 "com/example/nest3/nest3/Determinization$Subset" "pairs" "[J" (.ref x1)) (F2p : Fld Z h0 a2 "com/example/nest3/nest3/Determinization$Subset" "pairs" "[J" (.ref x2)) (Ax : Arr Z h0 x1 clx .long) (Sx : clx.slots.size = xs.length) (bx : xs.length ≤ 4) (Hx : ∀ (j : Nat) (x : Int64), xs[j]? = some x → clx.slots[j]? = some (.long x)) (Ay : Arr Z h0 x2 cly .long) (Sy : cly.slots.size = ys.length) (by_ : ys.length ≤ 4) (Hy : ∀ (j : Nat) (x : Int64), ys[j]? = some x → cly.slots[j]? = some (.long x)) (hk : ¬ Int32.ofNat k < Int32.ofNat ys.length) :
    ∃ T' : State, Stand p l e ({ frames := 0, cells := 0, slots := 0, locals := 0 } : Room) s m args below meth c T' locs 0 0 ∧ T'.heap = h0 ∧ ∀ t, Steps p.tables e below (T'.setTop (mkF m 81 #[.val (.ref a1), .val (.ref a2), .val (.int inn), .val (.int (Int32.ofNat k)), .val (.int (Int32.ofNat i))] [])) t → Steps p.tables e below (T0.setTop (mkF m 49 #[.val (.ref a1), .val (.ref a2), .val (.int inn), .val (.int (Int32.ofNat k)), .val (.int (Int32.ofNat i))] [])) t := by
  have pre0 : ∀ t, Steps p.tables e below (T0.setTop (mkF m 49 #[.val (.ref a1), .val (.ref a2), .val (.int inn), .val (.int (Int32.ofNat k)), .val (.int (Int32.ofNat i))] [])) t → Steps p.tables e below (T0.setTop (mkF m 49 #[.val (.ref a1), .val (.ref a2), .val (.int inn), .val (.int (Int32.ofNat k)), .val (.int (Int32.ofNat i))] [])) t := fun t k => k
  have pre1 : ∀ t, Steps p.tables e below (T0.setTop (mkF m 51 #[.val (.ref a1), .val (.ref a2), .val (.int inn), .val (.int (Int32.ofNat k)), .val (.int (Int32.ofNat i))] [(.ref a2), (.int (Int32.ofNat k))])) t → Steps p.tables e below (T0.setTop (mkF m 49 #[.val (.ref a1), .val (.ref a2), .val (.int inn), .val (.int (Int32.ofNat k)), .val (.int (Int32.ofNat i))] [])) t := fun t kt => pre0 t (by
    refine XS.iloadN X0.here hx rfl (hb hby d5_49) rfl ?_
    show Steps p.tables e below (T0.setTop (mkF m 50 #[.val (.ref a1), .val (.ref a2), .val (.int inn), .val (.int (Int32.ofNat k)), .val (.int (Int32.ofNat i))] [(.int (Int32.ofNat k))])) _
    refine XS.aloadN X0.here hx rfl (hb hby d5_50) rfl rfl ?_
    show Steps p.tables e below (T0.setTop (mkF m 51 #[.val (.ref a1), .val (.ref a2), .val (.int inn), .val (.int (Int32.ofNat k)), .val (.int (Int32.ofNat i))] [(.ref a2), (.int (Int32.ofNat k))])) _
    exact kt)
  obtain ⟨T2, X2, e2, st2⟩ := getF X0 hx hZ hown (host := "") (Or.inl (hw _ (List.mem_of_getElem? (i := 21) rfl))) Via.refl e0 F2p (g := (mkF m 51 #[.val (.ref a1), .val (.ref a2), .val (.int inn), .val (.int (Int32.ofNat k)), .val (.int (Int32.ofNat i))] [(.ref a2), (.int (Int32.ofNat k))])) rfl rfl (hb hby d5_51)
  have pre3 : ∀ t, Steps p.tables e below (T2.setTop (mkF m 54 #[.val (.ref a1), .val (.ref a2), .val (.int inn), .val (.int (Int32.ofNat k)), .val (.int (Int32.ofNat i))] [(.ref x2), (.int (Int32.ofNat k))])) t → Steps p.tables e below (T0.setTop (mkF m 49 #[.val (.ref a1), .val (.ref a2), .val (.int inn), .val (.int (Int32.ofNat k)), .val (.int (Int32.ofNat i))] [])) t := fun t kt => pre1 t (st2 _ kt)
  have pre4 : ∀ t, Steps p.tables e below (T2.setTop (mkF m 81 #[.val (.ref a1), .val (.ref a2), .val (.int inn), .val (.int (Int32.ofNat k)), .val (.int (Int32.ofNat i))] [])) t → Steps p.tables e below (T0.setTop (mkF m 49 #[.val (.ref a1), .val (.ref a2), .val (.int inn), .val (.int (Int32.ofNat k)), .val (.int (Int32.ofNat i))] [])) t := fun t kt => pre3 t (by
    refine X2.arraylength hx (by rw [e2]; exact Ay.1) (State.isArrayOf_alike hZ.alike Ay.2.1) (g := (mkF m 54 #[.val (.ref a1), .val (.ref a2), .val (.int inn), .val (.int (Int32.ofNat k)), .val (.int (Int32.ofNat i))] [(.ref x2), (.int (Int32.ofNat k))])) rfl rfl (hb hby d5_54) _ ?_
    rw [Sy]
    show Steps p.tables e below (T2.setTop (mkF m 55 #[.val (.ref a1), .val (.ref a2), .val (.int inn), .val (.int (Int32.ofNat k)), .val (.int (Int32.ofNat i))] [(.int (Int32.ofNat ys.length)), (.int (Int32.ofNat k))])) _
    refine XS.icmpYes X2.here hx rfl (pc0 := 55) (pc' := 81) rfl (hb hby d5_55) rfl (flt (hk : ¬ ((Int32.ofNat k) < (Int32.ofNat ys.length)))).2.1 (by decide) (by decide) ?_
    show Steps p.tables e below (T2.setTop (mkF m 81 #[.val (.ref a1), .val (.ref a2), .val (.int inn), .val (.int (Int32.ofNat k)), .val (.int (Int32.ofNat i))] [])) _
    exact kt)
  exact ⟨T2, X2, e2, fun t kt => pre4 t kt⟩
theorem d5_58 : decode prog_21_method_5_code 58 = .ok (.aload_n 1, 1) := by decide +kernel
theorem d5_59 : decode prog_21_method_5_code 59 = .ok (.getfield 13, 3) := by decide +kernel
theorem d5_62 : decode prog_21_method_5_code 62 = .ok (.iload_n 3, 1) := by decide +kernel
theorem d5_63 : decode prog_21_method_5_code 63 = .ok (.laload, 1) := by decide +kernel
theorem d5_64 : decode prog_21_method_5_code 64 = .ok (.aload_n 0, 1) := by decide +kernel
theorem d5_65 : decode prog_21_method_5_code 65 = .ok (.getfield 13, 3) := by decide +kernel
theorem d5_68 : decode prog_21_method_5_code 68 = .ok (.iload 4, 2) := by decide +kernel
theorem d5_70 : decode prog_21_method_5_code 70 = .ok (.laload, 1) := by decide +kernel
theorem d5_71 : decode prog_21_method_5_code 71 = .ok (.lcmp, 1) := by decide +kernel
theorem d5_72 : decode prog_21_method_5_code 72 = .ok (.ifCond .ge 9, 3) := by decide +kernel
theorem d5_75 : decode prog_21_method_5_code 75 = .ok (.iinc 3 1, 3) := by decide +kernel
theorem d5_78 : decode prog_21_method_5_code 78 = .ok (.goto (-29), 3) := by decide +kernel
set_option maxRecDepth 65536 in
set_option maxHeartbeats 40000000 in
theorem tB {p : Program} {l : Launch} {e : Env} {s : State} {m : MethodId} {args : Array Value} {below : List Frame} {meth : Method} {c : Code} {T0 : State} {locs : List Loc} {Z : State} {a0 : Array Value} {h0 : Heap}  (a1 a2 x1 x2 : Addr) (xs ys : List Int64) (clx cly : Cell) (inn : Int32) (k i : Nat) (x y : Int64)
    (X0 : Stand p l e ({ frames := 0, cells := 0, slots := 0, locals := 0 } : Room) s m args below meth c T0 locs 0 0) (hx : p.tables.exec = Jvm.exec) (hZ : Z.Warmed39 s.vm) (hw : ∀ d ∈ tables_1, d.before a0 Z = true) (hby : c.code = prog_21_method_5_code) (hml : c.maxLocals = 5) (hown : s.vm.findClass "com/example/nest3/nest3/Determinization$Subset" = some m.cls) (e0 : T0.heap = h0)  (F1p : Fld Z h0 a1 "com/example/nest3/nest3/Determinization$Subset" "pairs" "[J" (.ref x1)) (F2p : Fld Z h0 a2 "com/example/nest3/nest3/Determinization$Subset" "pairs" "[J" (.ref x2)) (Ax : Arr Z h0 x1 clx .long) (Sx : clx.slots.size = xs.length) (bx : xs.length ≤ 4) (Hx : ∀ (j : Nat) (x : Int64), xs[j]? = some x → clx.slots[j]? = some (.long x)) (Ay : Arr Z h0 x2 cly .long) (Sy : cly.slots.size = ys.length) (by_ : ys.length ≤ 4) (Hy : ∀ (j : Nat) (x : Int64), ys[j]? = some x → cly.slots[j]? = some (.long x)) (hk : Int32.ofNat k < Int32.ofNat ys.length) (hyk : ys[k]? = some y) (hxi : xs[i]? = some x) (hlt : y < x) :
    ∃ T' : State, Stand p l e ({ frames := 0, cells := 0, slots := 0, locals := 0 } : Room) s m args below meth c T' locs 0 0 ∧ T'.heap = h0 ∧ ∀ t, Steps p.tables e below (T'.setTop (mkF m 49 #[.val (.ref a1), .val (.ref a2), .val (.int inn), .val (.int ((Int32.ofNat k) + (1 : Int32))), .val (.int (Int32.ofNat i))] [])) t → Steps p.tables e below (T0.setTop (mkF m 49 #[.val (.ref a1), .val (.ref a2), .val (.int inn), .val (.int (Int32.ofNat k)), .val (.int (Int32.ofNat i))] [])) t := by
  have pre0 : ∀ t, Steps p.tables e below (T0.setTop (mkF m 49 #[.val (.ref a1), .val (.ref a2), .val (.int inn), .val (.int (Int32.ofNat k)), .val (.int (Int32.ofNat i))] [])) t → Steps p.tables e below (T0.setTop (mkF m 49 #[.val (.ref a1), .val (.ref a2), .val (.int inn), .val (.int (Int32.ofNat k)), .val (.int (Int32.ofNat i))] [])) t := fun t k => k
  have pre1 : ∀ t, Steps p.tables e below (T0.setTop (mkF m 51 #[.val (.ref a1), .val (.ref a2), .val (.int inn), .val (.int (Int32.ofNat k)), .val (.int (Int32.ofNat i))] [(.ref a2), (.int (Int32.ofNat k))])) t → Steps p.tables e below (T0.setTop (mkF m 49 #[.val (.ref a1), .val (.ref a2), .val (.int inn), .val (.int (Int32.ofNat k)), .val (.int (Int32.ofNat i))] [])) t := fun t kt => pre0 t (by
    refine XS.iloadN X0.here hx rfl (hb hby d5_49) rfl ?_
    show Steps p.tables e below (T0.setTop (mkF m 50 #[.val (.ref a1), .val (.ref a2), .val (.int inn), .val (.int (Int32.ofNat k)), .val (.int (Int32.ofNat i))] [(.int (Int32.ofNat k))])) _
    refine XS.aloadN X0.here hx rfl (hb hby d5_50) rfl rfl ?_
    show Steps p.tables e below (T0.setTop (mkF m 51 #[.val (.ref a1), .val (.ref a2), .val (.int inn), .val (.int (Int32.ofNat k)), .val (.int (Int32.ofNat i))] [(.ref a2), (.int (Int32.ofNat k))])) _
    exact kt)
  obtain ⟨T2, X2, e2, st2⟩ := getF X0 hx hZ hown (host := "") (Or.inl (hw _ (List.mem_of_getElem? (i := 21) rfl))) Via.refl e0 F2p (g := (mkF m 51 #[.val (.ref a1), .val (.ref a2), .val (.int inn), .val (.int (Int32.ofNat k)), .val (.int (Int32.ofNat i))] [(.ref a2), (.int (Int32.ofNat k))])) rfl rfl (hb hby d5_51)
  have pre3 : ∀ t, Steps p.tables e below (T2.setTop (mkF m 54 #[.val (.ref a1), .val (.ref a2), .val (.int inn), .val (.int (Int32.ofNat k)), .val (.int (Int32.ofNat i))] [(.ref x2), (.int (Int32.ofNat k))])) t → Steps p.tables e below (T0.setTop (mkF m 49 #[.val (.ref a1), .val (.ref a2), .val (.int inn), .val (.int (Int32.ofNat k)), .val (.int (Int32.ofNat i))] [])) t := fun t kt => pre1 t (st2 _ kt)
  have pre4 : ∀ t, Steps p.tables e below (T2.setTop (mkF m 59 #[.val (.ref a1), .val (.ref a2), .val (.int inn), .val (.int (Int32.ofNat k)), .val (.int (Int32.ofNat i))] [(.ref a2)])) t → Steps p.tables e below (T0.setTop (mkF m 49 #[.val (.ref a1), .val (.ref a2), .val (.int inn), .val (.int (Int32.ofNat k)), .val (.int (Int32.ofNat i))] [])) t := fun t kt => pre3 t (by
    refine X2.arraylength hx (by rw [e2]; exact Ay.1) (State.isArrayOf_alike hZ.alike Ay.2.1) (g := (mkF m 54 #[.val (.ref a1), .val (.ref a2), .val (.int inn), .val (.int (Int32.ofNat k)), .val (.int (Int32.ofNat i))] [(.ref x2), (.int (Int32.ofNat k))])) rfl rfl (hb hby d5_54) _ ?_
    rw [Sy]
    show Steps p.tables e below (T2.setTop (mkF m 55 #[.val (.ref a1), .val (.ref a2), .val (.int inn), .val (.int (Int32.ofNat k)), .val (.int (Int32.ofNat i))] [(.int (Int32.ofNat ys.length)), (.int (Int32.ofNat k))])) _
    refine XS.icmpNo X2.here hx rfl (hb hby d5_55) rfl (tlt (hk : (Int32.ofNat k) < (Int32.ofNat ys.length))).2.1 ?_
    show Steps p.tables e below (T2.setTop (mkF m 58 #[.val (.ref a1), .val (.ref a2), .val (.int inn), .val (.int (Int32.ofNat k)), .val (.int (Int32.ofNat i))] [])) _
    refine XS.aloadN X2.here hx rfl (hb hby d5_58) rfl rfl ?_
    show Steps p.tables e below (T2.setTop (mkF m 59 #[.val (.ref a1), .val (.ref a2), .val (.int inn), .val (.int (Int32.ofNat k)), .val (.int (Int32.ofNat i))] [(.ref a2)])) _
    exact kt)
  obtain ⟨T5, X5, e5, st5⟩ := getF X2 hx hZ hown (host := "") (Or.inl (hw _ (List.mem_of_getElem? (i := 21) rfl))) Via.refl e2 F2p (g := (mkF m 59 #[.val (.ref a1), .val (.ref a2), .val (.int inn), .val (.int (Int32.ofNat k)), .val (.int (Int32.ofNat i))] [(.ref a2)])) rfl rfl (hb hby d5_59)
  have pre6 : ∀ t, Steps p.tables e below (T5.setTop (mkF m 62 #[.val (.ref a1), .val (.ref a2), .val (.int inn), .val (.int (Int32.ofNat k)), .val (.int (Int32.ofNat i))] [(.ref x2)])) t → Steps p.tables e below (T0.setTop (mkF m 49 #[.val (.ref a1), .val (.ref a2), .val (.int inn), .val (.int (Int32.ofNat k)), .val (.int (Int32.ofNat i))] [])) t := fun t kt => pre4 t (st5 _ kt)
  have pre7 : ∀ t, Steps p.tables e below (T5.setTop (mkF m 65 #[.val (.ref a1), .val (.ref a2), .val (.int inn), .val (.int (Int32.ofNat k)), .val (.int (Int32.ofNat i))] [(.ref a1), (.long y)])) t → Steps p.tables e below (T0.setTop (mkF m 49 #[.val (.ref a1), .val (.ref a2), .val (.int inn), .val (.int (Int32.ofNat k)), .val (.int (Int32.ofNat i))] [])) t := fun t kt => pre6 t (by
    refine XS.iloadN X5.here hx rfl (hb hby d5_62) rfl ?_
    show Steps p.tables e below (T5.setTop (mkF m 63 #[.val (.ref a1), .val (.ref a2), .val (.int inn), .val (.int (Int32.ofNat k)), .val (.int (Int32.ofNat i))] [(.int (Int32.ofNat k)), (.ref x2)])) _
    refine X5.laload hx (j := (Int32.ofNat k)) (v := (.long y)) (by rw [e5]; exact Ay.1) (State.isArrayOf_alike hZ.alike Ay.2.1) Ay.2.2 (own_in Sy by_ hyk) (own_at Hy by_ hyk) (g := (mkF m 63 #[.val (.ref a1), .val (.ref a2), .val (.int inn), .val (.int (Int32.ofNat k)), .val (.int (Int32.ofNat i))] [(.int (Int32.ofNat k)), (.ref x2)])) rfl rfl (hb hby d5_63) _ ?_
    show Steps p.tables e below (T5.setTop (mkF m 64 #[.val (.ref a1), .val (.ref a2), .val (.int inn), .val (.int (Int32.ofNat k)), .val (.int (Int32.ofNat i))] [(.long y)])) _
    refine XS.aloadN X5.here hx rfl (hb hby d5_64) rfl rfl ?_
    show Steps p.tables e below (T5.setTop (mkF m 65 #[.val (.ref a1), .val (.ref a2), .val (.int inn), .val (.int (Int32.ofNat k)), .val (.int (Int32.ofNat i))] [(.ref a1), (.long y)])) _
    exact kt)
  obtain ⟨T8, X8, e8, st8⟩ := getF X5 hx hZ hown (host := "") (Or.inl (hw _ (List.mem_of_getElem? (i := 21) rfl))) Via.refl e5 F1p (g := (mkF m 65 #[.val (.ref a1), .val (.ref a2), .val (.int inn), .val (.int (Int32.ofNat k)), .val (.int (Int32.ofNat i))] [(.ref a1), (.long y)])) rfl rfl (hb hby d5_65)
  have pre9 : ∀ t, Steps p.tables e below (T8.setTop (mkF m 68 #[.val (.ref a1), .val (.ref a2), .val (.int inn), .val (.int (Int32.ofNat k)), .val (.int (Int32.ofNat i))] [(.ref x1), (.long y)])) t → Steps p.tables e below (T0.setTop (mkF m 49 #[.val (.ref a1), .val (.ref a2), .val (.int inn), .val (.int (Int32.ofNat k)), .val (.int (Int32.ofNat i))] [])) t := fun t kt => pre7 t (st8 _ kt)
  have pre10 : ∀ t, Steps p.tables e below (T8.setTop (mkF m 49 #[.val (.ref a1), .val (.ref a2), .val (.int inn), .val (.int ((Int32.ofNat k) + (1 : Int32))), .val (.int (Int32.ofNat i))] [])) t → Steps p.tables e below (T0.setTop (mkF m 49 #[.val (.ref a1), .val (.ref a2), .val (.int inn), .val (.int (Int32.ofNat k)), .val (.int (Int32.ofNat i))] [])) t := fun t kt => pre9 t (by
    refine XS.iload X8.here hx rfl (hb hby d5_68) rfl ?_
    show Steps p.tables e below (T8.setTop (mkF m 70 #[.val (.ref a1), .val (.ref a2), .val (.int inn), .val (.int (Int32.ofNat k)), .val (.int (Int32.ofNat i))] [(.int (Int32.ofNat i)), (.ref x1), (.long y)])) _
    refine X8.laload hx (j := (Int32.ofNat i)) (v := (.long x)) (by rw [e8]; exact Ax.1) (State.isArrayOf_alike hZ.alike Ax.2.1) Ax.2.2 (own_in Sx bx hxi) (own_at Hx bx hxi) (g := (mkF m 70 #[.val (.ref a1), .val (.ref a2), .val (.int inn), .val (.int (Int32.ofNat k)), .val (.int (Int32.ofNat i))] [(.int (Int32.ofNat i)), (.ref x1), (.long y)])) rfl rfl (hb hby d5_70) _ ?_
    show Steps p.tables e below (T8.setTop (mkF m 71 #[.val (.ref a1), .val (.ref a2), .val (.int inn), .val (.int (Int32.ofNat k)), .val (.int (Int32.ofNat i))] [(.long x), (.long y)])) _
    refine XS.lcmp X8.here hx rfl (hb hby d5_71) rfl ?_
    show Steps p.tables e below (T8.setTop (mkF m 72 #[.val (.ref a1), .val (.ref a2), .val (.int inn), .val (.int (Int32.ofNat k)), .val (.int (Int32.ofNat i))] [(.int (lcmpW y x))])) _
    refine XS.ifNo X8.here hx rfl (hb hby d5_72) rfl ((if0 _ _).trans (tlt ((lw_lt _ _).mpr (hlt : y < x))).2.1) ?_
    show Steps p.tables e below (T8.setTop (mkF m 75 #[.val (.ref a1), .val (.ref a2), .val (.int inn), .val (.int (Int32.ofNat k)), .val (.int (Int32.ofNat i))] [])) _
    refine XS.iinc X8.here hx rfl (hb hby d5_75) rfl (l' := #[.val (.ref a1), .val (.ref a2), .val (.int inn), .val (.int ((Int32.ofNat k) + (1 : Int32))), .val (.int (Int32.ofNat i))]) rfl ?_
    show Steps p.tables e below (T8.setTop (mkF m 78 #[.val (.ref a1), .val (.ref a2), .val (.int inn), .val (.int ((Int32.ofNat k) + (1 : Int32))), .val (.int (Int32.ofNat i))] [])) _
    refine XS.goto X8.here hx rfl (pc0 := 78) (pc' := 49) rfl (hb hby d5_78) (by decide) (by decide) ?_
    show Steps p.tables e below (T8.setTop (mkF m 49 #[.val (.ref a1), .val (.ref a2), .val (.int inn), .val (.int ((Int32.ofNat k) + (1 : Int32))), .val (.int (Int32.ofNat i))] [])) _
    exact kt)
  exact ⟨T8, X8, e8, fun t kt => pre10 t kt⟩
set_option maxRecDepth 65536 in
set_option maxHeartbeats 40000000 in
theorem tC {p : Program} {l : Launch} {e : Env} {s : State} {m : MethodId} {args : Array Value} {below : List Frame} {meth : Method} {c : Code} {T0 : State} {locs : List Loc} {Z : State} {a0 : Array Value} {h0 : Heap}  (a1 a2 x1 x2 : Addr) (xs ys : List Int64) (clx cly : Cell) (inn : Int32) (k i : Nat) (x y : Int64)
    (X0 : Stand p l e ({ frames := 0, cells := 0, slots := 0, locals := 0 } : Room) s m args below meth c T0 locs 0 0) (hx : p.tables.exec = Jvm.exec) (hZ : Z.Warmed39 s.vm) (hw : ∀ d ∈ tables_1, d.before a0 Z = true) (hby : c.code = prog_21_method_5_code) (hml : c.maxLocals = 5) (hown : s.vm.findClass "com/example/nest3/nest3/Determinization$Subset" = some m.cls) (e0 : T0.heap = h0)  (F1p : Fld Z h0 a1 "com/example/nest3/nest3/Determinization$Subset" "pairs" "[J" (.ref x1)) (F2p : Fld Z h0 a2 "com/example/nest3/nest3/Determinization$Subset" "pairs" "[J" (.ref x2)) (Ax : Arr Z h0 x1 clx .long) (Sx : clx.slots.size = xs.length) (bx : xs.length ≤ 4) (Hx : ∀ (j : Nat) (x : Int64), xs[j]? = some x → clx.slots[j]? = some (.long x)) (Ay : Arr Z h0 x2 cly .long) (Sy : cly.slots.size = ys.length) (by_ : ys.length ≤ 4) (Hy : ∀ (j : Nat) (x : Int64), ys[j]? = some x → cly.slots[j]? = some (.long x)) (hk : Int32.ofNat k < Int32.ofNat ys.length) (hyk : ys[k]? = some y) (hxi : xs[i]? = some x) (hlt : ¬ y < x) :
    ∃ T' : State, Stand p l e ({ frames := 0, cells := 0, slots := 0, locals := 0 } : Room) s m args below meth c T' locs 0 0 ∧ T'.heap = h0 ∧ ∀ t, Steps p.tables e below (T'.setTop (mkF m 81 #[.val (.ref a1), .val (.ref a2), .val (.int inn), .val (.int (Int32.ofNat k)), .val (.int (Int32.ofNat i))] [])) t → Steps p.tables e below (T0.setTop (mkF m 49 #[.val (.ref a1), .val (.ref a2), .val (.int inn), .val (.int (Int32.ofNat k)), .val (.int (Int32.ofNat i))] [])) t := by
  have pre0 : ∀ t, Steps p.tables e below (T0.setTop (mkF m 49 #[.val (.ref a1), .val (.ref a2), .val (.int inn), .val (.int (Int32.ofNat k)), .val (.int (Int32.ofNat i))] [])) t → Steps p.tables e below (T0.setTop (mkF m 49 #[.val (.ref a1), .val (.ref a2), .val (.int inn), .val (.int (Int32.ofNat k)), .val (.int (Int32.ofNat i))] [])) t := fun t k => k
  have pre1 : ∀ t, Steps p.tables e below (T0.setTop (mkF m 51 #[.val (.ref a1), .val (.ref a2), .val (.int inn), .val (.int (Int32.ofNat k)), .val (.int (Int32.ofNat i))] [(.ref a2), (.int (Int32.ofNat k))])) t → Steps p.tables e below (T0.setTop (mkF m 49 #[.val (.ref a1), .val (.ref a2), .val (.int inn), .val (.int (Int32.ofNat k)), .val (.int (Int32.ofNat i))] [])) t := fun t kt => pre0 t (by
    refine XS.iloadN X0.here hx rfl (hb hby d5_49) rfl ?_
    show Steps p.tables e below (T0.setTop (mkF m 50 #[.val (.ref a1), .val (.ref a2), .val (.int inn), .val (.int (Int32.ofNat k)), .val (.int (Int32.ofNat i))] [(.int (Int32.ofNat k))])) _
    refine XS.aloadN X0.here hx rfl (hb hby d5_50) rfl rfl ?_
    show Steps p.tables e below (T0.setTop (mkF m 51 #[.val (.ref a1), .val (.ref a2), .val (.int inn), .val (.int (Int32.ofNat k)), .val (.int (Int32.ofNat i))] [(.ref a2), (.int (Int32.ofNat k))])) _
    exact kt)
  obtain ⟨T2, X2, e2, st2⟩ := getF X0 hx hZ hown (host := "") (Or.inl (hw _ (List.mem_of_getElem? (i := 21) rfl))) Via.refl e0 F2p (g := (mkF m 51 #[.val (.ref a1), .val (.ref a2), .val (.int inn), .val (.int (Int32.ofNat k)), .val (.int (Int32.ofNat i))] [(.ref a2), (.int (Int32.ofNat k))])) rfl rfl (hb hby d5_51)
  have pre3 : ∀ t, Steps p.tables e below (T2.setTop (mkF m 54 #[.val (.ref a1), .val (.ref a2), .val (.int inn), .val (.int (Int32.ofNat k)), .val (.int (Int32.ofNat i))] [(.ref x2), (.int (Int32.ofNat k))])) t → Steps p.tables e below (T0.setTop (mkF m 49 #[.val (.ref a1), .val (.ref a2), .val (.int inn), .val (.int (Int32.ofNat k)), .val (.int (Int32.ofNat i))] [])) t := fun t kt => pre1 t (st2 _ kt)
  have pre4 : ∀ t, Steps p.tables e below (T2.setTop (mkF m 59 #[.val (.ref a1), .val (.ref a2), .val (.int inn), .val (.int (Int32.ofNat k)), .val (.int (Int32.ofNat i))] [(.ref a2)])) t → Steps p.tables e below (T0.setTop (mkF m 49 #[.val (.ref a1), .val (.ref a2), .val (.int inn), .val (.int (Int32.ofNat k)), .val (.int (Int32.ofNat i))] [])) t := fun t kt => pre3 t (by
    refine X2.arraylength hx (by rw [e2]; exact Ay.1) (State.isArrayOf_alike hZ.alike Ay.2.1) (g := (mkF m 54 #[.val (.ref a1), .val (.ref a2), .val (.int inn), .val (.int (Int32.ofNat k)), .val (.int (Int32.ofNat i))] [(.ref x2), (.int (Int32.ofNat k))])) rfl rfl (hb hby d5_54) _ ?_
    rw [Sy]
    show Steps p.tables e below (T2.setTop (mkF m 55 #[.val (.ref a1), .val (.ref a2), .val (.int inn), .val (.int (Int32.ofNat k)), .val (.int (Int32.ofNat i))] [(.int (Int32.ofNat ys.length)), (.int (Int32.ofNat k))])) _
    refine XS.icmpNo X2.here hx rfl (hb hby d5_55) rfl (tlt (hk : (Int32.ofNat k) < (Int32.ofNat ys.length))).2.1 ?_
    show Steps p.tables e below (T2.setTop (mkF m 58 #[.val (.ref a1), .val (.ref a2), .val (.int inn), .val (.int (Int32.ofNat k)), .val (.int (Int32.ofNat i))] [])) _
    refine XS.aloadN X2.here hx rfl (hb hby d5_58) rfl rfl ?_
    show Steps p.tables e below (T2.setTop (mkF m 59 #[.val (.ref a1), .val (.ref a2), .val (.int inn), .val (.int (Int32.ofNat k)), .val (.int (Int32.ofNat i))] [(.ref a2)])) _
    exact kt)
  obtain ⟨T5, X5, e5, st5⟩ := getF X2 hx hZ hown (host := "") (Or.inl (hw _ (List.mem_of_getElem? (i := 21) rfl))) Via.refl e2 F2p (g := (mkF m 59 #[.val (.ref a1), .val (.ref a2), .val (.int inn), .val (.int (Int32.ofNat k)), .val (.int (Int32.ofNat i))] [(.ref a2)])) rfl rfl (hb hby d5_59)
  have pre6 : ∀ t, Steps p.tables e below (T5.setTop (mkF m 62 #[.val (.ref a1), .val (.ref a2), .val (.int inn), .val (.int (Int32.ofNat k)), .val (.int (Int32.ofNat i))] [(.ref x2)])) t → Steps p.tables e below (T0.setTop (mkF m 49 #[.val (.ref a1), .val (.ref a2), .val (.int inn), .val (.int (Int32.ofNat k)), .val (.int (Int32.ofNat i))] [])) t := fun t kt => pre4 t (st5 _ kt)
  have pre7 : ∀ t, Steps p.tables e below (T5.setTop (mkF m 65 #[.val (.ref a1), .val (.ref a2), .val (.int inn), .val (.int (Int32.ofNat k)), .val (.int (Int32.ofNat i))] [(.ref a1), (.long y)])) t → Steps p.tables e below (T0.setTop (mkF m 49 #[.val (.ref a1), .val (.ref a2), .val (.int inn), .val (.int (Int32.ofNat k)), .val (.int (Int32.ofNat i))] [])) t := fun t kt => pre6 t (by
    refine XS.iloadN X5.here hx rfl (hb hby d5_62) rfl ?_
    show Steps p.tables e below (T5.setTop (mkF m 63 #[.val (.ref a1), .val (.ref a2), .val (.int inn), .val (.int (Int32.ofNat k)), .val (.int (Int32.ofNat i))] [(.int (Int32.ofNat k)), (.ref x2)])) _
    refine X5.laload hx (j := (Int32.ofNat k)) (v := (.long y)) (by rw [e5]; exact Ay.1) (State.isArrayOf_alike hZ.alike Ay.2.1) Ay.2.2 (own_in Sy by_ hyk) (own_at Hy by_ hyk) (g := (mkF m 63 #[.val (.ref a1), .val (.ref a2), .val (.int inn), .val (.int (Int32.ofNat k)), .val (.int (Int32.ofNat i))] [(.int (Int32.ofNat k)), (.ref x2)])) rfl rfl (hb hby d5_63) _ ?_
    show Steps p.tables e below (T5.setTop (mkF m 64 #[.val (.ref a1), .val (.ref a2), .val (.int inn), .val (.int (Int32.ofNat k)), .val (.int (Int32.ofNat i))] [(.long y)])) _
    refine XS.aloadN X5.here hx rfl (hb hby d5_64) rfl rfl ?_
    show Steps p.tables e below (T5.setTop (mkF m 65 #[.val (.ref a1), .val (.ref a2), .val (.int inn), .val (.int (Int32.ofNat k)), .val (.int (Int32.ofNat i))] [(.ref a1), (.long y)])) _
    exact kt)
  obtain ⟨T8, X8, e8, st8⟩ := getF X5 hx hZ hown (host := "") (Or.inl (hw _ (List.mem_of_getElem? (i := 21) rfl))) Via.refl e5 F1p (g := (mkF m 65 #[.val (.ref a1), .val (.ref a2), .val (.int inn), .val (.int (Int32.ofNat k)), .val (.int (Int32.ofNat i))] [(.ref a1), (.long y)])) rfl rfl (hb hby d5_65)
  have pre9 : ∀ t, Steps p.tables e below (T8.setTop (mkF m 68 #[.val (.ref a1), .val (.ref a2), .val (.int inn), .val (.int (Int32.ofNat k)), .val (.int (Int32.ofNat i))] [(.ref x1), (.long y)])) t → Steps p.tables e below (T0.setTop (mkF m 49 #[.val (.ref a1), .val (.ref a2), .val (.int inn), .val (.int (Int32.ofNat k)), .val (.int (Int32.ofNat i))] [])) t := fun t kt => pre7 t (st8 _ kt)
  have pre10 : ∀ t, Steps p.tables e below (T8.setTop (mkF m 81 #[.val (.ref a1), .val (.ref a2), .val (.int inn), .val (.int (Int32.ofNat k)), .val (.int (Int32.ofNat i))] [])) t → Steps p.tables e below (T0.setTop (mkF m 49 #[.val (.ref a1), .val (.ref a2), .val (.int inn), .val (.int (Int32.ofNat k)), .val (.int (Int32.ofNat i))] [])) t := fun t kt => pre9 t (by
    refine XS.iload X8.here hx rfl (hb hby d5_68) rfl ?_
    show Steps p.tables e below (T8.setTop (mkF m 70 #[.val (.ref a1), .val (.ref a2), .val (.int inn), .val (.int (Int32.ofNat k)), .val (.int (Int32.ofNat i))] [(.int (Int32.ofNat i)), (.ref x1), (.long y)])) _
    refine X8.laload hx (j := (Int32.ofNat i)) (v := (.long x)) (by rw [e8]; exact Ax.1) (State.isArrayOf_alike hZ.alike Ax.2.1) Ax.2.2 (own_in Sx bx hxi) (own_at Hx bx hxi) (g := (mkF m 70 #[.val (.ref a1), .val (.ref a2), .val (.int inn), .val (.int (Int32.ofNat k)), .val (.int (Int32.ofNat i))] [(.int (Int32.ofNat i)), (.ref x1), (.long y)])) rfl rfl (hb hby d5_70) _ ?_
    show Steps p.tables e below (T8.setTop (mkF m 71 #[.val (.ref a1), .val (.ref a2), .val (.int inn), .val (.int (Int32.ofNat k)), .val (.int (Int32.ofNat i))] [(.long x), (.long y)])) _
    refine XS.lcmp X8.here hx rfl (hb hby d5_71) rfl ?_
    show Steps p.tables e below (T8.setTop (mkF m 72 #[.val (.ref a1), .val (.ref a2), .val (.int inn), .val (.int (Int32.ofNat k)), .val (.int (Int32.ofNat i))] [(.int (lcmpW y x))])) _
    refine XS.ifYes X8.here hx rfl (pc0 := 72) (pc' := 81) rfl (hb hby d5_72) rfl ((if0 _ _).trans (flt (mt (lw_lt _ _).mp (hlt : ¬ (y < x)))).2.1) (by decide) (by decide) ?_
    show Steps p.tables e below (T8.setTop (mkF m 81 #[.val (.ref a1), .val (.ref a2), .val (.int inn), .val (.int (Int32.ofNat k)), .val (.int (Int32.ofNat i))] [])) _
    exact kt)
  exact ⟨T8, X8, e8, fun t kt => pre10 t kt⟩
theorem d5_81 : decode prog_21_method_5_code 81 = .ok (.iload_n 3, 1) := by decide +kernel
theorem d5_82 : decode prog_21_method_5_code 82 = .ok (.aload_n 1, 1) := by decide +kernel
theorem d5_83 : decode prog_21_method_5_code 83 = .ok (.getfield 13, 3) := by decide +kernel
theorem d5_86 : decode prog_21_method_5_code 86 = .ok (.arraylength, 1) := by decide +kernel
theorem d5_87 : decode prog_21_method_5_code 87 = .ok (.if_icmp .ge 24, 3) := by decide +kernel
theorem d5_111 : decode prog_21_method_5_code 111 = .ok (.iconst 0, 1) := by decide +kernel
theorem d5_112 : decode prog_21_method_5_code 112 = .ok (.istore_n 2, 1) := by decide +kernel
theorem d5_113 : decode prog_21_method_5_code 113 = .ok (.iinc 4 1, 3) := by decide +kernel
theorem d5_116 : decode prog_21_method_5_code 116 = .ok (.goto (-81), 3) := by decide +kernel
set_option maxRecDepth 65536 in
set_option maxHeartbeats 40000000 in
theorem tD {p : Program} {l : Launch} {e : Env} {s : State} {m : MethodId} {args : Array Value} {below : List Frame} {meth : Method} {c : Code} {T0 : State} {locs : List Loc} {Z : State} {a0 : Array Value} {h0 : Heap}  (a1 a2 x1 x2 : Addr) (xs ys : List Int64) (clx cly : Cell) (inn : Int32) (k i : Nat) 
    (X0 : Stand p l e ({ frames := 0, cells := 0, slots := 0, locals := 0 } : Room) s m args below meth c T0 locs 0 0) (hx : p.tables.exec = Jvm.exec) (hZ : Z.Warmed39 s.vm) (hw : ∀ d ∈ tables_1, d.before a0 Z = true) (hby : c.code = prog_21_method_5_code) (hml : c.maxLocals = 5) (hown : s.vm.findClass "com/example/nest3/nest3/Determinization$Subset" = some m.cls) (e0 : T0.heap = h0)  (F1p : Fld Z h0 a1 "com/example/nest3/nest3/Determinization$Subset" "pairs" "[J" (.ref x1)) (F2p : Fld Z h0 a2 "com/example/nest3/nest3/Determinization$Subset" "pairs" "[J" (.ref x2)) (Ax : Arr Z h0 x1 clx .long) (Sx : clx.slots.size = xs.length) (bx : xs.length ≤ 4) (Hx : ∀ (j : Nat) (x : Int64), xs[j]? = some x → clx.slots[j]? = some (.long x)) (Ay : Arr Z h0 x2 cly .long) (Sy : cly.slots.size = ys.length) (by_ : ys.length ≤ 4) (Hy : ∀ (j : Nat) (x : Int64), ys[j]? = some x → cly.slots[j]? = some (.long x)) (hk : ¬ Int32.ofNat k < Int32.ofNat ys.length) :
    ∃ T' : State, Stand p l e ({ frames := 0, cells := 0, slots := 0, locals := 0 } : Room) s m args below meth c T' locs 0 0 ∧ T'.heap = h0 ∧ ∀ t, Steps p.tables e below (T'.setTop (mkF m 35 #[.val (.ref a1), .val (.ref a2), .val (.int (0 : Int32)), .val (.int (Int32.ofNat k)), .val (.int ((Int32.ofNat i) + (1 : Int32)))] [])) t → Steps p.tables e below (T0.setTop (mkF m 81 #[.val (.ref a1), .val (.ref a2), .val (.int inn), .val (.int (Int32.ofNat k)), .val (.int (Int32.ofNat i))] [])) t := by
  have pre0 : ∀ t, Steps p.tables e below (T0.setTop (mkF m 81 #[.val (.ref a1), .val (.ref a2), .val (.int inn), .val (.int (Int32.ofNat k)), .val (.int (Int32.ofNat i))] [])) t → Steps p.tables e below (T0.setTop (mkF m 81 #[.val (.ref a1), .val (.ref a2), .val (.int inn), .val (.int (Int32.ofNat k)), .val (.int (Int32.ofNat i))] [])) t := fun t k => k
  have pre1 : ∀ t, Steps p.tables e below (T0.setTop (mkF m 83 #[.val (.ref a1), .val (.ref a2), .val (.int inn), .val (.int (Int32.ofNat k)), .val (.int (Int32.ofNat i))] [(.ref a2), (.int (Int32.ofNat k))])) t → Steps p.tables e below (T0.setTop (mkF m 81 #[.val (.ref a1), .val (.ref a2), .val (.int inn), .val (.int (Int32.ofNat k)), .val (.int (Int32.ofNat i))] [])) t := fun t kt => pre0 t (by
    refine XS.iloadN X0.here hx rfl (hb hby d5_81) rfl ?_
    show Steps p.tables e below (T0.setTop (mkF m 82 #[.val (.ref a1), .val (.ref a2), .val (.int inn), .val (.int (Int32.ofNat k)), .val (.int (Int32.ofNat i))] [(.int (Int32.ofNat k))])) _
    refine XS.aloadN X0.here hx rfl (hb hby d5_82) rfl rfl ?_
    show Steps p.tables e below (T0.setTop (mkF m 83 #[.val (.ref a1), .val (.ref a2), .val (.int inn), .val (.int (Int32.ofNat k)), .val (.int (Int32.ofNat i))] [(.ref a2), (.int (Int32.ofNat k))])) _
    exact kt)
  obtain ⟨T2, X2, e2, st2⟩ := getF X0 hx hZ hown (host := "") (Or.inl (hw _ (List.mem_of_getElem? (i := 21) rfl))) Via.refl e0 F2p (g := (mkF m 83 #[.val (.ref a1), .val (.ref a2), .val (.int inn), .val (.int (Int32.ofNat k)), .val (.int (Int32.ofNat i))] [(.ref a2), (.int (Int32.ofNat k))])) rfl rfl (hb hby d5_83)
  have pre3 : ∀ t, Steps p.tables e below (T2.setTop (mkF m 86 #[.val (.ref a1), .val (.ref a2), .val (.int inn), .val (.int (Int32.ofNat k)), .val (.int (Int32.ofNat i))] [(.ref x2), (.int (Int32.ofNat k))])) t → Steps p.tables e below (T0.setTop (mkF m 81 #[.val (.ref a1), .val (.ref a2), .val (.int inn), .val (.int (Int32.ofNat k)), .val (.int (Int32.ofNat i))] [])) t := fun t kt => pre1 t (st2 _ kt)
  have pre4 : ∀ t, Steps p.tables e below (T2.setTop (mkF m 35 #[.val (.ref a1), .val (.ref a2), .val (.int (0 : Int32)), .val (.int (Int32.ofNat k)), .val (.int ((Int32.ofNat i) + (1 : Int32)))] [])) t → Steps p.tables e below (T0.setTop (mkF m 81 #[.val (.ref a1), .val (.ref a2), .val (.int inn), .val (.int (Int32.ofNat k)), .val (.int (Int32.ofNat i))] [])) t := fun t kt => pre3 t (by
    refine X2.arraylength hx (by rw [e2]; exact Ay.1) (State.isArrayOf_alike hZ.alike Ay.2.1) (g := (mkF m 86 #[.val (.ref a1), .val (.ref a2), .val (.int inn), .val (.int (Int32.ofNat k)), .val (.int (Int32.ofNat i))] [(.ref x2), (.int (Int32.ofNat k))])) rfl rfl (hb hby d5_86) _ ?_
    rw [Sy]
    show Steps p.tables e below (T2.setTop (mkF m 87 #[.val (.ref a1), .val (.ref a2), .val (.int inn), .val (.int (Int32.ofNat k)), .val (.int (Int32.ofNat i))] [(.int (Int32.ofNat ys.length)), (.int (Int32.ofNat k))])) _
    refine XS.icmpYes X2.here hx rfl (pc0 := 87) (pc' := 111) rfl (hb hby d5_87) rfl (flt (hk : ¬ ((Int32.ofNat k) < (Int32.ofNat ys.length)))).2.1 (by decide) (by decide) ?_
    show Steps p.tables e below (T2.setTop (mkF m 111 #[.val (.ref a1), .val (.ref a2), .val (.int inn), .val (.int (Int32.ofNat k)), .val (.int (Int32.ofNat i))] [])) _
    refine XS.iconst X2.here hx rfl (hb hby d5_111) ?_
    show Steps p.tables e below (T2.setTop (mkF m 112 #[.val (.ref a1), .val (.ref a2), .val (.int inn), .val (.int (Int32.ofNat k)), .val (.int (Int32.ofNat i))] [(.int (0 : Int32))])) _
    refine XS.istoreN X2.here hx rfl (hb hby d5_112) rfl (l' := #[.val (.ref a1), .val (.ref a2), .val (.int (0 : Int32)), .val (.int (Int32.ofNat k)), .val (.int (Int32.ofNat i))]) rfl ?_
    show Steps p.tables e below (T2.setTop (mkF m 113 #[.val (.ref a1), .val (.ref a2), .val (.int (0 : Int32)), .val (.int (Int32.ofNat k)), .val (.int (Int32.ofNat i))] [])) _
    refine XS.iinc X2.here hx rfl (hb hby d5_113) rfl (l' := #[.val (.ref a1), .val (.ref a2), .val (.int (0 : Int32)), .val (.int (Int32.ofNat k)), .val (.int ((Int32.ofNat i) + (1 : Int32)))]) rfl ?_
    show Steps p.tables e below (T2.setTop (mkF m 116 #[.val (.ref a1), .val (.ref a2), .val (.int (0 : Int32)), .val (.int (Int32.ofNat k)), .val (.int ((Int32.ofNat i) + (1 : Int32)))] [])) _
    refine XS.goto X2.here hx rfl (pc0 := 116) (pc' := 35) rfl (hb hby d5_116) (by decide) (by decide) ?_
    show Steps p.tables e below (T2.setTop (mkF m 35 #[.val (.ref a1), .val (.ref a2), .val (.int (0 : Int32)), .val (.int (Int32.ofNat k)), .val (.int ((Int32.ofNat i) + (1 : Int32)))] [])) _
    exact kt)
  exact ⟨T2, X2, e2, fun t kt => pre4 t kt⟩
theorem d5_90 : decode prog_21_method_5_code 90 = .ok (.aload_n 1, 1) := by decide +kernel
theorem d5_91 : decode prog_21_method_5_code 91 = .ok (.getfield 13, 3) := by decide +kernel
theorem d5_94 : decode prog_21_method_5_code 94 = .ok (.iload_n 3, 1) := by decide +kernel
theorem d5_95 : decode prog_21_method_5_code 95 = .ok (.laload, 1) := by decide +kernel
theorem d5_96 : decode prog_21_method_5_code 96 = .ok (.aload_n 0, 1) := by decide +kernel
theorem d5_97 : decode prog_21_method_5_code 97 = .ok (.getfield 13, 3) := by decide +kernel
theorem d5_100 : decode prog_21_method_5_code 100 = .ok (.iload 4, 2) := by decide +kernel
theorem d5_102 : decode prog_21_method_5_code 102 = .ok (.laload, 1) := by decide +kernel
theorem d5_103 : decode prog_21_method_5_code 103 = .ok (.lcmp, 1) := by decide +kernel
theorem d5_104 : decode prog_21_method_5_code 104 = .ok (.ifCond .ne 7, 3) := by decide +kernel
theorem d5_107 : decode prog_21_method_5_code 107 = .ok (.iconst 1, 1) := by decide +kernel
theorem d5_108 : decode prog_21_method_5_code 108 = .ok (.goto 4, 3) := by decide +kernel
set_option maxRecDepth 65536 in
set_option maxHeartbeats 40000000 in
theorem tE {p : Program} {l : Launch} {e : Env} {s : State} {m : MethodId} {args : Array Value} {below : List Frame} {meth : Method} {c : Code} {T0 : State} {locs : List Loc} {Z : State} {a0 : Array Value} {h0 : Heap}  (a1 a2 x1 x2 : Addr) (xs ys : List Int64) (clx cly : Cell) (inn : Int32) (k i : Nat) (x y : Int64)
    (X0 : Stand p l e ({ frames := 0, cells := 0, slots := 0, locals := 0 } : Room) s m args below meth c T0 locs 0 0) (hx : p.tables.exec = Jvm.exec) (hZ : Z.Warmed39 s.vm) (hw : ∀ d ∈ tables_1, d.before a0 Z = true) (hby : c.code = prog_21_method_5_code) (hml : c.maxLocals = 5) (hown : s.vm.findClass "com/example/nest3/nest3/Determinization$Subset" = some m.cls) (e0 : T0.heap = h0)  (F1p : Fld Z h0 a1 "com/example/nest3/nest3/Determinization$Subset" "pairs" "[J" (.ref x1)) (F2p : Fld Z h0 a2 "com/example/nest3/nest3/Determinization$Subset" "pairs" "[J" (.ref x2)) (Ax : Arr Z h0 x1 clx .long) (Sx : clx.slots.size = xs.length) (bx : xs.length ≤ 4) (Hx : ∀ (j : Nat) (x : Int64), xs[j]? = some x → clx.slots[j]? = some (.long x)) (Ay : Arr Z h0 x2 cly .long) (Sy : cly.slots.size = ys.length) (by_ : ys.length ≤ 4) (Hy : ∀ (j : Nat) (x : Int64), ys[j]? = some x → cly.slots[j]? = some (.long x)) (hk : Int32.ofNat k < Int32.ofNat ys.length) (hyk : ys[k]? = some y) (hxi : xs[i]? = some x) (heq : y = x) :
    ∃ T' : State, Stand p l e ({ frames := 0, cells := 0, slots := 0, locals := 0 } : Room) s m args below meth c T' locs 0 0 ∧ T'.heap = h0 ∧ ∀ t, Steps p.tables e below (T'.setTop (mkF m 35 #[.val (.ref a1), .val (.ref a2), .val (.int (1 : Int32)), .val (.int (Int32.ofNat k)), .val (.int ((Int32.ofNat i) + (1 : Int32)))] [])) t → Steps p.tables e below (T0.setTop (mkF m 81 #[.val (.ref a1), .val (.ref a2), .val (.int inn), .val (.int (Int32.ofNat k)), .val (.int (Int32.ofNat i))] [])) t := by
  have pre0 : ∀ t, Steps p.tables e below (T0.setTop (mkF m 81 #[.val (.ref a1), .val (.ref a2), .val (.int inn), .val (.int (Int32.ofNat k)), .val (.int (Int32.ofNat i))] [])) t → Steps p.tables e below (T0.setTop (mkF m 81 #[.val (.ref a1), .val (.ref a2), .val (.int inn), .val (.int (Int32.ofNat k)), .val (.int (Int32.ofNat i))] [])) t := fun t k => k
  have pre1 : ∀ t, Steps p.tables e below (T0.setTop (mkF m 83 #[.val (.ref a1), .val (.ref a2), .val (.int inn), .val (.int (Int32.ofNat k)), .val (.int (Int32.ofNat i))] [(.ref a2), (.int (Int32.ofNat k))])) t → Steps p.tables e below (T0.setTop (mkF m 81 #[.val (.ref a1), .val (.ref a2), .val (.int inn), .val (.int (Int32.ofNat k)), .val (.int (Int32.ofNat i))] [])) t := fun t kt => pre0 t (by
    refine XS.iloadN X0.here hx rfl (hb hby d5_81) rfl ?_
    show Steps p.tables e below (T0.setTop (mkF m 82 #[.val (.ref a1), .val (.ref a2), .val (.int inn), .val (.int (Int32.ofNat k)), .val (.int (Int32.ofNat i))] [(.int (Int32.ofNat k))])) _
    refine XS.aloadN X0.here hx rfl (hb hby d5_82) rfl rfl ?_
    show Steps p.tables e below (T0.setTop (mkF m 83 #[.val (.ref a1), .val (.ref a2), .val (.int inn), .val (.int (Int32.ofNat k)), .val (.int (Int32.ofNat i))] [(.ref a2), (.int (Int32.ofNat k))])) _
    exact kt)
  obtain ⟨T2, X2, e2, st2⟩ := getF X0 hx hZ hown (host := "") (Or.inl (hw _ (List.mem_of_getElem? (i := 21) rfl))) Via.refl e0 F2p (g := (mkF m 83 #[.val (.ref a1), .val (.ref a2), .val (.int inn), .val (.int (Int32.ofNat k)), .val (.int (Int32.ofNat i))] [(.ref a2), (.int (Int32.ofNat k))])) rfl rfl (hb hby d5_83)
  have pre3 : ∀ t, Steps p.tables e below (T2.setTop (mkF m 86 #[.val (.ref a1), .val (.ref a2), .val (.int inn), .val (.int (Int32.ofNat k)), .val (.int (Int32.ofNat i))] [(.ref x2), (.int (Int32.ofNat k))])) t → Steps p.tables e below (T0.setTop (mkF m 81 #[.val (.ref a1), .val (.ref a2), .val (.int inn), .val (.int (Int32.ofNat k)), .val (.int (Int32.ofNat i))] [])) t := fun t kt => pre1 t (st2 _ kt)
  have pre4 : ∀ t, Steps p.tables e below (T2.setTop (mkF m 91 #[.val (.ref a1), .val (.ref a2), .val (.int inn), .val (.int (Int32.ofNat k)), .val (.int (Int32.ofNat i))] [(.ref a2)])) t → Steps p.tables e below (T0.setTop (mkF m 81 #[.val (.ref a1), .val (.ref a2), .val (.int inn), .val (.int (Int32.ofNat k)), .val (.int (Int32.ofNat i))] [])) t := fun t kt => pre3 t (by
    refine X2.arraylength hx (by rw [e2]; exact Ay.1) (State.isArrayOf_alike hZ.alike Ay.2.1) (g := (mkF m 86 #[.val (.ref a1), .val (.ref a2), .val (.int inn), .val (.int (Int32.ofNat k)), .val (.int (Int32.ofNat i))] [(.ref x2), (.int (Int32.ofNat k))])) rfl rfl (hb hby d5_86) _ ?_
    rw [Sy]
    show Steps p.tables e below (T2.setTop (mkF m 87 #[.val (.ref a1), .val (.ref a2), .val (.int inn), .val (.int (Int32.ofNat k)), .val (.int (Int32.ofNat i))] [(.int (Int32.ofNat ys.length)), (.int (Int32.ofNat k))])) _
    refine XS.icmpNo X2.here hx rfl (hb hby d5_87) rfl (tlt (hk : (Int32.ofNat k) < (Int32.ofNat ys.length))).2.1 ?_
    show Steps p.tables e below (T2.setTop (mkF m 90 #[.val (.ref a1), .val (.ref a2), .val (.int inn), .val (.int (Int32.ofNat k)), .val (.int (Int32.ofNat i))] [])) _
    refine XS.aloadN X2.here hx rfl (hb hby d5_90) rfl rfl ?_
    show Steps p.tables e below (T2.setTop (mkF m 91 #[.val (.ref a1), .val (.ref a2), .val (.int inn), .val (.int (Int32.ofNat k)), .val (.int (Int32.ofNat i))] [(.ref a2)])) _
    exact kt)
  obtain ⟨T5, X5, e5, st5⟩ := getF X2 hx hZ hown (host := "") (Or.inl (hw _ (List.mem_of_getElem? (i := 21) rfl))) Via.refl e2 F2p (g := (mkF m 91 #[.val (.ref a1), .val (.ref a2), .val (.int inn), .val (.int (Int32.ofNat k)), .val (.int (Int32.ofNat i))] [(.ref a2)])) rfl rfl (hb hby d5_91)
  have pre6 : ∀ t, Steps p.tables e below (T5.setTop (mkF m 94 #[.val (.ref a1), .val (.ref a2), .val (.int inn), .val (.int (Int32.ofNat k)), .val (.int (Int32.ofNat i))] [(.ref x2)])) t → Steps p.tables e below (T0.setTop (mkF m 81 #[.val (.ref a1), .val (.ref a2), .val (.int inn), .val (.int (Int32.ofNat k)), .val (.int (Int32.ofNat i))] [])) t := fun t kt => pre4 t (st5 _ kt)
  have pre7 : ∀ t, Steps p.tables e below (T5.setTop (mkF m 97 #[.val (.ref a1), .val (.ref a2), .val (.int inn), .val (.int (Int32.ofNat k)), .val (.int (Int32.ofNat i))] [(.ref a1), (.long y)])) t → Steps p.tables e below (T0.setTop (mkF m 81 #[.val (.ref a1), .val (.ref a2), .val (.int inn), .val (.int (Int32.ofNat k)), .val (.int (Int32.ofNat i))] [])) t := fun t kt => pre6 t (by
    refine XS.iloadN X5.here hx rfl (hb hby d5_94) rfl ?_
    show Steps p.tables e below (T5.setTop (mkF m 95 #[.val (.ref a1), .val (.ref a2), .val (.int inn), .val (.int (Int32.ofNat k)), .val (.int (Int32.ofNat i))] [(.int (Int32.ofNat k)), (.ref x2)])) _
    refine X5.laload hx (j := (Int32.ofNat k)) (v := (.long y)) (by rw [e5]; exact Ay.1) (State.isArrayOf_alike hZ.alike Ay.2.1) Ay.2.2 (own_in Sy by_ hyk) (own_at Hy by_ hyk) (g := (mkF m 95 #[.val (.ref a1), .val (.ref a2), .val (.int inn), .val (.int (Int32.ofNat k)), .val (.int (Int32.ofNat i))] [(.int (Int32.ofNat k)), (.ref x2)])) rfl rfl (hb hby d5_95) _ ?_
    show Steps p.tables e below (T5.setTop (mkF m 96 #[.val (.ref a1), .val (.ref a2), .val (.int inn), .val (.int (Int32.ofNat k)), .val (.int (Int32.ofNat i))] [(.long y)])) _
    refine XS.aloadN X5.here hx rfl (hb hby d5_96) rfl rfl ?_
    show Steps p.tables e below (T5.setTop (mkF m 97 #[.val (.ref a1), .val (.ref a2), .val (.int inn), .val (.int (Int32.ofNat k)), .val (.int (Int32.ofNat i))] [(.ref a1), (.long y)])) _
    exact kt)
  obtain ⟨T8, X8, e8, st8⟩ := getF X5 hx hZ hown (host := "") (Or.inl (hw _ (List.mem_of_getElem? (i := 21) rfl))) Via.refl e5 F1p (g := (mkF m 97 #[.val (.ref a1), .val (.ref a2), .val (.int inn), .val (.int (Int32.ofNat k)), .val (.int (Int32.ofNat i))] [(.ref a1), (.long y)])) rfl rfl (hb hby d5_97)
  have pre9 : ∀ t, Steps p.tables e below (T8.setTop (mkF m 100 #[.val (.ref a1), .val (.ref a2), .val (.int inn), .val (.int (Int32.ofNat k)), .val (.int (Int32.ofNat i))] [(.ref x1), (.long y)])) t → Steps p.tables e below (T0.setTop (mkF m 81 #[.val (.ref a1), .val (.ref a2), .val (.int inn), .val (.int (Int32.ofNat k)), .val (.int (Int32.ofNat i))] [])) t := fun t kt => pre7 t (st8 _ kt)
  have pre10 : ∀ t, Steps p.tables e below (T8.setTop (mkF m 35 #[.val (.ref a1), .val (.ref a2), .val (.int (1 : Int32)), .val (.int (Int32.ofNat k)), .val (.int ((Int32.ofNat i) + (1 : Int32)))] [])) t → Steps p.tables e below (T0.setTop (mkF m 81 #[.val (.ref a1), .val (.ref a2), .val (.int inn), .val (.int (Int32.ofNat k)), .val (.int (Int32.ofNat i))] [])) t := fun t kt => pre9 t (by
    refine XS.iload X8.here hx rfl (hb hby d5_100) rfl ?_
    show Steps p.tables e below (T8.setTop (mkF m 102 #[.val (.ref a1), .val (.ref a2), .val (.int inn), .val (.int (Int32.ofNat k)), .val (.int (Int32.ofNat i))] [(.int (Int32.ofNat i)), (.ref x1), (.long y)])) _
    refine X8.laload hx (j := (Int32.ofNat i)) (v := (.long x)) (by rw [e8]; exact Ax.1) (State.isArrayOf_alike hZ.alike Ax.2.1) Ax.2.2 (own_in Sx bx hxi) (own_at Hx bx hxi) (g := (mkF m 102 #[.val (.ref a1), .val (.ref a2), .val (.int inn), .val (.int (Int32.ofNat k)), .val (.int (Int32.ofNat i))] [(.int (Int32.ofNat i)), (.ref x1), (.long y)])) rfl rfl (hb hby d5_102) _ ?_
    show Steps p.tables e below (T8.setTop (mkF m 103 #[.val (.ref a1), .val (.ref a2), .val (.int inn), .val (.int (Int32.ofNat k)), .val (.int (Int32.ofNat i))] [(.long x), (.long y)])) _
    refine XS.lcmp X8.here hx rfl (hb hby d5_103) rfl ?_
    show Steps p.tables e below (T8.setTop (mkF m 104 #[.val (.ref a1), .val (.ref a2), .val (.int inn), .val (.int (Int32.ofNat k)), .val (.int (Int32.ofNat i))] [(.int (lcmpW y x))])) _
    refine XS.ifNo X8.here hx rfl (hb hby d5_104) rfl ((if0 _ _).trans (teq ((lw_eq _ _).mpr (heq : y = x))).2) ?_
    show Steps p.tables e below (T8.setTop (mkF m 107 #[.val (.ref a1), .val (.ref a2), .val (.int inn), .val (.int (Int32.ofNat k)), .val (.int (Int32.ofNat i))] [])) _
    refine XS.iconst X8.here hx rfl (hb hby d5_107) ?_
    show Steps p.tables e below (T8.setTop (mkF m 108 #[.val (.ref a1), .val (.ref a2), .val (.int inn), .val (.int (Int32.ofNat k)), .val (.int (Int32.ofNat i))] [(.int (1 : Int32))])) _
    refine XS.goto X8.here hx rfl (pc0 := 108) (pc' := 112) rfl (hb hby d5_108) (by decide) (by decide) ?_
    show Steps p.tables e below (T8.setTop (mkF m 112 #[.val (.ref a1), .val (.ref a2), .val (.int inn), .val (.int (Int32.ofNat k)), .val (.int (Int32.ofNat i))] [(.int (1 : Int32))])) _
    refine XS.istoreN X8.here hx rfl (hb hby d5_112) rfl (l' := #[.val (.ref a1), .val (.ref a2), .val (.int (1 : Int32)), .val (.int (Int32.ofNat k)), .val (.int (Int32.ofNat i))]) rfl ?_
    show Steps p.tables e below (T8.setTop (mkF m 113 #[.val (.ref a1), .val (.ref a2), .val (.int (1 : Int32)), .val (.int (Int32.ofNat k)), .val (.int (Int32.ofNat i))] [])) _
    refine XS.iinc X8.here hx rfl (hb hby d5_113) rfl (l' := #[.val (.ref a1), .val (.ref a2), .val (.int (1 : Int32)), .val (.int (Int32.ofNat k)), .val (.int ((Int32.ofNat i) + (1 : Int32)))]) rfl ?_
    show Steps p.tables e below (T8.setTop (mkF m 116 #[.val (.ref a1), .val (.ref a2), .val (.int (1 : Int32)), .val (.int (Int32.ofNat k)), .val (.int ((Int32.ofNat i) + (1 : Int32)))] [])) _
    refine XS.goto X8.here hx rfl (pc0 := 116) (pc' := 35) rfl (hb hby d5_116) (by decide) (by decide) ?_
    show Steps p.tables e below (T8.setTop (mkF m 35 #[.val (.ref a1), .val (.ref a2), .val (.int (1 : Int32)), .val (.int (Int32.ofNat k)), .val (.int ((Int32.ofNat i) + (1 : Int32)))] [])) _
    exact kt)
  exact ⟨T8, X8, e8, fun t kt => pre10 t kt⟩
set_option maxRecDepth 65536 in
set_option maxHeartbeats 40000000 in
theorem tF {p : Program} {l : Launch} {e : Env} {s : State} {m : MethodId} {args : Array Value} {below : List Frame} {meth : Method} {c : Code} {T0 : State} {locs : List Loc} {Z : State} {a0 : Array Value} {h0 : Heap}  (a1 a2 x1 x2 : Addr) (xs ys : List Int64) (clx cly : Cell) (inn : Int32) (k i : Nat) (x y : Int64)
    (X0 : Stand p l e ({ frames := 0, cells := 0, slots := 0, locals := 0 } : Room) s m args below meth c T0 locs 0 0) (hx : p.tables.exec = Jvm.exec) (hZ : Z.Warmed39 s.vm) (hw : ∀ d ∈ tables_1, d.before a0 Z = true) (hby : c.code = prog_21_method_5_code) (hml : c.maxLocals = 5) (hown : s.vm.findClass "com/example/nest3/nest3/Determinization$Subset" = some m.cls) (e0 : T0.heap = h0)  (F1p : Fld Z h0 a1 "com/example/nest3/nest3/Determinization$Subset" "pairs" "[J" (.ref x1)) (F2p : Fld Z h0 a2 "com/example/nest3/nest3/Determinization$Subset" "pairs" "[J" (.ref x2)) (Ax : Arr Z h0 x1 clx .long) (Sx : clx.slots.size = xs.length) (bx : xs.length ≤ 4) (Hx : ∀ (j : Nat) (x : Int64), xs[j]? = some x → clx.slots[j]? = some (.long x)) (Ay : Arr Z h0 x2 cly .long) (Sy : cly.slots.size = ys.length) (by_ : ys.length ≤ 4) (Hy : ∀ (j : Nat) (x : Int64), ys[j]? = some x → cly.slots[j]? = some (.long x)) (hk : Int32.ofNat k < Int32.ofNat ys.length) (hyk : ys[k]? = some y) (hxi : xs[i]? = some x) (heq : ¬ y = x) :
    ∃ T' : State, Stand p l e ({ frames := 0, cells := 0, slots := 0, locals := 0 } : Room) s m args below meth c T' locs 0 0 ∧ T'.heap = h0 ∧ ∀ t, Steps p.tables e below (T'.setTop (mkF m 35 #[.val (.ref a1), .val (.ref a2), .val (.int (0 : Int32)), .val (.int (Int32.ofNat k)), .val (.int ((Int32.ofNat i) + (1 : Int32)))] [])) t → Steps p.tables e below (T0.setTop (mkF m 81 #[.val (.ref a1), .val (.ref a2), .val (.int inn), .val (.int (Int32.ofNat k)), .val (.int (Int32.ofNat i))] [])) t := by
  have pre0 : ∀ t, Steps p.tables e below (T0.setTop (mkF m 81 #[.val (.ref a1), .val (.ref a2), .val (.int inn), .val (.int (Int32.ofNat k)), .val (.int (Int32.ofNat i))] [])) t → Steps p.tables e below (T0.setTop (mkF m 81 #[.val (.ref a1), .val (.ref a2), .val (.int inn), .val (.int (Int32.ofNat k)), .val (.int (Int32.ofNat i))] [])) t := fun t k => k
  have pre1 : ∀ t, Steps p.tables e below (T0.setTop (mkF m 83 #[.val (.ref a1), .val (.ref a2), .val (.int inn), .val (.int (Int32.ofNat k)), .val (.int (Int32.ofNat i))] [(.ref a2), (.int (Int32.ofNat k))])) t → Steps p.tables e below (T0.setTop (mkF m 81 #[.val (.ref a1), .val (.ref a2), .val (.int inn), .val (.int (Int32.ofNat k)), .val (.int (Int32.ofNat i))] [])) t := fun t kt => pre0 t (by
    refine XS.iloadN X0.here hx rfl (hb hby d5_81) rfl ?_
    show Steps p.tables e below (T0.setTop (mkF m 82 #[.val (.ref a1), .val (.ref a2), .val (.int inn), .val (.int (Int32.ofNat k)), .val (.int (Int32.ofNat i))] [(.int (Int32.ofNat k))])) _
    refine XS.aloadN X0.here hx rfl (hb hby d5_82) rfl rfl ?_
    show Steps p.tables e below (T0.setTop (mkF m 83 #[.val (.ref a1), .val (.ref a2), .val (.int inn), .val (.int (Int32.ofNat k)), .val (.int (Int32.ofNat i))] [(.ref a2), (.int (Int32.ofNat k))])) _
    exact kt)
  obtain ⟨T2, X2, e2, st2⟩ := getF X0 hx hZ hown (host := "") (Or.inl (hw _ (List.mem_of_getElem? (i := 21) rfl))) Via.refl e0 F2p (g := (mkF m 83 #[.val (.ref a1), .val (.ref a2), .val (.int inn), .val (.int (Int32.ofNat k)), .val (.int (Int32.ofNat i))] [(.ref a2), (.int (Int32.ofNat k))])) rfl rfl (hb hby d5_83)
  have pre3 : ∀ t, Steps p.tables e below (T2.setTop (mkF m 86 #[.val (.ref a1), .val (.ref a2), .val (.int inn), .val (.int (Int32.ofNat k)), .val (.int (Int32.ofNat i))] [(.ref x2), (.int (Int32.ofNat k))])) t → Steps p.tables e below (T0.setTop (mkF m 81 #[.val (.ref a1), .val (.ref a2), .val (.int inn), .val (.int (Int32.ofNat k)), .val (.int (Int32.ofNat i))] [])) t := fun t kt => pre1 t (st2 _ kt)
  have pre4 : ∀ t, Steps p.tables e below (T2.setTop (mkF m 91 #[.val (.ref a1), .val (.ref a2), .val (.int inn), .val (.int (Int32.ofNat k)), .val (.int (Int32.ofNat i))] [(.ref a2)])) t → Steps p.tables e below (T0.setTop (mkF m 81 #[.val (.ref a1), .val (.ref a2), .val (.int inn), .val (.int (Int32.ofNat k)), .val (.int (Int32.ofNat i))] [])) t := fun t kt => pre3 t (by
    refine X2.arraylength hx (by rw [e2]; exact Ay.1) (State.isArrayOf_alike hZ.alike Ay.2.1) (g := (mkF m 86 #[.val (.ref a1), .val (.ref a2), .val (.int inn), .val (.int (Int32.ofNat k)), .val (.int (Int32.ofNat i))] [(.ref x2), (.int (Int32.ofNat k))])) rfl rfl (hb hby d5_86) _ ?_
    rw [Sy]
    show Steps p.tables e below (T2.setTop (mkF m 87 #[.val (.ref a1), .val (.ref a2), .val (.int inn), .val (.int (Int32.ofNat k)), .val (.int (Int32.ofNat i))] [(.int (Int32.ofNat ys.length)), (.int (Int32.ofNat k))])) _
    refine XS.icmpNo X2.here hx rfl (hb hby d5_87) rfl (tlt (hk : (Int32.ofNat k) < (Int32.ofNat ys.length))).2.1 ?_
    show Steps p.tables e below (T2.setTop (mkF m 90 #[.val (.ref a1), .val (.ref a2), .val (.int inn), .val (.int (Int32.ofNat k)), .val (.int (Int32.ofNat i))] [])) _
    refine XS.aloadN X2.here hx rfl (hb hby d5_90) rfl rfl ?_
    show Steps p.tables e below (T2.setTop (mkF m 91 #[.val (.ref a1), .val (.ref a2), .val (.int inn), .val (.int (Int32.ofNat k)), .val (.int (Int32.ofNat i))] [(.ref a2)])) _
    exact kt)
  obtain ⟨T5, X5, e5, st5⟩ := getF X2 hx hZ hown (host := "") (Or.inl (hw _ (List.mem_of_getElem? (i := 21) rfl))) Via.refl e2 F2p (g := (mkF m 91 #[.val (.ref a1), .val (.ref a2), .val (.int inn), .val (.int (Int32.ofNat k)), .val (.int (Int32.ofNat i))] [(.ref a2)])) rfl rfl (hb hby d5_91)
  have pre6 : ∀ t, Steps p.tables e below (T5.setTop (mkF m 94 #[.val (.ref a1), .val (.ref a2), .val (.int inn), .val (.int (Int32.ofNat k)), .val (.int (Int32.ofNat i))] [(.ref x2)])) t → Steps p.tables e below (T0.setTop (mkF m 81 #[.val (.ref a1), .val (.ref a2), .val (.int inn), .val (.int (Int32.ofNat k)), .val (.int (Int32.ofNat i))] [])) t := fun t kt => pre4 t (st5 _ kt)
  have pre7 : ∀ t, Steps p.tables e below (T5.setTop (mkF m 97 #[.val (.ref a1), .val (.ref a2), .val (.int inn), .val (.int (Int32.ofNat k)), .val (.int (Int32.ofNat i))] [(.ref a1), (.long y)])) t → Steps p.tables e below (T0.setTop (mkF m 81 #[.val (.ref a1), .val (.ref a2), .val (.int inn), .val (.int (Int32.ofNat k)), .val (.int (Int32.ofNat i))] [])) t := fun t kt => pre6 t (by
    refine XS.iloadN X5.here hx rfl (hb hby d5_94) rfl ?_
    show Steps p.tables e below (T5.setTop (mkF m 95 #[.val (.ref a1), .val (.ref a2), .val (.int inn), .val (.int (Int32.ofNat k)), .val (.int (Int32.ofNat i))] [(.int (Int32.ofNat k)), (.ref x2)])) _
    refine X5.laload hx (j := (Int32.ofNat k)) (v := (.long y)) (by rw [e5]; exact Ay.1) (State.isArrayOf_alike hZ.alike Ay.2.1) Ay.2.2 (own_in Sy by_ hyk) (own_at Hy by_ hyk) (g := (mkF m 95 #[.val (.ref a1), .val (.ref a2), .val (.int inn), .val (.int (Int32.ofNat k)), .val (.int (Int32.ofNat i))] [(.int (Int32.ofNat k)), (.ref x2)])) rfl rfl (hb hby d5_95) _ ?_
    show Steps p.tables e below (T5.setTop (mkF m 96 #[.val (.ref a1), .val (.ref a2), .val (.int inn), .val (.int (Int32.ofNat k)), .val (.int (Int32.ofNat i))] [(.long y)])) _
    refine XS.aloadN X5.here hx rfl (hb hby d5_96) rfl rfl ?_
    show Steps p.tables e below (T5.setTop (mkF m 97 #[.val (.ref a1), .val (.ref a2), .val (.int inn), .val (.int (Int32.ofNat k)), .val (.int (Int32.ofNat i))] [(.ref a1), (.long y)])) _
    exact kt)
  obtain ⟨T8, X8, e8, st8⟩ := getF X5 hx hZ hown (host := "") (Or.inl (hw _ (List.mem_of_getElem? (i := 21) rfl))) Via.refl e5 F1p (g := (mkF m 97 #[.val (.ref a1), .val (.ref a2), .val (.int inn), .val (.int (Int32.ofNat k)), .val (.int (Int32.ofNat i))] [(.ref a1), (.long y)])) rfl rfl (hb hby d5_97)
  have pre9 : ∀ t, Steps p.tables e below (T8.setTop (mkF m 100 #[.val (.ref a1), .val (.ref a2), .val (.int inn), .val (.int (Int32.ofNat k)), .val (.int (Int32.ofNat i))] [(.ref x1), (.long y)])) t → Steps p.tables e below (T0.setTop (mkF m 81 #[.val (.ref a1), .val (.ref a2), .val (.int inn), .val (.int (Int32.ofNat k)), .val (.int (Int32.ofNat i))] [])) t := fun t kt => pre7 t (st8 _ kt)
  have pre10 : ∀ t, Steps p.tables e below (T8.setTop (mkF m 35 #[.val (.ref a1), .val (.ref a2), .val (.int (0 : Int32)), .val (.int (Int32.ofNat k)), .val (.int ((Int32.ofNat i) + (1 : Int32)))] [])) t → Steps p.tables e below (T0.setTop (mkF m 81 #[.val (.ref a1), .val (.ref a2), .val (.int inn), .val (.int (Int32.ofNat k)), .val (.int (Int32.ofNat i))] [])) t := fun t kt => pre9 t (by
    refine XS.iload X8.here hx rfl (hb hby d5_100) rfl ?_
    show Steps p.tables e below (T8.setTop (mkF m 102 #[.val (.ref a1), .val (.ref a2), .val (.int inn), .val (.int (Int32.ofNat k)), .val (.int (Int32.ofNat i))] [(.int (Int32.ofNat i)), (.ref x1), (.long y)])) _
    refine X8.laload hx (j := (Int32.ofNat i)) (v := (.long x)) (by rw [e8]; exact Ax.1) (State.isArrayOf_alike hZ.alike Ax.2.1) Ax.2.2 (own_in Sx bx hxi) (own_at Hx bx hxi) (g := (mkF m 102 #[.val (.ref a1), .val (.ref a2), .val (.int inn), .val (.int (Int32.ofNat k)), .val (.int (Int32.ofNat i))] [(.int (Int32.ofNat i)), (.ref x1), (.long y)])) rfl rfl (hb hby d5_102) _ ?_
    show Steps p.tables e below (T8.setTop (mkF m 103 #[.val (.ref a1), .val (.ref a2), .val (.int inn), .val (.int (Int32.ofNat k)), .val (.int (Int32.ofNat i))] [(.long x), (.long y)])) _
    refine XS.lcmp X8.here hx rfl (hb hby d5_103) rfl ?_
    show Steps p.tables e below (T8.setTop (mkF m 104 #[.val (.ref a1), .val (.ref a2), .val (.int inn), .val (.int (Int32.ofNat k)), .val (.int (Int32.ofNat i))] [(.int (lcmpW y x))])) _
    refine XS.ifYes X8.here hx rfl (pc0 := 104) (pc' := 111) rfl (hb hby d5_104) rfl ((if0 _ _).trans (feq (mt (lw_eq _ _).mp (heq : ¬ (y = x)))).2) (by decide) (by decide) ?_
    show Steps p.tables e below (T8.setTop (mkF m 111 #[.val (.ref a1), .val (.ref a2), .val (.int inn), .val (.int (Int32.ofNat k)), .val (.int (Int32.ofNat i))] [])) _
    refine XS.iconst X8.here hx rfl (hb hby d5_111) ?_
    show Steps p.tables e below (T8.setTop (mkF m 112 #[.val (.ref a1), .val (.ref a2), .val (.int inn), .val (.int (Int32.ofNat k)), .val (.int (Int32.ofNat i))] [(.int (0 : Int32))])) _
    refine XS.istoreN X8.here hx rfl (hb hby d5_112) rfl (l' := #[.val (.ref a1), .val (.ref a2), .val (.int (0 : Int32)), .val (.int (Int32.ofNat k)), .val (.int (Int32.ofNat i))]) rfl ?_
    show Steps p.tables e below (T8.setTop (mkF m 113 #[.val (.ref a1), .val (.ref a2), .val (.int (0 : Int32)), .val (.int (Int32.ofNat k)), .val (.int (Int32.ofNat i))] [])) _
    refine XS.iinc X8.here hx rfl (hb hby d5_113) rfl (l' := #[.val (.ref a1), .val (.ref a2), .val (.int (0 : Int32)), .val (.int (Int32.ofNat k)), .val (.int ((Int32.ofNat i) + (1 : Int32)))]) rfl ?_
    show Steps p.tables e below (T8.setTop (mkF m 116 #[.val (.ref a1), .val (.ref a2), .val (.int (0 : Int32)), .val (.int (Int32.ofNat k)), .val (.int ((Int32.ofNat i) + (1 : Int32)))] [])) _
    refine XS.goto X8.here hx rfl (pc0 := 116) (pc' := 35) rfl (hb hby d5_116) (by decide) (by decide) ?_
    show Steps p.tables e below (T8.setTop (mkF m 35 #[.val (.ref a1), .val (.ref a2), .val (.int (0 : Int32)), .val (.int (Int32.ofNat k)), .val (.int ((Int32.ofNat i) + (1 : Int32)))] [])) _
    exact kt)
  exact ⟨T8, X8, e8, fun t kt => pre10 t kt⟩
theorem d5_35 : decode prog_21_method_5_code 35 = .ok (.iload 4, 2) := by decide +kernel
theorem d5_37 : decode prog_21_method_5_code 37 = .ok (.aload_n 0, 1) := by decide +kernel
theorem d5_38 : decode prog_21_method_5_code 38 = .ok (.getfield 13, 3) := by decide +kernel
theorem d5_41 : decode prog_21_method_5_code 41 = .ok (.arraylength, 1) := by decide +kernel
theorem d5_42 : decode prog_21_method_5_code 42 = .ok (.if_icmp .ge 77, 3) := by decide +kernel
set_option maxRecDepth 65536 in
set_option maxHeartbeats 40000000 in
theorem tG {p : Program} {l : Launch} {e : Env} {s : State} {m : MethodId} {args : Array Value} {below : List Frame} {meth : Method} {c : Code} {T0 : State} {locs : List Loc} {Z : State} {a0 : Array Value} {h0 : Heap}  (a1 a2 x1 x2 : Addr) (xs ys : List Int64) (clx cly : Cell) (inn : Int32) (k i : Nat) 
    (X0 : Stand p l e ({ frames := 0, cells := 0, slots := 0, locals := 0 } : Room) s m args below meth c T0 locs 0 0) (hx : p.tables.exec = Jvm.exec) (hZ : Z.Warmed39 s.vm) (hw : ∀ d ∈ tables_1, d.before a0 Z = true) (hby : c.code = prog_21_method_5_code) (hml : c.maxLocals = 5) (hown : s.vm.findClass "com/example/nest3/nest3/Determinization$Subset" = some m.cls) (e0 : T0.heap = h0)  (F1p : Fld Z h0 a1 "com/example/nest3/nest3/Determinization$Subset" "pairs" "[J" (.ref x1)) (F2p : Fld Z h0 a2 "com/example/nest3/nest3/Determinization$Subset" "pairs" "[J" (.ref x2)) (Ax : Arr Z h0 x1 clx .long) (Sx : clx.slots.size = xs.length) (bx : xs.length ≤ 4) (Hx : ∀ (j : Nat) (x : Int64), xs[j]? = some x → clx.slots[j]? = some (.long x)) (Ay : Arr Z h0 x2 cly .long) (Sy : cly.slots.size = ys.length) (by_ : ys.length ≤ 4) (Hy : ∀ (j : Nat) (x : Int64), ys[j]? = some x → cly.slots[j]? = some (.long x)) (hi : ¬ Int32.ofNat i < Int32.ofNat xs.length) :
    ∃ T' : State, Stand p l e ({ frames := 0, cells := 0, slots := 0, locals := 0 } : Room) s m args below meth c T' locs 0 0 ∧ T'.heap = h0 ∧ ∀ t, Steps p.tables e below (T'.setTop (mkF m 119 #[.val (.ref a1), .val (.ref a2), .val (.int inn), .val (.int (Int32.ofNat k)), .val (.int (Int32.ofNat i))] [])) t → Steps p.tables e below (T0.setTop (mkF m 35 #[.val (.ref a1), .val (.ref a2), .val (.int inn), .val (.int (Int32.ofNat k)), .val (.int (Int32.ofNat i))] [])) t := by
  have pre0 : ∀ t, Steps p.tables e below (T0.setTop (mkF m 35 #[.val (.ref a1), .val (.ref a2), .val (.int inn), .val (.int (Int32.ofNat k)), .val (.int (Int32.ofNat i))] [])) t → Steps p.tables e below (T0.setTop (mkF m 35 #[.val (.ref a1), .val (.ref a2), .val (.int inn), .val (.int (Int32.ofNat k)), .val (.int (Int32.ofNat i))] [])) t := fun t k => k
  have pre1 : ∀ t, Steps p.tables e below (T0.setTop (mkF m 38 #[.val (.ref a1), .val (.ref a2), .val (.int inn), .val (.int (Int32.ofNat k)), .val (.int (Int32.ofNat i))] [(.ref a1), (.int (Int32.ofNat i))])) t → Steps p.tables e below (T0.setTop (mkF m 35 #[.val (.ref a1), .val (.ref a2), .val (.int inn), .val (.int (Int32.ofNat k)), .val (.int (Int32.ofNat i))] [])) t := fun t kt => pre0 t (by
    refine XS.iload X0.here hx rfl (hb hby d5_35) rfl ?_
    show Steps p.tables e below (T0.setTop (mkF m 37 #[.val (.ref a1), .val (.ref a2), .val (.int inn), .val (.int (Int32.ofNat k)), .val (.int (Int32.ofNat i))] [(.int (Int32.ofNat i))])) _
    refine XS.aloadN X0.here hx rfl (hb hby d5_37) rfl rfl ?_
    show Steps p.tables e below (T0.setTop (mkF m 38 #[.val (.ref a1), .val (.ref a2), .val (.int inn), .val (.int (Int32.ofNat k)), .val (.int (Int32.ofNat i))] [(.ref a1), (.int (Int32.ofNat i))])) _
    exact kt)
  obtain ⟨T2, X2, e2, st2⟩ := getF X0 hx hZ hown (host := "") (Or.inl (hw _ (List.mem_of_getElem? (i := 21) rfl))) Via.refl e0 F1p (g := (mkF m 38 #[.val (.ref a1), .val (.ref a2), .val (.int inn), .val (.int (Int32.ofNat k)), .val (.int (Int32.ofNat i))] [(.ref a1), (.int (Int32.ofNat i))])) rfl rfl (hb hby d5_38)
  have pre3 : ∀ t, Steps p.tables e below (T2.setTop (mkF m 41 #[.val (.ref a1), .val (.ref a2), .val (.int inn), .val (.int (Int32.ofNat k)), .val (.int (Int32.ofNat i))] [(.ref x1), (.int (Int32.ofNat i))])) t → Steps p.tables e below (T0.setTop (mkF m 35 #[.val (.ref a1), .val (.ref a2), .val (.int inn), .val (.int (Int32.ofNat k)), .val (.int (Int32.ofNat i))] [])) t := fun t kt => pre1 t (st2 _ kt)
  have pre4 : ∀ t, Steps p.tables e below (T2.setTop (mkF m 119 #[.val (.ref a1), .val (.ref a2), .val (.int inn), .val (.int (Int32.ofNat k)), .val (.int (Int32.ofNat i))] [])) t → Steps p.tables e below (T0.setTop (mkF m 35 #[.val (.ref a1), .val (.ref a2), .val (.int inn), .val (.int (Int32.ofNat k)), .val (.int (Int32.ofNat i))] [])) t := fun t kt => pre3 t (by
    refine X2.arraylength hx (by rw [e2]; exact Ax.1) (State.isArrayOf_alike hZ.alike Ax.2.1) (g := (mkF m 41 #[.val (.ref a1), .val (.ref a2), .val (.int inn), .val (.int (Int32.ofNat k)), .val (.int (Int32.ofNat i))] [(.ref x1), (.int (Int32.ofNat i))])) rfl rfl (hb hby d5_41) _ ?_
    rw [Sx]
    show Steps p.tables e below (T2.setTop (mkF m 42 #[.val (.ref a1), .val (.ref a2), .val (.int inn), .val (.int (Int32.ofNat k)), .val (.int (Int32.ofNat i))] [(.int (Int32.ofNat xs.length)), (.int (Int32.ofNat i))])) _
    refine XS.icmpYes X2.here hx rfl (pc0 := 42) (pc' := 119) rfl (hb hby d5_42) rfl (flt (hi : ¬ ((Int32.ofNat i) < (Int32.ofNat xs.length)))).2.1 (by decide) (by decide) ?_
    show Steps p.tables e below (T2.setTop (mkF m 119 #[.val (.ref a1), .val (.ref a2), .val (.int inn), .val (.int (Int32.ofNat k)), .val (.int (Int32.ofNat i))] [])) _
    exact kt)
  exact ⟨T2, X2, e2, fun t kt => pre4 t kt⟩
theorem d5_45 : decode prog_21_method_5_code 45 = .ok (.iload_n 2, 1) := by decide +kernel
theorem d5_46 : decode prog_21_method_5_code 46 = .ok (.ifCond .eq 73, 3) := by decide +kernel
set_option maxRecDepth 65536 in
set_option maxHeartbeats 40000000 in
theorem tH {p : Program} {l : Launch} {e : Env} {s : State} {m : MethodId} {args : Array Value} {below : List Frame} {meth : Method} {c : Code} {T0 : State} {locs : List Loc} {Z : State} {a0 : Array Value} {h0 : Heap}  (a1 a2 x1 x2 : Addr) (xs ys : List Int64) (clx cly : Cell) (inn : Int32) (k i : Nat) 
    (X0 : Stand p l e ({ frames := 0, cells := 0, slots := 0, locals := 0 } : Room) s m args below meth c T0 locs 0 0) (hx : p.tables.exec = Jvm.exec) (hZ : Z.Warmed39 s.vm) (hw : ∀ d ∈ tables_1, d.before a0 Z = true) (hby : c.code = prog_21_method_5_code) (hml : c.maxLocals = 5) (hown : s.vm.findClass "com/example/nest3/nest3/Determinization$Subset" = some m.cls) (e0 : T0.heap = h0)  (F1p : Fld Z h0 a1 "com/example/nest3/nest3/Determinization$Subset" "pairs" "[J" (.ref x1)) (F2p : Fld Z h0 a2 "com/example/nest3/nest3/Determinization$Subset" "pairs" "[J" (.ref x2)) (Ax : Arr Z h0 x1 clx .long) (Sx : clx.slots.size = xs.length) (bx : xs.length ≤ 4) (Hx : ∀ (j : Nat) (x : Int64), xs[j]? = some x → clx.slots[j]? = some (.long x)) (Ay : Arr Z h0 x2 cly .long) (Sy : cly.slots.size = ys.length) (by_ : ys.length ≤ 4) (Hy : ∀ (j : Nat) (x : Int64), ys[j]? = some x → cly.slots[j]? = some (.long x)) (hi : Int32.ofNat i < Int32.ofNat xs.length) (h0n : inn = (0 : Int32)) :
    ∃ T' : State, Stand p l e ({ frames := 0, cells := 0, slots := 0, locals := 0 } : Room) s m args below meth c T' locs 0 0 ∧ T'.heap = h0 ∧ ∀ t, Steps p.tables e below (T'.setTop (mkF m 119 #[.val (.ref a1), .val (.ref a2), .val (.int inn), .val (.int (Int32.ofNat k)), .val (.int (Int32.ofNat i))] [])) t → Steps p.tables e below (T0.setTop (mkF m 35 #[.val (.ref a1), .val (.ref a2), .val (.int inn), .val (.int (Int32.ofNat k)), .val (.int (Int32.ofNat i))] [])) t := by
  have pre0 : ∀ t, Steps p.tables e below (T0.setTop (mkF m 35 #[.val (.ref a1), .val (.ref a2), .val (.int inn), .val (.int (Int32.ofNat k)), .val (.int (Int32.ofNat i))] [])) t → Steps p.tables e below (T0.setTop (mkF m 35 #[.val (.ref a1), .val (.ref a2), .val (.int inn), .val (.int (Int32.ofNat k)), .val (.int (Int32.ofNat i))] [])) t := fun t k => k
  have pre1 : ∀ t, Steps p.tables e below (T0.setTop (mkF m 38 #[.val (.ref a1), .val (.ref a2), .val (.int inn), .val (.int (Int32.ofNat k)), .val (.int (Int32.ofNat i))] [(.ref a1), (.int (Int32.ofNat i))])) t → Steps p.tables e below (T0.setTop (mkF m 35 #[.val (.ref a1), .val (.ref a2), .val (.int inn), .val (.int (Int32.ofNat k)), .val (.int (Int32.ofNat i))] [])) t := fun t kt => pre0 t (by
    refine XS.iload X0.here hx rfl (hb hby d5_35) rfl ?_
    show Steps p.tables e below (T0.setTop (mkF m 37 #[.val (.ref a1), .val (.ref a2), .val (.int inn), .val (.int (Int32.ofNat k)), .val (.int (Int32.ofNat i))] [(.int (Int32.ofNat i))])) _
    refine XS.aloadN X0.here hx rfl (hb hby d5_37) rfl rfl ?_
    show Steps p.tables e below (T0.setTop (mkF m 38 #[.val (.ref a1), .val (.ref a2), .val (.int inn), .val (.int (Int32.ofNat k)), .val (.int (Int32.ofNat i))] [(.ref a1), (.int (Int32.ofNat i))])) _
    exact kt)
  obtain ⟨T2, X2, e2, st2⟩ := getF X0 hx hZ hown (host := "") (Or.inl (hw _ (List.mem_of_getElem? (i := 21) rfl))) Via.refl e0 F1p (g := (mkF m 38 #[.val (.ref a1), .val (.ref a2), .val (.int inn), .val (.int (Int32.ofNat k)), .val (.int (Int32.ofNat i))] [(.ref a1), (.int (Int32.ofNat i))])) rfl rfl (hb hby d5_38)
  have pre3 : ∀ t, Steps p.tables e below (T2.setTop (mkF m 41 #[.val (.ref a1), .val (.ref a2), .val (.int inn), .val (.int (Int32.ofNat k)), .val (.int (Int32.ofNat i))] [(.ref x1), (.int (Int32.ofNat i))])) t → Steps p.tables e below (T0.setTop (mkF m 35 #[.val (.ref a1), .val (.ref a2), .val (.int inn), .val (.int (Int32.ofNat k)), .val (.int (Int32.ofNat i))] [])) t := fun t kt => pre1 t (st2 _ kt)
  have pre4 : ∀ t, Steps p.tables e below (T2.setTop (mkF m 119 #[.val (.ref a1), .val (.ref a2), .val (.int inn), .val (.int (Int32.ofNat k)), .val (.int (Int32.ofNat i))] [])) t → Steps p.tables e below (T0.setTop (mkF m 35 #[.val (.ref a1), .val (.ref a2), .val (.int inn), .val (.int (Int32.ofNat k)), .val (.int (Int32.ofNat i))] [])) t := fun t kt => pre3 t (by
    refine X2.arraylength hx (by rw [e2]; exact Ax.1) (State.isArrayOf_alike hZ.alike Ax.2.1) (g := (mkF m 41 #[.val (.ref a1), .val (.ref a2), .val (.int inn), .val (.int (Int32.ofNat k)), .val (.int (Int32.ofNat i))] [(.ref x1), (.int (Int32.ofNat i))])) rfl rfl (hb hby d5_41) _ ?_
    rw [Sx]
    show Steps p.tables e below (T2.setTop (mkF m 42 #[.val (.ref a1), .val (.ref a2), .val (.int inn), .val (.int (Int32.ofNat k)), .val (.int (Int32.ofNat i))] [(.int (Int32.ofNat xs.length)), (.int (Int32.ofNat i))])) _
    refine XS.icmpNo X2.here hx rfl (hb hby d5_42) rfl (tlt (hi : (Int32.ofNat i) < (Int32.ofNat xs.length))).2.1 ?_
    show Steps p.tables e below (T2.setTop (mkF m 45 #[.val (.ref a1), .val (.ref a2), .val (.int inn), .val (.int (Int32.ofNat k)), .val (.int (Int32.ofNat i))] [])) _
    refine XS.iloadN X2.here hx rfl (hb hby d5_45) rfl ?_
    show Steps p.tables e below (T2.setTop (mkF m 46 #[.val (.ref a1), .val (.ref a2), .val (.int inn), .val (.int (Int32.ofNat k)), .val (.int (Int32.ofNat i))] [(.int inn)])) _
    refine XS.ifYes X2.here hx rfl (pc0 := 46) (pc' := 119) rfl (hb hby d5_46) rfl ((if0 _ _).trans (teq (h0n : inn = (0 : Int32))).1) (by decide) (by decide) ?_
    show Steps p.tables e below (T2.setTop (mkF m 119 #[.val (.ref a1), .val (.ref a2), .val (.int inn), .val (.int (Int32.ofNat k)), .val (.int (Int32.ofNat i))] [])) _
    exact kt)
  exact ⟨T2, X2, e2, fun t kt => pre4 t kt⟩
set_option maxRecDepth 65536 in
set_option maxHeartbeats 40000000 in
theorem tI {p : Program} {l : Launch} {e : Env} {s : State} {m : MethodId} {args : Array Value} {below : List Frame} {meth : Method} {c : Code} {T0 : State} {locs : List Loc} {Z : State} {a0 : Array Value} {h0 : Heap}  (a1 a2 x1 x2 : Addr) (xs ys : List Int64) (clx cly : Cell) (inn : Int32) (k i : Nat) 
    (X0 : Stand p l e ({ frames := 0, cells := 0, slots := 0, locals := 0 } : Room) s m args below meth c T0 locs 0 0) (hx : p.tables.exec = Jvm.exec) (hZ : Z.Warmed39 s.vm) (hw : ∀ d ∈ tables_1, d.before a0 Z = true) (hby : c.code = prog_21_method_5_code) (hml : c.maxLocals = 5) (hown : s.vm.findClass "com/example/nest3/nest3/Determinization$Subset" = some m.cls) (e0 : T0.heap = h0)  (F1p : Fld Z h0 a1 "com/example/nest3/nest3/Determinization$Subset" "pairs" "[J" (.ref x1)) (F2p : Fld Z h0 a2 "com/example/nest3/nest3/Determinization$Subset" "pairs" "[J" (.ref x2)) (Ax : Arr Z h0 x1 clx .long) (Sx : clx.slots.size = xs.length) (bx : xs.length ≤ 4) (Hx : ∀ (j : Nat) (x : Int64), xs[j]? = some x → clx.slots[j]? = some (.long x)) (Ay : Arr Z h0 x2 cly .long) (Sy : cly.slots.size = ys.length) (by_ : ys.length ≤ 4) (Hy : ∀ (j : Nat) (x : Int64), ys[j]? = some x → cly.slots[j]? = some (.long x)) (hi : Int32.ofNat i < Int32.ofNat xs.length) (h0n : ¬ inn = (0 : Int32)) :
    ∃ T' : State, Stand p l e ({ frames := 0, cells := 0, slots := 0, locals := 0 } : Room) s m args below meth c T' locs 0 0 ∧ T'.heap = h0 ∧ ∀ t, Steps p.tables e below (T'.setTop (mkF m 49 #[.val (.ref a1), .val (.ref a2), .val (.int inn), .val (.int (Int32.ofNat k)), .val (.int (Int32.ofNat i))] [])) t → Steps p.tables e below (T0.setTop (mkF m 35 #[.val (.ref a1), .val (.ref a2), .val (.int inn), .val (.int (Int32.ofNat k)), .val (.int (Int32.ofNat i))] [])) t := by
  have pre0 : ∀ t, Steps p.tables e below (T0.setTop (mkF m 35 #[.val (.ref a1), .val (.ref a2), .val (.int inn), .val (.int (Int32.ofNat k)), .val (.int (Int32.ofNat i))] [])) t → Steps p.tables e below (T0.setTop (mkF m 35 #[.val (.ref a1), .val (.ref a2), .val (.int inn), .val (.int (Int32.ofNat k)), .val (.int (Int32.ofNat i))] [])) t := fun t k => k
  have pre1 : ∀ t, Steps p.tables e below (T0.setTop (mkF m 38 #[.val (.ref a1), .val (.ref a2), .val (.int inn), .val (.int (Int32.ofNat k)), .val (.int (Int32.ofNat i))] [(.ref a1), (.int (Int32.ofNat i))])) t → Steps p.tables e below (T0.setTop (mkF m 35 #[.val (.ref a1), .val (.ref a2), .val (.int inn), .val (.int (Int32.ofNat k)), .val (.int (Int32.ofNat i))] [])) t := fun t kt => pre0 t (by
    refine XS.iload X0.here hx rfl (hb hby d5_35) rfl ?_
    show Steps p.tables e below (T0.setTop (mkF m 37 #[.val (.ref a1), .val (.ref a2), .val (.int inn), .val (.int (Int32.ofNat k)), .val (.int (Int32.ofNat i))] [(.int (Int32.ofNat i))])) _
    refine XS.aloadN X0.here hx rfl (hb hby d5_37) rfl rfl ?_
    show Steps p.tables e below (T0.setTop (mkF m 38 #[.val (.ref a1), .val (.ref a2), .val (.int inn), .val (.int (Int32.ofNat k)), .val (.int (Int32.ofNat i))] [(.ref a1), (.int (Int32.ofNat i))])) _
    exact kt)
  obtain ⟨T2, X2, e2, st2⟩ := getF X0 hx hZ hown (host := "") (Or.inl (hw _ (List.mem_of_getElem? (i := 21) rfl))) Via.refl e0 F1p (g := (mkF m 38 #[.val (.ref a1), .val (.ref a2), .val (.int inn), .val (.int (Int32.ofNat k)), .val (.int (Int32.ofNat i))] [(.ref a1), (.int (Int32.ofNat i))])) rfl rfl (hb hby d5_38)
  have pre3 : ∀ t, Steps p.tables e below (T2.setTop (mkF m 41 #[.val (.ref a1), .val (.ref a2), .val (.int inn), .val (.int (Int32.ofNat k)), .val (.int (Int32.ofNat i))] [(.ref x1), (.int (Int32.ofNat i))])) t → Steps p.tables e below (T0.setTop (mkF m 35 #[.val (.ref a1), .val (.ref a2), .val (.int inn), .val (.int (Int32.ofNat k)), .val (.int (Int32.ofNat i))] [])) t := fun t kt => pre1 t (st2 _ kt)
  have pre4 : ∀ t, Steps p.tables e below (T2.setTop (mkF m 49 #[.val (.ref a1), .val (.ref a2), .val (.int inn), .val (.int (Int32.ofNat k)), .val (.int (Int32.ofNat i))] [])) t → Steps p.tables e below (T0.setTop (mkF m 35 #[.val (.ref a1), .val (.ref a2), .val (.int inn), .val (.int (Int32.ofNat k)), .val (.int (Int32.ofNat i))] [])) t := fun t kt => pre3 t (by
    refine X2.arraylength hx (by rw [e2]; exact Ax.1) (State.isArrayOf_alike hZ.alike Ax.2.1) (g := (mkF m 41 #[.val (.ref a1), .val (.ref a2), .val (.int inn), .val (.int (Int32.ofNat k)), .val (.int (Int32.ofNat i))] [(.ref x1), (.int (Int32.ofNat i))])) rfl rfl (hb hby d5_41) _ ?_
    rw [Sx]
    show Steps p.tables e below (T2.setTop (mkF m 42 #[.val (.ref a1), .val (.ref a2), .val (.int inn), .val (.int (Int32.ofNat k)), .val (.int (Int32.ofNat i))] [(.int (Int32.ofNat xs.length)), (.int (Int32.ofNat i))])) _
    refine XS.icmpNo X2.here hx rfl (hb hby d5_42) rfl (tlt (hi : (Int32.ofNat i) < (Int32.ofNat xs.length))).2.1 ?_
    show Steps p.tables e below (T2.setTop (mkF m 45 #[.val (.ref a1), .val (.ref a2), .val (.int inn), .val (.int (Int32.ofNat k)), .val (.int (Int32.ofNat i))] [])) _
    refine XS.iloadN X2.here hx rfl (hb hby d5_45) rfl ?_
    show Steps p.tables e below (T2.setTop (mkF m 46 #[.val (.ref a1), .val (.ref a2), .val (.int inn), .val (.int (Int32.ofNat k)), .val (.int (Int32.ofNat i))] [(.int inn)])) _
    refine XS.ifNo X2.here hx rfl (hb hby d5_46) rfl ((if0 _ _).trans (feq (h0n : ¬ (inn = (0 : Int32)))).1) ?_
    show Steps p.tables e below (T2.setTop (mkF m 49 #[.val (.ref a1), .val (.ref a2), .val (.int inn), .val (.int (Int32.ofNat k)), .val (.int (Int32.ofNat i))] [])) _
    exact kt)
  exact ⟨T2, X2, e2, fun t kt => pre4 t kt⟩
theorem loopI {p : Program} {l : Launch} {e : Env} {s : State} {m : MethodId} {args : Array Value} {below : List Frame} {meth : Method} {c : Code} {locs : List Loc} {Z : State} {a0 : Array Value} {h0 : Heap} (a1 a2 x1 x2 : Addr) (xs ys : List Int64) (clx cly : Cell) (inn : Int32) (i : Nat) (x : Int64) (hxi : xs[i]? = some x) (hx : p.tables.exec = Jvm.exec) (hZ : Z.Warmed39 s.vm) (hw : ∀ d ∈ tables_1, d.before a0 Z = true) (hby : c.code = prog_21_method_5_code) (hml : c.maxLocals = 5) (hown : s.vm.findClass "com/example/nest3/nest3/Determinization$Subset" = some m.cls) (F1p : Fld Z h0 a1 "com/example/nest3/nest3/Determinization$Subset" "pairs" "[J" (.ref x1)) (F2p : Fld Z h0 a2 "com/example/nest3/nest3/Determinization$Subset" "pairs" "[J" (.ref x2)) (Ax : Arr Z h0 x1 clx .long) (Sx : clx.slots.size = xs.length) (bx : xs.length ≤ 4) (Hx : ∀ (j : Nat) (x : Int64), xs[j]? = some x → clx.slots[j]? = some (.long x)) (Ay : Arr Z h0 x2 cly .long) (Sy : cly.slots.size = ys.length) (by_ : ys.length ≤ 4) (Hy : ∀ (j : Nat) (x : Int64), ys[j]? = some x → cly.slots[j]? = some (.long x)) :
    ∀ (r pre : List Int64) (T0 : State), ys = pre ++ r → Stand p l e ({ frames := 0, cells := 0, slots := 0, locals := 0 } : Room) s m args below meth c T0 locs 0 0 → T0.heap = h0 → ∃ (T' : State) (pre' : List Int64), ys = pre' ++ r.dropWhile (fun y => decide (y < x)) ∧ Stand p l e ({ frames := 0, cells := 0, slots := 0, locals := 0 } : Room) s m args below meth c T' locs 0 0 ∧ T'.heap = h0 ∧ ∀ t, Steps p.tables e below (T'.setTop (mkF m 81 #[.val (.ref a1), .val (.ref a2), .val (.int inn), .val (.int (Int32.ofNat pre'.length)), .val (.int (Int32.ofNat i))] [])) t → Steps p.tables e below (T0.setTop (mkF m 49 #[.val (.ref a1), .val (.ref a2), .val (.int inn), .val (.int (Int32.ofNat pre.length)), .val (.int (Int32.ofNat i))] [])) t
  | [], pre, T0, hy, X0, e0 => by
    have hl : ys.length = pre.length := by rw [hy]; simp
    obtain ⟨T', X', e', st⟩ := tA a1 a2 x1 x2 xs ys clx cly inn pre.length i X0 hx hZ hw hby hml hown e0 F1p F2p Ax Sx bx Hx Ay Sy by_ Hy (by rw [hl]; exact own_nlt (Nat.le_refl _) (by omega))
    exact ⟨T', pre, hy, X', e', st⟩
  | y :: r, pre, T0, hy, X0, e0 => by
    have hl : ys.length = pre.length + (r.length + 1) := by rw [hy]; simp
    have hk : Int32.ofNat pre.length < Int32.ofNat ys.length := own_lt (by omega) by_
    have hyk : ys[pre.length]? = some y := by rw [hy]; simp
    by_cases q : y < x
    · obtain ⟨T1, X1, e1, st1⟩ := tB a1 a2 x1 x2 xs ys clx cly inn pre.length i x y X0 hx hZ hw hby hml hown e0 F1p F2p Ax Sx bx Hx Ay Sy by_ Hy hk hyk hxi q
      obtain ⟨T', pre', hp, X', e', st⟩ := loopI a1 a2 x1 x2 xs ys clx cly inn i x hxi hx hZ hw hby hml hown F1p F2p Ax Sx bx Hx Ay Sy by_ Hy r (pre ++ [y]) T1 (by rw [hy]; simp) X1 e1
      have e2 : (y :: r).dropWhile (fun y => decide (y < x)) = r.dropWhile (fun y => decide (y < x)) := by simp [List.dropWhile_cons, q]
      refine ⟨T', pre', by rw [e2]; exact hp, X', e', fun t kt => st1 t ?_⟩
      rw [own_one]
      have := st t kt
      rw [List.length_append] at this
      exact this
    · obtain ⟨T1, X1, e1, st1⟩ := tC a1 a2 x1 x2 xs ys clx cly inn pre.length i x y X0 hx hZ hw hby hml hown e0 F1p F2p Ax Sx bx Hx Ay Sy by_ Hy hk hyk hxi q
      have e2 : (y :: r).dropWhile (fun y => decide (y < x)) = y :: r := by simp [List.dropWhile_cons, q]
      exact ⟨T1, pre, by rw [e2]; exact hy, X1, e1, st1⟩
theorem loopO {p : Program} {l : Launch} {e : Env} {s : State} {m : MethodId} {args : Array Value} {below : List Frame} {meth : Method} {c : Code} {locs : List Loc} {Z : State} {a0 : Array Value} {h0 : Heap} (a1 a2 x1 x2 : Addr) (xs ys : List Int64) (clx cly : Cell) (hx : p.tables.exec = Jvm.exec) (hZ : Z.Warmed39 s.vm) (hw : ∀ d ∈ tables_1, d.before a0 Z = true) (hby : c.code = prog_21_method_5_code) (hml : c.maxLocals = 5) (hown : s.vm.findClass "com/example/nest3/nest3/Determinization$Subset" = some m.cls) (F1p : Fld Z h0 a1 "com/example/nest3/nest3/Determinization$Subset" "pairs" "[J" (.ref x1)) (F2p : Fld Z h0 a2 "com/example/nest3/nest3/Determinization$Subset" "pairs" "[J" (.ref x2)) (Ax : Arr Z h0 x1 clx .long) (Sx : clx.slots.size = xs.length) (bx : xs.length ≤ 4) (Hx : ∀ (j : Nat) (x : Int64), xs[j]? = some x → clx.slots[j]? = some (.long x)) (Ay : Arr Z h0 x2 cly .long) (Sy : cly.slots.size = ys.length) (by_ : ys.length ≤ 4) (Hy : ∀ (j : Nat) (x : Int64), ys[j]? = some x → cly.slots[j]? = some (.long x)) :
    ∀ (u pr r pre : List Int64) (b : Bool) (T0 : State), xs = pr ++ u → ys = pre ++ r → Stand p l e ({ frames := 0, cells := 0, slots := 0, locals := 0 } : Room) s m args below meth c T0 locs 0 0 → T0.heap = h0 → ∃ (T' : State) (ka ia : Int32), Stand p l e ({ frames := 0, cells := 0, slots := 0, locals := 0 } : Room) s m args below meth c T' locs 0 0 ∧ T'.heap = h0 ∧ ∀ t, Steps p.tables e below (T'.setTop (mkF m 119 #[.val (.ref a1), .val (.ref a2), .val (.int (b2i (wf u r b))), .val (.int ka), .val (.int ia)] [])) t → Steps p.tables e below (T0.setTop (mkF m 35 #[.val (.ref a1), .val (.ref a2), .val (.int (b2i b)), .val (.int (Int32.ofNat pre.length)), .val (.int (Int32.ofNat pr.length))] [])) t
  | [], pr, r, pre, b, T0, hxs, hy, X0, e0 => by
    have hl : xs.length = pr.length := by rw [hxs]; simp
    obtain ⟨T', X', e', st⟩ := tG a1 a2 x1 x2 xs ys clx cly (b2i b) pre.length pr.length X0 hx hZ hw hby hml hown e0 F1p F2p Ax Sx bx Hx Ay Sy by_ Hy (by rw [hl]; exact own_nlt (Nat.le_refl _) (by omega))
    exact ⟨T', _, _, X', e', st⟩
  | x :: u, pr, r, pre, b, T0, hxs, hy, X0, e0 => by
    have hl : xs.length = pr.length + (u.length + 1) := by rw [hxs]; simp
    have hi : Int32.ofNat pr.length < Int32.ofNat xs.length := own_lt (by omega) bx
    have hxi : xs[pr.length]? = some x := by rw [hxs]; simp
    cases b with
    | false =>
      obtain ⟨T', X', e', st⟩ := tH a1 a2 x1 x2 xs ys clx cly (b2i false) pre.length pr.length X0 hx hZ hw hby hml hown e0 F1p F2p Ax Sx bx Hx Ay Sy by_ Hy hi rfl
      exact ⟨T', _, _, X', e', st⟩
    | true =>
      obtain ⟨T1, X1, e1, st1⟩ := tI a1 a2 x1 x2 xs ys clx cly (b2i true) pre.length pr.length X0 hx hZ hw hby hml hown e0 F1p F2p Ax Sx bx Hx Ay Sy by_ Hy hi (by decide)
      obtain ⟨T2, pre', hp, X2, e2, st2⟩ := loopI a1 a2 x1 x2 xs ys clx cly (b2i true) pr.length x hxi hx hZ hw hby hml hown F1p F2p Ax Sx bx Hx Ay Sy by_ Hy r pre T1 hy X1 e1
      have hlp := congrArg List.length hp
      rw [List.length_append] at hlp
      have key : ∃ (T3 : State), Stand p l e ({ frames := 0, cells := 0, slots := 0, locals := 0 } : Room) s m args below meth c T3 locs 0 0 ∧ T3.heap = h0 ∧ ∀ t, Steps p.tables e below (T3.setTop (mkF m 35 #[.val (.ref a1), .val (.ref a2), .val (.int (b2i (hdE (fun a b => decide (a = b)) x (r.dropWhile (fun y => decide (y < x)))))), .val (.int (Int32.ofNat pre'.length)), .val (.int (Int32.ofNat pr.length + (1 : Int32)))] [])) t → Steps p.tables e below (T2.setTop (mkF m 81 #[.val (.ref a1), .val (.ref a2), .val (.int (b2i true)), .val (.int (Int32.ofNat pre'.length)), .val (.int (Int32.ofNat pr.length))] [])) t := by
        cases hd : r.dropWhile (fun y => decide (y < x)) with
        | nil =>
          rw [hd] at hlp
          exact tD a1 a2 x1 x2 xs ys clx cly (b2i true) pre'.length pr.length X2 hx hZ hw hby hml hown e2 F1p F2p Ax Sx bx Hx Ay Sy by_ Hy (own_nlt (by simp at hlp; omega) (by simp at hlp; omega))
        | cons y r' =>
          have hyk : ys[pre'.length]? = some y := by rw [hp, hd]; simp
          have hk : Int32.ofNat pre'.length < Int32.ofNat ys.length := own_lt (by rw [hd] at hlp; simp at hlp; omega) by_
          by_cases q : y = x
          · have := tE a1 a2 x1 x2 xs ys clx cly (b2i true) pre'.length pr.length x y X2 hx hZ hw hby hml hown e2 F1p F2p Ax Sx bx Hx Ay Sy by_ Hy hk hyk hxi q
            simpa [b2i, hdE, q] using this
          · have := tF a1 a2 x1 x2 xs ys clx cly (b2i true) pre'.length pr.length x y X2 hx hZ hw hby hml hown e2 F1p F2p Ax Sx bx Hx Ay Sy by_ Hy hk hyk hxi q
            simpa [b2i, hdE, q] using this
      obtain ⟨T3, X3, e3, st3⟩ := key
      obtain ⟨T', ka, ia, X', e', st⟩ := loopO a1 a2 x1 x2 xs ys clx cly hx hZ hw hby hml hown F1p F2p Ax Sx bx Hx Ay Sy by_ Hy u (pr ++ [x]) (r.dropWhile (fun y => decide (y < x))) pre' _ T3 (by rw [hxs]; simp) hp X3 e3
      refine ⟨T', ka, ia, X', e', fun t kt => st1 t (st2 t (st3 t ?_))⟩
      rw [own_one]
      have := st t kt
      rw [List.length_append] at this
      exact this
def QW (Z : State) (t1 t2 : Int32) (xs ys : List Int64) (h0 : Heap) (n0 : Nat) (v : Option Value) (h : Heap) (L : List Loc) : Prop := v = some (.int (b2i (wf xs ys (decide (t1 = t2) && decide (xs.length ≤ ys.length))))) ∧ Fr n0 L ∧ h = h0
theorem ef_rmW (m : MethodId) (x0 : Addr) (x1 : Addr) : entryFrame m #[(.ref x0), (.ref x1)] 5 = mkF m 0 #[.val (.ref x0), .val (.ref x1), .unset, .unset, .unset] [] := by first | (simp [entryFrame, mkF, argsToLocals, Value.category]; done) | rfl
theorem d5_0 : decode prog_21_method_5_code 0 = .ok (.aload_n 0, 1) := by decide +kernel
theorem d5_1 : decode prog_21_method_5_code 1 = .ok (.getfield 7, 3) := by decide +kernel
theorem d5_4 : decode prog_21_method_5_code 4 = .ok (.aload_n 1, 1) := by decide +kernel
theorem d5_5 : decode prog_21_method_5_code 5 = .ok (.getfield 7, 3) := by decide +kernel
theorem d5_8 : decode prog_21_method_5_code 8 = .ok (.if_icmp .ne 20, 3) := by decide +kernel
theorem d5_11 : decode prog_21_method_5_code 11 = .ok (.aload_n 0, 1) := by decide +kernel
theorem d5_12 : decode prog_21_method_5_code 12 = .ok (.getfield 13, 3) := by decide +kernel
theorem d5_15 : decode prog_21_method_5_code 15 = .ok (.arraylength, 1) := by decide +kernel
theorem d5_16 : decode prog_21_method_5_code 16 = .ok (.aload_n 1, 1) := by decide +kernel
theorem d5_17 : decode prog_21_method_5_code 17 = .ok (.getfield 13, 3) := by decide +kernel
theorem d5_20 : decode prog_21_method_5_code 20 = .ok (.arraylength, 1) := by decide +kernel
theorem d5_21 : decode prog_21_method_5_code 21 = .ok (.if_icmp .gt 7, 3) := by decide +kernel
theorem d5_28 : decode prog_21_method_5_code 28 = .ok (.iconst 0, 1) := by decide +kernel
theorem d5_29 : decode prog_21_method_5_code 29 = .ok (.istore_n 2, 1) := by decide +kernel
theorem d5_30 : decode prog_21_method_5_code 30 = .ok (.iconst 0, 1) := by decide +kernel
theorem d5_31 : decode prog_21_method_5_code 31 = .ok (.istore_n 3, 1) := by decide +kernel
theorem d5_32 : decode prog_21_method_5_code 32 = .ok (.iconst 0, 1) := by decide +kernel
theorem d5_33 : decode prog_21_method_5_code 33 = .ok (.istore 4, 2) := by decide +kernel
theorem d5_119 : decode prog_21_method_5_code 119 = .ok (.iload_n 2, 1) := by decide +kernel
theorem d5_120 : decode prog_21_method_5_code 120 = .ok (.ireturn, 1) := by decide +kernel
theorem d5_24 : decode prog_21_method_5_code 24 = .ok (.iconst 1, 1) := by decide +kernel
theorem d5_25 : decode prog_21_method_5_code 25 = .ok (.goto 4, 3) := by decide +kernel
set_option maxRecDepth 65536 in
set_option maxHeartbeats 40000000 in
theorem rmW (l : Launch) (Z : State) (a0 : Array Value) (hw : ∀ d ∈ tables_1, d.before a0 Z = true) (ws : List Jvm.Cond) (a1 a2 x1 x2 : Addr) (t1 t2 : Int32) (xs ys : List Int64) (h0 : Heap) (n0 : Nat) (Z0 : n0 ≤ h0.size) (F1 : Fld Z h0 a1 "com/example/nest3/nest3/Determinization$Subset" "top" "Z" (.int t1)) (F2 : Fld Z h0 a2 "com/example/nest3/nest3/Determinization$Subset" "top" "Z" (.int t2)) (F1p : Fld Z h0 a1 "com/example/nest3/nest3/Determinization$Subset" "pairs" "[J" (.ref x1)) (F2p : Fld Z h0 a2 "com/example/nest3/nest3/Determinization$Subset" "pairs" "[J" (.ref x2)) (LX : Lg Z h0 x1 xs) (LY : Lg Z h0 x2 ys) :
    MetFree l (⟨"com/example/nest3/nest3/Determinization$Subset", "within", "(Lcom/example/nest3/nest3/Determinization$Subset;)Z"⟩ : MethodName) (head1 (Jvm.Cond.code (⟨"com/example/nest3/nest3/Determinization$Subset", "within", "(Lcom/example/nest3/nest3/Determinization$Subset;)Z"⟩ : MethodName) prog_21_method_5_code 5 (some .boolean) :: ws) ({ frames := 0, cells := 0, slots := 0, locals := 0 } : Room)) (fun a U => a = #[(.ref a1), (.ref a2)] ∧ Z.Warmed39 U.vm ∧ U.heap = h0) (fun _ _ _ _ _ => True) (fun _ U o U' => ∃ v L, o = .returned v ∧ QW Z t1 t2 xs ys h0 n0 v U'.heap L ∧ FrameEnd U o U' L ({ frames := 0, cells := 0, slots := 0, locals := 0 } : Room).cells ({ frames := 0, cells := 0, slots := 0, locals := 0 } : Room).slots) := by
  refine MetFree.of_bodySF (plainFor_of_name pn_com_example_nest3_nest3_Determinization_Subset) hisR ?_
  intro p e s m args below meth c s₁ Bd hml0 hP hK
  obtain ⟨rfl, hZ, hh⟩ := hP
  have hx := Bd.exec
  have hby := Bd.bytes
  have hml : c.maxLocals = 5 := hml0
  have hown : s.vm.findClass "com/example/nest3/nest3/Determinization$Subset" = some m.cls := findClass_of_methodNamed Bd.named
  have hnm := (name_of_methodNamed Bd.named Bd.method).1
  have X0 : Stand p l e ({ frames := 0, cells := 0, slots := 0, locals := 0 } : Room) s m #[(.ref a1), (.ref a2)] below meth c s₁ [] 0 0 := Stand.of_body Bd
  have e0 : s₁.heap = h0 := by rw [← hh, Bd.state]; rfl
  have N0 := Fr.nil n0
  have pre0 : ∀ t, Steps p.tables e below (s₁.setTop (mkF m 0 #[.val (.ref a1), .val (.ref a2), .unset, .unset, .unset] [])) t → Steps p.tables e below (s₁.setTop (entryFrame m #[(.ref a1), (.ref a2)] 5)) t := fun t kt => castTop (ef_rmW m a1 a2) kt
  obtain ⟨clx, Ax, Sx, bx, Hx⟩ := LX
  obtain ⟨cly, Ay, Sy, by_, Hy⟩ := LY
  have pre1 : ∀ t, Steps p.tables e below (s₁.setTop (mkF m 1 #[.val (.ref a1), .val (.ref a2), .unset, .unset, .unset] [(.ref a1)])) t → Steps p.tables e below (s₁.setTop (entryFrame m #[(.ref a1), (.ref a2)] 5)) t := fun t kt => pre0 t (by
    refine XS.aloadN X0.here hx rfl (hb hby d5_0) rfl rfl ?_
    show Steps p.tables e below (s₁.setTop (mkF m 1 #[.val (.ref a1), .val (.ref a2), .unset, .unset, .unset] [(.ref a1)])) _
    exact kt)
  obtain ⟨T2, X2, e2, st2⟩ := getF X0 hx hZ hown (host := "") (Or.inl (hw _ (List.mem_of_getElem? (i := 19) rfl))) Via.refl e0 F1 (g := (mkF m 1 #[.val (.ref a1), .val (.ref a2), .unset, .unset, .unset] [(.ref a1)])) rfl rfl (hb hby d5_1)
  have pre3 : ∀ t, Steps p.tables e below (T2.setTop (mkF m 4 #[.val (.ref a1), .val (.ref a2), .unset, .unset, .unset] [(.int t1)])) t → Steps p.tables e below (s₁.setTop (entryFrame m #[(.ref a1), (.ref a2)] 5)) t := fun t kt => pre1 t (st2 _ kt)
  have pre4 : ∀ t, Steps p.tables e below (T2.setTop (mkF m 5 #[.val (.ref a1), .val (.ref a2), .unset, .unset, .unset] [(.ref a2), (.int t1)])) t → Steps p.tables e below (s₁.setTop (entryFrame m #[(.ref a1), (.ref a2)] 5)) t := fun t kt => pre3 t (by
    refine XS.aloadN X2.here hx rfl (hb hby d5_4) rfl rfl ?_
    show Steps p.tables e below (T2.setTop (mkF m 5 #[.val (.ref a1), .val (.ref a2), .unset, .unset, .unset] [(.ref a2), (.int t1)])) _
    exact kt)
  obtain ⟨T5, X5, e5, st5⟩ := getF X2 hx hZ hown (host := "") (Or.inl (hw _ (List.mem_of_getElem? (i := 19) rfl))) Via.refl e2 F2 (g := (mkF m 5 #[.val (.ref a1), .val (.ref a2), .unset, .unset, .unset] [(.ref a2), (.int t1)])) rfl rfl (hb hby d5_5)
  have pre6 : ∀ t, Steps p.tables e below (T5.setTop (mkF m 8 #[.val (.ref a1), .val (.ref a2), .unset, .unset, .unset] [(.int t2), (.int t1)])) t → Steps p.tables e below (s₁.setTop (entryFrame m #[(.ref a1), (.ref a2)] 5)) t := fun t kt => pre4 t (st5 _ kt)
  by_cases c8_1 : t1 = t2
  · have pre7 : ∀ t, Steps p.tables e below (T5.setTop (mkF m 12 #[.val (.ref a1), .val (.ref a2), .unset, .unset, .unset] [(.ref a1)])) t → Steps p.tables e below (s₁.setTop (entryFrame m #[(.ref a1), (.ref a2)] 5)) t := fun t kt => pre6 t (by
      refine XS.icmpNo X5.here hx rfl (hb hby d5_8) rfl (teq c8_1).2 ?_
      show Steps p.tables e below (T5.setTop (mkF m 11 #[.val (.ref a1), .val (.ref a2), .unset, .unset, .unset] [])) _
      refine XS.aloadN X5.here hx rfl (hb hby d5_11) rfl rfl ?_
      show Steps p.tables e below (T5.setTop (mkF m 12 #[.val (.ref a1), .val (.ref a2), .unset, .unset, .unset] [(.ref a1)])) _
      exact kt)
    obtain ⟨T8, X8, e8, st8⟩ := getF X5 hx hZ hown (host := "") (Or.inl (hw _ (List.mem_of_getElem? (i := 21) rfl))) Via.refl e5 F1p (g := (mkF m 12 #[.val (.ref a1), .val (.ref a2), .unset, .unset, .unset] [(.ref a1)])) rfl rfl (hb hby d5_12)
    have pre9 : ∀ t, Steps p.tables e below (T8.setTop (mkF m 15 #[.val (.ref a1), .val (.ref a2), .unset, .unset, .unset] [(.ref x1)])) t → Steps p.tables e below (s₁.setTop (entryFrame m #[(.ref a1), (.ref a2)] 5)) t := fun t kt => pre7 t (st8 _ kt)
    have pre10 : ∀ t, Steps p.tables e below (T8.setTop (mkF m 17 #[.val (.ref a1), .val (.ref a2), .unset, .unset, .unset] [(.ref a2), (.int (Int32.ofNat xs.length))])) t → Steps p.tables e below (s₁.setTop (entryFrame m #[(.ref a1), (.ref a2)] 5)) t := fun t kt => pre9 t (by
      refine X8.arraylength hx (by rw [e8]; exact Ax.1) (State.isArrayOf_alike hZ.alike Ax.2.1) (g := (mkF m 15 #[.val (.ref a1), .val (.ref a2), .unset, .unset, .unset] [(.ref x1)])) rfl rfl (hb hby d5_15) _ ?_
      rw [Sx]
      show Steps p.tables e below (T8.setTop (mkF m 16 #[.val (.ref a1), .val (.ref a2), .unset, .unset, .unset] [(.int (Int32.ofNat xs.length))])) _
      refine XS.aloadN X8.here hx rfl (hb hby d5_16) rfl rfl ?_
      show Steps p.tables e below (T8.setTop (mkF m 17 #[.val (.ref a1), .val (.ref a2), .unset, .unset, .unset] [(.ref a2), (.int (Int32.ofNat xs.length))])) _
      exact kt)
    obtain ⟨T11, X11, e11, st11⟩ := getF X8 hx hZ hown (host := "") (Or.inl (hw _ (List.mem_of_getElem? (i := 21) rfl))) Via.refl e8 F2p (g := (mkF m 17 #[.val (.ref a1), .val (.ref a2), .unset, .unset, .unset] [(.ref a2), (.int (Int32.ofNat xs.length))])) rfl rfl (hb hby d5_17)
    have pre12 : ∀ t, Steps p.tables e below (T11.setTop (mkF m 20 #[.val (.ref a1), .val (.ref a2), .unset, .unset, .unset] [(.ref x2), (.int (Int32.ofNat xs.length))])) t → Steps p.tables e below (s₁.setTop (entryFrame m #[(.ref a1), (.ref a2)] 5)) t := fun t kt => pre10 t (st11 _ kt)
    have pre13 : ∀ t, Steps p.tables e below (T11.setTop (mkF m 21 #[.val (.ref a1), .val (.ref a2), .unset, .unset, .unset] [(.int (Int32.ofNat ys.length)), (.int (Int32.ofNat xs.length))])) t → Steps p.tables e below (s₁.setTop (entryFrame m #[(.ref a1), (.ref a2)] 5)) t := fun t kt => pre12 t (by
      refine X11.arraylength hx (by rw [e11]; exact Ay.1) (State.isArrayOf_alike hZ.alike Ay.2.1) (g := (mkF m 20 #[.val (.ref a1), .val (.ref a2), .unset, .unset, .unset] [(.ref x2), (.int (Int32.ofNat xs.length))])) rfl rfl (hb hby d5_20) _ ?_
      rw [Sy]
      show Steps p.tables e below (T11.setTop (mkF m 21 #[.val (.ref a1), .val (.ref a2), .unset, .unset, .unset] [(.int (Int32.ofNat ys.length)), (.int (Int32.ofNat xs.length))])) _
      exact kt)
    by_cases c21_2 : (Int32.ofNat ys.length) < (Int32.ofNat xs.length)
    · have pre14 : ∀ t, Steps p.tables e below (T11.setTop (mkF m 35 #[.val (.ref a1), .val (.ref a2), .val (.int (0 : Int32)), .val (.int (0 : Int32)), .val (.int (0 : Int32))] [])) t → Steps p.tables e below (s₁.setTop (entryFrame m #[(.ref a1), (.ref a2)] 5)) t := fun t kt => pre13 t (by
        refine XS.icmpYes X11.here hx rfl (pc0 := 21) (pc' := 28) rfl (hb hby d5_21) rfl (tlt c21_2).2.2.1 (by decide) (by decide) ?_
        show Steps p.tables e below (T11.setTop (mkF m 28 #[.val (.ref a1), .val (.ref a2), .unset, .unset, .unset] [])) _
        refine XS.iconst X11.here hx rfl (hb hby d5_28) ?_
        show Steps p.tables e below (T11.setTop (mkF m 29 #[.val (.ref a1), .val (.ref a2), .unset, .unset, .unset] [(.int (0 : Int32))])) _
        refine XS.istoreN X11.here hx rfl (hb hby d5_29) rfl (l' := #[.val (.ref a1), .val (.ref a2), .val (.int (0 : Int32)), .unset, .unset]) rfl ?_
        show Steps p.tables e below (T11.setTop (mkF m 30 #[.val (.ref a1), .val (.ref a2), .val (.int (0 : Int32)), .unset, .unset] [])) _
        refine XS.iconst X11.here hx rfl (hb hby d5_30) ?_
        show Steps p.tables e below (T11.setTop (mkF m 31 #[.val (.ref a1), .val (.ref a2), .val (.int (0 : Int32)), .unset, .unset] [(.int (0 : Int32))])) _
        refine XS.istoreN X11.here hx rfl (hb hby d5_31) rfl (l' := #[.val (.ref a1), .val (.ref a2), .val (.int (0 : Int32)), .val (.int (0 : Int32)), .unset]) rfl ?_
        show Steps p.tables e below (T11.setTop (mkF m 32 #[.val (.ref a1), .val (.ref a2), .val (.int (0 : Int32)), .val (.int (0 : Int32)), .unset] [])) _
        refine XS.iconst X11.here hx rfl (hb hby d5_32) ?_
        show Steps p.tables e below (T11.setTop (mkF m 33 #[.val (.ref a1), .val (.ref a2), .val (.int (0 : Int32)), .val (.int (0 : Int32)), .unset] [(.int (0 : Int32))])) _
        refine XS.istore X11.here hx rfl (hb hby d5_33) rfl (l' := #[.val (.ref a1), .val (.ref a2), .val (.int (0 : Int32)), .val (.int (0 : Int32)), .val (.int (0 : Int32))]) rfl ?_
        show Steps p.tables e below (T11.setTop (mkF m 35 #[.val (.ref a1), .val (.ref a2), .val (.int (0 : Int32)), .val (.int (0 : Int32)), .val (.int (0 : Int32))] [])) _
        exact kt)
      have hb0 : ((0 : Int32) : Int32) = b2i (decide (t1 = t2) && decide (xs.length ≤ ys.length)) := by rw [decide_eq_false (p := xs.length ≤ ys.length) (fun q => own_nlt q by_ c21_2)]; simp [b2i]
      obtain ⟨T', ka, ia, X', e', sto⟩ := loopO a1 a2 x1 x2 xs ys clx cly hx hZ hw hby hml hown F1p F2p Ax Sx bx Hx Ay Sy by_ Hy xs [] ys [] (decide (t1 = t2) && decide (xs.length ≤ ys.length)) T11 rfl rfl X11 e11
      have preO : ∀ t, Steps p.tables e below (T'.setTop (mkF m 119 #[.val (.ref a1), .val (.ref a2), .val (.int (b2i (wf xs ys (decide (t1 = t2) && decide (xs.length ≤ ys.length))))), .val (.int ka), .val (.int ia)] [])) t → Steps p.tables e below (s₁.setTop (entryFrame m #[(.ref a1), (.ref a2)] 5)) t := fun t kt => pre14 t (by have q := sto t kt; rw [← hb0] at q; exact q)
      have pre15 : ∀ t, Steps p.tables e below (T'.setTop (mkF m 120 #[.val (.ref a1), .val (.ref a2), .val (.int (b2i (wf xs ys (decide (t1 = t2) && decide (xs.length ≤ ys.length))))), .val (.int ka), .val (.int ia)] [(.int (b2i (wf xs ys (decide (t1 = t2) && decide (xs.length ≤ ys.length)))))])) t → Steps p.tables e below (s₁.setTop (entryFrame m #[(.ref a1), (.ref a2)] 5)) t := fun t kt => preO t (by
        refine XS.iloadN X'.here hx rfl (hb hby d5_119) rfl ?_
        show Steps p.tables e below (T'.setTop (mkF m 120 #[.val (.ref a1), .val (.ref a2), .val (.int (b2i (wf xs ys (decide (t1 = t2) && decide (xs.length ≤ ys.length))))), .val (.int ka), .val (.int ia)] [(.int (b2i (wf xs ys (decide (t1 = t2) && decide (xs.length ≤ ys.length)))))])) _
        exact kt)
      obtain ⟨fs, hr, hrun, hended, hW, hsame⟩ := X'.leave (v := (some (.int (nar .boolean (b2i (wf xs ys (decide (t1 = t2) && decide (xs.length ≤ ys.length)))))))) (fun h => by rw [Bd.returns] at h; cases h)
      refine ⟨_, _, pre15 _ ?_, hrun, hended, _, _, rfl, ?_, ⟨_, rfl⟩, hW, hsame.mono (by decide) (by decide)⟩
      · exact retN X' hx (t := .boolean) Bd.returns (by simp) (hb hby d5_120) hr
      · show QW Z t1 t2 xs ys h0 n0 _ T'.heap _
        rw [e']
        exact ⟨(by rw [own_narb (own_b01 _)]), N0, rfl⟩
    · have pre17 : ∀ t, Steps p.tables e below (T11.setTop (mkF m 35 #[.val (.ref a1), .val (.ref a2), .val (.int (1 : Int32)), .val (.int (0 : Int32)), .val (.int (0 : Int32))] [])) t → Steps p.tables e below (s₁.setTop (entryFrame m #[(.ref a1), (.ref a2)] 5)) t := fun t kt => pre13 t (by
        refine XS.icmpNo X11.here hx rfl (hb hby d5_21) rfl (flt c21_2).2.2.1 ?_
        show Steps p.tables e below (T11.setTop (mkF m 24 #[.val (.ref a1), .val (.ref a2), .unset, .unset, .unset] [])) _
        refine XS.iconst X11.here hx rfl (hb hby d5_24) ?_
        show Steps p.tables e below (T11.setTop (mkF m 25 #[.val (.ref a1), .val (.ref a2), .unset, .unset, .unset] [(.int (1 : Int32))])) _
        refine XS.goto X11.here hx rfl (pc0 := 25) (pc' := 29) rfl (hb hby d5_25) (by decide) (by decide) ?_
        show Steps p.tables e below (T11.setTop (mkF m 29 #[.val (.ref a1), .val (.ref a2), .unset, .unset, .unset] [(.int (1 : Int32))])) _
        refine XS.istoreN X11.here hx rfl (hb hby d5_29) rfl (l' := #[.val (.ref a1), .val (.ref a2), .val (.int (1 : Int32)), .unset, .unset]) rfl ?_
        show Steps p.tables e below (T11.setTop (mkF m 30 #[.val (.ref a1), .val (.ref a2), .val (.int (1 : Int32)), .unset, .unset] [])) _
        refine XS.iconst X11.here hx rfl (hb hby d5_30) ?_
        show Steps p.tables e below (T11.setTop (mkF m 31 #[.val (.ref a1), .val (.ref a2), .val (.int (1 : Int32)), .unset, .unset] [(.int (0 : Int32))])) _
        refine XS.istoreN X11.here hx rfl (hb hby d5_31) rfl (l' := #[.val (.ref a1), .val (.ref a2), .val (.int (1 : Int32)), .val (.int (0 : Int32)), .unset]) rfl ?_
        show Steps p.tables e below (T11.setTop (mkF m 32 #[.val (.ref a1), .val (.ref a2), .val (.int (1 : Int32)), .val (.int (0 : Int32)), .unset] [])) _
        refine XS.iconst X11.here hx rfl (hb hby d5_32) ?_
        show Steps p.tables e below (T11.setTop (mkF m 33 #[.val (.ref a1), .val (.ref a2), .val (.int (1 : Int32)), .val (.int (0 : Int32)), .unset] [(.int (0 : Int32))])) _
        refine XS.istore X11.here hx rfl (hb hby d5_33) rfl (l' := #[.val (.ref a1), .val (.ref a2), .val (.int (1 : Int32)), .val (.int (0 : Int32)), .val (.int (0 : Int32))]) rfl ?_
        show Steps p.tables e below (T11.setTop (mkF m 35 #[.val (.ref a1), .val (.ref a2), .val (.int (1 : Int32)), .val (.int (0 : Int32)), .val (.int (0 : Int32))] [])) _
        exact kt)
      have hb0 : ((1 : Int32) : Int32) = b2i (decide (t1 = t2) && decide (xs.length ≤ ys.length)) := by rw [decide_eq_true (p := xs.length ≤ ys.length) (Nat.le_of_not_lt fun q => c21_2 (own_lt q bx))]; simp [b2i, c8_1]
      obtain ⟨T', ka, ia, X', e', sto⟩ := loopO a1 a2 x1 x2 xs ys clx cly hx hZ hw hby hml hown F1p F2p Ax Sx bx Hx Ay Sy by_ Hy xs [] ys [] (decide (t1 = t2) && decide (xs.length ≤ ys.length)) T11 rfl rfl X11 e11
      have preO : ∀ t, Steps p.tables e below (T'.setTop (mkF m 119 #[.val (.ref a1), .val (.ref a2), .val (.int (b2i (wf xs ys (decide (t1 = t2) && decide (xs.length ≤ ys.length))))), .val (.int ka), .val (.int ia)] [])) t → Steps p.tables e below (s₁.setTop (entryFrame m #[(.ref a1), (.ref a2)] 5)) t := fun t kt => pre17 t (by have q := sto t kt; rw [← hb0] at q; exact q)
      have pre18 : ∀ t, Steps p.tables e below (T'.setTop (mkF m 120 #[.val (.ref a1), .val (.ref a2), .val (.int (b2i (wf xs ys (decide (t1 = t2) && decide (xs.length ≤ ys.length))))), .val (.int ka), .val (.int ia)] [(.int (b2i (wf xs ys (decide (t1 = t2) && decide (xs.length ≤ ys.length)))))])) t → Steps p.tables e below (s₁.setTop (entryFrame m #[(.ref a1), (.ref a2)] 5)) t := fun t kt => preO t (by
        refine XS.iloadN X'.here hx rfl (hb hby d5_119) rfl ?_
        show Steps p.tables e below (T'.setTop (mkF m 120 #[.val (.ref a1), .val (.ref a2), .val (.int (b2i (wf xs ys (decide (t1 = t2) && decide (xs.length ≤ ys.length))))), .val (.int ka), .val (.int ia)] [(.int (b2i (wf xs ys (decide (t1 = t2) && decide (xs.length ≤ ys.length)))))])) _
        exact kt)
      obtain ⟨fs, hr, hrun, hended, hW, hsame⟩ := X'.leave (v := (some (.int (nar .boolean (b2i (wf xs ys (decide (t1 = t2) && decide (xs.length ≤ ys.length)))))))) (fun h => by rw [Bd.returns] at h; cases h)
      refine ⟨_, _, pre18 _ ?_, hrun, hended, _, _, rfl, ?_, ⟨_, rfl⟩, hW, hsame.mono (by decide) (by decide)⟩
      · exact retN X' hx (t := .boolean) Bd.returns (by simp) (hb hby d5_120) hr
      · show QW Z t1 t2 xs ys h0 n0 _ T'.heap _
        rw [e']
        exact ⟨(by rw [own_narb (own_b01 _)]), N0, rfl⟩
  · have pre20 : ∀ t, Steps p.tables e below (T5.setTop (mkF m 35 #[.val (.ref a1), .val (.ref a2), .val (.int (0 : Int32)), .val (.int (0 : Int32)), .val (.int (0 : Int32))] [])) t → Steps p.tables e below (s₁.setTop (entryFrame m #[(.ref a1), (.ref a2)] 5)) t := fun t kt => pre6 t (by
      refine XS.icmpYes X5.here hx rfl (pc0 := 8) (pc' := 28) rfl (hb hby d5_8) rfl (feq c8_1).2 (by decide) (by decide) ?_
      show Steps p.tables e below (T5.setTop (mkF m 28 #[.val (.ref a1), .val (.ref a2), .unset, .unset, .unset] [])) _
      refine XS.iconst X5.here hx rfl (hb hby d5_28) ?_
      show Steps p.tables e below (T5.setTop (mkF m 29 #[.val (.ref a1), .val (.ref a2), .unset, .unset, .unset] [(.int (0 : Int32))])) _
      refine XS.istoreN X5.here hx rfl (hb hby d5_29) rfl (l' := #[.val (.ref a1), .val (.ref a2), .val (.int (0 : Int32)), .unset, .unset]) rfl ?_
      show Steps p.tables e below (T5.setTop (mkF m 30 #[.val (.ref a1), .val (.ref a2), .val (.int (0 : Int32)), .unset, .unset] [])) _
      refine XS.iconst X5.here hx rfl (hb hby d5_30) ?_
      show Steps p.tables e below (T5.setTop (mkF m 31 #[.val (.ref a1), .val (.ref a2), .val (.int (0 : Int32)), .unset, .unset] [(.int (0 : Int32))])) _
      refine XS.istoreN X5.here hx rfl (hb hby d5_31) rfl (l' := #[.val (.ref a1), .val (.ref a2), .val (.int (0 : Int32)), .val (.int (0 : Int32)), .unset]) rfl ?_
      show Steps p.tables e below (T5.setTop (mkF m 32 #[.val (.ref a1), .val (.ref a2), .val (.int (0 : Int32)), .val (.int (0 : Int32)), .unset] [])) _
      refine XS.iconst X5.here hx rfl (hb hby d5_32) ?_
      show Steps p.tables e below (T5.setTop (mkF m 33 #[.val (.ref a1), .val (.ref a2), .val (.int (0 : Int32)), .val (.int (0 : Int32)), .unset] [(.int (0 : Int32))])) _
      refine XS.istore X5.here hx rfl (hb hby d5_33) rfl (l' := #[.val (.ref a1), .val (.ref a2), .val (.int (0 : Int32)), .val (.int (0 : Int32)), .val (.int (0 : Int32))]) rfl ?_
      show Steps p.tables e below (T5.setTop (mkF m 35 #[.val (.ref a1), .val (.ref a2), .val (.int (0 : Int32)), .val (.int (0 : Int32)), .val (.int (0 : Int32))] [])) _
      exact kt)
    have hb0 : ((0 : Int32) : Int32) = b2i (decide (t1 = t2) && decide (xs.length ≤ ys.length)) := by simp [c8_1, b2i]
    obtain ⟨T', ka, ia, X', e', sto⟩ := loopO a1 a2 x1 x2 xs ys clx cly hx hZ hw hby hml hown F1p F2p Ax Sx bx Hx Ay Sy by_ Hy xs [] ys [] (decide (t1 = t2) && decide (xs.length ≤ ys.length)) T5 rfl rfl X5 e5
    have preO : ∀ t, Steps p.tables e below (T'.setTop (mkF m 119 #[.val (.ref a1), .val (.ref a2), .val (.int (b2i (wf xs ys (decide (t1 = t2) && decide (xs.length ≤ ys.length))))), .val (.int ka), .val (.int ia)] [])) t → Steps p.tables e below (s₁.setTop (entryFrame m #[(.ref a1), (.ref a2)] 5)) t := fun t kt => pre20 t (by have q := sto t kt; rw [← hb0] at q; exact q)
    have pre21 : ∀ t, Steps p.tables e below (T'.setTop (mkF m 120 #[.val (.ref a1), .val (.ref a2), .val (.int (b2i (wf xs ys (decide (t1 = t2) && decide (xs.length ≤ ys.length))))), .val (.int ka), .val (.int ia)] [(.int (b2i (wf xs ys (decide (t1 = t2) && decide (xs.length ≤ ys.length)))))])) t → Steps p.tables e below (s₁.setTop (entryFrame m #[(.ref a1), (.ref a2)] 5)) t := fun t kt => preO t (by
      refine XS.iloadN X'.here hx rfl (hb hby d5_119) rfl ?_
      show Steps p.tables e below (T'.setTop (mkF m 120 #[.val (.ref a1), .val (.ref a2), .val (.int (b2i (wf xs ys (decide (t1 = t2) && decide (xs.length ≤ ys.length))))), .val (.int ka), .val (.int ia)] [(.int (b2i (wf xs ys (decide (t1 = t2) && decide (xs.length ≤ ys.length)))))])) _
      exact kt)
    obtain ⟨fs, hr, hrun, hended, hW, hsame⟩ := X'.leave (v := (some (.int (nar .boolean (b2i (wf xs ys (decide (t1 = t2) && decide (xs.length ≤ ys.length)))))))) (fun h => by rw [Bd.returns] at h; cases h)
    refine ⟨_, _, pre21 _ ?_, hrun, hended, _, _, rfl, ?_, ⟨_, rfl⟩, hW, hsame.mono (by decide) (by decide)⟩
    · exact retN X' hx (t := .boolean) Bd.returns (by simp) (hb hby d5_120) hr
    · show QW Z t1 t2 xs ys h0 n0 _ T'.heap _
      rw [e']
      exact ⟨(by rw [own_narb (own_b01 _)]), N0, rfl⟩
def Q0 (Z : State) (h0 : Heap) (n0 : Nat) (v : Option Value) (h : Heap) (L : List Loc) : Prop := v = some (.int (1 : Int32)) ∧ Fr n0 L
theorem ef_rm0 (m : MethodId) (x0 : Int64) (x1 : Int64) (x2 : Int64) (x3 : Int64) (x4 : Int32) : entryFrame m #[(.long x0), (.long x1), (.long x2), (.long x3), (.int x4)] maxLocals = mkF m 0 #[.val (.long x0), .second, .val (.long x1), .second, .val (.long x2), .second, .val (.long x3), .second, .val (.int x4), .unset, .unset, .unset, .unset, .unset, .unset, .unset, .unset, .unset, .unset, .unset, .unset, .unset, .unset, .unset] [] := by first | (simp [entryFrame, mkF, argsToLocals, Value.category, maxLocals]; done) | rfl
theorem pd__28IJJJJ_29_5bJ : parseMethodDescriptor "(IJJJJ)[J" = some ⟨[.int, .long, .long, .long, .long], some (.array .long)⟩ := by decide +kernel
theorem pd__28Z_5bJ_29V : parseMethodDescriptor "(Z[J)V" = some ⟨[.boolean, (.array .long)], none⟩ := by decide +kernel
theorem pd__28Lcom_2fexample_2fnest3_2fnest3_2fDeterminization_24Subset_3b_29Z : parseMethodDescriptor "(Lcom/example/nest3/nest3/Determinization$Subset;)Z" = some ⟨[(.object "com/example/nest3/nest3/Determinization$Subset")], some .boolean⟩ := by decide +kernel
set_option maxRecDepth 65536 in
set_option maxHeartbeats 40000000 in
theorem rm0 (l : Launch) (Z : State) (a0 : Array Value) (hw : ∀ d ∈ tables_1, d.before a0 Z = true) (ws : List Jvm.Cond) (qa q1 q2 q3 : Int64) (mm : Int32) (h0 : Heap) (n0 : Nat) (Z0 : n0 ≤ h0.size)  :
    MetFree l x (head1 (Jvm.Cond.code x code maxLocals ret :: ws) room_1) (fun a U => a = #[(.long qa), (.long q1), (.long q2), (.long q3), (.int mm)] ∧ Z.Warmed39 U.vm ∧ U.heap = h0) (fun _ _ _ _ _ => True) (fun _ U o U' => ∃ v L, o = .returned v ∧ Q0 Z  h0 n0 v U'.heap L ∧ FrameEnd U o U' L room_1.cells room_1.slots) := by
  refine MetFree.of_bodySF (plainFor_of_name pn_com_example_nest3_nest3_SubsetWithinPinLaw) hisR ?_
  intro p e s m args below meth c s₁ Bd hml0 hP hK
  obtain ⟨rfl, hZ, hh⟩ := hP
  have hx := Bd.exec
  have hby := Bd.bytes
  have hml : c.maxLocals = 24 := hml0
  have hown : s.vm.findClass "com/example/nest3/nest3/SubsetWithinPinLaw" = some m.cls := findClass_of_methodNamed Bd.named
  have hnm := (name_of_methodNamed Bd.named Bd.method).1
  have X0 : Stand p l e room_1 s m #[(.long qa), (.long q1), (.long q2), (.long q3), (.int mm)] below meth c s₁ [] 0 0 := Stand.of_body Bd
  have e0 : s₁.heap = h0 := by rw [← hh, Bd.state]; rfl
  have N0 := Fr.nil n0
  have pre0 : ∀ t, Steps p.tables e below (s₁.setTop (mkF m 0 #[.val (.long qa), .second, .val (.long q1), .second, .val (.long q2), .second, .val (.long q3), .second, .val (.int mm), .unset, .unset, .unset, .unset, .unset, .unset, .unset, .unset, .unset, .unset, .unset, .unset, .unset, .unset, .unset] [])) t → Steps p.tables e below (s₁.setTop (entryFrame m #[(.long qa), (.long q1), (.long q2), (.long q3), (.int mm)] maxLocals)) t := fun t kt => castTop (ef_rm0 m qa q1 q2 q3 mm) kt
  have pre1 : ∀ t, Steps p.tables e below (s₁.setTop (mkF m 5 #[.val (.long qa), .second, .val (.long q1), .second, .val (.long q2), .second, .val (.long q3), .second, .val (.int mm), .val (.long (qa >>> ((2 : Int32) &&& 0x3f).toInt64)), .second, .unset, .unset, .unset, .unset, .unset, .unset, .unset, .unset, .unset, .unset, .unset, .unset, .unset] [])) t → Steps p.tables e below (s₁.setTop (entryFrame m #[(.long qa), (.long q1), (.long q2), (.long q3), (.int mm)] maxLocals)) t := fun t kt => pre0 t (by
    refine XS.lloadN X0.here hx rfl (hb hby at_0) rfl ?_
    show Steps p.tables e below (s₁.setTop (mkF m 1 #[.val (.long qa), .second, .val (.long q1), .second, .val (.long q2), .second, .val (.long q3), .second, .val (.int mm), .unset, .unset, .unset, .unset, .unset, .unset, .unset, .unset, .unset, .unset, .unset, .unset, .unset, .unset, .unset] [(.long qa)])) _
    refine XS.iconst X0.here hx rfl (hb hby at_1) ?_
    show Steps p.tables e below (s₁.setTop (mkF m 2 #[.val (.long qa), .second, .val (.long q1), .second, .val (.long q2), .second, .val (.long q3), .second, .val (.int mm), .unset, .unset, .unset, .unset, .unset, .unset, .unset, .unset, .unset, .unset, .unset, .unset, .unset, .unset, .unset] [(.int (2 : Int32)), (.long qa)])) _
    refine XS.lshr X0.here hx rfl (hb hby at_2) rfl ?_
    show Steps p.tables e below (s₁.setTop (mkF m 3 #[.val (.long qa), .second, .val (.long q1), .second, .val (.long q2), .second, .val (.long q3), .second, .val (.int mm), .unset, .unset, .unset, .unset, .unset, .unset, .unset, .unset, .unset, .unset, .unset, .unset, .unset, .unset, .unset] [(.long (qa >>> ((2 : Int32) &&& 0x3f).toInt64))])) _
    refine XS.lstore X0.here hx rfl (hb hby at_3) rfl (l' := #[.val (.long qa), .second, .val (.long q1), .second, .val (.long q2), .second, .val (.long q3), .second, .val (.int mm), .val (.long (qa >>> ((2 : Int32) &&& 0x3f).toInt64)), .second, .unset, .unset, .unset, .unset, .unset, .unset, .unset, .unset, .unset, .unset, .unset, .unset, .unset]) rfl ?_
    show Steps p.tables e below (s₁.setTop (mkF m 5 #[.val (.long qa), .second, .val (.long q1), .second, .val (.long q2), .second, .val (.long q3), .second, .val (.int mm), .val (.long (qa >>> ((2 : Int32) &&& 0x3f).toInt64)), .second, .unset, .unset, .unset, .unset, .unset, .unset, .unset, .unset, .unset, .unset, .unset, .unset, .unset] [])) _
    exact kt)
  obtain ⟨v0, hv0⟩ : ∃ z, z = (qa >>> ((2 : Int32) &&& 0x3f).toInt64) := ⟨_, rfl⟩
  have pre2 : ∀ t, Steps p.tables e below (s₁.setTop (mkF m 5 #[.val (.long qa), .second, .val (.long q1), .second, .val (.long q2), .second, .val (.long q3), .second, .val (.int mm), .val (.long v0), .second, .unset, .unset, .unset, .unset, .unset, .unset, .unset, .unset, .unset, .unset, .unset, .unset, .unset] [])) t → Steps p.tables e below (s₁.setTop (entryFrame m #[(.long qa), (.long q1), (.long q2), (.long q3), (.int mm)] maxLocals)) t := by
    rw [hv0]; exact pre1
  have B0 := own_v0 qa v0 hv0
  have pre3 : ∀ t, Steps p.tables e below (s₁.setTop (mkF m 15 #[.val (.long qa), .second, .val (.long q1), .second, .val (.long q2), .second, .val (.long q3), .second, .val (.int mm), .val (.long v0), .second, .val (.long ((v0 + (1 : Int64)) + ((q1.toUInt64 >>> ((4 : Int32) &&& 0x3f).toInt64.toUInt64).toInt64))), .second, .unset, .unset, .unset, .unset, .unset, .unset, .unset, .unset, .unset, .unset, .unset] [])) t → Steps p.tables e below (s₁.setTop (entryFrame m #[(.long qa), (.long q1), (.long q2), (.long q3), (.int mm)] maxLocals)) t := fun t kt => pre2 t (by
    refine XS.lload X0.here hx rfl (hb hby at_5) rfl ?_
    show Steps p.tables e below (s₁.setTop (mkF m 7 #[.val (.long qa), .second, .val (.long q1), .second, .val (.long q2), .second, .val (.long q3), .second, .val (.int mm), .val (.long v0), .second, .unset, .unset, .unset, .unset, .unset, .unset, .unset, .unset, .unset, .unset, .unset, .unset, .unset] [(.long v0)])) _
    refine XS.lconst X0.here hx rfl (hb hby at_7) ?_
    show Steps p.tables e below (s₁.setTop (mkF m 8 #[.val (.long qa), .second, .val (.long q1), .second, .val (.long q2), .second, .val (.long q3), .second, .val (.int mm), .val (.long v0), .second, .unset, .unset, .unset, .unset, .unset, .unset, .unset, .unset, .unset, .unset, .unset, .unset, .unset] [(.long (1 : Int64)), (.long v0)])) _
    refine XS.ladd X0.here hx rfl (hb hby at_8) rfl ?_
    show Steps p.tables e below (s₁.setTop (mkF m 9 #[.val (.long qa), .second, .val (.long q1), .second, .val (.long q2), .second, .val (.long q3), .second, .val (.int mm), .val (.long v0), .second, .unset, .unset, .unset, .unset, .unset, .unset, .unset, .unset, .unset, .unset, .unset, .unset, .unset] [(.long (v0 + (1 : Int64)))])) _
    refine XS.lloadN X0.here hx rfl (hb hby at_9) rfl ?_
    show Steps p.tables e below (s₁.setTop (mkF m 10 #[.val (.long qa), .second, .val (.long q1), .second, .val (.long q2), .second, .val (.long q3), .second, .val (.int mm), .val (.long v0), .second, .unset, .unset, .unset, .unset, .unset, .unset, .unset, .unset, .unset, .unset, .unset, .unset, .unset] [(.long q1), (.long (v0 + (1 : Int64)))])) _
    refine XS.iconst X0.here hx rfl (hb hby at_10) ?_
    show Steps p.tables e below (s₁.setTop (mkF m 11 #[.val (.long qa), .second, .val (.long q1), .second, .val (.long q2), .second, .val (.long q3), .second, .val (.int mm), .val (.long v0), .second, .unset, .unset, .unset, .unset, .unset, .unset, .unset, .unset, .unset, .unset, .unset, .unset, .unset] [(.int (4 : Int32)), (.long q1), (.long (v0 + (1 : Int64)))])) _
    refine XS.lushr X0.here hx rfl (hb hby at_11) rfl ?_
    show Steps p.tables e below (s₁.setTop (mkF m 12 #[.val (.long qa), .second, .val (.long q1), .second, .val (.long q2), .second, .val (.long q3), .second, .val (.int mm), .val (.long v0), .second, .unset, .unset, .unset, .unset, .unset, .unset, .unset, .unset, .unset, .unset, .unset, .unset, .unset] [(.long ((q1.toUInt64 >>> ((4 : Int32) &&& 0x3f).toInt64.toUInt64).toInt64)), (.long (v0 + (1 : Int64)))])) _
    refine XS.ladd X0.here hx rfl (hb hby at_12) rfl ?_
    show Steps p.tables e below (s₁.setTop (mkF m 13 #[.val (.long qa), .second, .val (.long q1), .second, .val (.long q2), .second, .val (.long q3), .second, .val (.int mm), .val (.long v0), .second, .unset, .unset, .unset, .unset, .unset, .unset, .unset, .unset, .unset, .unset, .unset, .unset, .unset] [(.long ((v0 + (1 : Int64)) + ((q1.toUInt64 >>> ((4 : Int32) &&& 0x3f).toInt64.toUInt64).toInt64)))])) _
    refine XS.lstore X0.here hx rfl (hb hby at_13) rfl (l' := #[.val (.long qa), .second, .val (.long q1), .second, .val (.long q2), .second, .val (.long q3), .second, .val (.int mm), .val (.long v0), .second, .val (.long ((v0 + (1 : Int64)) + ((q1.toUInt64 >>> ((4 : Int32) &&& 0x3f).toInt64.toUInt64).toInt64))), .second, .unset, .unset, .unset, .unset, .unset, .unset, .unset, .unset, .unset, .unset, .unset]) rfl ?_
    show Steps p.tables e below (s₁.setTop (mkF m 15 #[.val (.long qa), .second, .val (.long q1), .second, .val (.long q2), .second, .val (.long q3), .second, .val (.int mm), .val (.long v0), .second, .val (.long ((v0 + (1 : Int64)) + ((q1.toUInt64 >>> ((4 : Int32) &&& 0x3f).toInt64.toUInt64).toInt64))), .second, .unset, .unset, .unset, .unset, .unset, .unset, .unset, .unset, .unset, .unset, .unset] [])) _
    exact kt)
  obtain ⟨v1, hv1⟩ : ∃ z, z = ((v0 + (1 : Int64)) + ((q1.toUInt64 >>> ((4 : Int32) &&& 0x3f).toInt64.toUInt64).toInt64)) := ⟨_, rfl⟩
  have pre4 : ∀ t, Steps p.tables e below (s₁.setTop (mkF m 15 #[.val (.long qa), .second, .val (.long q1), .second, .val (.long q2), .second, .val (.long q3), .second, .val (.int mm), .val (.long v0), .second, .val (.long v1), .second, .unset, .unset, .unset, .unset, .unset, .unset, .unset, .unset, .unset, .unset, .unset] [])) t → Steps p.tables e below (s₁.setTop (entryFrame m #[(.long qa), (.long q1), (.long q2), (.long q3), (.int mm)] maxLocals)) t := by
    rw [hv1]; exact pre3
  have B1 := own_step v0 q1 v1 2305843009213693951 (by omega) B0.2 (by decide) hv1
  have pre5 : ∀ t, Steps p.tables e below (s₁.setTop (mkF m 26 #[.val (.long qa), .second, .val (.long q1), .second, .val (.long q2), .second, .val (.long q3), .second, .val (.int mm), .val (.long v0), .second, .val (.long v1), .second, .val (.long ((v1 + (1 : Int64)) + ((q2.toUInt64 >>> ((4 : Int32) &&& 0x3f).toInt64.toUInt64).toInt64))), .second, .unset, .unset, .unset, .unset, .unset, .unset, .unset, .unset, .unset] [])) t → Steps p.tables e below (s₁.setTop (entryFrame m #[(.long qa), (.long q1), (.long q2), (.long q3), (.int mm)] maxLocals)) t := fun t kt => pre4 t (by
    refine XS.lload X0.here hx rfl (hb hby at_15) rfl ?_
    show Steps p.tables e below (s₁.setTop (mkF m 17 #[.val (.long qa), .second, .val (.long q1), .second, .val (.long q2), .second, .val (.long q3), .second, .val (.int mm), .val (.long v0), .second, .val (.long v1), .second, .unset, .unset, .unset, .unset, .unset, .unset, .unset, .unset, .unset, .unset, .unset] [(.long v1)])) _
    refine XS.lconst X0.here hx rfl (hb hby at_17) ?_
    show Steps p.tables e below (s₁.setTop (mkF m 18 #[.val (.long qa), .second, .val (.long q1), .second, .val (.long q2), .second, .val (.long q3), .second, .val (.int mm), .val (.long v0), .second, .val (.long v1), .second, .unset, .unset, .unset, .unset, .unset, .unset, .unset, .unset, .unset, .unset, .unset] [(.long (1 : Int64)), (.long v1)])) _
    refine XS.ladd X0.here hx rfl (hb hby at_18) rfl ?_
    show Steps p.tables e below (s₁.setTop (mkF m 19 #[.val (.long qa), .second, .val (.long q1), .second, .val (.long q2), .second, .val (.long q3), .second, .val (.int mm), .val (.long v0), .second, .val (.long v1), .second, .unset, .unset, .unset, .unset, .unset, .unset, .unset, .unset, .unset, .unset, .unset] [(.long (v1 + (1 : Int64)))])) _
    refine XS.lload X0.here hx rfl (hb hby at_19) rfl ?_
    show Steps p.tables e below (s₁.setTop (mkF m 21 #[.val (.long qa), .second, .val (.long q1), .second, .val (.long q2), .second, .val (.long q3), .second, .val (.int mm), .val (.long v0), .second, .val (.long v1), .second, .unset, .unset, .unset, .unset, .unset, .unset, .unset, .unset, .unset, .unset, .unset] [(.long q2), (.long (v1 + (1 : Int64)))])) _
    refine XS.iconst X0.here hx rfl (hb hby at_21) ?_
    show Steps p.tables e below (s₁.setTop (mkF m 22 #[.val (.long qa), .second, .val (.long q1), .second, .val (.long q2), .second, .val (.long q3), .second, .val (.int mm), .val (.long v0), .second, .val (.long v1), .second, .unset, .unset, .unset, .unset, .unset, .unset, .unset, .unset, .unset, .unset, .unset] [(.int (4 : Int32)), (.long q2), (.long (v1 + (1 : Int64)))])) _
    refine XS.lushr X0.here hx rfl (hb hby at_22) rfl ?_
    show Steps p.tables e below (s₁.setTop (mkF m 23 #[.val (.long qa), .second, .val (.long q1), .second, .val (.long q2), .second, .val (.long q3), .second, .val (.int mm), .val (.long v0), .second, .val (.long v1), .second, .unset, .unset, .unset, .unset, .unset, .unset, .unset, .unset, .unset, .unset, .unset] [(.long ((q2.toUInt64 >>> ((4 : Int32) &&& 0x3f).toInt64.toUInt64).toInt64)), (.long (v1 + (1 : Int64)))])) _
    refine XS.ladd X0.here hx rfl (hb hby at_23) rfl ?_
    show Steps p.tables e below (s₁.setTop (mkF m 24 #[.val (.long qa), .second, .val (.long q1), .second, .val (.long q2), .second, .val (.long q3), .second, .val (.int mm), .val (.long v0), .second, .val (.long v1), .second, .unset, .unset, .unset, .unset, .unset, .unset, .unset, .unset, .unset, .unset, .unset] [(.long ((v1 + (1 : Int64)) + ((q2.toUInt64 >>> ((4 : Int32) &&& 0x3f).toInt64.toUInt64).toInt64)))])) _
    refine XS.lstore X0.here hx rfl (hb hby at_24) rfl (l' := #[.val (.long qa), .second, .val (.long q1), .second, .val (.long q2), .second, .val (.long q3), .second, .val (.int mm), .val (.long v0), .second, .val (.long v1), .second, .val (.long ((v1 + (1 : Int64)) + ((q2.toUInt64 >>> ((4 : Int32) &&& 0x3f).toInt64.toUInt64).toInt64))), .second, .unset, .unset, .unset, .unset, .unset, .unset, .unset, .unset, .unset]) rfl ?_
    show Steps p.tables e below (s₁.setTop (mkF m 26 #[.val (.long qa), .second, .val (.long q1), .second, .val (.long q2), .second, .val (.long q3), .second, .val (.int mm), .val (.long v0), .second, .val (.long v1), .second, .val (.long ((v1 + (1 : Int64)) + ((q2.toUInt64 >>> ((4 : Int32) &&& 0x3f).toInt64.toUInt64).toInt64))), .second, .unset, .unset, .unset, .unset, .unset, .unset, .unset, .unset, .unset] [])) _
    exact kt)
  obtain ⟨v2, hv2⟩ : ∃ z, z = ((v1 + (1 : Int64)) + ((q2.toUInt64 >>> ((4 : Int32) &&& 0x3f).toInt64.toUInt64).toInt64)) := ⟨_, rfl⟩
  have pre6 : ∀ t, Steps p.tables e below (s₁.setTop (mkF m 26 #[.val (.long qa), .second, .val (.long q1), .second, .val (.long q2), .second, .val (.long q3), .second, .val (.int mm), .val (.long v0), .second, .val (.long v1), .second, .val (.long v2), .second, .unset, .unset, .unset, .unset, .unset, .unset, .unset, .unset, .unset] [])) t → Steps p.tables e below (s₁.setTop (entryFrame m #[(.long qa), (.long q1), (.long q2), (.long q3), (.int mm)] maxLocals)) t := by
    rw [hv2]; exact pre5
  have B2 := own_step v1 q2 v2 3458764513820540928 (by omega) B1.2 (by decide) hv2
  have pre7 : ∀ t, Steps p.tables e below (s₁.setTop (mkF m 37 #[.val (.long qa), .second, .val (.long q1), .second, .val (.long q2), .second, .val (.long q3), .second, .val (.int mm), .val (.long v0), .second, .val (.long v1), .second, .val (.long v2), .second, .val (.long ((v2 + (1 : Int64)) + ((q3.toUInt64 >>> ((4 : Int32) &&& 0x3f).toInt64.toUInt64).toInt64))), .second, .unset, .unset, .unset, .unset, .unset, .unset, .unset] [])) t → Steps p.tables e below (s₁.setTop (entryFrame m #[(.long qa), (.long q1), (.long q2), (.long q3), (.int mm)] maxLocals)) t := fun t kt => pre6 t (by
    refine XS.lload X0.here hx rfl (hb hby at_26) rfl ?_
    show Steps p.tables e below (s₁.setTop (mkF m 28 #[.val (.long qa), .second, .val (.long q1), .second, .val (.long q2), .second, .val (.long q3), .second, .val (.int mm), .val (.long v0), .second, .val (.long v1), .second, .val (.long v2), .second, .unset, .unset, .unset, .unset, .unset, .unset, .unset, .unset, .unset] [(.long v2)])) _
    refine XS.lconst X0.here hx rfl (hb hby at_28) ?_
    show Steps p.tables e below (s₁.setTop (mkF m 29 #[.val (.long qa), .second, .val (.long q1), .second, .val (.long q2), .second, .val (.long q3), .second, .val (.int mm), .val (.long v0), .second, .val (.long v1), .second, .val (.long v2), .second, .unset, .unset, .unset, .unset, .unset, .unset, .unset, .unset, .unset] [(.long (1 : Int64)), (.long v2)])) _
    refine XS.ladd X0.here hx rfl (hb hby at_29) rfl ?_
    show Steps p.tables e below (s₁.setTop (mkF m 30 #[.val (.long qa), .second, .val (.long q1), .second, .val (.long q2), .second, .val (.long q3), .second, .val (.int mm), .val (.long v0), .second, .val (.long v1), .second, .val (.long v2), .second, .unset, .unset, .unset, .unset, .unset, .unset, .unset, .unset, .unset] [(.long (v2 + (1 : Int64)))])) _
    refine XS.lload X0.here hx rfl (hb hby at_30) rfl ?_
    show Steps p.tables e below (s₁.setTop (mkF m 32 #[.val (.long qa), .second, .val (.long q1), .second, .val (.long q2), .second, .val (.long q3), .second, .val (.int mm), .val (.long v0), .second, .val (.long v1), .second, .val (.long v2), .second, .unset, .unset, .unset, .unset, .unset, .unset, .unset, .unset, .unset] [(.long q3), (.long (v2 + (1 : Int64)))])) _
    refine XS.iconst X0.here hx rfl (hb hby at_32) ?_
    show Steps p.tables e below (s₁.setTop (mkF m 33 #[.val (.long qa), .second, .val (.long q1), .second, .val (.long q2), .second, .val (.long q3), .second, .val (.int mm), .val (.long v0), .second, .val (.long v1), .second, .val (.long v2), .second, .unset, .unset, .unset, .unset, .unset, .unset, .unset, .unset, .unset] [(.int (4 : Int32)), (.long q3), (.long (v2 + (1 : Int64)))])) _
    refine XS.lushr X0.here hx rfl (hb hby at_33) rfl ?_
    show Steps p.tables e below (s₁.setTop (mkF m 34 #[.val (.long qa), .second, .val (.long q1), .second, .val (.long q2), .second, .val (.long q3), .second, .val (.int mm), .val (.long v0), .second, .val (.long v1), .second, .val (.long v2), .second, .unset, .unset, .unset, .unset, .unset, .unset, .unset, .unset, .unset] [(.long ((q3.toUInt64 >>> ((4 : Int32) &&& 0x3f).toInt64.toUInt64).toInt64)), (.long (v2 + (1 : Int64)))])) _
    refine XS.ladd X0.here hx rfl (hb hby at_34) rfl ?_
    show Steps p.tables e below (s₁.setTop (mkF m 35 #[.val (.long qa), .second, .val (.long q1), .second, .val (.long q2), .second, .val (.long q3), .second, .val (.int mm), .val (.long v0), .second, .val (.long v1), .second, .val (.long v2), .second, .unset, .unset, .unset, .unset, .unset, .unset, .unset, .unset, .unset] [(.long ((v2 + (1 : Int64)) + ((q3.toUInt64 >>> ((4 : Int32) &&& 0x3f).toInt64.toUInt64).toInt64)))])) _
    refine XS.lstore X0.here hx rfl (hb hby at_35) rfl (l' := #[.val (.long qa), .second, .val (.long q1), .second, .val (.long q2), .second, .val (.long q3), .second, .val (.int mm), .val (.long v0), .second, .val (.long v1), .second, .val (.long v2), .second, .val (.long ((v2 + (1 : Int64)) + ((q3.toUInt64 >>> ((4 : Int32) &&& 0x3f).toInt64.toUInt64).toInt64))), .second, .unset, .unset, .unset, .unset, .unset, .unset, .unset]) rfl ?_
    show Steps p.tables e below (s₁.setTop (mkF m 37 #[.val (.long qa), .second, .val (.long q1), .second, .val (.long q2), .second, .val (.long q3), .second, .val (.int mm), .val (.long v0), .second, .val (.long v1), .second, .val (.long v2), .second, .val (.long ((v2 + (1 : Int64)) + ((q3.toUInt64 >>> ((4 : Int32) &&& 0x3f).toInt64.toUInt64).toInt64))), .second, .unset, .unset, .unset, .unset, .unset, .unset, .unset] [])) _
    exact kt)
  obtain ⟨v3, hv3⟩ : ∃ z, z = ((v2 + (1 : Int64)) + ((q3.toUInt64 >>> ((4 : Int32) &&& 0x3f).toInt64.toUInt64).toInt64)) := ⟨_, rfl⟩
  have pre8 : ∀ t, Steps p.tables e below (s₁.setTop (mkF m 37 #[.val (.long qa), .second, .val (.long q1), .second, .val (.long q2), .second, .val (.long q3), .second, .val (.int mm), .val (.long v0), .second, .val (.long v1), .second, .val (.long v2), .second, .val (.long v3), .second, .unset, .unset, .unset, .unset, .unset, .unset, .unset] [])) t → Steps p.tables e below (s₁.setTop (entryFrame m #[(.long qa), (.long q1), (.long q2), (.long q3), (.int mm)] maxLocals)) t := by
    rw [hv3]; exact pre7
  have B3 := own_step v2 q3 v3 4611686018427387905 (by omega) B2.2 (by decide) hv3
  have pre9 : ∀ t, Steps p.tables e below (s₁.setTop (mkF m 44 #[.val (.long qa), .second, .val (.long q1), .second, .val (.long q2), .second, .val (.long q3), .second, .val (.int mm), .val (.long v0), .second, .val (.long v1), .second, .val (.long v2), .second, .val (.long v3), .second, .val (.int (mm &&& (15 : Int32))), .unset, .unset, .unset, .unset, .unset, .unset] [])) t → Steps p.tables e below (s₁.setTop (entryFrame m #[(.long qa), (.long q1), (.long q2), (.long q3), (.int mm)] maxLocals)) t := fun t kt => pre8 t (by
    refine XS.iload X0.here hx rfl (hb hby at_37) rfl ?_
    show Steps p.tables e below (s₁.setTop (mkF m 39 #[.val (.long qa), .second, .val (.long q1), .second, .val (.long q2), .second, .val (.long q3), .second, .val (.int mm), .val (.long v0), .second, .val (.long v1), .second, .val (.long v2), .second, .val (.long v3), .second, .unset, .unset, .unset, .unset, .unset, .unset, .unset] [(.int mm)])) _
    refine XS.bipush X0.here hx rfl (hb hby at_39) ?_
    show Steps p.tables e below (s₁.setTop (mkF m 41 #[.val (.long qa), .second, .val (.long q1), .second, .val (.long q2), .second, .val (.long q3), .second, .val (.int mm), .val (.long v0), .second, .val (.long v1), .second, .val (.long v2), .second, .val (.long v3), .second, .unset, .unset, .unset, .unset, .unset, .unset, .unset] [(.int (15 : Int32)), (.int mm)])) _
    refine XS.iand X0.here hx rfl (hb hby at_41) rfl ?_
    show Steps p.tables e below (s₁.setTop (mkF m 42 #[.val (.long qa), .second, .val (.long q1), .second, .val (.long q2), .second, .val (.long q3), .second, .val (.int mm), .val (.long v0), .second, .val (.long v1), .second, .val (.long v2), .second, .val (.long v3), .second, .unset, .unset, .unset, .unset, .unset, .unset, .unset] [(.int (mm &&& (15 : Int32)))])) _
    refine XS.istore X0.here hx rfl (hb hby at_42) rfl (l' := #[.val (.long qa), .second, .val (.long q1), .second, .val (.long q2), .second, .val (.long q3), .second, .val (.int mm), .val (.long v0), .second, .val (.long v1), .second, .val (.long v2), .second, .val (.long v3), .second, .val (.int (mm &&& (15 : Int32))), .unset, .unset, .unset, .unset, .unset, .unset]) rfl ?_
    show Steps p.tables e below (s₁.setTop (mkF m 44 #[.val (.long qa), .second, .val (.long q1), .second, .val (.long q2), .second, .val (.long q3), .second, .val (.int mm), .val (.long v0), .second, .val (.long v1), .second, .val (.long v2), .second, .val (.long v3), .second, .val (.int (mm &&& (15 : Int32))), .unset, .unset, .unset, .unset, .unset, .unset] [])) _
    exact kt)
  obtain ⟨mi, hmi⟩ : ∃ z, z = (mm &&& (15 : Int32)) := ⟨_, rfl⟩
  have pre10 : ∀ t, Steps p.tables e below (s₁.setTop (mkF m 44 #[.val (.long qa), .second, .val (.long q1), .second, .val (.long q2), .second, .val (.long q3), .second, .val (.int mm), .val (.long v0), .second, .val (.long v1), .second, .val (.long v2), .second, .val (.long v3), .second, .val (.int mi), .unset, .unset, .unset, .unset, .unset, .unset] [])) t → Steps p.tables e below (s₁.setTop (entryFrame m #[(.long qa), (.long q1), (.long q2), (.long q3), (.int mm)] maxLocals)) t := by
    rw [hmi]; exact pre9
  obtain ⟨M_mi, hM_mi⟩ := own_m16 mm mi hmi
  have pre11 : ∀ t, Steps p.tables e below (s₁.setTop (mkF m 53 #[.val (.long qa), .second, .val (.long q1), .second, .val (.long q2), .second, .val (.long q3), .second, .val (.int mm), .val (.long v0), .second, .val (.long v1), .second, .val (.long v2), .second, .val (.long v3), .second, .val (.int mi), .val (.int (((mm.toUInt32 >>> ((4 : Int32) &&& 31).toUInt32).toInt32) &&& (15 : Int32))), .unset, .unset, .unset, .unset, .unset] [])) t → Steps p.tables e below (s₁.setTop (entryFrame m #[(.long qa), (.long q1), (.long q2), (.long q3), (.int mm)] maxLocals)) t := fun t kt => pre10 t (by
    refine XS.iload X0.here hx rfl (hb hby at_44) rfl ?_
    show Steps p.tables e below (s₁.setTop (mkF m 46 #[.val (.long qa), .second, .val (.long q1), .second, .val (.long q2), .second, .val (.long q3), .second, .val (.int mm), .val (.long v0), .second, .val (.long v1), .second, .val (.long v2), .second, .val (.long v3), .second, .val (.int mi), .unset, .unset, .unset, .unset, .unset, .unset] [(.int mm)])) _
    refine XS.iconst X0.here hx rfl (hb hby at_46) ?_
    show Steps p.tables e below (s₁.setTop (mkF m 47 #[.val (.long qa), .second, .val (.long q1), .second, .val (.long q2), .second, .val (.long q3), .second, .val (.int mm), .val (.long v0), .second, .val (.long v1), .second, .val (.long v2), .second, .val (.long v3), .second, .val (.int mi), .unset, .unset, .unset, .unset, .unset, .unset] [(.int (4 : Int32)), (.int mm)])) _
    refine XS.iushr X0.here hx rfl (hb hby at_47) rfl ?_
    show Steps p.tables e below (s₁.setTop (mkF m 48 #[.val (.long qa), .second, .val (.long q1), .second, .val (.long q2), .second, .val (.long q3), .second, .val (.int mm), .val (.long v0), .second, .val (.long v1), .second, .val (.long v2), .second, .val (.long v3), .second, .val (.int mi), .unset, .unset, .unset, .unset, .unset, .unset] [(.int ((mm.toUInt32 >>> ((4 : Int32) &&& 31).toUInt32).toInt32))])) _
    refine XS.bipush X0.here hx rfl (hb hby at_48) ?_
    show Steps p.tables e below (s₁.setTop (mkF m 50 #[.val (.long qa), .second, .val (.long q1), .second, .val (.long q2), .second, .val (.long q3), .second, .val (.int mm), .val (.long v0), .second, .val (.long v1), .second, .val (.long v2), .second, .val (.long v3), .second, .val (.int mi), .unset, .unset, .unset, .unset, .unset, .unset] [(.int (15 : Int32)), (.int ((mm.toUInt32 >>> ((4 : Int32) &&& 31).toUInt32).toInt32))])) _
    refine XS.iand X0.here hx rfl (hb hby at_50) rfl ?_
    show Steps p.tables e below (s₁.setTop (mkF m 51 #[.val (.long qa), .second, .val (.long q1), .second, .val (.long q2), .second, .val (.long q3), .second, .val (.int mm), .val (.long v0), .second, .val (.long v1), .second, .val (.long v2), .second, .val (.long v3), .second, .val (.int mi), .unset, .unset, .unset, .unset, .unset, .unset] [(.int (((mm.toUInt32 >>> ((4 : Int32) &&& 31).toUInt32).toInt32) &&& (15 : Int32)))])) _
    refine XS.istore X0.here hx rfl (hb hby at_51) rfl (l' := #[.val (.long qa), .second, .val (.long q1), .second, .val (.long q2), .second, .val (.long q3), .second, .val (.int mm), .val (.long v0), .second, .val (.long v1), .second, .val (.long v2), .second, .val (.long v3), .second, .val (.int mi), .val (.int (((mm.toUInt32 >>> ((4 : Int32) &&& 31).toUInt32).toInt32) &&& (15 : Int32))), .unset, .unset, .unset, .unset, .unset]) rfl ?_
    show Steps p.tables e below (s₁.setTop (mkF m 53 #[.val (.long qa), .second, .val (.long q1), .second, .val (.long q2), .second, .val (.long q3), .second, .val (.int mm), .val (.long v0), .second, .val (.long v1), .second, .val (.long v2), .second, .val (.long v3), .second, .val (.int mi), .val (.int (((mm.toUInt32 >>> ((4 : Int32) &&& 31).toUInt32).toInt32) &&& (15 : Int32))), .unset, .unset, .unset, .unset, .unset] [])) _
    exact kt)
  obtain ⟨th, hth⟩ : ∃ z, z = (((mm.toUInt32 >>> ((4 : Int32) &&& 31).toUInt32).toInt32) &&& (15 : Int32)) := ⟨_, rfl⟩
  have pre12 : ∀ t, Steps p.tables e below (s₁.setTop (mkF m 53 #[.val (.long qa), .second, .val (.long q1), .second, .val (.long q2), .second, .val (.long q3), .second, .val (.int mm), .val (.long v0), .second, .val (.long v1), .second, .val (.long v2), .second, .val (.long v3), .second, .val (.int mi), .val (.int th), .unset, .unset, .unset, .unset, .unset] [])) t → Steps p.tables e below (s₁.setTop (entryFrame m #[(.long qa), (.long q1), (.long q2), (.long q3), (.int mm)] maxLocals)) t := by
    rw [hth]; exact pre11
  obtain ⟨M_th, hM_th⟩ := own_m16 _ th hth
  have pre13 : ∀ t, Steps p.tables e below (s₁.setTop (mkF m 60 #[.val (.long qa), .second, .val (.long q1), .second, .val (.long q2), .second, .val (.long q3), .second, .val (.int mm), .val (.long v0), .second, .val (.long v1), .second, .val (.long v2), .second, .val (.long v3), .second, .val (.int mi), .val (.int th), .unset, .unset, .unset, .unset, .unset] [(.int (((mm.toUInt32 >>> ((8 : Int32) &&& 31).toUInt32).toInt32) &&& (1 : Int32)))])) t → Steps p.tables e below (s₁.setTop (entryFrame m #[(.long qa), (.long q1), (.long q2), (.long q3), (.int mm)] maxLocals)) t := fun t kt => pre12 t (by
    refine XS.iload X0.here hx rfl (hb hby at_53) rfl ?_
    show Steps p.tables e below (s₁.setTop (mkF m 55 #[.val (.long qa), .second, .val (.long q1), .second, .val (.long q2), .second, .val (.long q3), .second, .val (.int mm), .val (.long v0), .second, .val (.long v1), .second, .val (.long v2), .second, .val (.long v3), .second, .val (.int mi), .val (.int th), .unset, .unset, .unset, .unset, .unset] [(.int mm)])) _
    refine XS.bipush X0.here hx rfl (hb hby at_55) ?_
    show Steps p.tables e below (s₁.setTop (mkF m 57 #[.val (.long qa), .second, .val (.long q1), .second, .val (.long q2), .second, .val (.long q3), .second, .val (.int mm), .val (.long v0), .second, .val (.long v1), .second, .val (.long v2), .second, .val (.long v3), .second, .val (.int mi), .val (.int th), .unset, .unset, .unset, .unset, .unset] [(.int (8 : Int32)), (.int mm)])) _
    refine XS.iushr X0.here hx rfl (hb hby at_57) rfl ?_
    show Steps p.tables e below (s₁.setTop (mkF m 58 #[.val (.long qa), .second, .val (.long q1), .second, .val (.long q2), .second, .val (.long q3), .second, .val (.int mm), .val (.long v0), .second, .val (.long v1), .second, .val (.long v2), .second, .val (.long v3), .second, .val (.int mi), .val (.int th), .unset, .unset, .unset, .unset, .unset] [(.int ((mm.toUInt32 >>> ((8 : Int32) &&& 31).toUInt32).toInt32))])) _
    refine XS.iconst X0.here hx rfl (hb hby at_58) ?_
    show Steps p.tables e below (s₁.setTop (mkF m 59 #[.val (.long qa), .second, .val (.long q1), .second, .val (.long q2), .second, .val (.long q3), .second, .val (.int mm), .val (.long v0), .second, .val (.long v1), .second, .val (.long v2), .second, .val (.long v3), .second, .val (.int mi), .val (.int th), .unset, .unset, .unset, .unset, .unset] [(.int (1 : Int32)), (.int ((mm.toUInt32 >>> ((8 : Int32) &&& 31).toUInt32).toInt32))])) _
    refine XS.iand X0.here hx rfl (hb hby at_59) rfl ?_
    show Steps p.tables e below (s₁.setTop (mkF m 60 #[.val (.long qa), .second, .val (.long q1), .second, .val (.long q2), .second, .val (.long q3), .second, .val (.int mm), .val (.long v0), .second, .val (.long v1), .second, .val (.long v2), .second, .val (.long v3), .second, .val (.int mi), .val (.int th), .unset, .unset, .unset, .unset, .unset] [(.int (((mm.toUInt32 >>> ((8 : Int32) &&& 31).toUInt32).toInt32) &&& (1 : Int32)))])) _
    exact kt)
  have pre14 : ∀ t, Steps p.tables e below (s₁.setTop (mkF m 68 #[.val (.long qa), .second, .val (.long q1), .second, .val (.long q2), .second, .val (.long q3), .second, .val (.int mm), .val (.long v0), .second, .val (.long v1), .second, .val (.long v2), .second, .val (.long v3), .second, .val (.int mi), .val (.int th), .unset, .unset, .unset, .unset, .unset] [(.int (if (((mm.toUInt32 >>> ((8 : Int32) &&& 31).toUInt32).toInt32) &&& (1 : Int32)) = (0 : Int32) then (0 : Int32) else (1 : Int32)))])) t → Steps p.tables e below (s₁.setTop (entryFrame m #[(.long qa), (.long q1), (.long q2), (.long q3), (.int mm)] maxLocals)) t := fun t kt => pre13 t (by
    by_cases c60_1 : (((mm.toUInt32 >>> ((8 : Int32) &&& 31).toUInt32).toInt32) &&& (1 : Int32)) = (0 : Int32)
    · rw [if_pos c60_1] at kt
      refine XS.ifYes X0.here hx rfl (pc0 := 60) (pc' := 67) rfl (hb hby at_60) rfl ((if0 _ _).trans (teq c60_1).1) (by decide) (by decide) ?_
      show Steps p.tables e below (s₁.setTop (mkF m 67 #[.val (.long qa), .second, .val (.long q1), .second, .val (.long q2), .second, .val (.long q3), .second, .val (.int mm), .val (.long v0), .second, .val (.long v1), .second, .val (.long v2), .second, .val (.long v3), .second, .val (.int mi), .val (.int th), .unset, .unset, .unset, .unset, .unset] [])) _
      refine XS.iconst X0.here hx rfl (hb hby at_67) ?_
      show Steps p.tables e below (s₁.setTop (mkF m 68 #[.val (.long qa), .second, .val (.long q1), .second, .val (.long q2), .second, .val (.long q3), .second, .val (.int mm), .val (.long v0), .second, .val (.long v1), .second, .val (.long v2), .second, .val (.long v3), .second, .val (.int mi), .val (.int th), .unset, .unset, .unset, .unset, .unset] [(.int (0 : Int32))])) _
      exact kt
    · rw [if_neg c60_1] at kt
      refine XS.ifNo X0.here hx rfl (hb hby at_60) rfl ((if0 _ _).trans (feq c60_1).1) ?_
      show Steps p.tables e below (s₁.setTop (mkF m 63 #[.val (.long qa), .second, .val (.long q1), .second, .val (.long q2), .second, .val (.long q3), .second, .val (.int mm), .val (.long v0), .second, .val (.long v1), .second, .val (.long v2), .second, .val (.long v3), .second, .val (.int mi), .val (.int th), .unset, .unset, .unset, .unset, .unset] [])) _
      refine XS.iconst X0.here hx rfl (hb hby at_63) ?_
      show Steps p.tables e below (s₁.setTop (mkF m 64 #[.val (.long qa), .second, .val (.long q1), .second, .val (.long q2), .second, .val (.long q3), .second, .val (.int mm), .val (.long v0), .second, .val (.long v1), .second, .val (.long v2), .second, .val (.long v3), .second, .val (.int mi), .val (.int th), .unset, .unset, .unset, .unset, .unset] [(.int (1 : Int32))])) _
      refine XS.goto X0.here hx rfl (pc0 := 64) (pc' := 68) rfl (hb hby at_64) (by decide) (by decide) ?_
      show Steps p.tables e below (s₁.setTop (mkF m 68 #[.val (.long qa), .second, .val (.long q1), .second, .val (.long q2), .second, .val (.long q3), .second, .val (.int mm), .val (.long v0), .second, .val (.long v1), .second, .val (.long v2), .second, .val (.long v3), .second, .val (.int mi), .val (.int th), .unset, .unset, .unset, .unset, .unset] [(.int (1 : Int32))])) _
      exact kt)
  have pre15 : ∀ t, Steps p.tables e below (s₁.setTop (mkF m 70 #[.val (.long qa), .second, .val (.long q1), .second, .val (.long q2), .second, .val (.long q3), .second, .val (.int mm), .val (.long v0), .second, .val (.long v1), .second, .val (.long v2), .second, .val (.long v3), .second, .val (.int mi), .val (.int th), .val (.int (if (((mm.toUInt32 >>> ((8 : Int32) &&& 31).toUInt32).toInt32) &&& (1 : Int32)) = (0 : Int32) then (0 : Int32) else (1 : Int32))), .unset, .unset, .unset, .unset] [])) t → Steps p.tables e below (s₁.setTop (entryFrame m #[(.long qa), (.long q1), (.long q2), (.long q3), (.int mm)] maxLocals)) t := fun t kt => pre14 t (by
    refine XS.istore X0.here hx rfl (hb hby at_68) rfl (l' := #[.val (.long qa), .second, .val (.long q1), .second, .val (.long q2), .second, .val (.long q3), .second, .val (.int mm), .val (.long v0), .second, .val (.long v1), .second, .val (.long v2), .second, .val (.long v3), .second, .val (.int mi), .val (.int th), .val (.int (if (((mm.toUInt32 >>> ((8 : Int32) &&& 31).toUInt32).toInt32) &&& (1 : Int32)) = (0 : Int32) then (0 : Int32) else (1 : Int32))), .unset, .unset, .unset, .unset]) rfl ?_
    show Steps p.tables e below (s₁.setTop (mkF m 70 #[.val (.long qa), .second, .val (.long q1), .second, .val (.long q2), .second, .val (.long q3), .second, .val (.int mm), .val (.long v0), .second, .val (.long v1), .second, .val (.long v2), .second, .val (.long v3), .second, .val (.int mi), .val (.int th), .val (.int (if (((mm.toUInt32 >>> ((8 : Int32) &&& 31).toUInt32).toInt32) &&& (1 : Int32)) = (0 : Int32) then (0 : Int32) else (1 : Int32))), .unset, .unset, .unset, .unset] [])) _
    exact kt)
  obtain ⟨t1, ht1⟩ : ∃ z, z = (if (((mm.toUInt32 >>> ((8 : Int32) &&& 31).toUInt32).toInt32) &&& (1 : Int32)) = (0 : Int32) then (0 : Int32) else (1 : Int32)) := ⟨_, rfl⟩
  have pre16 : ∀ t, Steps p.tables e below (s₁.setTop (mkF m 70 #[.val (.long qa), .second, .val (.long q1), .second, .val (.long q2), .second, .val (.long q3), .second, .val (.int mm), .val (.long v0), .second, .val (.long v1), .second, .val (.long v2), .second, .val (.long v3), .second, .val (.int mi), .val (.int th), .val (.int t1), .unset, .unset, .unset, .unset] [])) t → Steps p.tables e below (s₁.setTop (entryFrame m #[(.long qa), (.long q1), (.long q2), (.long q3), (.int mm)] maxLocals)) t := by
    rw [ht1]; exact pre15
  have h01_t1 : t1 = 0 ∨ t1 = 1 := by rw [ht1]; split <;> simp
  have pre17 : ∀ t, Steps p.tables e below (s₁.setTop (mkF m 77 #[.val (.long qa), .second, .val (.long q1), .second, .val (.long q2), .second, .val (.long q3), .second, .val (.int mm), .val (.long v0), .second, .val (.long v1), .second, .val (.long v2), .second, .val (.long v3), .second, .val (.int mi), .val (.int th), .val (.int t1), .unset, .unset, .unset, .unset] [(.int (((mm.toUInt32 >>> ((9 : Int32) &&& 31).toUInt32).toInt32) &&& (1 : Int32)))])) t → Steps p.tables e below (s₁.setTop (entryFrame m #[(.long qa), (.long q1), (.long q2), (.long q3), (.int mm)] maxLocals)) t := fun t kt => pre16 t (by
    refine XS.iload X0.here hx rfl (hb hby at_70) rfl ?_
    show Steps p.tables e below (s₁.setTop (mkF m 72 #[.val (.long qa), .second, .val (.long q1), .second, .val (.long q2), .second, .val (.long q3), .second, .val (.int mm), .val (.long v0), .second, .val (.long v1), .second, .val (.long v2), .second, .val (.long v3), .second, .val (.int mi), .val (.int th), .val (.int t1), .unset, .unset, .unset, .unset] [(.int mm)])) _
    refine XS.bipush X0.here hx rfl (hb hby at_72) ?_
    show Steps p.tables e below (s₁.setTop (mkF m 74 #[.val (.long qa), .second, .val (.long q1), .second, .val (.long q2), .second, .val (.long q3), .second, .val (.int mm), .val (.long v0), .second, .val (.long v1), .second, .val (.long v2), .second, .val (.long v3), .second, .val (.int mi), .val (.int th), .val (.int t1), .unset, .unset, .unset, .unset] [(.int (9 : Int32)), (.int mm)])) _
    refine XS.iushr X0.here hx rfl (hb hby at_74) rfl ?_
    show Steps p.tables e below (s₁.setTop (mkF m 75 #[.val (.long qa), .second, .val (.long q1), .second, .val (.long q2), .second, .val (.long q3), .second, .val (.int mm), .val (.long v0), .second, .val (.long v1), .second, .val (.long v2), .second, .val (.long v3), .second, .val (.int mi), .val (.int th), .val (.int t1), .unset, .unset, .unset, .unset] [(.int ((mm.toUInt32 >>> ((9 : Int32) &&& 31).toUInt32).toInt32))])) _
    refine XS.iconst X0.here hx rfl (hb hby at_75) ?_
    show Steps p.tables e below (s₁.setTop (mkF m 76 #[.val (.long qa), .second, .val (.long q1), .second, .val (.long q2), .second, .val (.long q3), .second, .val (.int mm), .val (.long v0), .second, .val (.long v1), .second, .val (.long v2), .second, .val (.long v3), .second, .val (.int mi), .val (.int th), .val (.int t1), .unset, .unset, .unset, .unset] [(.int (1 : Int32)), (.int ((mm.toUInt32 >>> ((9 : Int32) &&& 31).toUInt32).toInt32))])) _
    refine XS.iand X0.here hx rfl (hb hby at_76) rfl ?_
    show Steps p.tables e below (s₁.setTop (mkF m 77 #[.val (.long qa), .second, .val (.long q1), .second, .val (.long q2), .second, .val (.long q3), .second, .val (.int mm), .val (.long v0), .second, .val (.long v1), .second, .val (.long v2), .second, .val (.long v3), .second, .val (.int mi), .val (.int th), .val (.int t1), .unset, .unset, .unset, .unset] [(.int (((mm.toUInt32 >>> ((9 : Int32) &&& 31).toUInt32).toInt32) &&& (1 : Int32)))])) _
    exact kt)
  have pre18 : ∀ t, Steps p.tables e below (s₁.setTop (mkF m 85 #[.val (.long qa), .second, .val (.long q1), .second, .val (.long q2), .second, .val (.long q3), .second, .val (.int mm), .val (.long v0), .second, .val (.long v1), .second, .val (.long v2), .second, .val (.long v3), .second, .val (.int mi), .val (.int th), .val (.int t1), .unset, .unset, .unset, .unset] [(.int (if (((mm.toUInt32 >>> ((9 : Int32) &&& 31).toUInt32).toInt32) &&& (1 : Int32)) = (0 : Int32) then (0 : Int32) else (1 : Int32)))])) t → Steps p.tables e below (s₁.setTop (entryFrame m #[(.long qa), (.long q1), (.long q2), (.long q3), (.int mm)] maxLocals)) t := fun t kt => pre17 t (by
    by_cases c77_2 : (((mm.toUInt32 >>> ((9 : Int32) &&& 31).toUInt32).toInt32) &&& (1 : Int32)) = (0 : Int32)
    · rw [if_pos c77_2] at kt
      refine XS.ifYes X0.here hx rfl (pc0 := 77) (pc' := 84) rfl (hb hby at_77) rfl ((if0 _ _).trans (teq c77_2).1) (by decide) (by decide) ?_
      show Steps p.tables e below (s₁.setTop (mkF m 84 #[.val (.long qa), .second, .val (.long q1), .second, .val (.long q2), .second, .val (.long q3), .second, .val (.int mm), .val (.long v0), .second, .val (.long v1), .second, .val (.long v2), .second, .val (.long v3), .second, .val (.int mi), .val (.int th), .val (.int t1), .unset, .unset, .unset, .unset] [])) _
      refine XS.iconst X0.here hx rfl (hb hby at_84) ?_
      show Steps p.tables e below (s₁.setTop (mkF m 85 #[.val (.long qa), .second, .val (.long q1), .second, .val (.long q2), .second, .val (.long q3), .second, .val (.int mm), .val (.long v0), .second, .val (.long v1), .second, .val (.long v2), .second, .val (.long v3), .second, .val (.int mi), .val (.int th), .val (.int t1), .unset, .unset, .unset, .unset] [(.int (0 : Int32))])) _
      exact kt
    · rw [if_neg c77_2] at kt
      refine XS.ifNo X0.here hx rfl (hb hby at_77) rfl ((if0 _ _).trans (feq c77_2).1) ?_
      show Steps p.tables e below (s₁.setTop (mkF m 80 #[.val (.long qa), .second, .val (.long q1), .second, .val (.long q2), .second, .val (.long q3), .second, .val (.int mm), .val (.long v0), .second, .val (.long v1), .second, .val (.long v2), .second, .val (.long v3), .second, .val (.int mi), .val (.int th), .val (.int t1), .unset, .unset, .unset, .unset] [])) _
      refine XS.iconst X0.here hx rfl (hb hby at_80) ?_
      show Steps p.tables e below (s₁.setTop (mkF m 81 #[.val (.long qa), .second, .val (.long q1), .second, .val (.long q2), .second, .val (.long q3), .second, .val (.int mm), .val (.long v0), .second, .val (.long v1), .second, .val (.long v2), .second, .val (.long v3), .second, .val (.int mi), .val (.int th), .val (.int t1), .unset, .unset, .unset, .unset] [(.int (1 : Int32))])) _
      refine XS.goto X0.here hx rfl (pc0 := 81) (pc' := 85) rfl (hb hby at_81) (by decide) (by decide) ?_
      show Steps p.tables e below (s₁.setTop (mkF m 85 #[.val (.long qa), .second, .val (.long q1), .second, .val (.long q2), .second, .val (.long q3), .second, .val (.int mm), .val (.long v0), .second, .val (.long v1), .second, .val (.long v2), .second, .val (.long v3), .second, .val (.int mi), .val (.int th), .val (.int t1), .unset, .unset, .unset, .unset] [(.int (1 : Int32))])) _
      exact kt)
  have pre19 : ∀ t, Steps p.tables e below (s₁.setTop (mkF m 87 #[.val (.long qa), .second, .val (.long q1), .second, .val (.long q2), .second, .val (.long q3), .second, .val (.int mm), .val (.long v0), .second, .val (.long v1), .second, .val (.long v2), .second, .val (.long v3), .second, .val (.int mi), .val (.int th), .val (.int t1), .val (.int (if (((mm.toUInt32 >>> ((9 : Int32) &&& 31).toUInt32).toInt32) &&& (1 : Int32)) = (0 : Int32) then (0 : Int32) else (1 : Int32))), .unset, .unset, .unset] [])) t → Steps p.tables e below (s₁.setTop (entryFrame m #[(.long qa), (.long q1), (.long q2), (.long q3), (.int mm)] maxLocals)) t := fun t kt => pre18 t (by
    refine XS.istore X0.here hx rfl (hb hby at_85) rfl (l' := #[.val (.long qa), .second, .val (.long q1), .second, .val (.long q2), .second, .val (.long q3), .second, .val (.int mm), .val (.long v0), .second, .val (.long v1), .second, .val (.long v2), .second, .val (.long v3), .second, .val (.int mi), .val (.int th), .val (.int t1), .val (.int (if (((mm.toUInt32 >>> ((9 : Int32) &&& 31).toUInt32).toInt32) &&& (1 : Int32)) = (0 : Int32) then (0 : Int32) else (1 : Int32))), .unset, .unset, .unset]) rfl ?_
    show Steps p.tables e below (s₁.setTop (mkF m 87 #[.val (.long qa), .second, .val (.long q1), .second, .val (.long q2), .second, .val (.long q3), .second, .val (.int mm), .val (.long v0), .second, .val (.long v1), .second, .val (.long v2), .second, .val (.long v3), .second, .val (.int mi), .val (.int th), .val (.int t1), .val (.int (if (((mm.toUInt32 >>> ((9 : Int32) &&& 31).toUInt32).toInt32) &&& (1 : Int32)) = (0 : Int32) then (0 : Int32) else (1 : Int32))), .unset, .unset, .unset] [])) _
    exact kt)
  obtain ⟨t2, ht2⟩ : ∃ z, z = (if (((mm.toUInt32 >>> ((9 : Int32) &&& 31).toUInt32).toInt32) &&& (1 : Int32)) = (0 : Int32) then (0 : Int32) else (1 : Int32)) := ⟨_, rfl⟩
  have pre20 : ∀ t, Steps p.tables e below (s₁.setTop (mkF m 87 #[.val (.long qa), .second, .val (.long q1), .second, .val (.long q2), .second, .val (.long q3), .second, .val (.int mm), .val (.long v0), .second, .val (.long v1), .second, .val (.long v2), .second, .val (.long v3), .second, .val (.int mi), .val (.int th), .val (.int t1), .val (.int t2), .unset, .unset, .unset] [])) t → Steps p.tables e below (s₁.setTop (entryFrame m #[(.long qa), (.long q1), (.long q2), (.long q3), (.int mm)] maxLocals)) t := by
    rw [ht2]; exact pre19
  have h01_t2 : t2 = 0 ∨ t2 = 1 := by rw [ht2]; split <;> simp
  obtain ⟨T21, h21, X21, e21, E21, A21, D21, -, st21⟩ := newO X0 hx hZ hown (hw _ (List.mem_of_getElem? (i := 0) rfl)) (hw _ (List.mem_of_getElem? (i := 1) rfl)) (hw _ (List.mem_of_getElem? (i := 2) rfl)) e0 (g := (mkF m 87 #[.val (.long qa), .second, .val (.long q1), .second, .val (.long q2), .second, .val (.long q3), .second, .val (.int mm), .val (.long v0), .second, .val (.long v1), .second, .val (.long v2), .second, .val (.long v3), .second, .val (.int mi), .val (.int th), .val (.int t1), .val (.int t2), .unset, .unset, .unset] [])) rfl (hb hby at_87) (by decide) (by decide)
  obtain ⟨b21, g21⟩ : ∃ z, z = h0.size := ⟨_, rfl⟩
  rw [← g21] at A21 D21 st21
  have gz22 : n0 ≤ b21 := Nat.le_trans Z0 (Nat.le_of_eq g21.symm)
  have Zf23 : n0 ≤ h21.size := Nat.le_trans Z0 E21.1
  have F21_top : Fld Z h21 b21 "com/example/nest3/nest3/Determinization$Subset" "top" "Z" (.int (0 : Int32)) := D21 (Or.inr (hw _ (List.mem_of_getElem? (i := 20) rfl))) (ty := .boolean) (by decide)
  have F21_pairs : Fld Z h21 b21 "com/example/nest3/nest3/Determinization$Subset" "pairs" "[J" .null := D21 (Or.inr (hw _ (List.mem_of_getElem? (i := 22) rfl))) (ty := (.array .long)) (by decide)
  have pre24 : ∀ t, Steps p.tables e below (T21.setTop (mkF m 90 #[.val (.long qa), .second, .val (.long q1), .second, .val (.long q2), .second, .val (.long q3), .second, .val (.int mm), .val (.long v0), .second, .val (.long v1), .second, .val (.long v2), .second, .val (.long v3), .second, .val (.int mi), .val (.int th), .val (.int t1), .val (.int t2), .unset, .unset, .unset] [(.ref b21)])) t → Steps p.tables e below (s₁.setTop (entryFrame m #[(.long qa), (.long q1), (.long q2), (.long q3), (.int mm)] maxLocals)) t := fun t kt => pre20 t (st21 _ kt)
  have pre25 : ∀ t, Steps p.tables e below (T21.setTop (mkF m 103 #[.val (.long qa), .second, .val (.long q1), .second, .val (.long q2), .second, .val (.long q3), .second, .val (.int mm), .val (.long v0), .second, .val (.long v1), .second, .val (.long v2), .second, .val (.long v3), .second, .val (.int mi), .val (.int th), .val (.int t1), .val (.int t2), .unset, .unset, .unset] [(.long v3), (.long v2), (.long v1), (.long v0), (.int mi), (.int t1), (.ref b21), (.ref b21)])) t → Steps p.tables e below (s₁.setTop (entryFrame m #[(.long qa), (.long q1), (.long q2), (.long q3), (.int mm)] maxLocals)) t := fun t kt => pre24 t (by
    refine XS.dup X21.here hx rfl (hb hby at_90) rfl rfl ?_
    show Steps p.tables e below (T21.setTop (mkF m 91 #[.val (.long qa), .second, .val (.long q1), .second, .val (.long q2), .second, .val (.long q3), .second, .val (.int mm), .val (.long v0), .second, .val (.long v1), .second, .val (.long v2), .second, .val (.long v3), .second, .val (.int mi), .val (.int th), .val (.int t1), .val (.int t2), .unset, .unset, .unset] [(.ref b21), (.ref b21)])) _
    refine XS.iload X21.here hx rfl (hb hby at_91) rfl ?_
    show Steps p.tables e below (T21.setTop (mkF m 93 #[.val (.long qa), .second, .val (.long q1), .second, .val (.long q2), .second, .val (.long q3), .second, .val (.int mm), .val (.long v0), .second, .val (.long v1), .second, .val (.long v2), .second, .val (.long v3), .second, .val (.int mi), .val (.int th), .val (.int t1), .val (.int t2), .unset, .unset, .unset] [(.int t1), (.ref b21), (.ref b21)])) _
    refine XS.iload X21.here hx rfl (hb hby at_93) rfl ?_
    show Steps p.tables e below (T21.setTop (mkF m 95 #[.val (.long qa), .second, .val (.long q1), .second, .val (.long q2), .second, .val (.long q3), .second, .val (.int mm), .val (.long v0), .second, .val (.long v1), .second, .val (.long v2), .second, .val (.long v3), .second, .val (.int mi), .val (.int th), .val (.int t1), .val (.int t2), .unset, .unset, .unset] [(.int mi), (.int t1), (.ref b21), (.ref b21)])) _
    refine XS.lload X21.here hx rfl (hb hby at_95) rfl ?_
    show Steps p.tables e below (T21.setTop (mkF m 97 #[.val (.long qa), .second, .val (.long q1), .second, .val (.long q2), .second, .val (.long q3), .second, .val (.int mm), .val (.long v0), .second, .val (.long v1), .second, .val (.long v2), .second, .val (.long v3), .second, .val (.int mi), .val (.int th), .val (.int t1), .val (.int t2), .unset, .unset, .unset] [(.long v0), (.int mi), (.int t1), (.ref b21), (.ref b21)])) _
    refine XS.lload X21.here hx rfl (hb hby at_97) rfl ?_
    show Steps p.tables e below (T21.setTop (mkF m 99 #[.val (.long qa), .second, .val (.long q1), .second, .val (.long q2), .second, .val (.long q3), .second, .val (.int mm), .val (.long v0), .second, .val (.long v1), .second, .val (.long v2), .second, .val (.long v3), .second, .val (.int mi), .val (.int th), .val (.int t1), .val (.int t2), .unset, .unset, .unset] [(.long v1), (.long v0), (.int mi), (.int t1), (.ref b21), (.ref b21)])) _
    refine XS.lload X21.here hx rfl (hb hby at_99) rfl ?_
    show Steps p.tables e below (T21.setTop (mkF m 101 #[.val (.long qa), .second, .val (.long q1), .second, .val (.long q2), .second, .val (.long q3), .second, .val (.int mm), .val (.long v0), .second, .val (.long v1), .second, .val (.long v2), .second, .val (.long v3), .second, .val (.int mi), .val (.int th), .val (.int t1), .val (.int t2), .unset, .unset, .unset] [(.long v2), (.long v1), (.long v0), (.int mi), (.int t1), (.ref b21), (.ref b21)])) _
    refine XS.lload X21.here hx rfl (hb hby at_101) rfl ?_
    show Steps p.tables e below (T21.setTop (mkF m 103 #[.val (.long qa), .second, .val (.long q1), .second, .val (.long q2), .second, .val (.long q3), .second, .val (.int mm), .val (.long v0), .second, .val (.long v1), .second, .val (.long v2), .second, .val (.long v3), .second, .val (.int mi), .val (.int th), .val (.int t1), .val (.int t2), .unset, .unset, .unset] [(.long v3), (.long v2), (.long v1), (.long v0), (.int mi), (.int t1), (.ref b21), (.ref b21)])) _
    exact kt)
  obtain ⟨_, _, ⟨T26, L26, k26, n26⟩, -, X26, ⟨Lc26, hQ26, l26, y26, z26⟩, st26⟩ := Jvm.LawKit.callS X21 hx (y := (⟨"com/example/nest3/nest3/SubsetWithinPinLaw", "pick", "(IJJJJ)[J"⟩ : MethodName)) hown (mvT hZ (hw _ (List.mem_of_getElem? (i := 3) rfl))) (mvT hZ (hw _ (List.mem_of_getElem? (i := 4) rfl))) (mvT hZ (hw _ (List.mem_of_getElem? (i := 5) rfl))) (mvT hZ (hw _ (List.mem_of_getElem? (i := 6) rfl))) (by decide) (backOf (W := 3) (rmP l Z a0 hw [] mi v0 v1 v2 v3 M_mi.val h21 n0 Zf23 M_mi.isLt hM_mi) hZ (hw _ (List.mem_of_getElem? (i := 6) rfl)) (hw _ (List.mem_of_getElem? (i := 5) rfl)) (by decide) (by decide)) (g := (mkF m 103 #[.val (.long qa), .second, .val (.long q1), .second, .val (.long q2), .second, .val (.long q3), .second, .val (.int mm), .val (.long v0), .second, .val (.long v1), .second, .val (.long v2), .second, .val (.long v3), .second, .val (.int mi), .val (.int th), .val (.int t1), .val (.int t2), .unset, .unset, .unset] [(.long v3), (.long v2), (.long v1), (.long v0), (.int mi), (.int t1), (.ref b21), (.ref b21)])) rfl (by rw [hml]; rfl) (argsL := [(.int mi), (.long v0), (.long v1), (.long v2), (.long v3)]) (rest := [(.int t1), (.ref b21), (.ref b21)]) (lenOf pd__28IJJJJ_29_5bJ rfl) rfl (by show 2 * 0 + _ ≤ _; exact Nat.le_of_eq rfl) (hb hby at_103) (fun _ _ => ⟨rfl, e21, (by decide : 1 + 1 ≤ _), (by decide : 2 + 4 ≤ _)⟩)
  dsimp only [Pt.U, Pt.locs, Pt.cells, Pt.slots] at X26 l26 y26 z26 st26 hQ26
  subst l26 y26 z26
  obtain ⟨r26, rfl, N26q, K26, gp26, sp26, Vp26⟩ := hQ26
  have N26 := Fr.app N0 N26q
  have ne27 : b21 ≠ r26 := Nat.ne_of_lt (Nat.lt_of_lt_of_le (A21).lt sp26)
  have f28 := (A21).keep K26
  have f29 := (F21_top).keep K26 own_notin0
  have f30 := (F21_pairs).keep K26 own_notin0
  have Zf31 : n0 ≤ T26.heap.size := Nat.le_trans Zf23 (K26).1
  have pre32 : ∀ t, Steps p.tables e below (T26.setTop (mkF m 106 #[.val (.long qa), .second, .val (.long q1), .second, .val (.long q2), .second, .val (.long q3), .second, .val (.int mm), .val (.long v0), .second, .val (.long v1), .second, .val (.long v2), .second, .val (.long v3), .second, .val (.int mi), .val (.int th), .val (.int t1), .val (.int t2), .unset, .unset, .unset] [(.ref r26), (.int t1), (.ref b21), (.ref b21)])) t → Steps p.tables e below (s₁.setTop (entryFrame m #[(.long qa), (.long q1), (.long q2), (.long q3), (.int mm)] maxLocals)) t := fun t kt => pre25 t (st26 _ kt)
  obtain ⟨_, _, ⟨T33, L33, k33, n33⟩, -, X33, ⟨Lc33, hQ33, l33, y33, z33⟩, st33⟩ := X26.specialBack hx (y := (⟨"com/example/nest3/nest3/Determinization$Subset", "<init>", "(Z[J)V"⟩ : MethodName)) rfl hown (mvT hZ (hw _ (List.mem_of_getElem? (i := 8) rfl))) (mvT hZ (hw _ (List.mem_of_getElem? (i := 9) rfl))) (mvT hZ (hw _ (List.mem_of_getElem? (i := 10) rfl))) (by decide) (backOf (W := 1) (rmI l Z a0 hw [] b21 t1 r26 _ _ T26.heap n0 Zf31 f28 gz22 f29 f30 h01_t1) hZ (hw _ (List.mem_of_getElem? (i := 10) rfl)) (hw _ (List.mem_of_getElem? (i := 2) rfl)) (by decide) (by decide)) (g := (mkF m 106 #[.val (.long qa), .second, .val (.long q1), .second, .val (.long q2), .second, .val (.long q3), .second, .val (.int mm), .val (.long v0), .second, .val (.long v1), .second, .val (.long v2), .second, .val (.long v3), .second, .val (.int mi), .val (.int th), .val (.int t1), .val (.int t2), .unset, .unset, .unset] [(.ref r26), (.int t1), (.ref b21), (.ref b21)])) rfl (by rw [hml]; rfl) (Steps.refl _) (a := b21) (argsL := [(.int t1), (.ref r26)]) (rest := [(.ref b21)]) (lenOf pd__28Z_5bJ_29V rfl) rfl (by show 2 * 0 + _ ≤ _; exact Nat.le_of_eq rfl) (hb hby at_106) (fun _ _ => ⟨rfl, rfl, (by decide : 2 + 0 ≤ _), (by decide : 6 + 0 ≤ _)⟩)
  dsimp only [Pt.U, Pt.locs, Pt.cells, Pt.slots] at X33 l33 y33 z33 st33 hQ33
  subst l33 y33 z33
  obtain ⟨rfl, N33q, K33, E33x, Ft33, Fp33⟩ := hQ33
  have N33 := Fr.app N26 N33q
  have f34 := (f28).keep K33
  have f35 := (Vp26).keep K33 (own_notin1 (Ne.symm ne27))
  have Zf36 : n0 ≤ T33.heap.size := Nat.le_trans Zf31 (K33).1
  have pre37 : ∀ t, Steps p.tables e below (T33.setTop (mkF m 109 #[.val (.long qa), .second, .val (.long q1), .second, .val (.long q2), .second, .val (.long q3), .second, .val (.int mm), .val (.long v0), .second, .val (.long v1), .second, .val (.long v2), .second, .val (.long v3), .second, .val (.int mi), .val (.int th), .val (.int t1), .val (.int t2), .unset, .unset, .unset] [(.ref b21)])) t → Steps p.tables e below (s₁.setTop (entryFrame m #[(.long qa), (.long q1), (.long q2), (.long q3), (.int mm)] maxLocals)) t := fun t kt => pre32 t (st33.trans kt)
  have pre38 : ∀ t, Steps p.tables e below (T33.setTop (mkF m 111 #[.val (.long qa), .second, .val (.long q1), .second, .val (.long q2), .second, .val (.long q3), .second, .val (.int mm), .val (.long v0), .second, .val (.long v1), .second, .val (.long v2), .second, .val (.long v3), .second, .val (.int mi), .val (.int th), .val (.int t1), .val (.int t2), .val (.ref b21), .unset, .unset] [])) t → Steps p.tables e below (s₁.setTop (entryFrame m #[(.long qa), (.long q1), (.long q2), (.long q3), (.int mm)] maxLocals)) t := fun t kt => pre37 t (by
    refine XS.astore X33.here hx rfl (hb hby at_109) rfl rfl (l' := #[.val (.long qa), .second, .val (.long q1), .second, .val (.long q2), .second, .val (.long q3), .second, .val (.int mm), .val (.long v0), .second, .val (.long v1), .second, .val (.long v2), .second, .val (.long v3), .second, .val (.int mi), .val (.int th), .val (.int t1), .val (.int t2), .val (.ref b21), .unset, .unset]) rfl ?_
    show Steps p.tables e below (T33.setTop (mkF m 111 #[.val (.long qa), .second, .val (.long q1), .second, .val (.long q2), .second, .val (.long q3), .second, .val (.int mm), .val (.long v0), .second, .val (.long v1), .second, .val (.long v2), .second, .val (.long v3), .second, .val (.int mi), .val (.int th), .val (.int t1), .val (.int t2), .val (.ref b21), .unset, .unset] [])) _
    exact kt)
  obtain ⟨T39, h39, X39, e39, E39, A39, D39, -, st39⟩ := newO X33 hx hZ hown (hw _ (List.mem_of_getElem? (i := 0) rfl)) (hw _ (List.mem_of_getElem? (i := 1) rfl)) (hw _ (List.mem_of_getElem? (i := 2) rfl)) rfl (g := (mkF m 111 #[.val (.long qa), .second, .val (.long q1), .second, .val (.long q2), .second, .val (.long q3), .second, .val (.int mm), .val (.long v0), .second, .val (.long v1), .second, .val (.long v2), .second, .val (.long v3), .second, .val (.int mi), .val (.int th), .val (.int t1), .val (.int t2), .val (.ref b21), .unset, .unset] [])) rfl (hb hby at_111) (by decide) (by decide)
  obtain ⟨b39, g39⟩ : ∃ z, z = T33.heap.size := ⟨_, rfl⟩
  rw [← g39] at A39 D39 st39
  have ne40 : b21 ≠ b39 := Nat.ne_of_lt (Nat.lt_of_lt_of_le (f34).lt (Nat.le_of_eq g39.symm))
  have ne41 : r26 ≠ b39 := Nat.ne_of_lt (Nat.lt_of_lt_of_le (f35).lt (Nat.le_of_eq g39.symm))
  have gz42 : n0 ≤ b39 := Nat.le_trans Zf36 (Nat.le_of_eq g39.symm)
  have f43 := (f34).ext E39
  have f44 := (f35).ext E39
  have f45 := (Ft33).ext E39
  have f46 := (Fp33).ext E39
  have Zf47 : n0 ≤ h39.size := Nat.le_trans Zf36 E39.1
  have F39_top : Fld Z h39 b39 "com/example/nest3/nest3/Determinization$Subset" "top" "Z" (.int (0 : Int32)) := D39 (Or.inr (hw _ (List.mem_of_getElem? (i := 20) rfl))) (ty := .boolean) (by decide)
  have F39_pairs : Fld Z h39 b39 "com/example/nest3/nest3/Determinization$Subset" "pairs" "[J" .null := D39 (Or.inr (hw _ (List.mem_of_getElem? (i := 22) rfl))) (ty := (.array .long)) (by decide)
  have pre48 : ∀ t, Steps p.tables e below (T39.setTop (mkF m 114 #[.val (.long qa), .second, .val (.long q1), .second, .val (.long q2), .second, .val (.long q3), .second, .val (.int mm), .val (.long v0), .second, .val (.long v1), .second, .val (.long v2), .second, .val (.long v3), .second, .val (.int mi), .val (.int th), .val (.int t1), .val (.int t2), .val (.ref b21), .unset, .unset] [(.ref b39)])) t → Steps p.tables e below (s₁.setTop (entryFrame m #[(.long qa), (.long q1), (.long q2), (.long q3), (.int mm)] maxLocals)) t := fun t kt => pre38 t (st39 _ kt)
  have pre49 : ∀ t, Steps p.tables e below (T39.setTop (mkF m 127 #[.val (.long qa), .second, .val (.long q1), .second, .val (.long q2), .second, .val (.long q3), .second, .val (.int mm), .val (.long v0), .second, .val (.long v1), .second, .val (.long v2), .second, .val (.long v3), .second, .val (.int mi), .val (.int th), .val (.int t1), .val (.int t2), .val (.ref b21), .unset, .unset] [(.long v3), (.long v2), (.long v1), (.long v0), (.int th), (.int t2), (.ref b39), (.ref b39)])) t → Steps p.tables e below (s₁.setTop (entryFrame m #[(.long qa), (.long q1), (.long q2), (.long q3), (.int mm)] maxLocals)) t := fun t kt => pre48 t (by
    refine XS.dup X39.here hx rfl (hb hby at_114) rfl rfl ?_
    show Steps p.tables e below (T39.setTop (mkF m 115 #[.val (.long qa), .second, .val (.long q1), .second, .val (.long q2), .second, .val (.long q3), .second, .val (.int mm), .val (.long v0), .second, .val (.long v1), .second, .val (.long v2), .second, .val (.long v3), .second, .val (.int mi), .val (.int th), .val (.int t1), .val (.int t2), .val (.ref b21), .unset, .unset] [(.ref b39), (.ref b39)])) _
    refine XS.iload X39.here hx rfl (hb hby at_115) rfl ?_
    show Steps p.tables e below (T39.setTop (mkF m 117 #[.val (.long qa), .second, .val (.long q1), .second, .val (.long q2), .second, .val (.long q3), .second, .val (.int mm), .val (.long v0), .second, .val (.long v1), .second, .val (.long v2), .second, .val (.long v3), .second, .val (.int mi), .val (.int th), .val (.int t1), .val (.int t2), .val (.ref b21), .unset, .unset] [(.int t2), (.ref b39), (.ref b39)])) _
    refine XS.iload X39.here hx rfl (hb hby at_117) rfl ?_
    show Steps p.tables e below (T39.setTop (mkF m 119 #[.val (.long qa), .second, .val (.long q1), .second, .val (.long q2), .second, .val (.long q3), .second, .val (.int mm), .val (.long v0), .second, .val (.long v1), .second, .val (.long v2), .second, .val (.long v3), .second, .val (.int mi), .val (.int th), .val (.int t1), .val (.int t2), .val (.ref b21), .unset, .unset] [(.int th), (.int t2), (.ref b39), (.ref b39)])) _
    refine XS.lload X39.here hx rfl (hb hby at_119) rfl ?_
    show Steps p.tables e below (T39.setTop (mkF m 121 #[.val (.long qa), .second, .val (.long q1), .second, .val (.long q2), .second, .val (.long q3), .second, .val (.int mm), .val (.long v0), .second, .val (.long v1), .second, .val (.long v2), .second, .val (.long v3), .second, .val (.int mi), .val (.int th), .val (.int t1), .val (.int t2), .val (.ref b21), .unset, .unset] [(.long v0), (.int th), (.int t2), (.ref b39), (.ref b39)])) _
    refine XS.lload X39.here hx rfl (hb hby at_121) rfl ?_
    show Steps p.tables e below (T39.setTop (mkF m 123 #[.val (.long qa), .second, .val (.long q1), .second, .val (.long q2), .second, .val (.long q3), .second, .val (.int mm), .val (.long v0), .second, .val (.long v1), .second, .val (.long v2), .second, .val (.long v3), .second, .val (.int mi), .val (.int th), .val (.int t1), .val (.int t2), .val (.ref b21), .unset, .unset] [(.long v1), (.long v0), (.int th), (.int t2), (.ref b39), (.ref b39)])) _
    refine XS.lload X39.here hx rfl (hb hby at_123) rfl ?_
    show Steps p.tables e below (T39.setTop (mkF m 125 #[.val (.long qa), .second, .val (.long q1), .second, .val (.long q2), .second, .val (.long q3), .second, .val (.int mm), .val (.long v0), .second, .val (.long v1), .second, .val (.long v2), .second, .val (.long v3), .second, .val (.int mi), .val (.int th), .val (.int t1), .val (.int t2), .val (.ref b21), .unset, .unset] [(.long v2), (.long v1), (.long v0), (.int th), (.int t2), (.ref b39), (.ref b39)])) _
    refine XS.lload X39.here hx rfl (hb hby at_125) rfl ?_
    show Steps p.tables e below (T39.setTop (mkF m 127 #[.val (.long qa), .second, .val (.long q1), .second, .val (.long q2), .second, .val (.long q3), .second, .val (.int mm), .val (.long v0), .second, .val (.long v1), .second, .val (.long v2), .second, .val (.long v3), .second, .val (.int mi), .val (.int th), .val (.int t1), .val (.int t2), .val (.ref b21), .unset, .unset] [(.long v3), (.long v2), (.long v1), (.long v0), (.int th), (.int t2), (.ref b39), (.ref b39)])) _
    exact kt)
  obtain ⟨_, _, ⟨T50, L50, k50, n50⟩, -, X50, ⟨Lc50, hQ50, l50, y50, z50⟩, st50⟩ := Jvm.LawKit.callS X39 hx (y := (⟨"com/example/nest3/nest3/SubsetWithinPinLaw", "pick", "(IJJJJ)[J"⟩ : MethodName)) hown (mvT hZ (hw _ (List.mem_of_getElem? (i := 3) rfl))) (mvT hZ (hw _ (List.mem_of_getElem? (i := 4) rfl))) (mvT hZ (hw _ (List.mem_of_getElem? (i := 5) rfl))) (mvT hZ (hw _ (List.mem_of_getElem? (i := 6) rfl))) (by decide) (backOf (W := 3) (rmP l Z a0 hw [] th v0 v1 v2 v3 M_th.val h39 n0 Zf47 M_th.isLt hM_th) hZ (hw _ (List.mem_of_getElem? (i := 6) rfl)) (hw _ (List.mem_of_getElem? (i := 5) rfl)) (by decide) (by decide)) (g := (mkF m 127 #[.val (.long qa), .second, .val (.long q1), .second, .val (.long q2), .second, .val (.long q3), .second, .val (.int mm), .val (.long v0), .second, .val (.long v1), .second, .val (.long v2), .second, .val (.long v3), .second, .val (.int mi), .val (.int th), .val (.int t1), .val (.int t2), .val (.ref b21), .unset, .unset] [(.long v3), (.long v2), (.long v1), (.long v0), (.int th), (.int t2), (.ref b39), (.ref b39)])) rfl (by rw [hml]; rfl) (argsL := [(.int th), (.long v0), (.long v1), (.long v2), (.long v3)]) (rest := [(.int t2), (.ref b39), (.ref b39)]) (lenOf pd__28IJJJJ_29_5bJ rfl) rfl (by show 2 * 0 + _ ≤ _; exact Nat.le_of_eq rfl) (hb hby at_127) (fun _ _ => ⟨rfl, e39, (by decide : 3 + 1 ≤ _), (by decide : 8 + 4 ≤ _)⟩)
  dsimp only [Pt.U, Pt.locs, Pt.cells, Pt.slots] at X50 l50 y50 z50 st50 hQ50
  subst l50 y50 z50
  obtain ⟨r50, rfl, N50q, K50, gp50, sp50, Vp50⟩ := hQ50
  have N50 := Fr.app N33 N50q
  have ne51 : b21 ≠ r50 := Nat.ne_of_lt (Nat.lt_of_lt_of_le (f43).lt sp50)
  have ne52 : b39 ≠ r50 := Nat.ne_of_lt (Nat.lt_of_lt_of_le (A39).lt sp50)
  have ne53 : r26 ≠ r50 := Nat.ne_of_lt (Nat.lt_of_lt_of_le (f44).lt sp50)
  have f54 := (f43).keep K50
  have f55 := (f44).keep K50 own_notin0
  have f56 := (f45).keep K50 own_notin0
  have f57 := (f46).keep K50 own_notin0
  have f58 := (A39).keep K50
  have f59 := (F39_top).keep K50 own_notin0
  have f60 := (F39_pairs).keep K50 own_notin0
  have Zf61 : n0 ≤ T50.heap.size := Nat.le_trans Zf47 (K50).1
  have pre62 : ∀ t, Steps p.tables e below (T50.setTop (mkF m 130 #[.val (.long qa), .second, .val (.long q1), .second, .val (.long q2), .second, .val (.long q3), .second, .val (.int mm), .val (.long v0), .second, .val (.long v1), .second, .val (.long v2), .second, .val (.long v3), .second, .val (.int mi), .val (.int th), .val (.int t1), .val (.int t2), .val (.ref b21), .unset, .unset] [(.ref r50), (.int t2), (.ref b39), (.ref b39)])) t → Steps p.tables e below (s₁.setTop (entryFrame m #[(.long qa), (.long q1), (.long q2), (.long q3), (.int mm)] maxLocals)) t := fun t kt => pre49 t (st50 _ kt)
  obtain ⟨_, _, ⟨T63, L63, k63, n63⟩, -, X63, ⟨Lc63, hQ63, l63, y63, z63⟩, st63⟩ := X50.specialBack hx (y := (⟨"com/example/nest3/nest3/Determinization$Subset", "<init>", "(Z[J)V"⟩ : MethodName)) rfl hown (mvT hZ (hw _ (List.mem_of_getElem? (i := 8) rfl))) (mvT hZ (hw _ (List.mem_of_getElem? (i := 9) rfl))) (mvT hZ (hw _ (List.mem_of_getElem? (i := 10) rfl))) (by decide) (backOf (W := 1) (rmI l Z a0 hw [] b39 t2 r50 _ _ T50.heap n0 Zf61 f58 gz42 f59 f60 h01_t2) hZ (hw _ (List.mem_of_getElem? (i := 10) rfl)) (hw _ (List.mem_of_getElem? (i := 2) rfl)) (by decide) (by decide)) (g := (mkF m 130 #[.val (.long qa), .second, .val (.long q1), .second, .val (.long q2), .second, .val (.long q3), .second, .val (.int mm), .val (.long v0), .second, .val (.long v1), .second, .val (.long v2), .second, .val (.long v3), .second, .val (.int mi), .val (.int th), .val (.int t1), .val (.int t2), .val (.ref b21), .unset, .unset] [(.ref r50), (.int t2), (.ref b39), (.ref b39)])) rfl (by rw [hml]; rfl) (Steps.refl _) (a := b39) (argsL := [(.int t2), (.ref r50)]) (rest := [(.ref b39)]) (lenOf pd__28Z_5bJ_29V rfl) rfl (by show 2 * 0 + _ ≤ _; exact Nat.le_of_eq rfl) (hb hby at_130) (fun _ _ => ⟨rfl, rfl, (by decide : 4 + 0 ≤ _), (by decide : 12 + 0 ≤ _)⟩)
  dsimp only [Pt.U, Pt.locs, Pt.cells, Pt.slots] at X63 l63 y63 z63 st63 hQ63
  subst l63 y63 z63
  obtain ⟨rfl, N63q, K63, E63x, Ft63, Fp63⟩ := hQ63
  have N63 := Fr.app N50 N63q
  have f64 := (f54).keep K63
  have f65 := (f55).keep K63 (own_notin1 ne41)
  have f66 := (f56).keep K63 (own_notin1 ne40)
  have f67 := (f57).keep K63 (own_notin1 ne40)
  have f68 := (f58).keep K63
  have f69 := (Vp50).keep K63 (own_notin1 (Ne.symm ne52))
  have Zf70 : n0 ≤ T63.heap.size := Nat.le_trans Zf61 (K63).1
  have pre71 : ∀ t, Steps p.tables e below (T63.setTop (mkF m 133 #[.val (.long qa), .second, .val (.long q1), .second, .val (.long q2), .second, .val (.long q3), .second, .val (.int mm), .val (.long v0), .second, .val (.long v1), .second, .val (.long v2), .second, .val (.long v3), .second, .val (.int mi), .val (.int th), .val (.int t1), .val (.int t2), .val (.ref b21), .unset, .unset] [(.ref b39)])) t → Steps p.tables e below (s₁.setTop (entryFrame m #[(.long qa), (.long q1), (.long q2), (.long q3), (.int mm)] maxLocals)) t := fun t kt => pre62 t (st63.trans kt)
  have pre72 : ∀ t, Steps p.tables e below (T63.setTop (mkF m 139 #[.val (.long qa), .second, .val (.long q1), .second, .val (.long q2), .second, .val (.long q3), .second, .val (.int mm), .val (.long v0), .second, .val (.long v1), .second, .val (.long v2), .second, .val (.long v3), .second, .val (.int mi), .val (.int th), .val (.int t1), .val (.int t2), .val (.ref b21), .val (.ref b39), .unset] [(.int t2), (.int t1)])) t → Steps p.tables e below (s₁.setTop (entryFrame m #[(.long qa), (.long q1), (.long q2), (.long q3), (.int mm)] maxLocals)) t := fun t kt => pre71 t (by
    refine XS.astore X63.here hx rfl (hb hby at_133) rfl rfl (l' := #[.val (.long qa), .second, .val (.long q1), .second, .val (.long q2), .second, .val (.long q3), .second, .val (.int mm), .val (.long v0), .second, .val (.long v1), .second, .val (.long v2), .second, .val (.long v3), .second, .val (.int mi), .val (.int th), .val (.int t1), .val (.int t2), .val (.ref b21), .val (.ref b39), .unset]) rfl ?_
    show Steps p.tables e below (T63.setTop (mkF m 135 #[.val (.long qa), .second, .val (.long q1), .second, .val (.long q2), .second, .val (.long q3), .second, .val (.int mm), .val (.long v0), .second, .val (.long v1), .second, .val (.long v2), .second, .val (.long v3), .second, .val (.int mi), .val (.int th), .val (.int t1), .val (.int t2), .val (.ref b21), .val (.ref b39), .unset] [])) _
    refine XS.iload X63.here hx rfl (hb hby at_135) rfl ?_
    show Steps p.tables e below (T63.setTop (mkF m 137 #[.val (.long qa), .second, .val (.long q1), .second, .val (.long q2), .second, .val (.long q3), .second, .val (.int mm), .val (.long v0), .second, .val (.long v1), .second, .val (.long v2), .second, .val (.long v3), .second, .val (.int mi), .val (.int th), .val (.int t1), .val (.int t2), .val (.ref b21), .val (.ref b39), .unset] [(.int t1)])) _
    refine XS.iload X63.here hx rfl (hb hby at_137) rfl ?_
    show Steps p.tables e below (T63.setTop (mkF m 139 #[.val (.long qa), .second, .val (.long q1), .second, .val (.long q2), .second, .val (.long q3), .second, .val (.int mm), .val (.long v0), .second, .val (.long v1), .second, .val (.long v2), .second, .val (.long v3), .second, .val (.int mi), .val (.int th), .val (.int t1), .val (.int t2), .val (.ref b21), .val (.ref b39), .unset] [(.int t2), (.int t1)])) _
    exact kt)
  have pre73 : ∀ t, Steps p.tables e below (T63.setTop (mkF m 157 #[.val (.long qa), .second, .val (.long q1), .second, .val (.long q2), .second, .val (.long q3), .second, .val (.int mm), .val (.long v0), .second, .val (.long v1), .second, .val (.long v2), .second, .val (.long v3), .second, .val (.int mi), .val (.int th), .val (.int t1), .val (.int t2), .val (.ref b21), .val (.ref b39), .unset] [(.int (if t1 = t2 then (if (mi &&& (th ^^^ (-1 : Int32))) = (0 : Int32) then (1 : Int32) else (0 : Int32)) else (0 : Int32)))])) t → Steps p.tables e below (s₁.setTop (entryFrame m #[(.long qa), (.long q1), (.long q2), (.long q3), (.int mm)] maxLocals)) t := fun t kt => pre72 t (by
    by_cases c139_3 : t1 = t2
    · rw [if_pos c139_3] at kt
      refine XS.icmpNo X63.here hx rfl (hb hby at_139) rfl (teq c139_3).2 ?_
      show Steps p.tables e below (T63.setTop (mkF m 142 #[.val (.long qa), .second, .val (.long q1), .second, .val (.long q2), .second, .val (.long q3), .second, .val (.int mm), .val (.long v0), .second, .val (.long v1), .second, .val (.long v2), .second, .val (.long v3), .second, .val (.int mi), .val (.int th), .val (.int t1), .val (.int t2), .val (.ref b21), .val (.ref b39), .unset] [])) _
      refine XS.iload X63.here hx rfl (hb hby at_142) rfl ?_
      show Steps p.tables e below (T63.setTop (mkF m 144 #[.val (.long qa), .second, .val (.long q1), .second, .val (.long q2), .second, .val (.long q3), .second, .val (.int mm), .val (.long v0), .second, .val (.long v1), .second, .val (.long v2), .second, .val (.long v3), .second, .val (.int mi), .val (.int th), .val (.int t1), .val (.int t2), .val (.ref b21), .val (.ref b39), .unset] [(.int mi)])) _
      refine XS.iload X63.here hx rfl (hb hby at_144) rfl ?_
      show Steps p.tables e below (T63.setTop (mkF m 146 #[.val (.long qa), .second, .val (.long q1), .second, .val (.long q2), .second, .val (.long q3), .second, .val (.int mm), .val (.long v0), .second, .val (.long v1), .second, .val (.long v2), .second, .val (.long v3), .second, .val (.int mi), .val (.int th), .val (.int t1), .val (.int t2), .val (.ref b21), .val (.ref b39), .unset] [(.int th), (.int mi)])) _
      refine XS.iconst X63.here hx rfl (hb hby at_146) ?_
      show Steps p.tables e below (T63.setTop (mkF m 147 #[.val (.long qa), .second, .val (.long q1), .second, .val (.long q2), .second, .val (.long q3), .second, .val (.int mm), .val (.long v0), .second, .val (.long v1), .second, .val (.long v2), .second, .val (.long v3), .second, .val (.int mi), .val (.int th), .val (.int t1), .val (.int t2), .val (.ref b21), .val (.ref b39), .unset] [(.int (-1 : Int32)), (.int th), (.int mi)])) _
      refine XS.ixor X63.here hx rfl (hb hby at_147) rfl ?_
      show Steps p.tables e below (T63.setTop (mkF m 148 #[.val (.long qa), .second, .val (.long q1), .second, .val (.long q2), .second, .val (.long q3), .second, .val (.int mm), .val (.long v0), .second, .val (.long v1), .second, .val (.long v2), .second, .val (.long v3), .second, .val (.int mi), .val (.int th), .val (.int t1), .val (.int t2), .val (.ref b21), .val (.ref b39), .unset] [(.int (th ^^^ (-1 : Int32))), (.int mi)])) _
      refine XS.iand X63.here hx rfl (hb hby at_148) rfl ?_
      show Steps p.tables e below (T63.setTop (mkF m 149 #[.val (.long qa), .second, .val (.long q1), .second, .val (.long q2), .second, .val (.long q3), .second, .val (.int mm), .val (.long v0), .second, .val (.long v1), .second, .val (.long v2), .second, .val (.long v3), .second, .val (.int mi), .val (.int th), .val (.int t1), .val (.int t2), .val (.ref b21), .val (.ref b39), .unset] [(.int (mi &&& (th ^^^ (-1 : Int32))))])) _
      by_cases c149_4 : (mi &&& (th ^^^ (-1 : Int32))) = (0 : Int32)
      · rw [if_pos c149_4] at kt
        refine XS.ifNo X63.here hx rfl (hb hby at_149) rfl ((if0 _ _).trans (teq c149_4).2) ?_
        show Steps p.tables e below (T63.setTop (mkF m 152 #[.val (.long qa), .second, .val (.long q1), .second, .val (.long q2), .second, .val (.long q3), .second, .val (.int mm), .val (.long v0), .second, .val (.long v1), .second, .val (.long v2), .second, .val (.long v3), .second, .val (.int mi), .val (.int th), .val (.int t1), .val (.int t2), .val (.ref b21), .val (.ref b39), .unset] [])) _
        refine XS.iconst X63.here hx rfl (hb hby at_152) ?_
        show Steps p.tables e below (T63.setTop (mkF m 153 #[.val (.long qa), .second, .val (.long q1), .second, .val (.long q2), .second, .val (.long q3), .second, .val (.int mm), .val (.long v0), .second, .val (.long v1), .second, .val (.long v2), .second, .val (.long v3), .second, .val (.int mi), .val (.int th), .val (.int t1), .val (.int t2), .val (.ref b21), .val (.ref b39), .unset] [(.int (1 : Int32))])) _
        refine XS.goto X63.here hx rfl (pc0 := 153) (pc' := 157) rfl (hb hby at_153) (by decide) (by decide) ?_
        show Steps p.tables e below (T63.setTop (mkF m 157 #[.val (.long qa), .second, .val (.long q1), .second, .val (.long q2), .second, .val (.long q3), .second, .val (.int mm), .val (.long v0), .second, .val (.long v1), .second, .val (.long v2), .second, .val (.long v3), .second, .val (.int mi), .val (.int th), .val (.int t1), .val (.int t2), .val (.ref b21), .val (.ref b39), .unset] [(.int (1 : Int32))])) _
        exact kt
      · rw [if_neg c149_4] at kt
        refine XS.ifYes X63.here hx rfl (pc0 := 149) (pc' := 156) rfl (hb hby at_149) rfl ((if0 _ _).trans (feq c149_4).2) (by decide) (by decide) ?_
        show Steps p.tables e below (T63.setTop (mkF m 156 #[.val (.long qa), .second, .val (.long q1), .second, .val (.long q2), .second, .val (.long q3), .second, .val (.int mm), .val (.long v0), .second, .val (.long v1), .second, .val (.long v2), .second, .val (.long v3), .second, .val (.int mi), .val (.int th), .val (.int t1), .val (.int t2), .val (.ref b21), .val (.ref b39), .unset] [])) _
        refine XS.iconst X63.here hx rfl (hb hby at_156) ?_
        show Steps p.tables e below (T63.setTop (mkF m 157 #[.val (.long qa), .second, .val (.long q1), .second, .val (.long q2), .second, .val (.long q3), .second, .val (.int mm), .val (.long v0), .second, .val (.long v1), .second, .val (.long v2), .second, .val (.long v3), .second, .val (.int mi), .val (.int th), .val (.int t1), .val (.int t2), .val (.ref b21), .val (.ref b39), .unset] [(.int (0 : Int32))])) _
        exact kt
    · rw [if_neg c139_3] at kt
      refine XS.icmpYes X63.here hx rfl (pc0 := 139) (pc' := 156) rfl (hb hby at_139) rfl (feq c139_3).2 (by decide) (by decide) ?_
      show Steps p.tables e below (T63.setTop (mkF m 156 #[.val (.long qa), .second, .val (.long q1), .second, .val (.long q2), .second, .val (.long q3), .second, .val (.int mm), .val (.long v0), .second, .val (.long v1), .second, .val (.long v2), .second, .val (.long v3), .second, .val (.int mi), .val (.int th), .val (.int t1), .val (.int t2), .val (.ref b21), .val (.ref b39), .unset] [])) _
      refine XS.iconst X63.here hx rfl (hb hby at_156) ?_
      show Steps p.tables e below (T63.setTop (mkF m 157 #[.val (.long qa), .second, .val (.long q1), .second, .val (.long q2), .second, .val (.long q3), .second, .val (.int mm), .val (.long v0), .second, .val (.long v1), .second, .val (.long v2), .second, .val (.long v3), .second, .val (.int mi), .val (.int th), .val (.int t1), .val (.int t2), .val (.ref b21), .val (.ref b39), .unset] [(.int (0 : Int32))])) _
      exact kt)
  have pre74 : ∀ t, Steps p.tables e below (T63.setTop (mkF m 163 #[.val (.long qa), .second, .val (.long q1), .second, .val (.long q2), .second, .val (.long q3), .second, .val (.int mm), .val (.long v0), .second, .val (.long v1), .second, .val (.long v2), .second, .val (.long v3), .second, .val (.int mi), .val (.int th), .val (.int t1), .val (.int t2), .val (.ref b21), .val (.ref b39), .val (.int (if t1 = t2 then (if (mi &&& (th ^^^ (-1 : Int32))) = (0 : Int32) then (1 : Int32) else (0 : Int32)) else (0 : Int32)))] [(.ref b39), (.ref b21)])) t → Steps p.tables e below (s₁.setTop (entryFrame m #[(.long qa), (.long q1), (.long q2), (.long q3), (.int mm)] maxLocals)) t := fun t kt => pre73 t (by
    refine XS.istore X63.here hx rfl (hb hby at_157) rfl (l' := #[.val (.long qa), .second, .val (.long q1), .second, .val (.long q2), .second, .val (.long q3), .second, .val (.int mm), .val (.long v0), .second, .val (.long v1), .second, .val (.long v2), .second, .val (.long v3), .second, .val (.int mi), .val (.int th), .val (.int t1), .val (.int t2), .val (.ref b21), .val (.ref b39), .val (.int (if t1 = t2 then (if (mi &&& (th ^^^ (-1 : Int32))) = (0 : Int32) then (1 : Int32) else (0 : Int32)) else (0 : Int32)))]) rfl ?_
    show Steps p.tables e below (T63.setTop (mkF m 159 #[.val (.long qa), .second, .val (.long q1), .second, .val (.long q2), .second, .val (.long q3), .second, .val (.int mm), .val (.long v0), .second, .val (.long v1), .second, .val (.long v2), .second, .val (.long v3), .second, .val (.int mi), .val (.int th), .val (.int t1), .val (.int t2), .val (.ref b21), .val (.ref b39), .val (.int (if t1 = t2 then (if (mi &&& (th ^^^ (-1 : Int32))) = (0 : Int32) then (1 : Int32) else (0 : Int32)) else (0 : Int32)))] [])) _
    refine XS.aload X63.here hx rfl (hb hby at_159) rfl rfl ?_
    show Steps p.tables e below (T63.setTop (mkF m 161 #[.val (.long qa), .second, .val (.long q1), .second, .val (.long q2), .second, .val (.long q3), .second, .val (.int mm), .val (.long v0), .second, .val (.long v1), .second, .val (.long v2), .second, .val (.long v3), .second, .val (.int mi), .val (.int th), .val (.int t1), .val (.int t2), .val (.ref b21), .val (.ref b39), .val (.int (if t1 = t2 then (if (mi &&& (th ^^^ (-1 : Int32))) = (0 : Int32) then (1 : Int32) else (0 : Int32)) else (0 : Int32)))] [(.ref b21)])) _
    refine XS.aload X63.here hx rfl (hb hby at_161) rfl rfl ?_
    show Steps p.tables e below (T63.setTop (mkF m 163 #[.val (.long qa), .second, .val (.long q1), .second, .val (.long q2), .second, .val (.long q3), .second, .val (.int mm), .val (.long v0), .second, .val (.long v1), .second, .val (.long v2), .second, .val (.long v3), .second, .val (.int mi), .val (.int th), .val (.int t1), .val (.int t2), .val (.ref b21), .val (.ref b39), .val (.int (if t1 = t2 then (if (mi &&& (th ^^^ (-1 : Int32))) = (0 : Int32) then (1 : Int32) else (0 : Int32)) else (0 : Int32)))] [(.ref b39), (.ref b21)])) _
    exact kt)
  obtain ⟨cq75, kq75, q75a, q75b, q75c⟩ := isOf hZ rfl (f64)
  obtain ⟨_, _, ⟨T75, L75, k75, n75⟩, -, X75, ⟨Lc75, hQ75, l75, y75, z75⟩, st75⟩ := X63.virtualBack hx (y := (⟨"com/example/nest3/nest3/Determinization$Subset", "within", "(Lcom/example/nest3/nest3/Determinization$Subset;)Z"⟩ : MethodName)) (z := (⟨"com/example/nest3/nest3/Determinization$Subset", "within", "(Lcom/example/nest3/nest3/Determinization$Subset;)Z"⟩ : MethodName)) hown (mvT hZ (hw _ (List.mem_of_getElem? (i := 23) rfl))) (mvT hZ (hw _ (List.mem_of_getElem? (i := 24) rfl))) (notFace_of_selects (args := #[]) (mvT hZ (hw _ (List.mem_of_getElem? (i := 26) rfl)))) (mvT hZ (hw _ (List.mem_of_getElem? (i := 26) rfl))) (mvT hZ (hw _ (List.mem_of_getElem? (i := 25) rfl))) (by decide) (backOf (W := 0) (rmW l Z a0 hw [] b21 b39 r26 r50 t1 t2 ((pk M_mi.val).map (Vf v0 v1 v2 v3)) ((pk M_th.val).map (Vf v0 v1 v2 v3)) T63.heap n0 Zf70 f66 Ft63 f67 Fp63 f65 f69) hZ (hw _ (List.mem_of_getElem? (i := 27) rfl)) (hw _ (List.mem_of_getElem? (i := 2) rfl)) (by decide) (by decide)) q75a q75c (g := (mkF m 163 #[.val (.long qa), .second, .val (.long q1), .second, .val (.long q2), .second, .val (.long q3), .second, .val (.int mm), .val (.long v0), .second, .val (.long v1), .second, .val (.long v2), .second, .val (.long v3), .second, .val (.int mi), .val (.int th), .val (.int t1), .val (.int t2), .val (.ref b21), .val (.ref b39), .val (.int (if t1 = t2 then (if (mi &&& (th ^^^ (-1 : Int32))) = (0 : Int32) then (1 : Int32) else (0 : Int32)) else (0 : Int32)))] [(.ref b39), (.ref b21)])) rfl (by rw [hml]; rfl) (Steps.refl _) (argsL := [(.ref b39)]) (rest := []) (lenOf pd__28Lcom_2fexample_2fnest3_2fnest3_2fDeterminization_24Subset_3b_29Z rfl) rfl (by show 2 * 0 + _ ≤ _; exact Nat.le_of_eq rfl) (hb hby at_163) (fun _ _ => ⟨rfl, rfl, (by decide : 4 + 0 ≤ _), (by decide : 12 + 0 ≤ _)⟩)
  dsimp only [Pt.U, Pt.locs, Pt.cells, Pt.slots] at X75 l75 y75 z75 st75 hQ75
  subst l75 y75 z75
  obtain ⟨rfl, N75q, e75q⟩ := hQ75
  have N75 := Fr.app N63 N75q
  have pre76 : ∀ t, Steps p.tables e below (T75.setTop (mkF m 166 #[.val (.long qa), .second, .val (.long q1), .second, .val (.long q2), .second, .val (.long q3), .second, .val (.int mm), .val (.long v0), .second, .val (.long v1), .second, .val (.long v2), .second, .val (.long v3), .second, .val (.int mi), .val (.int th), .val (.int t1), .val (.int t2), .val (.ref b21), .val (.ref b39), .val (.int (if t1 = t2 then (if (mi &&& (th ^^^ (-1 : Int32))) = (0 : Int32) then (1 : Int32) else (0 : Int32)) else (0 : Int32)))] [(.int (b2i (wf ((pk M_mi.val).map (Vf v0 v1 v2 v3)) ((pk M_th.val).map (Vf v0 v1 v2 v3)) (decide (t1 = t2) && decide (((pk M_mi.val).map (Vf v0 v1 v2 v3)).length ≤ ((pk M_th.val).map (Vf v0 v1 v2 v3)).length)))))])) t → Steps p.tables e below (s₁.setTop (entryFrame m #[(.long qa), (.long q1), (.long q2), (.long q3), (.int mm)] maxLocals)) t := fun t kt => pre74 t (st75.trans kt)
  have pre77 : ∀ t, Steps p.tables e below (T75.setTop (mkF m 176 #[.val (.long qa), .second, .val (.long q1), .second, .val (.long q2), .second, .val (.long q3), .second, .val (.int mm), .val (.long v0), .second, .val (.long v1), .second, .val (.long v2), .second, .val (.long v3), .second, .val (.int mi), .val (.int th), .val (.int t1), .val (.int t2), .val (.ref b21), .val (.ref b39), .val (.int (if t1 = t2 then (if (mi &&& (th ^^^ (-1 : Int32))) = (0 : Int32) then (1 : Int32) else (0 : Int32)) else (0 : Int32)))] [(.int (1 : Int32))])) t → Steps p.tables e below (s₁.setTop (entryFrame m #[(.long qa), (.long q1), (.long q2), (.long q3), (.int mm)] maxLocals)) t := fun t kt => pre76 t (by
    refine XS.iload X75.here hx rfl (hb hby at_166) rfl ?_
    show Steps p.tables e below (T75.setTop (mkF m 168 #[.val (.long qa), .second, .val (.long q1), .second, .val (.long q2), .second, .val (.long q3), .second, .val (.int mm), .val (.long v0), .second, .val (.long v1), .second, .val (.long v2), .second, .val (.long v3), .second, .val (.int mi), .val (.int th), .val (.int t1), .val (.int t2), .val (.ref b21), .val (.ref b39), .val (.int (if t1 = t2 then (if (mi &&& (th ^^^ (-1 : Int32))) = (0 : Int32) then (1 : Int32) else (0 : Int32)) else (0 : Int32)))] [(.int (if t1 = t2 then (if (mi &&& (th ^^^ (-1 : Int32))) = (0 : Int32) then (1 : Int32) else (0 : Int32)) else (0 : Int32))), (.int (b2i (wf ((pk M_mi.val).map (Vf v0 v1 v2 v3)) ((pk M_th.val).map (Vf v0 v1 v2 v3)) (decide (t1 = t2) && decide (((pk M_mi.val).map (Vf v0 v1 v2 v3)).length ≤ ((pk M_th.val).map (Vf v0 v1 v2 v3)).length)))))])) _
    refine XS.icmpNo X75.here hx rfl (hb hby at_168) rfl (teq (by rw [hM_mi, hM_th]; exact own_fin v0 v1 v2 v3 B1.1 B2.1 B3.1 M_mi M_th t1 t2 : (b2i (wf ((pk M_mi.val).map (Vf v0 v1 v2 v3)) ((pk M_th.val).map (Vf v0 v1 v2 v3)) (decide (t1 = t2) && decide (((pk M_mi.val).map (Vf v0 v1 v2 v3)).length ≤ ((pk M_th.val).map (Vf v0 v1 v2 v3)).length)))) = (if t1 = t2 then (if (mi &&& (th ^^^ (-1 : Int32))) = (0 : Int32) then (1 : Int32) else (0 : Int32)) else (0 : Int32)))).2 ?_
    show Steps p.tables e below (T75.setTop (mkF m 171 #[.val (.long qa), .second, .val (.long q1), .second, .val (.long q2), .second, .val (.long q3), .second, .val (.int mm), .val (.long v0), .second, .val (.long v1), .second, .val (.long v2), .second, .val (.long v3), .second, .val (.int mi), .val (.int th), .val (.int t1), .val (.int t2), .val (.ref b21), .val (.ref b39), .val (.int (if t1 = t2 then (if (mi &&& (th ^^^ (-1 : Int32))) = (0 : Int32) then (1 : Int32) else (0 : Int32)) else (0 : Int32)))] [])) _
    refine XS.iconst X75.here hx rfl (hb hby at_171) ?_
    show Steps p.tables e below (T75.setTop (mkF m 172 #[.val (.long qa), .second, .val (.long q1), .second, .val (.long q2), .second, .val (.long q3), .second, .val (.int mm), .val (.long v0), .second, .val (.long v1), .second, .val (.long v2), .second, .val (.long v3), .second, .val (.int mi), .val (.int th), .val (.int t1), .val (.int t2), .val (.ref b21), .val (.ref b39), .val (.int (if t1 = t2 then (if (mi &&& (th ^^^ (-1 : Int32))) = (0 : Int32) then (1 : Int32) else (0 : Int32)) else (0 : Int32)))] [(.int (1 : Int32))])) _
    refine XS.goto X75.here hx rfl (pc0 := 172) (pc' := 176) rfl (hb hby at_172) (by decide) (by decide) ?_
    show Steps p.tables e below (T75.setTop (mkF m 176 #[.val (.long qa), .second, .val (.long q1), .second, .val (.long q2), .second, .val (.long q3), .second, .val (.int mm), .val (.long v0), .second, .val (.long v1), .second, .val (.long v2), .second, .val (.long v3), .second, .val (.int mi), .val (.int th), .val (.int t1), .val (.int t2), .val (.ref b21), .val (.ref b39), .val (.int (if t1 = t2 then (if (mi &&& (th ^^^ (-1 : Int32))) = (0 : Int32) then (1 : Int32) else (0 : Int32)) else (0 : Int32)))] [(.int (1 : Int32))])) _
    exact kt)
  obtain ⟨fs, hr, hrun, hended, hW, hsame⟩ := X75.leave (v := (some (.int (1 : Int32)))) (fun h => by rw [Bd.returns] at h; cases h)
  refine ⟨_, _, pre77 _ ?_, hrun, hended, _, _, rfl, ?_, ⟨_, rfl⟩, hW, hsame.mono (by decide) (by decide)⟩
  · exact retN X75 hx (t := .boolean) Bd.returns (by simp) (hb hby at_176) hr
  · show Q0 Z  h0 n0 _ T75.heap _
    rw [e75q]
    exact ⟨rfl, N75⟩
set_option maxRecDepth 65536 in
set_option maxHeartbeats 40000000 in
theorem comes_1 {Post : Tables → Env → Array Value → State → Outcome → State → Prop} (hpost : ∀ tb e args s v u, (limb_1_1.after args s (.returned v) u = true ∧ limb_1_2.after args s (.returned v) u = true ∧ True) → FrameEnd s (.returned v) u (Jvm.fieldLocs frame_1_writes args s ++ Jvm.arrayLocs frame_1_arrays args s ++ Jvm.staticLocs frame_1_statics s) 16 128 → Post tb e args s (.returned v) u) :
    ArmFor flags0 classFile x code maxLocals ret World_1 tables_1 room_1 Calls_1 rest_1 Pre_1 Post := by
  intro l hfl _ _ p e ha hc hk s m args below hf hA hF happ hP
  obtain ⟨hcalls, hrest, hpre⟩ := hP
  obtain ⟨-, -, -, hnamed, -, -, -, hat⟩ := (Spec.applies_iff hf).mp happ
  obtain ⟨hg, hn⟩ := and_e (Cond.before_iff.mp (show (Jvm.Cond.and given_1 narrow_1).before args s = true from hpre))
  obtain ⟨gc, ga⟩ := and_e hg
  obtain ⟨g0, r0⟩ := and_e ga
  obtain ⟨g1, r1⟩ := and_e r0
  obtain ⟨g2, r2⟩ := and_e r1
  obtain ⟨g3, r3⟩ := and_e r2
  obtain ⟨w0, w1, w2, w3, w4, rfl⟩ : ∃ w0 w1 w2 w3 w4 : Value, args = #[w0, w1, w2, w3, w4] := by
    have hs : args.size = 5 := by simpa [Cond.value, given_1] using gc
    obtain ⟨L⟩ := args
    match L, hs with
    | [w0, w1, w2, w3, w4], _ => exact ⟨w0, w1, w2, w3, w4, rfl⟩
  have hw := fun d (hd : d ∈ tables_1) => atoms_spec (ws := Jvm.Cond.code x code maxLocals ret :: tables_1) hat d (List.mem_cons_of_mem _ hd)
  have hfit : Fit s := fun {y c} hc i hi => by
    obtain ⟨ha, rfl⟩ := Array.getElem?_eq_some_iff.mp hc
    have q := List.all_eq_true.mp ((Array.all_eq_true_iff_forall_mem.mp hF) _ (Array.getElem_mem ha)) i (List.mem_range.mpr hi)
    simpa [Array.getElem?_eq_getElem hi] using q
  obtain ⟨i0, ei0⟩ := isL_v g0
  obtain rfl : w0 = (.long i0) := Option.some.inj ei0
  obtain ⟨i1, ei1⟩ := isL_v g1
  obtain rfl : w1 = (.long i1) := Option.some.inj ei1
  obtain ⟨i2, ei2⟩ := isL_v g2
  obtain rfl : w2 = (.long i2) := Option.some.inj ei2
  obtain ⟨i3, ei3⟩ := isL_v g3
  obtain rfl : w3 = (.long i3) := Option.some.inj ei3
  obtain ⟨i4, ei4⟩ := is_v r3
  obtain rfl : w4 = (.int i4) := Option.some.inj ei4
  obtain ⟨n, o, h1, h2, h3, _, L, rfl, ⟨rfl, N⟩, hq⟩ := rm0 l s _ hw tables_1 i0 i1 i2 i3 i4  s.heap s.heap.size (Nat.le_refl _)  p e ha hc hk s m _ below hf ((Spec.applies_iff_loose hf).mp happ).1 ⟨rfl, State.Warmed39.refl s, rfl⟩ trivial
  refine ⟨n, _, h1, h2, h3, hpost _ _ _ _ _ _ ⟨Cond.after_iff.mpr rfl, Cond.after_iff.mpr (eq_i res_at (Term.int_eval (1)) rfl), trivial⟩ ⟨hq.1, hq.2.1, (hq.2.2.sift fun y hy => Or.inr (N y hy)).mono (by decide) (by decide)⟩⟩
theorem main_1_1 : Claimed_1_1 := comes_1 fun _ _ _ _ _ _ h hF => ⟨h.1, hF⟩
theorem main_1_2 : Claimed_1_2 := comes_1 fun _ _ _ _ _ _ h hF => ⟨h.2.1, hF⟩
end Jvm.Pilot.@@N@@
namespace Jvm.Pilot.@@N@@
open Jvm Jvm.ClassFile Sem Op Lib Jvm.Free Jvm.Stand Jvm.Pilot.@@N@@.Jvm.D
/-! MADE BY PROGRAM (witnessworld.py) out of the Statement's table words and the real class files: 12 classes; the members and pool entries that the words name. The judged class is class 1, her method 1. -/
namespace start1
open Jvm.ClassFile
def u (s : String) : CpInfo := .utf8 (stringToUtf16 s)
/-- a pool by its gaps: so many unusable entries, then the entry; so many at the end -/
def gap : Nat → List CpInfo → List CpInfo
  | 0, r => r
  | n + 1, r => .unusable :: gap n r
def poolList (es : List (Nat × CpInfo)) (last : Nat) : List CpInfo := es.foldr (fun e r => gap e.1 (e.2 :: r)) (gap last [])
def pool (es : List (Nat × CpInfo)) (last : Nat) : Array CpInfo := ⟨poolList es last⟩
def fileOf (pool : Array CpInfo) (this : Nat) (attrs : Array Attribute := #[]) (ms : Array MethodInfo := #[]) (fl : Nat := 33) (sup : Nat := 0) (ifs : Array Nat := #[]) (fds : Array FieldInfo := #[]) : ClassFile where
  minorVersion := 0
  majorVersion := 65
  constantPool := pool
  accessFlags := fl
  thisClass := this
  superClass := sup
  interfaces := ifs
  fields := fds
  methods := ms
  attributes := attrs
def plain (name : String) (sup : Option ClassId) : Class where
  name := name
  kind := .ordinary
  loader := none
  accessFlags := 33
  super := sup
  interfaces := #[]
  cf := none
  fields := #[]
  methods := #[]
  instanceTypes := #[]
  staticTypes := #[]
  resolved := #[]
  callSites := []
  init := .initialized
  statics := none
  mirror := none

def pool0 : Array CpInfo := pool [(5, u "<init>"), (0, u "()V"), (1, .class_ 10), (1, u "java/lang/Object")] 113

def k0c0 : Code := { maxStack := 0, maxLocals := 1, code := object_method_1_code, exceptionTable := #[], attributes := #[] }
def k0m0 : Method := { name := "<init>", desc := "()V", sig := { parameters := [], returnType := none }, accessFlags := 1, code := some k0c0 }
/-- java/lang/Object -/
def k0 : Class := { plain "java/lang/Object" none with
  accessFlags := 33
  interfaces := #[]
  cf := some (fileOf pool0 8 #[] #[{ accessFlags := 1, nameIndex := 5, descriptorIndex := 6, attributes := #[] }] 33 0 #[] #[])
  fields := #[]
  methods := #[k0m0]
  instanceTypes := #[]
  staticTypes := #[]
  resolved := Array.replicate 124 none
  statics := none }

def pool1 : Array CpInfo := pool [(2, .class_ 4), (1, u "java/lang/Object"), (0, u "<init>"), (0, u "()V"), (0, .class_ 8), (0, u "com/example/nest3/nest3/Determinization$Subset"), (0, .methodref 10 11), (0, .class_ 12), (0, .nameAndType 13 14), (0, u "com/example/nest3/nest3/SubsetWithinPinLaw"), (0, u "pick"), (0, u "(IJJJJ)[J"), (0, .methodref 7 16), (0, .nameAndType 5 17), (0, u "(Z[J)V"), (0, .methodref 7 19), (0, .nameAndType 20 21), (0, u "within"), (0, u "(Lcom/example/nest3/nest3/Determinization$Subset;)Z"), (2, u "law"), (0, u "(JJJJI)Z")] 9

def k1m0 : Method := { name := "<init>", desc := "()V", sig := { parameters := [], returnType := none }, accessFlags := 1, code := none }
def k1c1 : Code := { maxStack := 12, maxLocals := 24, code := code, exceptionTable := #[], attributes := #[] }
def k1m1 : Method := { name := "law", desc := "(JJJJI)Z", sig := { parameters := [.long, .long, .long, .long, .int], returnType := some .boolean }, accessFlags := 9, code := some k1c1 }
def k1c2 : Code := { maxStack := 4, maxLocals := 12, code := method_3_code, exceptionTable := #[], attributes := #[] }
def k1m2 : Method := { name := "pick", desc := "(IJJJJ)[J", sig := { parameters := [.int, .long, .long, .long, .long], returnType := some (.array .long) }, accessFlags := 10, code := some k1c2 }
/-- com/example/nest3/nest3/SubsetWithinPinLaw -/
def k1 : Class := { plain "com/example/nest3/nest3/SubsetWithinPinLaw" (some 0) with
  accessFlags := 49
  interfaces := #[]
  cf := some (fileOf pool1 10 #[] #[{ accessFlags := 1, nameIndex := 5, descriptorIndex := 6, attributes := #[] }, { accessFlags := 9, nameIndex := 24, descriptorIndex := 25, attributes := #[] }, { accessFlags := 10, nameIndex := 13, descriptorIndex := 14, attributes := #[] }] 49 2 #[] #[])
  fields := #[]
  methods := #[k1m0, k1m1, k1m2]
  instanceTypes := #[]
  staticTypes := #[]
  resolved := Array.replicate 35 none
  statics := none }

def pool2 : Array CpInfo := pool [(1, .methodref 2 3), (0, .class_ 4), (0, .nameAndType 5 6), (0, u "java/lang/Object"), (0, u "<init>"), (0, u "()V"), (0, .class_ 8), (0, u "java/lang/Record")] 13

def k2c0 : Code := { maxStack := 1, maxLocals := 1, code := jdk_30_method_1_code, exceptionTable := #[], attributes := #[] }
def k2m0 : Method := { name := "<init>", desc := "()V", sig := { parameters := [], returnType := none }, accessFlags := 4, code := some k2c0 }
/-- java/lang/Record -/
def k2 : Class := { plain "java/lang/Record" (some 0) with
  accessFlags := 1057
  interfaces := #[]
  cf := some (fileOf pool2 7 #[] #[{ accessFlags := 4, nameIndex := 5, descriptorIndex := 6, attributes := #[] }] 1057 2 #[] #[])
  fields := #[]
  methods := #[k2m0]
  instanceTypes := #[]
  staticTypes := #[]
  resolved := Array.replicate 22 none
  statics := none }

def pool3 : Array CpInfo := pool [(1, .methodref 2 3), (0, .class_ 4), (0, .nameAndType 5 6), (0, u "java/lang/Record"), (0, u "<init>"), (0, u "()V"), (0, .fieldref 8 9), (0, .class_ 10), (0, .nameAndType 11 12), (0, u "com/example/nest3/nest3/Determinization$Subset"), (0, u "top"), (0, u "Z"), (0, .fieldref 8 14), (0, .nameAndType 15 16), (0, u "pairs"), (0, u "[J"), (27, u "(Z[J)V"), (9, u "within"), (0, u "(Lcom/example/nest3/nest3/Determinization$Subset;)Z"), (5, .class_ 62), (0, u "com/example/nest3/nest3/Determinization")] 17

def k3c0 : Code := { maxStack := 2, maxLocals := 3, code := prog_21_method_1_code, exceptionTable := #[], attributes := #[] }
def k3m0 : Method := { name := "<init>", desc := "(Z[J)V", sig := { parameters := [.boolean, (.array .long)], returnType := none }, accessFlags := 0, code := some k3c0 }
def k3c1 : Code := { maxStack := 4, maxLocals := 5, code := prog_21_method_5_code, exceptionTable := #[], attributes := #[] }
def k3m1 : Method := { name := "within", desc := "(Lcom/example/nest3/nest3/Determinization$Subset;)Z", sig := { parameters := [(.object "com/example/nest3/nest3/Determinization$Subset")], returnType := some .boolean }, accessFlags := 0, code := some k3c1 }
/-- com/example/nest3/nest3/Determinization$Subset -/
def k3 : Class := { plain "com/example/nest3/nest3/Determinization$Subset" (some 2) with
  accessFlags := 48
  interfaces := #[]
  cf := some (fileOf pool3 8 #[.nestHost 61] #[{ accessFlags := 0, nameIndex := 5, descriptorIndex := 44, attributes := #[] }, { accessFlags := 0, nameIndex := 54, descriptorIndex := 55, attributes := #[] }] 48 2 #[] #[{ accessFlags := 18, nameIndex := 11, descriptorIndex := 12, attributes := #[] }, { accessFlags := 18, nameIndex := 15, descriptorIndex := 16, attributes := #[] }])
  fields := #[{ name := "top", type := .boolean, accessFlags := 18, slot := 0, constantValue := 0 }, { name := "pairs", type := (.array .long), accessFlags := 18, slot := 1, constantValue := 0 }]
  methods := #[k3m0, k3m1]
  instanceTypes := #[.boolean, (.array .long)]
  staticTypes := #[]
  resolved := Array.replicate 80 none
  statics := none }

def pool4 : Array CpInfo := pool [(1, u "java/lang/Cloneable"), (0, .class_ 1), (0, u "java/lang/Object"), (0, .class_ 3)] 3

/-- java/lang/Cloneable -/
def k4 : Class := { plain "java/lang/Cloneable" (some 0) with
  accessFlags := 1537
  interfaces := #[]
  cf := some (fileOf pool4 2 #[] #[] 1537 4 #[] #[])
  fields := #[]
  methods := #[]
  instanceTypes := #[]
  staticTypes := #[]
  resolved := Array.replicate 8 none
  statics := none }

def pool5 : Array CpInfo := pool [(1, u "java/io/Serializable"), (0, .class_ 1), (0, u "java/lang/Object"), (0, .class_ 3)] 3

/-- java/io/Serializable -/
def k5 : Class := { plain "java/io/Serializable" (some 0) with
  accessFlags := 1537
  interfaces := #[]
  cf := some (fileOf pool5 2 #[] #[] 1537 4 #[] #[])
  fields := #[]
  methods := #[]
  instanceTypes := #[]
  staticTypes := #[]
  resolved := Array.replicate 8 none
  statics := none }

/-- the primitive byte -/
def k6 : Class := { plain "byte" none with kind := .primitive 'B', accessFlags := 0x411 }
/-- [B -/
def k7 : Class := { plain "[B" (some 0) with kind := .array 6 .byte, interfaces := #[4, 5], accessFlags := 1041 }

/-- the primitive int -/
def k8 : Class := { plain "int" none with kind := .primitive 'I', accessFlags := 0x411 }
/-- [I -/
def k9 : Class := { plain "[I" (some 0) with kind := .array 8 .int, interfaces := #[4, 5], accessFlags := 1041 }

/-- the primitive long -/
def k10 : Class := { plain "long" none with kind := .primitive 'J', accessFlags := 0x411 }
/-- [J -/
def k11 : Class := { plain "[J" (some 0) with kind := .array 10 .long, interfaces := #[4, 5], accessFlags := 1041 }

def heap : Heap := #[]
def classes : Array Class := #[k0, k1, k2, k3, k4, k5, k6, k7, k8, k9, k10, k11]
def interned : List (Array UInt16 × Addr) := []
def slotsUsed : Nat := 0
def theMethod : MethodId := ⟨1, 1⟩
def args0 : Array Value := #[.long 5, .long 9, .long 1, .long 3, .int 259]
def aboutOver (below : List Frame) : State where
  vm := { classes := classes, interned := interned.toArray }
  heap := heap
  slotsUsed := slotsUsed
  threads := #[{ frames := .invoking theMethod args0 :: below }]
def below0 : List Frame := [.native { method := ⟨0, 0⟩, args := #[] }]
def about1 : State := aboutOver below0
def p0 : Program := .bare "" "" ""
def e0 : Env := launch0.env 0 0 0
theorem w_frames : about1.frames = Frame.invoking theMethod args0 :: below0 := rfl
set_option maxRecDepth 65536 in
theorem w_args : argsFit about1.vm theMethod args0 = true := by decide +kernel
set_option maxRecDepth 65536 in
theorem w_heap : heapFits about1 = true := by decide +kernel
set_option maxRecDepth 65536 in
theorem w_runnable : about1.curStatus? = some .runnable := by decide +kernel
set_option maxRecDepth 65536 in
theorem w_alone : about1.alone = true := by decide +kernel
set_option maxRecDepth 65536 in
theorem w_named : about1.methodNamed? x = some theMethod := by decide +kernel
set_option maxRecDepth 65536 in
theorem w_hears : about1.hears theMethod below0 = true := by decide +kernel
set_option maxRecDepth 65536 in
theorem w_ripe : about1.ripe theMethod args0 below0 = true := by decide +kernel
theorem w_running : about1.status = .running := rfl
set_option maxRecDepth 65536 in
theorem w_room : about1.hasRoom e0.platform room_1 = true :=
  launch0.hasRoom_least _ room_1 (by decide +kernel) (by decide +kernel) (by decide +kernel) (by decide +kernel) (by decide +kernel) (by decide +kernel)
theorem allAtoms_all (ts : List Jvm.Cond) (a : Array Jvm.Value) (st : Jvm.State) : (allAtoms ts).before a st = ts.all (fun c => c.before a st) := by
  induction ts with
  | nil => rfl
  | cons c t ih =>
    show (Jvm.Cond.and c (allAtoms t)).before a st = _
    rw [Jvm.Cond.before_and, ih, List.all_cons]
def words1 : List Jvm.Cond := Jvm.Cond.code x code maxLocals ret :: tables_1
/-- a 'code' word, met by the world's own term for the bytes: nothing is compared byte by byte -/
theorem code_word {y : MethodName} {bytes : ByteArray} {mx : Nat} {rt : Option FieldType} {a : Array Value} {s : State} {m : MethodId} {meth : Method} {c : Code} (h1 : s.methodNamed? y = some m) (h2 : s.vm.method? m = some meth) (h3 : meth.code = some c) (h4 : c.code = bytes)
    (h5 : (c.maxLocals == mx && c.exceptionTable.isEmpty && decide (c.maxStack ≤ mostOperands) && decide (meth.sig.returnType = rt) && !meth.locks && decide (parseMethodDescriptor y.desc = some meth.sig)) = true) : (Jvm.Cond.code y bytes mx rt).before a s = true := by
  simp only [Bool.and_eq_true, beq_iff_eq, Bool.not_eq_true', decide_eq_true_eq] at h5
  obtain ⟨⟨⟨⟨⟨g1, g2⟩, g3⟩, g4⟩, g5⟩, g6⟩ := h5
  simp [Cond.before, Cond.holds, Cond.value, h1, h2, h3, h4, g1, g2, g3, g4, g5, g6]
def isCode : Jvm.Cond → Bool
  | .code _ _ _ _ => true
  | _ => false
theorem all_split {L : List Jvm.Cond} {P : Jvm.Cond → Bool} (h1 : L.all (fun c => isCode c || P c) = true) (h2 : ∀ c ∈ L.filter isCode, P c = true) : L.all P = true := by
  refine List.all_eq_true.mpr fun c hc => ?_
  have h := List.all_eq_true.mp h1 c hc
  rcases Bool.eq_false_or_eq_true (isCode c) with hi | hi
  · exact h2 c (List.mem_filter.mpr ⟨hc, hi⟩)
  · simpa [hi] using h
set_option maxRecDepth 65536 in
theorem w_c0 : (Jvm.Cond.code x code maxLocals ret).before args0 about1 = true := code_word (m := ⟨1, 1⟩) (meth := k1m1) (c := k1c1) (by decide +kernel) rfl rfl rfl (by decide +kernel)
set_option maxRecDepth 65536 in
theorem w_c1 : (Jvm.Cond.code ({ cls := "com/example/nest3/nest3/SubsetWithinPinLaw", name := "pick", desc := "(IJJJJ)[J" } : Jvm.MethodName) method_3_code (12 : Nat) (Option.some (Jvm.ClassFile.FieldType.array Jvm.ClassFile.FieldType.long))).before args0 about1 = true := code_word (m := ⟨1, 2⟩) (meth := k1m2) (c := k1c2) (by decide +kernel) rfl rfl rfl (by decide +kernel)
set_option maxRecDepth 65536 in
theorem w_c2 : (Jvm.Cond.code ({ cls := "com/example/nest3/nest3/Determinization$Subset", name := "<init>", desc := "(Z[J)V" } : Jvm.MethodName) prog_21_method_1_code (3 : Nat) (Option.none : Option Jvm.ClassFile.FieldType)).before args0 about1 = true := code_word (m := ⟨3, 0⟩) (meth := k3m0) (c := k3c0) (by decide +kernel) rfl rfl rfl (by decide +kernel)
set_option maxRecDepth 65536 in
theorem w_c3 : (Jvm.Cond.code ({ cls := "java/lang/Record", name := "<init>", desc := "()V" } : Jvm.MethodName) jdk_30_method_1_code (1 : Nat) (Option.none : Option Jvm.ClassFile.FieldType)).before args0 about1 = true := code_word (m := ⟨2, 0⟩) (meth := k2m0) (c := k2c0) (by decide +kernel) rfl rfl rfl (by decide +kernel)
set_option maxRecDepth 65536 in
theorem w_c4 : (Jvm.Cond.code ({ cls := "java/lang/Object", name := "<init>", desc := "()V" } : Jvm.MethodName) object_method_1_code (1 : Nat) (Option.none : Option Jvm.ClassFile.FieldType)).before args0 about1 = true := code_word (m := ⟨0, 0⟩) (meth := k0m0) (c := k0c0) (by decide +kernel) rfl rfl rfl (by decide +kernel)
set_option maxRecDepth 65536 in
theorem w_c5 : (Jvm.Cond.code ({ cls := "com/example/nest3/nest3/Determinization$Subset", name := "within", desc := "(Lcom/example/nest3/nest3/Determinization$Subset;)Z" } : Jvm.MethodName) prog_21_method_5_code (5 : Nat) (Option.some Jvm.ClassFile.FieldType.boolean)).before args0 about1 = true := code_word (m := ⟨3, 1⟩) (meth := k3m1) (c := k3c1) (by decide +kernel) rfl rfl rfl (by decide +kernel)
def codes1 : List Jvm.Cond := [Jvm.Cond.code x code maxLocals ret, Jvm.Cond.code ({ cls := "com/example/nest3/nest3/SubsetWithinPinLaw", name := "pick", desc := "(IJJJJ)[J" } : Jvm.MethodName) method_3_code (12 : Nat) (Option.some (Jvm.ClassFile.FieldType.array Jvm.ClassFile.FieldType.long)), Jvm.Cond.code ({ cls := "com/example/nest3/nest3/Determinization$Subset", name := "<init>", desc := "(Z[J)V" } : Jvm.MethodName) prog_21_method_1_code (3 : Nat) (Option.none : Option Jvm.ClassFile.FieldType), Jvm.Cond.code ({ cls := "java/lang/Record", name := "<init>", desc := "()V" } : Jvm.MethodName) jdk_30_method_1_code (1 : Nat) (Option.none : Option Jvm.ClassFile.FieldType), Jvm.Cond.code ({ cls := "java/lang/Object", name := "<init>", desc := "()V" } : Jvm.MethodName) object_method_1_code (1 : Nat) (Option.none : Option Jvm.ClassFile.FieldType), Jvm.Cond.code ({ cls := "com/example/nest3/nest3/Determinization$Subset", name := "within", desc := "(Lcom/example/nest3/nest3/Determinization$Subset;)Z" } : Jvm.MethodName) prog_21_method_5_code (5 : Nat) (Option.some Jvm.ClassFile.FieldType.boolean)]
set_option maxRecDepth 65536 in
theorem codes_eq : words1.filter isCode = codes1 := rfl
theorem w_codes : ∀ c ∈ words1.filter isCode, c.before args0 about1 = true := by
  rw [codes_eq]
  intro c hc
  simp only [codes1, List.mem_cons, List.not_mem_nil, or_false] at hc
  rcases hc with rfl | rfl | rfl | rfl | rfl | rfl
  · exact w_c0
  · exact w_c1
  · exact w_c2
  · exact w_c3
  · exact w_c4
  · exact w_c5
set_option maxRecDepth 65536 in
theorem w_t1 : (words1.take 24).all (fun c => isCode c || c.before args0 about1) = true := by decide +kernel
set_option maxRecDepth 65536 in
theorem w_t2 : (words1.drop 24).all (fun c => isCode c || c.before args0 about1) = true := by decide +kernel
theorem w_tables : (allAtoms (Jvm.Cond.code x code maxLocals ret :: tables_1)).before args0 about1 = true := by
  rw [allAtoms_all]
  show words1.all (fun c => c.before args0 about1) = true
  refine all_split ?_ w_codes
  rw [← List.take_append_drop 24 words1, List.all_append, w_t1, w_t2]
  rfl
set_option maxRecDepth 65536 in
theorem w_case : (Jvm.Cond.and given_1 narrow_1).before args0 about1 = true := by decide +kernel
theorem w_applies : (headSpec (Jvm.Cond.code x code maxLocals ret :: tables_1) room_1).applies x e0.platform about1 = true :=
  (Spec.applies_iff w_frames).mpr ⟨w_running, w_runnable, w_alone, w_named, w_hears, w_ripe, w_room, w_tables⟩
theorem atStart : AtStart classFile x code maxLocals ret World_1 tables_1 room_1 Calls_1 rest_1 Pre_1 launch0 p0 e0 about1 theMethod args0 below0 :=
  ⟨lists_1, trivial, launch0.admits_env _ _ _, launch0.least_env, fairChoices_fair.cas, fairChoices_fair.clock, w_frames, w_args, w_heap, w_applies, trivial, trivial, w_case⟩
end start1
theorem witness_1 : WitnessClaimed_1 := ⟨start1.p0, start1.e0, start1.about1, start1.theMethod, start1.args0, start1.below0, start1.atStart⟩
end Jvm.Pilot.@@N@@
