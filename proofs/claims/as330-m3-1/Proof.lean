import JvmDerived
import JvmDerived.Pilot.@@N@@Statement
import JvmDerived.Pilot.@@N@@Code
set_option linter.unusedVariables false
set_option linter.unusedSimpArgs false
namespace Jvm.RoadKit
open Sem ClassFile Op Lib Jvm.Stand Jvm.Free Jvm.LawKit
section New
variable {p : Program} {l : Launch} {e : Env} {R : Room} {s : State} {m : MethodId} {args : Array Value} {below : List Frame} {meth : Method} {c : Code} {T : State} {locs : List Loc} {cells slots : Nat}
theorem retI (X : Stand p l e R s m args below meth c T locs cells slots) (hx : p.tables.exec = Jvm.exec) {pc : Nat} {Ls : Array Slot} {z : Int32} {rest : List Value} (hret : meth.sig.returnType = some .int) (hd : decode c.code pc = .ok (.ireturn, 1)) {fs : List Frame}
    (hl : ∀ (f : JFrame) (acts : List Action), f.method = m → f.locked = none → f.entered = [] → (doReturn e (T.setTop f) acts (some (.int z))).1 = T.setFrames fs) : Steps p.tables e below (T.setTop (mkF m pc Ls (.int z :: rest))) (T.setFrames fs) := by
  have hm' : T.vm.method? m = some meth := X.method'
  have hn : narrow .int (.int z) = .int z := rfl
  show Steps p.tables e below (T.setTop { method := m, pc := pc, locals := Ls, stack := _ :: rest, locked := none }) _
  jvm_step X.here [X.here.top, hx, hd, hm', hret, hn]
  first | (intro acts; rw [hl _ acts rfl rfl rfl]) | rw [hl _ _ rfl rfl rfl]
  exact Steps.refl _
end New
end Jvm.RoadKit
namespace Jvm.Pilot.@@N@@
open Jvm Jvm.ClassFile Sem Op Lib Jvm.Free Jvm.Stand Jvm.LawKit Jvm.RoadKit Bundle Jvm.Pilot.@@N@@.Jvm.D

def own_min (a b : Int32) : Int32 := if b < a then b else a
def own_max (a b : Int32) : Int32 := if a < b then b else a
def own_in (lo hi v : Int32) : Int32 := if v < lo then 0 else if hi < v then 0 else 1
theorem own_min_t {a b : Int32} (h : b < a) : some (Value.int b) = some (Value.int (own_min a b)) := by rw [own_min, if_pos h]
theorem own_min_f {a b : Int32} (h : ¬ (b < a)) : some (Value.int a) = some (Value.int (own_min a b)) := by rw [own_min, if_neg h]
theorem own_max_t {a b : Int32} (h : a < b) : some (Value.int b) = some (Value.int (own_max a b)) := by rw [own_max, if_pos h]
theorem own_max_f {a b : Int32} (h : ¬ (a < b)) : some (Value.int a) = some (Value.int (own_max a b)) := by rw [own_max, if_neg h]
theorem own_in_t {lo hi v : Int32} (h : v < lo) : some (Value.int 0) = some (Value.int (own_in lo hi v)) := by rw [own_in, if_pos h]
theorem own_in_ft {lo hi v : Int32} (h : ¬ (v < lo)) (h2 : hi < v) : some (Value.int 0) = some (Value.int (own_in lo hi v)) := by rw [own_in, if_neg h, if_pos h2]
theorem own_in_ff {lo hi v : Int32} (h : ¬ (v < lo)) (h2 : ¬ (hi < v)) : some (Value.int 1) = some (Value.int (own_in lo hi v)) := by rw [own_in, if_neg h, if_neg h2]
theorem own_lohi (x y : Int32) : ¬ (own_max x y < own_min x y) := by
  rw [own_max, own_min]
  simp only [Int32.lt_iff_toInt_lt]
  split <;> split <;> omega
theorem own_lo0 (x y : Int32) (hx : 0 ≤ x.toInt) (hy : 0 ≤ y.toInt) : ¬ (own_min x y < (0 : Int32)) := by
  rw [own_min, Int32.lt_iff_toInt_lt, show (0 : Int32).toInt = 0 from by decide]
  split <;> omega
theorem own_cl1 {lo hi c : Int32} (h : ¬ (hi < lo)) (q : own_max lo (own_min c hi) = c) : own_in lo hi c = (1 : Int32) := by
  rw [← Int32.toInt_inj] at q
  rw [own_in]
  simp only [own_max, own_min, Int32.lt_iff_toInt_lt] at h q ⊢
  rw [if_neg, if_neg]
  · intro z; rw [if_pos z] at q; split at q <;> omega
  · intro z; split at q <;> split at q <;> omega
theorem own_cl0 {lo hi c : Int32} (h : ¬ (hi < lo)) (q : ¬ own_max lo (own_min c hi) = c) : own_in lo hi c = (0 : Int32) := by
  rw [← Int32.toInt_inj] at q
  rw [own_in]
  simp only [own_max, own_min, Int32.lt_iff_toInt_lt] at h q ⊢
  split
  · rfl
  · split
    · rfl
    · rename_i z1 z2
      rw [if_neg z2] at q
      split at q <;> omega
theorem own_ends {lo hi : Int32} (h : ¬ (hi < lo)) : ¬ (own_in lo hi lo = (0 : Int32)) ∧ ¬ (own_in lo hi hi = (0 : Int32)) := by
  have e : ∀ z : Int32, ¬ (z < z) := fun z q => by rw [Int32.lt_iff_toInt_lt] at q; omega
  refine ⟨?_, ?_⟩
  · rw [own_in, if_neg (e lo), if_neg h]; decide
  · rw [own_in, if_neg h, if_neg (e hi)]; decide
theorem own_below {lo hi : Int32} (h : ¬ (lo < (0 : Int32))) : own_in lo hi (lo - (1 : Int32)) = (0 : Int32) := by
  rw [Int32.lt_iff_toInt_lt, show (0 : Int32).toInt = 0 from by decide] at h
  have r := rng32 lo; have r2 := rng32 (lo - 1); have c := c_isub lo 1
  rw [show (1 : Int32).toInt = 1 from by decide] at c
  rw [own_in, if_pos]
  rw [Int32.lt_iff_toInt_lt]; omega
theorem own_above {lo hi : Int32} (h : ¬ (hi = (2147483647 : Int32))) : own_in lo hi (hi + (1 : Int32)) = (0 : Int32) := by
  rw [← Int32.toInt_inj, show (2147483647 : Int32).toInt = 2147483647 from by decide] at h
  have r := rng32 hi; have r2 := rng32 (hi + 1); have c := c_iadd hi 1
  rw [show (1 : Int32).toInt = 1 from by decide] at c
  have p : hi < hi + 1 := by rw [Int32.lt_iff_toInt_lt]; omega
  rw [own_in, if_pos p]
  split <;> rfl
theorem d1_0 : decode jdk_29_method_69_code 0 = .ok (.iload_n 0, 1) := by decide +kernel
theorem d1_1 : decode jdk_29_method_69_code 1 = .ok (.iload_n 1, 1) := by decide +kernel
theorem d1_2 : decode jdk_29_method_69_code 2 = .ok (.if_icmp .gt 7, 3) := by decide +kernel
theorem d1_9 : decode jdk_29_method_69_code 9 = .ok (.iload_n 1, 1) := by decide +kernel
theorem d1_10 : decode jdk_29_method_69_code 10 = .ok (.ireturn, 1) := by decide +kernel
theorem ef_1 (m : MethodId) (x0 : Int32) (x1 : Int32) : entryFrame m #[(.int x0), (.int x1)] 2 = mkF m 0 #[.val (.int x0), .val (.int x1)] [] := by first | (simp [entryFrame, mkF, argsToLocals, Value.category]; done) | rfl
theorem d1_5 : decode jdk_29_method_69_code 5 = .ok (.iload_n 0, 1) := by decide +kernel
theorem d1_6 : decode jdk_29_method_69_code 6 = .ok (.goto 4, 3) := by decide +kernel
def Q1 (Z : State) (p1 : Int32) (p2 : Int32) (h0 : Heap) (n0 : Nat) (v : Option Value) (h : Heap) (L : List Loc) : Prop := v = some (.int (own_min p1 p2)) ∧ Fr n0 L ∧ h = h0
set_option maxRecDepth 65536 in
set_option maxHeartbeats 40000000 in
theorem rm1_t (l : Launch) (Z : State) (a0 : Array Value) (hw : ∀ d ∈ tables_1, d.before a0 Z = true) (ws : List Jvm.Cond) (p1 : Int32) (p2 : Int32) (h0 : Heap) (n0 : Nat) (Z0 : n0 ≤ h0.size) (hc2 : p2 < p1) :
    MetFree l (⟨"java/lang/Math", "min", "(II)I"⟩ : MethodName) (head1 (Jvm.Cond.code (⟨"java/lang/Math", "min", "(II)I"⟩ : MethodName) jdk_29_method_69_code 2 (some .int) :: ws) ({ frames := 0, cells := 0, slots := 0, locals := 0 } : Room)) (fun a U => a = #[(.int p1), (.int p2)] ∧ Z.Warmed39 U.vm ∧ U.heap = h0) (fun _ _ _ _ _ => True) (fun _ U o U' => ∃ v L, o = .returned v ∧ Q1 Z p1 p2 h0 n0 v U'.heap L ∧ FrameEnd U o U' L ({ frames := 0, cells := 0, slots := 0, locals := 0 } : Room).cells ({ frames := 0, cells := 0, slots := 0, locals := 0 } : Room).slots) := by
  refine MetFree.of_bodySF (Jvm.Free.JP.mathPlain rfl (by decide +kernel)) hisR ?_
  intro p e s m args below meth c s₁ Bd hml0 hP hK
  obtain ⟨rfl, hZ, hh⟩ := hP
  have hx := Bd.exec
  have hby := Bd.bytes
  have hml : c.maxLocals = 2 := hml0
  have hown : s.vm.findClass "java/lang/Math" = some m.cls := findClass_of_methodNamed Bd.named
  have hnm := (name_of_methodNamed Bd.named Bd.method).1
  have X0 : Stand p l e ({ frames := 0, cells := 0, slots := 0, locals := 0 } : Room) s m #[(.int p1), (.int p2)] below meth c s₁ [] 0 0 := Stand.of_body Bd
  have e0 : s₁.heap = h0 := by rw [← hh, Bd.state]; rfl
  have N0 := Fr.nil n0
  have pre0 : ∀ t, Steps p.tables e below (s₁.setTop (mkF m 0 #[.val (.int p1), .val (.int p2)] [])) t → Steps p.tables e below (s₁.setTop (entryFrame m #[(.int p1), (.int p2)] 2)) t := fun t k => castTop (ef_1 m p1 p2) k

  obtain ⟨fs, hr, hrun, hended, hW, hsame⟩ := X0.leave (v := some (.int p2)) (fun h => by rw [Bd.returns] at h; cases h)
  refine ⟨_, _, pre0 _ ?_, hrun, hended, _, _, rfl, ?_, ⟨_, rfl⟩, hW, hsame.mono (by decide) (by decide)⟩
  · show Steps p.tables e below (s₁.setTop (mkF m 0 #[.val (.int p1), .val (.int p2)] [])) _
    refine XS.iloadN X0.here hx rfl (hb hby d1_0) rfl ?_
    show Steps p.tables e below (s₁.setTop (mkF m 1 #[.val (.int p1), .val (.int p2)] [(.int p1)])) _
    refine XS.iloadN X0.here hx rfl (hb hby d1_1) rfl ?_
    show Steps p.tables e below (s₁.setTop (mkF m 2 #[.val (.int p1), .val (.int p2)] [(.int p2), (.int p1)])) _
    refine XS.icmpYes X0.here hx rfl (pc0 := 2) (pc' := 9) rfl (hb hby d1_2) rfl (tlt hc2).2.2.1 (by decide) (by decide) ?_
    show Steps p.tables e below (s₁.setTop (mkF m 9 #[.val (.int p1), .val (.int p2)] [])) _
    refine XS.iloadN X0.here hx rfl (hb hby d1_9) rfl ?_
    show Steps p.tables e below (s₁.setTop (mkF m 10 #[.val (.int p1), .val (.int p2)] [(.int p2)])) _
    exact retI X0 hx Bd.returns (hb hby d1_10) hr      -- retI stands in the head ('lawwalk <made dir>' prints it)
  · show Q1 Z p1 p2 h0 n0 _ s₁.heap _
    rw [e0]
    exact ⟨own_min_t hc2, N0, rfl⟩
set_option maxRecDepth 65536 in
set_option maxHeartbeats 40000000 in
theorem rm1_f (l : Launch) (Z : State) (a0 : Array Value) (hw : ∀ d ∈ tables_1, d.before a0 Z = true) (ws : List Jvm.Cond) (p1 : Int32) (p2 : Int32) (h0 : Heap) (n0 : Nat) (Z0 : n0 ≤ h0.size) (hc2 : ¬ (p2 < p1)) :
    MetFree l (⟨"java/lang/Math", "min", "(II)I"⟩ : MethodName) (head1 (Jvm.Cond.code (⟨"java/lang/Math", "min", "(II)I"⟩ : MethodName) jdk_29_method_69_code 2 (some .int) :: ws) ({ frames := 0, cells := 0, slots := 0, locals := 0 } : Room)) (fun a U => a = #[(.int p1), (.int p2)] ∧ Z.Warmed39 U.vm ∧ U.heap = h0) (fun _ _ _ _ _ => True) (fun _ U o U' => ∃ v L, o = .returned v ∧ Q1 Z p1 p2 h0 n0 v U'.heap L ∧ FrameEnd U o U' L ({ frames := 0, cells := 0, slots := 0, locals := 0 } : Room).cells ({ frames := 0, cells := 0, slots := 0, locals := 0 } : Room).slots) := by
  refine MetFree.of_bodySF (Jvm.Free.JP.mathPlain rfl (by decide +kernel)) hisR ?_
  intro p e s m args below meth c s₁ Bd hml0 hP hK
  obtain ⟨rfl, hZ, hh⟩ := hP
  have hx := Bd.exec
  have hby := Bd.bytes
  have hml : c.maxLocals = 2 := hml0
  have hown : s.vm.findClass "java/lang/Math" = some m.cls := findClass_of_methodNamed Bd.named
  have hnm := (name_of_methodNamed Bd.named Bd.method).1
  have X0 : Stand p l e ({ frames := 0, cells := 0, slots := 0, locals := 0 } : Room) s m #[(.int p1), (.int p2)] below meth c s₁ [] 0 0 := Stand.of_body Bd
  have e0 : s₁.heap = h0 := by rw [← hh, Bd.state]; rfl
  have N0 := Fr.nil n0
  have pre0 : ∀ t, Steps p.tables e below (s₁.setTop (mkF m 0 #[.val (.int p1), .val (.int p2)] [])) t → Steps p.tables e below (s₁.setTop (entryFrame m #[(.int p1), (.int p2)] 2)) t := fun t k => castTop (ef_1 m p1 p2) k

  obtain ⟨fs, hr, hrun, hended, hW, hsame⟩ := X0.leave (v := some (.int p1)) (fun h => by rw [Bd.returns] at h; cases h)
  refine ⟨_, _, pre0 _ ?_, hrun, hended, _, _, rfl, ?_, ⟨_, rfl⟩, hW, hsame.mono (by decide) (by decide)⟩
  · show Steps p.tables e below (s₁.setTop (mkF m 0 #[.val (.int p1), .val (.int p2)] [])) _
    refine XS.iloadN X0.here hx rfl (hb hby d1_0) rfl ?_
    show Steps p.tables e below (s₁.setTop (mkF m 1 #[.val (.int p1), .val (.int p2)] [(.int p1)])) _
    refine XS.iloadN X0.here hx rfl (hb hby d1_1) rfl ?_
    show Steps p.tables e below (s₁.setTop (mkF m 2 #[.val (.int p1), .val (.int p2)] [(.int p2), (.int p1)])) _
    refine XS.icmpNo X0.here hx rfl (hb hby d1_2) rfl (flt hc2).2.2.1 ?_
    show Steps p.tables e below (s₁.setTop (mkF m 5 #[.val (.int p1), .val (.int p2)] [])) _
    refine XS.iloadN X0.here hx rfl (hb hby d1_5) rfl ?_
    show Steps p.tables e below (s₁.setTop (mkF m 6 #[.val (.int p1), .val (.int p2)] [(.int p1)])) _
    refine XS.goto X0.here hx rfl (pc0 := 6) (pc' := 10) rfl (hb hby d1_6) (by decide) (by decide) ?_
    show Steps p.tables e below (s₁.setTop (mkF m 10 #[.val (.int p1), .val (.int p2)] [(.int p1)])) _
    exact retI X0 hx Bd.returns (hb hby d1_10) hr      -- retI stands in the head ('lawwalk <made dir>' prints it)
  · show Q1 Z p1 p2 h0 n0 _ s₁.heap _
    rw [e0]
    exact ⟨own_min_f hc2, N0, rfl⟩
theorem rm1 (l : Launch) (Z : State) (a0 : Array Value) (hw : ∀ d ∈ tables_1, d.before a0 Z = true) (ws : List Jvm.Cond) (p1 : Int32) (p2 : Int32) (h0 : Heap) (n0 : Nat) (Z0 : n0 ≤ h0.size) :
    MetFree l (⟨"java/lang/Math", "min", "(II)I"⟩ : MethodName) (head1 (Jvm.Cond.code (⟨"java/lang/Math", "min", "(II)I"⟩ : MethodName) jdk_29_method_69_code 2 (some .int) :: ws) ({ frames := 0, cells := 0, slots := 0, locals := 0 } : Room)) (fun a U => a = #[(.int p1), (.int p2)] ∧ Z.Warmed39 U.vm ∧ U.heap = h0) (fun _ _ _ _ _ => True) (fun _ U o U' => ∃ v L, o = .returned v ∧ Q1 Z p1 p2 h0 n0 v U'.heap L ∧ FrameEnd U o U' L ({ frames := 0, cells := 0, slots := 0, locals := 0 } : Room).cells ({ frames := 0, cells := 0, slots := 0, locals := 0 } : Room).slots) := by
  by_cases hc2 : p2 < p1
  · exact rm1_t l Z a0 hw ws p1 p2 h0 n0 Z0 hc2
  · exact rm1_f l Z a0 hw ws p1 p2 h0 n0 Z0 hc2
theorem d2_0 : decode jdk_29_method_65_code 0 = .ok (.iload_n 0, 1) := by decide +kernel
theorem d2_1 : decode jdk_29_method_65_code 1 = .ok (.iload_n 1, 1) := by decide +kernel
theorem d2_2 : decode jdk_29_method_65_code 2 = .ok (.if_icmp .lt 7, 3) := by decide +kernel
theorem d2_9 : decode jdk_29_method_65_code 9 = .ok (.iload_n 1, 1) := by decide +kernel
theorem d2_10 : decode jdk_29_method_65_code 10 = .ok (.ireturn, 1) := by decide +kernel
theorem ef_2 (m : MethodId) (x0 : Int32) (x1 : Int32) : entryFrame m #[(.int x0), (.int x1)] 2 = mkF m 0 #[.val (.int x0), .val (.int x1)] [] := by first | (simp [entryFrame, mkF, argsToLocals, Value.category]; done) | rfl
theorem d2_5 : decode jdk_29_method_65_code 5 = .ok (.iload_n 0, 1) := by decide +kernel
theorem d2_6 : decode jdk_29_method_65_code 6 = .ok (.goto 4, 3) := by decide +kernel
def Q2 (Z : State) (p1 : Int32) (p2 : Int32) (h0 : Heap) (n0 : Nat) (v : Option Value) (h : Heap) (L : List Loc) : Prop := v = some (.int (own_max p1 p2)) ∧ Fr n0 L ∧ h = h0
set_option maxRecDepth 65536 in
set_option maxHeartbeats 40000000 in
theorem rm2_t (l : Launch) (Z : State) (a0 : Array Value) (hw : ∀ d ∈ tables_1, d.before a0 Z = true) (ws : List Jvm.Cond) (p1 : Int32) (p2 : Int32) (h0 : Heap) (n0 : Nat) (Z0 : n0 ≤ h0.size) (hc2 : p1 < p2) :
    MetFree l (⟨"java/lang/Math", "max", "(II)I"⟩ : MethodName) (head1 (Jvm.Cond.code (⟨"java/lang/Math", "max", "(II)I"⟩ : MethodName) jdk_29_method_65_code 2 (some .int) :: ws) ({ frames := 0, cells := 0, slots := 0, locals := 0 } : Room)) (fun a U => a = #[(.int p1), (.int p2)] ∧ Z.Warmed39 U.vm ∧ U.heap = h0) (fun _ _ _ _ _ => True) (fun _ U o U' => ∃ v L, o = .returned v ∧ Q2 Z p1 p2 h0 n0 v U'.heap L ∧ FrameEnd U o U' L ({ frames := 0, cells := 0, slots := 0, locals := 0 } : Room).cells ({ frames := 0, cells := 0, slots := 0, locals := 0 } : Room).slots) := by
  refine MetFree.of_bodySF (Jvm.Free.JP.mathPlain rfl (by decide +kernel)) hisR ?_
  intro p e s m args below meth c s₁ Bd hml0 hP hK
  obtain ⟨rfl, hZ, hh⟩ := hP
  have hx := Bd.exec
  have hby := Bd.bytes
  have hml : c.maxLocals = 2 := hml0
  have hown : s.vm.findClass "java/lang/Math" = some m.cls := findClass_of_methodNamed Bd.named
  have hnm := (name_of_methodNamed Bd.named Bd.method).1
  have X0 : Stand p l e ({ frames := 0, cells := 0, slots := 0, locals := 0 } : Room) s m #[(.int p1), (.int p2)] below meth c s₁ [] 0 0 := Stand.of_body Bd
  have e0 : s₁.heap = h0 := by rw [← hh, Bd.state]; rfl
  have N0 := Fr.nil n0
  have pre0 : ∀ t, Steps p.tables e below (s₁.setTop (mkF m 0 #[.val (.int p1), .val (.int p2)] [])) t → Steps p.tables e below (s₁.setTop (entryFrame m #[(.int p1), (.int p2)] 2)) t := fun t k => castTop (ef_2 m p1 p2) k

  obtain ⟨fs, hr, hrun, hended, hW, hsame⟩ := X0.leave (v := some (.int p2)) (fun h => by rw [Bd.returns] at h; cases h)
  refine ⟨_, _, pre0 _ ?_, hrun, hended, _, _, rfl, ?_, ⟨_, rfl⟩, hW, hsame.mono (by decide) (by decide)⟩
  · show Steps p.tables e below (s₁.setTop (mkF m 0 #[.val (.int p1), .val (.int p2)] [])) _
    refine XS.iloadN X0.here hx rfl (hb hby d2_0) rfl ?_
    show Steps p.tables e below (s₁.setTop (mkF m 1 #[.val (.int p1), .val (.int p2)] [(.int p1)])) _
    refine XS.iloadN X0.here hx rfl (hb hby d2_1) rfl ?_
    show Steps p.tables e below (s₁.setTop (mkF m 2 #[.val (.int p1), .val (.int p2)] [(.int p2), (.int p1)])) _
    refine XS.icmpYes X0.here hx rfl (pc0 := 2) (pc' := 9) rfl (hb hby d2_2) rfl (tlt hc2).1 (by decide) (by decide) ?_
    show Steps p.tables e below (s₁.setTop (mkF m 9 #[.val (.int p1), .val (.int p2)] [])) _
    refine XS.iloadN X0.here hx rfl (hb hby d2_9) rfl ?_
    show Steps p.tables e below (s₁.setTop (mkF m 10 #[.val (.int p1), .val (.int p2)] [(.int p2)])) _
    exact retI X0 hx Bd.returns (hb hby d2_10) hr      -- retI stands in the head ('lawwalk <made dir>' prints it)
  · show Q2 Z p1 p2 h0 n0 _ s₁.heap _
    rw [e0]
    exact ⟨own_max_t hc2, N0, rfl⟩
set_option maxRecDepth 65536 in
set_option maxHeartbeats 40000000 in
theorem rm2_f (l : Launch) (Z : State) (a0 : Array Value) (hw : ∀ d ∈ tables_1, d.before a0 Z = true) (ws : List Jvm.Cond) (p1 : Int32) (p2 : Int32) (h0 : Heap) (n0 : Nat) (Z0 : n0 ≤ h0.size) (hc2 : ¬ (p1 < p2)) :
    MetFree l (⟨"java/lang/Math", "max", "(II)I"⟩ : MethodName) (head1 (Jvm.Cond.code (⟨"java/lang/Math", "max", "(II)I"⟩ : MethodName) jdk_29_method_65_code 2 (some .int) :: ws) ({ frames := 0, cells := 0, slots := 0, locals := 0 } : Room)) (fun a U => a = #[(.int p1), (.int p2)] ∧ Z.Warmed39 U.vm ∧ U.heap = h0) (fun _ _ _ _ _ => True) (fun _ U o U' => ∃ v L, o = .returned v ∧ Q2 Z p1 p2 h0 n0 v U'.heap L ∧ FrameEnd U o U' L ({ frames := 0, cells := 0, slots := 0, locals := 0 } : Room).cells ({ frames := 0, cells := 0, slots := 0, locals := 0 } : Room).slots) := by
  refine MetFree.of_bodySF (Jvm.Free.JP.mathPlain rfl (by decide +kernel)) hisR ?_
  intro p e s m args below meth c s₁ Bd hml0 hP hK
  obtain ⟨rfl, hZ, hh⟩ := hP
  have hx := Bd.exec
  have hby := Bd.bytes
  have hml : c.maxLocals = 2 := hml0
  have hown : s.vm.findClass "java/lang/Math" = some m.cls := findClass_of_methodNamed Bd.named
  have hnm := (name_of_methodNamed Bd.named Bd.method).1
  have X0 : Stand p l e ({ frames := 0, cells := 0, slots := 0, locals := 0 } : Room) s m #[(.int p1), (.int p2)] below meth c s₁ [] 0 0 := Stand.of_body Bd
  have e0 : s₁.heap = h0 := by rw [← hh, Bd.state]; rfl
  have N0 := Fr.nil n0
  have pre0 : ∀ t, Steps p.tables e below (s₁.setTop (mkF m 0 #[.val (.int p1), .val (.int p2)] [])) t → Steps p.tables e below (s₁.setTop (entryFrame m #[(.int p1), (.int p2)] 2)) t := fun t k => castTop (ef_2 m p1 p2) k

  obtain ⟨fs, hr, hrun, hended, hW, hsame⟩ := X0.leave (v := some (.int p1)) (fun h => by rw [Bd.returns] at h; cases h)
  refine ⟨_, _, pre0 _ ?_, hrun, hended, _, _, rfl, ?_, ⟨_, rfl⟩, hW, hsame.mono (by decide) (by decide)⟩
  · show Steps p.tables e below (s₁.setTop (mkF m 0 #[.val (.int p1), .val (.int p2)] [])) _
    refine XS.iloadN X0.here hx rfl (hb hby d2_0) rfl ?_
    show Steps p.tables e below (s₁.setTop (mkF m 1 #[.val (.int p1), .val (.int p2)] [(.int p1)])) _
    refine XS.iloadN X0.here hx rfl (hb hby d2_1) rfl ?_
    show Steps p.tables e below (s₁.setTop (mkF m 2 #[.val (.int p1), .val (.int p2)] [(.int p2), (.int p1)])) _
    refine XS.icmpNo X0.here hx rfl (hb hby d2_2) rfl (flt hc2).1 ?_
    show Steps p.tables e below (s₁.setTop (mkF m 5 #[.val (.int p1), .val (.int p2)] [])) _
    refine XS.iloadN X0.here hx rfl (hb hby d2_5) rfl ?_
    show Steps p.tables e below (s₁.setTop (mkF m 6 #[.val (.int p1), .val (.int p2)] [(.int p1)])) _
    refine XS.goto X0.here hx rfl (pc0 := 6) (pc' := 10) rfl (hb hby d2_6) (by decide) (by decide) ?_
    show Steps p.tables e below (s₁.setTop (mkF m 10 #[.val (.int p1), .val (.int p2)] [(.int p1)])) _
    exact retI X0 hx Bd.returns (hb hby d2_10) hr      -- retI stands in the head ('lawwalk <made dir>' prints it)
  · show Q2 Z p1 p2 h0 n0 _ s₁.heap _
    rw [e0]
    exact ⟨own_max_f hc2, N0, rfl⟩
theorem rm2 (l : Launch) (Z : State) (a0 : Array Value) (hw : ∀ d ∈ tables_1, d.before a0 Z = true) (ws : List Jvm.Cond) (p1 : Int32) (p2 : Int32) (h0 : Heap) (n0 : Nat) (Z0 : n0 ≤ h0.size) :
    MetFree l (⟨"java/lang/Math", "max", "(II)I"⟩ : MethodName) (head1 (Jvm.Cond.code (⟨"java/lang/Math", "max", "(II)I"⟩ : MethodName) jdk_29_method_65_code 2 (some .int) :: ws) ({ frames := 0, cells := 0, slots := 0, locals := 0 } : Room)) (fun a U => a = #[(.int p1), (.int p2)] ∧ Z.Warmed39 U.vm ∧ U.heap = h0) (fun _ _ _ _ _ => True) (fun _ U o U' => ∃ v L, o = .returned v ∧ Q2 Z p1 p2 h0 n0 v U'.heap L ∧ FrameEnd U o U' L ({ frames := 0, cells := 0, slots := 0, locals := 0 } : Room).cells ({ frames := 0, cells := 0, slots := 0, locals := 0 } : Room).slots) := by
  by_cases hc2 : p1 < p2
  · exact rm2_t l Z a0 hw ws p1 p2 h0 n0 Z0 hc2
  · exact rm2_f l Z a0 hw ws p1 p2 h0 n0 Z0 hc2
theorem d4_0 : decode jdk_30_method_1_code 0 = .ok (.aload_n 0, 1) := by decide +kernel
theorem d4_1 : decode jdk_30_method_1_code 1 = .ok (.invokespecial 1, 3) := by decide +kernel
theorem d4_4 : decode jdk_30_method_1_code 4 = .ok (.return_, 1) := by decide +kernel
theorem pn_4 : plainName "java/lang/Record" = true := by first | (simp [plainName, overriddenIn]; done) | decide +kernel
theorem ef_4 (m : MethodId) (x0 : Addr) : entryFrame m #[(.ref x0)] 1 = mkF m 0 #[.val (.ref x0)] [] := by first | (simp [entryFrame, mkF, argsToLocals, Value.category]; done) | rfl
def Q4 (Z : State) (a1 : Addr) (h0 : Heap) (n0 : Nat) (v : Option Value) (h : Heap) (L : List Loc) : Prop := v = none ∧ Fr n0 L ∧ h = h0
set_option maxRecDepth 65536 in
set_option maxHeartbeats 40000000 in
theorem rm4 (l : Launch) (Z : State) (a0 : Array Value) (hw : ∀ d ∈ tables_1, d.before a0 Z = true) (ws : List Jvm.Cond) (a1 : Addr) (h0 : Heap) (n0 : Nat) (Z0 : n0 ≤ h0.size) :
    MetFree l (⟨"java/lang/Record", "<init>", "()V"⟩ : MethodName) (head1 (Jvm.Cond.code (⟨"java/lang/Record", "<init>", "()V"⟩ : MethodName) jdk_30_method_1_code 1 none :: ws) ({ frames := 1, cells := 0, slots := 0, locals := 12 } : Room)) (fun a U => a = #[(.ref a1)] ∧ Z.Warmed39 U.vm ∧ U.heap = h0) (fun _ _ _ _ _ => True) (fun _ U o U' => ∃ v L, o = .returned v ∧ Q4 Z a1 h0 n0 v U'.heap L ∧ FrameEnd U o U' L ({ frames := 1, cells := 0, slots := 0, locals := 12 } : Room).cells ({ frames := 1, cells := 0, slots := 0, locals := 12 } : Room).slots) := by
  refine MetFree.of_bodySF (plainFor_of_name pn_4) hisR ?_
  intro p e s m args below meth c s₁ Bd hml0 hP hK
  obtain ⟨rfl, hZ, hh⟩ := hP
  have hx := Bd.exec
  have hby := Bd.bytes
  have hml : c.maxLocals = 1 := hml0
  have hown : s.vm.findClass "java/lang/Record" = some m.cls := findClass_of_methodNamed Bd.named
  have hnm := (name_of_methodNamed Bd.named Bd.method).1
  have X0 : Stand p l e ({ frames := 1, cells := 0, slots := 0, locals := 12 } : Room) s m #[(.ref a1)] below meth c s₁ [] 0 0 := Stand.of_body Bd
  have e0 : s₁.heap = h0 := by rw [← hh, Bd.state]; rfl
  have N0 := Fr.nil n0
  have pre0 : ∀ t, Steps p.tables e below (s₁.setTop (mkF m 0 #[.val (.ref a1)] [])) t → Steps p.tables e below (s₁.setTop (entryFrame m #[(.ref a1)] 1)) t := fun t k => castTop (ef_4 m a1) k
  obtain ⟨T2, X2, e2, st2⟩ := initO X0 hx hZ hown (hw _ (List.mem_of_getElem? (i := 19) rfl)) (hw _ (List.mem_of_getElem? (i := 20) rfl)) (hw _ (List.mem_of_getElem? (i := 21) rfl)) e0 (g := (mkF m 1 #[.val (.ref a1)] [(.ref a1)])) rfl (by rw [hml]; rfl) rfl (hb hby d4_1) (by decide) (W := 0) (by show 2 * 0 + _ ≤ _; exact Nat.le_of_eq rfl) (by decide)
  obtain ⟨fs, hr, hrun, hended, hW, hsame⟩ := X2.leave (v := none) (fun _ => rfl)
  refine ⟨_, _, pre0 _ ?_, hrun, hended, _, _, rfl, ?_, ⟨_, rfl⟩, hW, hsame.mono (by decide) (by decide)⟩
  · show Steps p.tables e below (s₁.setTop (mkF m 0 #[.val (.ref a1)] [])) _
    refine XS.aloadN X0.here hx rfl (hb hby d4_0) rfl rfl ?_
    show Steps p.tables e below (s₁.setTop (mkF m 1 #[.val (.ref a1)] [(.ref a1)])) _
    refine st2 _ ?_
    show Steps p.tables e below (T2.setTop (mkF m 4 #[.val (.ref a1)] [])) _
    exact X2.returnOut hx Bd.returns (hb hby d4_4) hr
  · show Q4 Z a1 h0 n0 _ T2.heap _
    rw [e2]
    exact ⟨rfl, N0, rfl⟩
theorem d3_0 : decode prog_160_method_1_code 0 = .ok (.aload_n 0, 1) := by decide +kernel
theorem d3_1 : decode prog_160_method_1_code 1 = .ok (.invokespecial 1, 3) := by decide +kernel
theorem d3_4 : decode prog_160_method_1_code 4 = .ok (.iload_n 1, 1) := by decide +kernel
theorem d3_5 : decode prog_160_method_1_code 5 = .ok (.ifCond .lt 8, 3) := by decide +kernel
theorem d3_8 : decode prog_160_method_1_code 8 = .ok (.iload_n 2, 1) := by decide +kernel
theorem d3_9 : decode prog_160_method_1_code 9 = .ok (.iload_n 1, 1) := by decide +kernel
theorem d3_10 : decode prog_160_method_1_code 10 = .ok (.if_icmp .ge 18, 3) := by decide +kernel
theorem d3_28 : decode prog_160_method_1_code 28 = .ok (.aload_n 0, 1) := by decide +kernel
theorem d3_29 : decode prog_160_method_1_code 29 = .ok (.iload_n 1, 1) := by decide +kernel
theorem d3_30 : decode prog_160_method_1_code 30 = .ok (.putfield 16, 3) := by decide +kernel
theorem d3_33 : decode prog_160_method_1_code 33 = .ok (.aload_n 0, 1) := by decide +kernel
theorem d3_34 : decode prog_160_method_1_code 34 = .ok (.iload_n 2, 1) := by decide +kernel
theorem d3_35 : decode prog_160_method_1_code 35 = .ok (.putfield 22, 3) := by decide +kernel
theorem d3_38 : decode prog_160_method_1_code 38 = .ok (.return_, 1) := by decide +kernel
theorem pn_3 : plainName "com/example/rugged_consumer/ruggedconsumer/protocol/VersionRange" = true := by first | (simp [plainName, overriddenIn]; done) | decide +kernel
theorem pd_3_2 : parseMethodDescriptor "()V" = some ⟨[], none⟩ := by decide +kernel
theorem ef_3 (m : MethodId) (x0 : Addr) (x1 : Int32) (x2 : Int32) : entryFrame m #[(.ref x0), (.int x1), (.int x2)] 3 = mkF m 0 #[.val (.ref x0), .val (.int x1), .val (.int x2)] [] := by first | (simp [entryFrame, mkF, argsToLocals, Value.category]; done) | rfl
def Q3 (Z : State) (a1 : Addr) (p2 : Int32) (p3 : Int32) (u_min_a1 : Value) (u_max_a1 : Value) (h0 : Heap) (n0 : Nat) (v : Option Value) (h : Heap) (L : List Loc) : Prop := v = none ∧ Fr n0 L ∧ Keep h0 h [a1] ∧ Exa Z h a1 "com/example/rugged_consumer/ruggedconsumer/protocol/VersionRange" ∧ Fld Z h a1 "com/example/rugged_consumer/ruggedconsumer/protocol/VersionRange" "min" "I" (.int p2) ∧ Fld Z h a1 "com/example/rugged_consumer/ruggedconsumer/protocol/VersionRange" "max" "I" (.int p3)
set_option maxRecDepth 65536 in
set_option maxHeartbeats 40000000 in
theorem rm3 (l : Launch) (Z : State) (a0 : Array Value) (hw : ∀ d ∈ tables_1, d.before a0 Z = true) (ws : List Jvm.Cond) (a1 : Addr) (p2 : Int32) (p3 : Int32) (u_min_a1 : Value) (u_max_a1 : Value) (h0 : Heap) (n0 : Nat) (Z0 : n0 ≤ h0.size) (E_a1 : Exa Z h0 a1 "com/example/rugged_consumer/ruggedconsumer/protocol/VersionRange") (F_min_a1 : Fld Z h0 a1 "com/example/rugged_consumer/ruggedconsumer/protocol/VersionRange" "min" "I" u_min_a1) (g_a1 : n0 ≤ a1) (F_max_a1 : Fld Z h0 a1 "com/example/rugged_consumer/ruggedconsumer/protocol/VersionRange" "max" "I" u_max_a1) (hc5 : ¬ (p2 < (0 : Int32))) (hc10 : ¬ (p3 < p2)) :
    MetFree l (⟨"com/example/rugged_consumer/ruggedconsumer/protocol/VersionRange", "<init>", "(II)V"⟩ : MethodName) (head1 (Jvm.Cond.code (⟨"com/example/rugged_consumer/ruggedconsumer/protocol/VersionRange", "<init>", "(II)V"⟩ : MethodName) prog_160_method_1_code 3 none :: ws) ({ frames := 2, cells := 0, slots := 0, locals := 24 } : Room)) (fun a U => a = #[(.ref a1), (.int p2), (.int p3)] ∧ Z.Warmed39 U.vm ∧ U.heap = h0) (fun _ _ _ _ _ => True) (fun _ U o U' => ∃ v L, o = .returned v ∧ Q3 Z a1 p2 p3 u_min_a1 u_max_a1 h0 n0 v U'.heap L ∧ FrameEnd U o U' L ({ frames := 2, cells := 0, slots := 0, locals := 24 } : Room).cells ({ frames := 2, cells := 0, slots := 0, locals := 24 } : Room).slots) := by
  refine MetFree.of_bodySF (plainFor_of_name pn_3) hisR ?_
  intro p e s m args below meth c s₁ Bd hml0 hP hK
  obtain ⟨rfl, hZ, hh⟩ := hP
  have hx := Bd.exec
  have hby := Bd.bytes
  have hml : c.maxLocals = 3 := hml0
  have hown : s.vm.findClass "com/example/rugged_consumer/ruggedconsumer/protocol/VersionRange" = some m.cls := findClass_of_methodNamed Bd.named
  have hnm := (name_of_methodNamed Bd.named Bd.method).1
  have X0 : Stand p l e ({ frames := 2, cells := 0, slots := 0, locals := 24 } : Room) s m #[(.ref a1), (.int p2), (.int p3)] below meth c s₁ [] 0 0 := Stand.of_body Bd
  have e0 : s₁.heap = h0 := by rw [← hh, Bd.state]; rfl
  have N0 := Fr.nil n0
  have pre0 : ∀ t, Steps p.tables e below (s₁.setTop (mkF m 0 #[.val (.ref a1), .val (.int p2), .val (.int p3)] [])) t → Steps p.tables e below (s₁.setTop (entryFrame m #[(.ref a1), (.int p2), (.int p3)] 3)) t := fun t k => castTop (ef_3 m a1 p2 p3) k
  obtain ⟨_, _, ⟨T4, L4, k4, n4⟩, -, X4, ⟨Lc4, hQ4, l4, y4, z4⟩, st4⟩ := X0.specialBack hx (y := (⟨"java/lang/Record", "<init>", "()V"⟩ : MethodName)) rfl hown (mvT hZ (hw _ (List.mem_of_getElem? (i := 14) rfl))) (mvT hZ (hw _ (List.mem_of_getElem? (i := 15) rfl))) (mvT hZ (hw _ (List.mem_of_getElem? (i := 18) rfl))) (by decide) (backOf (W := 0) (rm4 l Z a0 hw [] a1 h0 n0 Z0) hZ (hw _ (List.mem_of_getElem? (i := 18) rfl)) (hw _ (List.mem_of_getElem? (i := 17) rfl)) (by decide) (by decide)) (g := (mkF m 1 #[.val (.ref a1), .val (.int p2), .val (.int p3)] [(.ref a1)])) rfl (by rw [hml]; rfl) (Steps.refl _) (a := a1) (argsL := []) (rest := []) (lenOf pd_3_2 rfl) rfl (by show 2 * 0 + _ ≤ _; exact Nat.le_of_eq rfl) (hb hby d3_1) (fun _ _ => ⟨rfl, e0, (by decide : 0 + 0 ≤ _), (by decide : 0 + 0 ≤ _)⟩)
  dsimp only [Pt.U, Pt.locs, Pt.cells, Pt.slots] at X4 l4 y4 z4 st4 hQ4
  subst l4 y4 z4
  obtain ⟨rfl, N4q, hh4⟩ := hQ4
  have KK4 : Keep h0 T4.heap [] := by rw [hh4]; exact Keep.refl _ _      -- what it returned, that it wrote nothing old, and the rest of your Q4
  have N4 := Fr.app N0 N4q
  obtain ⟨T5, h5, X5, e5, W5, st5⟩ := putF X4 hx hZ hown (host := "") (Or.inl (hw _ (List.mem_of_getElem? (i := 22) rfl))) Via.refl rfl (F_min_a1.keep KK4 List.not_mem_nil) (E_a1.keep KK4) (Or.inr ⟨(hw _ (List.mem_of_getElem? (i := 23) rfl)), rfl, hnm⟩) (hw _ (List.mem_of_getElem? (i := 9) rfl)) (ty := .int) (by decide) rfl rfl (g := (mkF m 30 #[.val (.ref a1), .val (.int p2), .val (.int p3)] [(.int p2), (.ref a1)])) rfl rfl (hb hby d3_30)
  have Fw5 := (F_min_a1.keep KK4 List.not_mem_nil).same W5      -- the field now holds (.int p2)
  have K5 : Keep h0 h5 [a1] := (by rw [hh4]; exact Keep.refl _ _ : Keep h0 T4.heap [a1]).wr W5 (Or.inl (List.mem_of_getElem? (i := 0) rfl))
  have N5 := Fr.snoc X5 N4 g_a1
  obtain ⟨T6, h6, X6, e6, W6, st6⟩ := putF X5 hx hZ hown (host := "") (Or.inl (hw _ (List.mem_of_getElem? (i := 24) rfl))) Via.refl e5 ((F_max_a1.keep KK4 List.not_mem_nil).other W5 (Or.inr (slot_ne (Or.inr (hw _ (List.mem_of_getElem? (i := 25) rfl))) (Or.inr (hw _ (List.mem_of_getElem? (i := 23) rfl))) (by decide) (t := .int) (t' := .int) (by decide) (by decide)))) ((E_a1.keep KK4).wr W5) (Or.inr ⟨(hw _ (List.mem_of_getElem? (i := 25) rfl)), rfl, hnm⟩) (hw _ (List.mem_of_getElem? (i := 9) rfl)) (ty := .int) (by decide) rfl rfl (g := (mkF m 35 #[.val (.ref a1), .val (.int p2), .val (.int p3)] [(.int p3), (.ref a1)])) rfl rfl (hb hby d3_35)
  have Fw6 := ((F_max_a1.keep KK4 List.not_mem_nil).other W5 (Or.inr (slot_ne (Or.inr (hw _ (List.mem_of_getElem? (i := 25) rfl))) (Or.inr (hw _ (List.mem_of_getElem? (i := 23) rfl))) (by decide) (t := .int) (t' := .int) (by decide) (by decide)))).same W6      -- the field now holds (.int p3)
  have K6 : Keep h0 h6 [a1] := K5.wr W6 (Or.inl (List.mem_of_getElem? (i := 0) rfl))
  have N6 := Fr.snoc X6 N5 g_a1
  obtain ⟨fs, hr, hrun, hended, hW, hsame⟩ := X6.leave (v := none) (fun _ => rfl)
  refine ⟨_, _, pre0 _ ?_, hrun, hended, _, _, rfl, ?_, ⟨_, rfl⟩, hW, hsame.mono (by decide) (by decide)⟩
  · show Steps p.tables e below (s₁.setTop (mkF m 0 #[.val (.ref a1), .val (.int p2), .val (.int p3)] [])) _
    refine XS.aloadN X0.here hx rfl (hb hby d3_0) rfl rfl ?_
    show Steps p.tables e below (s₁.setTop (mkF m 1 #[.val (.ref a1), .val (.int p2), .val (.int p3)] [(.ref a1)])) _
    refine st4.trans ?_
    show Steps p.tables e below (T4.setTop (mkF m 4 #[.val (.ref a1), .val (.int p2), .val (.int p3)] [])) _
    refine XS.iloadN X4.here hx rfl (hb hby d3_4) rfl ?_
    show Steps p.tables e below (T4.setTop (mkF m 5 #[.val (.ref a1), .val (.int p2), .val (.int p3)] [(.int p2)])) _
    refine XS.ifNo X4.here hx rfl (hb hby d3_5) rfl ((if0 _ _).trans (flt hc5).1) ?_
    show Steps p.tables e below (T4.setTop (mkF m 8 #[.val (.ref a1), .val (.int p2), .val (.int p3)] [])) _
    refine XS.iloadN X4.here hx rfl (hb hby d3_8) rfl ?_
    show Steps p.tables e below (T4.setTop (mkF m 9 #[.val (.ref a1), .val (.int p2), .val (.int p3)] [(.int p3)])) _
    refine XS.iloadN X4.here hx rfl (hb hby d3_9) rfl ?_
    show Steps p.tables e below (T4.setTop (mkF m 10 #[.val (.ref a1), .val (.int p2), .val (.int p3)] [(.int p2), (.int p3)])) _
    refine XS.icmpYes X4.here hx rfl (pc0 := 10) (pc' := 28) rfl (hb hby d3_10) rfl (flt hc10).2.1 (by decide) (by decide) ?_
    show Steps p.tables e below (T4.setTop (mkF m 28 #[.val (.ref a1), .val (.int p2), .val (.int p3)] [])) _
    refine XS.aloadN X4.here hx rfl (hb hby d3_28) rfl rfl ?_
    show Steps p.tables e below (T4.setTop (mkF m 29 #[.val (.ref a1), .val (.int p2), .val (.int p3)] [(.ref a1)])) _
    refine XS.iloadN X4.here hx rfl (hb hby d3_29) rfl ?_
    show Steps p.tables e below (T4.setTop (mkF m 30 #[.val (.ref a1), .val (.int p2), .val (.int p3)] [(.int p2), (.ref a1)])) _
    refine st5 _ ?_
    show Steps p.tables e below (T5.setTop (mkF m 33 #[.val (.ref a1), .val (.int p2), .val (.int p3)] [])) _
    refine XS.aloadN X5.here hx rfl (hb hby d3_33) rfl rfl ?_
    show Steps p.tables e below (T5.setTop (mkF m 34 #[.val (.ref a1), .val (.int p2), .val (.int p3)] [(.ref a1)])) _
    refine XS.iloadN X5.here hx rfl (hb hby d3_34) rfl ?_
    show Steps p.tables e below (T5.setTop (mkF m 35 #[.val (.ref a1), .val (.int p2), .val (.int p3)] [(.int p3), (.ref a1)])) _
    refine st6 _ ?_
    show Steps p.tables e below (T6.setTop (mkF m 38 #[.val (.ref a1), .val (.int p2), .val (.int p3)] [])) _
    exact X6.returnOut hx Bd.returns (hb hby d3_38) hr
  · show Q3 Z a1 p2 p3 u_min_a1 u_max_a1 h0 n0 _ T6.heap _
    rw [e6]
    exact ⟨rfl, N6, K6, ((E_a1.keep KK4).wr W5).wr W6, Fw5.other W6 (Or.inr (slot_ne (Or.inr (hw _ (List.mem_of_getElem? (i := 23) rfl))) (Or.inr (hw _ (List.mem_of_getElem? (i := 25) rfl))) (by decide) (t := .int) (t' := .int) (by decide) (by decide))), Fw6⟩
theorem d6_0 : decode prog_160_method_2_code 0 = .ok (.iload_n 1, 1) := by decide +kernel
theorem d6_1 : decode prog_160_method_2_code 1 = .ok (.aload_n 0, 1) := by decide +kernel
theorem d6_2 : decode prog_160_method_2_code 2 = .ok (.getfield 16, 3) := by decide +kernel
theorem d6_5 : decode prog_160_method_2_code 5 = .ok (.if_icmp .lt 15, 3) := by decide +kernel
theorem d6_20 : decode prog_160_method_2_code 20 = .ok (.iconst 0, 1) := by decide +kernel
theorem d6_21 : decode prog_160_method_2_code 21 = .ok (.ireturn, 1) := by decide +kernel
theorem pn_6 : plainName "com/example/rugged_consumer/ruggedconsumer/protocol/VersionRange" = true := by first | (simp [plainName, overriddenIn]; done) | decide +kernel
theorem ef_6 (m : MethodId) (x0 : Addr) (x1 : Int32) : entryFrame m #[(.ref x0), (.int x1)] 2 = mkF m 0 #[.val (.ref x0), .val (.int x1)] [] := by first | (simp [entryFrame, mkF, argsToLocals, Value.category]; done) | rfl
theorem d6_8 : decode prog_160_method_2_code 8 = .ok (.iload_n 1, 1) := by decide +kernel
theorem d6_9 : decode prog_160_method_2_code 9 = .ok (.aload_n 0, 1) := by decide +kernel
theorem d6_10 : decode prog_160_method_2_code 10 = .ok (.getfield 22, 3) := by decide +kernel
theorem d6_13 : decode prog_160_method_2_code 13 = .ok (.if_icmp .gt 7, 3) := by decide +kernel
theorem d6_16 : decode prog_160_method_2_code 16 = .ok (.iconst 1, 1) := by decide +kernel
theorem d6_17 : decode prog_160_method_2_code 17 = .ok (.goto 4, 3) := by decide +kernel
def Q6 (Z : State) (a1 : Addr) (p2 : Int32) (w3 : Int32) (w5 : Int32) (h0 : Heap) (n0 : Nat) (v : Option Value) (h : Heap) (L : List Loc) : Prop := v = some (.int (own_in w3 w5 p2)) ∧ Fr n0 L ∧ h = h0
set_option maxRecDepth 65536 in
set_option maxHeartbeats 40000000 in
theorem rm6_t (l : Launch) (Z : State) (a0 : Array Value) (hw : ∀ d ∈ tables_1, d.before a0 Z = true) (ws : List Jvm.Cond) (a1 : Addr) (p2 : Int32) (w3 : Int32) (w5 : Int32) (h0 : Heap) (n0 : Nat) (Z0 : n0 ≤ h0.size) (F_min_a1 : Fld Z h0 a1 "com/example/rugged_consumer/ruggedconsumer/protocol/VersionRange" "min" "I" (.int w3)) (hc5 : p2 < w3) :
    MetFree l (⟨"com/example/rugged_consumer/ruggedconsumer/protocol/VersionRange", "contains", "(I)Z"⟩ : MethodName) (head1 (Jvm.Cond.code (⟨"com/example/rugged_consumer/ruggedconsumer/protocol/VersionRange", "contains", "(I)Z"⟩ : MethodName) prog_160_method_2_code 2 (some .boolean) :: ws) ({ frames := 0, cells := 0, slots := 0, locals := 0 } : Room)) (fun a U => a = #[(.ref a1), (.int p2)] ∧ Z.Warmed39 U.vm ∧ U.heap = h0) (fun _ _ _ _ _ => True) (fun _ U o U' => ∃ v L, o = .returned v ∧ Q6 Z a1 p2 w3 w5 h0 n0 v U'.heap L ∧ FrameEnd U o U' L ({ frames := 0, cells := 0, slots := 0, locals := 0 } : Room).cells ({ frames := 0, cells := 0, slots := 0, locals := 0 } : Room).slots) := by
  refine MetFree.of_bodySF (plainFor_of_name pn_6) hisR ?_
  intro p e s m args below meth c s₁ Bd hml0 hP hK
  obtain ⟨rfl, hZ, hh⟩ := hP
  have hx := Bd.exec
  have hby := Bd.bytes
  have hml : c.maxLocals = 2 := hml0
  have hown : s.vm.findClass "com/example/rugged_consumer/ruggedconsumer/protocol/VersionRange" = some m.cls := findClass_of_methodNamed Bd.named
  have hnm := (name_of_methodNamed Bd.named Bd.method).1
  have X0 : Stand p l e ({ frames := 0, cells := 0, slots := 0, locals := 0 } : Room) s m #[(.ref a1), (.int p2)] below meth c s₁ [] 0 0 := Stand.of_body Bd
  have e0 : s₁.heap = h0 := by rw [← hh, Bd.state]; rfl
  have N0 := Fr.nil n0
  have pre0 : ∀ t, Steps p.tables e below (s₁.setTop (mkF m 0 #[.val (.ref a1), .val (.int p2)] [])) t → Steps p.tables e below (s₁.setTop (entryFrame m #[(.ref a1), (.int p2)] 2)) t := fun t k => castTop (ef_6 m a1 p2) k
  obtain ⟨T4, X4, e4, st4⟩ := getF X0 hx hZ hown (host := "") (Or.inl (hw _ (List.mem_of_getElem? (i := 22) rfl))) Via.refl e0 F_min_a1 (g := (mkF m 2 #[.val (.ref a1), .val (.int p2)] [(.ref a1), (.int p2)])) rfl rfl (hb hby d6_2)
  obtain ⟨fs, hr, hrun, hended, hW, hsame⟩ := X4.leave (v := some (.int (0 : Int32))) (fun h => by rw [Bd.returns] at h; cases h)
  refine ⟨_, _, pre0 _ ?_, hrun, hended, _, _, rfl, ?_, ⟨_, rfl⟩, hW, hsame.mono (by decide) (by decide)⟩
  · show Steps p.tables e below (s₁.setTop (mkF m 0 #[.val (.ref a1), .val (.int p2)] [])) _
    refine XS.iloadN X0.here hx rfl (hb hby d6_0) rfl ?_
    show Steps p.tables e below (s₁.setTop (mkF m 1 #[.val (.ref a1), .val (.int p2)] [(.int p2)])) _
    refine XS.aloadN X0.here hx rfl (hb hby d6_1) rfl rfl ?_
    show Steps p.tables e below (s₁.setTop (mkF m 2 #[.val (.ref a1), .val (.int p2)] [(.ref a1), (.int p2)])) _
    refine st4 _ ?_
    show Steps p.tables e below (T4.setTop (mkF m 5 #[.val (.ref a1), .val (.int p2)] [(.int w3), (.int p2)])) _
    refine XS.icmpYes X4.here hx rfl (pc0 := 5) (pc' := 20) rfl (hb hby d6_5) rfl (tlt hc5).1 (by decide) (by decide) ?_
    show Steps p.tables e below (T4.setTop (mkF m 20 #[.val (.ref a1), .val (.int p2)] [])) _
    refine XS.iconst X4.here hx rfl (hb hby d6_20) ?_
    show Steps p.tables e below (T4.setTop (mkF m 21 #[.val (.ref a1), .val (.int p2)] [(.int (0 : Int32))])) _
    exact retN X4 hx (t := .boolean) Bd.returns (by simp) (hb hby d6_21) hr
  · show Q6 Z a1 p2 w3 w5 h0 n0 _ T4.heap _
    rw [e4]
    exact ⟨own_in_t hc5, N0, rfl⟩
set_option maxRecDepth 65536 in
set_option maxHeartbeats 40000000 in
theorem rm6_ft (l : Launch) (Z : State) (a0 : Array Value) (hw : ∀ d ∈ tables_1, d.before a0 Z = true) (ws : List Jvm.Cond) (a1 : Addr) (p2 : Int32) (w3 : Int32) (w5 : Int32) (h0 : Heap) (n0 : Nat) (Z0 : n0 ≤ h0.size) (F_min_a1 : Fld Z h0 a1 "com/example/rugged_consumer/ruggedconsumer/protocol/VersionRange" "min" "I" (.int w3)) (F_max_a1 : Fld Z h0 a1 "com/example/rugged_consumer/ruggedconsumer/protocol/VersionRange" "max" "I" (.int w5)) (hc5 : ¬ (p2 < w3)) (hc13 : w5 < p2) :
    MetFree l (⟨"com/example/rugged_consumer/ruggedconsumer/protocol/VersionRange", "contains", "(I)Z"⟩ : MethodName) (head1 (Jvm.Cond.code (⟨"com/example/rugged_consumer/ruggedconsumer/protocol/VersionRange", "contains", "(I)Z"⟩ : MethodName) prog_160_method_2_code 2 (some .boolean) :: ws) ({ frames := 0, cells := 0, slots := 0, locals := 0 } : Room)) (fun a U => a = #[(.ref a1), (.int p2)] ∧ Z.Warmed39 U.vm ∧ U.heap = h0) (fun _ _ _ _ _ => True) (fun _ U o U' => ∃ v L, o = .returned v ∧ Q6 Z a1 p2 w3 w5 h0 n0 v U'.heap L ∧ FrameEnd U o U' L ({ frames := 0, cells := 0, slots := 0, locals := 0 } : Room).cells ({ frames := 0, cells := 0, slots := 0, locals := 0 } : Room).slots) := by
  refine MetFree.of_bodySF (plainFor_of_name pn_6) hisR ?_
  intro p e s m args below meth c s₁ Bd hml0 hP hK
  obtain ⟨rfl, hZ, hh⟩ := hP
  have hx := Bd.exec
  have hby := Bd.bytes
  have hml : c.maxLocals = 2 := hml0
  have hown : s.vm.findClass "com/example/rugged_consumer/ruggedconsumer/protocol/VersionRange" = some m.cls := findClass_of_methodNamed Bd.named
  have hnm := (name_of_methodNamed Bd.named Bd.method).1
  have X0 : Stand p l e ({ frames := 0, cells := 0, slots := 0, locals := 0 } : Room) s m #[(.ref a1), (.int p2)] below meth c s₁ [] 0 0 := Stand.of_body Bd
  have e0 : s₁.heap = h0 := by rw [← hh, Bd.state]; rfl
  have N0 := Fr.nil n0
  have pre0 : ∀ t, Steps p.tables e below (s₁.setTop (mkF m 0 #[.val (.ref a1), .val (.int p2)] [])) t → Steps p.tables e below (s₁.setTop (entryFrame m #[(.ref a1), (.int p2)] 2)) t := fun t k => castTop (ef_6 m a1 p2) k
  obtain ⟨T4, X4, e4, st4⟩ := getF X0 hx hZ hown (host := "") (Or.inl (hw _ (List.mem_of_getElem? (i := 22) rfl))) Via.refl e0 F_min_a1 (g := (mkF m 2 #[.val (.ref a1), .val (.int p2)] [(.ref a1), (.int p2)])) rfl rfl (hb hby d6_2)
  obtain ⟨T6, X6, e6, st6⟩ := getF X4 hx hZ hown (host := "") (Or.inl (hw _ (List.mem_of_getElem? (i := 24) rfl))) Via.refl e4 F_max_a1 (g := (mkF m 10 #[.val (.ref a1), .val (.int p2)] [(.ref a1), (.int p2)])) rfl rfl (hb hby d6_10)
  obtain ⟨fs, hr, hrun, hended, hW, hsame⟩ := X6.leave (v := some (.int (0 : Int32))) (fun h => by rw [Bd.returns] at h; cases h)
  refine ⟨_, _, pre0 _ ?_, hrun, hended, _, _, rfl, ?_, ⟨_, rfl⟩, hW, hsame.mono (by decide) (by decide)⟩
  · show Steps p.tables e below (s₁.setTop (mkF m 0 #[.val (.ref a1), .val (.int p2)] [])) _
    refine XS.iloadN X0.here hx rfl (hb hby d6_0) rfl ?_
    show Steps p.tables e below (s₁.setTop (mkF m 1 #[.val (.ref a1), .val (.int p2)] [(.int p2)])) _
    refine XS.aloadN X0.here hx rfl (hb hby d6_1) rfl rfl ?_
    show Steps p.tables e below (s₁.setTop (mkF m 2 #[.val (.ref a1), .val (.int p2)] [(.ref a1), (.int p2)])) _
    refine st4 _ ?_
    show Steps p.tables e below (T4.setTop (mkF m 5 #[.val (.ref a1), .val (.int p2)] [(.int w3), (.int p2)])) _
    refine XS.icmpNo X4.here hx rfl (hb hby d6_5) rfl (flt hc5).1 ?_
    show Steps p.tables e below (T4.setTop (mkF m 8 #[.val (.ref a1), .val (.int p2)] [])) _
    refine XS.iloadN X4.here hx rfl (hb hby d6_8) rfl ?_
    show Steps p.tables e below (T4.setTop (mkF m 9 #[.val (.ref a1), .val (.int p2)] [(.int p2)])) _
    refine XS.aloadN X4.here hx rfl (hb hby d6_9) rfl rfl ?_
    show Steps p.tables e below (T4.setTop (mkF m 10 #[.val (.ref a1), .val (.int p2)] [(.ref a1), (.int p2)])) _
    refine st6 _ ?_
    show Steps p.tables e below (T6.setTop (mkF m 13 #[.val (.ref a1), .val (.int p2)] [(.int w5), (.int p2)])) _
    refine XS.icmpYes X6.here hx rfl (pc0 := 13) (pc' := 20) rfl (hb hby d6_13) rfl (tlt hc13).2.2.1 (by decide) (by decide) ?_
    show Steps p.tables e below (T6.setTop (mkF m 20 #[.val (.ref a1), .val (.int p2)] [])) _
    refine XS.iconst X6.here hx rfl (hb hby d6_20) ?_
    show Steps p.tables e below (T6.setTop (mkF m 21 #[.val (.ref a1), .val (.int p2)] [(.int (0 : Int32))])) _
    exact retN X6 hx (t := .boolean) Bd.returns (by simp) (hb hby d6_21) hr
  · show Q6 Z a1 p2 w3 w5 h0 n0 _ T6.heap _
    rw [e6]
    exact ⟨own_in_ft hc5 hc13, N0, rfl⟩
set_option maxRecDepth 65536 in
set_option maxHeartbeats 40000000 in
theorem rm6_ff (l : Launch) (Z : State) (a0 : Array Value) (hw : ∀ d ∈ tables_1, d.before a0 Z = true) (ws : List Jvm.Cond) (a1 : Addr) (p2 : Int32) (w3 : Int32) (w5 : Int32) (h0 : Heap) (n0 : Nat) (Z0 : n0 ≤ h0.size) (F_min_a1 : Fld Z h0 a1 "com/example/rugged_consumer/ruggedconsumer/protocol/VersionRange" "min" "I" (.int w3)) (F_max_a1 : Fld Z h0 a1 "com/example/rugged_consumer/ruggedconsumer/protocol/VersionRange" "max" "I" (.int w5)) (hc5 : ¬ (p2 < w3)) (hc13 : ¬ (w5 < p2)) :
    MetFree l (⟨"com/example/rugged_consumer/ruggedconsumer/protocol/VersionRange", "contains", "(I)Z"⟩ : MethodName) (head1 (Jvm.Cond.code (⟨"com/example/rugged_consumer/ruggedconsumer/protocol/VersionRange", "contains", "(I)Z"⟩ : MethodName) prog_160_method_2_code 2 (some .boolean) :: ws) ({ frames := 0, cells := 0, slots := 0, locals := 0 } : Room)) (fun a U => a = #[(.ref a1), (.int p2)] ∧ Z.Warmed39 U.vm ∧ U.heap = h0) (fun _ _ _ _ _ => True) (fun _ U o U' => ∃ v L, o = .returned v ∧ Q6 Z a1 p2 w3 w5 h0 n0 v U'.heap L ∧ FrameEnd U o U' L ({ frames := 0, cells := 0, slots := 0, locals := 0 } : Room).cells ({ frames := 0, cells := 0, slots := 0, locals := 0 } : Room).slots) := by
  refine MetFree.of_bodySF (plainFor_of_name pn_6) hisR ?_
  intro p e s m args below meth c s₁ Bd hml0 hP hK
  obtain ⟨rfl, hZ, hh⟩ := hP
  have hx := Bd.exec
  have hby := Bd.bytes
  have hml : c.maxLocals = 2 := hml0
  have hown : s.vm.findClass "com/example/rugged_consumer/ruggedconsumer/protocol/VersionRange" = some m.cls := findClass_of_methodNamed Bd.named
  have hnm := (name_of_methodNamed Bd.named Bd.method).1
  have X0 : Stand p l e ({ frames := 0, cells := 0, slots := 0, locals := 0 } : Room) s m #[(.ref a1), (.int p2)] below meth c s₁ [] 0 0 := Stand.of_body Bd
  have e0 : s₁.heap = h0 := by rw [← hh, Bd.state]; rfl
  have N0 := Fr.nil n0
  have pre0 : ∀ t, Steps p.tables e below (s₁.setTop (mkF m 0 #[.val (.ref a1), .val (.int p2)] [])) t → Steps p.tables e below (s₁.setTop (entryFrame m #[(.ref a1), (.int p2)] 2)) t := fun t k => castTop (ef_6 m a1 p2) k
  obtain ⟨T4, X4, e4, st4⟩ := getF X0 hx hZ hown (host := "") (Or.inl (hw _ (List.mem_of_getElem? (i := 22) rfl))) Via.refl e0 F_min_a1 (g := (mkF m 2 #[.val (.ref a1), .val (.int p2)] [(.ref a1), (.int p2)])) rfl rfl (hb hby d6_2)
  obtain ⟨T6, X6, e6, st6⟩ := getF X4 hx hZ hown (host := "") (Or.inl (hw _ (List.mem_of_getElem? (i := 24) rfl))) Via.refl e4 F_max_a1 (g := (mkF m 10 #[.val (.ref a1), .val (.int p2)] [(.ref a1), (.int p2)])) rfl rfl (hb hby d6_10)
  obtain ⟨fs, hr, hrun, hended, hW, hsame⟩ := X6.leave (v := some (.int (1 : Int32))) (fun h => by rw [Bd.returns] at h; cases h)
  refine ⟨_, _, pre0 _ ?_, hrun, hended, _, _, rfl, ?_, ⟨_, rfl⟩, hW, hsame.mono (by decide) (by decide)⟩
  · show Steps p.tables e below (s₁.setTop (mkF m 0 #[.val (.ref a1), .val (.int p2)] [])) _
    refine XS.iloadN X0.here hx rfl (hb hby d6_0) rfl ?_
    show Steps p.tables e below (s₁.setTop (mkF m 1 #[.val (.ref a1), .val (.int p2)] [(.int p2)])) _
    refine XS.aloadN X0.here hx rfl (hb hby d6_1) rfl rfl ?_
    show Steps p.tables e below (s₁.setTop (mkF m 2 #[.val (.ref a1), .val (.int p2)] [(.ref a1), (.int p2)])) _
    refine st4 _ ?_
    show Steps p.tables e below (T4.setTop (mkF m 5 #[.val (.ref a1), .val (.int p2)] [(.int w3), (.int p2)])) _
    refine XS.icmpNo X4.here hx rfl (hb hby d6_5) rfl (flt hc5).1 ?_
    show Steps p.tables e below (T4.setTop (mkF m 8 #[.val (.ref a1), .val (.int p2)] [])) _
    refine XS.iloadN X4.here hx rfl (hb hby d6_8) rfl ?_
    show Steps p.tables e below (T4.setTop (mkF m 9 #[.val (.ref a1), .val (.int p2)] [(.int p2)])) _
    refine XS.aloadN X4.here hx rfl (hb hby d6_9) rfl rfl ?_
    show Steps p.tables e below (T4.setTop (mkF m 10 #[.val (.ref a1), .val (.int p2)] [(.ref a1), (.int p2)])) _
    refine st6 _ ?_
    show Steps p.tables e below (T6.setTop (mkF m 13 #[.val (.ref a1), .val (.int p2)] [(.int w5), (.int p2)])) _
    refine XS.icmpNo X6.here hx rfl (hb hby d6_13) rfl (flt hc13).2.2.1 ?_
    show Steps p.tables e below (T6.setTop (mkF m 16 #[.val (.ref a1), .val (.int p2)] [])) _
    refine XS.iconst X6.here hx rfl (hb hby d6_16) ?_
    show Steps p.tables e below (T6.setTop (mkF m 17 #[.val (.ref a1), .val (.int p2)] [(.int (1 : Int32))])) _
    refine XS.goto X6.here hx rfl (pc0 := 17) (pc' := 21) rfl (hb hby d6_17) (by decide) (by decide) ?_
    show Steps p.tables e below (T6.setTop (mkF m 21 #[.val (.ref a1), .val (.int p2)] [(.int (1 : Int32))])) _
    exact retN X6 hx (t := .boolean) Bd.returns (by simp) (hb hby d6_21) hr
  · show Q6 Z a1 p2 w3 w5 h0 n0 _ T6.heap _
    rw [e6]
    exact ⟨own_in_ff hc5 hc13, N0, rfl⟩
theorem rm6 (l : Launch) (Z : State) (a0 : Array Value) (hw : ∀ d ∈ tables_1, d.before a0 Z = true) (ws : List Jvm.Cond) (a1 : Addr) (p2 : Int32) (w3 : Int32) (w5 : Int32) (h0 : Heap) (n0 : Nat) (Z0 : n0 ≤ h0.size) (F_min_a1 : Fld Z h0 a1 "com/example/rugged_consumer/ruggedconsumer/protocol/VersionRange" "min" "I" (.int w3)) (F_max_a1 : Fld Z h0 a1 "com/example/rugged_consumer/ruggedconsumer/protocol/VersionRange" "max" "I" (.int w5)) :
    MetFree l (⟨"com/example/rugged_consumer/ruggedconsumer/protocol/VersionRange", "contains", "(I)Z"⟩ : MethodName) (head1 (Jvm.Cond.code (⟨"com/example/rugged_consumer/ruggedconsumer/protocol/VersionRange", "contains", "(I)Z"⟩ : MethodName) prog_160_method_2_code 2 (some .boolean) :: ws) ({ frames := 0, cells := 0, slots := 0, locals := 0 } : Room)) (fun a U => a = #[(.ref a1), (.int p2)] ∧ Z.Warmed39 U.vm ∧ U.heap = h0) (fun _ _ _ _ _ => True) (fun _ U o U' => ∃ v L, o = .returned v ∧ Q6 Z a1 p2 w3 w5 h0 n0 v U'.heap L ∧ FrameEnd U o U' L ({ frames := 0, cells := 0, slots := 0, locals := 0 } : Room).cells ({ frames := 0, cells := 0, slots := 0, locals := 0 } : Room).slots) := by
  by_cases hc5 : p2 < w3
  · exact rm6_t l Z a0 hw ws a1 p2 w3 w5 h0 n0 Z0 F_min_a1 hc5
  · by_cases hc13 : w5 < p2
    · exact rm6_ft l Z a0 hw ws a1 p2 w3 w5 h0 n0 Z0 F_min_a1 F_max_a1 hc5 hc13
    · exact rm6_ff l Z a0 hw ws a1 p2 w3 w5 h0 n0 Z0 F_min_a1 F_max_a1 hc5 hc13
theorem pn_0 : plainName "com/example/rugged_consumer/ruggedconsumer/protocol/VersionRangeContainsPinLaw" = true := by first | (simp [plainName, overriddenIn]; done) | decide +kernel
theorem pd_0_0 : parseMethodDescriptor "(II)I" = some ⟨[.int, .int], some .int⟩ := by decide +kernel
theorem pd_0_1 : parseMethodDescriptor "(II)V" = some ⟨[.int, .int], none⟩ := by decide +kernel
theorem pd_0_3 : parseMethodDescriptor "(I)Z" = some ⟨[.int], some .boolean⟩ := by decide +kernel
theorem ef_0 (m : MethodId) (x0 : Int32) (x1 : Int32) (x2 : Int32) : entryFrame m #[(.int x0), (.int x1), (.int x2)] maxLocals = mkF m 0 #[.val (.int x0), .val (.int x1), .val (.int x2), .unset, .unset, .unset, .unset, .unset, .unset, .unset] [] := by first | (simp [entryFrame, mkF, argsToLocals, Value.category, maxLocals]; done) | rfl
def Q0 (Z : State) (p1 : Int32) (p2 : Int32) (p3 : Int32) (h0 : Heap) (n0 : Nat) (v : Option Value) (h : Heap) (L : List Loc) : Prop := v = some (.int (1 : Int32)) ∧ Fr n0 L
set_option maxRecDepth 65536 in
set_option maxHeartbeats 40000000 in
theorem rm0_tttttft (l : Launch) (Z : State) (a0 : Array Value) (hw : ∀ d ∈ tables_1, d.before a0 Z = true) (ws : List Jvm.Cond) (p1 : Int32) (p2 : Int32) (p3 : Int32) (h0 : Heap) (n0 : Nat) (Z0 : n0 ≤ h0.size) (hE : ¬ ((own_max (own_min (p1 &&& (2147483647 : Int32)) (p2 &&& (2147483647 : Int32))) (own_min p3 (own_max (p1 &&& (2147483647 : Int32)) (p2 &&& (2147483647 : Int32))))) = p3)) (hM : ¬ ((own_max (p1 &&& (2147483647 : Int32)) (p2 &&& (2147483647 : Int32))) = (2147483647 : Int32))) :
    MetFree l x (head1 (Jvm.Cond.code x code maxLocals ret :: ws) room_1) (fun a U => a = #[(.int p1), (.int p2), (.int p3)] ∧ Z.Warmed39 U.vm ∧ U.heap = h0) (fun _ _ _ _ _ => True) (fun _ U o U' => ∃ v L, o = .returned v ∧ Q0 Z p1 p2 p3 h0 n0 v U'.heap L ∧ FrameEnd U o U' L room_1.cells room_1.slots) := by
  refine MetFree.of_bodySF (plainFor_of_name pn_0) hisR ?_
  intro p e s m args below meth c s₁ Bd hml0 hP hK
  obtain ⟨rfl, hZ, hh⟩ := hP
  have hx := Bd.exec
  have hby := Bd.bytes
  have hml : c.maxLocals = 10 := hml0
  have hown : s.vm.findClass "com/example/rugged_consumer/ruggedconsumer/protocol/VersionRangeContainsPinLaw" = some m.cls := findClass_of_methodNamed Bd.named
  have hnm := (name_of_methodNamed Bd.named Bd.method).1
  have X0 : Stand p l e room_1 s m #[(.int p1), (.int p2), (.int p3)] below meth c s₁ [] 0 0 := Stand.of_body Bd
  have e0 : s₁.heap = h0 := by rw [← hh, Bd.state]; rfl
  have N0 := Fr.nil n0
  have pre0 : ∀ t, Steps p.tables e below (s₁.setTop (mkF m 0 #[.val (.int p1), .val (.int p2), .val (.int p3), .unset, .unset, .unset, .unset, .unset, .unset, .unset] [])) t → Steps p.tables e below (s₁.setTop (entryFrame m #[(.int p1), (.int p2), (.int p3)] maxLocals)) t := fun t k => castTop (ef_0 m p1 p2 p3) k
  obtain ⟨_, _, ⟨T4, L4, k4, n4⟩, -, X4, ⟨Lc4, hQ4, l4, y4, z4⟩, st4⟩ := Jvm.LawKit.callS X0 hx (y := (⟨"java/lang/Math", "min", "(II)I"⟩ : MethodName)) hown (mvT hZ (hw _ (List.mem_of_getElem? (i := 1) rfl))) (mvT hZ (hw _ (List.mem_of_getElem? (i := 2) rfl))) (mvT hZ (hw _ (List.mem_of_getElem? (i := 3) rfl))) (mvT hZ (hw _ (List.mem_of_getElem? (i := 4) rfl))) (by decide) (backOf (W := 0) (rm1 l Z a0 hw [] (p1 &&& (2147483647 : Int32)) (p2 &&& (2147483647 : Int32)) h0 n0 Z0) hZ (hw _ (List.mem_of_getElem? (i := 4) rfl)) (hw _ (List.mem_of_getElem? (i := 3) rfl)) (by decide) (by decide)) (g := (mkF m 14 #[.val (.int p1), .val (.int p2), .val (.int p3), .val (.int (p1 &&& (2147483647 : Int32))), .val (.int (p2 &&& (2147483647 : Int32))), .unset, .unset, .unset, .unset, .unset] [(.int (p2 &&& (2147483647 : Int32))), (.int (p1 &&& (2147483647 : Int32)))])) rfl (by rw [hml]; rfl) (argsL := [(.int (p1 &&& (2147483647 : Int32))), (.int (p2 &&& (2147483647 : Int32)))]) (rest := []) (lenOf pd_0_0 rfl) rfl (by show 2 * 0 + _ ≤ _; exact Nat.le_of_eq rfl) (hb hby at_14) (fun _ _ => ⟨rfl, e0, (by decide : 0 + 0 ≤ _), (by decide : 0 + 0 ≤ _)⟩)
  dsimp only [Pt.U, Pt.locs, Pt.cells, Pt.slots] at X4 l4 y4 z4 st4 hQ4
  subst l4 y4 z4
  obtain ⟨rfl, N4q, hh4⟩ := hQ4
  have KK4 : Keep h0 T4.heap [] := by rw [hh4]; exact Keep.refl _ _
  have Z4 : n0 ≤ T4.heap.size := Nat.le_trans Z0 KK4.1      -- what it returned, that it wrote nothing old, and the rest of your Q1
  have N4 := Fr.app N0 N4q
  obtain ⟨_, _, ⟨T5, L5, k5, n5⟩, -, X5, ⟨Lc5, hQ5, l5, y5, z5⟩, st5⟩ := Jvm.LawKit.callS X4 hx (y := (⟨"java/lang/Math", "max", "(II)I"⟩ : MethodName)) hown (mvT hZ (hw _ (List.mem_of_getElem? (i := 5) rfl))) (mvT hZ (hw _ (List.mem_of_getElem? (i := 6) rfl))) (mvT hZ (hw _ (List.mem_of_getElem? (i := 3) rfl))) (mvT hZ (hw _ (List.mem_of_getElem? (i := 7) rfl))) (by decide) (backOf (W := 0) (rm2 l Z a0 hw [] (p1 &&& (2147483647 : Int32)) (p2 &&& (2147483647 : Int32)) T4.heap n0 Z4) hZ (hw _ (List.mem_of_getElem? (i := 7) rfl)) (hw _ (List.mem_of_getElem? (i := 3) rfl)) (by decide) (by decide)) (g := (mkF m 22 #[.val (.int p1), .val (.int p2), .val (.int p3), .val (.int (p1 &&& (2147483647 : Int32))), .val (.int (p2 &&& (2147483647 : Int32))), .val (.int (own_min (p1 &&& (2147483647 : Int32)) (p2 &&& (2147483647 : Int32)))), .unset, .unset, .unset, .unset] [(.int (p2 &&& (2147483647 : Int32))), (.int (p1 &&& (2147483647 : Int32)))])) rfl (by rw [hml]; rfl) (argsL := [(.int (p1 &&& (2147483647 : Int32))), (.int (p2 &&& (2147483647 : Int32)))]) (rest := []) (lenOf pd_0_0 rfl) rfl (by show 2 * 0 + _ ≤ _; exact Nat.le_of_eq rfl) (hb hby at_22) (fun _ _ => ⟨rfl, rfl, (by decide : 0 + 0 ≤ _), (by decide : 0 + 0 ≤ _)⟩)
  dsimp only [Pt.U, Pt.locs, Pt.cells, Pt.slots] at X5 l5 y5 z5 st5 hQ5
  subst l5 y5 z5
  obtain ⟨rfl, N5q, hh5⟩ := hQ5
  have KK5 : Keep T4.heap T5.heap [] := by rw [hh5]; exact Keep.refl _ _
  have KH5 : Keep h0 T5.heap [] := by rw [hh5, hh4]; exact Keep.refl _ _      -- what it returned, that it wrote nothing old, and the rest of your Q2
  have N5 := Fr.app N4 N5q
  obtain ⟨T6, h6, X6, e6, E6, A6, D6, -, st6⟩ := newO X5 hx hZ hown (hw _ (List.mem_of_getElem? (i := 8) rfl)) (hw _ (List.mem_of_getElem? (i := 9) rfl)) (hw _ (List.mem_of_getElem? (i := 10) rfl)) rfl (g := (mkF m 27 #[.val (.int p1), .val (.int p2), .val (.int p3), .val (.int (p1 &&& (2147483647 : Int32))), .val (.int (p2 &&& (2147483647 : Int32))), .val (.int (own_min (p1 &&& (2147483647 : Int32)) (p2 &&& (2147483647 : Int32)))), .val (.int (own_max (p1 &&& (2147483647 : Int32)) (p2 &&& (2147483647 : Int32)))), .unset, .unset, .unset] [])) rfl (hb hby at_27) (by decide) (by decide)
  obtain ⟨b6, g6⟩ : ∃ z, z = T5.heap.size := ⟨_, rfl⟩      -- the fresh object's address
  rw [← g6] at A6 D6 st6      -- A6 : Exa Z h6 b6 "com/example/rugged_consumer/ruggedconsumer/protocol/VersionRange"; E6 : Ext T5.heap h6 (carries every older fact: .ext E6)
  have F_min_b6 : Fld Z h6 b6 "com/example/rugged_consumer/ruggedconsumer/protocol/VersionRange" "min" "I" (.int (0 : Int32)) := D6 (Or.inr (hw _ (List.mem_of_getElem? (i := 23) rfl))) (ty := .int) (by decide)
  have F_max_b6 : Fld Z h6 b6 "com/example/rugged_consumer/ruggedconsumer/protocol/VersionRange" "max" "I" (.int (0 : Int32)) := D6 (Or.inr (hw _ (List.mem_of_getElem? (i := 25) rfl))) (ty := .int) (by decide)
  have E_b6 := A6
  have g_b6 : n0 ≤ b6 := Nat.le_trans (Nat.le_trans (Nat.le_trans Z0 KK4.1) KK5.1) (Nat.le_of_eq g6.symm)
  have sz_b6 : h0.size ≤ b6 := (Nat.le_trans KH5.1 (Nat.le_of_eq g6.symm))
  have K6 : Keep h0 h6 [] := KH5.ext E6
  obtain ⟨_, _, ⟨T7, L7, k7, n7⟩, -, X7, ⟨Lc7, hQ7, l7, y7, z7⟩, st7⟩ := X6.specialBack hx (y := (⟨"com/example/rugged_consumer/ruggedconsumer/protocol/VersionRange", "<init>", "(II)V"⟩ : MethodName)) rfl hown (mvT hZ (hw _ (List.mem_of_getElem? (i := 11) rfl))) (mvT hZ (hw _ (List.mem_of_getElem? (i := 12) rfl))) (mvT hZ (hw _ (List.mem_of_getElem? (i := 13) rfl))) (by decide) (backOf (W := 1) (rm3 l Z a0 hw [] b6 (own_min (p1 &&& (2147483647 : Int32)) (p2 &&& (2147483647 : Int32))) (own_max (p1 &&& (2147483647 : Int32)) (p2 &&& (2147483647 : Int32))) (.int (0 : Int32)) (.int (0 : Int32)) h6 n0 (Nat.le_trans Z0 K6.1) E_b6 F_min_b6 g_b6 F_max_b6 (own_lo0 (p1 &&& (2147483647 : Int32)) (p2 &&& (2147483647 : Int32)) (c_and p1 2147483647 (by decide)).1 (c_and p2 2147483647 (by decide)).1) (own_lohi (p1 &&& (2147483647 : Int32)) (p2 &&& (2147483647 : Int32)))) hZ (hw _ (List.mem_of_getElem? (i := 13) rfl)) (hw _ (List.mem_of_getElem? (i := 10) rfl)) (by decide) (by decide)) (g := (mkF m 35 #[.val (.int p1), .val (.int p2), .val (.int p3), .val (.int (p1 &&& (2147483647 : Int32))), .val (.int (p2 &&& (2147483647 : Int32))), .val (.int (own_min (p1 &&& (2147483647 : Int32)) (p2 &&& (2147483647 : Int32)))), .val (.int (own_max (p1 &&& (2147483647 : Int32)) (p2 &&& (2147483647 : Int32)))), .unset, .unset, .unset] [(.int (own_max (p1 &&& (2147483647 : Int32)) (p2 &&& (2147483647 : Int32)))), (.int (own_min (p1 &&& (2147483647 : Int32)) (p2 &&& (2147483647 : Int32)))), (.ref b6), (.ref b6)])) rfl (by rw [hml]; rfl) (Steps.refl _) (a := b6) (argsL := [(.int (own_min (p1 &&& (2147483647 : Int32)) (p2 &&& (2147483647 : Int32)))), (.int (own_max (p1 &&& (2147483647 : Int32)) (p2 &&& (2147483647 : Int32))))]) (rest := [(.ref b6)]) (lenOf pd_0_1 rfl) rfl (by show 2 * 0 + _ ≤ _; exact Nat.le_of_eq rfl) (hb hby at_35) (fun _ _ => ⟨rfl, e6, (by decide : 1 + 0 ≤ _), (by decide : 2 + 0 ≤ _)⟩)
  dsimp only [Pt.U, Pt.locs, Pt.cells, Pt.slots] at X7 l7 y7 z7 st7 hQ7
  subst l7 y7 z7
  obtain ⟨rfl, N7q, KK7, EE7, Fm7, Fx7⟩ := hQ7
  have Z7 : n0 ≤ T7.heap.size := Nat.le_trans (Nat.le_trans Z0 K6.1) KK7.1      -- what it returned, that it wrote nothing old, and the rest of your Q3
  have N7 := Fr.app N5 N7q
  obtain ⟨_, _, ⟨T8, L8, k8, n8⟩, -, X8, ⟨Lc8, hQ8, l8, y8, z8⟩, st8⟩ := Jvm.LawKit.callS X7 hx (y := (⟨"java/lang/Math", "min", "(II)I"⟩ : MethodName)) hown (mvT hZ (hw _ (List.mem_of_getElem? (i := 1) rfl))) (mvT hZ (hw _ (List.mem_of_getElem? (i := 2) rfl))) (mvT hZ (hw _ (List.mem_of_getElem? (i := 3) rfl))) (mvT hZ (hw _ (List.mem_of_getElem? (i := 4) rfl))) (by decide) (backOf (W := 1) (rm1 l Z a0 hw [] p3 (own_max (p1 &&& (2147483647 : Int32)) (p2 &&& (2147483647 : Int32))) T7.heap n0 Z7) hZ (hw _ (List.mem_of_getElem? (i := 4) rfl)) (hw _ (List.mem_of_getElem? (i := 3) rfl)) (by decide) (by decide)) (g := (mkF m 45 #[.val (.int p1), .val (.int p2), .val (.int p3), .val (.int (p1 &&& (2147483647 : Int32))), .val (.int (p2 &&& (2147483647 : Int32))), .val (.int (own_min (p1 &&& (2147483647 : Int32)) (p2 &&& (2147483647 : Int32)))), .val (.int (own_max (p1 &&& (2147483647 : Int32)) (p2 &&& (2147483647 : Int32)))), .val (.ref b6), .unset, .unset] [(.int (own_max (p1 &&& (2147483647 : Int32)) (p2 &&& (2147483647 : Int32)))), (.int p3), (.int (own_min (p1 &&& (2147483647 : Int32)) (p2 &&& (2147483647 : Int32))))])) rfl (by rw [hml]; rfl) (argsL := [(.int p3), (.int (own_max (p1 &&& (2147483647 : Int32)) (p2 &&& (2147483647 : Int32))))]) (rest := [(.int (own_min (p1 &&& (2147483647 : Int32)) (p2 &&& (2147483647 : Int32))))]) (lenOf pd_0_0 rfl) rfl (by show 2 * 0 + _ ≤ _; exact Nat.le_of_eq rfl) (hb hby at_45) (fun _ _ => ⟨rfl, rfl, (by decide : 1 + 0 ≤ _), (by decide : 2 + 0 ≤ _)⟩)
  dsimp only [Pt.U, Pt.locs, Pt.cells, Pt.slots] at X8 l8 y8 z8 st8 hQ8
  subst l8 y8 z8
  obtain ⟨rfl, N8q, hh8⟩ := hQ8
  have KK8 : Keep T7.heap T8.heap [] := by rw [hh8]; exact Keep.refl _ _
  have Z8 : n0 ≤ T8.heap.size := Nat.le_trans Z7 KK8.1
  have Fm8 := Fm7.keep KK8 List.not_mem_nil
  have Fx8 := Fx7.keep KK8 List.not_mem_nil      -- what it returned, that it wrote nothing old, and the rest of your Q1
  have N8 := Fr.app N7 N8q
  obtain ⟨_, _, ⟨T9, L9, k9, n9⟩, -, X9, ⟨Lc9, hQ9, l9, y9, z9⟩, st9⟩ := Jvm.LawKit.callS X8 hx (y := (⟨"java/lang/Math", "max", "(II)I"⟩ : MethodName)) hown (mvT hZ (hw _ (List.mem_of_getElem? (i := 5) rfl))) (mvT hZ (hw _ (List.mem_of_getElem? (i := 6) rfl))) (mvT hZ (hw _ (List.mem_of_getElem? (i := 3) rfl))) (mvT hZ (hw _ (List.mem_of_getElem? (i := 7) rfl))) (by decide) (backOf (W := 0) (rm2 l Z a0 hw [] (own_min (p1 &&& (2147483647 : Int32)) (p2 &&& (2147483647 : Int32))) (own_min p3 (own_max (p1 &&& (2147483647 : Int32)) (p2 &&& (2147483647 : Int32)))) T8.heap n0 Z8) hZ (hw _ (List.mem_of_getElem? (i := 7) rfl)) (hw _ (List.mem_of_getElem? (i := 3) rfl)) (by decide) (by decide)) (g := (mkF m 48 #[.val (.int p1), .val (.int p2), .val (.int p3), .val (.int (p1 &&& (2147483647 : Int32))), .val (.int (p2 &&& (2147483647 : Int32))), .val (.int (own_min (p1 &&& (2147483647 : Int32)) (p2 &&& (2147483647 : Int32)))), .val (.int (own_max (p1 &&& (2147483647 : Int32)) (p2 &&& (2147483647 : Int32)))), .val (.ref b6), .unset, .unset] [(.int (own_min p3 (own_max (p1 &&& (2147483647 : Int32)) (p2 &&& (2147483647 : Int32))))), (.int (own_min (p1 &&& (2147483647 : Int32)) (p2 &&& (2147483647 : Int32))))])) rfl (by rw [hml]; rfl) (argsL := [(.int (own_min (p1 &&& (2147483647 : Int32)) (p2 &&& (2147483647 : Int32)))), (.int (own_min p3 (own_max (p1 &&& (2147483647 : Int32)) (p2 &&& (2147483647 : Int32)))))]) (rest := []) (lenOf pd_0_0 rfl) rfl (by show 2 * 0 + _ ≤ _; exact Nat.le_of_eq rfl) (hb hby at_48) (fun _ _ => ⟨rfl, rfl, (by decide : 1 + 0 ≤ _), (by decide : 2 + 0 ≤ _)⟩)
  dsimp only [Pt.U, Pt.locs, Pt.cells, Pt.slots] at X9 l9 y9 z9 st9 hQ9
  subst l9 y9 z9
  obtain ⟨rfl, N9q, hh9⟩ := hQ9
  have KK9 : Keep T8.heap T9.heap [] := by rw [hh9]; exact Keep.refl _ _
  have Z9 : n0 ≤ T9.heap.size := Nat.le_trans Z8 KK9.1
  have Fm9 := Fm8.keep KK9 List.not_mem_nil
  have Fx9 := Fx8.keep KK9 List.not_mem_nil      -- what it returned, that it wrote nothing old, and the rest of your Q2
  have N9 := Fr.app N8 N9q
  obtain ⟨cq10, kq10, q10a, q10b, q10c⟩ := isOf hZ rfl ((EE7.keep KK8).keep KK9)
  obtain ⟨_, _, ⟨T10, L10, k10, n10⟩, -, X10, ⟨Lc10, hQ10, l10, y10, z10⟩, st10⟩ := X9.virtualBack hx (y := (⟨"com/example/rugged_consumer/ruggedconsumer/protocol/VersionRange", "contains", "(I)Z"⟩ : MethodName)) (z := (⟨"com/example/rugged_consumer/ruggedconsumer/protocol/VersionRange", "contains", "(I)Z"⟩ : MethodName)) hown (mvT hZ (hw _ (List.mem_of_getElem? (i := 26) rfl))) (mvT hZ (hw _ (List.mem_of_getElem? (i := 27) rfl))) (notFace_of_selects (args := #[]) (mvT hZ (hw _ (List.mem_of_getElem? (i := 29) rfl)))) (mvT hZ (hw _ (List.mem_of_getElem? (i := 29) rfl))) (mvT hZ (hw _ (List.mem_of_getElem? (i := 28) rfl))) (by decide) (backOf (W := 0) (rm6 l Z a0 hw [] b6 p3 (own_min (p1 &&& (2147483647 : Int32)) (p2 &&& (2147483647 : Int32))) (own_max (p1 &&& (2147483647 : Int32)) (p2 &&& (2147483647 : Int32))) T9.heap n0 Z9 Fm9 Fx9) hZ (hw _ (List.mem_of_getElem? (i := 30) rfl)) (hw _ (List.mem_of_getElem? (i := 10) rfl)) (by decide) (by decide)) q10a q10c (g := (mkF m 69 #[.val (.int p1), .val (.int p2), .val (.int p3), .val (.int (p1 &&& (2147483647 : Int32))), .val (.int (p2 &&& (2147483647 : Int32))), .val (.int (own_min (p1 &&& (2147483647 : Int32)) (p2 &&& (2147483647 : Int32)))), .val (.int (own_max (p1 &&& (2147483647 : Int32)) (p2 &&& (2147483647 : Int32)))), .val (.ref b6), .val (.int (own_max (own_min (p1 &&& (2147483647 : Int32)) (p2 &&& (2147483647 : Int32))) (own_min p3 (own_max (p1 &&& (2147483647 : Int32)) (p2 &&& (2147483647 : Int32)))))), .val (.int (0 : Int32))] [(.int p3), (.ref b6)])) rfl (by rw [hml]; rfl) (Steps.refl _) (argsL := [(.int p3)]) (rest := []) (lenOf pd_0_3 rfl) rfl (by show 2 * 0 + _ ≤ _; exact Nat.le_of_eq rfl) (hb hby at_69) (fun _ _ => ⟨rfl, rfl, (by decide : 1 + 0 ≤ _), (by decide : 2 + 0 ≤ _)⟩)
  dsimp only [Pt.U, Pt.locs, Pt.cells, Pt.slots] at X10 l10 y10 z10 st10 hQ10
  subst l10 y10 z10
  obtain ⟨rfl, N10q, hh10⟩ := hQ10
  have KK10 : Keep T9.heap T10.heap [] := by rw [hh10]; exact Keep.refl _ _
  have Z10 : n0 ≤ T10.heap.size := Nat.le_trans Z9 KK10.1
  have Fm10 := Fm9.keep KK10 List.not_mem_nil
  have Fx10 := Fx9.keep KK10 List.not_mem_nil      -- what it returned, that it wrote nothing old, and the rest of your Q6
  have N10 := Fr.app N9 N10q
  obtain ⟨cq11, kq11, q11a, q11b, q11c⟩ := isOf hZ rfl (((EE7.keep KK8).keep KK9).keep KK10)
  obtain ⟨_, _, ⟨T11, L11, k11, n11⟩, -, X11, ⟨Lc11, hQ11, l11, y11, z11⟩, st11⟩ := X10.virtualBack hx (y := (⟨"com/example/rugged_consumer/ruggedconsumer/protocol/VersionRange", "contains", "(I)Z"⟩ : MethodName)) (z := (⟨"com/example/rugged_consumer/ruggedconsumer/protocol/VersionRange", "contains", "(I)Z"⟩ : MethodName)) hown (mvT hZ (hw _ (List.mem_of_getElem? (i := 26) rfl))) (mvT hZ (hw _ (List.mem_of_getElem? (i := 27) rfl))) (notFace_of_selects (args := #[]) (mvT hZ (hw _ (List.mem_of_getElem? (i := 29) rfl)))) (mvT hZ (hw _ (List.mem_of_getElem? (i := 29) rfl))) (mvT hZ (hw _ (List.mem_of_getElem? (i := 28) rfl))) (by decide) (backOf (W := 0) (rm6 l Z a0 hw [] b6 (own_min (p1 &&& (2147483647 : Int32)) (p2 &&& (2147483647 : Int32))) (own_min (p1 &&& (2147483647 : Int32)) (p2 &&& (2147483647 : Int32))) (own_max (p1 &&& (2147483647 : Int32)) (p2 &&& (2147483647 : Int32))) T10.heap n0 Z10 Fm10 Fx10) hZ (hw _ (List.mem_of_getElem? (i := 30) rfl)) (hw _ (List.mem_of_getElem? (i := 10) rfl)) (by decide) (by decide)) q11a q11c (g := (mkF m 83 #[.val (.int p1), .val (.int p2), .val (.int p3), .val (.int (p1 &&& (2147483647 : Int32))), .val (.int (p2 &&& (2147483647 : Int32))), .val (.int (own_min (p1 &&& (2147483647 : Int32)) (p2 &&& (2147483647 : Int32)))), .val (.int (own_max (p1 &&& (2147483647 : Int32)) (p2 &&& (2147483647 : Int32)))), .val (.ref b6), .val (.int (own_max (own_min (p1 &&& (2147483647 : Int32)) (p2 &&& (2147483647 : Int32))) (own_min p3 (own_max (p1 &&& (2147483647 : Int32)) (p2 &&& (2147483647 : Int32)))))), .val (.int (0 : Int32))] [(.int (own_min (p1 &&& (2147483647 : Int32)) (p2 &&& (2147483647 : Int32)))), (.ref b6)])) rfl (by rw [hml]; rfl) (Steps.refl _) (argsL := [(.int (own_min (p1 &&& (2147483647 : Int32)) (p2 &&& (2147483647 : Int32))))]) (rest := []) (lenOf pd_0_3 rfl) rfl (by show 2 * 0 + _ ≤ _; exact Nat.le_of_eq rfl) (hb hby at_83) (fun _ _ => ⟨rfl, rfl, (by decide : 1 + 0 ≤ _), (by decide : 2 + 0 ≤ _)⟩)
  dsimp only [Pt.U, Pt.locs, Pt.cells, Pt.slots] at X11 l11 y11 z11 st11 hQ11
  subst l11 y11 z11
  obtain ⟨rfl, N11q, hh11⟩ := hQ11
  have KK11 : Keep T10.heap T11.heap [] := by rw [hh11]; exact Keep.refl _ _
  have Z11 : n0 ≤ T11.heap.size := Nat.le_trans Z10 KK11.1
  have Fm11 := Fm10.keep KK11 List.not_mem_nil
  have Fx11 := Fx10.keep KK11 List.not_mem_nil      -- what it returned, that it wrote nothing old, and the rest of your Q6
  have N11 := Fr.app N10 N11q
  obtain ⟨cq12, kq12, q12a, q12b, q12c⟩ := isOf hZ rfl ((((EE7.keep KK8).keep KK9).keep KK10).keep KK11)
  obtain ⟨_, _, ⟨T12, L12, k12, n12⟩, -, X12, ⟨Lc12, hQ12, l12, y12, z12⟩, st12⟩ := X11.virtualBack hx (y := (⟨"com/example/rugged_consumer/ruggedconsumer/protocol/VersionRange", "contains", "(I)Z"⟩ : MethodName)) (z := (⟨"com/example/rugged_consumer/ruggedconsumer/protocol/VersionRange", "contains", "(I)Z"⟩ : MethodName)) hown (mvT hZ (hw _ (List.mem_of_getElem? (i := 26) rfl))) (mvT hZ (hw _ (List.mem_of_getElem? (i := 27) rfl))) (notFace_of_selects (args := #[]) (mvT hZ (hw _ (List.mem_of_getElem? (i := 29) rfl)))) (mvT hZ (hw _ (List.mem_of_getElem? (i := 29) rfl))) (mvT hZ (hw _ (List.mem_of_getElem? (i := 28) rfl))) (by decide) (backOf (W := 0) (rm6 l Z a0 hw [] b6 (own_max (p1 &&& (2147483647 : Int32)) (p2 &&& (2147483647 : Int32))) (own_min (p1 &&& (2147483647 : Int32)) (p2 &&& (2147483647 : Int32))) (own_max (p1 &&& (2147483647 : Int32)) (p2 &&& (2147483647 : Int32))) T11.heap n0 Z11 Fm11 Fx11) hZ (hw _ (List.mem_of_getElem? (i := 30) rfl)) (hw _ (List.mem_of_getElem? (i := 10) rfl)) (by decide) (by decide)) q12a q12c (g := (mkF m 95 #[.val (.int p1), .val (.int p2), .val (.int p3), .val (.int (p1 &&& (2147483647 : Int32))), .val (.int (p2 &&& (2147483647 : Int32))), .val (.int (own_min (p1 &&& (2147483647 : Int32)) (p2 &&& (2147483647 : Int32)))), .val (.int (own_max (p1 &&& (2147483647 : Int32)) (p2 &&& (2147483647 : Int32)))), .val (.ref b6), .val (.int (own_max (own_min (p1 &&& (2147483647 : Int32)) (p2 &&& (2147483647 : Int32))) (own_min p3 (own_max (p1 &&& (2147483647 : Int32)) (p2 &&& (2147483647 : Int32)))))), .val (.int (0 : Int32))] [(.int (own_max (p1 &&& (2147483647 : Int32)) (p2 &&& (2147483647 : Int32)))), (.ref b6)])) rfl (by rw [hml]; rfl) (Steps.refl _) (argsL := [(.int (own_max (p1 &&& (2147483647 : Int32)) (p2 &&& (2147483647 : Int32))))]) (rest := []) (lenOf pd_0_3 rfl) rfl (by show 2 * 0 + _ ≤ _; exact Nat.le_of_eq rfl) (hb hby at_95) (fun _ _ => ⟨rfl, rfl, (by decide : 1 + 0 ≤ _), (by decide : 2 + 0 ≤ _)⟩)
  dsimp only [Pt.U, Pt.locs, Pt.cells, Pt.slots] at X12 l12 y12 z12 st12 hQ12
  subst l12 y12 z12
  obtain ⟨rfl, N12q, hh12⟩ := hQ12
  have KK12 : Keep T11.heap T12.heap [] := by rw [hh12]; exact Keep.refl _ _
  have Z12 : n0 ≤ T12.heap.size := Nat.le_trans Z11 KK12.1
  have Fm12 := Fm11.keep KK12 List.not_mem_nil
  have Fx12 := Fx11.keep KK12 List.not_mem_nil      -- what it returned, that it wrote nothing old, and the rest of your Q6
  have N12 := Fr.app N11 N12q
  obtain ⟨cq13, kq13, q13a, q13b, q13c⟩ := isOf hZ rfl (((((EE7.keep KK8).keep KK9).keep KK10).keep KK11).keep KK12)
  obtain ⟨_, _, ⟨T13, L13, k13, n13⟩, -, X13, ⟨Lc13, hQ13, l13, y13, z13⟩, st13⟩ := X12.virtualBack hx (y := (⟨"com/example/rugged_consumer/ruggedconsumer/protocol/VersionRange", "contains", "(I)Z"⟩ : MethodName)) (z := (⟨"com/example/rugged_consumer/ruggedconsumer/protocol/VersionRange", "contains", "(I)Z"⟩ : MethodName)) hown (mvT hZ (hw _ (List.mem_of_getElem? (i := 26) rfl))) (mvT hZ (hw _ (List.mem_of_getElem? (i := 27) rfl))) (notFace_of_selects (args := #[]) (mvT hZ (hw _ (List.mem_of_getElem? (i := 29) rfl)))) (mvT hZ (hw _ (List.mem_of_getElem? (i := 29) rfl))) (mvT hZ (hw _ (List.mem_of_getElem? (i := 28) rfl))) (by decide) (backOf (W := 0) (rm6 l Z a0 hw [] b6 ((own_min (p1 &&& (2147483647 : Int32)) (p2 &&& (2147483647 : Int32))) - (1 : Int32)) (own_min (p1 &&& (2147483647 : Int32)) (p2 &&& (2147483647 : Int32))) (own_max (p1 &&& (2147483647 : Int32)) (p2 &&& (2147483647 : Int32))) T12.heap n0 Z12 Fm12 Fx12) hZ (hw _ (List.mem_of_getElem? (i := 30) rfl)) (hw _ (List.mem_of_getElem? (i := 10) rfl)) (by decide) (by decide)) q13a q13c (g := (mkF m 109 #[.val (.int p1), .val (.int p2), .val (.int p3), .val (.int (p1 &&& (2147483647 : Int32))), .val (.int (p2 &&& (2147483647 : Int32))), .val (.int (own_min (p1 &&& (2147483647 : Int32)) (p2 &&& (2147483647 : Int32)))), .val (.int (own_max (p1 &&& (2147483647 : Int32)) (p2 &&& (2147483647 : Int32)))), .val (.ref b6), .val (.int (own_max (own_min (p1 &&& (2147483647 : Int32)) (p2 &&& (2147483647 : Int32))) (own_min p3 (own_max (p1 &&& (2147483647 : Int32)) (p2 &&& (2147483647 : Int32)))))), .val (.int (0 : Int32))] [(.int ((own_min (p1 &&& (2147483647 : Int32)) (p2 &&& (2147483647 : Int32))) - (1 : Int32))), (.ref b6)])) rfl (by rw [hml]; rfl) (Steps.refl _) (argsL := [(.int ((own_min (p1 &&& (2147483647 : Int32)) (p2 &&& (2147483647 : Int32))) - (1 : Int32)))]) (rest := []) (lenOf pd_0_3 rfl) rfl (by show 2 * 0 + _ ≤ _; exact Nat.le_of_eq rfl) (hb hby at_109) (fun _ _ => ⟨rfl, rfl, (by decide : 1 + 0 ≤ _), (by decide : 2 + 0 ≤ _)⟩)
  dsimp only [Pt.U, Pt.locs, Pt.cells, Pt.slots] at X13 l13 y13 z13 st13 hQ13
  subst l13 y13 z13
  obtain ⟨rfl, N13q, hh13⟩ := hQ13
  have KK13 : Keep T12.heap T13.heap [] := by rw [hh13]; exact Keep.refl _ _
  have Z13 : n0 ≤ T13.heap.size := Nat.le_trans Z12 KK13.1
  have Fm13 := Fm12.keep KK13 List.not_mem_nil
  have Fx13 := Fx12.keep KK13 List.not_mem_nil      -- what it returned, that it wrote nothing old, and the rest of your Q6
  have N13 := Fr.app N12 N13q
  obtain ⟨cq14, kq14, q14a, q14b, q14c⟩ := isOf hZ rfl ((((((EE7.keep KK8).keep KK9).keep KK10).keep KK11).keep KK12).keep KK13)
  obtain ⟨_, _, ⟨T14, L14, k14, n14⟩, -, X14, ⟨Lc14, hQ14, l14, y14, z14⟩, st14⟩ := X13.virtualBack hx (y := (⟨"com/example/rugged_consumer/ruggedconsumer/protocol/VersionRange", "contains", "(I)Z"⟩ : MethodName)) (z := (⟨"com/example/rugged_consumer/ruggedconsumer/protocol/VersionRange", "contains", "(I)Z"⟩ : MethodName)) hown (mvT hZ (hw _ (List.mem_of_getElem? (i := 26) rfl))) (mvT hZ (hw _ (List.mem_of_getElem? (i := 27) rfl))) (notFace_of_selects (args := #[]) (mvT hZ (hw _ (List.mem_of_getElem? (i := 29) rfl)))) (mvT hZ (hw _ (List.mem_of_getElem? (i := 29) rfl))) (mvT hZ (hw _ (List.mem_of_getElem? (i := 28) rfl))) (by decide) (backOf (W := 0) (rm6 l Z a0 hw [] b6 ((own_max (p1 &&& (2147483647 : Int32)) (p2 &&& (2147483647 : Int32))) + (1 : Int32)) (own_min (p1 &&& (2147483647 : Int32)) (p2 &&& (2147483647 : Int32))) (own_max (p1 &&& (2147483647 : Int32)) (p2 &&& (2147483647 : Int32))) T13.heap n0 Z13 Fm13 Fx13) hZ (hw _ (List.mem_of_getElem? (i := 30) rfl)) (hw _ (List.mem_of_getElem? (i := 10) rfl)) (by decide) (by decide)) q14a q14c (g := (mkF m 130 #[.val (.int p1), .val (.int p2), .val (.int p3), .val (.int (p1 &&& (2147483647 : Int32))), .val (.int (p2 &&& (2147483647 : Int32))), .val (.int (own_min (p1 &&& (2147483647 : Int32)) (p2 &&& (2147483647 : Int32)))), .val (.int (own_max (p1 &&& (2147483647 : Int32)) (p2 &&& (2147483647 : Int32)))), .val (.ref b6), .val (.int (own_max (own_min (p1 &&& (2147483647 : Int32)) (p2 &&& (2147483647 : Int32))) (own_min p3 (own_max (p1 &&& (2147483647 : Int32)) (p2 &&& (2147483647 : Int32)))))), .val (.int (0 : Int32))] [(.int ((own_max (p1 &&& (2147483647 : Int32)) (p2 &&& (2147483647 : Int32))) + (1 : Int32))), (.ref b6)])) rfl (by rw [hml]; rfl) (Steps.refl _) (argsL := [(.int ((own_max (p1 &&& (2147483647 : Int32)) (p2 &&& (2147483647 : Int32))) + (1 : Int32)))]) (rest := []) (lenOf pd_0_3 rfl) rfl (by show 2 * 0 + _ ≤ _; exact Nat.le_of_eq rfl) (hb hby at_130) (fun _ _ => ⟨rfl, rfl, (by decide : 1 + 0 ≤ _), (by decide : 2 + 0 ≤ _)⟩)
  dsimp only [Pt.U, Pt.locs, Pt.cells, Pt.slots] at X14 l14 y14 z14 st14 hQ14
  subst l14 y14 z14
  obtain ⟨rfl, N14q, hh14⟩ := hQ14
  have KK14 : Keep T13.heap T14.heap [] := by rw [hh14]; exact Keep.refl _ _
  have Z14 : n0 ≤ T14.heap.size := Nat.le_trans Z13 KK14.1
  have Fm14 := Fm13.keep KK14 List.not_mem_nil
  have Fx14 := Fx13.keep KK14 List.not_mem_nil      -- what it returned, that it wrote nothing old, and the rest of your Q6
  have N14 := Fr.app N13 N14q
  obtain ⟨fs, hr, hrun, hended, hW, hsame⟩ := X14.leave (v := some (.int (1 : Int32))) (fun h => by rw [Bd.returns] at h; cases h)
  refine ⟨_, _, pre0 _ ?_, hrun, hended, _, _, rfl, ?_, ⟨_, rfl⟩, hW, hsame.mono (by decide) (by decide)⟩
  · show Steps p.tables e below (s₁.setTop (mkF m 0 #[.val (.int p1), .val (.int p2), .val (.int p3), .unset, .unset, .unset, .unset, .unset, .unset, .unset] [])) _
    refine XS.iloadN X0.here hx rfl (hb hby at_0) rfl ?_
    show Steps p.tables e below (s₁.setTop (mkF m 1 #[.val (.int p1), .val (.int p2), .val (.int p3), .unset, .unset, .unset, .unset, .unset, .unset, .unset] [(.int p1)])) _
    refine X0.ldcInt hx hown (mvT hZ (hw _ (List.mem_of_getElem? (i := 0) rfl))) (g := (mkF m 1 #[.val (.int p1), .val (.int p2), .val (.int p3), .unset, .unset, .unset, .unset, .unset, .unset, .unset] [(.int p1)])) rfl (hb hby at_1) _ ?_
    show Steps p.tables e below (s₁.setTop (mkF m 3 #[.val (.int p1), .val (.int p2), .val (.int p3), .unset, .unset, .unset, .unset, .unset, .unset, .unset] [(.int (2147483647 : Int32)), (.int p1)])) _
    refine XS.iand X0.here hx rfl (hb hby at_3) rfl ?_
    show Steps p.tables e below (s₁.setTop (mkF m 4 #[.val (.int p1), .val (.int p2), .val (.int p3), .unset, .unset, .unset, .unset, .unset, .unset, .unset] [(.int (p1 &&& (2147483647 : Int32)))])) _
    refine XS.istoreN X0.here hx rfl (hb hby at_4) rfl (l' := #[.val (.int p1), .val (.int p2), .val (.int p3), .val (.int (p1 &&& (2147483647 : Int32))), .unset, .unset, .unset, .unset, .unset, .unset]) rfl ?_
    show Steps p.tables e below (s₁.setTop (mkF m 5 #[.val (.int p1), .val (.int p2), .val (.int p3), .val (.int (p1 &&& (2147483647 : Int32))), .unset, .unset, .unset, .unset, .unset, .unset] [])) _
    refine XS.iloadN X0.here hx rfl (hb hby at_5) rfl ?_
    show Steps p.tables e below (s₁.setTop (mkF m 6 #[.val (.int p1), .val (.int p2), .val (.int p3), .val (.int (p1 &&& (2147483647 : Int32))), .unset, .unset, .unset, .unset, .unset, .unset] [(.int p2)])) _
    refine X0.ldcInt hx hown (mvT hZ (hw _ (List.mem_of_getElem? (i := 0) rfl))) (g := (mkF m 6 #[.val (.int p1), .val (.int p2), .val (.int p3), .val (.int (p1 &&& (2147483647 : Int32))), .unset, .unset, .unset, .unset, .unset, .unset] [(.int p2)])) rfl (hb hby at_6) _ ?_
    show Steps p.tables e below (s₁.setTop (mkF m 8 #[.val (.int p1), .val (.int p2), .val (.int p3), .val (.int (p1 &&& (2147483647 : Int32))), .unset, .unset, .unset, .unset, .unset, .unset] [(.int (2147483647 : Int32)), (.int p2)])) _
    refine XS.iand X0.here hx rfl (hb hby at_8) rfl ?_
    show Steps p.tables e below (s₁.setTop (mkF m 9 #[.val (.int p1), .val (.int p2), .val (.int p3), .val (.int (p1 &&& (2147483647 : Int32))), .unset, .unset, .unset, .unset, .unset, .unset] [(.int (p2 &&& (2147483647 : Int32)))])) _
    refine XS.istore X0.here hx rfl (hb hby at_9) rfl (l' := #[.val (.int p1), .val (.int p2), .val (.int p3), .val (.int (p1 &&& (2147483647 : Int32))), .val (.int (p2 &&& (2147483647 : Int32))), .unset, .unset, .unset, .unset, .unset]) rfl ?_
    show Steps p.tables e below (s₁.setTop (mkF m 11 #[.val (.int p1), .val (.int p2), .val (.int p3), .val (.int (p1 &&& (2147483647 : Int32))), .val (.int (p2 &&& (2147483647 : Int32))), .unset, .unset, .unset, .unset, .unset] [])) _
    refine XS.iloadN X0.here hx rfl (hb hby at_11) rfl ?_
    show Steps p.tables e below (s₁.setTop (mkF m 12 #[.val (.int p1), .val (.int p2), .val (.int p3), .val (.int (p1 &&& (2147483647 : Int32))), .val (.int (p2 &&& (2147483647 : Int32))), .unset, .unset, .unset, .unset, .unset] [(.int (p1 &&& (2147483647 : Int32)))])) _
    refine XS.iload X0.here hx rfl (hb hby at_12) rfl ?_
    show Steps p.tables e below (s₁.setTop (mkF m 14 #[.val (.int p1), .val (.int p2), .val (.int p3), .val (.int (p1 &&& (2147483647 : Int32))), .val (.int (p2 &&& (2147483647 : Int32))), .unset, .unset, .unset, .unset, .unset] [(.int (p2 &&& (2147483647 : Int32))), (.int (p1 &&& (2147483647 : Int32)))])) _
    refine st4 _ ?_
    show Steps p.tables e below (T4.setTop (mkF m 17 #[.val (.int p1), .val (.int p2), .val (.int p3), .val (.int (p1 &&& (2147483647 : Int32))), .val (.int (p2 &&& (2147483647 : Int32))), .unset, .unset, .unset, .unset, .unset] [(.int (own_min (p1 &&& (2147483647 : Int32)) (p2 &&& (2147483647 : Int32))))])) _
    refine XS.istore X4.here hx rfl (hb hby at_17) rfl (l' := #[.val (.int p1), .val (.int p2), .val (.int p3), .val (.int (p1 &&& (2147483647 : Int32))), .val (.int (p2 &&& (2147483647 : Int32))), .val (.int (own_min (p1 &&& (2147483647 : Int32)) (p2 &&& (2147483647 : Int32)))), .unset, .unset, .unset, .unset]) rfl ?_
    show Steps p.tables e below (T4.setTop (mkF m 19 #[.val (.int p1), .val (.int p2), .val (.int p3), .val (.int (p1 &&& (2147483647 : Int32))), .val (.int (p2 &&& (2147483647 : Int32))), .val (.int (own_min (p1 &&& (2147483647 : Int32)) (p2 &&& (2147483647 : Int32)))), .unset, .unset, .unset, .unset] [])) _
    refine XS.iloadN X4.here hx rfl (hb hby at_19) rfl ?_
    show Steps p.tables e below (T4.setTop (mkF m 20 #[.val (.int p1), .val (.int p2), .val (.int p3), .val (.int (p1 &&& (2147483647 : Int32))), .val (.int (p2 &&& (2147483647 : Int32))), .val (.int (own_min (p1 &&& (2147483647 : Int32)) (p2 &&& (2147483647 : Int32)))), .unset, .unset, .unset, .unset] [(.int (p1 &&& (2147483647 : Int32)))])) _
    refine XS.iload X4.here hx rfl (hb hby at_20) rfl ?_
    show Steps p.tables e below (T4.setTop (mkF m 22 #[.val (.int p1), .val (.int p2), .val (.int p3), .val (.int (p1 &&& (2147483647 : Int32))), .val (.int (p2 &&& (2147483647 : Int32))), .val (.int (own_min (p1 &&& (2147483647 : Int32)) (p2 &&& (2147483647 : Int32)))), .unset, .unset, .unset, .unset] [(.int (p2 &&& (2147483647 : Int32))), (.int (p1 &&& (2147483647 : Int32)))])) _
    refine st5 _ ?_
    show Steps p.tables e below (T5.setTop (mkF m 25 #[.val (.int p1), .val (.int p2), .val (.int p3), .val (.int (p1 &&& (2147483647 : Int32))), .val (.int (p2 &&& (2147483647 : Int32))), .val (.int (own_min (p1 &&& (2147483647 : Int32)) (p2 &&& (2147483647 : Int32)))), .unset, .unset, .unset, .unset] [(.int (own_max (p1 &&& (2147483647 : Int32)) (p2 &&& (2147483647 : Int32))))])) _
    refine XS.istore X5.here hx rfl (hb hby at_25) rfl (l' := #[.val (.int p1), .val (.int p2), .val (.int p3), .val (.int (p1 &&& (2147483647 : Int32))), .val (.int (p2 &&& (2147483647 : Int32))), .val (.int (own_min (p1 &&& (2147483647 : Int32)) (p2 &&& (2147483647 : Int32)))), .val (.int (own_max (p1 &&& (2147483647 : Int32)) (p2 &&& (2147483647 : Int32)))), .unset, .unset, .unset]) rfl ?_
    show Steps p.tables e below (T5.setTop (mkF m 27 #[.val (.int p1), .val (.int p2), .val (.int p3), .val (.int (p1 &&& (2147483647 : Int32))), .val (.int (p2 &&& (2147483647 : Int32))), .val (.int (own_min (p1 &&& (2147483647 : Int32)) (p2 &&& (2147483647 : Int32)))), .val (.int (own_max (p1 &&& (2147483647 : Int32)) (p2 &&& (2147483647 : Int32)))), .unset, .unset, .unset] [])) _
    refine st6 _ ?_
    show Steps p.tables e below (T6.setTop (mkF m 30 #[.val (.int p1), .val (.int p2), .val (.int p3), .val (.int (p1 &&& (2147483647 : Int32))), .val (.int (p2 &&& (2147483647 : Int32))), .val (.int (own_min (p1 &&& (2147483647 : Int32)) (p2 &&& (2147483647 : Int32)))), .val (.int (own_max (p1 &&& (2147483647 : Int32)) (p2 &&& (2147483647 : Int32)))), .unset, .unset, .unset] [(.ref b6)])) _
    refine XS.dup X6.here hx rfl (hb hby at_30) rfl rfl ?_
    show Steps p.tables e below (T6.setTop (mkF m 31 #[.val (.int p1), .val (.int p2), .val (.int p3), .val (.int (p1 &&& (2147483647 : Int32))), .val (.int (p2 &&& (2147483647 : Int32))), .val (.int (own_min (p1 &&& (2147483647 : Int32)) (p2 &&& (2147483647 : Int32)))), .val (.int (own_max (p1 &&& (2147483647 : Int32)) (p2 &&& (2147483647 : Int32)))), .unset, .unset, .unset] [(.ref b6), (.ref b6)])) _
    refine XS.iload X6.here hx rfl (hb hby at_31) rfl ?_
    show Steps p.tables e below (T6.setTop (mkF m 33 #[.val (.int p1), .val (.int p2), .val (.int p3), .val (.int (p1 &&& (2147483647 : Int32))), .val (.int (p2 &&& (2147483647 : Int32))), .val (.int (own_min (p1 &&& (2147483647 : Int32)) (p2 &&& (2147483647 : Int32)))), .val (.int (own_max (p1 &&& (2147483647 : Int32)) (p2 &&& (2147483647 : Int32)))), .unset, .unset, .unset] [(.int (own_min (p1 &&& (2147483647 : Int32)) (p2 &&& (2147483647 : Int32)))), (.ref b6), (.ref b6)])) _
    refine XS.iload X6.here hx rfl (hb hby at_33) rfl ?_
    show Steps p.tables e below (T6.setTop (mkF m 35 #[.val (.int p1), .val (.int p2), .val (.int p3), .val (.int (p1 &&& (2147483647 : Int32))), .val (.int (p2 &&& (2147483647 : Int32))), .val (.int (own_min (p1 &&& (2147483647 : Int32)) (p2 &&& (2147483647 : Int32)))), .val (.int (own_max (p1 &&& (2147483647 : Int32)) (p2 &&& (2147483647 : Int32)))), .unset, .unset, .unset] [(.int (own_max (p1 &&& (2147483647 : Int32)) (p2 &&& (2147483647 : Int32)))), (.int (own_min (p1 &&& (2147483647 : Int32)) (p2 &&& (2147483647 : Int32)))), (.ref b6), (.ref b6)])) _
    refine st7.trans ?_
    show Steps p.tables e below (T7.setTop (mkF m 38 #[.val (.int p1), .val (.int p2), .val (.int p3), .val (.int (p1 &&& (2147483647 : Int32))), .val (.int (p2 &&& (2147483647 : Int32))), .val (.int (own_min (p1 &&& (2147483647 : Int32)) (p2 &&& (2147483647 : Int32)))), .val (.int (own_max (p1 &&& (2147483647 : Int32)) (p2 &&& (2147483647 : Int32)))), .unset, .unset, .unset] [(.ref b6)])) _
    refine XS.astore X7.here hx rfl (hb hby at_38) rfl rfl (l' := #[.val (.int p1), .val (.int p2), .val (.int p3), .val (.int (p1 &&& (2147483647 : Int32))), .val (.int (p2 &&& (2147483647 : Int32))), .val (.int (own_min (p1 &&& (2147483647 : Int32)) (p2 &&& (2147483647 : Int32)))), .val (.int (own_max (p1 &&& (2147483647 : Int32)) (p2 &&& (2147483647 : Int32)))), .val (.ref b6), .unset, .unset]) rfl ?_
    show Steps p.tables e below (T7.setTop (mkF m 40 #[.val (.int p1), .val (.int p2), .val (.int p3), .val (.int (p1 &&& (2147483647 : Int32))), .val (.int (p2 &&& (2147483647 : Int32))), .val (.int (own_min (p1 &&& (2147483647 : Int32)) (p2 &&& (2147483647 : Int32)))), .val (.int (own_max (p1 &&& (2147483647 : Int32)) (p2 &&& (2147483647 : Int32)))), .val (.ref b6), .unset, .unset] [])) _
    refine XS.iload X7.here hx rfl (hb hby at_40) rfl ?_
    show Steps p.tables e below (T7.setTop (mkF m 42 #[.val (.int p1), .val (.int p2), .val (.int p3), .val (.int (p1 &&& (2147483647 : Int32))), .val (.int (p2 &&& (2147483647 : Int32))), .val (.int (own_min (p1 &&& (2147483647 : Int32)) (p2 &&& (2147483647 : Int32)))), .val (.int (own_max (p1 &&& (2147483647 : Int32)) (p2 &&& (2147483647 : Int32)))), .val (.ref b6), .unset, .unset] [(.int (own_min (p1 &&& (2147483647 : Int32)) (p2 &&& (2147483647 : Int32))))])) _
    refine XS.iloadN X7.here hx rfl (hb hby at_42) rfl ?_
    show Steps p.tables e below (T7.setTop (mkF m 43 #[.val (.int p1), .val (.int p2), .val (.int p3), .val (.int (p1 &&& (2147483647 : Int32))), .val (.int (p2 &&& (2147483647 : Int32))), .val (.int (own_min (p1 &&& (2147483647 : Int32)) (p2 &&& (2147483647 : Int32)))), .val (.int (own_max (p1 &&& (2147483647 : Int32)) (p2 &&& (2147483647 : Int32)))), .val (.ref b6), .unset, .unset] [(.int p3), (.int (own_min (p1 &&& (2147483647 : Int32)) (p2 &&& (2147483647 : Int32))))])) _
    refine XS.iload X7.here hx rfl (hb hby at_43) rfl ?_
    show Steps p.tables e below (T7.setTop (mkF m 45 #[.val (.int p1), .val (.int p2), .val (.int p3), .val (.int (p1 &&& (2147483647 : Int32))), .val (.int (p2 &&& (2147483647 : Int32))), .val (.int (own_min (p1 &&& (2147483647 : Int32)) (p2 &&& (2147483647 : Int32)))), .val (.int (own_max (p1 &&& (2147483647 : Int32)) (p2 &&& (2147483647 : Int32)))), .val (.ref b6), .unset, .unset] [(.int (own_max (p1 &&& (2147483647 : Int32)) (p2 &&& (2147483647 : Int32)))), (.int p3), (.int (own_min (p1 &&& (2147483647 : Int32)) (p2 &&& (2147483647 : Int32))))])) _
    refine st8 _ ?_
    show Steps p.tables e below (T8.setTop (mkF m 48 #[.val (.int p1), .val (.int p2), .val (.int p3), .val (.int (p1 &&& (2147483647 : Int32))), .val (.int (p2 &&& (2147483647 : Int32))), .val (.int (own_min (p1 &&& (2147483647 : Int32)) (p2 &&& (2147483647 : Int32)))), .val (.int (own_max (p1 &&& (2147483647 : Int32)) (p2 &&& (2147483647 : Int32)))), .val (.ref b6), .unset, .unset] [(.int (own_min p3 (own_max (p1 &&& (2147483647 : Int32)) (p2 &&& (2147483647 : Int32))))), (.int (own_min (p1 &&& (2147483647 : Int32)) (p2 &&& (2147483647 : Int32))))])) _
    refine st9 _ ?_
    show Steps p.tables e below (T9.setTop (mkF m 51 #[.val (.int p1), .val (.int p2), .val (.int p3), .val (.int (p1 &&& (2147483647 : Int32))), .val (.int (p2 &&& (2147483647 : Int32))), .val (.int (own_min (p1 &&& (2147483647 : Int32)) (p2 &&& (2147483647 : Int32)))), .val (.int (own_max (p1 &&& (2147483647 : Int32)) (p2 &&& (2147483647 : Int32)))), .val (.ref b6), .unset, .unset] [(.int (own_max (own_min (p1 &&& (2147483647 : Int32)) (p2 &&& (2147483647 : Int32))) (own_min p3 (own_max (p1 &&& (2147483647 : Int32)) (p2 &&& (2147483647 : Int32))))))])) _
    refine XS.istore X9.here hx rfl (hb hby at_51) rfl (l' := #[.val (.int p1), .val (.int p2), .val (.int p3), .val (.int (p1 &&& (2147483647 : Int32))), .val (.int (p2 &&& (2147483647 : Int32))), .val (.int (own_min (p1 &&& (2147483647 : Int32)) (p2 &&& (2147483647 : Int32)))), .val (.int (own_max (p1 &&& (2147483647 : Int32)) (p2 &&& (2147483647 : Int32)))), .val (.ref b6), .val (.int (own_max (own_min (p1 &&& (2147483647 : Int32)) (p2 &&& (2147483647 : Int32))) (own_min p3 (own_max (p1 &&& (2147483647 : Int32)) (p2 &&& (2147483647 : Int32)))))), .unset]) rfl ?_
    show Steps p.tables e below (T9.setTop (mkF m 53 #[.val (.int p1), .val (.int p2), .val (.int p3), .val (.int (p1 &&& (2147483647 : Int32))), .val (.int (p2 &&& (2147483647 : Int32))), .val (.int (own_min (p1 &&& (2147483647 : Int32)) (p2 &&& (2147483647 : Int32)))), .val (.int (own_max (p1 &&& (2147483647 : Int32)) (p2 &&& (2147483647 : Int32)))), .val (.ref b6), .val (.int (own_max (own_min (p1 &&& (2147483647 : Int32)) (p2 &&& (2147483647 : Int32))) (own_min p3 (own_max (p1 &&& (2147483647 : Int32)) (p2 &&& (2147483647 : Int32)))))), .unset] [])) _
    refine XS.iload X9.here hx rfl (hb hby at_53) rfl ?_
    show Steps p.tables e below (T9.setTop (mkF m 55 #[.val (.int p1), .val (.int p2), .val (.int p3), .val (.int (p1 &&& (2147483647 : Int32))), .val (.int (p2 &&& (2147483647 : Int32))), .val (.int (own_min (p1 &&& (2147483647 : Int32)) (p2 &&& (2147483647 : Int32)))), .val (.int (own_max (p1 &&& (2147483647 : Int32)) (p2 &&& (2147483647 : Int32)))), .val (.ref b6), .val (.int (own_max (own_min (p1 &&& (2147483647 : Int32)) (p2 &&& (2147483647 : Int32))) (own_min p3 (own_max (p1 &&& (2147483647 : Int32)) (p2 &&& (2147483647 : Int32)))))), .unset] [(.int (own_max (own_min (p1 &&& (2147483647 : Int32)) (p2 &&& (2147483647 : Int32))) (own_min p3 (own_max (p1 &&& (2147483647 : Int32)) (p2 &&& (2147483647 : Int32))))))])) _
    refine XS.iloadN X9.here hx rfl (hb hby at_55) rfl ?_
    show Steps p.tables e below (T9.setTop (mkF m 56 #[.val (.int p1), .val (.int p2), .val (.int p3), .val (.int (p1 &&& (2147483647 : Int32))), .val (.int (p2 &&& (2147483647 : Int32))), .val (.int (own_min (p1 &&& (2147483647 : Int32)) (p2 &&& (2147483647 : Int32)))), .val (.int (own_max (p1 &&& (2147483647 : Int32)) (p2 &&& (2147483647 : Int32)))), .val (.ref b6), .val (.int (own_max (own_min (p1 &&& (2147483647 : Int32)) (p2 &&& (2147483647 : Int32))) (own_min p3 (own_max (p1 &&& (2147483647 : Int32)) (p2 &&& (2147483647 : Int32)))))), .unset] [(.int p3), (.int (own_max (own_min (p1 &&& (2147483647 : Int32)) (p2 &&& (2147483647 : Int32))) (own_min p3 (own_max (p1 &&& (2147483647 : Int32)) (p2 &&& (2147483647 : Int32))))))])) _
    refine XS.icmpYes X9.here hx rfl (pc0 := 56) (pc' := 63) rfl (hb hby at_56) rfl (feq (hE : ¬ ((own_max (own_min (p1 &&& (2147483647 : Int32)) (p2 &&& (2147483647 : Int32))) (own_min p3 (own_max (p1 &&& (2147483647 : Int32)) (p2 &&& (2147483647 : Int32))))) = p3))).2 (by decide) (by decide) ?_
    show Steps p.tables e below (T9.setTop (mkF m 63 #[.val (.int p1), .val (.int p2), .val (.int p3), .val (.int (p1 &&& (2147483647 : Int32))), .val (.int (p2 &&& (2147483647 : Int32))), .val (.int (own_min (p1 &&& (2147483647 : Int32)) (p2 &&& (2147483647 : Int32)))), .val (.int (own_max (p1 &&& (2147483647 : Int32)) (p2 &&& (2147483647 : Int32)))), .val (.ref b6), .val (.int (own_max (own_min (p1 &&& (2147483647 : Int32)) (p2 &&& (2147483647 : Int32))) (own_min p3 (own_max (p1 &&& (2147483647 : Int32)) (p2 &&& (2147483647 : Int32)))))), .unset] [])) _
    refine XS.iconst X9.here hx rfl (hb hby at_63) ?_
    show Steps p.tables e below (T9.setTop (mkF m 64 #[.val (.int p1), .val (.int p2), .val (.int p3), .val (.int (p1 &&& (2147483647 : Int32))), .val (.int (p2 &&& (2147483647 : Int32))), .val (.int (own_min (p1 &&& (2147483647 : Int32)) (p2 &&& (2147483647 : Int32)))), .val (.int (own_max (p1 &&& (2147483647 : Int32)) (p2 &&& (2147483647 : Int32)))), .val (.ref b6), .val (.int (own_max (own_min (p1 &&& (2147483647 : Int32)) (p2 &&& (2147483647 : Int32))) (own_min p3 (own_max (p1 &&& (2147483647 : Int32)) (p2 &&& (2147483647 : Int32)))))), .unset] [(.int (0 : Int32))])) _
    refine XS.istore X9.here hx rfl (hb hby at_64) rfl (l' := #[.val (.int p1), .val (.int p2), .val (.int p3), .val (.int (p1 &&& (2147483647 : Int32))), .val (.int (p2 &&& (2147483647 : Int32))), .val (.int (own_min (p1 &&& (2147483647 : Int32)) (p2 &&& (2147483647 : Int32)))), .val (.int (own_max (p1 &&& (2147483647 : Int32)) (p2 &&& (2147483647 : Int32)))), .val (.ref b6), .val (.int (own_max (own_min (p1 &&& (2147483647 : Int32)) (p2 &&& (2147483647 : Int32))) (own_min p3 (own_max (p1 &&& (2147483647 : Int32)) (p2 &&& (2147483647 : Int32)))))), .val (.int (0 : Int32))]) rfl ?_
    show Steps p.tables e below (T9.setTop (mkF m 66 #[.val (.int p1), .val (.int p2), .val (.int p3), .val (.int (p1 &&& (2147483647 : Int32))), .val (.int (p2 &&& (2147483647 : Int32))), .val (.int (own_min (p1 &&& (2147483647 : Int32)) (p2 &&& (2147483647 : Int32)))), .val (.int (own_max (p1 &&& (2147483647 : Int32)) (p2 &&& (2147483647 : Int32)))), .val (.ref b6), .val (.int (own_max (own_min (p1 &&& (2147483647 : Int32)) (p2 &&& (2147483647 : Int32))) (own_min p3 (own_max (p1 &&& (2147483647 : Int32)) (p2 &&& (2147483647 : Int32)))))), .val (.int (0 : Int32))] [])) _
    refine XS.aload X9.here hx rfl (hb hby at_66) rfl rfl ?_
    show Steps p.tables e below (T9.setTop (mkF m 68 #[.val (.int p1), .val (.int p2), .val (.int p3), .val (.int (p1 &&& (2147483647 : Int32))), .val (.int (p2 &&& (2147483647 : Int32))), .val (.int (own_min (p1 &&& (2147483647 : Int32)) (p2 &&& (2147483647 : Int32)))), .val (.int (own_max (p1 &&& (2147483647 : Int32)) (p2 &&& (2147483647 : Int32)))), .val (.ref b6), .val (.int (own_max (own_min (p1 &&& (2147483647 : Int32)) (p2 &&& (2147483647 : Int32))) (own_min p3 (own_max (p1 &&& (2147483647 : Int32)) (p2 &&& (2147483647 : Int32)))))), .val (.int (0 : Int32))] [(.ref b6)])) _
    refine XS.iloadN X9.here hx rfl (hb hby at_68) rfl ?_
    show Steps p.tables e below (T9.setTop (mkF m 69 #[.val (.int p1), .val (.int p2), .val (.int p3), .val (.int (p1 &&& (2147483647 : Int32))), .val (.int (p2 &&& (2147483647 : Int32))), .val (.int (own_min (p1 &&& (2147483647 : Int32)) (p2 &&& (2147483647 : Int32)))), .val (.int (own_max (p1 &&& (2147483647 : Int32)) (p2 &&& (2147483647 : Int32)))), .val (.ref b6), .val (.int (own_max (own_min (p1 &&& (2147483647 : Int32)) (p2 &&& (2147483647 : Int32))) (own_min p3 (own_max (p1 &&& (2147483647 : Int32)) (p2 &&& (2147483647 : Int32)))))), .val (.int (0 : Int32))] [(.int p3), (.ref b6)])) _
    refine st10.trans ?_
    show Steps p.tables e below (T10.setTop (mkF m 72 #[.val (.int p1), .val (.int p2), .val (.int p3), .val (.int (p1 &&& (2147483647 : Int32))), .val (.int (p2 &&& (2147483647 : Int32))), .val (.int (own_min (p1 &&& (2147483647 : Int32)) (p2 &&& (2147483647 : Int32)))), .val (.int (own_max (p1 &&& (2147483647 : Int32)) (p2 &&& (2147483647 : Int32)))), .val (.ref b6), .val (.int (own_max (own_min (p1 &&& (2147483647 : Int32)) (p2 &&& (2147483647 : Int32))) (own_min p3 (own_max (p1 &&& (2147483647 : Int32)) (p2 &&& (2147483647 : Int32)))))), .val (.int (0 : Int32))] [(.int (own_in (own_min (p1 &&& (2147483647 : Int32)) (p2 &&& (2147483647 : Int32))) (own_max (p1 &&& (2147483647 : Int32)) (p2 &&& (2147483647 : Int32))) p3))])) _
    refine XS.iload X10.here hx rfl (hb hby at_72) rfl ?_
    show Steps p.tables e below (T10.setTop (mkF m 74 #[.val (.int p1), .val (.int p2), .val (.int p3), .val (.int (p1 &&& (2147483647 : Int32))), .val (.int (p2 &&& (2147483647 : Int32))), .val (.int (own_min (p1 &&& (2147483647 : Int32)) (p2 &&& (2147483647 : Int32)))), .val (.int (own_max (p1 &&& (2147483647 : Int32)) (p2 &&& (2147483647 : Int32)))), .val (.ref b6), .val (.int (own_max (own_min (p1 &&& (2147483647 : Int32)) (p2 &&& (2147483647 : Int32))) (own_min p3 (own_max (p1 &&& (2147483647 : Int32)) (p2 &&& (2147483647 : Int32)))))), .val (.int (0 : Int32))] [(.int (0 : Int32)), (.int (own_in (own_min (p1 &&& (2147483647 : Int32)) (p2 &&& (2147483647 : Int32))) (own_max (p1 &&& (2147483647 : Int32)) (p2 &&& (2147483647 : Int32))) p3))])) _
    refine XS.icmpYes X10.here hx rfl (pc0 := 74) (pc' := 79) rfl (hb hby at_74) rfl (teq (own_cl0 (own_lohi (p1 &&& (2147483647 : Int32)) (p2 &&& (2147483647 : Int32))) hE : (own_in (own_min (p1 &&& (2147483647 : Int32)) (p2 &&& (2147483647 : Int32))) (own_max (p1 &&& (2147483647 : Int32)) (p2 &&& (2147483647 : Int32))) p3) = (0 : Int32))).1 (by decide) (by decide) ?_
    show Steps p.tables e below (T10.setTop (mkF m 79 #[.val (.int p1), .val (.int p2), .val (.int p3), .val (.int (p1 &&& (2147483647 : Int32))), .val (.int (p2 &&& (2147483647 : Int32))), .val (.int (own_min (p1 &&& (2147483647 : Int32)) (p2 &&& (2147483647 : Int32)))), .val (.int (own_max (p1 &&& (2147483647 : Int32)) (p2 &&& (2147483647 : Int32)))), .val (.ref b6), .val (.int (own_max (own_min (p1 &&& (2147483647 : Int32)) (p2 &&& (2147483647 : Int32))) (own_min p3 (own_max (p1 &&& (2147483647 : Int32)) (p2 &&& (2147483647 : Int32)))))), .val (.int (0 : Int32))] [])) _
    refine XS.aload X10.here hx rfl (hb hby at_79) rfl rfl ?_
    show Steps p.tables e below (T10.setTop (mkF m 81 #[.val (.int p1), .val (.int p2), .val (.int p3), .val (.int (p1 &&& (2147483647 : Int32))), .val (.int (p2 &&& (2147483647 : Int32))), .val (.int (own_min (p1 &&& (2147483647 : Int32)) (p2 &&& (2147483647 : Int32)))), .val (.int (own_max (p1 &&& (2147483647 : Int32)) (p2 &&& (2147483647 : Int32)))), .val (.ref b6), .val (.int (own_max (own_min (p1 &&& (2147483647 : Int32)) (p2 &&& (2147483647 : Int32))) (own_min p3 (own_max (p1 &&& (2147483647 : Int32)) (p2 &&& (2147483647 : Int32)))))), .val (.int (0 : Int32))] [(.ref b6)])) _
    refine XS.iload X10.here hx rfl (hb hby at_81) rfl ?_
    show Steps p.tables e below (T10.setTop (mkF m 83 #[.val (.int p1), .val (.int p2), .val (.int p3), .val (.int (p1 &&& (2147483647 : Int32))), .val (.int (p2 &&& (2147483647 : Int32))), .val (.int (own_min (p1 &&& (2147483647 : Int32)) (p2 &&& (2147483647 : Int32)))), .val (.int (own_max (p1 &&& (2147483647 : Int32)) (p2 &&& (2147483647 : Int32)))), .val (.ref b6), .val (.int (own_max (own_min (p1 &&& (2147483647 : Int32)) (p2 &&& (2147483647 : Int32))) (own_min p3 (own_max (p1 &&& (2147483647 : Int32)) (p2 &&& (2147483647 : Int32)))))), .val (.int (0 : Int32))] [(.int (own_min (p1 &&& (2147483647 : Int32)) (p2 &&& (2147483647 : Int32)))), (.ref b6)])) _
    refine st11.trans ?_
    show Steps p.tables e below (T11.setTop (mkF m 86 #[.val (.int p1), .val (.int p2), .val (.int p3), .val (.int (p1 &&& (2147483647 : Int32))), .val (.int (p2 &&& (2147483647 : Int32))), .val (.int (own_min (p1 &&& (2147483647 : Int32)) (p2 &&& (2147483647 : Int32)))), .val (.int (own_max (p1 &&& (2147483647 : Int32)) (p2 &&& (2147483647 : Int32)))), .val (.ref b6), .val (.int (own_max (own_min (p1 &&& (2147483647 : Int32)) (p2 &&& (2147483647 : Int32))) (own_min p3 (own_max (p1 &&& (2147483647 : Int32)) (p2 &&& (2147483647 : Int32)))))), .val (.int (0 : Int32))] [(.int (own_in (own_min (p1 &&& (2147483647 : Int32)) (p2 &&& (2147483647 : Int32))) (own_max (p1 &&& (2147483647 : Int32)) (p2 &&& (2147483647 : Int32))) (own_min (p1 &&& (2147483647 : Int32)) (p2 &&& (2147483647 : Int32)))))])) _
    refine XS.ifYes X11.here hx rfl (pc0 := 86) (pc' := 91) rfl (hb hby at_86) rfl ((if0 _ _).trans (feq ((own_ends (own_lohi (p1 &&& (2147483647 : Int32)) (p2 &&& (2147483647 : Int32)))).1 : ¬ ((own_in (own_min (p1 &&& (2147483647 : Int32)) (p2 &&& (2147483647 : Int32))) (own_max (p1 &&& (2147483647 : Int32)) (p2 &&& (2147483647 : Int32))) (own_min (p1 &&& (2147483647 : Int32)) (p2 &&& (2147483647 : Int32)))) = (0 : Int32)))).2) (by decide) (by decide) ?_
    show Steps p.tables e below (T11.setTop (mkF m 91 #[.val (.int p1), .val (.int p2), .val (.int p3), .val (.int (p1 &&& (2147483647 : Int32))), .val (.int (p2 &&& (2147483647 : Int32))), .val (.int (own_min (p1 &&& (2147483647 : Int32)) (p2 &&& (2147483647 : Int32)))), .val (.int (own_max (p1 &&& (2147483647 : Int32)) (p2 &&& (2147483647 : Int32)))), .val (.ref b6), .val (.int (own_max (own_min (p1 &&& (2147483647 : Int32)) (p2 &&& (2147483647 : Int32))) (own_min p3 (own_max (p1 &&& (2147483647 : Int32)) (p2 &&& (2147483647 : Int32)))))), .val (.int (0 : Int32))] [])) _
    refine XS.aload X11.here hx rfl (hb hby at_91) rfl rfl ?_
    show Steps p.tables e below (T11.setTop (mkF m 93 #[.val (.int p1), .val (.int p2), .val (.int p3), .val (.int (p1 &&& (2147483647 : Int32))), .val (.int (p2 &&& (2147483647 : Int32))), .val (.int (own_min (p1 &&& (2147483647 : Int32)) (p2 &&& (2147483647 : Int32)))), .val (.int (own_max (p1 &&& (2147483647 : Int32)) (p2 &&& (2147483647 : Int32)))), .val (.ref b6), .val (.int (own_max (own_min (p1 &&& (2147483647 : Int32)) (p2 &&& (2147483647 : Int32))) (own_min p3 (own_max (p1 &&& (2147483647 : Int32)) (p2 &&& (2147483647 : Int32)))))), .val (.int (0 : Int32))] [(.ref b6)])) _
    refine XS.iload X11.here hx rfl (hb hby at_93) rfl ?_
    show Steps p.tables e below (T11.setTop (mkF m 95 #[.val (.int p1), .val (.int p2), .val (.int p3), .val (.int (p1 &&& (2147483647 : Int32))), .val (.int (p2 &&& (2147483647 : Int32))), .val (.int (own_min (p1 &&& (2147483647 : Int32)) (p2 &&& (2147483647 : Int32)))), .val (.int (own_max (p1 &&& (2147483647 : Int32)) (p2 &&& (2147483647 : Int32)))), .val (.ref b6), .val (.int (own_max (own_min (p1 &&& (2147483647 : Int32)) (p2 &&& (2147483647 : Int32))) (own_min p3 (own_max (p1 &&& (2147483647 : Int32)) (p2 &&& (2147483647 : Int32)))))), .val (.int (0 : Int32))] [(.int (own_max (p1 &&& (2147483647 : Int32)) (p2 &&& (2147483647 : Int32)))), (.ref b6)])) _
    refine st12.trans ?_
    show Steps p.tables e below (T12.setTop (mkF m 98 #[.val (.int p1), .val (.int p2), .val (.int p3), .val (.int (p1 &&& (2147483647 : Int32))), .val (.int (p2 &&& (2147483647 : Int32))), .val (.int (own_min (p1 &&& (2147483647 : Int32)) (p2 &&& (2147483647 : Int32)))), .val (.int (own_max (p1 &&& (2147483647 : Int32)) (p2 &&& (2147483647 : Int32)))), .val (.ref b6), .val (.int (own_max (own_min (p1 &&& (2147483647 : Int32)) (p2 &&& (2147483647 : Int32))) (own_min p3 (own_max (p1 &&& (2147483647 : Int32)) (p2 &&& (2147483647 : Int32)))))), .val (.int (0 : Int32))] [(.int (own_in (own_min (p1 &&& (2147483647 : Int32)) (p2 &&& (2147483647 : Int32))) (own_max (p1 &&& (2147483647 : Int32)) (p2 &&& (2147483647 : Int32))) (own_max (p1 &&& (2147483647 : Int32)) (p2 &&& (2147483647 : Int32)))))])) _
    refine XS.ifYes X12.here hx rfl (pc0 := 98) (pc' := 103) rfl (hb hby at_98) rfl ((if0 _ _).trans (feq ((own_ends (own_lohi (p1 &&& (2147483647 : Int32)) (p2 &&& (2147483647 : Int32)))).2 : ¬ ((own_in (own_min (p1 &&& (2147483647 : Int32)) (p2 &&& (2147483647 : Int32))) (own_max (p1 &&& (2147483647 : Int32)) (p2 &&& (2147483647 : Int32))) (own_max (p1 &&& (2147483647 : Int32)) (p2 &&& (2147483647 : Int32)))) = (0 : Int32)))).2) (by decide) (by decide) ?_
    show Steps p.tables e below (T12.setTop (mkF m 103 #[.val (.int p1), .val (.int p2), .val (.int p3), .val (.int (p1 &&& (2147483647 : Int32))), .val (.int (p2 &&& (2147483647 : Int32))), .val (.int (own_min (p1 &&& (2147483647 : Int32)) (p2 &&& (2147483647 : Int32)))), .val (.int (own_max (p1 &&& (2147483647 : Int32)) (p2 &&& (2147483647 : Int32)))), .val (.ref b6), .val (.int (own_max (own_min (p1 &&& (2147483647 : Int32)) (p2 &&& (2147483647 : Int32))) (own_min p3 (own_max (p1 &&& (2147483647 : Int32)) (p2 &&& (2147483647 : Int32)))))), .val (.int (0 : Int32))] [])) _
    refine XS.aload X12.here hx rfl (hb hby at_103) rfl rfl ?_
    show Steps p.tables e below (T12.setTop (mkF m 105 #[.val (.int p1), .val (.int p2), .val (.int p3), .val (.int (p1 &&& (2147483647 : Int32))), .val (.int (p2 &&& (2147483647 : Int32))), .val (.int (own_min (p1 &&& (2147483647 : Int32)) (p2 &&& (2147483647 : Int32)))), .val (.int (own_max (p1 &&& (2147483647 : Int32)) (p2 &&& (2147483647 : Int32)))), .val (.ref b6), .val (.int (own_max (own_min (p1 &&& (2147483647 : Int32)) (p2 &&& (2147483647 : Int32))) (own_min p3 (own_max (p1 &&& (2147483647 : Int32)) (p2 &&& (2147483647 : Int32)))))), .val (.int (0 : Int32))] [(.ref b6)])) _
    refine XS.iload X12.here hx rfl (hb hby at_105) rfl ?_
    show Steps p.tables e below (T12.setTop (mkF m 107 #[.val (.int p1), .val (.int p2), .val (.int p3), .val (.int (p1 &&& (2147483647 : Int32))), .val (.int (p2 &&& (2147483647 : Int32))), .val (.int (own_min (p1 &&& (2147483647 : Int32)) (p2 &&& (2147483647 : Int32)))), .val (.int (own_max (p1 &&& (2147483647 : Int32)) (p2 &&& (2147483647 : Int32)))), .val (.ref b6), .val (.int (own_max (own_min (p1 &&& (2147483647 : Int32)) (p2 &&& (2147483647 : Int32))) (own_min p3 (own_max (p1 &&& (2147483647 : Int32)) (p2 &&& (2147483647 : Int32)))))), .val (.int (0 : Int32))] [(.int (own_min (p1 &&& (2147483647 : Int32)) (p2 &&& (2147483647 : Int32)))), (.ref b6)])) _
    refine XS.iconst X12.here hx rfl (hb hby at_107) ?_
    show Steps p.tables e below (T12.setTop (mkF m 108 #[.val (.int p1), .val (.int p2), .val (.int p3), .val (.int (p1 &&& (2147483647 : Int32))), .val (.int (p2 &&& (2147483647 : Int32))), .val (.int (own_min (p1 &&& (2147483647 : Int32)) (p2 &&& (2147483647 : Int32)))), .val (.int (own_max (p1 &&& (2147483647 : Int32)) (p2 &&& (2147483647 : Int32)))), .val (.ref b6), .val (.int (own_max (own_min (p1 &&& (2147483647 : Int32)) (p2 &&& (2147483647 : Int32))) (own_min p3 (own_max (p1 &&& (2147483647 : Int32)) (p2 &&& (2147483647 : Int32)))))), .val (.int (0 : Int32))] [(.int (1 : Int32)), (.int (own_min (p1 &&& (2147483647 : Int32)) (p2 &&& (2147483647 : Int32)))), (.ref b6)])) _
    refine XS.isub X12.here hx rfl (hb hby at_108) rfl ?_
    show Steps p.tables e below (T12.setTop (mkF m 109 #[.val (.int p1), .val (.int p2), .val (.int p3), .val (.int (p1 &&& (2147483647 : Int32))), .val (.int (p2 &&& (2147483647 : Int32))), .val (.int (own_min (p1 &&& (2147483647 : Int32)) (p2 &&& (2147483647 : Int32)))), .val (.int (own_max (p1 &&& (2147483647 : Int32)) (p2 &&& (2147483647 : Int32)))), .val (.ref b6), .val (.int (own_max (own_min (p1 &&& (2147483647 : Int32)) (p2 &&& (2147483647 : Int32))) (own_min p3 (own_max (p1 &&& (2147483647 : Int32)) (p2 &&& (2147483647 : Int32)))))), .val (.int (0 : Int32))] [(.int ((own_min (p1 &&& (2147483647 : Int32)) (p2 &&& (2147483647 : Int32))) - (1 : Int32))), (.ref b6)])) _
    refine st13.trans ?_
    show Steps p.tables e below (T13.setTop (mkF m 112 #[.val (.int p1), .val (.int p2), .val (.int p3), .val (.int (p1 &&& (2147483647 : Int32))), .val (.int (p2 &&& (2147483647 : Int32))), .val (.int (own_min (p1 &&& (2147483647 : Int32)) (p2 &&& (2147483647 : Int32)))), .val (.int (own_max (p1 &&& (2147483647 : Int32)) (p2 &&& (2147483647 : Int32)))), .val (.ref b6), .val (.int (own_max (own_min (p1 &&& (2147483647 : Int32)) (p2 &&& (2147483647 : Int32))) (own_min p3 (own_max (p1 &&& (2147483647 : Int32)) (p2 &&& (2147483647 : Int32)))))), .val (.int (0 : Int32))] [(.int (own_in (own_min (p1 &&& (2147483647 : Int32)) (p2 &&& (2147483647 : Int32))) (own_max (p1 &&& (2147483647 : Int32)) (p2 &&& (2147483647 : Int32))) ((own_min (p1 &&& (2147483647 : Int32)) (p2 &&& (2147483647 : Int32))) - (1 : Int32))))])) _
    refine XS.ifYes X13.here hx rfl (pc0 := 112) (pc' := 117) rfl (hb hby at_112) rfl ((if0 _ _).trans (teq (own_below (own_lo0 (p1 &&& (2147483647 : Int32)) (p2 &&& (2147483647 : Int32)) (c_and p1 2147483647 (by decide)).1 (c_and p2 2147483647 (by decide)).1) : (own_in (own_min (p1 &&& (2147483647 : Int32)) (p2 &&& (2147483647 : Int32))) (own_max (p1 &&& (2147483647 : Int32)) (p2 &&& (2147483647 : Int32))) ((own_min (p1 &&& (2147483647 : Int32)) (p2 &&& (2147483647 : Int32))) - (1 : Int32))) = (0 : Int32))).1) (by decide) (by decide) ?_
    show Steps p.tables e below (T13.setTop (mkF m 117 #[.val (.int p1), .val (.int p2), .val (.int p3), .val (.int (p1 &&& (2147483647 : Int32))), .val (.int (p2 &&& (2147483647 : Int32))), .val (.int (own_min (p1 &&& (2147483647 : Int32)) (p2 &&& (2147483647 : Int32)))), .val (.int (own_max (p1 &&& (2147483647 : Int32)) (p2 &&& (2147483647 : Int32)))), .val (.ref b6), .val (.int (own_max (own_min (p1 &&& (2147483647 : Int32)) (p2 &&& (2147483647 : Int32))) (own_min p3 (own_max (p1 &&& (2147483647 : Int32)) (p2 &&& (2147483647 : Int32)))))), .val (.int (0 : Int32))] [])) _
    refine XS.iload X13.here hx rfl (hb hby at_117) rfl ?_
    show Steps p.tables e below (T13.setTop (mkF m 119 #[.val (.int p1), .val (.int p2), .val (.int p3), .val (.int (p1 &&& (2147483647 : Int32))), .val (.int (p2 &&& (2147483647 : Int32))), .val (.int (own_min (p1 &&& (2147483647 : Int32)) (p2 &&& (2147483647 : Int32)))), .val (.int (own_max (p1 &&& (2147483647 : Int32)) (p2 &&& (2147483647 : Int32)))), .val (.ref b6), .val (.int (own_max (own_min (p1 &&& (2147483647 : Int32)) (p2 &&& (2147483647 : Int32))) (own_min p3 (own_max (p1 &&& (2147483647 : Int32)) (p2 &&& (2147483647 : Int32)))))), .val (.int (0 : Int32))] [(.int (own_max (p1 &&& (2147483647 : Int32)) (p2 &&& (2147483647 : Int32))))])) _
    refine X13.ldcInt hx hown (mvT hZ (hw _ (List.mem_of_getElem? (i := 0) rfl))) (g := (mkF m 119 #[.val (.int p1), .val (.int p2), .val (.int p3), .val (.int (p1 &&& (2147483647 : Int32))), .val (.int (p2 &&& (2147483647 : Int32))), .val (.int (own_min (p1 &&& (2147483647 : Int32)) (p2 &&& (2147483647 : Int32)))), .val (.int (own_max (p1 &&& (2147483647 : Int32)) (p2 &&& (2147483647 : Int32)))), .val (.ref b6), .val (.int (own_max (own_min (p1 &&& (2147483647 : Int32)) (p2 &&& (2147483647 : Int32))) (own_min p3 (own_max (p1 &&& (2147483647 : Int32)) (p2 &&& (2147483647 : Int32)))))), .val (.int (0 : Int32))] [(.int (own_max (p1 &&& (2147483647 : Int32)) (p2 &&& (2147483647 : Int32))))])) rfl (hb hby at_119) _ ?_
    show Steps p.tables e below (T13.setTop (mkF m 121 #[.val (.int p1), .val (.int p2), .val (.int p3), .val (.int (p1 &&& (2147483647 : Int32))), .val (.int (p2 &&& (2147483647 : Int32))), .val (.int (own_min (p1 &&& (2147483647 : Int32)) (p2 &&& (2147483647 : Int32)))), .val (.int (own_max (p1 &&& (2147483647 : Int32)) (p2 &&& (2147483647 : Int32)))), .val (.ref b6), .val (.int (own_max (own_min (p1 &&& (2147483647 : Int32)) (p2 &&& (2147483647 : Int32))) (own_min p3 (own_max (p1 &&& (2147483647 : Int32)) (p2 &&& (2147483647 : Int32)))))), .val (.int (0 : Int32))] [(.int (2147483647 : Int32)), (.int (own_max (p1 &&& (2147483647 : Int32)) (p2 &&& (2147483647 : Int32))))])) _
    refine XS.icmpNo X13.here hx rfl (hb hby at_121) rfl (feq (hM : ¬ ((own_max (p1 &&& (2147483647 : Int32)) (p2 &&& (2147483647 : Int32))) = (2147483647 : Int32)))).1 ?_
    show Steps p.tables e below (T13.setTop (mkF m 124 #[.val (.int p1), .val (.int p2), .val (.int p3), .val (.int (p1 &&& (2147483647 : Int32))), .val (.int (p2 &&& (2147483647 : Int32))), .val (.int (own_min (p1 &&& (2147483647 : Int32)) (p2 &&& (2147483647 : Int32)))), .val (.int (own_max (p1 &&& (2147483647 : Int32)) (p2 &&& (2147483647 : Int32)))), .val (.ref b6), .val (.int (own_max (own_min (p1 &&& (2147483647 : Int32)) (p2 &&& (2147483647 : Int32))) (own_min p3 (own_max (p1 &&& (2147483647 : Int32)) (p2 &&& (2147483647 : Int32)))))), .val (.int (0 : Int32))] [])) _
    refine XS.aload X13.here hx rfl (hb hby at_124) rfl rfl ?_
    show Steps p.tables e below (T13.setTop (mkF m 126 #[.val (.int p1), .val (.int p2), .val (.int p3), .val (.int (p1 &&& (2147483647 : Int32))), .val (.int (p2 &&& (2147483647 : Int32))), .val (.int (own_min (p1 &&& (2147483647 : Int32)) (p2 &&& (2147483647 : Int32)))), .val (.int (own_max (p1 &&& (2147483647 : Int32)) (p2 &&& (2147483647 : Int32)))), .val (.ref b6), .val (.int (own_max (own_min (p1 &&& (2147483647 : Int32)) (p2 &&& (2147483647 : Int32))) (own_min p3 (own_max (p1 &&& (2147483647 : Int32)) (p2 &&& (2147483647 : Int32)))))), .val (.int (0 : Int32))] [(.ref b6)])) _
    refine XS.iload X13.here hx rfl (hb hby at_126) rfl ?_
    show Steps p.tables e below (T13.setTop (mkF m 128 #[.val (.int p1), .val (.int p2), .val (.int p3), .val (.int (p1 &&& (2147483647 : Int32))), .val (.int (p2 &&& (2147483647 : Int32))), .val (.int (own_min (p1 &&& (2147483647 : Int32)) (p2 &&& (2147483647 : Int32)))), .val (.int (own_max (p1 &&& (2147483647 : Int32)) (p2 &&& (2147483647 : Int32)))), .val (.ref b6), .val (.int (own_max (own_min (p1 &&& (2147483647 : Int32)) (p2 &&& (2147483647 : Int32))) (own_min p3 (own_max (p1 &&& (2147483647 : Int32)) (p2 &&& (2147483647 : Int32)))))), .val (.int (0 : Int32))] [(.int (own_max (p1 &&& (2147483647 : Int32)) (p2 &&& (2147483647 : Int32)))), (.ref b6)])) _
    refine XS.iconst X13.here hx rfl (hb hby at_128) ?_
    show Steps p.tables e below (T13.setTop (mkF m 129 #[.val (.int p1), .val (.int p2), .val (.int p3), .val (.int (p1 &&& (2147483647 : Int32))), .val (.int (p2 &&& (2147483647 : Int32))), .val (.int (own_min (p1 &&& (2147483647 : Int32)) (p2 &&& (2147483647 : Int32)))), .val (.int (own_max (p1 &&& (2147483647 : Int32)) (p2 &&& (2147483647 : Int32)))), .val (.ref b6), .val (.int (own_max (own_min (p1 &&& (2147483647 : Int32)) (p2 &&& (2147483647 : Int32))) (own_min p3 (own_max (p1 &&& (2147483647 : Int32)) (p2 &&& (2147483647 : Int32)))))), .val (.int (0 : Int32))] [(.int (1 : Int32)), (.int (own_max (p1 &&& (2147483647 : Int32)) (p2 &&& (2147483647 : Int32)))), (.ref b6)])) _
    refine XS.iadd X13.here hx rfl (hb hby at_129) rfl ?_
    show Steps p.tables e below (T13.setTop (mkF m 130 #[.val (.int p1), .val (.int p2), .val (.int p3), .val (.int (p1 &&& (2147483647 : Int32))), .val (.int (p2 &&& (2147483647 : Int32))), .val (.int (own_min (p1 &&& (2147483647 : Int32)) (p2 &&& (2147483647 : Int32)))), .val (.int (own_max (p1 &&& (2147483647 : Int32)) (p2 &&& (2147483647 : Int32)))), .val (.ref b6), .val (.int (own_max (own_min (p1 &&& (2147483647 : Int32)) (p2 &&& (2147483647 : Int32))) (own_min p3 (own_max (p1 &&& (2147483647 : Int32)) (p2 &&& (2147483647 : Int32)))))), .val (.int (0 : Int32))] [(.int ((own_max (p1 &&& (2147483647 : Int32)) (p2 &&& (2147483647 : Int32))) + (1 : Int32))), (.ref b6)])) _
    refine st14.trans ?_
    show Steps p.tables e below (T14.setTop (mkF m 133 #[.val (.int p1), .val (.int p2), .val (.int p3), .val (.int (p1 &&& (2147483647 : Int32))), .val (.int (p2 &&& (2147483647 : Int32))), .val (.int (own_min (p1 &&& (2147483647 : Int32)) (p2 &&& (2147483647 : Int32)))), .val (.int (own_max (p1 &&& (2147483647 : Int32)) (p2 &&& (2147483647 : Int32)))), .val (.ref b6), .val (.int (own_max (own_min (p1 &&& (2147483647 : Int32)) (p2 &&& (2147483647 : Int32))) (own_min p3 (own_max (p1 &&& (2147483647 : Int32)) (p2 &&& (2147483647 : Int32)))))), .val (.int (0 : Int32))] [(.int (own_in (own_min (p1 &&& (2147483647 : Int32)) (p2 &&& (2147483647 : Int32))) (own_max (p1 &&& (2147483647 : Int32)) (p2 &&& (2147483647 : Int32))) ((own_max (p1 &&& (2147483647 : Int32)) (p2 &&& (2147483647 : Int32))) + (1 : Int32))))])) _
    refine XS.ifYes X14.here hx rfl (pc0 := 133) (pc' := 138) rfl (hb hby at_133) rfl ((if0 _ _).trans (teq (own_above hM : (own_in (own_min (p1 &&& (2147483647 : Int32)) (p2 &&& (2147483647 : Int32))) (own_max (p1 &&& (2147483647 : Int32)) (p2 &&& (2147483647 : Int32))) ((own_max (p1 &&& (2147483647 : Int32)) (p2 &&& (2147483647 : Int32))) + (1 : Int32))) = (0 : Int32))).1) (by decide) (by decide) ?_
    show Steps p.tables e below (T14.setTop (mkF m 138 #[.val (.int p1), .val (.int p2), .val (.int p3), .val (.int (p1 &&& (2147483647 : Int32))), .val (.int (p2 &&& (2147483647 : Int32))), .val (.int (own_min (p1 &&& (2147483647 : Int32)) (p2 &&& (2147483647 : Int32)))), .val (.int (own_max (p1 &&& (2147483647 : Int32)) (p2 &&& (2147483647 : Int32)))), .val (.ref b6), .val (.int (own_max (own_min (p1 &&& (2147483647 : Int32)) (p2 &&& (2147483647 : Int32))) (own_min p3 (own_max (p1 &&& (2147483647 : Int32)) (p2 &&& (2147483647 : Int32)))))), .val (.int (0 : Int32))] [])) _
    refine XS.iconst X14.here hx rfl (hb hby at_138) ?_
    show Steps p.tables e below (T14.setTop (mkF m 139 #[.val (.int p1), .val (.int p2), .val (.int p3), .val (.int (p1 &&& (2147483647 : Int32))), .val (.int (p2 &&& (2147483647 : Int32))), .val (.int (own_min (p1 &&& (2147483647 : Int32)) (p2 &&& (2147483647 : Int32)))), .val (.int (own_max (p1 &&& (2147483647 : Int32)) (p2 &&& (2147483647 : Int32)))), .val (.ref b6), .val (.int (own_max (own_min (p1 &&& (2147483647 : Int32)) (p2 &&& (2147483647 : Int32))) (own_min p3 (own_max (p1 &&& (2147483647 : Int32)) (p2 &&& (2147483647 : Int32)))))), .val (.int (0 : Int32))] [(.int (1 : Int32))])) _
    exact retN X14 hx (t := .boolean) Bd.returns (by simp) (hb hby at_139) hr
  · show Q0 Z p1 p2 p3 h0 n0 _ T14.heap _
    exact ⟨rfl, N14⟩
set_option maxRecDepth 65536 in
set_option maxHeartbeats 40000000 in
theorem rm0_tttttt (l : Launch) (Z : State) (a0 : Array Value) (hw : ∀ d ∈ tables_1, d.before a0 Z = true) (ws : List Jvm.Cond) (p1 : Int32) (p2 : Int32) (p3 : Int32) (h0 : Heap) (n0 : Nat) (Z0 : n0 ≤ h0.size) (hE : ¬ ((own_max (own_min (p1 &&& (2147483647 : Int32)) (p2 &&& (2147483647 : Int32))) (own_min p3 (own_max (p1 &&& (2147483647 : Int32)) (p2 &&& (2147483647 : Int32))))) = p3)) (hM : ((own_max (p1 &&& (2147483647 : Int32)) (p2 &&& (2147483647 : Int32))) = (2147483647 : Int32))) :
    MetFree l x (head1 (Jvm.Cond.code x code maxLocals ret :: ws) room_1) (fun a U => a = #[(.int p1), (.int p2), (.int p3)] ∧ Z.Warmed39 U.vm ∧ U.heap = h0) (fun _ _ _ _ _ => True) (fun _ U o U' => ∃ v L, o = .returned v ∧ Q0 Z p1 p2 p3 h0 n0 v U'.heap L ∧ FrameEnd U o U' L room_1.cells room_1.slots) := by
  refine MetFree.of_bodySF (plainFor_of_name pn_0) hisR ?_
  intro p e s m args below meth c s₁ Bd hml0 hP hK
  obtain ⟨rfl, hZ, hh⟩ := hP
  have hx := Bd.exec
  have hby := Bd.bytes
  have hml : c.maxLocals = 10 := hml0
  have hown : s.vm.findClass "com/example/rugged_consumer/ruggedconsumer/protocol/VersionRangeContainsPinLaw" = some m.cls := findClass_of_methodNamed Bd.named
  have hnm := (name_of_methodNamed Bd.named Bd.method).1
  have X0 : Stand p l e room_1 s m #[(.int p1), (.int p2), (.int p3)] below meth c s₁ [] 0 0 := Stand.of_body Bd
  have e0 : s₁.heap = h0 := by rw [← hh, Bd.state]; rfl
  have N0 := Fr.nil n0
  have pre0 : ∀ t, Steps p.tables e below (s₁.setTop (mkF m 0 #[.val (.int p1), .val (.int p2), .val (.int p3), .unset, .unset, .unset, .unset, .unset, .unset, .unset] [])) t → Steps p.tables e below (s₁.setTop (entryFrame m #[(.int p1), (.int p2), (.int p3)] maxLocals)) t := fun t k => castTop (ef_0 m p1 p2 p3) k
  obtain ⟨_, _, ⟨T4, L4, k4, n4⟩, -, X4, ⟨Lc4, hQ4, l4, y4, z4⟩, st4⟩ := Jvm.LawKit.callS X0 hx (y := (⟨"java/lang/Math", "min", "(II)I"⟩ : MethodName)) hown (mvT hZ (hw _ (List.mem_of_getElem? (i := 1) rfl))) (mvT hZ (hw _ (List.mem_of_getElem? (i := 2) rfl))) (mvT hZ (hw _ (List.mem_of_getElem? (i := 3) rfl))) (mvT hZ (hw _ (List.mem_of_getElem? (i := 4) rfl))) (by decide) (backOf (W := 0) (rm1 l Z a0 hw [] (p1 &&& (2147483647 : Int32)) (p2 &&& (2147483647 : Int32)) h0 n0 Z0) hZ (hw _ (List.mem_of_getElem? (i := 4) rfl)) (hw _ (List.mem_of_getElem? (i := 3) rfl)) (by decide) (by decide)) (g := (mkF m 14 #[.val (.int p1), .val (.int p2), .val (.int p3), .val (.int (p1 &&& (2147483647 : Int32))), .val (.int (p2 &&& (2147483647 : Int32))), .unset, .unset, .unset, .unset, .unset] [(.int (p2 &&& (2147483647 : Int32))), (.int (p1 &&& (2147483647 : Int32)))])) rfl (by rw [hml]; rfl) (argsL := [(.int (p1 &&& (2147483647 : Int32))), (.int (p2 &&& (2147483647 : Int32)))]) (rest := []) (lenOf pd_0_0 rfl) rfl (by show 2 * 0 + _ ≤ _; exact Nat.le_of_eq rfl) (hb hby at_14) (fun _ _ => ⟨rfl, e0, (by decide : 0 + 0 ≤ _), (by decide : 0 + 0 ≤ _)⟩)
  dsimp only [Pt.U, Pt.locs, Pt.cells, Pt.slots] at X4 l4 y4 z4 st4 hQ4
  subst l4 y4 z4
  obtain ⟨rfl, N4q, hh4⟩ := hQ4
  have KK4 : Keep h0 T4.heap [] := by rw [hh4]; exact Keep.refl _ _
  have Z4 : n0 ≤ T4.heap.size := Nat.le_trans Z0 KK4.1      -- what it returned, that it wrote nothing old, and the rest of your Q1
  have N4 := Fr.app N0 N4q
  obtain ⟨_, _, ⟨T5, L5, k5, n5⟩, -, X5, ⟨Lc5, hQ5, l5, y5, z5⟩, st5⟩ := Jvm.LawKit.callS X4 hx (y := (⟨"java/lang/Math", "max", "(II)I"⟩ : MethodName)) hown (mvT hZ (hw _ (List.mem_of_getElem? (i := 5) rfl))) (mvT hZ (hw _ (List.mem_of_getElem? (i := 6) rfl))) (mvT hZ (hw _ (List.mem_of_getElem? (i := 3) rfl))) (mvT hZ (hw _ (List.mem_of_getElem? (i := 7) rfl))) (by decide) (backOf (W := 0) (rm2 l Z a0 hw [] (p1 &&& (2147483647 : Int32)) (p2 &&& (2147483647 : Int32)) T4.heap n0 Z4) hZ (hw _ (List.mem_of_getElem? (i := 7) rfl)) (hw _ (List.mem_of_getElem? (i := 3) rfl)) (by decide) (by decide)) (g := (mkF m 22 #[.val (.int p1), .val (.int p2), .val (.int p3), .val (.int (p1 &&& (2147483647 : Int32))), .val (.int (p2 &&& (2147483647 : Int32))), .val (.int (own_min (p1 &&& (2147483647 : Int32)) (p2 &&& (2147483647 : Int32)))), .unset, .unset, .unset, .unset] [(.int (p2 &&& (2147483647 : Int32))), (.int (p1 &&& (2147483647 : Int32)))])) rfl (by rw [hml]; rfl) (argsL := [(.int (p1 &&& (2147483647 : Int32))), (.int (p2 &&& (2147483647 : Int32)))]) (rest := []) (lenOf pd_0_0 rfl) rfl (by show 2 * 0 + _ ≤ _; exact Nat.le_of_eq rfl) (hb hby at_22) (fun _ _ => ⟨rfl, rfl, (by decide : 0 + 0 ≤ _), (by decide : 0 + 0 ≤ _)⟩)
  dsimp only [Pt.U, Pt.locs, Pt.cells, Pt.slots] at X5 l5 y5 z5 st5 hQ5
  subst l5 y5 z5
  obtain ⟨rfl, N5q, hh5⟩ := hQ5
  have KK5 : Keep T4.heap T5.heap [] := by rw [hh5]; exact Keep.refl _ _
  have KH5 : Keep h0 T5.heap [] := by rw [hh5, hh4]; exact Keep.refl _ _      -- what it returned, that it wrote nothing old, and the rest of your Q2
  have N5 := Fr.app N4 N5q
  obtain ⟨T6, h6, X6, e6, E6, A6, D6, -, st6⟩ := newO X5 hx hZ hown (hw _ (List.mem_of_getElem? (i := 8) rfl)) (hw _ (List.mem_of_getElem? (i := 9) rfl)) (hw _ (List.mem_of_getElem? (i := 10) rfl)) rfl (g := (mkF m 27 #[.val (.int p1), .val (.int p2), .val (.int p3), .val (.int (p1 &&& (2147483647 : Int32))), .val (.int (p2 &&& (2147483647 : Int32))), .val (.int (own_min (p1 &&& (2147483647 : Int32)) (p2 &&& (2147483647 : Int32)))), .val (.int (own_max (p1 &&& (2147483647 : Int32)) (p2 &&& (2147483647 : Int32)))), .unset, .unset, .unset] [])) rfl (hb hby at_27) (by decide) (by decide)
  obtain ⟨b6, g6⟩ : ∃ z, z = T5.heap.size := ⟨_, rfl⟩      -- the fresh object's address
  rw [← g6] at A6 D6 st6      -- A6 : Exa Z h6 b6 "com/example/rugged_consumer/ruggedconsumer/protocol/VersionRange"; E6 : Ext T5.heap h6 (carries every older fact: .ext E6)
  have F_min_b6 : Fld Z h6 b6 "com/example/rugged_consumer/ruggedconsumer/protocol/VersionRange" "min" "I" (.int (0 : Int32)) := D6 (Or.inr (hw _ (List.mem_of_getElem? (i := 23) rfl))) (ty := .int) (by decide)
  have F_max_b6 : Fld Z h6 b6 "com/example/rugged_consumer/ruggedconsumer/protocol/VersionRange" "max" "I" (.int (0 : Int32)) := D6 (Or.inr (hw _ (List.mem_of_getElem? (i := 25) rfl))) (ty := .int) (by decide)
  have E_b6 := A6
  have g_b6 : n0 ≤ b6 := Nat.le_trans (Nat.le_trans (Nat.le_trans Z0 KK4.1) KK5.1) (Nat.le_of_eq g6.symm)
  have sz_b6 : h0.size ≤ b6 := (Nat.le_trans KH5.1 (Nat.le_of_eq g6.symm))
  have K6 : Keep h0 h6 [] := KH5.ext E6
  obtain ⟨_, _, ⟨T7, L7, k7, n7⟩, -, X7, ⟨Lc7, hQ7, l7, y7, z7⟩, st7⟩ := X6.specialBack hx (y := (⟨"com/example/rugged_consumer/ruggedconsumer/protocol/VersionRange", "<init>", "(II)V"⟩ : MethodName)) rfl hown (mvT hZ (hw _ (List.mem_of_getElem? (i := 11) rfl))) (mvT hZ (hw _ (List.mem_of_getElem? (i := 12) rfl))) (mvT hZ (hw _ (List.mem_of_getElem? (i := 13) rfl))) (by decide) (backOf (W := 1) (rm3 l Z a0 hw [] b6 (own_min (p1 &&& (2147483647 : Int32)) (p2 &&& (2147483647 : Int32))) (own_max (p1 &&& (2147483647 : Int32)) (p2 &&& (2147483647 : Int32))) (.int (0 : Int32)) (.int (0 : Int32)) h6 n0 (Nat.le_trans Z0 K6.1) E_b6 F_min_b6 g_b6 F_max_b6 (own_lo0 (p1 &&& (2147483647 : Int32)) (p2 &&& (2147483647 : Int32)) (c_and p1 2147483647 (by decide)).1 (c_and p2 2147483647 (by decide)).1) (own_lohi (p1 &&& (2147483647 : Int32)) (p2 &&& (2147483647 : Int32)))) hZ (hw _ (List.mem_of_getElem? (i := 13) rfl)) (hw _ (List.mem_of_getElem? (i := 10) rfl)) (by decide) (by decide)) (g := (mkF m 35 #[.val (.int p1), .val (.int p2), .val (.int p3), .val (.int (p1 &&& (2147483647 : Int32))), .val (.int (p2 &&& (2147483647 : Int32))), .val (.int (own_min (p1 &&& (2147483647 : Int32)) (p2 &&& (2147483647 : Int32)))), .val (.int (own_max (p1 &&& (2147483647 : Int32)) (p2 &&& (2147483647 : Int32)))), .unset, .unset, .unset] [(.int (own_max (p1 &&& (2147483647 : Int32)) (p2 &&& (2147483647 : Int32)))), (.int (own_min (p1 &&& (2147483647 : Int32)) (p2 &&& (2147483647 : Int32)))), (.ref b6), (.ref b6)])) rfl (by rw [hml]; rfl) (Steps.refl _) (a := b6) (argsL := [(.int (own_min (p1 &&& (2147483647 : Int32)) (p2 &&& (2147483647 : Int32)))), (.int (own_max (p1 &&& (2147483647 : Int32)) (p2 &&& (2147483647 : Int32))))]) (rest := [(.ref b6)]) (lenOf pd_0_1 rfl) rfl (by show 2 * 0 + _ ≤ _; exact Nat.le_of_eq rfl) (hb hby at_35) (fun _ _ => ⟨rfl, e6, (by decide : 1 + 0 ≤ _), (by decide : 2 + 0 ≤ _)⟩)
  dsimp only [Pt.U, Pt.locs, Pt.cells, Pt.slots] at X7 l7 y7 z7 st7 hQ7
  subst l7 y7 z7
  obtain ⟨rfl, N7q, KK7, EE7, Fm7, Fx7⟩ := hQ7
  have Z7 : n0 ≤ T7.heap.size := Nat.le_trans (Nat.le_trans Z0 K6.1) KK7.1      -- what it returned, that it wrote nothing old, and the rest of your Q3
  have N7 := Fr.app N5 N7q
  obtain ⟨_, _, ⟨T8, L8, k8, n8⟩, -, X8, ⟨Lc8, hQ8, l8, y8, z8⟩, st8⟩ := Jvm.LawKit.callS X7 hx (y := (⟨"java/lang/Math", "min", "(II)I"⟩ : MethodName)) hown (mvT hZ (hw _ (List.mem_of_getElem? (i := 1) rfl))) (mvT hZ (hw _ (List.mem_of_getElem? (i := 2) rfl))) (mvT hZ (hw _ (List.mem_of_getElem? (i := 3) rfl))) (mvT hZ (hw _ (List.mem_of_getElem? (i := 4) rfl))) (by decide) (backOf (W := 1) (rm1 l Z a0 hw [] p3 (own_max (p1 &&& (2147483647 : Int32)) (p2 &&& (2147483647 : Int32))) T7.heap n0 Z7) hZ (hw _ (List.mem_of_getElem? (i := 4) rfl)) (hw _ (List.mem_of_getElem? (i := 3) rfl)) (by decide) (by decide)) (g := (mkF m 45 #[.val (.int p1), .val (.int p2), .val (.int p3), .val (.int (p1 &&& (2147483647 : Int32))), .val (.int (p2 &&& (2147483647 : Int32))), .val (.int (own_min (p1 &&& (2147483647 : Int32)) (p2 &&& (2147483647 : Int32)))), .val (.int (own_max (p1 &&& (2147483647 : Int32)) (p2 &&& (2147483647 : Int32)))), .val (.ref b6), .unset, .unset] [(.int (own_max (p1 &&& (2147483647 : Int32)) (p2 &&& (2147483647 : Int32)))), (.int p3), (.int (own_min (p1 &&& (2147483647 : Int32)) (p2 &&& (2147483647 : Int32))))])) rfl (by rw [hml]; rfl) (argsL := [(.int p3), (.int (own_max (p1 &&& (2147483647 : Int32)) (p2 &&& (2147483647 : Int32))))]) (rest := [(.int (own_min (p1 &&& (2147483647 : Int32)) (p2 &&& (2147483647 : Int32))))]) (lenOf pd_0_0 rfl) rfl (by show 2 * 0 + _ ≤ _; exact Nat.le_of_eq rfl) (hb hby at_45) (fun _ _ => ⟨rfl, rfl, (by decide : 1 + 0 ≤ _), (by decide : 2 + 0 ≤ _)⟩)
  dsimp only [Pt.U, Pt.locs, Pt.cells, Pt.slots] at X8 l8 y8 z8 st8 hQ8
  subst l8 y8 z8
  obtain ⟨rfl, N8q, hh8⟩ := hQ8
  have KK8 : Keep T7.heap T8.heap [] := by rw [hh8]; exact Keep.refl _ _
  have Z8 : n0 ≤ T8.heap.size := Nat.le_trans Z7 KK8.1
  have Fm8 := Fm7.keep KK8 List.not_mem_nil
  have Fx8 := Fx7.keep KK8 List.not_mem_nil      -- what it returned, that it wrote nothing old, and the rest of your Q1
  have N8 := Fr.app N7 N8q
  obtain ⟨_, _, ⟨T9, L9, k9, n9⟩, -, X9, ⟨Lc9, hQ9, l9, y9, z9⟩, st9⟩ := Jvm.LawKit.callS X8 hx (y := (⟨"java/lang/Math", "max", "(II)I"⟩ : MethodName)) hown (mvT hZ (hw _ (List.mem_of_getElem? (i := 5) rfl))) (mvT hZ (hw _ (List.mem_of_getElem? (i := 6) rfl))) (mvT hZ (hw _ (List.mem_of_getElem? (i := 3) rfl))) (mvT hZ (hw _ (List.mem_of_getElem? (i := 7) rfl))) (by decide) (backOf (W := 0) (rm2 l Z a0 hw [] (own_min (p1 &&& (2147483647 : Int32)) (p2 &&& (2147483647 : Int32))) (own_min p3 (own_max (p1 &&& (2147483647 : Int32)) (p2 &&& (2147483647 : Int32)))) T8.heap n0 Z8) hZ (hw _ (List.mem_of_getElem? (i := 7) rfl)) (hw _ (List.mem_of_getElem? (i := 3) rfl)) (by decide) (by decide)) (g := (mkF m 48 #[.val (.int p1), .val (.int p2), .val (.int p3), .val (.int (p1 &&& (2147483647 : Int32))), .val (.int (p2 &&& (2147483647 : Int32))), .val (.int (own_min (p1 &&& (2147483647 : Int32)) (p2 &&& (2147483647 : Int32)))), .val (.int (own_max (p1 &&& (2147483647 : Int32)) (p2 &&& (2147483647 : Int32)))), .val (.ref b6), .unset, .unset] [(.int (own_min p3 (own_max (p1 &&& (2147483647 : Int32)) (p2 &&& (2147483647 : Int32))))), (.int (own_min (p1 &&& (2147483647 : Int32)) (p2 &&& (2147483647 : Int32))))])) rfl (by rw [hml]; rfl) (argsL := [(.int (own_min (p1 &&& (2147483647 : Int32)) (p2 &&& (2147483647 : Int32)))), (.int (own_min p3 (own_max (p1 &&& (2147483647 : Int32)) (p2 &&& (2147483647 : Int32)))))]) (rest := []) (lenOf pd_0_0 rfl) rfl (by show 2 * 0 + _ ≤ _; exact Nat.le_of_eq rfl) (hb hby at_48) (fun _ _ => ⟨rfl, rfl, (by decide : 1 + 0 ≤ _), (by decide : 2 + 0 ≤ _)⟩)
  dsimp only [Pt.U, Pt.locs, Pt.cells, Pt.slots] at X9 l9 y9 z9 st9 hQ9
  subst l9 y9 z9
  obtain ⟨rfl, N9q, hh9⟩ := hQ9
  have KK9 : Keep T8.heap T9.heap [] := by rw [hh9]; exact Keep.refl _ _
  have Z9 : n0 ≤ T9.heap.size := Nat.le_trans Z8 KK9.1
  have Fm9 := Fm8.keep KK9 List.not_mem_nil
  have Fx9 := Fx8.keep KK9 List.not_mem_nil      -- what it returned, that it wrote nothing old, and the rest of your Q2
  have N9 := Fr.app N8 N9q
  obtain ⟨cq10, kq10, q10a, q10b, q10c⟩ := isOf hZ rfl ((EE7.keep KK8).keep KK9)
  obtain ⟨_, _, ⟨T10, L10, k10, n10⟩, -, X10, ⟨Lc10, hQ10, l10, y10, z10⟩, st10⟩ := X9.virtualBack hx (y := (⟨"com/example/rugged_consumer/ruggedconsumer/protocol/VersionRange", "contains", "(I)Z"⟩ : MethodName)) (z := (⟨"com/example/rugged_consumer/ruggedconsumer/protocol/VersionRange", "contains", "(I)Z"⟩ : MethodName)) hown (mvT hZ (hw _ (List.mem_of_getElem? (i := 26) rfl))) (mvT hZ (hw _ (List.mem_of_getElem? (i := 27) rfl))) (notFace_of_selects (args := #[]) (mvT hZ (hw _ (List.mem_of_getElem? (i := 29) rfl)))) (mvT hZ (hw _ (List.mem_of_getElem? (i := 29) rfl))) (mvT hZ (hw _ (List.mem_of_getElem? (i := 28) rfl))) (by decide) (backOf (W := 0) (rm6 l Z a0 hw [] b6 p3 (own_min (p1 &&& (2147483647 : Int32)) (p2 &&& (2147483647 : Int32))) (own_max (p1 &&& (2147483647 : Int32)) (p2 &&& (2147483647 : Int32))) T9.heap n0 Z9 Fm9 Fx9) hZ (hw _ (List.mem_of_getElem? (i := 30) rfl)) (hw _ (List.mem_of_getElem? (i := 10) rfl)) (by decide) (by decide)) q10a q10c (g := (mkF m 69 #[.val (.int p1), .val (.int p2), .val (.int p3), .val (.int (p1 &&& (2147483647 : Int32))), .val (.int (p2 &&& (2147483647 : Int32))), .val (.int (own_min (p1 &&& (2147483647 : Int32)) (p2 &&& (2147483647 : Int32)))), .val (.int (own_max (p1 &&& (2147483647 : Int32)) (p2 &&& (2147483647 : Int32)))), .val (.ref b6), .val (.int (own_max (own_min (p1 &&& (2147483647 : Int32)) (p2 &&& (2147483647 : Int32))) (own_min p3 (own_max (p1 &&& (2147483647 : Int32)) (p2 &&& (2147483647 : Int32)))))), .val (.int (0 : Int32))] [(.int p3), (.ref b6)])) rfl (by rw [hml]; rfl) (Steps.refl _) (argsL := [(.int p3)]) (rest := []) (lenOf pd_0_3 rfl) rfl (by show 2 * 0 + _ ≤ _; exact Nat.le_of_eq rfl) (hb hby at_69) (fun _ _ => ⟨rfl, rfl, (by decide : 1 + 0 ≤ _), (by decide : 2 + 0 ≤ _)⟩)
  dsimp only [Pt.U, Pt.locs, Pt.cells, Pt.slots] at X10 l10 y10 z10 st10 hQ10
  subst l10 y10 z10
  obtain ⟨rfl, N10q, hh10⟩ := hQ10
  have KK10 : Keep T9.heap T10.heap [] := by rw [hh10]; exact Keep.refl _ _
  have Z10 : n0 ≤ T10.heap.size := Nat.le_trans Z9 KK10.1
  have Fm10 := Fm9.keep KK10 List.not_mem_nil
  have Fx10 := Fx9.keep KK10 List.not_mem_nil      -- what it returned, that it wrote nothing old, and the rest of your Q6
  have N10 := Fr.app N9 N10q
  obtain ⟨cq11, kq11, q11a, q11b, q11c⟩ := isOf hZ rfl (((EE7.keep KK8).keep KK9).keep KK10)
  obtain ⟨_, _, ⟨T11, L11, k11, n11⟩, -, X11, ⟨Lc11, hQ11, l11, y11, z11⟩, st11⟩ := X10.virtualBack hx (y := (⟨"com/example/rugged_consumer/ruggedconsumer/protocol/VersionRange", "contains", "(I)Z"⟩ : MethodName)) (z := (⟨"com/example/rugged_consumer/ruggedconsumer/protocol/VersionRange", "contains", "(I)Z"⟩ : MethodName)) hown (mvT hZ (hw _ (List.mem_of_getElem? (i := 26) rfl))) (mvT hZ (hw _ (List.mem_of_getElem? (i := 27) rfl))) (notFace_of_selects (args := #[]) (mvT hZ (hw _ (List.mem_of_getElem? (i := 29) rfl)))) (mvT hZ (hw _ (List.mem_of_getElem? (i := 29) rfl))) (mvT hZ (hw _ (List.mem_of_getElem? (i := 28) rfl))) (by decide) (backOf (W := 0) (rm6 l Z a0 hw [] b6 (own_min (p1 &&& (2147483647 : Int32)) (p2 &&& (2147483647 : Int32))) (own_min (p1 &&& (2147483647 : Int32)) (p2 &&& (2147483647 : Int32))) (own_max (p1 &&& (2147483647 : Int32)) (p2 &&& (2147483647 : Int32))) T10.heap n0 Z10 Fm10 Fx10) hZ (hw _ (List.mem_of_getElem? (i := 30) rfl)) (hw _ (List.mem_of_getElem? (i := 10) rfl)) (by decide) (by decide)) q11a q11c (g := (mkF m 83 #[.val (.int p1), .val (.int p2), .val (.int p3), .val (.int (p1 &&& (2147483647 : Int32))), .val (.int (p2 &&& (2147483647 : Int32))), .val (.int (own_min (p1 &&& (2147483647 : Int32)) (p2 &&& (2147483647 : Int32)))), .val (.int (own_max (p1 &&& (2147483647 : Int32)) (p2 &&& (2147483647 : Int32)))), .val (.ref b6), .val (.int (own_max (own_min (p1 &&& (2147483647 : Int32)) (p2 &&& (2147483647 : Int32))) (own_min p3 (own_max (p1 &&& (2147483647 : Int32)) (p2 &&& (2147483647 : Int32)))))), .val (.int (0 : Int32))] [(.int (own_min (p1 &&& (2147483647 : Int32)) (p2 &&& (2147483647 : Int32)))), (.ref b6)])) rfl (by rw [hml]; rfl) (Steps.refl _) (argsL := [(.int (own_min (p1 &&& (2147483647 : Int32)) (p2 &&& (2147483647 : Int32))))]) (rest := []) (lenOf pd_0_3 rfl) rfl (by show 2 * 0 + _ ≤ _; exact Nat.le_of_eq rfl) (hb hby at_83) (fun _ _ => ⟨rfl, rfl, (by decide : 1 + 0 ≤ _), (by decide : 2 + 0 ≤ _)⟩)
  dsimp only [Pt.U, Pt.locs, Pt.cells, Pt.slots] at X11 l11 y11 z11 st11 hQ11
  subst l11 y11 z11
  obtain ⟨rfl, N11q, hh11⟩ := hQ11
  have KK11 : Keep T10.heap T11.heap [] := by rw [hh11]; exact Keep.refl _ _
  have Z11 : n0 ≤ T11.heap.size := Nat.le_trans Z10 KK11.1
  have Fm11 := Fm10.keep KK11 List.not_mem_nil
  have Fx11 := Fx10.keep KK11 List.not_mem_nil      -- what it returned, that it wrote nothing old, and the rest of your Q6
  have N11 := Fr.app N10 N11q
  obtain ⟨cq12, kq12, q12a, q12b, q12c⟩ := isOf hZ rfl ((((EE7.keep KK8).keep KK9).keep KK10).keep KK11)
  obtain ⟨_, _, ⟨T12, L12, k12, n12⟩, -, X12, ⟨Lc12, hQ12, l12, y12, z12⟩, st12⟩ := X11.virtualBack hx (y := (⟨"com/example/rugged_consumer/ruggedconsumer/protocol/VersionRange", "contains", "(I)Z"⟩ : MethodName)) (z := (⟨"com/example/rugged_consumer/ruggedconsumer/protocol/VersionRange", "contains", "(I)Z"⟩ : MethodName)) hown (mvT hZ (hw _ (List.mem_of_getElem? (i := 26) rfl))) (mvT hZ (hw _ (List.mem_of_getElem? (i := 27) rfl))) (notFace_of_selects (args := #[]) (mvT hZ (hw _ (List.mem_of_getElem? (i := 29) rfl)))) (mvT hZ (hw _ (List.mem_of_getElem? (i := 29) rfl))) (mvT hZ (hw _ (List.mem_of_getElem? (i := 28) rfl))) (by decide) (backOf (W := 0) (rm6 l Z a0 hw [] b6 (own_max (p1 &&& (2147483647 : Int32)) (p2 &&& (2147483647 : Int32))) (own_min (p1 &&& (2147483647 : Int32)) (p2 &&& (2147483647 : Int32))) (own_max (p1 &&& (2147483647 : Int32)) (p2 &&& (2147483647 : Int32))) T11.heap n0 Z11 Fm11 Fx11) hZ (hw _ (List.mem_of_getElem? (i := 30) rfl)) (hw _ (List.mem_of_getElem? (i := 10) rfl)) (by decide) (by decide)) q12a q12c (g := (mkF m 95 #[.val (.int p1), .val (.int p2), .val (.int p3), .val (.int (p1 &&& (2147483647 : Int32))), .val (.int (p2 &&& (2147483647 : Int32))), .val (.int (own_min (p1 &&& (2147483647 : Int32)) (p2 &&& (2147483647 : Int32)))), .val (.int (own_max (p1 &&& (2147483647 : Int32)) (p2 &&& (2147483647 : Int32)))), .val (.ref b6), .val (.int (own_max (own_min (p1 &&& (2147483647 : Int32)) (p2 &&& (2147483647 : Int32))) (own_min p3 (own_max (p1 &&& (2147483647 : Int32)) (p2 &&& (2147483647 : Int32)))))), .val (.int (0 : Int32))] [(.int (own_max (p1 &&& (2147483647 : Int32)) (p2 &&& (2147483647 : Int32)))), (.ref b6)])) rfl (by rw [hml]; rfl) (Steps.refl _) (argsL := [(.int (own_max (p1 &&& (2147483647 : Int32)) (p2 &&& (2147483647 : Int32))))]) (rest := []) (lenOf pd_0_3 rfl) rfl (by show 2 * 0 + _ ≤ _; exact Nat.le_of_eq rfl) (hb hby at_95) (fun _ _ => ⟨rfl, rfl, (by decide : 1 + 0 ≤ _), (by decide : 2 + 0 ≤ _)⟩)
  dsimp only [Pt.U, Pt.locs, Pt.cells, Pt.slots] at X12 l12 y12 z12 st12 hQ12
  subst l12 y12 z12
  obtain ⟨rfl, N12q, hh12⟩ := hQ12
  have KK12 : Keep T11.heap T12.heap [] := by rw [hh12]; exact Keep.refl _ _
  have Z12 : n0 ≤ T12.heap.size := Nat.le_trans Z11 KK12.1
  have Fm12 := Fm11.keep KK12 List.not_mem_nil
  have Fx12 := Fx11.keep KK12 List.not_mem_nil      -- what it returned, that it wrote nothing old, and the rest of your Q6
  have N12 := Fr.app N11 N12q
  obtain ⟨cq13, kq13, q13a, q13b, q13c⟩ := isOf hZ rfl (((((EE7.keep KK8).keep KK9).keep KK10).keep KK11).keep KK12)
  obtain ⟨_, _, ⟨T13, L13, k13, n13⟩, -, X13, ⟨Lc13, hQ13, l13, y13, z13⟩, st13⟩ := X12.virtualBack hx (y := (⟨"com/example/rugged_consumer/ruggedconsumer/protocol/VersionRange", "contains", "(I)Z"⟩ : MethodName)) (z := (⟨"com/example/rugged_consumer/ruggedconsumer/protocol/VersionRange", "contains", "(I)Z"⟩ : MethodName)) hown (mvT hZ (hw _ (List.mem_of_getElem? (i := 26) rfl))) (mvT hZ (hw _ (List.mem_of_getElem? (i := 27) rfl))) (notFace_of_selects (args := #[]) (mvT hZ (hw _ (List.mem_of_getElem? (i := 29) rfl)))) (mvT hZ (hw _ (List.mem_of_getElem? (i := 29) rfl))) (mvT hZ (hw _ (List.mem_of_getElem? (i := 28) rfl))) (by decide) (backOf (W := 0) (rm6 l Z a0 hw [] b6 ((own_min (p1 &&& (2147483647 : Int32)) (p2 &&& (2147483647 : Int32))) - (1 : Int32)) (own_min (p1 &&& (2147483647 : Int32)) (p2 &&& (2147483647 : Int32))) (own_max (p1 &&& (2147483647 : Int32)) (p2 &&& (2147483647 : Int32))) T12.heap n0 Z12 Fm12 Fx12) hZ (hw _ (List.mem_of_getElem? (i := 30) rfl)) (hw _ (List.mem_of_getElem? (i := 10) rfl)) (by decide) (by decide)) q13a q13c (g := (mkF m 109 #[.val (.int p1), .val (.int p2), .val (.int p3), .val (.int (p1 &&& (2147483647 : Int32))), .val (.int (p2 &&& (2147483647 : Int32))), .val (.int (own_min (p1 &&& (2147483647 : Int32)) (p2 &&& (2147483647 : Int32)))), .val (.int (own_max (p1 &&& (2147483647 : Int32)) (p2 &&& (2147483647 : Int32)))), .val (.ref b6), .val (.int (own_max (own_min (p1 &&& (2147483647 : Int32)) (p2 &&& (2147483647 : Int32))) (own_min p3 (own_max (p1 &&& (2147483647 : Int32)) (p2 &&& (2147483647 : Int32)))))), .val (.int (0 : Int32))] [(.int ((own_min (p1 &&& (2147483647 : Int32)) (p2 &&& (2147483647 : Int32))) - (1 : Int32))), (.ref b6)])) rfl (by rw [hml]; rfl) (Steps.refl _) (argsL := [(.int ((own_min (p1 &&& (2147483647 : Int32)) (p2 &&& (2147483647 : Int32))) - (1 : Int32)))]) (rest := []) (lenOf pd_0_3 rfl) rfl (by show 2 * 0 + _ ≤ _; exact Nat.le_of_eq rfl) (hb hby at_109) (fun _ _ => ⟨rfl, rfl, (by decide : 1 + 0 ≤ _), (by decide : 2 + 0 ≤ _)⟩)
  dsimp only [Pt.U, Pt.locs, Pt.cells, Pt.slots] at X13 l13 y13 z13 st13 hQ13
  subst l13 y13 z13
  obtain ⟨rfl, N13q, hh13⟩ := hQ13
  have KK13 : Keep T12.heap T13.heap [] := by rw [hh13]; exact Keep.refl _ _
  have Z13 : n0 ≤ T13.heap.size := Nat.le_trans Z12 KK13.1
  have Fm13 := Fm12.keep KK13 List.not_mem_nil
  have Fx13 := Fx12.keep KK13 List.not_mem_nil      -- what it returned, that it wrote nothing old, and the rest of your Q6
  have N13 := Fr.app N12 N13q
  obtain ⟨fs, hr, hrun, hended, hW, hsame⟩ := X13.leave (v := some (.int (1 : Int32))) (fun h => by rw [Bd.returns] at h; cases h)
  refine ⟨_, _, pre0 _ ?_, hrun, hended, _, _, rfl, ?_, ⟨_, rfl⟩, hW, hsame.mono (by decide) (by decide)⟩
  · show Steps p.tables e below (s₁.setTop (mkF m 0 #[.val (.int p1), .val (.int p2), .val (.int p3), .unset, .unset, .unset, .unset, .unset, .unset, .unset] [])) _
    refine XS.iloadN X0.here hx rfl (hb hby at_0) rfl ?_
    show Steps p.tables e below (s₁.setTop (mkF m 1 #[.val (.int p1), .val (.int p2), .val (.int p3), .unset, .unset, .unset, .unset, .unset, .unset, .unset] [(.int p1)])) _
    refine X0.ldcInt hx hown (mvT hZ (hw _ (List.mem_of_getElem? (i := 0) rfl))) (g := (mkF m 1 #[.val (.int p1), .val (.int p2), .val (.int p3), .unset, .unset, .unset, .unset, .unset, .unset, .unset] [(.int p1)])) rfl (hb hby at_1) _ ?_
    show Steps p.tables e below (s₁.setTop (mkF m 3 #[.val (.int p1), .val (.int p2), .val (.int p3), .unset, .unset, .unset, .unset, .unset, .unset, .unset] [(.int (2147483647 : Int32)), (.int p1)])) _
    refine XS.iand X0.here hx rfl (hb hby at_3) rfl ?_
    show Steps p.tables e below (s₁.setTop (mkF m 4 #[.val (.int p1), .val (.int p2), .val (.int p3), .unset, .unset, .unset, .unset, .unset, .unset, .unset] [(.int (p1 &&& (2147483647 : Int32)))])) _
    refine XS.istoreN X0.here hx rfl (hb hby at_4) rfl (l' := #[.val (.int p1), .val (.int p2), .val (.int p3), .val (.int (p1 &&& (2147483647 : Int32))), .unset, .unset, .unset, .unset, .unset, .unset]) rfl ?_
    show Steps p.tables e below (s₁.setTop (mkF m 5 #[.val (.int p1), .val (.int p2), .val (.int p3), .val (.int (p1 &&& (2147483647 : Int32))), .unset, .unset, .unset, .unset, .unset, .unset] [])) _
    refine XS.iloadN X0.here hx rfl (hb hby at_5) rfl ?_
    show Steps p.tables e below (s₁.setTop (mkF m 6 #[.val (.int p1), .val (.int p2), .val (.int p3), .val (.int (p1 &&& (2147483647 : Int32))), .unset, .unset, .unset, .unset, .unset, .unset] [(.int p2)])) _
    refine X0.ldcInt hx hown (mvT hZ (hw _ (List.mem_of_getElem? (i := 0) rfl))) (g := (mkF m 6 #[.val (.int p1), .val (.int p2), .val (.int p3), .val (.int (p1 &&& (2147483647 : Int32))), .unset, .unset, .unset, .unset, .unset, .unset] [(.int p2)])) rfl (hb hby at_6) _ ?_
    show Steps p.tables e below (s₁.setTop (mkF m 8 #[.val (.int p1), .val (.int p2), .val (.int p3), .val (.int (p1 &&& (2147483647 : Int32))), .unset, .unset, .unset, .unset, .unset, .unset] [(.int (2147483647 : Int32)), (.int p2)])) _
    refine XS.iand X0.here hx rfl (hb hby at_8) rfl ?_
    show Steps p.tables e below (s₁.setTop (mkF m 9 #[.val (.int p1), .val (.int p2), .val (.int p3), .val (.int (p1 &&& (2147483647 : Int32))), .unset, .unset, .unset, .unset, .unset, .unset] [(.int (p2 &&& (2147483647 : Int32)))])) _
    refine XS.istore X0.here hx rfl (hb hby at_9) rfl (l' := #[.val (.int p1), .val (.int p2), .val (.int p3), .val (.int (p1 &&& (2147483647 : Int32))), .val (.int (p2 &&& (2147483647 : Int32))), .unset, .unset, .unset, .unset, .unset]) rfl ?_
    show Steps p.tables e below (s₁.setTop (mkF m 11 #[.val (.int p1), .val (.int p2), .val (.int p3), .val (.int (p1 &&& (2147483647 : Int32))), .val (.int (p2 &&& (2147483647 : Int32))), .unset, .unset, .unset, .unset, .unset] [])) _
    refine XS.iloadN X0.here hx rfl (hb hby at_11) rfl ?_
    show Steps p.tables e below (s₁.setTop (mkF m 12 #[.val (.int p1), .val (.int p2), .val (.int p3), .val (.int (p1 &&& (2147483647 : Int32))), .val (.int (p2 &&& (2147483647 : Int32))), .unset, .unset, .unset, .unset, .unset] [(.int (p1 &&& (2147483647 : Int32)))])) _
    refine XS.iload X0.here hx rfl (hb hby at_12) rfl ?_
    show Steps p.tables e below (s₁.setTop (mkF m 14 #[.val (.int p1), .val (.int p2), .val (.int p3), .val (.int (p1 &&& (2147483647 : Int32))), .val (.int (p2 &&& (2147483647 : Int32))), .unset, .unset, .unset, .unset, .unset] [(.int (p2 &&& (2147483647 : Int32))), (.int (p1 &&& (2147483647 : Int32)))])) _
    refine st4 _ ?_
    show Steps p.tables e below (T4.setTop (mkF m 17 #[.val (.int p1), .val (.int p2), .val (.int p3), .val (.int (p1 &&& (2147483647 : Int32))), .val (.int (p2 &&& (2147483647 : Int32))), .unset, .unset, .unset, .unset, .unset] [(.int (own_min (p1 &&& (2147483647 : Int32)) (p2 &&& (2147483647 : Int32))))])) _
    refine XS.istore X4.here hx rfl (hb hby at_17) rfl (l' := #[.val (.int p1), .val (.int p2), .val (.int p3), .val (.int (p1 &&& (2147483647 : Int32))), .val (.int (p2 &&& (2147483647 : Int32))), .val (.int (own_min (p1 &&& (2147483647 : Int32)) (p2 &&& (2147483647 : Int32)))), .unset, .unset, .unset, .unset]) rfl ?_
    show Steps p.tables e below (T4.setTop (mkF m 19 #[.val (.int p1), .val (.int p2), .val (.int p3), .val (.int (p1 &&& (2147483647 : Int32))), .val (.int (p2 &&& (2147483647 : Int32))), .val (.int (own_min (p1 &&& (2147483647 : Int32)) (p2 &&& (2147483647 : Int32)))), .unset, .unset, .unset, .unset] [])) _
    refine XS.iloadN X4.here hx rfl (hb hby at_19) rfl ?_
    show Steps p.tables e below (T4.setTop (mkF m 20 #[.val (.int p1), .val (.int p2), .val (.int p3), .val (.int (p1 &&& (2147483647 : Int32))), .val (.int (p2 &&& (2147483647 : Int32))), .val (.int (own_min (p1 &&& (2147483647 : Int32)) (p2 &&& (2147483647 : Int32)))), .unset, .unset, .unset, .unset] [(.int (p1 &&& (2147483647 : Int32)))])) _
    refine XS.iload X4.here hx rfl (hb hby at_20) rfl ?_
    show Steps p.tables e below (T4.setTop (mkF m 22 #[.val (.int p1), .val (.int p2), .val (.int p3), .val (.int (p1 &&& (2147483647 : Int32))), .val (.int (p2 &&& (2147483647 : Int32))), .val (.int (own_min (p1 &&& (2147483647 : Int32)) (p2 &&& (2147483647 : Int32)))), .unset, .unset, .unset, .unset] [(.int (p2 &&& (2147483647 : Int32))), (.int (p1 &&& (2147483647 : Int32)))])) _
    refine st5 _ ?_
    show Steps p.tables e below (T5.setTop (mkF m 25 #[.val (.int p1), .val (.int p2), .val (.int p3), .val (.int (p1 &&& (2147483647 : Int32))), .val (.int (p2 &&& (2147483647 : Int32))), .val (.int (own_min (p1 &&& (2147483647 : Int32)) (p2 &&& (2147483647 : Int32)))), .unset, .unset, .unset, .unset] [(.int (own_max (p1 &&& (2147483647 : Int32)) (p2 &&& (2147483647 : Int32))))])) _
    refine XS.istore X5.here hx rfl (hb hby at_25) rfl (l' := #[.val (.int p1), .val (.int p2), .val (.int p3), .val (.int (p1 &&& (2147483647 : Int32))), .val (.int (p2 &&& (2147483647 : Int32))), .val (.int (own_min (p1 &&& (2147483647 : Int32)) (p2 &&& (2147483647 : Int32)))), .val (.int (own_max (p1 &&& (2147483647 : Int32)) (p2 &&& (2147483647 : Int32)))), .unset, .unset, .unset]) rfl ?_
    show Steps p.tables e below (T5.setTop (mkF m 27 #[.val (.int p1), .val (.int p2), .val (.int p3), .val (.int (p1 &&& (2147483647 : Int32))), .val (.int (p2 &&& (2147483647 : Int32))), .val (.int (own_min (p1 &&& (2147483647 : Int32)) (p2 &&& (2147483647 : Int32)))), .val (.int (own_max (p1 &&& (2147483647 : Int32)) (p2 &&& (2147483647 : Int32)))), .unset, .unset, .unset] [])) _
    refine st6 _ ?_
    show Steps p.tables e below (T6.setTop (mkF m 30 #[.val (.int p1), .val (.int p2), .val (.int p3), .val (.int (p1 &&& (2147483647 : Int32))), .val (.int (p2 &&& (2147483647 : Int32))), .val (.int (own_min (p1 &&& (2147483647 : Int32)) (p2 &&& (2147483647 : Int32)))), .val (.int (own_max (p1 &&& (2147483647 : Int32)) (p2 &&& (2147483647 : Int32)))), .unset, .unset, .unset] [(.ref b6)])) _
    refine XS.dup X6.here hx rfl (hb hby at_30) rfl rfl ?_
    show Steps p.tables e below (T6.setTop (mkF m 31 #[.val (.int p1), .val (.int p2), .val (.int p3), .val (.int (p1 &&& (2147483647 : Int32))), .val (.int (p2 &&& (2147483647 : Int32))), .val (.int (own_min (p1 &&& (2147483647 : Int32)) (p2 &&& (2147483647 : Int32)))), .val (.int (own_max (p1 &&& (2147483647 : Int32)) (p2 &&& (2147483647 : Int32)))), .unset, .unset, .unset] [(.ref b6), (.ref b6)])) _
    refine XS.iload X6.here hx rfl (hb hby at_31) rfl ?_
    show Steps p.tables e below (T6.setTop (mkF m 33 #[.val (.int p1), .val (.int p2), .val (.int p3), .val (.int (p1 &&& (2147483647 : Int32))), .val (.int (p2 &&& (2147483647 : Int32))), .val (.int (own_min (p1 &&& (2147483647 : Int32)) (p2 &&& (2147483647 : Int32)))), .val (.int (own_max (p1 &&& (2147483647 : Int32)) (p2 &&& (2147483647 : Int32)))), .unset, .unset, .unset] [(.int (own_min (p1 &&& (2147483647 : Int32)) (p2 &&& (2147483647 : Int32)))), (.ref b6), (.ref b6)])) _
    refine XS.iload X6.here hx rfl (hb hby at_33) rfl ?_
    show Steps p.tables e below (T6.setTop (mkF m 35 #[.val (.int p1), .val (.int p2), .val (.int p3), .val (.int (p1 &&& (2147483647 : Int32))), .val (.int (p2 &&& (2147483647 : Int32))), .val (.int (own_min (p1 &&& (2147483647 : Int32)) (p2 &&& (2147483647 : Int32)))), .val (.int (own_max (p1 &&& (2147483647 : Int32)) (p2 &&& (2147483647 : Int32)))), .unset, .unset, .unset] [(.int (own_max (p1 &&& (2147483647 : Int32)) (p2 &&& (2147483647 : Int32)))), (.int (own_min (p1 &&& (2147483647 : Int32)) (p2 &&& (2147483647 : Int32)))), (.ref b6), (.ref b6)])) _
    refine st7.trans ?_
    show Steps p.tables e below (T7.setTop (mkF m 38 #[.val (.int p1), .val (.int p2), .val (.int p3), .val (.int (p1 &&& (2147483647 : Int32))), .val (.int (p2 &&& (2147483647 : Int32))), .val (.int (own_min (p1 &&& (2147483647 : Int32)) (p2 &&& (2147483647 : Int32)))), .val (.int (own_max (p1 &&& (2147483647 : Int32)) (p2 &&& (2147483647 : Int32)))), .unset, .unset, .unset] [(.ref b6)])) _
    refine XS.astore X7.here hx rfl (hb hby at_38) rfl rfl (l' := #[.val (.int p1), .val (.int p2), .val (.int p3), .val (.int (p1 &&& (2147483647 : Int32))), .val (.int (p2 &&& (2147483647 : Int32))), .val (.int (own_min (p1 &&& (2147483647 : Int32)) (p2 &&& (2147483647 : Int32)))), .val (.int (own_max (p1 &&& (2147483647 : Int32)) (p2 &&& (2147483647 : Int32)))), .val (.ref b6), .unset, .unset]) rfl ?_
    show Steps p.tables e below (T7.setTop (mkF m 40 #[.val (.int p1), .val (.int p2), .val (.int p3), .val (.int (p1 &&& (2147483647 : Int32))), .val (.int (p2 &&& (2147483647 : Int32))), .val (.int (own_min (p1 &&& (2147483647 : Int32)) (p2 &&& (2147483647 : Int32)))), .val (.int (own_max (p1 &&& (2147483647 : Int32)) (p2 &&& (2147483647 : Int32)))), .val (.ref b6), .unset, .unset] [])) _
    refine XS.iload X7.here hx rfl (hb hby at_40) rfl ?_
    show Steps p.tables e below (T7.setTop (mkF m 42 #[.val (.int p1), .val (.int p2), .val (.int p3), .val (.int (p1 &&& (2147483647 : Int32))), .val (.int (p2 &&& (2147483647 : Int32))), .val (.int (own_min (p1 &&& (2147483647 : Int32)) (p2 &&& (2147483647 : Int32)))), .val (.int (own_max (p1 &&& (2147483647 : Int32)) (p2 &&& (2147483647 : Int32)))), .val (.ref b6), .unset, .unset] [(.int (own_min (p1 &&& (2147483647 : Int32)) (p2 &&& (2147483647 : Int32))))])) _
    refine XS.iloadN X7.here hx rfl (hb hby at_42) rfl ?_
    show Steps p.tables e below (T7.setTop (mkF m 43 #[.val (.int p1), .val (.int p2), .val (.int p3), .val (.int (p1 &&& (2147483647 : Int32))), .val (.int (p2 &&& (2147483647 : Int32))), .val (.int (own_min (p1 &&& (2147483647 : Int32)) (p2 &&& (2147483647 : Int32)))), .val (.int (own_max (p1 &&& (2147483647 : Int32)) (p2 &&& (2147483647 : Int32)))), .val (.ref b6), .unset, .unset] [(.int p3), (.int (own_min (p1 &&& (2147483647 : Int32)) (p2 &&& (2147483647 : Int32))))])) _
    refine XS.iload X7.here hx rfl (hb hby at_43) rfl ?_
    show Steps p.tables e below (T7.setTop (mkF m 45 #[.val (.int p1), .val (.int p2), .val (.int p3), .val (.int (p1 &&& (2147483647 : Int32))), .val (.int (p2 &&& (2147483647 : Int32))), .val (.int (own_min (p1 &&& (2147483647 : Int32)) (p2 &&& (2147483647 : Int32)))), .val (.int (own_max (p1 &&& (2147483647 : Int32)) (p2 &&& (2147483647 : Int32)))), .val (.ref b6), .unset, .unset] [(.int (own_max (p1 &&& (2147483647 : Int32)) (p2 &&& (2147483647 : Int32)))), (.int p3), (.int (own_min (p1 &&& (2147483647 : Int32)) (p2 &&& (2147483647 : Int32))))])) _
    refine st8 _ ?_
    show Steps p.tables e below (T8.setTop (mkF m 48 #[.val (.int p1), .val (.int p2), .val (.int p3), .val (.int (p1 &&& (2147483647 : Int32))), .val (.int (p2 &&& (2147483647 : Int32))), .val (.int (own_min (p1 &&& (2147483647 : Int32)) (p2 &&& (2147483647 : Int32)))), .val (.int (own_max (p1 &&& (2147483647 : Int32)) (p2 &&& (2147483647 : Int32)))), .val (.ref b6), .unset, .unset] [(.int (own_min p3 (own_max (p1 &&& (2147483647 : Int32)) (p2 &&& (2147483647 : Int32))))), (.int (own_min (p1 &&& (2147483647 : Int32)) (p2 &&& (2147483647 : Int32))))])) _
    refine st9 _ ?_
    show Steps p.tables e below (T9.setTop (mkF m 51 #[.val (.int p1), .val (.int p2), .val (.int p3), .val (.int (p1 &&& (2147483647 : Int32))), .val (.int (p2 &&& (2147483647 : Int32))), .val (.int (own_min (p1 &&& (2147483647 : Int32)) (p2 &&& (2147483647 : Int32)))), .val (.int (own_max (p1 &&& (2147483647 : Int32)) (p2 &&& (2147483647 : Int32)))), .val (.ref b6), .unset, .unset] [(.int (own_max (own_min (p1 &&& (2147483647 : Int32)) (p2 &&& (2147483647 : Int32))) (own_min p3 (own_max (p1 &&& (2147483647 : Int32)) (p2 &&& (2147483647 : Int32))))))])) _
    refine XS.istore X9.here hx rfl (hb hby at_51) rfl (l' := #[.val (.int p1), .val (.int p2), .val (.int p3), .val (.int (p1 &&& (2147483647 : Int32))), .val (.int (p2 &&& (2147483647 : Int32))), .val (.int (own_min (p1 &&& (2147483647 : Int32)) (p2 &&& (2147483647 : Int32)))), .val (.int (own_max (p1 &&& (2147483647 : Int32)) (p2 &&& (2147483647 : Int32)))), .val (.ref b6), .val (.int (own_max (own_min (p1 &&& (2147483647 : Int32)) (p2 &&& (2147483647 : Int32))) (own_min p3 (own_max (p1 &&& (2147483647 : Int32)) (p2 &&& (2147483647 : Int32)))))), .unset]) rfl ?_
    show Steps p.tables e below (T9.setTop (mkF m 53 #[.val (.int p1), .val (.int p2), .val (.int p3), .val (.int (p1 &&& (2147483647 : Int32))), .val (.int (p2 &&& (2147483647 : Int32))), .val (.int (own_min (p1 &&& (2147483647 : Int32)) (p2 &&& (2147483647 : Int32)))), .val (.int (own_max (p1 &&& (2147483647 : Int32)) (p2 &&& (2147483647 : Int32)))), .val (.ref b6), .val (.int (own_max (own_min (p1 &&& (2147483647 : Int32)) (p2 &&& (2147483647 : Int32))) (own_min p3 (own_max (p1 &&& (2147483647 : Int32)) (p2 &&& (2147483647 : Int32)))))), .unset] [])) _
    refine XS.iload X9.here hx rfl (hb hby at_53) rfl ?_
    show Steps p.tables e below (T9.setTop (mkF m 55 #[.val (.int p1), .val (.int p2), .val (.int p3), .val (.int (p1 &&& (2147483647 : Int32))), .val (.int (p2 &&& (2147483647 : Int32))), .val (.int (own_min (p1 &&& (2147483647 : Int32)) (p2 &&& (2147483647 : Int32)))), .val (.int (own_max (p1 &&& (2147483647 : Int32)) (p2 &&& (2147483647 : Int32)))), .val (.ref b6), .val (.int (own_max (own_min (p1 &&& (2147483647 : Int32)) (p2 &&& (2147483647 : Int32))) (own_min p3 (own_max (p1 &&& (2147483647 : Int32)) (p2 &&& (2147483647 : Int32)))))), .unset] [(.int (own_max (own_min (p1 &&& (2147483647 : Int32)) (p2 &&& (2147483647 : Int32))) (own_min p3 (own_max (p1 &&& (2147483647 : Int32)) (p2 &&& (2147483647 : Int32))))))])) _
    refine XS.iloadN X9.here hx rfl (hb hby at_55) rfl ?_
    show Steps p.tables e below (T9.setTop (mkF m 56 #[.val (.int p1), .val (.int p2), .val (.int p3), .val (.int (p1 &&& (2147483647 : Int32))), .val (.int (p2 &&& (2147483647 : Int32))), .val (.int (own_min (p1 &&& (2147483647 : Int32)) (p2 &&& (2147483647 : Int32)))), .val (.int (own_max (p1 &&& (2147483647 : Int32)) (p2 &&& (2147483647 : Int32)))), .val (.ref b6), .val (.int (own_max (own_min (p1 &&& (2147483647 : Int32)) (p2 &&& (2147483647 : Int32))) (own_min p3 (own_max (p1 &&& (2147483647 : Int32)) (p2 &&& (2147483647 : Int32)))))), .unset] [(.int p3), (.int (own_max (own_min (p1 &&& (2147483647 : Int32)) (p2 &&& (2147483647 : Int32))) (own_min p3 (own_max (p1 &&& (2147483647 : Int32)) (p2 &&& (2147483647 : Int32))))))])) _
    refine XS.icmpYes X9.here hx rfl (pc0 := 56) (pc' := 63) rfl (hb hby at_56) rfl (feq (hE : ¬ ((own_max (own_min (p1 &&& (2147483647 : Int32)) (p2 &&& (2147483647 : Int32))) (own_min p3 (own_max (p1 &&& (2147483647 : Int32)) (p2 &&& (2147483647 : Int32))))) = p3))).2 (by decide) (by decide) ?_
    show Steps p.tables e below (T9.setTop (mkF m 63 #[.val (.int p1), .val (.int p2), .val (.int p3), .val (.int (p1 &&& (2147483647 : Int32))), .val (.int (p2 &&& (2147483647 : Int32))), .val (.int (own_min (p1 &&& (2147483647 : Int32)) (p2 &&& (2147483647 : Int32)))), .val (.int (own_max (p1 &&& (2147483647 : Int32)) (p2 &&& (2147483647 : Int32)))), .val (.ref b6), .val (.int (own_max (own_min (p1 &&& (2147483647 : Int32)) (p2 &&& (2147483647 : Int32))) (own_min p3 (own_max (p1 &&& (2147483647 : Int32)) (p2 &&& (2147483647 : Int32)))))), .unset] [])) _
    refine XS.iconst X9.here hx rfl (hb hby at_63) ?_
    show Steps p.tables e below (T9.setTop (mkF m 64 #[.val (.int p1), .val (.int p2), .val (.int p3), .val (.int (p1 &&& (2147483647 : Int32))), .val (.int (p2 &&& (2147483647 : Int32))), .val (.int (own_min (p1 &&& (2147483647 : Int32)) (p2 &&& (2147483647 : Int32)))), .val (.int (own_max (p1 &&& (2147483647 : Int32)) (p2 &&& (2147483647 : Int32)))), .val (.ref b6), .val (.int (own_max (own_min (p1 &&& (2147483647 : Int32)) (p2 &&& (2147483647 : Int32))) (own_min p3 (own_max (p1 &&& (2147483647 : Int32)) (p2 &&& (2147483647 : Int32)))))), .unset] [(.int (0 : Int32))])) _
    refine XS.istore X9.here hx rfl (hb hby at_64) rfl (l' := #[.val (.int p1), .val (.int p2), .val (.int p3), .val (.int (p1 &&& (2147483647 : Int32))), .val (.int (p2 &&& (2147483647 : Int32))), .val (.int (own_min (p1 &&& (2147483647 : Int32)) (p2 &&& (2147483647 : Int32)))), .val (.int (own_max (p1 &&& (2147483647 : Int32)) (p2 &&& (2147483647 : Int32)))), .val (.ref b6), .val (.int (own_max (own_min (p1 &&& (2147483647 : Int32)) (p2 &&& (2147483647 : Int32))) (own_min p3 (own_max (p1 &&& (2147483647 : Int32)) (p2 &&& (2147483647 : Int32)))))), .val (.int (0 : Int32))]) rfl ?_
    show Steps p.tables e below (T9.setTop (mkF m 66 #[.val (.int p1), .val (.int p2), .val (.int p3), .val (.int (p1 &&& (2147483647 : Int32))), .val (.int (p2 &&& (2147483647 : Int32))), .val (.int (own_min (p1 &&& (2147483647 : Int32)) (p2 &&& (2147483647 : Int32)))), .val (.int (own_max (p1 &&& (2147483647 : Int32)) (p2 &&& (2147483647 : Int32)))), .val (.ref b6), .val (.int (own_max (own_min (p1 &&& (2147483647 : Int32)) (p2 &&& (2147483647 : Int32))) (own_min p3 (own_max (p1 &&& (2147483647 : Int32)) (p2 &&& (2147483647 : Int32)))))), .val (.int (0 : Int32))] [])) _
    refine XS.aload X9.here hx rfl (hb hby at_66) rfl rfl ?_
    show Steps p.tables e below (T9.setTop (mkF m 68 #[.val (.int p1), .val (.int p2), .val (.int p3), .val (.int (p1 &&& (2147483647 : Int32))), .val (.int (p2 &&& (2147483647 : Int32))), .val (.int (own_min (p1 &&& (2147483647 : Int32)) (p2 &&& (2147483647 : Int32)))), .val (.int (own_max (p1 &&& (2147483647 : Int32)) (p2 &&& (2147483647 : Int32)))), .val (.ref b6), .val (.int (own_max (own_min (p1 &&& (2147483647 : Int32)) (p2 &&& (2147483647 : Int32))) (own_min p3 (own_max (p1 &&& (2147483647 : Int32)) (p2 &&& (2147483647 : Int32)))))), .val (.int (0 : Int32))] [(.ref b6)])) _
    refine XS.iloadN X9.here hx rfl (hb hby at_68) rfl ?_
    show Steps p.tables e below (T9.setTop (mkF m 69 #[.val (.int p1), .val (.int p2), .val (.int p3), .val (.int (p1 &&& (2147483647 : Int32))), .val (.int (p2 &&& (2147483647 : Int32))), .val (.int (own_min (p1 &&& (2147483647 : Int32)) (p2 &&& (2147483647 : Int32)))), .val (.int (own_max (p1 &&& (2147483647 : Int32)) (p2 &&& (2147483647 : Int32)))), .val (.ref b6), .val (.int (own_max (own_min (p1 &&& (2147483647 : Int32)) (p2 &&& (2147483647 : Int32))) (own_min p3 (own_max (p1 &&& (2147483647 : Int32)) (p2 &&& (2147483647 : Int32)))))), .val (.int (0 : Int32))] [(.int p3), (.ref b6)])) _
    refine st10.trans ?_
    show Steps p.tables e below (T10.setTop (mkF m 72 #[.val (.int p1), .val (.int p2), .val (.int p3), .val (.int (p1 &&& (2147483647 : Int32))), .val (.int (p2 &&& (2147483647 : Int32))), .val (.int (own_min (p1 &&& (2147483647 : Int32)) (p2 &&& (2147483647 : Int32)))), .val (.int (own_max (p1 &&& (2147483647 : Int32)) (p2 &&& (2147483647 : Int32)))), .val (.ref b6), .val (.int (own_max (own_min (p1 &&& (2147483647 : Int32)) (p2 &&& (2147483647 : Int32))) (own_min p3 (own_max (p1 &&& (2147483647 : Int32)) (p2 &&& (2147483647 : Int32)))))), .val (.int (0 : Int32))] [(.int (own_in (own_min (p1 &&& (2147483647 : Int32)) (p2 &&& (2147483647 : Int32))) (own_max (p1 &&& (2147483647 : Int32)) (p2 &&& (2147483647 : Int32))) p3))])) _
    refine XS.iload X10.here hx rfl (hb hby at_72) rfl ?_
    show Steps p.tables e below (T10.setTop (mkF m 74 #[.val (.int p1), .val (.int p2), .val (.int p3), .val (.int (p1 &&& (2147483647 : Int32))), .val (.int (p2 &&& (2147483647 : Int32))), .val (.int (own_min (p1 &&& (2147483647 : Int32)) (p2 &&& (2147483647 : Int32)))), .val (.int (own_max (p1 &&& (2147483647 : Int32)) (p2 &&& (2147483647 : Int32)))), .val (.ref b6), .val (.int (own_max (own_min (p1 &&& (2147483647 : Int32)) (p2 &&& (2147483647 : Int32))) (own_min p3 (own_max (p1 &&& (2147483647 : Int32)) (p2 &&& (2147483647 : Int32)))))), .val (.int (0 : Int32))] [(.int (0 : Int32)), (.int (own_in (own_min (p1 &&& (2147483647 : Int32)) (p2 &&& (2147483647 : Int32))) (own_max (p1 &&& (2147483647 : Int32)) (p2 &&& (2147483647 : Int32))) p3))])) _
    refine XS.icmpYes X10.here hx rfl (pc0 := 74) (pc' := 79) rfl (hb hby at_74) rfl (teq (own_cl0 (own_lohi (p1 &&& (2147483647 : Int32)) (p2 &&& (2147483647 : Int32))) hE : (own_in (own_min (p1 &&& (2147483647 : Int32)) (p2 &&& (2147483647 : Int32))) (own_max (p1 &&& (2147483647 : Int32)) (p2 &&& (2147483647 : Int32))) p3) = (0 : Int32))).1 (by decide) (by decide) ?_
    show Steps p.tables e below (T10.setTop (mkF m 79 #[.val (.int p1), .val (.int p2), .val (.int p3), .val (.int (p1 &&& (2147483647 : Int32))), .val (.int (p2 &&& (2147483647 : Int32))), .val (.int (own_min (p1 &&& (2147483647 : Int32)) (p2 &&& (2147483647 : Int32)))), .val (.int (own_max (p1 &&& (2147483647 : Int32)) (p2 &&& (2147483647 : Int32)))), .val (.ref b6), .val (.int (own_max (own_min (p1 &&& (2147483647 : Int32)) (p2 &&& (2147483647 : Int32))) (own_min p3 (own_max (p1 &&& (2147483647 : Int32)) (p2 &&& (2147483647 : Int32)))))), .val (.int (0 : Int32))] [])) _
    refine XS.aload X10.here hx rfl (hb hby at_79) rfl rfl ?_
    show Steps p.tables e below (T10.setTop (mkF m 81 #[.val (.int p1), .val (.int p2), .val (.int p3), .val (.int (p1 &&& (2147483647 : Int32))), .val (.int (p2 &&& (2147483647 : Int32))), .val (.int (own_min (p1 &&& (2147483647 : Int32)) (p2 &&& (2147483647 : Int32)))), .val (.int (own_max (p1 &&& (2147483647 : Int32)) (p2 &&& (2147483647 : Int32)))), .val (.ref b6), .val (.int (own_max (own_min (p1 &&& (2147483647 : Int32)) (p2 &&& (2147483647 : Int32))) (own_min p3 (own_max (p1 &&& (2147483647 : Int32)) (p2 &&& (2147483647 : Int32)))))), .val (.int (0 : Int32))] [(.ref b6)])) _
    refine XS.iload X10.here hx rfl (hb hby at_81) rfl ?_
    show Steps p.tables e below (T10.setTop (mkF m 83 #[.val (.int p1), .val (.int p2), .val (.int p3), .val (.int (p1 &&& (2147483647 : Int32))), .val (.int (p2 &&& (2147483647 : Int32))), .val (.int (own_min (p1 &&& (2147483647 : Int32)) (p2 &&& (2147483647 : Int32)))), .val (.int (own_max (p1 &&& (2147483647 : Int32)) (p2 &&& (2147483647 : Int32)))), .val (.ref b6), .val (.int (own_max (own_min (p1 &&& (2147483647 : Int32)) (p2 &&& (2147483647 : Int32))) (own_min p3 (own_max (p1 &&& (2147483647 : Int32)) (p2 &&& (2147483647 : Int32)))))), .val (.int (0 : Int32))] [(.int (own_min (p1 &&& (2147483647 : Int32)) (p2 &&& (2147483647 : Int32)))), (.ref b6)])) _
    refine st11.trans ?_
    show Steps p.tables e below (T11.setTop (mkF m 86 #[.val (.int p1), .val (.int p2), .val (.int p3), .val (.int (p1 &&& (2147483647 : Int32))), .val (.int (p2 &&& (2147483647 : Int32))), .val (.int (own_min (p1 &&& (2147483647 : Int32)) (p2 &&& (2147483647 : Int32)))), .val (.int (own_max (p1 &&& (2147483647 : Int32)) (p2 &&& (2147483647 : Int32)))), .val (.ref b6), .val (.int (own_max (own_min (p1 &&& (2147483647 : Int32)) (p2 &&& (2147483647 : Int32))) (own_min p3 (own_max (p1 &&& (2147483647 : Int32)) (p2 &&& (2147483647 : Int32)))))), .val (.int (0 : Int32))] [(.int (own_in (own_min (p1 &&& (2147483647 : Int32)) (p2 &&& (2147483647 : Int32))) (own_max (p1 &&& (2147483647 : Int32)) (p2 &&& (2147483647 : Int32))) (own_min (p1 &&& (2147483647 : Int32)) (p2 &&& (2147483647 : Int32)))))])) _
    refine XS.ifYes X11.here hx rfl (pc0 := 86) (pc' := 91) rfl (hb hby at_86) rfl ((if0 _ _).trans (feq ((own_ends (own_lohi (p1 &&& (2147483647 : Int32)) (p2 &&& (2147483647 : Int32)))).1 : ¬ ((own_in (own_min (p1 &&& (2147483647 : Int32)) (p2 &&& (2147483647 : Int32))) (own_max (p1 &&& (2147483647 : Int32)) (p2 &&& (2147483647 : Int32))) (own_min (p1 &&& (2147483647 : Int32)) (p2 &&& (2147483647 : Int32)))) = (0 : Int32)))).2) (by decide) (by decide) ?_
    show Steps p.tables e below (T11.setTop (mkF m 91 #[.val (.int p1), .val (.int p2), .val (.int p3), .val (.int (p1 &&& (2147483647 : Int32))), .val (.int (p2 &&& (2147483647 : Int32))), .val (.int (own_min (p1 &&& (2147483647 : Int32)) (p2 &&& (2147483647 : Int32)))), .val (.int (own_max (p1 &&& (2147483647 : Int32)) (p2 &&& (2147483647 : Int32)))), .val (.ref b6), .val (.int (own_max (own_min (p1 &&& (2147483647 : Int32)) (p2 &&& (2147483647 : Int32))) (own_min p3 (own_max (p1 &&& (2147483647 : Int32)) (p2 &&& (2147483647 : Int32)))))), .val (.int (0 : Int32))] [])) _
    refine XS.aload X11.here hx rfl (hb hby at_91) rfl rfl ?_
    show Steps p.tables e below (T11.setTop (mkF m 93 #[.val (.int p1), .val (.int p2), .val (.int p3), .val (.int (p1 &&& (2147483647 : Int32))), .val (.int (p2 &&& (2147483647 : Int32))), .val (.int (own_min (p1 &&& (2147483647 : Int32)) (p2 &&& (2147483647 : Int32)))), .val (.int (own_max (p1 &&& (2147483647 : Int32)) (p2 &&& (2147483647 : Int32)))), .val (.ref b6), .val (.int (own_max (own_min (p1 &&& (2147483647 : Int32)) (p2 &&& (2147483647 : Int32))) (own_min p3 (own_max (p1 &&& (2147483647 : Int32)) (p2 &&& (2147483647 : Int32)))))), .val (.int (0 : Int32))] [(.ref b6)])) _
    refine XS.iload X11.here hx rfl (hb hby at_93) rfl ?_
    show Steps p.tables e below (T11.setTop (mkF m 95 #[.val (.int p1), .val (.int p2), .val (.int p3), .val (.int (p1 &&& (2147483647 : Int32))), .val (.int (p2 &&& (2147483647 : Int32))), .val (.int (own_min (p1 &&& (2147483647 : Int32)) (p2 &&& (2147483647 : Int32)))), .val (.int (own_max (p1 &&& (2147483647 : Int32)) (p2 &&& (2147483647 : Int32)))), .val (.ref b6), .val (.int (own_max (own_min (p1 &&& (2147483647 : Int32)) (p2 &&& (2147483647 : Int32))) (own_min p3 (own_max (p1 &&& (2147483647 : Int32)) (p2 &&& (2147483647 : Int32)))))), .val (.int (0 : Int32))] [(.int (own_max (p1 &&& (2147483647 : Int32)) (p2 &&& (2147483647 : Int32)))), (.ref b6)])) _
    refine st12.trans ?_
    show Steps p.tables e below (T12.setTop (mkF m 98 #[.val (.int p1), .val (.int p2), .val (.int p3), .val (.int (p1 &&& (2147483647 : Int32))), .val (.int (p2 &&& (2147483647 : Int32))), .val (.int (own_min (p1 &&& (2147483647 : Int32)) (p2 &&& (2147483647 : Int32)))), .val (.int (own_max (p1 &&& (2147483647 : Int32)) (p2 &&& (2147483647 : Int32)))), .val (.ref b6), .val (.int (own_max (own_min (p1 &&& (2147483647 : Int32)) (p2 &&& (2147483647 : Int32))) (own_min p3 (own_max (p1 &&& (2147483647 : Int32)) (p2 &&& (2147483647 : Int32)))))), .val (.int (0 : Int32))] [(.int (own_in (own_min (p1 &&& (2147483647 : Int32)) (p2 &&& (2147483647 : Int32))) (own_max (p1 &&& (2147483647 : Int32)) (p2 &&& (2147483647 : Int32))) (own_max (p1 &&& (2147483647 : Int32)) (p2 &&& (2147483647 : Int32)))))])) _
    refine XS.ifYes X12.here hx rfl (pc0 := 98) (pc' := 103) rfl (hb hby at_98) rfl ((if0 _ _).trans (feq ((own_ends (own_lohi (p1 &&& (2147483647 : Int32)) (p2 &&& (2147483647 : Int32)))).2 : ¬ ((own_in (own_min (p1 &&& (2147483647 : Int32)) (p2 &&& (2147483647 : Int32))) (own_max (p1 &&& (2147483647 : Int32)) (p2 &&& (2147483647 : Int32))) (own_max (p1 &&& (2147483647 : Int32)) (p2 &&& (2147483647 : Int32)))) = (0 : Int32)))).2) (by decide) (by decide) ?_
    show Steps p.tables e below (T12.setTop (mkF m 103 #[.val (.int p1), .val (.int p2), .val (.int p3), .val (.int (p1 &&& (2147483647 : Int32))), .val (.int (p2 &&& (2147483647 : Int32))), .val (.int (own_min (p1 &&& (2147483647 : Int32)) (p2 &&& (2147483647 : Int32)))), .val (.int (own_max (p1 &&& (2147483647 : Int32)) (p2 &&& (2147483647 : Int32)))), .val (.ref b6), .val (.int (own_max (own_min (p1 &&& (2147483647 : Int32)) (p2 &&& (2147483647 : Int32))) (own_min p3 (own_max (p1 &&& (2147483647 : Int32)) (p2 &&& (2147483647 : Int32)))))), .val (.int (0 : Int32))] [])) _
    refine XS.aload X12.here hx rfl (hb hby at_103) rfl rfl ?_
    show Steps p.tables e below (T12.setTop (mkF m 105 #[.val (.int p1), .val (.int p2), .val (.int p3), .val (.int (p1 &&& (2147483647 : Int32))), .val (.int (p2 &&& (2147483647 : Int32))), .val (.int (own_min (p1 &&& (2147483647 : Int32)) (p2 &&& (2147483647 : Int32)))), .val (.int (own_max (p1 &&& (2147483647 : Int32)) (p2 &&& (2147483647 : Int32)))), .val (.ref b6), .val (.int (own_max (own_min (p1 &&& (2147483647 : Int32)) (p2 &&& (2147483647 : Int32))) (own_min p3 (own_max (p1 &&& (2147483647 : Int32)) (p2 &&& (2147483647 : Int32)))))), .val (.int (0 : Int32))] [(.ref b6)])) _
    refine XS.iload X12.here hx rfl (hb hby at_105) rfl ?_
    show Steps p.tables e below (T12.setTop (mkF m 107 #[.val (.int p1), .val (.int p2), .val (.int p3), .val (.int (p1 &&& (2147483647 : Int32))), .val (.int (p2 &&& (2147483647 : Int32))), .val (.int (own_min (p1 &&& (2147483647 : Int32)) (p2 &&& (2147483647 : Int32)))), .val (.int (own_max (p1 &&& (2147483647 : Int32)) (p2 &&& (2147483647 : Int32)))), .val (.ref b6), .val (.int (own_max (own_min (p1 &&& (2147483647 : Int32)) (p2 &&& (2147483647 : Int32))) (own_min p3 (own_max (p1 &&& (2147483647 : Int32)) (p2 &&& (2147483647 : Int32)))))), .val (.int (0 : Int32))] [(.int (own_min (p1 &&& (2147483647 : Int32)) (p2 &&& (2147483647 : Int32)))), (.ref b6)])) _
    refine XS.iconst X12.here hx rfl (hb hby at_107) ?_
    show Steps p.tables e below (T12.setTop (mkF m 108 #[.val (.int p1), .val (.int p2), .val (.int p3), .val (.int (p1 &&& (2147483647 : Int32))), .val (.int (p2 &&& (2147483647 : Int32))), .val (.int (own_min (p1 &&& (2147483647 : Int32)) (p2 &&& (2147483647 : Int32)))), .val (.int (own_max (p1 &&& (2147483647 : Int32)) (p2 &&& (2147483647 : Int32)))), .val (.ref b6), .val (.int (own_max (own_min (p1 &&& (2147483647 : Int32)) (p2 &&& (2147483647 : Int32))) (own_min p3 (own_max (p1 &&& (2147483647 : Int32)) (p2 &&& (2147483647 : Int32)))))), .val (.int (0 : Int32))] [(.int (1 : Int32)), (.int (own_min (p1 &&& (2147483647 : Int32)) (p2 &&& (2147483647 : Int32)))), (.ref b6)])) _
    refine XS.isub X12.here hx rfl (hb hby at_108) rfl ?_
    show Steps p.tables e below (T12.setTop (mkF m 109 #[.val (.int p1), .val (.int p2), .val (.int p3), .val (.int (p1 &&& (2147483647 : Int32))), .val (.int (p2 &&& (2147483647 : Int32))), .val (.int (own_min (p1 &&& (2147483647 : Int32)) (p2 &&& (2147483647 : Int32)))), .val (.int (own_max (p1 &&& (2147483647 : Int32)) (p2 &&& (2147483647 : Int32)))), .val (.ref b6), .val (.int (own_max (own_min (p1 &&& (2147483647 : Int32)) (p2 &&& (2147483647 : Int32))) (own_min p3 (own_max (p1 &&& (2147483647 : Int32)) (p2 &&& (2147483647 : Int32)))))), .val (.int (0 : Int32))] [(.int ((own_min (p1 &&& (2147483647 : Int32)) (p2 &&& (2147483647 : Int32))) - (1 : Int32))), (.ref b6)])) _
    refine st13.trans ?_
    show Steps p.tables e below (T13.setTop (mkF m 112 #[.val (.int p1), .val (.int p2), .val (.int p3), .val (.int (p1 &&& (2147483647 : Int32))), .val (.int (p2 &&& (2147483647 : Int32))), .val (.int (own_min (p1 &&& (2147483647 : Int32)) (p2 &&& (2147483647 : Int32)))), .val (.int (own_max (p1 &&& (2147483647 : Int32)) (p2 &&& (2147483647 : Int32)))), .val (.ref b6), .val (.int (own_max (own_min (p1 &&& (2147483647 : Int32)) (p2 &&& (2147483647 : Int32))) (own_min p3 (own_max (p1 &&& (2147483647 : Int32)) (p2 &&& (2147483647 : Int32)))))), .val (.int (0 : Int32))] [(.int (own_in (own_min (p1 &&& (2147483647 : Int32)) (p2 &&& (2147483647 : Int32))) (own_max (p1 &&& (2147483647 : Int32)) (p2 &&& (2147483647 : Int32))) ((own_min (p1 &&& (2147483647 : Int32)) (p2 &&& (2147483647 : Int32))) - (1 : Int32))))])) _
    refine XS.ifYes X13.here hx rfl (pc0 := 112) (pc' := 117) rfl (hb hby at_112) rfl ((if0 _ _).trans (teq (own_below (own_lo0 (p1 &&& (2147483647 : Int32)) (p2 &&& (2147483647 : Int32)) (c_and p1 2147483647 (by decide)).1 (c_and p2 2147483647 (by decide)).1) : (own_in (own_min (p1 &&& (2147483647 : Int32)) (p2 &&& (2147483647 : Int32))) (own_max (p1 &&& (2147483647 : Int32)) (p2 &&& (2147483647 : Int32))) ((own_min (p1 &&& (2147483647 : Int32)) (p2 &&& (2147483647 : Int32))) - (1 : Int32))) = (0 : Int32))).1) (by decide) (by decide) ?_
    show Steps p.tables e below (T13.setTop (mkF m 117 #[.val (.int p1), .val (.int p2), .val (.int p3), .val (.int (p1 &&& (2147483647 : Int32))), .val (.int (p2 &&& (2147483647 : Int32))), .val (.int (own_min (p1 &&& (2147483647 : Int32)) (p2 &&& (2147483647 : Int32)))), .val (.int (own_max (p1 &&& (2147483647 : Int32)) (p2 &&& (2147483647 : Int32)))), .val (.ref b6), .val (.int (own_max (own_min (p1 &&& (2147483647 : Int32)) (p2 &&& (2147483647 : Int32))) (own_min p3 (own_max (p1 &&& (2147483647 : Int32)) (p2 &&& (2147483647 : Int32)))))), .val (.int (0 : Int32))] [])) _
    refine XS.iload X13.here hx rfl (hb hby at_117) rfl ?_
    show Steps p.tables e below (T13.setTop (mkF m 119 #[.val (.int p1), .val (.int p2), .val (.int p3), .val (.int (p1 &&& (2147483647 : Int32))), .val (.int (p2 &&& (2147483647 : Int32))), .val (.int (own_min (p1 &&& (2147483647 : Int32)) (p2 &&& (2147483647 : Int32)))), .val (.int (own_max (p1 &&& (2147483647 : Int32)) (p2 &&& (2147483647 : Int32)))), .val (.ref b6), .val (.int (own_max (own_min (p1 &&& (2147483647 : Int32)) (p2 &&& (2147483647 : Int32))) (own_min p3 (own_max (p1 &&& (2147483647 : Int32)) (p2 &&& (2147483647 : Int32)))))), .val (.int (0 : Int32))] [(.int (own_max (p1 &&& (2147483647 : Int32)) (p2 &&& (2147483647 : Int32))))])) _
    refine X13.ldcInt hx hown (mvT hZ (hw _ (List.mem_of_getElem? (i := 0) rfl))) (g := (mkF m 119 #[.val (.int p1), .val (.int p2), .val (.int p3), .val (.int (p1 &&& (2147483647 : Int32))), .val (.int (p2 &&& (2147483647 : Int32))), .val (.int (own_min (p1 &&& (2147483647 : Int32)) (p2 &&& (2147483647 : Int32)))), .val (.int (own_max (p1 &&& (2147483647 : Int32)) (p2 &&& (2147483647 : Int32)))), .val (.ref b6), .val (.int (own_max (own_min (p1 &&& (2147483647 : Int32)) (p2 &&& (2147483647 : Int32))) (own_min p3 (own_max (p1 &&& (2147483647 : Int32)) (p2 &&& (2147483647 : Int32)))))), .val (.int (0 : Int32))] [(.int (own_max (p1 &&& (2147483647 : Int32)) (p2 &&& (2147483647 : Int32))))])) rfl (hb hby at_119) _ ?_
    show Steps p.tables e below (T13.setTop (mkF m 121 #[.val (.int p1), .val (.int p2), .val (.int p3), .val (.int (p1 &&& (2147483647 : Int32))), .val (.int (p2 &&& (2147483647 : Int32))), .val (.int (own_min (p1 &&& (2147483647 : Int32)) (p2 &&& (2147483647 : Int32)))), .val (.int (own_max (p1 &&& (2147483647 : Int32)) (p2 &&& (2147483647 : Int32)))), .val (.ref b6), .val (.int (own_max (own_min (p1 &&& (2147483647 : Int32)) (p2 &&& (2147483647 : Int32))) (own_min p3 (own_max (p1 &&& (2147483647 : Int32)) (p2 &&& (2147483647 : Int32)))))), .val (.int (0 : Int32))] [(.int (2147483647 : Int32)), (.int (own_max (p1 &&& (2147483647 : Int32)) (p2 &&& (2147483647 : Int32))))])) _
    refine XS.icmpYes X13.here hx rfl (pc0 := 121) (pc' := 138) rfl (hb hby at_121) rfl (teq (hM : (own_max (p1 &&& (2147483647 : Int32)) (p2 &&& (2147483647 : Int32))) = (2147483647 : Int32))).1 (by decide) (by decide) ?_
    show Steps p.tables e below (T13.setTop (mkF m 138 #[.val (.int p1), .val (.int p2), .val (.int p3), .val (.int (p1 &&& (2147483647 : Int32))), .val (.int (p2 &&& (2147483647 : Int32))), .val (.int (own_min (p1 &&& (2147483647 : Int32)) (p2 &&& (2147483647 : Int32)))), .val (.int (own_max (p1 &&& (2147483647 : Int32)) (p2 &&& (2147483647 : Int32)))), .val (.ref b6), .val (.int (own_max (own_min (p1 &&& (2147483647 : Int32)) (p2 &&& (2147483647 : Int32))) (own_min p3 (own_max (p1 &&& (2147483647 : Int32)) (p2 &&& (2147483647 : Int32)))))), .val (.int (0 : Int32))] [])) _
    refine XS.iconst X13.here hx rfl (hb hby at_138) ?_
    show Steps p.tables e below (T13.setTop (mkF m 139 #[.val (.int p1), .val (.int p2), .val (.int p3), .val (.int (p1 &&& (2147483647 : Int32))), .val (.int (p2 &&& (2147483647 : Int32))), .val (.int (own_min (p1 &&& (2147483647 : Int32)) (p2 &&& (2147483647 : Int32)))), .val (.int (own_max (p1 &&& (2147483647 : Int32)) (p2 &&& (2147483647 : Int32)))), .val (.ref b6), .val (.int (own_max (own_min (p1 &&& (2147483647 : Int32)) (p2 &&& (2147483647 : Int32))) (own_min p3 (own_max (p1 &&& (2147483647 : Int32)) (p2 &&& (2147483647 : Int32)))))), .val (.int (0 : Int32))] [(.int (1 : Int32))])) _
    exact retN X13 hx (t := .boolean) Bd.returns (by simp) (hb hby at_139) hr
  · show Q0 Z p1 p2 p3 h0 n0 _ T13.heap _
    exact ⟨rfl, N13⟩
set_option maxRecDepth 65536 in
set_option maxHeartbeats 40000000 in
theorem rm0_fttttft (l : Launch) (Z : State) (a0 : Array Value) (hw : ∀ d ∈ tables_1, d.before a0 Z = true) (ws : List Jvm.Cond) (p1 : Int32) (p2 : Int32) (p3 : Int32) (h0 : Heap) (n0 : Nat) (Z0 : n0 ≤ h0.size) (hE : ((own_max (own_min (p1 &&& (2147483647 : Int32)) (p2 &&& (2147483647 : Int32))) (own_min p3 (own_max (p1 &&& (2147483647 : Int32)) (p2 &&& (2147483647 : Int32))))) = p3)) (hM : ¬ ((own_max (p1 &&& (2147483647 : Int32)) (p2 &&& (2147483647 : Int32))) = (2147483647 : Int32))) :
    MetFree l x (head1 (Jvm.Cond.code x code maxLocals ret :: ws) room_1) (fun a U => a = #[(.int p1), (.int p2), (.int p3)] ∧ Z.Warmed39 U.vm ∧ U.heap = h0) (fun _ _ _ _ _ => True) (fun _ U o U' => ∃ v L, o = .returned v ∧ Q0 Z p1 p2 p3 h0 n0 v U'.heap L ∧ FrameEnd U o U' L room_1.cells room_1.slots) := by
  refine MetFree.of_bodySF (plainFor_of_name pn_0) hisR ?_
  intro p e s m args below meth c s₁ Bd hml0 hP hK
  obtain ⟨rfl, hZ, hh⟩ := hP
  have hx := Bd.exec
  have hby := Bd.bytes
  have hml : c.maxLocals = 10 := hml0
  have hown : s.vm.findClass "com/example/rugged_consumer/ruggedconsumer/protocol/VersionRangeContainsPinLaw" = some m.cls := findClass_of_methodNamed Bd.named
  have hnm := (name_of_methodNamed Bd.named Bd.method).1
  have X0 : Stand p l e room_1 s m #[(.int p1), (.int p2), (.int p3)] below meth c s₁ [] 0 0 := Stand.of_body Bd
  have e0 : s₁.heap = h0 := by rw [← hh, Bd.state]; rfl
  have N0 := Fr.nil n0
  have pre0 : ∀ t, Steps p.tables e below (s₁.setTop (mkF m 0 #[.val (.int p1), .val (.int p2), .val (.int p3), .unset, .unset, .unset, .unset, .unset, .unset, .unset] [])) t → Steps p.tables e below (s₁.setTop (entryFrame m #[(.int p1), (.int p2), (.int p3)] maxLocals)) t := fun t k => castTop (ef_0 m p1 p2 p3) k
  obtain ⟨_, _, ⟨T4, L4, k4, n4⟩, -, X4, ⟨Lc4, hQ4, l4, y4, z4⟩, st4⟩ := Jvm.LawKit.callS X0 hx (y := (⟨"java/lang/Math", "min", "(II)I"⟩ : MethodName)) hown (mvT hZ (hw _ (List.mem_of_getElem? (i := 1) rfl))) (mvT hZ (hw _ (List.mem_of_getElem? (i := 2) rfl))) (mvT hZ (hw _ (List.mem_of_getElem? (i := 3) rfl))) (mvT hZ (hw _ (List.mem_of_getElem? (i := 4) rfl))) (by decide) (backOf (W := 0) (rm1 l Z a0 hw [] (p1 &&& (2147483647 : Int32)) (p2 &&& (2147483647 : Int32)) h0 n0 Z0) hZ (hw _ (List.mem_of_getElem? (i := 4) rfl)) (hw _ (List.mem_of_getElem? (i := 3) rfl)) (by decide) (by decide)) (g := (mkF m 14 #[.val (.int p1), .val (.int p2), .val (.int p3), .val (.int (p1 &&& (2147483647 : Int32))), .val (.int (p2 &&& (2147483647 : Int32))), .unset, .unset, .unset, .unset, .unset] [(.int (p2 &&& (2147483647 : Int32))), (.int (p1 &&& (2147483647 : Int32)))])) rfl (by rw [hml]; rfl) (argsL := [(.int (p1 &&& (2147483647 : Int32))), (.int (p2 &&& (2147483647 : Int32)))]) (rest := []) (lenOf pd_0_0 rfl) rfl (by show 2 * 0 + _ ≤ _; exact Nat.le_of_eq rfl) (hb hby at_14) (fun _ _ => ⟨rfl, e0, (by decide : 0 + 0 ≤ _), (by decide : 0 + 0 ≤ _)⟩)
  dsimp only [Pt.U, Pt.locs, Pt.cells, Pt.slots] at X4 l4 y4 z4 st4 hQ4
  subst l4 y4 z4
  obtain ⟨rfl, N4q, hh4⟩ := hQ4
  have KK4 : Keep h0 T4.heap [] := by rw [hh4]; exact Keep.refl _ _
  have Z4 : n0 ≤ T4.heap.size := Nat.le_trans Z0 KK4.1      -- what it returned, that it wrote nothing old, and the rest of your Q1
  have N4 := Fr.app N0 N4q
  obtain ⟨_, _, ⟨T5, L5, k5, n5⟩, -, X5, ⟨Lc5, hQ5, l5, y5, z5⟩, st5⟩ := Jvm.LawKit.callS X4 hx (y := (⟨"java/lang/Math", "max", "(II)I"⟩ : MethodName)) hown (mvT hZ (hw _ (List.mem_of_getElem? (i := 5) rfl))) (mvT hZ (hw _ (List.mem_of_getElem? (i := 6) rfl))) (mvT hZ (hw _ (List.mem_of_getElem? (i := 3) rfl))) (mvT hZ (hw _ (List.mem_of_getElem? (i := 7) rfl))) (by decide) (backOf (W := 0) (rm2 l Z a0 hw [] (p1 &&& (2147483647 : Int32)) (p2 &&& (2147483647 : Int32)) T4.heap n0 Z4) hZ (hw _ (List.mem_of_getElem? (i := 7) rfl)) (hw _ (List.mem_of_getElem? (i := 3) rfl)) (by decide) (by decide)) (g := (mkF m 22 #[.val (.int p1), .val (.int p2), .val (.int p3), .val (.int (p1 &&& (2147483647 : Int32))), .val (.int (p2 &&& (2147483647 : Int32))), .val (.int (own_min (p1 &&& (2147483647 : Int32)) (p2 &&& (2147483647 : Int32)))), .unset, .unset, .unset, .unset] [(.int (p2 &&& (2147483647 : Int32))), (.int (p1 &&& (2147483647 : Int32)))])) rfl (by rw [hml]; rfl) (argsL := [(.int (p1 &&& (2147483647 : Int32))), (.int (p2 &&& (2147483647 : Int32)))]) (rest := []) (lenOf pd_0_0 rfl) rfl (by show 2 * 0 + _ ≤ _; exact Nat.le_of_eq rfl) (hb hby at_22) (fun _ _ => ⟨rfl, rfl, (by decide : 0 + 0 ≤ _), (by decide : 0 + 0 ≤ _)⟩)
  dsimp only [Pt.U, Pt.locs, Pt.cells, Pt.slots] at X5 l5 y5 z5 st5 hQ5
  subst l5 y5 z5
  obtain ⟨rfl, N5q, hh5⟩ := hQ5
  have KK5 : Keep T4.heap T5.heap [] := by rw [hh5]; exact Keep.refl _ _
  have KH5 : Keep h0 T5.heap [] := by rw [hh5, hh4]; exact Keep.refl _ _      -- what it returned, that it wrote nothing old, and the rest of your Q2
  have N5 := Fr.app N4 N5q
  obtain ⟨T6, h6, X6, e6, E6, A6, D6, -, st6⟩ := newO X5 hx hZ hown (hw _ (List.mem_of_getElem? (i := 8) rfl)) (hw _ (List.mem_of_getElem? (i := 9) rfl)) (hw _ (List.mem_of_getElem? (i := 10) rfl)) rfl (g := (mkF m 27 #[.val (.int p1), .val (.int p2), .val (.int p3), .val (.int (p1 &&& (2147483647 : Int32))), .val (.int (p2 &&& (2147483647 : Int32))), .val (.int (own_min (p1 &&& (2147483647 : Int32)) (p2 &&& (2147483647 : Int32)))), .val (.int (own_max (p1 &&& (2147483647 : Int32)) (p2 &&& (2147483647 : Int32)))), .unset, .unset, .unset] [])) rfl (hb hby at_27) (by decide) (by decide)
  obtain ⟨b6, g6⟩ : ∃ z, z = T5.heap.size := ⟨_, rfl⟩      -- the fresh object's address
  rw [← g6] at A6 D6 st6      -- A6 : Exa Z h6 b6 "com/example/rugged_consumer/ruggedconsumer/protocol/VersionRange"; E6 : Ext T5.heap h6 (carries every older fact: .ext E6)
  have F_min_b6 : Fld Z h6 b6 "com/example/rugged_consumer/ruggedconsumer/protocol/VersionRange" "min" "I" (.int (0 : Int32)) := D6 (Or.inr (hw _ (List.mem_of_getElem? (i := 23) rfl))) (ty := .int) (by decide)
  have F_max_b6 : Fld Z h6 b6 "com/example/rugged_consumer/ruggedconsumer/protocol/VersionRange" "max" "I" (.int (0 : Int32)) := D6 (Or.inr (hw _ (List.mem_of_getElem? (i := 25) rfl))) (ty := .int) (by decide)
  have E_b6 := A6
  have g_b6 : n0 ≤ b6 := Nat.le_trans (Nat.le_trans (Nat.le_trans Z0 KK4.1) KK5.1) (Nat.le_of_eq g6.symm)
  have sz_b6 : h0.size ≤ b6 := (Nat.le_trans KH5.1 (Nat.le_of_eq g6.symm))
  have K6 : Keep h0 h6 [] := KH5.ext E6
  obtain ⟨_, _, ⟨T7, L7, k7, n7⟩, -, X7, ⟨Lc7, hQ7, l7, y7, z7⟩, st7⟩ := X6.specialBack hx (y := (⟨"com/example/rugged_consumer/ruggedconsumer/protocol/VersionRange", "<init>", "(II)V"⟩ : MethodName)) rfl hown (mvT hZ (hw _ (List.mem_of_getElem? (i := 11) rfl))) (mvT hZ (hw _ (List.mem_of_getElem? (i := 12) rfl))) (mvT hZ (hw _ (List.mem_of_getElem? (i := 13) rfl))) (by decide) (backOf (W := 1) (rm3 l Z a0 hw [] b6 (own_min (p1 &&& (2147483647 : Int32)) (p2 &&& (2147483647 : Int32))) (own_max (p1 &&& (2147483647 : Int32)) (p2 &&& (2147483647 : Int32))) (.int (0 : Int32)) (.int (0 : Int32)) h6 n0 (Nat.le_trans Z0 K6.1) E_b6 F_min_b6 g_b6 F_max_b6 (own_lo0 (p1 &&& (2147483647 : Int32)) (p2 &&& (2147483647 : Int32)) (c_and p1 2147483647 (by decide)).1 (c_and p2 2147483647 (by decide)).1) (own_lohi (p1 &&& (2147483647 : Int32)) (p2 &&& (2147483647 : Int32)))) hZ (hw _ (List.mem_of_getElem? (i := 13) rfl)) (hw _ (List.mem_of_getElem? (i := 10) rfl)) (by decide) (by decide)) (g := (mkF m 35 #[.val (.int p1), .val (.int p2), .val (.int p3), .val (.int (p1 &&& (2147483647 : Int32))), .val (.int (p2 &&& (2147483647 : Int32))), .val (.int (own_min (p1 &&& (2147483647 : Int32)) (p2 &&& (2147483647 : Int32)))), .val (.int (own_max (p1 &&& (2147483647 : Int32)) (p2 &&& (2147483647 : Int32)))), .unset, .unset, .unset] [(.int (own_max (p1 &&& (2147483647 : Int32)) (p2 &&& (2147483647 : Int32)))), (.int (own_min (p1 &&& (2147483647 : Int32)) (p2 &&& (2147483647 : Int32)))), (.ref b6), (.ref b6)])) rfl (by rw [hml]; rfl) (Steps.refl _) (a := b6) (argsL := [(.int (own_min (p1 &&& (2147483647 : Int32)) (p2 &&& (2147483647 : Int32)))), (.int (own_max (p1 &&& (2147483647 : Int32)) (p2 &&& (2147483647 : Int32))))]) (rest := [(.ref b6)]) (lenOf pd_0_1 rfl) rfl (by show 2 * 0 + _ ≤ _; exact Nat.le_of_eq rfl) (hb hby at_35) (fun _ _ => ⟨rfl, e6, (by decide : 1 + 0 ≤ _), (by decide : 2 + 0 ≤ _)⟩)
  dsimp only [Pt.U, Pt.locs, Pt.cells, Pt.slots] at X7 l7 y7 z7 st7 hQ7
  subst l7 y7 z7
  obtain ⟨rfl, N7q, KK7, EE7, Fm7, Fx7⟩ := hQ7
  have Z7 : n0 ≤ T7.heap.size := Nat.le_trans (Nat.le_trans Z0 K6.1) KK7.1      -- what it returned, that it wrote nothing old, and the rest of your Q3
  have N7 := Fr.app N5 N7q
  obtain ⟨_, _, ⟨T8, L8, k8, n8⟩, -, X8, ⟨Lc8, hQ8, l8, y8, z8⟩, st8⟩ := Jvm.LawKit.callS X7 hx (y := (⟨"java/lang/Math", "min", "(II)I"⟩ : MethodName)) hown (mvT hZ (hw _ (List.mem_of_getElem? (i := 1) rfl))) (mvT hZ (hw _ (List.mem_of_getElem? (i := 2) rfl))) (mvT hZ (hw _ (List.mem_of_getElem? (i := 3) rfl))) (mvT hZ (hw _ (List.mem_of_getElem? (i := 4) rfl))) (by decide) (backOf (W := 1) (rm1 l Z a0 hw [] p3 (own_max (p1 &&& (2147483647 : Int32)) (p2 &&& (2147483647 : Int32))) T7.heap n0 Z7) hZ (hw _ (List.mem_of_getElem? (i := 4) rfl)) (hw _ (List.mem_of_getElem? (i := 3) rfl)) (by decide) (by decide)) (g := (mkF m 45 #[.val (.int p1), .val (.int p2), .val (.int p3), .val (.int (p1 &&& (2147483647 : Int32))), .val (.int (p2 &&& (2147483647 : Int32))), .val (.int (own_min (p1 &&& (2147483647 : Int32)) (p2 &&& (2147483647 : Int32)))), .val (.int (own_max (p1 &&& (2147483647 : Int32)) (p2 &&& (2147483647 : Int32)))), .val (.ref b6), .unset, .unset] [(.int (own_max (p1 &&& (2147483647 : Int32)) (p2 &&& (2147483647 : Int32)))), (.int p3), (.int (own_min (p1 &&& (2147483647 : Int32)) (p2 &&& (2147483647 : Int32))))])) rfl (by rw [hml]; rfl) (argsL := [(.int p3), (.int (own_max (p1 &&& (2147483647 : Int32)) (p2 &&& (2147483647 : Int32))))]) (rest := [(.int (own_min (p1 &&& (2147483647 : Int32)) (p2 &&& (2147483647 : Int32))))]) (lenOf pd_0_0 rfl) rfl (by show 2 * 0 + _ ≤ _; exact Nat.le_of_eq rfl) (hb hby at_45) (fun _ _ => ⟨rfl, rfl, (by decide : 1 + 0 ≤ _), (by decide : 2 + 0 ≤ _)⟩)
  dsimp only [Pt.U, Pt.locs, Pt.cells, Pt.slots] at X8 l8 y8 z8 st8 hQ8
  subst l8 y8 z8
  obtain ⟨rfl, N8q, hh8⟩ := hQ8
  have KK8 : Keep T7.heap T8.heap [] := by rw [hh8]; exact Keep.refl _ _
  have Z8 : n0 ≤ T8.heap.size := Nat.le_trans Z7 KK8.1
  have Fm8 := Fm7.keep KK8 List.not_mem_nil
  have Fx8 := Fx7.keep KK8 List.not_mem_nil      -- what it returned, that it wrote nothing old, and the rest of your Q1
  have N8 := Fr.app N7 N8q
  obtain ⟨_, _, ⟨T9, L9, k9, n9⟩, -, X9, ⟨Lc9, hQ9, l9, y9, z9⟩, st9⟩ := Jvm.LawKit.callS X8 hx (y := (⟨"java/lang/Math", "max", "(II)I"⟩ : MethodName)) hown (mvT hZ (hw _ (List.mem_of_getElem? (i := 5) rfl))) (mvT hZ (hw _ (List.mem_of_getElem? (i := 6) rfl))) (mvT hZ (hw _ (List.mem_of_getElem? (i := 3) rfl))) (mvT hZ (hw _ (List.mem_of_getElem? (i := 7) rfl))) (by decide) (backOf (W := 0) (rm2 l Z a0 hw [] (own_min (p1 &&& (2147483647 : Int32)) (p2 &&& (2147483647 : Int32))) (own_min p3 (own_max (p1 &&& (2147483647 : Int32)) (p2 &&& (2147483647 : Int32)))) T8.heap n0 Z8) hZ (hw _ (List.mem_of_getElem? (i := 7) rfl)) (hw _ (List.mem_of_getElem? (i := 3) rfl)) (by decide) (by decide)) (g := (mkF m 48 #[.val (.int p1), .val (.int p2), .val (.int p3), .val (.int (p1 &&& (2147483647 : Int32))), .val (.int (p2 &&& (2147483647 : Int32))), .val (.int (own_min (p1 &&& (2147483647 : Int32)) (p2 &&& (2147483647 : Int32)))), .val (.int (own_max (p1 &&& (2147483647 : Int32)) (p2 &&& (2147483647 : Int32)))), .val (.ref b6), .unset, .unset] [(.int (own_min p3 (own_max (p1 &&& (2147483647 : Int32)) (p2 &&& (2147483647 : Int32))))), (.int (own_min (p1 &&& (2147483647 : Int32)) (p2 &&& (2147483647 : Int32))))])) rfl (by rw [hml]; rfl) (argsL := [(.int (own_min (p1 &&& (2147483647 : Int32)) (p2 &&& (2147483647 : Int32)))), (.int (own_min p3 (own_max (p1 &&& (2147483647 : Int32)) (p2 &&& (2147483647 : Int32)))))]) (rest := []) (lenOf pd_0_0 rfl) rfl (by show 2 * 0 + _ ≤ _; exact Nat.le_of_eq rfl) (hb hby at_48) (fun _ _ => ⟨rfl, rfl, (by decide : 1 + 0 ≤ _), (by decide : 2 + 0 ≤ _)⟩)
  dsimp only [Pt.U, Pt.locs, Pt.cells, Pt.slots] at X9 l9 y9 z9 st9 hQ9
  subst l9 y9 z9
  obtain ⟨rfl, N9q, hh9⟩ := hQ9
  have KK9 : Keep T8.heap T9.heap [] := by rw [hh9]; exact Keep.refl _ _
  have Z9 : n0 ≤ T9.heap.size := Nat.le_trans Z8 KK9.1
  have Fm9 := Fm8.keep KK9 List.not_mem_nil
  have Fx9 := Fx8.keep KK9 List.not_mem_nil      -- what it returned, that it wrote nothing old, and the rest of your Q2
  have N9 := Fr.app N8 N9q
  obtain ⟨cq10, kq10, q10a, q10b, q10c⟩ := isOf hZ rfl ((EE7.keep KK8).keep KK9)
  obtain ⟨_, _, ⟨T10, L10, k10, n10⟩, -, X10, ⟨Lc10, hQ10, l10, y10, z10⟩, st10⟩ := X9.virtualBack hx (y := (⟨"com/example/rugged_consumer/ruggedconsumer/protocol/VersionRange", "contains", "(I)Z"⟩ : MethodName)) (z := (⟨"com/example/rugged_consumer/ruggedconsumer/protocol/VersionRange", "contains", "(I)Z"⟩ : MethodName)) hown (mvT hZ (hw _ (List.mem_of_getElem? (i := 26) rfl))) (mvT hZ (hw _ (List.mem_of_getElem? (i := 27) rfl))) (notFace_of_selects (args := #[]) (mvT hZ (hw _ (List.mem_of_getElem? (i := 29) rfl)))) (mvT hZ (hw _ (List.mem_of_getElem? (i := 29) rfl))) (mvT hZ (hw _ (List.mem_of_getElem? (i := 28) rfl))) (by decide) (backOf (W := 0) (rm6 l Z a0 hw [] b6 p3 (own_min (p1 &&& (2147483647 : Int32)) (p2 &&& (2147483647 : Int32))) (own_max (p1 &&& (2147483647 : Int32)) (p2 &&& (2147483647 : Int32))) T9.heap n0 Z9 Fm9 Fx9) hZ (hw _ (List.mem_of_getElem? (i := 30) rfl)) (hw _ (List.mem_of_getElem? (i := 10) rfl)) (by decide) (by decide)) q10a q10c (g := (mkF m 69 #[.val (.int p1), .val (.int p2), .val (.int p3), .val (.int (p1 &&& (2147483647 : Int32))), .val (.int (p2 &&& (2147483647 : Int32))), .val (.int (own_min (p1 &&& (2147483647 : Int32)) (p2 &&& (2147483647 : Int32)))), .val (.int (own_max (p1 &&& (2147483647 : Int32)) (p2 &&& (2147483647 : Int32)))), .val (.ref b6), .val (.int (own_max (own_min (p1 &&& (2147483647 : Int32)) (p2 &&& (2147483647 : Int32))) (own_min p3 (own_max (p1 &&& (2147483647 : Int32)) (p2 &&& (2147483647 : Int32)))))), .val (.int (1 : Int32))] [(.int p3), (.ref b6)])) rfl (by rw [hml]; rfl) (Steps.refl _) (argsL := [(.int p3)]) (rest := []) (lenOf pd_0_3 rfl) rfl (by show 2 * 0 + _ ≤ _; exact Nat.le_of_eq rfl) (hb hby at_69) (fun _ _ => ⟨rfl, rfl, (by decide : 1 + 0 ≤ _), (by decide : 2 + 0 ≤ _)⟩)
  dsimp only [Pt.U, Pt.locs, Pt.cells, Pt.slots] at X10 l10 y10 z10 st10 hQ10
  subst l10 y10 z10
  obtain ⟨rfl, N10q, hh10⟩ := hQ10
  have KK10 : Keep T9.heap T10.heap [] := by rw [hh10]; exact Keep.refl _ _
  have Z10 : n0 ≤ T10.heap.size := Nat.le_trans Z9 KK10.1
  have Fm10 := Fm9.keep KK10 List.not_mem_nil
  have Fx10 := Fx9.keep KK10 List.not_mem_nil      -- what it returned, that it wrote nothing old, and the rest of your Q6
  have N10 := Fr.app N9 N10q
  obtain ⟨cq11, kq11, q11a, q11b, q11c⟩ := isOf hZ rfl (((EE7.keep KK8).keep KK9).keep KK10)
  obtain ⟨_, _, ⟨T11, L11, k11, n11⟩, -, X11, ⟨Lc11, hQ11, l11, y11, z11⟩, st11⟩ := X10.virtualBack hx (y := (⟨"com/example/rugged_consumer/ruggedconsumer/protocol/VersionRange", "contains", "(I)Z"⟩ : MethodName)) (z := (⟨"com/example/rugged_consumer/ruggedconsumer/protocol/VersionRange", "contains", "(I)Z"⟩ : MethodName)) hown (mvT hZ (hw _ (List.mem_of_getElem? (i := 26) rfl))) (mvT hZ (hw _ (List.mem_of_getElem? (i := 27) rfl))) (notFace_of_selects (args := #[]) (mvT hZ (hw _ (List.mem_of_getElem? (i := 29) rfl)))) (mvT hZ (hw _ (List.mem_of_getElem? (i := 29) rfl))) (mvT hZ (hw _ (List.mem_of_getElem? (i := 28) rfl))) (by decide) (backOf (W := 0) (rm6 l Z a0 hw [] b6 (own_min (p1 &&& (2147483647 : Int32)) (p2 &&& (2147483647 : Int32))) (own_min (p1 &&& (2147483647 : Int32)) (p2 &&& (2147483647 : Int32))) (own_max (p1 &&& (2147483647 : Int32)) (p2 &&& (2147483647 : Int32))) T10.heap n0 Z10 Fm10 Fx10) hZ (hw _ (List.mem_of_getElem? (i := 30) rfl)) (hw _ (List.mem_of_getElem? (i := 10) rfl)) (by decide) (by decide)) q11a q11c (g := (mkF m 83 #[.val (.int p1), .val (.int p2), .val (.int p3), .val (.int (p1 &&& (2147483647 : Int32))), .val (.int (p2 &&& (2147483647 : Int32))), .val (.int (own_min (p1 &&& (2147483647 : Int32)) (p2 &&& (2147483647 : Int32)))), .val (.int (own_max (p1 &&& (2147483647 : Int32)) (p2 &&& (2147483647 : Int32)))), .val (.ref b6), .val (.int (own_max (own_min (p1 &&& (2147483647 : Int32)) (p2 &&& (2147483647 : Int32))) (own_min p3 (own_max (p1 &&& (2147483647 : Int32)) (p2 &&& (2147483647 : Int32)))))), .val (.int (1 : Int32))] [(.int (own_min (p1 &&& (2147483647 : Int32)) (p2 &&& (2147483647 : Int32)))), (.ref b6)])) rfl (by rw [hml]; rfl) (Steps.refl _) (argsL := [(.int (own_min (p1 &&& (2147483647 : Int32)) (p2 &&& (2147483647 : Int32))))]) (rest := []) (lenOf pd_0_3 rfl) rfl (by show 2 * 0 + _ ≤ _; exact Nat.le_of_eq rfl) (hb hby at_83) (fun _ _ => ⟨rfl, rfl, (by decide : 1 + 0 ≤ _), (by decide : 2 + 0 ≤ _)⟩)
  dsimp only [Pt.U, Pt.locs, Pt.cells, Pt.slots] at X11 l11 y11 z11 st11 hQ11
  subst l11 y11 z11
  obtain ⟨rfl, N11q, hh11⟩ := hQ11
  have KK11 : Keep T10.heap T11.heap [] := by rw [hh11]; exact Keep.refl _ _
  have Z11 : n0 ≤ T11.heap.size := Nat.le_trans Z10 KK11.1
  have Fm11 := Fm10.keep KK11 List.not_mem_nil
  have Fx11 := Fx10.keep KK11 List.not_mem_nil      -- what it returned, that it wrote nothing old, and the rest of your Q6
  have N11 := Fr.app N10 N11q
  obtain ⟨cq12, kq12, q12a, q12b, q12c⟩ := isOf hZ rfl ((((EE7.keep KK8).keep KK9).keep KK10).keep KK11)
  obtain ⟨_, _, ⟨T12, L12, k12, n12⟩, -, X12, ⟨Lc12, hQ12, l12, y12, z12⟩, st12⟩ := X11.virtualBack hx (y := (⟨"com/example/rugged_consumer/ruggedconsumer/protocol/VersionRange", "contains", "(I)Z"⟩ : MethodName)) (z := (⟨"com/example/rugged_consumer/ruggedconsumer/protocol/VersionRange", "contains", "(I)Z"⟩ : MethodName)) hown (mvT hZ (hw _ (List.mem_of_getElem? (i := 26) rfl))) (mvT hZ (hw _ (List.mem_of_getElem? (i := 27) rfl))) (notFace_of_selects (args := #[]) (mvT hZ (hw _ (List.mem_of_getElem? (i := 29) rfl)))) (mvT hZ (hw _ (List.mem_of_getElem? (i := 29) rfl))) (mvT hZ (hw _ (List.mem_of_getElem? (i := 28) rfl))) (by decide) (backOf (W := 0) (rm6 l Z a0 hw [] b6 (own_max (p1 &&& (2147483647 : Int32)) (p2 &&& (2147483647 : Int32))) (own_min (p1 &&& (2147483647 : Int32)) (p2 &&& (2147483647 : Int32))) (own_max (p1 &&& (2147483647 : Int32)) (p2 &&& (2147483647 : Int32))) T11.heap n0 Z11 Fm11 Fx11) hZ (hw _ (List.mem_of_getElem? (i := 30) rfl)) (hw _ (List.mem_of_getElem? (i := 10) rfl)) (by decide) (by decide)) q12a q12c (g := (mkF m 95 #[.val (.int p1), .val (.int p2), .val (.int p3), .val (.int (p1 &&& (2147483647 : Int32))), .val (.int (p2 &&& (2147483647 : Int32))), .val (.int (own_min (p1 &&& (2147483647 : Int32)) (p2 &&& (2147483647 : Int32)))), .val (.int (own_max (p1 &&& (2147483647 : Int32)) (p2 &&& (2147483647 : Int32)))), .val (.ref b6), .val (.int (own_max (own_min (p1 &&& (2147483647 : Int32)) (p2 &&& (2147483647 : Int32))) (own_min p3 (own_max (p1 &&& (2147483647 : Int32)) (p2 &&& (2147483647 : Int32)))))), .val (.int (1 : Int32))] [(.int (own_max (p1 &&& (2147483647 : Int32)) (p2 &&& (2147483647 : Int32)))), (.ref b6)])) rfl (by rw [hml]; rfl) (Steps.refl _) (argsL := [(.int (own_max (p1 &&& (2147483647 : Int32)) (p2 &&& (2147483647 : Int32))))]) (rest := []) (lenOf pd_0_3 rfl) rfl (by show 2 * 0 + _ ≤ _; exact Nat.le_of_eq rfl) (hb hby at_95) (fun _ _ => ⟨rfl, rfl, (by decide : 1 + 0 ≤ _), (by decide : 2 + 0 ≤ _)⟩)
  dsimp only [Pt.U, Pt.locs, Pt.cells, Pt.slots] at X12 l12 y12 z12 st12 hQ12
  subst l12 y12 z12
  obtain ⟨rfl, N12q, hh12⟩ := hQ12
  have KK12 : Keep T11.heap T12.heap [] := by rw [hh12]; exact Keep.refl _ _
  have Z12 : n0 ≤ T12.heap.size := Nat.le_trans Z11 KK12.1
  have Fm12 := Fm11.keep KK12 List.not_mem_nil
  have Fx12 := Fx11.keep KK12 List.not_mem_nil      -- what it returned, that it wrote nothing old, and the rest of your Q6
  have N12 := Fr.app N11 N12q
  obtain ⟨cq13, kq13, q13a, q13b, q13c⟩ := isOf hZ rfl (((((EE7.keep KK8).keep KK9).keep KK10).keep KK11).keep KK12)
  obtain ⟨_, _, ⟨T13, L13, k13, n13⟩, -, X13, ⟨Lc13, hQ13, l13, y13, z13⟩, st13⟩ := X12.virtualBack hx (y := (⟨"com/example/rugged_consumer/ruggedconsumer/protocol/VersionRange", "contains", "(I)Z"⟩ : MethodName)) (z := (⟨"com/example/rugged_consumer/ruggedconsumer/protocol/VersionRange", "contains", "(I)Z"⟩ : MethodName)) hown (mvT hZ (hw _ (List.mem_of_getElem? (i := 26) rfl))) (mvT hZ (hw _ (List.mem_of_getElem? (i := 27) rfl))) (notFace_of_selects (args := #[]) (mvT hZ (hw _ (List.mem_of_getElem? (i := 29) rfl)))) (mvT hZ (hw _ (List.mem_of_getElem? (i := 29) rfl))) (mvT hZ (hw _ (List.mem_of_getElem? (i := 28) rfl))) (by decide) (backOf (W := 0) (rm6 l Z a0 hw [] b6 ((own_min (p1 &&& (2147483647 : Int32)) (p2 &&& (2147483647 : Int32))) - (1 : Int32)) (own_min (p1 &&& (2147483647 : Int32)) (p2 &&& (2147483647 : Int32))) (own_max (p1 &&& (2147483647 : Int32)) (p2 &&& (2147483647 : Int32))) T12.heap n0 Z12 Fm12 Fx12) hZ (hw _ (List.mem_of_getElem? (i := 30) rfl)) (hw _ (List.mem_of_getElem? (i := 10) rfl)) (by decide) (by decide)) q13a q13c (g := (mkF m 109 #[.val (.int p1), .val (.int p2), .val (.int p3), .val (.int (p1 &&& (2147483647 : Int32))), .val (.int (p2 &&& (2147483647 : Int32))), .val (.int (own_min (p1 &&& (2147483647 : Int32)) (p2 &&& (2147483647 : Int32)))), .val (.int (own_max (p1 &&& (2147483647 : Int32)) (p2 &&& (2147483647 : Int32)))), .val (.ref b6), .val (.int (own_max (own_min (p1 &&& (2147483647 : Int32)) (p2 &&& (2147483647 : Int32))) (own_min p3 (own_max (p1 &&& (2147483647 : Int32)) (p2 &&& (2147483647 : Int32)))))), .val (.int (1 : Int32))] [(.int ((own_min (p1 &&& (2147483647 : Int32)) (p2 &&& (2147483647 : Int32))) - (1 : Int32))), (.ref b6)])) rfl (by rw [hml]; rfl) (Steps.refl _) (argsL := [(.int ((own_min (p1 &&& (2147483647 : Int32)) (p2 &&& (2147483647 : Int32))) - (1 : Int32)))]) (rest := []) (lenOf pd_0_3 rfl) rfl (by show 2 * 0 + _ ≤ _; exact Nat.le_of_eq rfl) (hb hby at_109) (fun _ _ => ⟨rfl, rfl, (by decide : 1 + 0 ≤ _), (by decide : 2 + 0 ≤ _)⟩)
  dsimp only [Pt.U, Pt.locs, Pt.cells, Pt.slots] at X13 l13 y13 z13 st13 hQ13
  subst l13 y13 z13
  obtain ⟨rfl, N13q, hh13⟩ := hQ13
  have KK13 : Keep T12.heap T13.heap [] := by rw [hh13]; exact Keep.refl _ _
  have Z13 : n0 ≤ T13.heap.size := Nat.le_trans Z12 KK13.1
  have Fm13 := Fm12.keep KK13 List.not_mem_nil
  have Fx13 := Fx12.keep KK13 List.not_mem_nil      -- what it returned, that it wrote nothing old, and the rest of your Q6
  have N13 := Fr.app N12 N13q
  obtain ⟨cq14, kq14, q14a, q14b, q14c⟩ := isOf hZ rfl ((((((EE7.keep KK8).keep KK9).keep KK10).keep KK11).keep KK12).keep KK13)
  obtain ⟨_, _, ⟨T14, L14, k14, n14⟩, -, X14, ⟨Lc14, hQ14, l14, y14, z14⟩, st14⟩ := X13.virtualBack hx (y := (⟨"com/example/rugged_consumer/ruggedconsumer/protocol/VersionRange", "contains", "(I)Z"⟩ : MethodName)) (z := (⟨"com/example/rugged_consumer/ruggedconsumer/protocol/VersionRange", "contains", "(I)Z"⟩ : MethodName)) hown (mvT hZ (hw _ (List.mem_of_getElem? (i := 26) rfl))) (mvT hZ (hw _ (List.mem_of_getElem? (i := 27) rfl))) (notFace_of_selects (args := #[]) (mvT hZ (hw _ (List.mem_of_getElem? (i := 29) rfl)))) (mvT hZ (hw _ (List.mem_of_getElem? (i := 29) rfl))) (mvT hZ (hw _ (List.mem_of_getElem? (i := 28) rfl))) (by decide) (backOf (W := 0) (rm6 l Z a0 hw [] b6 ((own_max (p1 &&& (2147483647 : Int32)) (p2 &&& (2147483647 : Int32))) + (1 : Int32)) (own_min (p1 &&& (2147483647 : Int32)) (p2 &&& (2147483647 : Int32))) (own_max (p1 &&& (2147483647 : Int32)) (p2 &&& (2147483647 : Int32))) T13.heap n0 Z13 Fm13 Fx13) hZ (hw _ (List.mem_of_getElem? (i := 30) rfl)) (hw _ (List.mem_of_getElem? (i := 10) rfl)) (by decide) (by decide)) q14a q14c (g := (mkF m 130 #[.val (.int p1), .val (.int p2), .val (.int p3), .val (.int (p1 &&& (2147483647 : Int32))), .val (.int (p2 &&& (2147483647 : Int32))), .val (.int (own_min (p1 &&& (2147483647 : Int32)) (p2 &&& (2147483647 : Int32)))), .val (.int (own_max (p1 &&& (2147483647 : Int32)) (p2 &&& (2147483647 : Int32)))), .val (.ref b6), .val (.int (own_max (own_min (p1 &&& (2147483647 : Int32)) (p2 &&& (2147483647 : Int32))) (own_min p3 (own_max (p1 &&& (2147483647 : Int32)) (p2 &&& (2147483647 : Int32)))))), .val (.int (1 : Int32))] [(.int ((own_max (p1 &&& (2147483647 : Int32)) (p2 &&& (2147483647 : Int32))) + (1 : Int32))), (.ref b6)])) rfl (by rw [hml]; rfl) (Steps.refl _) (argsL := [(.int ((own_max (p1 &&& (2147483647 : Int32)) (p2 &&& (2147483647 : Int32))) + (1 : Int32)))]) (rest := []) (lenOf pd_0_3 rfl) rfl (by show 2 * 0 + _ ≤ _; exact Nat.le_of_eq rfl) (hb hby at_130) (fun _ _ => ⟨rfl, rfl, (by decide : 1 + 0 ≤ _), (by decide : 2 + 0 ≤ _)⟩)
  dsimp only [Pt.U, Pt.locs, Pt.cells, Pt.slots] at X14 l14 y14 z14 st14 hQ14
  subst l14 y14 z14
  obtain ⟨rfl, N14q, hh14⟩ := hQ14
  have KK14 : Keep T13.heap T14.heap [] := by rw [hh14]; exact Keep.refl _ _
  have Z14 : n0 ≤ T14.heap.size := Nat.le_trans Z13 KK14.1
  have Fm14 := Fm13.keep KK14 List.not_mem_nil
  have Fx14 := Fx13.keep KK14 List.not_mem_nil      -- what it returned, that it wrote nothing old, and the rest of your Q6
  have N14 := Fr.app N13 N14q
  obtain ⟨fs, hr, hrun, hended, hW, hsame⟩ := X14.leave (v := some (.int (1 : Int32))) (fun h => by rw [Bd.returns] at h; cases h)
  refine ⟨_, _, pre0 _ ?_, hrun, hended, _, _, rfl, ?_, ⟨_, rfl⟩, hW, hsame.mono (by decide) (by decide)⟩
  · show Steps p.tables e below (s₁.setTop (mkF m 0 #[.val (.int p1), .val (.int p2), .val (.int p3), .unset, .unset, .unset, .unset, .unset, .unset, .unset] [])) _
    refine XS.iloadN X0.here hx rfl (hb hby at_0) rfl ?_
    show Steps p.tables e below (s₁.setTop (mkF m 1 #[.val (.int p1), .val (.int p2), .val (.int p3), .unset, .unset, .unset, .unset, .unset, .unset, .unset] [(.int p1)])) _
    refine X0.ldcInt hx hown (mvT hZ (hw _ (List.mem_of_getElem? (i := 0) rfl))) (g := (mkF m 1 #[.val (.int p1), .val (.int p2), .val (.int p3), .unset, .unset, .unset, .unset, .unset, .unset, .unset] [(.int p1)])) rfl (hb hby at_1) _ ?_
    show Steps p.tables e below (s₁.setTop (mkF m 3 #[.val (.int p1), .val (.int p2), .val (.int p3), .unset, .unset, .unset, .unset, .unset, .unset, .unset] [(.int (2147483647 : Int32)), (.int p1)])) _
    refine XS.iand X0.here hx rfl (hb hby at_3) rfl ?_
    show Steps p.tables e below (s₁.setTop (mkF m 4 #[.val (.int p1), .val (.int p2), .val (.int p3), .unset, .unset, .unset, .unset, .unset, .unset, .unset] [(.int (p1 &&& (2147483647 : Int32)))])) _
    refine XS.istoreN X0.here hx rfl (hb hby at_4) rfl (l' := #[.val (.int p1), .val (.int p2), .val (.int p3), .val (.int (p1 &&& (2147483647 : Int32))), .unset, .unset, .unset, .unset, .unset, .unset]) rfl ?_
    show Steps p.tables e below (s₁.setTop (mkF m 5 #[.val (.int p1), .val (.int p2), .val (.int p3), .val (.int (p1 &&& (2147483647 : Int32))), .unset, .unset, .unset, .unset, .unset, .unset] [])) _
    refine XS.iloadN X0.here hx rfl (hb hby at_5) rfl ?_
    show Steps p.tables e below (s₁.setTop (mkF m 6 #[.val (.int p1), .val (.int p2), .val (.int p3), .val (.int (p1 &&& (2147483647 : Int32))), .unset, .unset, .unset, .unset, .unset, .unset] [(.int p2)])) _
    refine X0.ldcInt hx hown (mvT hZ (hw _ (List.mem_of_getElem? (i := 0) rfl))) (g := (mkF m 6 #[.val (.int p1), .val (.int p2), .val (.int p3), .val (.int (p1 &&& (2147483647 : Int32))), .unset, .unset, .unset, .unset, .unset, .unset] [(.int p2)])) rfl (hb hby at_6) _ ?_
    show Steps p.tables e below (s₁.setTop (mkF m 8 #[.val (.int p1), .val (.int p2), .val (.int p3), .val (.int (p1 &&& (2147483647 : Int32))), .unset, .unset, .unset, .unset, .unset, .unset] [(.int (2147483647 : Int32)), (.int p2)])) _
    refine XS.iand X0.here hx rfl (hb hby at_8) rfl ?_
    show Steps p.tables e below (s₁.setTop (mkF m 9 #[.val (.int p1), .val (.int p2), .val (.int p3), .val (.int (p1 &&& (2147483647 : Int32))), .unset, .unset, .unset, .unset, .unset, .unset] [(.int (p2 &&& (2147483647 : Int32)))])) _
    refine XS.istore X0.here hx rfl (hb hby at_9) rfl (l' := #[.val (.int p1), .val (.int p2), .val (.int p3), .val (.int (p1 &&& (2147483647 : Int32))), .val (.int (p2 &&& (2147483647 : Int32))), .unset, .unset, .unset, .unset, .unset]) rfl ?_
    show Steps p.tables e below (s₁.setTop (mkF m 11 #[.val (.int p1), .val (.int p2), .val (.int p3), .val (.int (p1 &&& (2147483647 : Int32))), .val (.int (p2 &&& (2147483647 : Int32))), .unset, .unset, .unset, .unset, .unset] [])) _
    refine XS.iloadN X0.here hx rfl (hb hby at_11) rfl ?_
    show Steps p.tables e below (s₁.setTop (mkF m 12 #[.val (.int p1), .val (.int p2), .val (.int p3), .val (.int (p1 &&& (2147483647 : Int32))), .val (.int (p2 &&& (2147483647 : Int32))), .unset, .unset, .unset, .unset, .unset] [(.int (p1 &&& (2147483647 : Int32)))])) _
    refine XS.iload X0.here hx rfl (hb hby at_12) rfl ?_
    show Steps p.tables e below (s₁.setTop (mkF m 14 #[.val (.int p1), .val (.int p2), .val (.int p3), .val (.int (p1 &&& (2147483647 : Int32))), .val (.int (p2 &&& (2147483647 : Int32))), .unset, .unset, .unset, .unset, .unset] [(.int (p2 &&& (2147483647 : Int32))), (.int (p1 &&& (2147483647 : Int32)))])) _
    refine st4 _ ?_
    show Steps p.tables e below (T4.setTop (mkF m 17 #[.val (.int p1), .val (.int p2), .val (.int p3), .val (.int (p1 &&& (2147483647 : Int32))), .val (.int (p2 &&& (2147483647 : Int32))), .unset, .unset, .unset, .unset, .unset] [(.int (own_min (p1 &&& (2147483647 : Int32)) (p2 &&& (2147483647 : Int32))))])) _
    refine XS.istore X4.here hx rfl (hb hby at_17) rfl (l' := #[.val (.int p1), .val (.int p2), .val (.int p3), .val (.int (p1 &&& (2147483647 : Int32))), .val (.int (p2 &&& (2147483647 : Int32))), .val (.int (own_min (p1 &&& (2147483647 : Int32)) (p2 &&& (2147483647 : Int32)))), .unset, .unset, .unset, .unset]) rfl ?_
    show Steps p.tables e below (T4.setTop (mkF m 19 #[.val (.int p1), .val (.int p2), .val (.int p3), .val (.int (p1 &&& (2147483647 : Int32))), .val (.int (p2 &&& (2147483647 : Int32))), .val (.int (own_min (p1 &&& (2147483647 : Int32)) (p2 &&& (2147483647 : Int32)))), .unset, .unset, .unset, .unset] [])) _
    refine XS.iloadN X4.here hx rfl (hb hby at_19) rfl ?_
    show Steps p.tables e below (T4.setTop (mkF m 20 #[.val (.int p1), .val (.int p2), .val (.int p3), .val (.int (p1 &&& (2147483647 : Int32))), .val (.int (p2 &&& (2147483647 : Int32))), .val (.int (own_min (p1 &&& (2147483647 : Int32)) (p2 &&& (2147483647 : Int32)))), .unset, .unset, .unset, .unset] [(.int (p1 &&& (2147483647 : Int32)))])) _
    refine XS.iload X4.here hx rfl (hb hby at_20) rfl ?_
    show Steps p.tables e below (T4.setTop (mkF m 22 #[.val (.int p1), .val (.int p2), .val (.int p3), .val (.int (p1 &&& (2147483647 : Int32))), .val (.int (p2 &&& (2147483647 : Int32))), .val (.int (own_min (p1 &&& (2147483647 : Int32)) (p2 &&& (2147483647 : Int32)))), .unset, .unset, .unset, .unset] [(.int (p2 &&& (2147483647 : Int32))), (.int (p1 &&& (2147483647 : Int32)))])) _
    refine st5 _ ?_
    show Steps p.tables e below (T5.setTop (mkF m 25 #[.val (.int p1), .val (.int p2), .val (.int p3), .val (.int (p1 &&& (2147483647 : Int32))), .val (.int (p2 &&& (2147483647 : Int32))), .val (.int (own_min (p1 &&& (2147483647 : Int32)) (p2 &&& (2147483647 : Int32)))), .unset, .unset, .unset, .unset] [(.int (own_max (p1 &&& (2147483647 : Int32)) (p2 &&& (2147483647 : Int32))))])) _
    refine XS.istore X5.here hx rfl (hb hby at_25) rfl (l' := #[.val (.int p1), .val (.int p2), .val (.int p3), .val (.int (p1 &&& (2147483647 : Int32))), .val (.int (p2 &&& (2147483647 : Int32))), .val (.int (own_min (p1 &&& (2147483647 : Int32)) (p2 &&& (2147483647 : Int32)))), .val (.int (own_max (p1 &&& (2147483647 : Int32)) (p2 &&& (2147483647 : Int32)))), .unset, .unset, .unset]) rfl ?_
    show Steps p.tables e below (T5.setTop (mkF m 27 #[.val (.int p1), .val (.int p2), .val (.int p3), .val (.int (p1 &&& (2147483647 : Int32))), .val (.int (p2 &&& (2147483647 : Int32))), .val (.int (own_min (p1 &&& (2147483647 : Int32)) (p2 &&& (2147483647 : Int32)))), .val (.int (own_max (p1 &&& (2147483647 : Int32)) (p2 &&& (2147483647 : Int32)))), .unset, .unset, .unset] [])) _
    refine st6 _ ?_
    show Steps p.tables e below (T6.setTop (mkF m 30 #[.val (.int p1), .val (.int p2), .val (.int p3), .val (.int (p1 &&& (2147483647 : Int32))), .val (.int (p2 &&& (2147483647 : Int32))), .val (.int (own_min (p1 &&& (2147483647 : Int32)) (p2 &&& (2147483647 : Int32)))), .val (.int (own_max (p1 &&& (2147483647 : Int32)) (p2 &&& (2147483647 : Int32)))), .unset, .unset, .unset] [(.ref b6)])) _
    refine XS.dup X6.here hx rfl (hb hby at_30) rfl rfl ?_
    show Steps p.tables e below (T6.setTop (mkF m 31 #[.val (.int p1), .val (.int p2), .val (.int p3), .val (.int (p1 &&& (2147483647 : Int32))), .val (.int (p2 &&& (2147483647 : Int32))), .val (.int (own_min (p1 &&& (2147483647 : Int32)) (p2 &&& (2147483647 : Int32)))), .val (.int (own_max (p1 &&& (2147483647 : Int32)) (p2 &&& (2147483647 : Int32)))), .unset, .unset, .unset] [(.ref b6), (.ref b6)])) _
    refine XS.iload X6.here hx rfl (hb hby at_31) rfl ?_
    show Steps p.tables e below (T6.setTop (mkF m 33 #[.val (.int p1), .val (.int p2), .val (.int p3), .val (.int (p1 &&& (2147483647 : Int32))), .val (.int (p2 &&& (2147483647 : Int32))), .val (.int (own_min (p1 &&& (2147483647 : Int32)) (p2 &&& (2147483647 : Int32)))), .val (.int (own_max (p1 &&& (2147483647 : Int32)) (p2 &&& (2147483647 : Int32)))), .unset, .unset, .unset] [(.int (own_min (p1 &&& (2147483647 : Int32)) (p2 &&& (2147483647 : Int32)))), (.ref b6), (.ref b6)])) _
    refine XS.iload X6.here hx rfl (hb hby at_33) rfl ?_
    show Steps p.tables e below (T6.setTop (mkF m 35 #[.val (.int p1), .val (.int p2), .val (.int p3), .val (.int (p1 &&& (2147483647 : Int32))), .val (.int (p2 &&& (2147483647 : Int32))), .val (.int (own_min (p1 &&& (2147483647 : Int32)) (p2 &&& (2147483647 : Int32)))), .val (.int (own_max (p1 &&& (2147483647 : Int32)) (p2 &&& (2147483647 : Int32)))), .unset, .unset, .unset] [(.int (own_max (p1 &&& (2147483647 : Int32)) (p2 &&& (2147483647 : Int32)))), (.int (own_min (p1 &&& (2147483647 : Int32)) (p2 &&& (2147483647 : Int32)))), (.ref b6), (.ref b6)])) _
    refine st7.trans ?_
    show Steps p.tables e below (T7.setTop (mkF m 38 #[.val (.int p1), .val (.int p2), .val (.int p3), .val (.int (p1 &&& (2147483647 : Int32))), .val (.int (p2 &&& (2147483647 : Int32))), .val (.int (own_min (p1 &&& (2147483647 : Int32)) (p2 &&& (2147483647 : Int32)))), .val (.int (own_max (p1 &&& (2147483647 : Int32)) (p2 &&& (2147483647 : Int32)))), .unset, .unset, .unset] [(.ref b6)])) _
    refine XS.astore X7.here hx rfl (hb hby at_38) rfl rfl (l' := #[.val (.int p1), .val (.int p2), .val (.int p3), .val (.int (p1 &&& (2147483647 : Int32))), .val (.int (p2 &&& (2147483647 : Int32))), .val (.int (own_min (p1 &&& (2147483647 : Int32)) (p2 &&& (2147483647 : Int32)))), .val (.int (own_max (p1 &&& (2147483647 : Int32)) (p2 &&& (2147483647 : Int32)))), .val (.ref b6), .unset, .unset]) rfl ?_
    show Steps p.tables e below (T7.setTop (mkF m 40 #[.val (.int p1), .val (.int p2), .val (.int p3), .val (.int (p1 &&& (2147483647 : Int32))), .val (.int (p2 &&& (2147483647 : Int32))), .val (.int (own_min (p1 &&& (2147483647 : Int32)) (p2 &&& (2147483647 : Int32)))), .val (.int (own_max (p1 &&& (2147483647 : Int32)) (p2 &&& (2147483647 : Int32)))), .val (.ref b6), .unset, .unset] [])) _
    refine XS.iload X7.here hx rfl (hb hby at_40) rfl ?_
    show Steps p.tables e below (T7.setTop (mkF m 42 #[.val (.int p1), .val (.int p2), .val (.int p3), .val (.int (p1 &&& (2147483647 : Int32))), .val (.int (p2 &&& (2147483647 : Int32))), .val (.int (own_min (p1 &&& (2147483647 : Int32)) (p2 &&& (2147483647 : Int32)))), .val (.int (own_max (p1 &&& (2147483647 : Int32)) (p2 &&& (2147483647 : Int32)))), .val (.ref b6), .unset, .unset] [(.int (own_min (p1 &&& (2147483647 : Int32)) (p2 &&& (2147483647 : Int32))))])) _
    refine XS.iloadN X7.here hx rfl (hb hby at_42) rfl ?_
    show Steps p.tables e below (T7.setTop (mkF m 43 #[.val (.int p1), .val (.int p2), .val (.int p3), .val (.int (p1 &&& (2147483647 : Int32))), .val (.int (p2 &&& (2147483647 : Int32))), .val (.int (own_min (p1 &&& (2147483647 : Int32)) (p2 &&& (2147483647 : Int32)))), .val (.int (own_max (p1 &&& (2147483647 : Int32)) (p2 &&& (2147483647 : Int32)))), .val (.ref b6), .unset, .unset] [(.int p3), (.int (own_min (p1 &&& (2147483647 : Int32)) (p2 &&& (2147483647 : Int32))))])) _
    refine XS.iload X7.here hx rfl (hb hby at_43) rfl ?_
    show Steps p.tables e below (T7.setTop (mkF m 45 #[.val (.int p1), .val (.int p2), .val (.int p3), .val (.int (p1 &&& (2147483647 : Int32))), .val (.int (p2 &&& (2147483647 : Int32))), .val (.int (own_min (p1 &&& (2147483647 : Int32)) (p2 &&& (2147483647 : Int32)))), .val (.int (own_max (p1 &&& (2147483647 : Int32)) (p2 &&& (2147483647 : Int32)))), .val (.ref b6), .unset, .unset] [(.int (own_max (p1 &&& (2147483647 : Int32)) (p2 &&& (2147483647 : Int32)))), (.int p3), (.int (own_min (p1 &&& (2147483647 : Int32)) (p2 &&& (2147483647 : Int32))))])) _
    refine st8 _ ?_
    show Steps p.tables e below (T8.setTop (mkF m 48 #[.val (.int p1), .val (.int p2), .val (.int p3), .val (.int (p1 &&& (2147483647 : Int32))), .val (.int (p2 &&& (2147483647 : Int32))), .val (.int (own_min (p1 &&& (2147483647 : Int32)) (p2 &&& (2147483647 : Int32)))), .val (.int (own_max (p1 &&& (2147483647 : Int32)) (p2 &&& (2147483647 : Int32)))), .val (.ref b6), .unset, .unset] [(.int (own_min p3 (own_max (p1 &&& (2147483647 : Int32)) (p2 &&& (2147483647 : Int32))))), (.int (own_min (p1 &&& (2147483647 : Int32)) (p2 &&& (2147483647 : Int32))))])) _
    refine st9 _ ?_
    show Steps p.tables e below (T9.setTop (mkF m 51 #[.val (.int p1), .val (.int p2), .val (.int p3), .val (.int (p1 &&& (2147483647 : Int32))), .val (.int (p2 &&& (2147483647 : Int32))), .val (.int (own_min (p1 &&& (2147483647 : Int32)) (p2 &&& (2147483647 : Int32)))), .val (.int (own_max (p1 &&& (2147483647 : Int32)) (p2 &&& (2147483647 : Int32)))), .val (.ref b6), .unset, .unset] [(.int (own_max (own_min (p1 &&& (2147483647 : Int32)) (p2 &&& (2147483647 : Int32))) (own_min p3 (own_max (p1 &&& (2147483647 : Int32)) (p2 &&& (2147483647 : Int32))))))])) _
    refine XS.istore X9.here hx rfl (hb hby at_51) rfl (l' := #[.val (.int p1), .val (.int p2), .val (.int p3), .val (.int (p1 &&& (2147483647 : Int32))), .val (.int (p2 &&& (2147483647 : Int32))), .val (.int (own_min (p1 &&& (2147483647 : Int32)) (p2 &&& (2147483647 : Int32)))), .val (.int (own_max (p1 &&& (2147483647 : Int32)) (p2 &&& (2147483647 : Int32)))), .val (.ref b6), .val (.int (own_max (own_min (p1 &&& (2147483647 : Int32)) (p2 &&& (2147483647 : Int32))) (own_min p3 (own_max (p1 &&& (2147483647 : Int32)) (p2 &&& (2147483647 : Int32)))))), .unset]) rfl ?_
    show Steps p.tables e below (T9.setTop (mkF m 53 #[.val (.int p1), .val (.int p2), .val (.int p3), .val (.int (p1 &&& (2147483647 : Int32))), .val (.int (p2 &&& (2147483647 : Int32))), .val (.int (own_min (p1 &&& (2147483647 : Int32)) (p2 &&& (2147483647 : Int32)))), .val (.int (own_max (p1 &&& (2147483647 : Int32)) (p2 &&& (2147483647 : Int32)))), .val (.ref b6), .val (.int (own_max (own_min (p1 &&& (2147483647 : Int32)) (p2 &&& (2147483647 : Int32))) (own_min p3 (own_max (p1 &&& (2147483647 : Int32)) (p2 &&& (2147483647 : Int32)))))), .unset] [])) _
    refine XS.iload X9.here hx rfl (hb hby at_53) rfl ?_
    show Steps p.tables e below (T9.setTop (mkF m 55 #[.val (.int p1), .val (.int p2), .val (.int p3), .val (.int (p1 &&& (2147483647 : Int32))), .val (.int (p2 &&& (2147483647 : Int32))), .val (.int (own_min (p1 &&& (2147483647 : Int32)) (p2 &&& (2147483647 : Int32)))), .val (.int (own_max (p1 &&& (2147483647 : Int32)) (p2 &&& (2147483647 : Int32)))), .val (.ref b6), .val (.int (own_max (own_min (p1 &&& (2147483647 : Int32)) (p2 &&& (2147483647 : Int32))) (own_min p3 (own_max (p1 &&& (2147483647 : Int32)) (p2 &&& (2147483647 : Int32)))))), .unset] [(.int (own_max (own_min (p1 &&& (2147483647 : Int32)) (p2 &&& (2147483647 : Int32))) (own_min p3 (own_max (p1 &&& (2147483647 : Int32)) (p2 &&& (2147483647 : Int32))))))])) _
    refine XS.iloadN X9.here hx rfl (hb hby at_55) rfl ?_
    show Steps p.tables e below (T9.setTop (mkF m 56 #[.val (.int p1), .val (.int p2), .val (.int p3), .val (.int (p1 &&& (2147483647 : Int32))), .val (.int (p2 &&& (2147483647 : Int32))), .val (.int (own_min (p1 &&& (2147483647 : Int32)) (p2 &&& (2147483647 : Int32)))), .val (.int (own_max (p1 &&& (2147483647 : Int32)) (p2 &&& (2147483647 : Int32)))), .val (.ref b6), .val (.int (own_max (own_min (p1 &&& (2147483647 : Int32)) (p2 &&& (2147483647 : Int32))) (own_min p3 (own_max (p1 &&& (2147483647 : Int32)) (p2 &&& (2147483647 : Int32)))))), .unset] [(.int p3), (.int (own_max (own_min (p1 &&& (2147483647 : Int32)) (p2 &&& (2147483647 : Int32))) (own_min p3 (own_max (p1 &&& (2147483647 : Int32)) (p2 &&& (2147483647 : Int32))))))])) _
    refine XS.icmpNo X9.here hx rfl (hb hby at_56) rfl (teq (hE : (own_max (own_min (p1 &&& (2147483647 : Int32)) (p2 &&& (2147483647 : Int32))) (own_min p3 (own_max (p1 &&& (2147483647 : Int32)) (p2 &&& (2147483647 : Int32))))) = p3)).2 ?_
    show Steps p.tables e below (T9.setTop (mkF m 59 #[.val (.int p1), .val (.int p2), .val (.int p3), .val (.int (p1 &&& (2147483647 : Int32))), .val (.int (p2 &&& (2147483647 : Int32))), .val (.int (own_min (p1 &&& (2147483647 : Int32)) (p2 &&& (2147483647 : Int32)))), .val (.int (own_max (p1 &&& (2147483647 : Int32)) (p2 &&& (2147483647 : Int32)))), .val (.ref b6), .val (.int (own_max (own_min (p1 &&& (2147483647 : Int32)) (p2 &&& (2147483647 : Int32))) (own_min p3 (own_max (p1 &&& (2147483647 : Int32)) (p2 &&& (2147483647 : Int32)))))), .unset] [])) _
    refine XS.iconst X9.here hx rfl (hb hby at_59) ?_
    show Steps p.tables e below (T9.setTop (mkF m 60 #[.val (.int p1), .val (.int p2), .val (.int p3), .val (.int (p1 &&& (2147483647 : Int32))), .val (.int (p2 &&& (2147483647 : Int32))), .val (.int (own_min (p1 &&& (2147483647 : Int32)) (p2 &&& (2147483647 : Int32)))), .val (.int (own_max (p1 &&& (2147483647 : Int32)) (p2 &&& (2147483647 : Int32)))), .val (.ref b6), .val (.int (own_max (own_min (p1 &&& (2147483647 : Int32)) (p2 &&& (2147483647 : Int32))) (own_min p3 (own_max (p1 &&& (2147483647 : Int32)) (p2 &&& (2147483647 : Int32)))))), .unset] [(.int (1 : Int32))])) _
    refine XS.goto X9.here hx rfl (pc0 := 60) (pc' := 64) rfl (hb hby at_60) (by decide) (by decide) ?_
    show Steps p.tables e below (T9.setTop (mkF m 64 #[.val (.int p1), .val (.int p2), .val (.int p3), .val (.int (p1 &&& (2147483647 : Int32))), .val (.int (p2 &&& (2147483647 : Int32))), .val (.int (own_min (p1 &&& (2147483647 : Int32)) (p2 &&& (2147483647 : Int32)))), .val (.int (own_max (p1 &&& (2147483647 : Int32)) (p2 &&& (2147483647 : Int32)))), .val (.ref b6), .val (.int (own_max (own_min (p1 &&& (2147483647 : Int32)) (p2 &&& (2147483647 : Int32))) (own_min p3 (own_max (p1 &&& (2147483647 : Int32)) (p2 &&& (2147483647 : Int32)))))), .unset] [(.int (1 : Int32))])) _
    refine XS.istore X9.here hx rfl (hb hby at_64) rfl (l' := #[.val (.int p1), .val (.int p2), .val (.int p3), .val (.int (p1 &&& (2147483647 : Int32))), .val (.int (p2 &&& (2147483647 : Int32))), .val (.int (own_min (p1 &&& (2147483647 : Int32)) (p2 &&& (2147483647 : Int32)))), .val (.int (own_max (p1 &&& (2147483647 : Int32)) (p2 &&& (2147483647 : Int32)))), .val (.ref b6), .val (.int (own_max (own_min (p1 &&& (2147483647 : Int32)) (p2 &&& (2147483647 : Int32))) (own_min p3 (own_max (p1 &&& (2147483647 : Int32)) (p2 &&& (2147483647 : Int32)))))), .val (.int (1 : Int32))]) rfl ?_
    show Steps p.tables e below (T9.setTop (mkF m 66 #[.val (.int p1), .val (.int p2), .val (.int p3), .val (.int (p1 &&& (2147483647 : Int32))), .val (.int (p2 &&& (2147483647 : Int32))), .val (.int (own_min (p1 &&& (2147483647 : Int32)) (p2 &&& (2147483647 : Int32)))), .val (.int (own_max (p1 &&& (2147483647 : Int32)) (p2 &&& (2147483647 : Int32)))), .val (.ref b6), .val (.int (own_max (own_min (p1 &&& (2147483647 : Int32)) (p2 &&& (2147483647 : Int32))) (own_min p3 (own_max (p1 &&& (2147483647 : Int32)) (p2 &&& (2147483647 : Int32)))))), .val (.int (1 : Int32))] [])) _
    refine XS.aload X9.here hx rfl (hb hby at_66) rfl rfl ?_
    show Steps p.tables e below (T9.setTop (mkF m 68 #[.val (.int p1), .val (.int p2), .val (.int p3), .val (.int (p1 &&& (2147483647 : Int32))), .val (.int (p2 &&& (2147483647 : Int32))), .val (.int (own_min (p1 &&& (2147483647 : Int32)) (p2 &&& (2147483647 : Int32)))), .val (.int (own_max (p1 &&& (2147483647 : Int32)) (p2 &&& (2147483647 : Int32)))), .val (.ref b6), .val (.int (own_max (own_min (p1 &&& (2147483647 : Int32)) (p2 &&& (2147483647 : Int32))) (own_min p3 (own_max (p1 &&& (2147483647 : Int32)) (p2 &&& (2147483647 : Int32)))))), .val (.int (1 : Int32))] [(.ref b6)])) _
    refine XS.iloadN X9.here hx rfl (hb hby at_68) rfl ?_
    show Steps p.tables e below (T9.setTop (mkF m 69 #[.val (.int p1), .val (.int p2), .val (.int p3), .val (.int (p1 &&& (2147483647 : Int32))), .val (.int (p2 &&& (2147483647 : Int32))), .val (.int (own_min (p1 &&& (2147483647 : Int32)) (p2 &&& (2147483647 : Int32)))), .val (.int (own_max (p1 &&& (2147483647 : Int32)) (p2 &&& (2147483647 : Int32)))), .val (.ref b6), .val (.int (own_max (own_min (p1 &&& (2147483647 : Int32)) (p2 &&& (2147483647 : Int32))) (own_min p3 (own_max (p1 &&& (2147483647 : Int32)) (p2 &&& (2147483647 : Int32)))))), .val (.int (1 : Int32))] [(.int p3), (.ref b6)])) _
    refine st10.trans ?_
    show Steps p.tables e below (T10.setTop (mkF m 72 #[.val (.int p1), .val (.int p2), .val (.int p3), .val (.int (p1 &&& (2147483647 : Int32))), .val (.int (p2 &&& (2147483647 : Int32))), .val (.int (own_min (p1 &&& (2147483647 : Int32)) (p2 &&& (2147483647 : Int32)))), .val (.int (own_max (p1 &&& (2147483647 : Int32)) (p2 &&& (2147483647 : Int32)))), .val (.ref b6), .val (.int (own_max (own_min (p1 &&& (2147483647 : Int32)) (p2 &&& (2147483647 : Int32))) (own_min p3 (own_max (p1 &&& (2147483647 : Int32)) (p2 &&& (2147483647 : Int32)))))), .val (.int (1 : Int32))] [(.int (own_in (own_min (p1 &&& (2147483647 : Int32)) (p2 &&& (2147483647 : Int32))) (own_max (p1 &&& (2147483647 : Int32)) (p2 &&& (2147483647 : Int32))) p3))])) _
    refine XS.iload X10.here hx rfl (hb hby at_72) rfl ?_
    show Steps p.tables e below (T10.setTop (mkF m 74 #[.val (.int p1), .val (.int p2), .val (.int p3), .val (.int (p1 &&& (2147483647 : Int32))), .val (.int (p2 &&& (2147483647 : Int32))), .val (.int (own_min (p1 &&& (2147483647 : Int32)) (p2 &&& (2147483647 : Int32)))), .val (.int (own_max (p1 &&& (2147483647 : Int32)) (p2 &&& (2147483647 : Int32)))), .val (.ref b6), .val (.int (own_max (own_min (p1 &&& (2147483647 : Int32)) (p2 &&& (2147483647 : Int32))) (own_min p3 (own_max (p1 &&& (2147483647 : Int32)) (p2 &&& (2147483647 : Int32)))))), .val (.int (1 : Int32))] [(.int (1 : Int32)), (.int (own_in (own_min (p1 &&& (2147483647 : Int32)) (p2 &&& (2147483647 : Int32))) (own_max (p1 &&& (2147483647 : Int32)) (p2 &&& (2147483647 : Int32))) p3))])) _
    refine XS.icmpYes X10.here hx rfl (pc0 := 74) (pc' := 79) rfl (hb hby at_74) rfl (teq (own_cl1 (own_lohi (p1 &&& (2147483647 : Int32)) (p2 &&& (2147483647 : Int32))) hE : (own_in (own_min (p1 &&& (2147483647 : Int32)) (p2 &&& (2147483647 : Int32))) (own_max (p1 &&& (2147483647 : Int32)) (p2 &&& (2147483647 : Int32))) p3) = (1 : Int32))).1 (by decide) (by decide) ?_
    show Steps p.tables e below (T10.setTop (mkF m 79 #[.val (.int p1), .val (.int p2), .val (.int p3), .val (.int (p1 &&& (2147483647 : Int32))), .val (.int (p2 &&& (2147483647 : Int32))), .val (.int (own_min (p1 &&& (2147483647 : Int32)) (p2 &&& (2147483647 : Int32)))), .val (.int (own_max (p1 &&& (2147483647 : Int32)) (p2 &&& (2147483647 : Int32)))), .val (.ref b6), .val (.int (own_max (own_min (p1 &&& (2147483647 : Int32)) (p2 &&& (2147483647 : Int32))) (own_min p3 (own_max (p1 &&& (2147483647 : Int32)) (p2 &&& (2147483647 : Int32)))))), .val (.int (1 : Int32))] [])) _
    refine XS.aload X10.here hx rfl (hb hby at_79) rfl rfl ?_
    show Steps p.tables e below (T10.setTop (mkF m 81 #[.val (.int p1), .val (.int p2), .val (.int p3), .val (.int (p1 &&& (2147483647 : Int32))), .val (.int (p2 &&& (2147483647 : Int32))), .val (.int (own_min (p1 &&& (2147483647 : Int32)) (p2 &&& (2147483647 : Int32)))), .val (.int (own_max (p1 &&& (2147483647 : Int32)) (p2 &&& (2147483647 : Int32)))), .val (.ref b6), .val (.int (own_max (own_min (p1 &&& (2147483647 : Int32)) (p2 &&& (2147483647 : Int32))) (own_min p3 (own_max (p1 &&& (2147483647 : Int32)) (p2 &&& (2147483647 : Int32)))))), .val (.int (1 : Int32))] [(.ref b6)])) _
    refine XS.iload X10.here hx rfl (hb hby at_81) rfl ?_
    show Steps p.tables e below (T10.setTop (mkF m 83 #[.val (.int p1), .val (.int p2), .val (.int p3), .val (.int (p1 &&& (2147483647 : Int32))), .val (.int (p2 &&& (2147483647 : Int32))), .val (.int (own_min (p1 &&& (2147483647 : Int32)) (p2 &&& (2147483647 : Int32)))), .val (.int (own_max (p1 &&& (2147483647 : Int32)) (p2 &&& (2147483647 : Int32)))), .val (.ref b6), .val (.int (own_max (own_min (p1 &&& (2147483647 : Int32)) (p2 &&& (2147483647 : Int32))) (own_min p3 (own_max (p1 &&& (2147483647 : Int32)) (p2 &&& (2147483647 : Int32)))))), .val (.int (1 : Int32))] [(.int (own_min (p1 &&& (2147483647 : Int32)) (p2 &&& (2147483647 : Int32)))), (.ref b6)])) _
    refine st11.trans ?_
    show Steps p.tables e below (T11.setTop (mkF m 86 #[.val (.int p1), .val (.int p2), .val (.int p3), .val (.int (p1 &&& (2147483647 : Int32))), .val (.int (p2 &&& (2147483647 : Int32))), .val (.int (own_min (p1 &&& (2147483647 : Int32)) (p2 &&& (2147483647 : Int32)))), .val (.int (own_max (p1 &&& (2147483647 : Int32)) (p2 &&& (2147483647 : Int32)))), .val (.ref b6), .val (.int (own_max (own_min (p1 &&& (2147483647 : Int32)) (p2 &&& (2147483647 : Int32))) (own_min p3 (own_max (p1 &&& (2147483647 : Int32)) (p2 &&& (2147483647 : Int32)))))), .val (.int (1 : Int32))] [(.int (own_in (own_min (p1 &&& (2147483647 : Int32)) (p2 &&& (2147483647 : Int32))) (own_max (p1 &&& (2147483647 : Int32)) (p2 &&& (2147483647 : Int32))) (own_min (p1 &&& (2147483647 : Int32)) (p2 &&& (2147483647 : Int32)))))])) _
    refine XS.ifYes X11.here hx rfl (pc0 := 86) (pc' := 91) rfl (hb hby at_86) rfl ((if0 _ _).trans (feq ((own_ends (own_lohi (p1 &&& (2147483647 : Int32)) (p2 &&& (2147483647 : Int32)))).1 : ¬ ((own_in (own_min (p1 &&& (2147483647 : Int32)) (p2 &&& (2147483647 : Int32))) (own_max (p1 &&& (2147483647 : Int32)) (p2 &&& (2147483647 : Int32))) (own_min (p1 &&& (2147483647 : Int32)) (p2 &&& (2147483647 : Int32)))) = (0 : Int32)))).2) (by decide) (by decide) ?_
    show Steps p.tables e below (T11.setTop (mkF m 91 #[.val (.int p1), .val (.int p2), .val (.int p3), .val (.int (p1 &&& (2147483647 : Int32))), .val (.int (p2 &&& (2147483647 : Int32))), .val (.int (own_min (p1 &&& (2147483647 : Int32)) (p2 &&& (2147483647 : Int32)))), .val (.int (own_max (p1 &&& (2147483647 : Int32)) (p2 &&& (2147483647 : Int32)))), .val (.ref b6), .val (.int (own_max (own_min (p1 &&& (2147483647 : Int32)) (p2 &&& (2147483647 : Int32))) (own_min p3 (own_max (p1 &&& (2147483647 : Int32)) (p2 &&& (2147483647 : Int32)))))), .val (.int (1 : Int32))] [])) _
    refine XS.aload X11.here hx rfl (hb hby at_91) rfl rfl ?_
    show Steps p.tables e below (T11.setTop (mkF m 93 #[.val (.int p1), .val (.int p2), .val (.int p3), .val (.int (p1 &&& (2147483647 : Int32))), .val (.int (p2 &&& (2147483647 : Int32))), .val (.int (own_min (p1 &&& (2147483647 : Int32)) (p2 &&& (2147483647 : Int32)))), .val (.int (own_max (p1 &&& (2147483647 : Int32)) (p2 &&& (2147483647 : Int32)))), .val (.ref b6), .val (.int (own_max (own_min (p1 &&& (2147483647 : Int32)) (p2 &&& (2147483647 : Int32))) (own_min p3 (own_max (p1 &&& (2147483647 : Int32)) (p2 &&& (2147483647 : Int32)))))), .val (.int (1 : Int32))] [(.ref b6)])) _
    refine XS.iload X11.here hx rfl (hb hby at_93) rfl ?_
    show Steps p.tables e below (T11.setTop (mkF m 95 #[.val (.int p1), .val (.int p2), .val (.int p3), .val (.int (p1 &&& (2147483647 : Int32))), .val (.int (p2 &&& (2147483647 : Int32))), .val (.int (own_min (p1 &&& (2147483647 : Int32)) (p2 &&& (2147483647 : Int32)))), .val (.int (own_max (p1 &&& (2147483647 : Int32)) (p2 &&& (2147483647 : Int32)))), .val (.ref b6), .val (.int (own_max (own_min (p1 &&& (2147483647 : Int32)) (p2 &&& (2147483647 : Int32))) (own_min p3 (own_max (p1 &&& (2147483647 : Int32)) (p2 &&& (2147483647 : Int32)))))), .val (.int (1 : Int32))] [(.int (own_max (p1 &&& (2147483647 : Int32)) (p2 &&& (2147483647 : Int32)))), (.ref b6)])) _
    refine st12.trans ?_
    show Steps p.tables e below (T12.setTop (mkF m 98 #[.val (.int p1), .val (.int p2), .val (.int p3), .val (.int (p1 &&& (2147483647 : Int32))), .val (.int (p2 &&& (2147483647 : Int32))), .val (.int (own_min (p1 &&& (2147483647 : Int32)) (p2 &&& (2147483647 : Int32)))), .val (.int (own_max (p1 &&& (2147483647 : Int32)) (p2 &&& (2147483647 : Int32)))), .val (.ref b6), .val (.int (own_max (own_min (p1 &&& (2147483647 : Int32)) (p2 &&& (2147483647 : Int32))) (own_min p3 (own_max (p1 &&& (2147483647 : Int32)) (p2 &&& (2147483647 : Int32)))))), .val (.int (1 : Int32))] [(.int (own_in (own_min (p1 &&& (2147483647 : Int32)) (p2 &&& (2147483647 : Int32))) (own_max (p1 &&& (2147483647 : Int32)) (p2 &&& (2147483647 : Int32))) (own_max (p1 &&& (2147483647 : Int32)) (p2 &&& (2147483647 : Int32)))))])) _
    refine XS.ifYes X12.here hx rfl (pc0 := 98) (pc' := 103) rfl (hb hby at_98) rfl ((if0 _ _).trans (feq ((own_ends (own_lohi (p1 &&& (2147483647 : Int32)) (p2 &&& (2147483647 : Int32)))).2 : ¬ ((own_in (own_min (p1 &&& (2147483647 : Int32)) (p2 &&& (2147483647 : Int32))) (own_max (p1 &&& (2147483647 : Int32)) (p2 &&& (2147483647 : Int32))) (own_max (p1 &&& (2147483647 : Int32)) (p2 &&& (2147483647 : Int32)))) = (0 : Int32)))).2) (by decide) (by decide) ?_
    show Steps p.tables e below (T12.setTop (mkF m 103 #[.val (.int p1), .val (.int p2), .val (.int p3), .val (.int (p1 &&& (2147483647 : Int32))), .val (.int (p2 &&& (2147483647 : Int32))), .val (.int (own_min (p1 &&& (2147483647 : Int32)) (p2 &&& (2147483647 : Int32)))), .val (.int (own_max (p1 &&& (2147483647 : Int32)) (p2 &&& (2147483647 : Int32)))), .val (.ref b6), .val (.int (own_max (own_min (p1 &&& (2147483647 : Int32)) (p2 &&& (2147483647 : Int32))) (own_min p3 (own_max (p1 &&& (2147483647 : Int32)) (p2 &&& (2147483647 : Int32)))))), .val (.int (1 : Int32))] [])) _
    refine XS.aload X12.here hx rfl (hb hby at_103) rfl rfl ?_
    show Steps p.tables e below (T12.setTop (mkF m 105 #[.val (.int p1), .val (.int p2), .val (.int p3), .val (.int (p1 &&& (2147483647 : Int32))), .val (.int (p2 &&& (2147483647 : Int32))), .val (.int (own_min (p1 &&& (2147483647 : Int32)) (p2 &&& (2147483647 : Int32)))), .val (.int (own_max (p1 &&& (2147483647 : Int32)) (p2 &&& (2147483647 : Int32)))), .val (.ref b6), .val (.int (own_max (own_min (p1 &&& (2147483647 : Int32)) (p2 &&& (2147483647 : Int32))) (own_min p3 (own_max (p1 &&& (2147483647 : Int32)) (p2 &&& (2147483647 : Int32)))))), .val (.int (1 : Int32))] [(.ref b6)])) _
    refine XS.iload X12.here hx rfl (hb hby at_105) rfl ?_
    show Steps p.tables e below (T12.setTop (mkF m 107 #[.val (.int p1), .val (.int p2), .val (.int p3), .val (.int (p1 &&& (2147483647 : Int32))), .val (.int (p2 &&& (2147483647 : Int32))), .val (.int (own_min (p1 &&& (2147483647 : Int32)) (p2 &&& (2147483647 : Int32)))), .val (.int (own_max (p1 &&& (2147483647 : Int32)) (p2 &&& (2147483647 : Int32)))), .val (.ref b6), .val (.int (own_max (own_min (p1 &&& (2147483647 : Int32)) (p2 &&& (2147483647 : Int32))) (own_min p3 (own_max (p1 &&& (2147483647 : Int32)) (p2 &&& (2147483647 : Int32)))))), .val (.int (1 : Int32))] [(.int (own_min (p1 &&& (2147483647 : Int32)) (p2 &&& (2147483647 : Int32)))), (.ref b6)])) _
    refine XS.iconst X12.here hx rfl (hb hby at_107) ?_
    show Steps p.tables e below (T12.setTop (mkF m 108 #[.val (.int p1), .val (.int p2), .val (.int p3), .val (.int (p1 &&& (2147483647 : Int32))), .val (.int (p2 &&& (2147483647 : Int32))), .val (.int (own_min (p1 &&& (2147483647 : Int32)) (p2 &&& (2147483647 : Int32)))), .val (.int (own_max (p1 &&& (2147483647 : Int32)) (p2 &&& (2147483647 : Int32)))), .val (.ref b6), .val (.int (own_max (own_min (p1 &&& (2147483647 : Int32)) (p2 &&& (2147483647 : Int32))) (own_min p3 (own_max (p1 &&& (2147483647 : Int32)) (p2 &&& (2147483647 : Int32)))))), .val (.int (1 : Int32))] [(.int (1 : Int32)), (.int (own_min (p1 &&& (2147483647 : Int32)) (p2 &&& (2147483647 : Int32)))), (.ref b6)])) _
    refine XS.isub X12.here hx rfl (hb hby at_108) rfl ?_
    show Steps p.tables e below (T12.setTop (mkF m 109 #[.val (.int p1), .val (.int p2), .val (.int p3), .val (.int (p1 &&& (2147483647 : Int32))), .val (.int (p2 &&& (2147483647 : Int32))), .val (.int (own_min (p1 &&& (2147483647 : Int32)) (p2 &&& (2147483647 : Int32)))), .val (.int (own_max (p1 &&& (2147483647 : Int32)) (p2 &&& (2147483647 : Int32)))), .val (.ref b6), .val (.int (own_max (own_min (p1 &&& (2147483647 : Int32)) (p2 &&& (2147483647 : Int32))) (own_min p3 (own_max (p1 &&& (2147483647 : Int32)) (p2 &&& (2147483647 : Int32)))))), .val (.int (1 : Int32))] [(.int ((own_min (p1 &&& (2147483647 : Int32)) (p2 &&& (2147483647 : Int32))) - (1 : Int32))), (.ref b6)])) _
    refine st13.trans ?_
    show Steps p.tables e below (T13.setTop (mkF m 112 #[.val (.int p1), .val (.int p2), .val (.int p3), .val (.int (p1 &&& (2147483647 : Int32))), .val (.int (p2 &&& (2147483647 : Int32))), .val (.int (own_min (p1 &&& (2147483647 : Int32)) (p2 &&& (2147483647 : Int32)))), .val (.int (own_max (p1 &&& (2147483647 : Int32)) (p2 &&& (2147483647 : Int32)))), .val (.ref b6), .val (.int (own_max (own_min (p1 &&& (2147483647 : Int32)) (p2 &&& (2147483647 : Int32))) (own_min p3 (own_max (p1 &&& (2147483647 : Int32)) (p2 &&& (2147483647 : Int32)))))), .val (.int (1 : Int32))] [(.int (own_in (own_min (p1 &&& (2147483647 : Int32)) (p2 &&& (2147483647 : Int32))) (own_max (p1 &&& (2147483647 : Int32)) (p2 &&& (2147483647 : Int32))) ((own_min (p1 &&& (2147483647 : Int32)) (p2 &&& (2147483647 : Int32))) - (1 : Int32))))])) _
    refine XS.ifYes X13.here hx rfl (pc0 := 112) (pc' := 117) rfl (hb hby at_112) rfl ((if0 _ _).trans (teq (own_below (own_lo0 (p1 &&& (2147483647 : Int32)) (p2 &&& (2147483647 : Int32)) (c_and p1 2147483647 (by decide)).1 (c_and p2 2147483647 (by decide)).1) : (own_in (own_min (p1 &&& (2147483647 : Int32)) (p2 &&& (2147483647 : Int32))) (own_max (p1 &&& (2147483647 : Int32)) (p2 &&& (2147483647 : Int32))) ((own_min (p1 &&& (2147483647 : Int32)) (p2 &&& (2147483647 : Int32))) - (1 : Int32))) = (0 : Int32))).1) (by decide) (by decide) ?_
    show Steps p.tables e below (T13.setTop (mkF m 117 #[.val (.int p1), .val (.int p2), .val (.int p3), .val (.int (p1 &&& (2147483647 : Int32))), .val (.int (p2 &&& (2147483647 : Int32))), .val (.int (own_min (p1 &&& (2147483647 : Int32)) (p2 &&& (2147483647 : Int32)))), .val (.int (own_max (p1 &&& (2147483647 : Int32)) (p2 &&& (2147483647 : Int32)))), .val (.ref b6), .val (.int (own_max (own_min (p1 &&& (2147483647 : Int32)) (p2 &&& (2147483647 : Int32))) (own_min p3 (own_max (p1 &&& (2147483647 : Int32)) (p2 &&& (2147483647 : Int32)))))), .val (.int (1 : Int32))] [])) _
    refine XS.iload X13.here hx rfl (hb hby at_117) rfl ?_
    show Steps p.tables e below (T13.setTop (mkF m 119 #[.val (.int p1), .val (.int p2), .val (.int p3), .val (.int (p1 &&& (2147483647 : Int32))), .val (.int (p2 &&& (2147483647 : Int32))), .val (.int (own_min (p1 &&& (2147483647 : Int32)) (p2 &&& (2147483647 : Int32)))), .val (.int (own_max (p1 &&& (2147483647 : Int32)) (p2 &&& (2147483647 : Int32)))), .val (.ref b6), .val (.int (own_max (own_min (p1 &&& (2147483647 : Int32)) (p2 &&& (2147483647 : Int32))) (own_min p3 (own_max (p1 &&& (2147483647 : Int32)) (p2 &&& (2147483647 : Int32)))))), .val (.int (1 : Int32))] [(.int (own_max (p1 &&& (2147483647 : Int32)) (p2 &&& (2147483647 : Int32))))])) _
    refine X13.ldcInt hx hown (mvT hZ (hw _ (List.mem_of_getElem? (i := 0) rfl))) (g := (mkF m 119 #[.val (.int p1), .val (.int p2), .val (.int p3), .val (.int (p1 &&& (2147483647 : Int32))), .val (.int (p2 &&& (2147483647 : Int32))), .val (.int (own_min (p1 &&& (2147483647 : Int32)) (p2 &&& (2147483647 : Int32)))), .val (.int (own_max (p1 &&& (2147483647 : Int32)) (p2 &&& (2147483647 : Int32)))), .val (.ref b6), .val (.int (own_max (own_min (p1 &&& (2147483647 : Int32)) (p2 &&& (2147483647 : Int32))) (own_min p3 (own_max (p1 &&& (2147483647 : Int32)) (p2 &&& (2147483647 : Int32)))))), .val (.int (1 : Int32))] [(.int (own_max (p1 &&& (2147483647 : Int32)) (p2 &&& (2147483647 : Int32))))])) rfl (hb hby at_119) _ ?_
    show Steps p.tables e below (T13.setTop (mkF m 121 #[.val (.int p1), .val (.int p2), .val (.int p3), .val (.int (p1 &&& (2147483647 : Int32))), .val (.int (p2 &&& (2147483647 : Int32))), .val (.int (own_min (p1 &&& (2147483647 : Int32)) (p2 &&& (2147483647 : Int32)))), .val (.int (own_max (p1 &&& (2147483647 : Int32)) (p2 &&& (2147483647 : Int32)))), .val (.ref b6), .val (.int (own_max (own_min (p1 &&& (2147483647 : Int32)) (p2 &&& (2147483647 : Int32))) (own_min p3 (own_max (p1 &&& (2147483647 : Int32)) (p2 &&& (2147483647 : Int32)))))), .val (.int (1 : Int32))] [(.int (2147483647 : Int32)), (.int (own_max (p1 &&& (2147483647 : Int32)) (p2 &&& (2147483647 : Int32))))])) _
    refine XS.icmpNo X13.here hx rfl (hb hby at_121) rfl (feq (hM : ¬ ((own_max (p1 &&& (2147483647 : Int32)) (p2 &&& (2147483647 : Int32))) = (2147483647 : Int32)))).1 ?_
    show Steps p.tables e below (T13.setTop (mkF m 124 #[.val (.int p1), .val (.int p2), .val (.int p3), .val (.int (p1 &&& (2147483647 : Int32))), .val (.int (p2 &&& (2147483647 : Int32))), .val (.int (own_min (p1 &&& (2147483647 : Int32)) (p2 &&& (2147483647 : Int32)))), .val (.int (own_max (p1 &&& (2147483647 : Int32)) (p2 &&& (2147483647 : Int32)))), .val (.ref b6), .val (.int (own_max (own_min (p1 &&& (2147483647 : Int32)) (p2 &&& (2147483647 : Int32))) (own_min p3 (own_max (p1 &&& (2147483647 : Int32)) (p2 &&& (2147483647 : Int32)))))), .val (.int (1 : Int32))] [])) _
    refine XS.aload X13.here hx rfl (hb hby at_124) rfl rfl ?_
    show Steps p.tables e below (T13.setTop (mkF m 126 #[.val (.int p1), .val (.int p2), .val (.int p3), .val (.int (p1 &&& (2147483647 : Int32))), .val (.int (p2 &&& (2147483647 : Int32))), .val (.int (own_min (p1 &&& (2147483647 : Int32)) (p2 &&& (2147483647 : Int32)))), .val (.int (own_max (p1 &&& (2147483647 : Int32)) (p2 &&& (2147483647 : Int32)))), .val (.ref b6), .val (.int (own_max (own_min (p1 &&& (2147483647 : Int32)) (p2 &&& (2147483647 : Int32))) (own_min p3 (own_max (p1 &&& (2147483647 : Int32)) (p2 &&& (2147483647 : Int32)))))), .val (.int (1 : Int32))] [(.ref b6)])) _
    refine XS.iload X13.here hx rfl (hb hby at_126) rfl ?_
    show Steps p.tables e below (T13.setTop (mkF m 128 #[.val (.int p1), .val (.int p2), .val (.int p3), .val (.int (p1 &&& (2147483647 : Int32))), .val (.int (p2 &&& (2147483647 : Int32))), .val (.int (own_min (p1 &&& (2147483647 : Int32)) (p2 &&& (2147483647 : Int32)))), .val (.int (own_max (p1 &&& (2147483647 : Int32)) (p2 &&& (2147483647 : Int32)))), .val (.ref b6), .val (.int (own_max (own_min (p1 &&& (2147483647 : Int32)) (p2 &&& (2147483647 : Int32))) (own_min p3 (own_max (p1 &&& (2147483647 : Int32)) (p2 &&& (2147483647 : Int32)))))), .val (.int (1 : Int32))] [(.int (own_max (p1 &&& (2147483647 : Int32)) (p2 &&& (2147483647 : Int32)))), (.ref b6)])) _
    refine XS.iconst X13.here hx rfl (hb hby at_128) ?_
    show Steps p.tables e below (T13.setTop (mkF m 129 #[.val (.int p1), .val (.int p2), .val (.int p3), .val (.int (p1 &&& (2147483647 : Int32))), .val (.int (p2 &&& (2147483647 : Int32))), .val (.int (own_min (p1 &&& (2147483647 : Int32)) (p2 &&& (2147483647 : Int32)))), .val (.int (own_max (p1 &&& (2147483647 : Int32)) (p2 &&& (2147483647 : Int32)))), .val (.ref b6), .val (.int (own_max (own_min (p1 &&& (2147483647 : Int32)) (p2 &&& (2147483647 : Int32))) (own_min p3 (own_max (p1 &&& (2147483647 : Int32)) (p2 &&& (2147483647 : Int32)))))), .val (.int (1 : Int32))] [(.int (1 : Int32)), (.int (own_max (p1 &&& (2147483647 : Int32)) (p2 &&& (2147483647 : Int32)))), (.ref b6)])) _
    refine XS.iadd X13.here hx rfl (hb hby at_129) rfl ?_
    show Steps p.tables e below (T13.setTop (mkF m 130 #[.val (.int p1), .val (.int p2), .val (.int p3), .val (.int (p1 &&& (2147483647 : Int32))), .val (.int (p2 &&& (2147483647 : Int32))), .val (.int (own_min (p1 &&& (2147483647 : Int32)) (p2 &&& (2147483647 : Int32)))), .val (.int (own_max (p1 &&& (2147483647 : Int32)) (p2 &&& (2147483647 : Int32)))), .val (.ref b6), .val (.int (own_max (own_min (p1 &&& (2147483647 : Int32)) (p2 &&& (2147483647 : Int32))) (own_min p3 (own_max (p1 &&& (2147483647 : Int32)) (p2 &&& (2147483647 : Int32)))))), .val (.int (1 : Int32))] [(.int ((own_max (p1 &&& (2147483647 : Int32)) (p2 &&& (2147483647 : Int32))) + (1 : Int32))), (.ref b6)])) _
    refine st14.trans ?_
    show Steps p.tables e below (T14.setTop (mkF m 133 #[.val (.int p1), .val (.int p2), .val (.int p3), .val (.int (p1 &&& (2147483647 : Int32))), .val (.int (p2 &&& (2147483647 : Int32))), .val (.int (own_min (p1 &&& (2147483647 : Int32)) (p2 &&& (2147483647 : Int32)))), .val (.int (own_max (p1 &&& (2147483647 : Int32)) (p2 &&& (2147483647 : Int32)))), .val (.ref b6), .val (.int (own_max (own_min (p1 &&& (2147483647 : Int32)) (p2 &&& (2147483647 : Int32))) (own_min p3 (own_max (p1 &&& (2147483647 : Int32)) (p2 &&& (2147483647 : Int32)))))), .val (.int (1 : Int32))] [(.int (own_in (own_min (p1 &&& (2147483647 : Int32)) (p2 &&& (2147483647 : Int32))) (own_max (p1 &&& (2147483647 : Int32)) (p2 &&& (2147483647 : Int32))) ((own_max (p1 &&& (2147483647 : Int32)) (p2 &&& (2147483647 : Int32))) + (1 : Int32))))])) _
    refine XS.ifYes X14.here hx rfl (pc0 := 133) (pc' := 138) rfl (hb hby at_133) rfl ((if0 _ _).trans (teq (own_above hM : (own_in (own_min (p1 &&& (2147483647 : Int32)) (p2 &&& (2147483647 : Int32))) (own_max (p1 &&& (2147483647 : Int32)) (p2 &&& (2147483647 : Int32))) ((own_max (p1 &&& (2147483647 : Int32)) (p2 &&& (2147483647 : Int32))) + (1 : Int32))) = (0 : Int32))).1) (by decide) (by decide) ?_
    show Steps p.tables e below (T14.setTop (mkF m 138 #[.val (.int p1), .val (.int p2), .val (.int p3), .val (.int (p1 &&& (2147483647 : Int32))), .val (.int (p2 &&& (2147483647 : Int32))), .val (.int (own_min (p1 &&& (2147483647 : Int32)) (p2 &&& (2147483647 : Int32)))), .val (.int (own_max (p1 &&& (2147483647 : Int32)) (p2 &&& (2147483647 : Int32)))), .val (.ref b6), .val (.int (own_max (own_min (p1 &&& (2147483647 : Int32)) (p2 &&& (2147483647 : Int32))) (own_min p3 (own_max (p1 &&& (2147483647 : Int32)) (p2 &&& (2147483647 : Int32)))))), .val (.int (1 : Int32))] [])) _
    refine XS.iconst X14.here hx rfl (hb hby at_138) ?_
    show Steps p.tables e below (T14.setTop (mkF m 139 #[.val (.int p1), .val (.int p2), .val (.int p3), .val (.int (p1 &&& (2147483647 : Int32))), .val (.int (p2 &&& (2147483647 : Int32))), .val (.int (own_min (p1 &&& (2147483647 : Int32)) (p2 &&& (2147483647 : Int32)))), .val (.int (own_max (p1 &&& (2147483647 : Int32)) (p2 &&& (2147483647 : Int32)))), .val (.ref b6), .val (.int (own_max (own_min (p1 &&& (2147483647 : Int32)) (p2 &&& (2147483647 : Int32))) (own_min p3 (own_max (p1 &&& (2147483647 : Int32)) (p2 &&& (2147483647 : Int32)))))), .val (.int (1 : Int32))] [(.int (1 : Int32))])) _
    exact retN X14 hx (t := .boolean) Bd.returns (by simp) (hb hby at_139) hr
  · show Q0 Z p1 p2 p3 h0 n0 _ T14.heap _
    exact ⟨rfl, N14⟩
set_option maxRecDepth 65536 in
set_option maxHeartbeats 40000000 in
theorem rm0_fttttt (l : Launch) (Z : State) (a0 : Array Value) (hw : ∀ d ∈ tables_1, d.before a0 Z = true) (ws : List Jvm.Cond) (p1 : Int32) (p2 : Int32) (p3 : Int32) (h0 : Heap) (n0 : Nat) (Z0 : n0 ≤ h0.size) (hE : ((own_max (own_min (p1 &&& (2147483647 : Int32)) (p2 &&& (2147483647 : Int32))) (own_min p3 (own_max (p1 &&& (2147483647 : Int32)) (p2 &&& (2147483647 : Int32))))) = p3)) (hM : ((own_max (p1 &&& (2147483647 : Int32)) (p2 &&& (2147483647 : Int32))) = (2147483647 : Int32))) :
    MetFree l x (head1 (Jvm.Cond.code x code maxLocals ret :: ws) room_1) (fun a U => a = #[(.int p1), (.int p2), (.int p3)] ∧ Z.Warmed39 U.vm ∧ U.heap = h0) (fun _ _ _ _ _ => True) (fun _ U o U' => ∃ v L, o = .returned v ∧ Q0 Z p1 p2 p3 h0 n0 v U'.heap L ∧ FrameEnd U o U' L room_1.cells room_1.slots) := by
  refine MetFree.of_bodySF (plainFor_of_name pn_0) hisR ?_
  intro p e s m args below meth c s₁ Bd hml0 hP hK
  obtain ⟨rfl, hZ, hh⟩ := hP
  have hx := Bd.exec
  have hby := Bd.bytes
  have hml : c.maxLocals = 10 := hml0
  have hown : s.vm.findClass "com/example/rugged_consumer/ruggedconsumer/protocol/VersionRangeContainsPinLaw" = some m.cls := findClass_of_methodNamed Bd.named
  have hnm := (name_of_methodNamed Bd.named Bd.method).1
  have X0 : Stand p l e room_1 s m #[(.int p1), (.int p2), (.int p3)] below meth c s₁ [] 0 0 := Stand.of_body Bd
  have e0 : s₁.heap = h0 := by rw [← hh, Bd.state]; rfl
  have N0 := Fr.nil n0
  have pre0 : ∀ t, Steps p.tables e below (s₁.setTop (mkF m 0 #[.val (.int p1), .val (.int p2), .val (.int p3), .unset, .unset, .unset, .unset, .unset, .unset, .unset] [])) t → Steps p.tables e below (s₁.setTop (entryFrame m #[(.int p1), (.int p2), (.int p3)] maxLocals)) t := fun t k => castTop (ef_0 m p1 p2 p3) k
  obtain ⟨_, _, ⟨T4, L4, k4, n4⟩, -, X4, ⟨Lc4, hQ4, l4, y4, z4⟩, st4⟩ := Jvm.LawKit.callS X0 hx (y := (⟨"java/lang/Math", "min", "(II)I"⟩ : MethodName)) hown (mvT hZ (hw _ (List.mem_of_getElem? (i := 1) rfl))) (mvT hZ (hw _ (List.mem_of_getElem? (i := 2) rfl))) (mvT hZ (hw _ (List.mem_of_getElem? (i := 3) rfl))) (mvT hZ (hw _ (List.mem_of_getElem? (i := 4) rfl))) (by decide) (backOf (W := 0) (rm1 l Z a0 hw [] (p1 &&& (2147483647 : Int32)) (p2 &&& (2147483647 : Int32)) h0 n0 Z0) hZ (hw _ (List.mem_of_getElem? (i := 4) rfl)) (hw _ (List.mem_of_getElem? (i := 3) rfl)) (by decide) (by decide)) (g := (mkF m 14 #[.val (.int p1), .val (.int p2), .val (.int p3), .val (.int (p1 &&& (2147483647 : Int32))), .val (.int (p2 &&& (2147483647 : Int32))), .unset, .unset, .unset, .unset, .unset] [(.int (p2 &&& (2147483647 : Int32))), (.int (p1 &&& (2147483647 : Int32)))])) rfl (by rw [hml]; rfl) (argsL := [(.int (p1 &&& (2147483647 : Int32))), (.int (p2 &&& (2147483647 : Int32)))]) (rest := []) (lenOf pd_0_0 rfl) rfl (by show 2 * 0 + _ ≤ _; exact Nat.le_of_eq rfl) (hb hby at_14) (fun _ _ => ⟨rfl, e0, (by decide : 0 + 0 ≤ _), (by decide : 0 + 0 ≤ _)⟩)
  dsimp only [Pt.U, Pt.locs, Pt.cells, Pt.slots] at X4 l4 y4 z4 st4 hQ4
  subst l4 y4 z4
  obtain ⟨rfl, N4q, hh4⟩ := hQ4
  have KK4 : Keep h0 T4.heap [] := by rw [hh4]; exact Keep.refl _ _
  have Z4 : n0 ≤ T4.heap.size := Nat.le_trans Z0 KK4.1      -- what it returned, that it wrote nothing old, and the rest of your Q1
  have N4 := Fr.app N0 N4q
  obtain ⟨_, _, ⟨T5, L5, k5, n5⟩, -, X5, ⟨Lc5, hQ5, l5, y5, z5⟩, st5⟩ := Jvm.LawKit.callS X4 hx (y := (⟨"java/lang/Math", "max", "(II)I"⟩ : MethodName)) hown (mvT hZ (hw _ (List.mem_of_getElem? (i := 5) rfl))) (mvT hZ (hw _ (List.mem_of_getElem? (i := 6) rfl))) (mvT hZ (hw _ (List.mem_of_getElem? (i := 3) rfl))) (mvT hZ (hw _ (List.mem_of_getElem? (i := 7) rfl))) (by decide) (backOf (W := 0) (rm2 l Z a0 hw [] (p1 &&& (2147483647 : Int32)) (p2 &&& (2147483647 : Int32)) T4.heap n0 Z4) hZ (hw _ (List.mem_of_getElem? (i := 7) rfl)) (hw _ (List.mem_of_getElem? (i := 3) rfl)) (by decide) (by decide)) (g := (mkF m 22 #[.val (.int p1), .val (.int p2), .val (.int p3), .val (.int (p1 &&& (2147483647 : Int32))), .val (.int (p2 &&& (2147483647 : Int32))), .val (.int (own_min (p1 &&& (2147483647 : Int32)) (p2 &&& (2147483647 : Int32)))), .unset, .unset, .unset, .unset] [(.int (p2 &&& (2147483647 : Int32))), (.int (p1 &&& (2147483647 : Int32)))])) rfl (by rw [hml]; rfl) (argsL := [(.int (p1 &&& (2147483647 : Int32))), (.int (p2 &&& (2147483647 : Int32)))]) (rest := []) (lenOf pd_0_0 rfl) rfl (by show 2 * 0 + _ ≤ _; exact Nat.le_of_eq rfl) (hb hby at_22) (fun _ _ => ⟨rfl, rfl, (by decide : 0 + 0 ≤ _), (by decide : 0 + 0 ≤ _)⟩)
  dsimp only [Pt.U, Pt.locs, Pt.cells, Pt.slots] at X5 l5 y5 z5 st5 hQ5
  subst l5 y5 z5
  obtain ⟨rfl, N5q, hh5⟩ := hQ5
  have KK5 : Keep T4.heap T5.heap [] := by rw [hh5]; exact Keep.refl _ _
  have KH5 : Keep h0 T5.heap [] := by rw [hh5, hh4]; exact Keep.refl _ _      -- what it returned, that it wrote nothing old, and the rest of your Q2
  have N5 := Fr.app N4 N5q
  obtain ⟨T6, h6, X6, e6, E6, A6, D6, -, st6⟩ := newO X5 hx hZ hown (hw _ (List.mem_of_getElem? (i := 8) rfl)) (hw _ (List.mem_of_getElem? (i := 9) rfl)) (hw _ (List.mem_of_getElem? (i := 10) rfl)) rfl (g := (mkF m 27 #[.val (.int p1), .val (.int p2), .val (.int p3), .val (.int (p1 &&& (2147483647 : Int32))), .val (.int (p2 &&& (2147483647 : Int32))), .val (.int (own_min (p1 &&& (2147483647 : Int32)) (p2 &&& (2147483647 : Int32)))), .val (.int (own_max (p1 &&& (2147483647 : Int32)) (p2 &&& (2147483647 : Int32)))), .unset, .unset, .unset] [])) rfl (hb hby at_27) (by decide) (by decide)
  obtain ⟨b6, g6⟩ : ∃ z, z = T5.heap.size := ⟨_, rfl⟩      -- the fresh object's address
  rw [← g6] at A6 D6 st6      -- A6 : Exa Z h6 b6 "com/example/rugged_consumer/ruggedconsumer/protocol/VersionRange"; E6 : Ext T5.heap h6 (carries every older fact: .ext E6)
  have F_min_b6 : Fld Z h6 b6 "com/example/rugged_consumer/ruggedconsumer/protocol/VersionRange" "min" "I" (.int (0 : Int32)) := D6 (Or.inr (hw _ (List.mem_of_getElem? (i := 23) rfl))) (ty := .int) (by decide)
  have F_max_b6 : Fld Z h6 b6 "com/example/rugged_consumer/ruggedconsumer/protocol/VersionRange" "max" "I" (.int (0 : Int32)) := D6 (Or.inr (hw _ (List.mem_of_getElem? (i := 25) rfl))) (ty := .int) (by decide)
  have E_b6 := A6
  have g_b6 : n0 ≤ b6 := Nat.le_trans (Nat.le_trans (Nat.le_trans Z0 KK4.1) KK5.1) (Nat.le_of_eq g6.symm)
  have sz_b6 : h0.size ≤ b6 := (Nat.le_trans KH5.1 (Nat.le_of_eq g6.symm))
  have K6 : Keep h0 h6 [] := KH5.ext E6
  obtain ⟨_, _, ⟨T7, L7, k7, n7⟩, -, X7, ⟨Lc7, hQ7, l7, y7, z7⟩, st7⟩ := X6.specialBack hx (y := (⟨"com/example/rugged_consumer/ruggedconsumer/protocol/VersionRange", "<init>", "(II)V"⟩ : MethodName)) rfl hown (mvT hZ (hw _ (List.mem_of_getElem? (i := 11) rfl))) (mvT hZ (hw _ (List.mem_of_getElem? (i := 12) rfl))) (mvT hZ (hw _ (List.mem_of_getElem? (i := 13) rfl))) (by decide) (backOf (W := 1) (rm3 l Z a0 hw [] b6 (own_min (p1 &&& (2147483647 : Int32)) (p2 &&& (2147483647 : Int32))) (own_max (p1 &&& (2147483647 : Int32)) (p2 &&& (2147483647 : Int32))) (.int (0 : Int32)) (.int (0 : Int32)) h6 n0 (Nat.le_trans Z0 K6.1) E_b6 F_min_b6 g_b6 F_max_b6 (own_lo0 (p1 &&& (2147483647 : Int32)) (p2 &&& (2147483647 : Int32)) (c_and p1 2147483647 (by decide)).1 (c_and p2 2147483647 (by decide)).1) (own_lohi (p1 &&& (2147483647 : Int32)) (p2 &&& (2147483647 : Int32)))) hZ (hw _ (List.mem_of_getElem? (i := 13) rfl)) (hw _ (List.mem_of_getElem? (i := 10) rfl)) (by decide) (by decide)) (g := (mkF m 35 #[.val (.int p1), .val (.int p2), .val (.int p3), .val (.int (p1 &&& (2147483647 : Int32))), .val (.int (p2 &&& (2147483647 : Int32))), .val (.int (own_min (p1 &&& (2147483647 : Int32)) (p2 &&& (2147483647 : Int32)))), .val (.int (own_max (p1 &&& (2147483647 : Int32)) (p2 &&& (2147483647 : Int32)))), .unset, .unset, .unset] [(.int (own_max (p1 &&& (2147483647 : Int32)) (p2 &&& (2147483647 : Int32)))), (.int (own_min (p1 &&& (2147483647 : Int32)) (p2 &&& (2147483647 : Int32)))), (.ref b6), (.ref b6)])) rfl (by rw [hml]; rfl) (Steps.refl _) (a := b6) (argsL := [(.int (own_min (p1 &&& (2147483647 : Int32)) (p2 &&& (2147483647 : Int32)))), (.int (own_max (p1 &&& (2147483647 : Int32)) (p2 &&& (2147483647 : Int32))))]) (rest := [(.ref b6)]) (lenOf pd_0_1 rfl) rfl (by show 2 * 0 + _ ≤ _; exact Nat.le_of_eq rfl) (hb hby at_35) (fun _ _ => ⟨rfl, e6, (by decide : 1 + 0 ≤ _), (by decide : 2 + 0 ≤ _)⟩)
  dsimp only [Pt.U, Pt.locs, Pt.cells, Pt.slots] at X7 l7 y7 z7 st7 hQ7
  subst l7 y7 z7
  obtain ⟨rfl, N7q, KK7, EE7, Fm7, Fx7⟩ := hQ7
  have Z7 : n0 ≤ T7.heap.size := Nat.le_trans (Nat.le_trans Z0 K6.1) KK7.1      -- what it returned, that it wrote nothing old, and the rest of your Q3
  have N7 := Fr.app N5 N7q
  obtain ⟨_, _, ⟨T8, L8, k8, n8⟩, -, X8, ⟨Lc8, hQ8, l8, y8, z8⟩, st8⟩ := Jvm.LawKit.callS X7 hx (y := (⟨"java/lang/Math", "min", "(II)I"⟩ : MethodName)) hown (mvT hZ (hw _ (List.mem_of_getElem? (i := 1) rfl))) (mvT hZ (hw _ (List.mem_of_getElem? (i := 2) rfl))) (mvT hZ (hw _ (List.mem_of_getElem? (i := 3) rfl))) (mvT hZ (hw _ (List.mem_of_getElem? (i := 4) rfl))) (by decide) (backOf (W := 1) (rm1 l Z a0 hw [] p3 (own_max (p1 &&& (2147483647 : Int32)) (p2 &&& (2147483647 : Int32))) T7.heap n0 Z7) hZ (hw _ (List.mem_of_getElem? (i := 4) rfl)) (hw _ (List.mem_of_getElem? (i := 3) rfl)) (by decide) (by decide)) (g := (mkF m 45 #[.val (.int p1), .val (.int p2), .val (.int p3), .val (.int (p1 &&& (2147483647 : Int32))), .val (.int (p2 &&& (2147483647 : Int32))), .val (.int (own_min (p1 &&& (2147483647 : Int32)) (p2 &&& (2147483647 : Int32)))), .val (.int (own_max (p1 &&& (2147483647 : Int32)) (p2 &&& (2147483647 : Int32)))), .val (.ref b6), .unset, .unset] [(.int (own_max (p1 &&& (2147483647 : Int32)) (p2 &&& (2147483647 : Int32)))), (.int p3), (.int (own_min (p1 &&& (2147483647 : Int32)) (p2 &&& (2147483647 : Int32))))])) rfl (by rw [hml]; rfl) (argsL := [(.int p3), (.int (own_max (p1 &&& (2147483647 : Int32)) (p2 &&& (2147483647 : Int32))))]) (rest := [(.int (own_min (p1 &&& (2147483647 : Int32)) (p2 &&& (2147483647 : Int32))))]) (lenOf pd_0_0 rfl) rfl (by show 2 * 0 + _ ≤ _; exact Nat.le_of_eq rfl) (hb hby at_45) (fun _ _ => ⟨rfl, rfl, (by decide : 1 + 0 ≤ _), (by decide : 2 + 0 ≤ _)⟩)
  dsimp only [Pt.U, Pt.locs, Pt.cells, Pt.slots] at X8 l8 y8 z8 st8 hQ8
  subst l8 y8 z8
  obtain ⟨rfl, N8q, hh8⟩ := hQ8
  have KK8 : Keep T7.heap T8.heap [] := by rw [hh8]; exact Keep.refl _ _
  have Z8 : n0 ≤ T8.heap.size := Nat.le_trans Z7 KK8.1
  have Fm8 := Fm7.keep KK8 List.not_mem_nil
  have Fx8 := Fx7.keep KK8 List.not_mem_nil      -- what it returned, that it wrote nothing old, and the rest of your Q1
  have N8 := Fr.app N7 N8q
  obtain ⟨_, _, ⟨T9, L9, k9, n9⟩, -, X9, ⟨Lc9, hQ9, l9, y9, z9⟩, st9⟩ := Jvm.LawKit.callS X8 hx (y := (⟨"java/lang/Math", "max", "(II)I"⟩ : MethodName)) hown (mvT hZ (hw _ (List.mem_of_getElem? (i := 5) rfl))) (mvT hZ (hw _ (List.mem_of_getElem? (i := 6) rfl))) (mvT hZ (hw _ (List.mem_of_getElem? (i := 3) rfl))) (mvT hZ (hw _ (List.mem_of_getElem? (i := 7) rfl))) (by decide) (backOf (W := 0) (rm2 l Z a0 hw [] (own_min (p1 &&& (2147483647 : Int32)) (p2 &&& (2147483647 : Int32))) (own_min p3 (own_max (p1 &&& (2147483647 : Int32)) (p2 &&& (2147483647 : Int32)))) T8.heap n0 Z8) hZ (hw _ (List.mem_of_getElem? (i := 7) rfl)) (hw _ (List.mem_of_getElem? (i := 3) rfl)) (by decide) (by decide)) (g := (mkF m 48 #[.val (.int p1), .val (.int p2), .val (.int p3), .val (.int (p1 &&& (2147483647 : Int32))), .val (.int (p2 &&& (2147483647 : Int32))), .val (.int (own_min (p1 &&& (2147483647 : Int32)) (p2 &&& (2147483647 : Int32)))), .val (.int (own_max (p1 &&& (2147483647 : Int32)) (p2 &&& (2147483647 : Int32)))), .val (.ref b6), .unset, .unset] [(.int (own_min p3 (own_max (p1 &&& (2147483647 : Int32)) (p2 &&& (2147483647 : Int32))))), (.int (own_min (p1 &&& (2147483647 : Int32)) (p2 &&& (2147483647 : Int32))))])) rfl (by rw [hml]; rfl) (argsL := [(.int (own_min (p1 &&& (2147483647 : Int32)) (p2 &&& (2147483647 : Int32)))), (.int (own_min p3 (own_max (p1 &&& (2147483647 : Int32)) (p2 &&& (2147483647 : Int32)))))]) (rest := []) (lenOf pd_0_0 rfl) rfl (by show 2 * 0 + _ ≤ _; exact Nat.le_of_eq rfl) (hb hby at_48) (fun _ _ => ⟨rfl, rfl, (by decide : 1 + 0 ≤ _), (by decide : 2 + 0 ≤ _)⟩)
  dsimp only [Pt.U, Pt.locs, Pt.cells, Pt.slots] at X9 l9 y9 z9 st9 hQ9
  subst l9 y9 z9
  obtain ⟨rfl, N9q, hh9⟩ := hQ9
  have KK9 : Keep T8.heap T9.heap [] := by rw [hh9]; exact Keep.refl _ _
  have Z9 : n0 ≤ T9.heap.size := Nat.le_trans Z8 KK9.1
  have Fm9 := Fm8.keep KK9 List.not_mem_nil
  have Fx9 := Fx8.keep KK9 List.not_mem_nil      -- what it returned, that it wrote nothing old, and the rest of your Q2
  have N9 := Fr.app N8 N9q
  obtain ⟨cq10, kq10, q10a, q10b, q10c⟩ := isOf hZ rfl ((EE7.keep KK8).keep KK9)
  obtain ⟨_, _, ⟨T10, L10, k10, n10⟩, -, X10, ⟨Lc10, hQ10, l10, y10, z10⟩, st10⟩ := X9.virtualBack hx (y := (⟨"com/example/rugged_consumer/ruggedconsumer/protocol/VersionRange", "contains", "(I)Z"⟩ : MethodName)) (z := (⟨"com/example/rugged_consumer/ruggedconsumer/protocol/VersionRange", "contains", "(I)Z"⟩ : MethodName)) hown (mvT hZ (hw _ (List.mem_of_getElem? (i := 26) rfl))) (mvT hZ (hw _ (List.mem_of_getElem? (i := 27) rfl))) (notFace_of_selects (args := #[]) (mvT hZ (hw _ (List.mem_of_getElem? (i := 29) rfl)))) (mvT hZ (hw _ (List.mem_of_getElem? (i := 29) rfl))) (mvT hZ (hw _ (List.mem_of_getElem? (i := 28) rfl))) (by decide) (backOf (W := 0) (rm6 l Z a0 hw [] b6 p3 (own_min (p1 &&& (2147483647 : Int32)) (p2 &&& (2147483647 : Int32))) (own_max (p1 &&& (2147483647 : Int32)) (p2 &&& (2147483647 : Int32))) T9.heap n0 Z9 Fm9 Fx9) hZ (hw _ (List.mem_of_getElem? (i := 30) rfl)) (hw _ (List.mem_of_getElem? (i := 10) rfl)) (by decide) (by decide)) q10a q10c (g := (mkF m 69 #[.val (.int p1), .val (.int p2), .val (.int p3), .val (.int (p1 &&& (2147483647 : Int32))), .val (.int (p2 &&& (2147483647 : Int32))), .val (.int (own_min (p1 &&& (2147483647 : Int32)) (p2 &&& (2147483647 : Int32)))), .val (.int (own_max (p1 &&& (2147483647 : Int32)) (p2 &&& (2147483647 : Int32)))), .val (.ref b6), .val (.int (own_max (own_min (p1 &&& (2147483647 : Int32)) (p2 &&& (2147483647 : Int32))) (own_min p3 (own_max (p1 &&& (2147483647 : Int32)) (p2 &&& (2147483647 : Int32)))))), .val (.int (1 : Int32))] [(.int p3), (.ref b6)])) rfl (by rw [hml]; rfl) (Steps.refl _) (argsL := [(.int p3)]) (rest := []) (lenOf pd_0_3 rfl) rfl (by show 2 * 0 + _ ≤ _; exact Nat.le_of_eq rfl) (hb hby at_69) (fun _ _ => ⟨rfl, rfl, (by decide : 1 + 0 ≤ _), (by decide : 2 + 0 ≤ _)⟩)
  dsimp only [Pt.U, Pt.locs, Pt.cells, Pt.slots] at X10 l10 y10 z10 st10 hQ10
  subst l10 y10 z10
  obtain ⟨rfl, N10q, hh10⟩ := hQ10
  have KK10 : Keep T9.heap T10.heap [] := by rw [hh10]; exact Keep.refl _ _
  have Z10 : n0 ≤ T10.heap.size := Nat.le_trans Z9 KK10.1
  have Fm10 := Fm9.keep KK10 List.not_mem_nil
  have Fx10 := Fx9.keep KK10 List.not_mem_nil      -- what it returned, that it wrote nothing old, and the rest of your Q6
  have N10 := Fr.app N9 N10q
  obtain ⟨cq11, kq11, q11a, q11b, q11c⟩ := isOf hZ rfl (((EE7.keep KK8).keep KK9).keep KK10)
  obtain ⟨_, _, ⟨T11, L11, k11, n11⟩, -, X11, ⟨Lc11, hQ11, l11, y11, z11⟩, st11⟩ := X10.virtualBack hx (y := (⟨"com/example/rugged_consumer/ruggedconsumer/protocol/VersionRange", "contains", "(I)Z"⟩ : MethodName)) (z := (⟨"com/example/rugged_consumer/ruggedconsumer/protocol/VersionRange", "contains", "(I)Z"⟩ : MethodName)) hown (mvT hZ (hw _ (List.mem_of_getElem? (i := 26) rfl))) (mvT hZ (hw _ (List.mem_of_getElem? (i := 27) rfl))) (notFace_of_selects (args := #[]) (mvT hZ (hw _ (List.mem_of_getElem? (i := 29) rfl)))) (mvT hZ (hw _ (List.mem_of_getElem? (i := 29) rfl))) (mvT hZ (hw _ (List.mem_of_getElem? (i := 28) rfl))) (by decide) (backOf (W := 0) (rm6 l Z a0 hw [] b6 (own_min (p1 &&& (2147483647 : Int32)) (p2 &&& (2147483647 : Int32))) (own_min (p1 &&& (2147483647 : Int32)) (p2 &&& (2147483647 : Int32))) (own_max (p1 &&& (2147483647 : Int32)) (p2 &&& (2147483647 : Int32))) T10.heap n0 Z10 Fm10 Fx10) hZ (hw _ (List.mem_of_getElem? (i := 30) rfl)) (hw _ (List.mem_of_getElem? (i := 10) rfl)) (by decide) (by decide)) q11a q11c (g := (mkF m 83 #[.val (.int p1), .val (.int p2), .val (.int p3), .val (.int (p1 &&& (2147483647 : Int32))), .val (.int (p2 &&& (2147483647 : Int32))), .val (.int (own_min (p1 &&& (2147483647 : Int32)) (p2 &&& (2147483647 : Int32)))), .val (.int (own_max (p1 &&& (2147483647 : Int32)) (p2 &&& (2147483647 : Int32)))), .val (.ref b6), .val (.int (own_max (own_min (p1 &&& (2147483647 : Int32)) (p2 &&& (2147483647 : Int32))) (own_min p3 (own_max (p1 &&& (2147483647 : Int32)) (p2 &&& (2147483647 : Int32)))))), .val (.int (1 : Int32))] [(.int (own_min (p1 &&& (2147483647 : Int32)) (p2 &&& (2147483647 : Int32)))), (.ref b6)])) rfl (by rw [hml]; rfl) (Steps.refl _) (argsL := [(.int (own_min (p1 &&& (2147483647 : Int32)) (p2 &&& (2147483647 : Int32))))]) (rest := []) (lenOf pd_0_3 rfl) rfl (by show 2 * 0 + _ ≤ _; exact Nat.le_of_eq rfl) (hb hby at_83) (fun _ _ => ⟨rfl, rfl, (by decide : 1 + 0 ≤ _), (by decide : 2 + 0 ≤ _)⟩)
  dsimp only [Pt.U, Pt.locs, Pt.cells, Pt.slots] at X11 l11 y11 z11 st11 hQ11
  subst l11 y11 z11
  obtain ⟨rfl, N11q, hh11⟩ := hQ11
  have KK11 : Keep T10.heap T11.heap [] := by rw [hh11]; exact Keep.refl _ _
  have Z11 : n0 ≤ T11.heap.size := Nat.le_trans Z10 KK11.1
  have Fm11 := Fm10.keep KK11 List.not_mem_nil
  have Fx11 := Fx10.keep KK11 List.not_mem_nil      -- what it returned, that it wrote nothing old, and the rest of your Q6
  have N11 := Fr.app N10 N11q
  obtain ⟨cq12, kq12, q12a, q12b, q12c⟩ := isOf hZ rfl ((((EE7.keep KK8).keep KK9).keep KK10).keep KK11)
  obtain ⟨_, _, ⟨T12, L12, k12, n12⟩, -, X12, ⟨Lc12, hQ12, l12, y12, z12⟩, st12⟩ := X11.virtualBack hx (y := (⟨"com/example/rugged_consumer/ruggedconsumer/protocol/VersionRange", "contains", "(I)Z"⟩ : MethodName)) (z := (⟨"com/example/rugged_consumer/ruggedconsumer/protocol/VersionRange", "contains", "(I)Z"⟩ : MethodName)) hown (mvT hZ (hw _ (List.mem_of_getElem? (i := 26) rfl))) (mvT hZ (hw _ (List.mem_of_getElem? (i := 27) rfl))) (notFace_of_selects (args := #[]) (mvT hZ (hw _ (List.mem_of_getElem? (i := 29) rfl)))) (mvT hZ (hw _ (List.mem_of_getElem? (i := 29) rfl))) (mvT hZ (hw _ (List.mem_of_getElem? (i := 28) rfl))) (by decide) (backOf (W := 0) (rm6 l Z a0 hw [] b6 (own_max (p1 &&& (2147483647 : Int32)) (p2 &&& (2147483647 : Int32))) (own_min (p1 &&& (2147483647 : Int32)) (p2 &&& (2147483647 : Int32))) (own_max (p1 &&& (2147483647 : Int32)) (p2 &&& (2147483647 : Int32))) T11.heap n0 Z11 Fm11 Fx11) hZ (hw _ (List.mem_of_getElem? (i := 30) rfl)) (hw _ (List.mem_of_getElem? (i := 10) rfl)) (by decide) (by decide)) q12a q12c (g := (mkF m 95 #[.val (.int p1), .val (.int p2), .val (.int p3), .val (.int (p1 &&& (2147483647 : Int32))), .val (.int (p2 &&& (2147483647 : Int32))), .val (.int (own_min (p1 &&& (2147483647 : Int32)) (p2 &&& (2147483647 : Int32)))), .val (.int (own_max (p1 &&& (2147483647 : Int32)) (p2 &&& (2147483647 : Int32)))), .val (.ref b6), .val (.int (own_max (own_min (p1 &&& (2147483647 : Int32)) (p2 &&& (2147483647 : Int32))) (own_min p3 (own_max (p1 &&& (2147483647 : Int32)) (p2 &&& (2147483647 : Int32)))))), .val (.int (1 : Int32))] [(.int (own_max (p1 &&& (2147483647 : Int32)) (p2 &&& (2147483647 : Int32)))), (.ref b6)])) rfl (by rw [hml]; rfl) (Steps.refl _) (argsL := [(.int (own_max (p1 &&& (2147483647 : Int32)) (p2 &&& (2147483647 : Int32))))]) (rest := []) (lenOf pd_0_3 rfl) rfl (by show 2 * 0 + _ ≤ _; exact Nat.le_of_eq rfl) (hb hby at_95) (fun _ _ => ⟨rfl, rfl, (by decide : 1 + 0 ≤ _), (by decide : 2 + 0 ≤ _)⟩)
  dsimp only [Pt.U, Pt.locs, Pt.cells, Pt.slots] at X12 l12 y12 z12 st12 hQ12
  subst l12 y12 z12
  obtain ⟨rfl, N12q, hh12⟩ := hQ12
  have KK12 : Keep T11.heap T12.heap [] := by rw [hh12]; exact Keep.refl _ _
  have Z12 : n0 ≤ T12.heap.size := Nat.le_trans Z11 KK12.1
  have Fm12 := Fm11.keep KK12 List.not_mem_nil
  have Fx12 := Fx11.keep KK12 List.not_mem_nil      -- what it returned, that it wrote nothing old, and the rest of your Q6
  have N12 := Fr.app N11 N12q
  obtain ⟨cq13, kq13, q13a, q13b, q13c⟩ := isOf hZ rfl (((((EE7.keep KK8).keep KK9).keep KK10).keep KK11).keep KK12)
  obtain ⟨_, _, ⟨T13, L13, k13, n13⟩, -, X13, ⟨Lc13, hQ13, l13, y13, z13⟩, st13⟩ := X12.virtualBack hx (y := (⟨"com/example/rugged_consumer/ruggedconsumer/protocol/VersionRange", "contains", "(I)Z"⟩ : MethodName)) (z := (⟨"com/example/rugged_consumer/ruggedconsumer/protocol/VersionRange", "contains", "(I)Z"⟩ : MethodName)) hown (mvT hZ (hw _ (List.mem_of_getElem? (i := 26) rfl))) (mvT hZ (hw _ (List.mem_of_getElem? (i := 27) rfl))) (notFace_of_selects (args := #[]) (mvT hZ (hw _ (List.mem_of_getElem? (i := 29) rfl)))) (mvT hZ (hw _ (List.mem_of_getElem? (i := 29) rfl))) (mvT hZ (hw _ (List.mem_of_getElem? (i := 28) rfl))) (by decide) (backOf (W := 0) (rm6 l Z a0 hw [] b6 ((own_min (p1 &&& (2147483647 : Int32)) (p2 &&& (2147483647 : Int32))) - (1 : Int32)) (own_min (p1 &&& (2147483647 : Int32)) (p2 &&& (2147483647 : Int32))) (own_max (p1 &&& (2147483647 : Int32)) (p2 &&& (2147483647 : Int32))) T12.heap n0 Z12 Fm12 Fx12) hZ (hw _ (List.mem_of_getElem? (i := 30) rfl)) (hw _ (List.mem_of_getElem? (i := 10) rfl)) (by decide) (by decide)) q13a q13c (g := (mkF m 109 #[.val (.int p1), .val (.int p2), .val (.int p3), .val (.int (p1 &&& (2147483647 : Int32))), .val (.int (p2 &&& (2147483647 : Int32))), .val (.int (own_min (p1 &&& (2147483647 : Int32)) (p2 &&& (2147483647 : Int32)))), .val (.int (own_max (p1 &&& (2147483647 : Int32)) (p2 &&& (2147483647 : Int32)))), .val (.ref b6), .val (.int (own_max (own_min (p1 &&& (2147483647 : Int32)) (p2 &&& (2147483647 : Int32))) (own_min p3 (own_max (p1 &&& (2147483647 : Int32)) (p2 &&& (2147483647 : Int32)))))), .val (.int (1 : Int32))] [(.int ((own_min (p1 &&& (2147483647 : Int32)) (p2 &&& (2147483647 : Int32))) - (1 : Int32))), (.ref b6)])) rfl (by rw [hml]; rfl) (Steps.refl _) (argsL := [(.int ((own_min (p1 &&& (2147483647 : Int32)) (p2 &&& (2147483647 : Int32))) - (1 : Int32)))]) (rest := []) (lenOf pd_0_3 rfl) rfl (by show 2 * 0 + _ ≤ _; exact Nat.le_of_eq rfl) (hb hby at_109) (fun _ _ => ⟨rfl, rfl, (by decide : 1 + 0 ≤ _), (by decide : 2 + 0 ≤ _)⟩)
  dsimp only [Pt.U, Pt.locs, Pt.cells, Pt.slots] at X13 l13 y13 z13 st13 hQ13
  subst l13 y13 z13
  obtain ⟨rfl, N13q, hh13⟩ := hQ13
  have KK13 : Keep T12.heap T13.heap [] := by rw [hh13]; exact Keep.refl _ _
  have Z13 : n0 ≤ T13.heap.size := Nat.le_trans Z12 KK13.1
  have Fm13 := Fm12.keep KK13 List.not_mem_nil
  have Fx13 := Fx12.keep KK13 List.not_mem_nil      -- what it returned, that it wrote nothing old, and the rest of your Q6
  have N13 := Fr.app N12 N13q
  obtain ⟨fs, hr, hrun, hended, hW, hsame⟩ := X13.leave (v := some (.int (1 : Int32))) (fun h => by rw [Bd.returns] at h; cases h)
  refine ⟨_, _, pre0 _ ?_, hrun, hended, _, _, rfl, ?_, ⟨_, rfl⟩, hW, hsame.mono (by decide) (by decide)⟩
  · show Steps p.tables e below (s₁.setTop (mkF m 0 #[.val (.int p1), .val (.int p2), .val (.int p3), .unset, .unset, .unset, .unset, .unset, .unset, .unset] [])) _
    refine XS.iloadN X0.here hx rfl (hb hby at_0) rfl ?_
    show Steps p.tables e below (s₁.setTop (mkF m 1 #[.val (.int p1), .val (.int p2), .val (.int p3), .unset, .unset, .unset, .unset, .unset, .unset, .unset] [(.int p1)])) _
    refine X0.ldcInt hx hown (mvT hZ (hw _ (List.mem_of_getElem? (i := 0) rfl))) (g := (mkF m 1 #[.val (.int p1), .val (.int p2), .val (.int p3), .unset, .unset, .unset, .unset, .unset, .unset, .unset] [(.int p1)])) rfl (hb hby at_1) _ ?_
    show Steps p.tables e below (s₁.setTop (mkF m 3 #[.val (.int p1), .val (.int p2), .val (.int p3), .unset, .unset, .unset, .unset, .unset, .unset, .unset] [(.int (2147483647 : Int32)), (.int p1)])) _
    refine XS.iand X0.here hx rfl (hb hby at_3) rfl ?_
    show Steps p.tables e below (s₁.setTop (mkF m 4 #[.val (.int p1), .val (.int p2), .val (.int p3), .unset, .unset, .unset, .unset, .unset, .unset, .unset] [(.int (p1 &&& (2147483647 : Int32)))])) _
    refine XS.istoreN X0.here hx rfl (hb hby at_4) rfl (l' := #[.val (.int p1), .val (.int p2), .val (.int p3), .val (.int (p1 &&& (2147483647 : Int32))), .unset, .unset, .unset, .unset, .unset, .unset]) rfl ?_
    show Steps p.tables e below (s₁.setTop (mkF m 5 #[.val (.int p1), .val (.int p2), .val (.int p3), .val (.int (p1 &&& (2147483647 : Int32))), .unset, .unset, .unset, .unset, .unset, .unset] [])) _
    refine XS.iloadN X0.here hx rfl (hb hby at_5) rfl ?_
    show Steps p.tables e below (s₁.setTop (mkF m 6 #[.val (.int p1), .val (.int p2), .val (.int p3), .val (.int (p1 &&& (2147483647 : Int32))), .unset, .unset, .unset, .unset, .unset, .unset] [(.int p2)])) _
    refine X0.ldcInt hx hown (mvT hZ (hw _ (List.mem_of_getElem? (i := 0) rfl))) (g := (mkF m 6 #[.val (.int p1), .val (.int p2), .val (.int p3), .val (.int (p1 &&& (2147483647 : Int32))), .unset, .unset, .unset, .unset, .unset, .unset] [(.int p2)])) rfl (hb hby at_6) _ ?_
    show Steps p.tables e below (s₁.setTop (mkF m 8 #[.val (.int p1), .val (.int p2), .val (.int p3), .val (.int (p1 &&& (2147483647 : Int32))), .unset, .unset, .unset, .unset, .unset, .unset] [(.int (2147483647 : Int32)), (.int p2)])) _
    refine XS.iand X0.here hx rfl (hb hby at_8) rfl ?_
    show Steps p.tables e below (s₁.setTop (mkF m 9 #[.val (.int p1), .val (.int p2), .val (.int p3), .val (.int (p1 &&& (2147483647 : Int32))), .unset, .unset, .unset, .unset, .unset, .unset] [(.int (p2 &&& (2147483647 : Int32)))])) _
    refine XS.istore X0.here hx rfl (hb hby at_9) rfl (l' := #[.val (.int p1), .val (.int p2), .val (.int p3), .val (.int (p1 &&& (2147483647 : Int32))), .val (.int (p2 &&& (2147483647 : Int32))), .unset, .unset, .unset, .unset, .unset]) rfl ?_
    show Steps p.tables e below (s₁.setTop (mkF m 11 #[.val (.int p1), .val (.int p2), .val (.int p3), .val (.int (p1 &&& (2147483647 : Int32))), .val (.int (p2 &&& (2147483647 : Int32))), .unset, .unset, .unset, .unset, .unset] [])) _
    refine XS.iloadN X0.here hx rfl (hb hby at_11) rfl ?_
    show Steps p.tables e below (s₁.setTop (mkF m 12 #[.val (.int p1), .val (.int p2), .val (.int p3), .val (.int (p1 &&& (2147483647 : Int32))), .val (.int (p2 &&& (2147483647 : Int32))), .unset, .unset, .unset, .unset, .unset] [(.int (p1 &&& (2147483647 : Int32)))])) _
    refine XS.iload X0.here hx rfl (hb hby at_12) rfl ?_
    show Steps p.tables e below (s₁.setTop (mkF m 14 #[.val (.int p1), .val (.int p2), .val (.int p3), .val (.int (p1 &&& (2147483647 : Int32))), .val (.int (p2 &&& (2147483647 : Int32))), .unset, .unset, .unset, .unset, .unset] [(.int (p2 &&& (2147483647 : Int32))), (.int (p1 &&& (2147483647 : Int32)))])) _
    refine st4 _ ?_
    show Steps p.tables e below (T4.setTop (mkF m 17 #[.val (.int p1), .val (.int p2), .val (.int p3), .val (.int (p1 &&& (2147483647 : Int32))), .val (.int (p2 &&& (2147483647 : Int32))), .unset, .unset, .unset, .unset, .unset] [(.int (own_min (p1 &&& (2147483647 : Int32)) (p2 &&& (2147483647 : Int32))))])) _
    refine XS.istore X4.here hx rfl (hb hby at_17) rfl (l' := #[.val (.int p1), .val (.int p2), .val (.int p3), .val (.int (p1 &&& (2147483647 : Int32))), .val (.int (p2 &&& (2147483647 : Int32))), .val (.int (own_min (p1 &&& (2147483647 : Int32)) (p2 &&& (2147483647 : Int32)))), .unset, .unset, .unset, .unset]) rfl ?_
    show Steps p.tables e below (T4.setTop (mkF m 19 #[.val (.int p1), .val (.int p2), .val (.int p3), .val (.int (p1 &&& (2147483647 : Int32))), .val (.int (p2 &&& (2147483647 : Int32))), .val (.int (own_min (p1 &&& (2147483647 : Int32)) (p2 &&& (2147483647 : Int32)))), .unset, .unset, .unset, .unset] [])) _
    refine XS.iloadN X4.here hx rfl (hb hby at_19) rfl ?_
    show Steps p.tables e below (T4.setTop (mkF m 20 #[.val (.int p1), .val (.int p2), .val (.int p3), .val (.int (p1 &&& (2147483647 : Int32))), .val (.int (p2 &&& (2147483647 : Int32))), .val (.int (own_min (p1 &&& (2147483647 : Int32)) (p2 &&& (2147483647 : Int32)))), .unset, .unset, .unset, .unset] [(.int (p1 &&& (2147483647 : Int32)))])) _
    refine XS.iload X4.here hx rfl (hb hby at_20) rfl ?_
    show Steps p.tables e below (T4.setTop (mkF m 22 #[.val (.int p1), .val (.int p2), .val (.int p3), .val (.int (p1 &&& (2147483647 : Int32))), .val (.int (p2 &&& (2147483647 : Int32))), .val (.int (own_min (p1 &&& (2147483647 : Int32)) (p2 &&& (2147483647 : Int32)))), .unset, .unset, .unset, .unset] [(.int (p2 &&& (2147483647 : Int32))), (.int (p1 &&& (2147483647 : Int32)))])) _
    refine st5 _ ?_
    show Steps p.tables e below (T5.setTop (mkF m 25 #[.val (.int p1), .val (.int p2), .val (.int p3), .val (.int (p1 &&& (2147483647 : Int32))), .val (.int (p2 &&& (2147483647 : Int32))), .val (.int (own_min (p1 &&& (2147483647 : Int32)) (p2 &&& (2147483647 : Int32)))), .unset, .unset, .unset, .unset] [(.int (own_max (p1 &&& (2147483647 : Int32)) (p2 &&& (2147483647 : Int32))))])) _
    refine XS.istore X5.here hx rfl (hb hby at_25) rfl (l' := #[.val (.int p1), .val (.int p2), .val (.int p3), .val (.int (p1 &&& (2147483647 : Int32))), .val (.int (p2 &&& (2147483647 : Int32))), .val (.int (own_min (p1 &&& (2147483647 : Int32)) (p2 &&& (2147483647 : Int32)))), .val (.int (own_max (p1 &&& (2147483647 : Int32)) (p2 &&& (2147483647 : Int32)))), .unset, .unset, .unset]) rfl ?_
    show Steps p.tables e below (T5.setTop (mkF m 27 #[.val (.int p1), .val (.int p2), .val (.int p3), .val (.int (p1 &&& (2147483647 : Int32))), .val (.int (p2 &&& (2147483647 : Int32))), .val (.int (own_min (p1 &&& (2147483647 : Int32)) (p2 &&& (2147483647 : Int32)))), .val (.int (own_max (p1 &&& (2147483647 : Int32)) (p2 &&& (2147483647 : Int32)))), .unset, .unset, .unset] [])) _
    refine st6 _ ?_
    show Steps p.tables e below (T6.setTop (mkF m 30 #[.val (.int p1), .val (.int p2), .val (.int p3), .val (.int (p1 &&& (2147483647 : Int32))), .val (.int (p2 &&& (2147483647 : Int32))), .val (.int (own_min (p1 &&& (2147483647 : Int32)) (p2 &&& (2147483647 : Int32)))), .val (.int (own_max (p1 &&& (2147483647 : Int32)) (p2 &&& (2147483647 : Int32)))), .unset, .unset, .unset] [(.ref b6)])) _
    refine XS.dup X6.here hx rfl (hb hby at_30) rfl rfl ?_
    show Steps p.tables e below (T6.setTop (mkF m 31 #[.val (.int p1), .val (.int p2), .val (.int p3), .val (.int (p1 &&& (2147483647 : Int32))), .val (.int (p2 &&& (2147483647 : Int32))), .val (.int (own_min (p1 &&& (2147483647 : Int32)) (p2 &&& (2147483647 : Int32)))), .val (.int (own_max (p1 &&& (2147483647 : Int32)) (p2 &&& (2147483647 : Int32)))), .unset, .unset, .unset] [(.ref b6), (.ref b6)])) _
    refine XS.iload X6.here hx rfl (hb hby at_31) rfl ?_
    show Steps p.tables e below (T6.setTop (mkF m 33 #[.val (.int p1), .val (.int p2), .val (.int p3), .val (.int (p1 &&& (2147483647 : Int32))), .val (.int (p2 &&& (2147483647 : Int32))), .val (.int (own_min (p1 &&& (2147483647 : Int32)) (p2 &&& (2147483647 : Int32)))), .val (.int (own_max (p1 &&& (2147483647 : Int32)) (p2 &&& (2147483647 : Int32)))), .unset, .unset, .unset] [(.int (own_min (p1 &&& (2147483647 : Int32)) (p2 &&& (2147483647 : Int32)))), (.ref b6), (.ref b6)])) _
    refine XS.iload X6.here hx rfl (hb hby at_33) rfl ?_
    show Steps p.tables e below (T6.setTop (mkF m 35 #[.val (.int p1), .val (.int p2), .val (.int p3), .val (.int (p1 &&& (2147483647 : Int32))), .val (.int (p2 &&& (2147483647 : Int32))), .val (.int (own_min (p1 &&& (2147483647 : Int32)) (p2 &&& (2147483647 : Int32)))), .val (.int (own_max (p1 &&& (2147483647 : Int32)) (p2 &&& (2147483647 : Int32)))), .unset, .unset, .unset] [(.int (own_max (p1 &&& (2147483647 : Int32)) (p2 &&& (2147483647 : Int32)))), (.int (own_min (p1 &&& (2147483647 : Int32)) (p2 &&& (2147483647 : Int32)))), (.ref b6), (.ref b6)])) _
    refine st7.trans ?_
    show Steps p.tables e below (T7.setTop (mkF m 38 #[.val (.int p1), .val (.int p2), .val (.int p3), .val (.int (p1 &&& (2147483647 : Int32))), .val (.int (p2 &&& (2147483647 : Int32))), .val (.int (own_min (p1 &&& (2147483647 : Int32)) (p2 &&& (2147483647 : Int32)))), .val (.int (own_max (p1 &&& (2147483647 : Int32)) (p2 &&& (2147483647 : Int32)))), .unset, .unset, .unset] [(.ref b6)])) _
    refine XS.astore X7.here hx rfl (hb hby at_38) rfl rfl (l' := #[.val (.int p1), .val (.int p2), .val (.int p3), .val (.int (p1 &&& (2147483647 : Int32))), .val (.int (p2 &&& (2147483647 : Int32))), .val (.int (own_min (p1 &&& (2147483647 : Int32)) (p2 &&& (2147483647 : Int32)))), .val (.int (own_max (p1 &&& (2147483647 : Int32)) (p2 &&& (2147483647 : Int32)))), .val (.ref b6), .unset, .unset]) rfl ?_
    show Steps p.tables e below (T7.setTop (mkF m 40 #[.val (.int p1), .val (.int p2), .val (.int p3), .val (.int (p1 &&& (2147483647 : Int32))), .val (.int (p2 &&& (2147483647 : Int32))), .val (.int (own_min (p1 &&& (2147483647 : Int32)) (p2 &&& (2147483647 : Int32)))), .val (.int (own_max (p1 &&& (2147483647 : Int32)) (p2 &&& (2147483647 : Int32)))), .val (.ref b6), .unset, .unset] [])) _
    refine XS.iload X7.here hx rfl (hb hby at_40) rfl ?_
    show Steps p.tables e below (T7.setTop (mkF m 42 #[.val (.int p1), .val (.int p2), .val (.int p3), .val (.int (p1 &&& (2147483647 : Int32))), .val (.int (p2 &&& (2147483647 : Int32))), .val (.int (own_min (p1 &&& (2147483647 : Int32)) (p2 &&& (2147483647 : Int32)))), .val (.int (own_max (p1 &&& (2147483647 : Int32)) (p2 &&& (2147483647 : Int32)))), .val (.ref b6), .unset, .unset] [(.int (own_min (p1 &&& (2147483647 : Int32)) (p2 &&& (2147483647 : Int32))))])) _
    refine XS.iloadN X7.here hx rfl (hb hby at_42) rfl ?_
    show Steps p.tables e below (T7.setTop (mkF m 43 #[.val (.int p1), .val (.int p2), .val (.int p3), .val (.int (p1 &&& (2147483647 : Int32))), .val (.int (p2 &&& (2147483647 : Int32))), .val (.int (own_min (p1 &&& (2147483647 : Int32)) (p2 &&& (2147483647 : Int32)))), .val (.int (own_max (p1 &&& (2147483647 : Int32)) (p2 &&& (2147483647 : Int32)))), .val (.ref b6), .unset, .unset] [(.int p3), (.int (own_min (p1 &&& (2147483647 : Int32)) (p2 &&& (2147483647 : Int32))))])) _
    refine XS.iload X7.here hx rfl (hb hby at_43) rfl ?_
    show Steps p.tables e below (T7.setTop (mkF m 45 #[.val (.int p1), .val (.int p2), .val (.int p3), .val (.int (p1 &&& (2147483647 : Int32))), .val (.int (p2 &&& (2147483647 : Int32))), .val (.int (own_min (p1 &&& (2147483647 : Int32)) (p2 &&& (2147483647 : Int32)))), .val (.int (own_max (p1 &&& (2147483647 : Int32)) (p2 &&& (2147483647 : Int32)))), .val (.ref b6), .unset, .unset] [(.int (own_max (p1 &&& (2147483647 : Int32)) (p2 &&& (2147483647 : Int32)))), (.int p3), (.int (own_min (p1 &&& (2147483647 : Int32)) (p2 &&& (2147483647 : Int32))))])) _
    refine st8 _ ?_
    show Steps p.tables e below (T8.setTop (mkF m 48 #[.val (.int p1), .val (.int p2), .val (.int p3), .val (.int (p1 &&& (2147483647 : Int32))), .val (.int (p2 &&& (2147483647 : Int32))), .val (.int (own_min (p1 &&& (2147483647 : Int32)) (p2 &&& (2147483647 : Int32)))), .val (.int (own_max (p1 &&& (2147483647 : Int32)) (p2 &&& (2147483647 : Int32)))), .val (.ref b6), .unset, .unset] [(.int (own_min p3 (own_max (p1 &&& (2147483647 : Int32)) (p2 &&& (2147483647 : Int32))))), (.int (own_min (p1 &&& (2147483647 : Int32)) (p2 &&& (2147483647 : Int32))))])) _
    refine st9 _ ?_
    show Steps p.tables e below (T9.setTop (mkF m 51 #[.val (.int p1), .val (.int p2), .val (.int p3), .val (.int (p1 &&& (2147483647 : Int32))), .val (.int (p2 &&& (2147483647 : Int32))), .val (.int (own_min (p1 &&& (2147483647 : Int32)) (p2 &&& (2147483647 : Int32)))), .val (.int (own_max (p1 &&& (2147483647 : Int32)) (p2 &&& (2147483647 : Int32)))), .val (.ref b6), .unset, .unset] [(.int (own_max (own_min (p1 &&& (2147483647 : Int32)) (p2 &&& (2147483647 : Int32))) (own_min p3 (own_max (p1 &&& (2147483647 : Int32)) (p2 &&& (2147483647 : Int32))))))])) _
    refine XS.istore X9.here hx rfl (hb hby at_51) rfl (l' := #[.val (.int p1), .val (.int p2), .val (.int p3), .val (.int (p1 &&& (2147483647 : Int32))), .val (.int (p2 &&& (2147483647 : Int32))), .val (.int (own_min (p1 &&& (2147483647 : Int32)) (p2 &&& (2147483647 : Int32)))), .val (.int (own_max (p1 &&& (2147483647 : Int32)) (p2 &&& (2147483647 : Int32)))), .val (.ref b6), .val (.int (own_max (own_min (p1 &&& (2147483647 : Int32)) (p2 &&& (2147483647 : Int32))) (own_min p3 (own_max (p1 &&& (2147483647 : Int32)) (p2 &&& (2147483647 : Int32)))))), .unset]) rfl ?_
    show Steps p.tables e below (T9.setTop (mkF m 53 #[.val (.int p1), .val (.int p2), .val (.int p3), .val (.int (p1 &&& (2147483647 : Int32))), .val (.int (p2 &&& (2147483647 : Int32))), .val (.int (own_min (p1 &&& (2147483647 : Int32)) (p2 &&& (2147483647 : Int32)))), .val (.int (own_max (p1 &&& (2147483647 : Int32)) (p2 &&& (2147483647 : Int32)))), .val (.ref b6), .val (.int (own_max (own_min (p1 &&& (2147483647 : Int32)) (p2 &&& (2147483647 : Int32))) (own_min p3 (own_max (p1 &&& (2147483647 : Int32)) (p2 &&& (2147483647 : Int32)))))), .unset] [])) _
    refine XS.iload X9.here hx rfl (hb hby at_53) rfl ?_
    show Steps p.tables e below (T9.setTop (mkF m 55 #[.val (.int p1), .val (.int p2), .val (.int p3), .val (.int (p1 &&& (2147483647 : Int32))), .val (.int (p2 &&& (2147483647 : Int32))), .val (.int (own_min (p1 &&& (2147483647 : Int32)) (p2 &&& (2147483647 : Int32)))), .val (.int (own_max (p1 &&& (2147483647 : Int32)) (p2 &&& (2147483647 : Int32)))), .val (.ref b6), .val (.int (own_max (own_min (p1 &&& (2147483647 : Int32)) (p2 &&& (2147483647 : Int32))) (own_min p3 (own_max (p1 &&& (2147483647 : Int32)) (p2 &&& (2147483647 : Int32)))))), .unset] [(.int (own_max (own_min (p1 &&& (2147483647 : Int32)) (p2 &&& (2147483647 : Int32))) (own_min p3 (own_max (p1 &&& (2147483647 : Int32)) (p2 &&& (2147483647 : Int32))))))])) _
    refine XS.iloadN X9.here hx rfl (hb hby at_55) rfl ?_
    show Steps p.tables e below (T9.setTop (mkF m 56 #[.val (.int p1), .val (.int p2), .val (.int p3), .val (.int (p1 &&& (2147483647 : Int32))), .val (.int (p2 &&& (2147483647 : Int32))), .val (.int (own_min (p1 &&& (2147483647 : Int32)) (p2 &&& (2147483647 : Int32)))), .val (.int (own_max (p1 &&& (2147483647 : Int32)) (p2 &&& (2147483647 : Int32)))), .val (.ref b6), .val (.int (own_max (own_min (p1 &&& (2147483647 : Int32)) (p2 &&& (2147483647 : Int32))) (own_min p3 (own_max (p1 &&& (2147483647 : Int32)) (p2 &&& (2147483647 : Int32)))))), .unset] [(.int p3), (.int (own_max (own_min (p1 &&& (2147483647 : Int32)) (p2 &&& (2147483647 : Int32))) (own_min p3 (own_max (p1 &&& (2147483647 : Int32)) (p2 &&& (2147483647 : Int32))))))])) _
    refine XS.icmpNo X9.here hx rfl (hb hby at_56) rfl (teq (hE : (own_max (own_min (p1 &&& (2147483647 : Int32)) (p2 &&& (2147483647 : Int32))) (own_min p3 (own_max (p1 &&& (2147483647 : Int32)) (p2 &&& (2147483647 : Int32))))) = p3)).2 ?_
    show Steps p.tables e below (T9.setTop (mkF m 59 #[.val (.int p1), .val (.int p2), .val (.int p3), .val (.int (p1 &&& (2147483647 : Int32))), .val (.int (p2 &&& (2147483647 : Int32))), .val (.int (own_min (p1 &&& (2147483647 : Int32)) (p2 &&& (2147483647 : Int32)))), .val (.int (own_max (p1 &&& (2147483647 : Int32)) (p2 &&& (2147483647 : Int32)))), .val (.ref b6), .val (.int (own_max (own_min (p1 &&& (2147483647 : Int32)) (p2 &&& (2147483647 : Int32))) (own_min p3 (own_max (p1 &&& (2147483647 : Int32)) (p2 &&& (2147483647 : Int32)))))), .unset] [])) _
    refine XS.iconst X9.here hx rfl (hb hby at_59) ?_
    show Steps p.tables e below (T9.setTop (mkF m 60 #[.val (.int p1), .val (.int p2), .val (.int p3), .val (.int (p1 &&& (2147483647 : Int32))), .val (.int (p2 &&& (2147483647 : Int32))), .val (.int (own_min (p1 &&& (2147483647 : Int32)) (p2 &&& (2147483647 : Int32)))), .val (.int (own_max (p1 &&& (2147483647 : Int32)) (p2 &&& (2147483647 : Int32)))), .val (.ref b6), .val (.int (own_max (own_min (p1 &&& (2147483647 : Int32)) (p2 &&& (2147483647 : Int32))) (own_min p3 (own_max (p1 &&& (2147483647 : Int32)) (p2 &&& (2147483647 : Int32)))))), .unset] [(.int (1 : Int32))])) _
    refine XS.goto X9.here hx rfl (pc0 := 60) (pc' := 64) rfl (hb hby at_60) (by decide) (by decide) ?_
    show Steps p.tables e below (T9.setTop (mkF m 64 #[.val (.int p1), .val (.int p2), .val (.int p3), .val (.int (p1 &&& (2147483647 : Int32))), .val (.int (p2 &&& (2147483647 : Int32))), .val (.int (own_min (p1 &&& (2147483647 : Int32)) (p2 &&& (2147483647 : Int32)))), .val (.int (own_max (p1 &&& (2147483647 : Int32)) (p2 &&& (2147483647 : Int32)))), .val (.ref b6), .val (.int (own_max (own_min (p1 &&& (2147483647 : Int32)) (p2 &&& (2147483647 : Int32))) (own_min p3 (own_max (p1 &&& (2147483647 : Int32)) (p2 &&& (2147483647 : Int32)))))), .unset] [(.int (1 : Int32))])) _
    refine XS.istore X9.here hx rfl (hb hby at_64) rfl (l' := #[.val (.int p1), .val (.int p2), .val (.int p3), .val (.int (p1 &&& (2147483647 : Int32))), .val (.int (p2 &&& (2147483647 : Int32))), .val (.int (own_min (p1 &&& (2147483647 : Int32)) (p2 &&& (2147483647 : Int32)))), .val (.int (own_max (p1 &&& (2147483647 : Int32)) (p2 &&& (2147483647 : Int32)))), .val (.ref b6), .val (.int (own_max (own_min (p1 &&& (2147483647 : Int32)) (p2 &&& (2147483647 : Int32))) (own_min p3 (own_max (p1 &&& (2147483647 : Int32)) (p2 &&& (2147483647 : Int32)))))), .val (.int (1 : Int32))]) rfl ?_
    show Steps p.tables e below (T9.setTop (mkF m 66 #[.val (.int p1), .val (.int p2), .val (.int p3), .val (.int (p1 &&& (2147483647 : Int32))), .val (.int (p2 &&& (2147483647 : Int32))), .val (.int (own_min (p1 &&& (2147483647 : Int32)) (p2 &&& (2147483647 : Int32)))), .val (.int (own_max (p1 &&& (2147483647 : Int32)) (p2 &&& (2147483647 : Int32)))), .val (.ref b6), .val (.int (own_max (own_min (p1 &&& (2147483647 : Int32)) (p2 &&& (2147483647 : Int32))) (own_min p3 (own_max (p1 &&& (2147483647 : Int32)) (p2 &&& (2147483647 : Int32)))))), .val (.int (1 : Int32))] [])) _
    refine XS.aload X9.here hx rfl (hb hby at_66) rfl rfl ?_
    show Steps p.tables e below (T9.setTop (mkF m 68 #[.val (.int p1), .val (.int p2), .val (.int p3), .val (.int (p1 &&& (2147483647 : Int32))), .val (.int (p2 &&& (2147483647 : Int32))), .val (.int (own_min (p1 &&& (2147483647 : Int32)) (p2 &&& (2147483647 : Int32)))), .val (.int (own_max (p1 &&& (2147483647 : Int32)) (p2 &&& (2147483647 : Int32)))), .val (.ref b6), .val (.int (own_max (own_min (p1 &&& (2147483647 : Int32)) (p2 &&& (2147483647 : Int32))) (own_min p3 (own_max (p1 &&& (2147483647 : Int32)) (p2 &&& (2147483647 : Int32)))))), .val (.int (1 : Int32))] [(.ref b6)])) _
    refine XS.iloadN X9.here hx rfl (hb hby at_68) rfl ?_
    show Steps p.tables e below (T9.setTop (mkF m 69 #[.val (.int p1), .val (.int p2), .val (.int p3), .val (.int (p1 &&& (2147483647 : Int32))), .val (.int (p2 &&& (2147483647 : Int32))), .val (.int (own_min (p1 &&& (2147483647 : Int32)) (p2 &&& (2147483647 : Int32)))), .val (.int (own_max (p1 &&& (2147483647 : Int32)) (p2 &&& (2147483647 : Int32)))), .val (.ref b6), .val (.int (own_max (own_min (p1 &&& (2147483647 : Int32)) (p2 &&& (2147483647 : Int32))) (own_min p3 (own_max (p1 &&& (2147483647 : Int32)) (p2 &&& (2147483647 : Int32)))))), .val (.int (1 : Int32))] [(.int p3), (.ref b6)])) _
    refine st10.trans ?_
    show Steps p.tables e below (T10.setTop (mkF m 72 #[.val (.int p1), .val (.int p2), .val (.int p3), .val (.int (p1 &&& (2147483647 : Int32))), .val (.int (p2 &&& (2147483647 : Int32))), .val (.int (own_min (p1 &&& (2147483647 : Int32)) (p2 &&& (2147483647 : Int32)))), .val (.int (own_max (p1 &&& (2147483647 : Int32)) (p2 &&& (2147483647 : Int32)))), .val (.ref b6), .val (.int (own_max (own_min (p1 &&& (2147483647 : Int32)) (p2 &&& (2147483647 : Int32))) (own_min p3 (own_max (p1 &&& (2147483647 : Int32)) (p2 &&& (2147483647 : Int32)))))), .val (.int (1 : Int32))] [(.int (own_in (own_min (p1 &&& (2147483647 : Int32)) (p2 &&& (2147483647 : Int32))) (own_max (p1 &&& (2147483647 : Int32)) (p2 &&& (2147483647 : Int32))) p3))])) _
    refine XS.iload X10.here hx rfl (hb hby at_72) rfl ?_
    show Steps p.tables e below (T10.setTop (mkF m 74 #[.val (.int p1), .val (.int p2), .val (.int p3), .val (.int (p1 &&& (2147483647 : Int32))), .val (.int (p2 &&& (2147483647 : Int32))), .val (.int (own_min (p1 &&& (2147483647 : Int32)) (p2 &&& (2147483647 : Int32)))), .val (.int (own_max (p1 &&& (2147483647 : Int32)) (p2 &&& (2147483647 : Int32)))), .val (.ref b6), .val (.int (own_max (own_min (p1 &&& (2147483647 : Int32)) (p2 &&& (2147483647 : Int32))) (own_min p3 (own_max (p1 &&& (2147483647 : Int32)) (p2 &&& (2147483647 : Int32)))))), .val (.int (1 : Int32))] [(.int (1 : Int32)), (.int (own_in (own_min (p1 &&& (2147483647 : Int32)) (p2 &&& (2147483647 : Int32))) (own_max (p1 &&& (2147483647 : Int32)) (p2 &&& (2147483647 : Int32))) p3))])) _
    refine XS.icmpYes X10.here hx rfl (pc0 := 74) (pc' := 79) rfl (hb hby at_74) rfl (teq (own_cl1 (own_lohi (p1 &&& (2147483647 : Int32)) (p2 &&& (2147483647 : Int32))) hE : (own_in (own_min (p1 &&& (2147483647 : Int32)) (p2 &&& (2147483647 : Int32))) (own_max (p1 &&& (2147483647 : Int32)) (p2 &&& (2147483647 : Int32))) p3) = (1 : Int32))).1 (by decide) (by decide) ?_
    show Steps p.tables e below (T10.setTop (mkF m 79 #[.val (.int p1), .val (.int p2), .val (.int p3), .val (.int (p1 &&& (2147483647 : Int32))), .val (.int (p2 &&& (2147483647 : Int32))), .val (.int (own_min (p1 &&& (2147483647 : Int32)) (p2 &&& (2147483647 : Int32)))), .val (.int (own_max (p1 &&& (2147483647 : Int32)) (p2 &&& (2147483647 : Int32)))), .val (.ref b6), .val (.int (own_max (own_min (p1 &&& (2147483647 : Int32)) (p2 &&& (2147483647 : Int32))) (own_min p3 (own_max (p1 &&& (2147483647 : Int32)) (p2 &&& (2147483647 : Int32)))))), .val (.int (1 : Int32))] [])) _
    refine XS.aload X10.here hx rfl (hb hby at_79) rfl rfl ?_
    show Steps p.tables e below (T10.setTop (mkF m 81 #[.val (.int p1), .val (.int p2), .val (.int p3), .val (.int (p1 &&& (2147483647 : Int32))), .val (.int (p2 &&& (2147483647 : Int32))), .val (.int (own_min (p1 &&& (2147483647 : Int32)) (p2 &&& (2147483647 : Int32)))), .val (.int (own_max (p1 &&& (2147483647 : Int32)) (p2 &&& (2147483647 : Int32)))), .val (.ref b6), .val (.int (own_max (own_min (p1 &&& (2147483647 : Int32)) (p2 &&& (2147483647 : Int32))) (own_min p3 (own_max (p1 &&& (2147483647 : Int32)) (p2 &&& (2147483647 : Int32)))))), .val (.int (1 : Int32))] [(.ref b6)])) _
    refine XS.iload X10.here hx rfl (hb hby at_81) rfl ?_
    show Steps p.tables e below (T10.setTop (mkF m 83 #[.val (.int p1), .val (.int p2), .val (.int p3), .val (.int (p1 &&& (2147483647 : Int32))), .val (.int (p2 &&& (2147483647 : Int32))), .val (.int (own_min (p1 &&& (2147483647 : Int32)) (p2 &&& (2147483647 : Int32)))), .val (.int (own_max (p1 &&& (2147483647 : Int32)) (p2 &&& (2147483647 : Int32)))), .val (.ref b6), .val (.int (own_max (own_min (p1 &&& (2147483647 : Int32)) (p2 &&& (2147483647 : Int32))) (own_min p3 (own_max (p1 &&& (2147483647 : Int32)) (p2 &&& (2147483647 : Int32)))))), .val (.int (1 : Int32))] [(.int (own_min (p1 &&& (2147483647 : Int32)) (p2 &&& (2147483647 : Int32)))), (.ref b6)])) _
    refine st11.trans ?_
    show Steps p.tables e below (T11.setTop (mkF m 86 #[.val (.int p1), .val (.int p2), .val (.int p3), .val (.int (p1 &&& (2147483647 : Int32))), .val (.int (p2 &&& (2147483647 : Int32))), .val (.int (own_min (p1 &&& (2147483647 : Int32)) (p2 &&& (2147483647 : Int32)))), .val (.int (own_max (p1 &&& (2147483647 : Int32)) (p2 &&& (2147483647 : Int32)))), .val (.ref b6), .val (.int (own_max (own_min (p1 &&& (2147483647 : Int32)) (p2 &&& (2147483647 : Int32))) (own_min p3 (own_max (p1 &&& (2147483647 : Int32)) (p2 &&& (2147483647 : Int32)))))), .val (.int (1 : Int32))] [(.int (own_in (own_min (p1 &&& (2147483647 : Int32)) (p2 &&& (2147483647 : Int32))) (own_max (p1 &&& (2147483647 : Int32)) (p2 &&& (2147483647 : Int32))) (own_min (p1 &&& (2147483647 : Int32)) (p2 &&& (2147483647 : Int32)))))])) _
    refine XS.ifYes X11.here hx rfl (pc0 := 86) (pc' := 91) rfl (hb hby at_86) rfl ((if0 _ _).trans (feq ((own_ends (own_lohi (p1 &&& (2147483647 : Int32)) (p2 &&& (2147483647 : Int32)))).1 : ¬ ((own_in (own_min (p1 &&& (2147483647 : Int32)) (p2 &&& (2147483647 : Int32))) (own_max (p1 &&& (2147483647 : Int32)) (p2 &&& (2147483647 : Int32))) (own_min (p1 &&& (2147483647 : Int32)) (p2 &&& (2147483647 : Int32)))) = (0 : Int32)))).2) (by decide) (by decide) ?_
    show Steps p.tables e below (T11.setTop (mkF m 91 #[.val (.int p1), .val (.int p2), .val (.int p3), .val (.int (p1 &&& (2147483647 : Int32))), .val (.int (p2 &&& (2147483647 : Int32))), .val (.int (own_min (p1 &&& (2147483647 : Int32)) (p2 &&& (2147483647 : Int32)))), .val (.int (own_max (p1 &&& (2147483647 : Int32)) (p2 &&& (2147483647 : Int32)))), .val (.ref b6), .val (.int (own_max (own_min (p1 &&& (2147483647 : Int32)) (p2 &&& (2147483647 : Int32))) (own_min p3 (own_max (p1 &&& (2147483647 : Int32)) (p2 &&& (2147483647 : Int32)))))), .val (.int (1 : Int32))] [])) _
    refine XS.aload X11.here hx rfl (hb hby at_91) rfl rfl ?_
    show Steps p.tables e below (T11.setTop (mkF m 93 #[.val (.int p1), .val (.int p2), .val (.int p3), .val (.int (p1 &&& (2147483647 : Int32))), .val (.int (p2 &&& (2147483647 : Int32))), .val (.int (own_min (p1 &&& (2147483647 : Int32)) (p2 &&& (2147483647 : Int32)))), .val (.int (own_max (p1 &&& (2147483647 : Int32)) (p2 &&& (2147483647 : Int32)))), .val (.ref b6), .val (.int (own_max (own_min (p1 &&& (2147483647 : Int32)) (p2 &&& (2147483647 : Int32))) (own_min p3 (own_max (p1 &&& (2147483647 : Int32)) (p2 &&& (2147483647 : Int32)))))), .val (.int (1 : Int32))] [(.ref b6)])) _
    refine XS.iload X11.here hx rfl (hb hby at_93) rfl ?_
    show Steps p.tables e below (T11.setTop (mkF m 95 #[.val (.int p1), .val (.int p2), .val (.int p3), .val (.int (p1 &&& (2147483647 : Int32))), .val (.int (p2 &&& (2147483647 : Int32))), .val (.int (own_min (p1 &&& (2147483647 : Int32)) (p2 &&& (2147483647 : Int32)))), .val (.int (own_max (p1 &&& (2147483647 : Int32)) (p2 &&& (2147483647 : Int32)))), .val (.ref b6), .val (.int (own_max (own_min (p1 &&& (2147483647 : Int32)) (p2 &&& (2147483647 : Int32))) (own_min p3 (own_max (p1 &&& (2147483647 : Int32)) (p2 &&& (2147483647 : Int32)))))), .val (.int (1 : Int32))] [(.int (own_max (p1 &&& (2147483647 : Int32)) (p2 &&& (2147483647 : Int32)))), (.ref b6)])) _
    refine st12.trans ?_
    show Steps p.tables e below (T12.setTop (mkF m 98 #[.val (.int p1), .val (.int p2), .val (.int p3), .val (.int (p1 &&& (2147483647 : Int32))), .val (.int (p2 &&& (2147483647 : Int32))), .val (.int (own_min (p1 &&& (2147483647 : Int32)) (p2 &&& (2147483647 : Int32)))), .val (.int (own_max (p1 &&& (2147483647 : Int32)) (p2 &&& (2147483647 : Int32)))), .val (.ref b6), .val (.int (own_max (own_min (p1 &&& (2147483647 : Int32)) (p2 &&& (2147483647 : Int32))) (own_min p3 (own_max (p1 &&& (2147483647 : Int32)) (p2 &&& (2147483647 : Int32)))))), .val (.int (1 : Int32))] [(.int (own_in (own_min (p1 &&& (2147483647 : Int32)) (p2 &&& (2147483647 : Int32))) (own_max (p1 &&& (2147483647 : Int32)) (p2 &&& (2147483647 : Int32))) (own_max (p1 &&& (2147483647 : Int32)) (p2 &&& (2147483647 : Int32)))))])) _
    refine XS.ifYes X12.here hx rfl (pc0 := 98) (pc' := 103) rfl (hb hby at_98) rfl ((if0 _ _).trans (feq ((own_ends (own_lohi (p1 &&& (2147483647 : Int32)) (p2 &&& (2147483647 : Int32)))).2 : ¬ ((own_in (own_min (p1 &&& (2147483647 : Int32)) (p2 &&& (2147483647 : Int32))) (own_max (p1 &&& (2147483647 : Int32)) (p2 &&& (2147483647 : Int32))) (own_max (p1 &&& (2147483647 : Int32)) (p2 &&& (2147483647 : Int32)))) = (0 : Int32)))).2) (by decide) (by decide) ?_
    show Steps p.tables e below (T12.setTop (mkF m 103 #[.val (.int p1), .val (.int p2), .val (.int p3), .val (.int (p1 &&& (2147483647 : Int32))), .val (.int (p2 &&& (2147483647 : Int32))), .val (.int (own_min (p1 &&& (2147483647 : Int32)) (p2 &&& (2147483647 : Int32)))), .val (.int (own_max (p1 &&& (2147483647 : Int32)) (p2 &&& (2147483647 : Int32)))), .val (.ref b6), .val (.int (own_max (own_min (p1 &&& (2147483647 : Int32)) (p2 &&& (2147483647 : Int32))) (own_min p3 (own_max (p1 &&& (2147483647 : Int32)) (p2 &&& (2147483647 : Int32)))))), .val (.int (1 : Int32))] [])) _
    refine XS.aload X12.here hx rfl (hb hby at_103) rfl rfl ?_
    show Steps p.tables e below (T12.setTop (mkF m 105 #[.val (.int p1), .val (.int p2), .val (.int p3), .val (.int (p1 &&& (2147483647 : Int32))), .val (.int (p2 &&& (2147483647 : Int32))), .val (.int (own_min (p1 &&& (2147483647 : Int32)) (p2 &&& (2147483647 : Int32)))), .val (.int (own_max (p1 &&& (2147483647 : Int32)) (p2 &&& (2147483647 : Int32)))), .val (.ref b6), .val (.int (own_max (own_min (p1 &&& (2147483647 : Int32)) (p2 &&& (2147483647 : Int32))) (own_min p3 (own_max (p1 &&& (2147483647 : Int32)) (p2 &&& (2147483647 : Int32)))))), .val (.int (1 : Int32))] [(.ref b6)])) _
    refine XS.iload X12.here hx rfl (hb hby at_105) rfl ?_
    show Steps p.tables e below (T12.setTop (mkF m 107 #[.val (.int p1), .val (.int p2), .val (.int p3), .val (.int (p1 &&& (2147483647 : Int32))), .val (.int (p2 &&& (2147483647 : Int32))), .val (.int (own_min (p1 &&& (2147483647 : Int32)) (p2 &&& (2147483647 : Int32)))), .val (.int (own_max (p1 &&& (2147483647 : Int32)) (p2 &&& (2147483647 : Int32)))), .val (.ref b6), .val (.int (own_max (own_min (p1 &&& (2147483647 : Int32)) (p2 &&& (2147483647 : Int32))) (own_min p3 (own_max (p1 &&& (2147483647 : Int32)) (p2 &&& (2147483647 : Int32)))))), .val (.int (1 : Int32))] [(.int (own_min (p1 &&& (2147483647 : Int32)) (p2 &&& (2147483647 : Int32)))), (.ref b6)])) _
    refine XS.iconst X12.here hx rfl (hb hby at_107) ?_
    show Steps p.tables e below (T12.setTop (mkF m 108 #[.val (.int p1), .val (.int p2), .val (.int p3), .val (.int (p1 &&& (2147483647 : Int32))), .val (.int (p2 &&& (2147483647 : Int32))), .val (.int (own_min (p1 &&& (2147483647 : Int32)) (p2 &&& (2147483647 : Int32)))), .val (.int (own_max (p1 &&& (2147483647 : Int32)) (p2 &&& (2147483647 : Int32)))), .val (.ref b6), .val (.int (own_max (own_min (p1 &&& (2147483647 : Int32)) (p2 &&& (2147483647 : Int32))) (own_min p3 (own_max (p1 &&& (2147483647 : Int32)) (p2 &&& (2147483647 : Int32)))))), .val (.int (1 : Int32))] [(.int (1 : Int32)), (.int (own_min (p1 &&& (2147483647 : Int32)) (p2 &&& (2147483647 : Int32)))), (.ref b6)])) _
    refine XS.isub X12.here hx rfl (hb hby at_108) rfl ?_
    show Steps p.tables e below (T12.setTop (mkF m 109 #[.val (.int p1), .val (.int p2), .val (.int p3), .val (.int (p1 &&& (2147483647 : Int32))), .val (.int (p2 &&& (2147483647 : Int32))), .val (.int (own_min (p1 &&& (2147483647 : Int32)) (p2 &&& (2147483647 : Int32)))), .val (.int (own_max (p1 &&& (2147483647 : Int32)) (p2 &&& (2147483647 : Int32)))), .val (.ref b6), .val (.int (own_max (own_min (p1 &&& (2147483647 : Int32)) (p2 &&& (2147483647 : Int32))) (own_min p3 (own_max (p1 &&& (2147483647 : Int32)) (p2 &&& (2147483647 : Int32)))))), .val (.int (1 : Int32))] [(.int ((own_min (p1 &&& (2147483647 : Int32)) (p2 &&& (2147483647 : Int32))) - (1 : Int32))), (.ref b6)])) _
    refine st13.trans ?_
    show Steps p.tables e below (T13.setTop (mkF m 112 #[.val (.int p1), .val (.int p2), .val (.int p3), .val (.int (p1 &&& (2147483647 : Int32))), .val (.int (p2 &&& (2147483647 : Int32))), .val (.int (own_min (p1 &&& (2147483647 : Int32)) (p2 &&& (2147483647 : Int32)))), .val (.int (own_max (p1 &&& (2147483647 : Int32)) (p2 &&& (2147483647 : Int32)))), .val (.ref b6), .val (.int (own_max (own_min (p1 &&& (2147483647 : Int32)) (p2 &&& (2147483647 : Int32))) (own_min p3 (own_max (p1 &&& (2147483647 : Int32)) (p2 &&& (2147483647 : Int32)))))), .val (.int (1 : Int32))] [(.int (own_in (own_min (p1 &&& (2147483647 : Int32)) (p2 &&& (2147483647 : Int32))) (own_max (p1 &&& (2147483647 : Int32)) (p2 &&& (2147483647 : Int32))) ((own_min (p1 &&& (2147483647 : Int32)) (p2 &&& (2147483647 : Int32))) - (1 : Int32))))])) _
    refine XS.ifYes X13.here hx rfl (pc0 := 112) (pc' := 117) rfl (hb hby at_112) rfl ((if0 _ _).trans (teq (own_below (own_lo0 (p1 &&& (2147483647 : Int32)) (p2 &&& (2147483647 : Int32)) (c_and p1 2147483647 (by decide)).1 (c_and p2 2147483647 (by decide)).1) : (own_in (own_min (p1 &&& (2147483647 : Int32)) (p2 &&& (2147483647 : Int32))) (own_max (p1 &&& (2147483647 : Int32)) (p2 &&& (2147483647 : Int32))) ((own_min (p1 &&& (2147483647 : Int32)) (p2 &&& (2147483647 : Int32))) - (1 : Int32))) = (0 : Int32))).1) (by decide) (by decide) ?_
    show Steps p.tables e below (T13.setTop (mkF m 117 #[.val (.int p1), .val (.int p2), .val (.int p3), .val (.int (p1 &&& (2147483647 : Int32))), .val (.int (p2 &&& (2147483647 : Int32))), .val (.int (own_min (p1 &&& (2147483647 : Int32)) (p2 &&& (2147483647 : Int32)))), .val (.int (own_max (p1 &&& (2147483647 : Int32)) (p2 &&& (2147483647 : Int32)))), .val (.ref b6), .val (.int (own_max (own_min (p1 &&& (2147483647 : Int32)) (p2 &&& (2147483647 : Int32))) (own_min p3 (own_max (p1 &&& (2147483647 : Int32)) (p2 &&& (2147483647 : Int32)))))), .val (.int (1 : Int32))] [])) _
    refine XS.iload X13.here hx rfl (hb hby at_117) rfl ?_
    show Steps p.tables e below (T13.setTop (mkF m 119 #[.val (.int p1), .val (.int p2), .val (.int p3), .val (.int (p1 &&& (2147483647 : Int32))), .val (.int (p2 &&& (2147483647 : Int32))), .val (.int (own_min (p1 &&& (2147483647 : Int32)) (p2 &&& (2147483647 : Int32)))), .val (.int (own_max (p1 &&& (2147483647 : Int32)) (p2 &&& (2147483647 : Int32)))), .val (.ref b6), .val (.int (own_max (own_min (p1 &&& (2147483647 : Int32)) (p2 &&& (2147483647 : Int32))) (own_min p3 (own_max (p1 &&& (2147483647 : Int32)) (p2 &&& (2147483647 : Int32)))))), .val (.int (1 : Int32))] [(.int (own_max (p1 &&& (2147483647 : Int32)) (p2 &&& (2147483647 : Int32))))])) _
    refine X13.ldcInt hx hown (mvT hZ (hw _ (List.mem_of_getElem? (i := 0) rfl))) (g := (mkF m 119 #[.val (.int p1), .val (.int p2), .val (.int p3), .val (.int (p1 &&& (2147483647 : Int32))), .val (.int (p2 &&& (2147483647 : Int32))), .val (.int (own_min (p1 &&& (2147483647 : Int32)) (p2 &&& (2147483647 : Int32)))), .val (.int (own_max (p1 &&& (2147483647 : Int32)) (p2 &&& (2147483647 : Int32)))), .val (.ref b6), .val (.int (own_max (own_min (p1 &&& (2147483647 : Int32)) (p2 &&& (2147483647 : Int32))) (own_min p3 (own_max (p1 &&& (2147483647 : Int32)) (p2 &&& (2147483647 : Int32)))))), .val (.int (1 : Int32))] [(.int (own_max (p1 &&& (2147483647 : Int32)) (p2 &&& (2147483647 : Int32))))])) rfl (hb hby at_119) _ ?_
    show Steps p.tables e below (T13.setTop (mkF m 121 #[.val (.int p1), .val (.int p2), .val (.int p3), .val (.int (p1 &&& (2147483647 : Int32))), .val (.int (p2 &&& (2147483647 : Int32))), .val (.int (own_min (p1 &&& (2147483647 : Int32)) (p2 &&& (2147483647 : Int32)))), .val (.int (own_max (p1 &&& (2147483647 : Int32)) (p2 &&& (2147483647 : Int32)))), .val (.ref b6), .val (.int (own_max (own_min (p1 &&& (2147483647 : Int32)) (p2 &&& (2147483647 : Int32))) (own_min p3 (own_max (p1 &&& (2147483647 : Int32)) (p2 &&& (2147483647 : Int32)))))), .val (.int (1 : Int32))] [(.int (2147483647 : Int32)), (.int (own_max (p1 &&& (2147483647 : Int32)) (p2 &&& (2147483647 : Int32))))])) _
    refine XS.icmpYes X13.here hx rfl (pc0 := 121) (pc' := 138) rfl (hb hby at_121) rfl (teq (hM : (own_max (p1 &&& (2147483647 : Int32)) (p2 &&& (2147483647 : Int32))) = (2147483647 : Int32))).1 (by decide) (by decide) ?_
    show Steps p.tables e below (T13.setTop (mkF m 138 #[.val (.int p1), .val (.int p2), .val (.int p3), .val (.int (p1 &&& (2147483647 : Int32))), .val (.int (p2 &&& (2147483647 : Int32))), .val (.int (own_min (p1 &&& (2147483647 : Int32)) (p2 &&& (2147483647 : Int32)))), .val (.int (own_max (p1 &&& (2147483647 : Int32)) (p2 &&& (2147483647 : Int32)))), .val (.ref b6), .val (.int (own_max (own_min (p1 &&& (2147483647 : Int32)) (p2 &&& (2147483647 : Int32))) (own_min p3 (own_max (p1 &&& (2147483647 : Int32)) (p2 &&& (2147483647 : Int32)))))), .val (.int (1 : Int32))] [])) _
    refine XS.iconst X13.here hx rfl (hb hby at_138) ?_
    show Steps p.tables e below (T13.setTop (mkF m 139 #[.val (.int p1), .val (.int p2), .val (.int p3), .val (.int (p1 &&& (2147483647 : Int32))), .val (.int (p2 &&& (2147483647 : Int32))), .val (.int (own_min (p1 &&& (2147483647 : Int32)) (p2 &&& (2147483647 : Int32)))), .val (.int (own_max (p1 &&& (2147483647 : Int32)) (p2 &&& (2147483647 : Int32)))), .val (.ref b6), .val (.int (own_max (own_min (p1 &&& (2147483647 : Int32)) (p2 &&& (2147483647 : Int32))) (own_min p3 (own_max (p1 &&& (2147483647 : Int32)) (p2 &&& (2147483647 : Int32)))))), .val (.int (1 : Int32))] [(.int (1 : Int32))])) _
    exact retN X13 hx (t := .boolean) Bd.returns (by simp) (hb hby at_139) hr
  · show Q0 Z p1 p2 p3 h0 n0 _ T13.heap _
    exact ⟨rfl, N13⟩
theorem rm0 (l : Launch) (Z : State) (a0 : Array Value) (hw : ∀ d ∈ tables_1, d.before a0 Z = true) (ws : List Jvm.Cond) (p1 : Int32) (p2 : Int32) (p3 : Int32) (h0 : Heap) (n0 : Nat) (Z0 : n0 ≤ h0.size) :
    MetFree l x (head1 (Jvm.Cond.code x code maxLocals ret :: ws) room_1) (fun a U => a = #[(.int p1), (.int p2), (.int p3)] ∧ Z.Warmed39 U.vm ∧ U.heap = h0) (fun _ _ _ _ _ => True) (fun _ U o U' => ∃ v L, o = .returned v ∧ Q0 Z p1 p2 p3 h0 n0 v U'.heap L ∧ FrameEnd U o U' L room_1.cells room_1.slots) := by
  by_cases hE : (own_max (own_min (p1 &&& (2147483647 : Int32)) (p2 &&& (2147483647 : Int32))) (own_min p3 (own_max (p1 &&& (2147483647 : Int32)) (p2 &&& (2147483647 : Int32))))) = p3
  · by_cases hM : (own_max (p1 &&& (2147483647 : Int32)) (p2 &&& (2147483647 : Int32))) = (2147483647 : Int32)
    · exact rm0_fttttt l Z a0 hw ws p1 p2 p3 h0 n0 Z0 hE hM
    · exact rm0_fttttft l Z a0 hw ws p1 p2 p3 h0 n0 Z0 hE hM
  · by_cases hM : (own_max (p1 &&& (2147483647 : Int32)) (p2 &&& (2147483647 : Int32))) = (2147483647 : Int32)
    · exact rm0_tttttt l Z a0 hw ws p1 p2 p3 h0 n0 Z0 hE hM
    · exact rm0_tttttft l Z a0 hw ws p1 p2 p3 h0 n0 Z0 hE hM
set_option maxRecDepth 65536 in
set_option maxHeartbeats 40000000 in
theorem comes_1 {Post : Tables → Env → Array Value → State → Outcome → State → Prop} (hpost : ∀ tb e args s v u, (limb_1_1.after args s (.returned v) u = true ∧ limb_1_2.after args s (.returned v) u = true ∧ True) → FrameEnd s (.returned v) u (Jvm.fieldLocs frame_1_writes args s ++ Jvm.arrayLocs frame_1_arrays args s ++ Jvm.staticLocs frame_1_statics s) 16 128 → Post tb e args s (.returned v) u) :
    ArmFor flags0 classFile x code maxLocals ret World_1 tables_1 room_1 Calls_1 rest_1 Pre_1 Post := by
  intro l hfl _ _ p e ha hc hk s m args below hf hA hF happ hP
  obtain ⟨hcalls, hrest, hpre⟩ := hP
  obtain ⟨-, -, -, hnamed, -, -, -, hat⟩ := (Spec.applies_iff hf).mp happ
  obtain ⟨hg, hn⟩ := and_e (Cond.before_iff.mp (show (Jvm.Cond.and given_1 narrow_1).before args s = true from hpre))
  obtain ⟨g14, g15⟩ := and_e hg
  obtain ⟨g16, g17⟩ := and_e g15
  obtain ⟨g18, g19⟩ := and_e g17
  obtain ⟨w0, w1, w2, rfl⟩ : ∃ w0 w1 w2 : Value, args = #[w0, w1, w2] := by
    have hs : args.size = 3 := by simpa [Cond.value, given_1] using g14
    obtain ⟨L⟩ := args
    match L, hs with
    | [w0, w1, w2], _ => exact ⟨w0, w1, w2, rfl⟩
  have hw := fun d (hd : d ∈ tables_1) => atoms_spec (ws := Jvm.Cond.code x code maxLocals ret :: tables_1) hat d (List.mem_cons_of_mem _ hd)
  have hfit : Fit s := fun {y c} hc i hi => by
    obtain ⟨ha, rfl⟩ := Array.getElem?_eq_some_iff.mp hc
    have q := List.all_eq_true.mp ((Array.all_eq_true_iff_forall_mem.mp hF) _ (Array.getElem_mem ha)) i (List.mem_range.mpr hi)
    simpa [Array.getElem?_eq_getElem hi] using q
  obtain ⟨i0, ei0⟩ := is_v g16
  obtain rfl : w0 = (.int i0) := Option.some.inj ei0
  obtain ⟨i1, ei1⟩ := is_v g18
  obtain rfl : w1 = (.int i1) := Option.some.inj ei1
  obtain ⟨i2, ei2⟩ := is_v g19
  obtain rfl : w2 = (.int i2) := Option.some.inj ei2
  obtain ⟨n, o, h1, h2, h3, _, L, rfl, ⟨rfl, N⟩, hq⟩ := rm0 l s _ hw tables_1 i0 i1 i2 s.heap s.heap.size (Nat.le_refl _) p e ha hc hk s m _ below hf ((Spec.applies_iff_loose hf).mp happ).1 ⟨rfl, State.Warmed39.refl s, rfl⟩ trivial
  refine ⟨n, _, h1, h2, h3, hpost _ _ _ _ _ _ ⟨Cond.after_iff.mpr rfl, Cond.after_iff.mpr (eq_i res_at (Term.int_eval (1)) rfl), trivial⟩ ⟨hq.1, hq.2.1, (hq.2.2.sift fun y hy => Or.inr (N y hy)).mono (by decide) (by decide)⟩⟩
theorem main_1_1 : Claimed_1_1 := comes_1 fun _ _ _ _ _ _ h hF => ⟨h.1, hF⟩
theorem main_1_2 : Claimed_1_2 := comes_1 fun _ _ _ _ _ _ h hF => ⟨h.2.1, hF⟩
end Jvm.Pilot.@@N@@
namespace Jvm.Pilot.@@N@@
open Jvm Jvm.ClassFile Sem Op Lib Jvm.Free Jvm.Stand Jvm.Pilot.@@N@@.Jvm.D
/-! MADE BY PROGRAM (witnessworld.py) out of the Statement's table words and the real class files: 11 classes; the members and pool entries that the words name. The judged class is class 1, her method 1. -/
namespace start1
open Jvm.ClassFile
def u (s : String) : CpInfo := .utf8 (stringToUtf16 s)
/-- a pool by its gaps: so many unusable entries, then the entry; so many at the end -/
def gap : Nat → List CpInfo → List CpInfo
  | 0, r => r
  | n + 1, r => .unusable :: gap n r
def poolList (es : List (Nat × CpInfo)) (last : Nat) : List CpInfo := es.foldr (fun e r => gap e.1 (e.2 :: r)) (gap last [])
def pool (es : List (Nat × CpInfo)) (last : Nat) : Array CpInfo := ⟨poolList es last⟩
def fileOf (pool : Array CpInfo) (this : Nat) (attrs : Array Attribute := #[]) (ms : Array MethodInfo := #[]) (fl : Nat := 33) (sup : Nat := 0) (ifs : Array Nat := #[]) (fds : Array FieldInfo := #[]) : ClassFile where
  minorVersion := 0
  majorVersion := 65
  constantPool := pool
  accessFlags := fl
  thisClass := this
  superClass := sup
  interfaces := ifs
  fields := fds
  methods := ms
  attributes := attrs
def plain (name : String) (sup : Option ClassId) : Class where
  name := name
  kind := .ordinary
  loader := none
  accessFlags := 33
  super := sup
  interfaces := #[]
  cf := none
  fields := #[]
  methods := #[]
  instanceTypes := #[]
  staticTypes := #[]
  resolved := #[]
  callSites := []
  init := .initialized
  statics := none
  mirror := none

def pool0 : Array CpInfo := pool [(5, u "<init>"), (0, u "()V"), (1, .class_ 10), (1, u "java/lang/Object")] 113

def k0c0 : Code := { maxStack := 0, maxLocals := 1, code := object_method_1_code, exceptionTable := #[], attributes := #[] }
def k0m0 : Method := { name := "<init>", desc := "()V", sig := { parameters := [], returnType := none }, accessFlags := 1, code := some k0c0 }
/-- java/lang/Object -/
def k0 : Class := { plain "java/lang/Object" none with
  accessFlags := 33
  interfaces := #[]
  cf := some (fileOf pool0 8 #[] #[{ accessFlags := 1, nameIndex := 5, descriptorIndex := 6, attributes := #[] }] 33 0 #[] #[])
  fields := #[]
  methods := #[k0m0]
  instanceTypes := #[]
  staticTypes := #[]
  resolved := Array.replicate 124 none
  statics := none }

def pool1 : Array CpInfo := pool [(2, .class_ 4), (1, u "java/lang/Object"), (0, u "<init>"), (0, u "()V"), (0, .integer 2147483647), (0, .methodref 9 10), (0, .class_ 11), (0, .nameAndType 12 13), (0, u "java/lang/Math"), (0, u "min"), (0, u "(II)I"), (0, .methodref 9 15), (0, .nameAndType 16 13), (0, u "max"), (0, .class_ 18), (0, u "com/example/rugged_consumer/ruggedconsumer/protocol/VersionRange"), (0, .methodref 17 20), (0, .nameAndType 5 21), (0, u "(II)V"), (0, .methodref 17 23), (0, .nameAndType 24 25), (0, u "contains"), (0, u "(I)Z"), (2, .class_ 29), (0, u "com/example/rugged_consumer/ruggedconsumer/protocol/VersionRangeContainsPinLaw"), (2, u "law"), (0, u "(III)Z")] 3

def k1m0 : Method := { name := "<init>", desc := "()V", sig := { parameters := [], returnType := none }, accessFlags := 1, code := none }
def k1c1 : Code := { maxStack := 4, maxLocals := 10, code := code, exceptionTable := #[], attributes := #[] }
def k1m1 : Method := { name := "law", desc := "(III)Z", sig := { parameters := [.int, .int, .int], returnType := some .boolean }, accessFlags := 9, code := some k1c1 }
/-- com/example/rugged_consumer/ruggedconsumer/protocol/VersionRangeContainsPinLaw -/
def k1 : Class := { plain "com/example/rugged_consumer/ruggedconsumer/protocol/VersionRangeContainsPinLaw" (some 0) with
  accessFlags := 49
  interfaces := #[]
  cf := some (fileOf pool1 28 #[] #[{ accessFlags := 1, nameIndex := 5, descriptorIndex := 6, attributes := #[] }, { accessFlags := 9, nameIndex := 32, descriptorIndex := 33, attributes := #[] }] 49 2 #[] #[])
  fields := #[]
  methods := #[k1m0, k1m1]
  instanceTypes := #[]
  staticTypes := #[]
  resolved := Array.replicate 37 none
  statics := none }

def pool2 : Array CpInfo := pool [(1, .class_ 2), (0, u "java/lang/Math"), (1, .class_ 6), (1, u "java/lang/Object"), (0, u "<init>"), (0, u "()V"), (89, .class_ 100), (1, u "java/lang/Math$RandomNumberGeneratorHolder"), (71, u "negativeZeroFloatBits"), (0, u "J"), (2, u "negativeZeroDoubleBits"), (21, u "max"), (2, u "min"), (43, u "$assertionsDisabled"), (0, u "Z"), (88, u "(II)I"), (2, u "twoToTheDoubleScaleDown"), (0, u "D"), (4, u "twoToTheDoubleScaleUp"), (9, u "E"), (3, u "PI"), (2, u "TAU"), (2, u "DEGREES_TO_RADIANS"), (0, u "RADIANS_TO_DEGREES")] 94

def k2m0 : Method := { name := "<init>", desc := "()V", sig := { parameters := [], returnType := none }, accessFlags := 2, code := none }
def k2c1 : Code := { maxStack := 2, maxLocals := 2, code := jdk_29_method_65_code, exceptionTable := #[], attributes := #[] }
def k2m1 : Method := { name := "max", desc := "(II)I", sig := { parameters := [.int, .int], returnType := some .int }, accessFlags := 9, code := some k2c1 }
def k2c2 : Code := { maxStack := 2, maxLocals := 2, code := jdk_29_method_69_code, exceptionTable := #[], attributes := #[] }
def k2m2 : Method := { name := "min", desc := "(II)I", sig := { parameters := [.int, .int], returnType := some .int }, accessFlags := 9, code := some k2c2 }
/-- java/lang/Math -/
def k2 : Class := { plain "java/lang/Math" (some 0) with
  accessFlags := 49
  interfaces := #[]
  cf := some (fileOf pool2 1 #[.nestMembers #[98]] #[{ accessFlags := 2, nameIndex := 7, descriptorIndex := 8, attributes := #[] }, { accessFlags := 9, nameIndex := 198, descriptorIndex := 335, attributes := #[] }, { accessFlags := 9, nameIndex := 201, descriptorIndex := 335, attributes := #[] }] 49 4 #[] #[{ accessFlags := 25, nameIndex := 354, descriptorIndex := 339, attributes := #[] }, { accessFlags := 25, nameIndex := 358, descriptorIndex := 339, attributes := #[] }, { accessFlags := 25, nameIndex := 361, descriptorIndex := 339, attributes := #[] }, { accessFlags := 26, nameIndex := 364, descriptorIndex := 339, attributes := #[] }, { accessFlags := 26, nameIndex := 365, descriptorIndex := 339, attributes := #[] }, { accessFlags := 26, nameIndex := 172, descriptorIndex := 173, attributes := #[] }, { accessFlags := 26, nameIndex := 176, descriptorIndex := 173, attributes := #[] }, { accessFlags := 8, nameIndex := 344, descriptorIndex := 339, attributes := #[] }, { accessFlags := 8, nameIndex := 338, descriptorIndex := 339, attributes := #[] }, { accessFlags := 4120, nameIndex := 245, descriptorIndex := 246, attributes := #[] }])
  fields := #[{ name := "E", type := .double, accessFlags := 25, slot := 0, constantValue := 0 }, { name := "PI", type := .double, accessFlags := 25, slot := 1, constantValue := 0 }, { name := "TAU", type := .double, accessFlags := 25, slot := 2, constantValue := 0 }, { name := "DEGREES_TO_RADIANS", type := .double, accessFlags := 26, slot := 3, constantValue := 0 }, { name := "RADIANS_TO_DEGREES", type := .double, accessFlags := 26, slot := 4, constantValue := 0 }, { name := "negativeZeroFloatBits", type := .long, accessFlags := 26, slot := 5, constantValue := 0 }, { name := "negativeZeroDoubleBits", type := .long, accessFlags := 26, slot := 6, constantValue := 0 }, { name := "twoToTheDoubleScaleUp", type := .double, accessFlags := 8, slot := 7, constantValue := 0 }, { name := "twoToTheDoubleScaleDown", type := .double, accessFlags := 8, slot := 8, constantValue := 0 }, { name := "$assertionsDisabled", type := .boolean, accessFlags := 4120, slot := 9, constantValue := 0 }]
  methods := #[k2m0, k2m1, k2m2]
  instanceTypes := #[]
  staticTypes := #[.double, .double, .double, .double, .double, .long, .long, .double, .double, .boolean]
  resolved := Array.replicate 460 none
  statics := none }

def pool3 : Array CpInfo := pool [(1, .methodref 2 3), (0, .class_ 4), (0, .nameAndType 5 6), (0, u "java/lang/Object"), (0, u "<init>"), (0, u "()V"), (0, .class_ 8), (0, u "java/lang/Record")] 13

def k3c0 : Code := { maxStack := 1, maxLocals := 1, code := jdk_30_method_1_code, exceptionTable := #[], attributes := #[] }
def k3m0 : Method := { name := "<init>", desc := "()V", sig := { parameters := [], returnType := none }, accessFlags := 4, code := some k3c0 }
/-- java/lang/Record -/
def k3 : Class := { plain "java/lang/Record" (some 0) with
  accessFlags := 1057
  interfaces := #[]
  cf := some (fileOf pool3 7 #[] #[{ accessFlags := 4, nameIndex := 5, descriptorIndex := 6, attributes := #[] }] 1057 2 #[] #[])
  fields := #[]
  methods := #[k3m0]
  instanceTypes := #[]
  staticTypes := #[]
  resolved := Array.replicate 22 none
  statics := none }

def pool4 : Array CpInfo := pool [(1, .methodref 2 3), (0, .class_ 4), (0, .nameAndType 5 6), (0, u "java/lang/Record"), (0, u "<init>"), (0, u "()V"), (9, .fieldref 17 18), (0, .class_ 19), (0, .nameAndType 20 21), (0, u "com/example/rugged_consumer/ruggedconsumer/protocol/VersionRange"), (0, u "min"), (0, u "I"), (0, .fieldref 17 23), (0, .nameAndType 24 21), (0, u "max"), (26, u "(II)V"), (4, u "contains"), (0, u "(I)Z")] 37

def k4c0 : Code := { maxStack := 4, maxLocals := 3, code := prog_160_method_1_code, exceptionTable := #[], attributes := #[] }
def k4m0 : Method := { name := "<init>", desc := "(II)V", sig := { parameters := [.int, .int], returnType := none }, accessFlags := 1, code := some k4c0 }
def k4c1 : Code := { maxStack := 2, maxLocals := 2, code := prog_160_method_2_code, exceptionTable := #[], attributes := #[] }
def k4m1 : Method := { name := "contains", desc := "(I)Z", sig := { parameters := [.int], returnType := some .boolean }, accessFlags := 1, code := some k4c1 }
/-- com/example/rugged_consumer/ruggedconsumer/protocol/VersionRange -/
def k4 : Class := { plain "com/example/rugged_consumer/ruggedconsumer/protocol/VersionRange" (some 3) with
  accessFlags := 49
  interfaces := #[]
  cf := some (fileOf pool4 17 #[] #[{ accessFlags := 1, nameIndex := 5, descriptorIndex := 51, attributes := #[] }, { accessFlags := 1, nameIndex := 56, descriptorIndex := 57, attributes := #[] }] 49 2 #[] #[{ accessFlags := 18, nameIndex := 20, descriptorIndex := 21, attributes := #[] }, { accessFlags := 18, nameIndex := 24, descriptorIndex := 21, attributes := #[] }])
  fields := #[{ name := "min", type := .int, accessFlags := 18, slot := 0, constantValue := 0 }, { name := "max", type := .int, accessFlags := 18, slot := 1, constantValue := 0 }]
  methods := #[k4m0, k4m1]
  instanceTypes := #[.int, .int]
  staticTypes := #[]
  resolved := Array.replicate 95 none
  statics := none }

def pool5 : Array CpInfo := pool [(1, u "java/lang/Cloneable"), (0, .class_ 1), (0, u "java/lang/Object"), (0, .class_ 3)] 3

/-- java/lang/Cloneable -/
def k5 : Class := { plain "java/lang/Cloneable" (some 0) with
  accessFlags := 1537
  interfaces := #[]
  cf := some (fileOf pool5 2 #[] #[] 1537 4 #[] #[])
  fields := #[]
  methods := #[]
  instanceTypes := #[]
  staticTypes := #[]
  resolved := Array.replicate 8 none
  statics := none }

def pool6 : Array CpInfo := pool [(1, u "java/io/Serializable"), (0, .class_ 1), (0, u "java/lang/Object"), (0, .class_ 3)] 3

/-- java/io/Serializable -/
def k6 : Class := { plain "java/io/Serializable" (some 0) with
  accessFlags := 1537
  interfaces := #[]
  cf := some (fileOf pool6 2 #[] #[] 1537 4 #[] #[])
  fields := #[]
  methods := #[]
  instanceTypes := #[]
  staticTypes := #[]
  resolved := Array.replicate 8 none
  statics := none }

/-- the primitive byte -/
def k7 : Class := { plain "byte" none with kind := .primitive 'B', accessFlags := 0x411 }
/-- [B -/
def k8 : Class := { plain "[B" (some 0) with kind := .array 7 .byte, interfaces := #[5, 6], accessFlags := 1041 }

/-- the primitive int -/
def k9 : Class := { plain "int" none with kind := .primitive 'I', accessFlags := 0x411 }
/-- [I -/
def k10 : Class := { plain "[I" (some 0) with kind := .array 9 .int, interfaces := #[5, 6], accessFlags := 1041 }

def heap : Heap := #[]
def classes : Array Class := #[k0, k1, k2, k3, k4, k5, k6, k7, k8, k9, k10]
def interned : List (Array UInt16 × Addr) := []
def slotsUsed : Nat := 0
def theMethod : MethodId := ⟨1, 1⟩
def args0 : Array Value := #[.int 5, .int 9, .int 7]
def aboutOver (below : List Frame) : State where
  vm := { classes := classes, interned := interned.toArray }
  heap := heap
  slotsUsed := slotsUsed
  threads := #[{ frames := .invoking theMethod args0 :: below }]
def below0 : List Frame := [.native { method := ⟨0, 0⟩, args := #[] }]
def about1 : State := aboutOver below0
def p0 : Program := .bare "" "" ""
def e0 : Env := launch0.env 0 0 0
theorem w_frames : about1.frames = Frame.invoking theMethod args0 :: below0 := rfl
set_option maxRecDepth 65536 in
theorem w_args : argsFit about1.vm theMethod args0 = true := by decide +kernel
set_option maxRecDepth 65536 in
theorem w_heap : heapFits about1 = true := by decide +kernel
set_option maxRecDepth 65536 in
theorem w_runnable : about1.curStatus? = some .runnable := by decide +kernel
set_option maxRecDepth 65536 in
theorem w_alone : about1.alone = true := by decide +kernel
set_option maxRecDepth 65536 in
theorem w_named : about1.methodNamed? x = some theMethod := by decide +kernel
set_option maxRecDepth 65536 in
theorem w_hears : about1.hears theMethod below0 = true := by decide +kernel
set_option maxRecDepth 65536 in
theorem w_ripe : about1.ripe theMethod args0 below0 = true := by decide +kernel
theorem w_running : about1.status = .running := rfl
set_option maxRecDepth 65536 in
theorem w_room : about1.hasRoom e0.platform room_1 = true :=
  launch0.hasRoom_least _ room_1 (by decide +kernel) (by decide +kernel) (by decide +kernel) (by decide +kernel) (by decide +kernel) (by decide +kernel)
theorem allAtoms_all (ts : List Jvm.Cond) (a : Array Jvm.Value) (st : Jvm.State) : (allAtoms ts).before a st = ts.all (fun c => c.before a st) := by
  induction ts with
  | nil => rfl
  | cons c t ih =>
    show (Jvm.Cond.and c (allAtoms t)).before a st = _
    rw [Jvm.Cond.before_and, ih, List.all_cons]
def words1 : List Jvm.Cond := Jvm.Cond.code x code maxLocals ret :: tables_1
/-- a 'code' word, met by the world's own term for the bytes: nothing is compared byte by byte -/
theorem code_word {y : MethodName} {bytes : ByteArray} {mx : Nat} {rt : Option FieldType} {a : Array Value} {s : State} {m : MethodId} {meth : Method} {c : Code} (h1 : s.methodNamed? y = some m) (h2 : s.vm.method? m = some meth) (h3 : meth.code = some c) (h4 : c.code = bytes)
    (h5 : (c.maxLocals == mx && c.exceptionTable.isEmpty && decide (c.maxStack ≤ mostOperands) && decide (meth.sig.returnType = rt) && !meth.locks && decide (parseMethodDescriptor y.desc = some meth.sig)) = true) : (Jvm.Cond.code y bytes mx rt).before a s = true := by
  simp only [Bool.and_eq_true, beq_iff_eq, Bool.not_eq_true', decide_eq_true_eq] at h5
  obtain ⟨⟨⟨⟨⟨g1, g2⟩, g3⟩, g4⟩, g5⟩, g6⟩ := h5
  simp [Cond.before, Cond.holds, Cond.value, h1, h2, h3, h4, g1, g2, g3, g4, g5, g6]
def isCode : Jvm.Cond → Bool
  | .code _ _ _ _ => true
  | _ => false
theorem all_split {L : List Jvm.Cond} {P : Jvm.Cond → Bool} (h1 : L.all (fun c => isCode c || P c) = true) (h2 : ∀ c ∈ L.filter isCode, P c = true) : L.all P = true := by
  refine List.all_eq_true.mpr fun c hc => ?_
  have h := List.all_eq_true.mp h1 c hc
  rcases Bool.eq_false_or_eq_true (isCode c) with hi | hi
  · exact h2 c (List.mem_filter.mpr ⟨hc, hi⟩)
  · simpa [hi] using h
set_option maxRecDepth 65536 in
theorem w_c0 : (Jvm.Cond.code x code maxLocals ret).before args0 about1 = true := code_word (m := ⟨1, 1⟩) (meth := k1m1) (c := k1c1) (by decide +kernel) rfl rfl rfl (by decide +kernel)
set_option maxRecDepth 65536 in
theorem w_c1 : (Jvm.Cond.code ({ cls := "java/lang/Math", name := "min", desc := "(II)I" } : Jvm.MethodName) jdk_29_method_69_code (2 : Nat) (Option.some Jvm.ClassFile.FieldType.int)).before args0 about1 = true := code_word (m := ⟨2, 2⟩) (meth := k2m2) (c := k2c2) (by decide +kernel) rfl rfl rfl (by decide +kernel)
set_option maxRecDepth 65536 in
theorem w_c2 : (Jvm.Cond.code ({ cls := "java/lang/Math", name := "max", desc := "(II)I" } : Jvm.MethodName) jdk_29_method_65_code (2 : Nat) (Option.some Jvm.ClassFile.FieldType.int)).before args0 about1 = true := code_word (m := ⟨2, 1⟩) (meth := k2m1) (c := k2c1) (by decide +kernel) rfl rfl rfl (by decide +kernel)
set_option maxRecDepth 65536 in
theorem w_c3 : (Jvm.Cond.code ({ cls := "com/example/rugged_consumer/ruggedconsumer/protocol/VersionRange", name := "<init>", desc := "(II)V" } : Jvm.MethodName) prog_160_method_1_code (3 : Nat) (Option.none : Option Jvm.ClassFile.FieldType)).before args0 about1 = true := code_word (m := ⟨4, 0⟩) (meth := k4m0) (c := k4c0) (by decide +kernel) rfl rfl rfl (by decide +kernel)
set_option maxRecDepth 65536 in
theorem w_c4 : (Jvm.Cond.code ({ cls := "java/lang/Record", name := "<init>", desc := "()V" } : Jvm.MethodName) jdk_30_method_1_code (1 : Nat) (Option.none : Option Jvm.ClassFile.FieldType)).before args0 about1 = true := code_word (m := ⟨3, 0⟩) (meth := k3m0) (c := k3c0) (by decide +kernel) rfl rfl rfl (by decide +kernel)
set_option maxRecDepth 65536 in
theorem w_c5 : (Jvm.Cond.code ({ cls := "java/lang/Object", name := "<init>", desc := "()V" } : Jvm.MethodName) object_method_1_code (1 : Nat) (Option.none : Option Jvm.ClassFile.FieldType)).before args0 about1 = true := code_word (m := ⟨0, 0⟩) (meth := k0m0) (c := k0c0) (by decide +kernel) rfl rfl rfl (by decide +kernel)
set_option maxRecDepth 65536 in
theorem w_c6 : (Jvm.Cond.code ({ cls := "com/example/rugged_consumer/ruggedconsumer/protocol/VersionRange", name := "contains", desc := "(I)Z" } : Jvm.MethodName) prog_160_method_2_code (2 : Nat) (Option.some Jvm.ClassFile.FieldType.boolean)).before args0 about1 = true := code_word (m := ⟨4, 1⟩) (meth := k4m1) (c := k4c1) (by decide +kernel) rfl rfl rfl (by decide +kernel)
def codes1 : List Jvm.Cond := [Jvm.Cond.code x code maxLocals ret, Jvm.Cond.code ({ cls := "java/lang/Math", name := "min", desc := "(II)I" } : Jvm.MethodName) jdk_29_method_69_code (2 : Nat) (Option.some Jvm.ClassFile.FieldType.int), Jvm.Cond.code ({ cls := "java/lang/Math", name := "max", desc := "(II)I" } : Jvm.MethodName) jdk_29_method_65_code (2 : Nat) (Option.some Jvm.ClassFile.FieldType.int), Jvm.Cond.code ({ cls := "com/example/rugged_consumer/ruggedconsumer/protocol/VersionRange", name := "<init>", desc := "(II)V" } : Jvm.MethodName) prog_160_method_1_code (3 : Nat) (Option.none : Option Jvm.ClassFile.FieldType), Jvm.Cond.code ({ cls := "java/lang/Record", name := "<init>", desc := "()V" } : Jvm.MethodName) jdk_30_method_1_code (1 : Nat) (Option.none : Option Jvm.ClassFile.FieldType), Jvm.Cond.code ({ cls := "java/lang/Object", name := "<init>", desc := "()V" } : Jvm.MethodName) object_method_1_code (1 : Nat) (Option.none : Option Jvm.ClassFile.FieldType), Jvm.Cond.code ({ cls := "com/example/rugged_consumer/ruggedconsumer/protocol/VersionRange", name := "contains", desc := "(I)Z" } : Jvm.MethodName) prog_160_method_2_code (2 : Nat) (Option.some Jvm.ClassFile.FieldType.boolean)]
set_option maxRecDepth 65536 in
theorem codes_eq : words1.filter isCode = codes1 := rfl
theorem w_codes : ∀ c ∈ words1.filter isCode, c.before args0 about1 = true := by
  rw [codes_eq]
  intro c hc
  simp only [codes1, List.mem_cons, List.not_mem_nil, or_false] at hc
  rcases hc with rfl | rfl | rfl | rfl | rfl | rfl | rfl
  · exact w_c0
  · exact w_c1
  · exact w_c2
  · exact w_c3
  · exact w_c4
  · exact w_c5
  · exact w_c6
set_option maxRecDepth 65536 in
theorem w_t1 : (words1.take 24).all (fun c => isCode c || c.before args0 about1) = true := by decide +kernel
set_option maxRecDepth 65536 in
theorem w_t2 : (words1.drop 24).all (fun c => isCode c || c.before args0 about1) = true := by decide +kernel
theorem w_tables : (allAtoms (Jvm.Cond.code x code maxLocals ret :: tables_1)).before args0 about1 = true := by
  rw [allAtoms_all]
  show words1.all (fun c => c.before args0 about1) = true
  refine all_split ?_ w_codes
  rw [← List.take_append_drop 24 words1, List.all_append, w_t1, w_t2]
  rfl
set_option maxRecDepth 65536 in
theorem w_case : (Jvm.Cond.and given_1 narrow_1).before args0 about1 = true := by decide +kernel
theorem w_applies : (headSpec (Jvm.Cond.code x code maxLocals ret :: tables_1) room_1).applies x e0.platform about1 = true :=
  (Spec.applies_iff w_frames).mpr ⟨w_running, w_runnable, w_alone, w_named, w_hears, w_ripe, w_room, w_tables⟩
theorem atStart : AtStart classFile x code maxLocals ret World_1 tables_1 room_1 Calls_1 rest_1 Pre_1 launch0 p0 e0 about1 theMethod args0 below0 :=
  ⟨lists_1, trivial, launch0.admits_env _ _ _, launch0.least_env, fairChoices_fair.cas, fairChoices_fair.clock, w_frames, w_args, w_heap, w_applies, trivial, trivial, w_case⟩
end start1
theorem witness_1 : WitnessClaimed_1 := ⟨start1.p0, start1.e0, start1.about1, start1.theMethod, start1.args0, start1.below0, start1.atStart⟩
end Jvm.Pilot.@@N@@
