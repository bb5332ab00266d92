import JvmDerived
import JvmDerived.Pilot.@@N@@Statement
import JvmDerived.Pilot.@@N@@Code
set_option linter.unusedVariables false
set_option linter.unusedSimpArgs false
namespace Jvm.RoadKit
open Sem ClassFile Op Lib Jvm.Stand Jvm.Free Jvm.LawKit
section New
variable {p : Program} {l : Launch} {e : Env} {R : Room} {s : State} {m : MethodId} {args : Array Value} {below : List Frame} {meth : Method} {c : Code} {T : State} {locs : List Loc} {cells slots : Nat}
theorem retI (X : Stand p l e R s m args below meth c T locs cells slots) (hx : p.tables.exec = Jvm.exec) {pc : Nat} {Ls : Array Slot} {z : Int32} {rest : List Value} (hret : meth.sig.returnType = some .int) (hd : decode c.code pc = .ok (.ireturn, 1)) {fs : List Frame}
    (hl : ∀ (f : JFrame) (acts : List Action), f.method = m → f.locked = none → f.entered = [] → (doReturn e (T.setTop f) acts (some (.int z))).1 = T.setFrames fs) : Steps p.tables e below (T.setTop (mkF m pc Ls (.int z :: rest))) (T.setFrames fs) := by
  have hm' : T.vm.method? m = some meth := X.method'
  have hn : narrow .int (.int z) = .int z := rfl
  show Steps p.tables e below (T.setTop { method := m, pc := pc, locals := Ls, stack := _ :: rest, locked := none }) _
  jvm_step X.here [X.here.top, hx, hd, hm', hret, hn]
  first | (intro acts; rw [hl _ acts rfl rfl rfl]) | rw [hl _ _ rfl rfl rfl]
  exact Steps.refl _
end New
end Jvm.RoadKit
namespace Jvm.Pilot.@@N@@
open Jvm Jvm.ClassFile Sem Op Lib Jvm.Free Jvm.Stand Jvm.LawKit Jvm.RoadKit Bundle Jvm.Pilot.@@N@@.Jvm.D

def own_e (a b : Int64) : Int64 := if a - b < 0 then a else b
theorem own_e_t {a b : Int64} (h : ¬ ((lcmpW (a - b) (0 : Int64)) < (0 : Int32))) : some (Value.long b) = some (Value.long (own_e a b)) := by
  rw [lw_lt] at h
  rw [own_e, if_neg h]
theorem own_e_f {a b : Int64} (h : (lcmpW (a - b) (0 : Int64)) < (0 : Int32)) : some (Value.long a) = some (Value.long (own_e a b)) := by
  rw [lw_lt] at h
  rw [own_e, if_pos h]
theorem own_diff (a d : Int64) (h : ¬ d.toInt = -9223372036854775808) : (a - (a + d)).toInt = - d.toInt ∧ ((a + d) - a).toInt = d.toInt := by
  have r1 := rng64 a; have r2 := rng64 d; have r3 := rng64 (a + d); have r4 := rng64 (a - (a + d)); have r5 := rng64 ((a + d) - a)
  have c1 := c_ladd a d; have c2 := c_lsub a (a + d); have c3 := c_lsub (a + d) a
  constructor <;> omega
theorem own_min0 {d : Int64} (h : ¬ (lcmpW d (-9223372036854775808 : Int64)) = (0 : Int32)) : ¬ d.toInt = -9223372036854775808 := by
  rw [lw_eq] at h
  intro q
  exact h (Int64.toInt_inj.mp (q.trans (by decide)))
theorem own_le {a d : Int64} (h : ¬ (lcmpW d (-9223372036854775808 : Int64)) = (0 : Int32)) (h2 : ¬ ((0 : Int32) < (lcmpW d (0 : Int64)))) :
    (lcmpW (own_e a (a + d)) (a + d)) = (0 : Int32) ∧ (lcmpW (own_e (a + d) a) (a + d)) = (0 : Int32) := by
  have hm := own_min0 h
  rw [lw_gt, Int64.lt_iff_toInt_lt, show (0 : Int64).toInt = 0 from by decide] at h2
  obtain ⟨v1, v2⟩ := own_diff a d hm
  rw [lw_eq, lw_eq, own_e, own_e]
  constructor
  · rw [if_neg]
    rw [Int64.lt_iff_toInt_lt, show (0 : Int64).toInt = 0 from by decide]; omega
  · split
    · rfl
    · rename_i q
      rw [Int64.lt_iff_toInt_lt, show (0 : Int64).toInt = 0 from by decide] at q
      apply Int64.toInt_inj.mp
      have r1 := rng64 a; have r3 := rng64 (a + d); have c1 := c_ladd a d
      omega
theorem own_gt {a d : Int64} (h : ¬ (lcmpW d (-9223372036854775808 : Int64)) = (0 : Int32)) (h2 : (0 : Int32) < (lcmpW d (0 : Int64))) :
    (lcmpW (own_e a (a + d)) a) = (0 : Int32) ∧ (lcmpW (own_e (a + d) a) a) = (0 : Int32) := by
  have hm := own_min0 h
  rw [lw_gt, Int64.lt_iff_toInt_lt, show (0 : Int64).toInt = 0 from by decide] at h2
  obtain ⟨v1, v2⟩ := own_diff a d hm
  rw [lw_eq, lw_eq, own_e, own_e]
  constructor
  · rw [if_pos]
    rw [Int64.lt_iff_toInt_lt, show (0 : Int64).toInt = 0 from by decide]; omega
  · rw [if_neg]
    rw [Int64.lt_iff_toInt_lt, show (0 : Int64).toInt = 0 from by decide]; omega
theorem own_min {a d : Int64} (h : (lcmpW d (-9223372036854775808 : Int64)) = (0 : Int32)) :
    (lcmpW (own_e a (a + d)) a) = (0 : Int32) ∧ ¬ (lcmpW (own_e (a + d) a) a) = (0 : Int32) ∧ (lcmpW (own_e (a + d) a) (a + d)) = (0 : Int32) := by
  rw [lw_eq] at h
  have hd : d.toInt = -9223372036854775808 := by rw [h]; decide
  have r1 := rng64 a; have r2 := rng64 d; have r3 := rng64 (a + d); have r4 := rng64 (a - (a + d)); have r5 := rng64 ((a + d) - a)
  have c1 := c_ladd a d; have c2 := c_lsub a (a + d); have c3 := c_lsub (a + d) a
  have p1 : a - (a + d) < 0 := by rw [Int64.lt_iff_toInt_lt, show (0 : Int64).toInt = 0 from by decide]; omega
  have p2 : (a + d) - a < 0 := by rw [Int64.lt_iff_toInt_lt, show (0 : Int64).toInt = 0 from by decide]; omega
  rw [lw_eq, lw_eq, lw_eq, own_e, own_e, if_pos p1, if_pos p2]
  refine ⟨rfl, fun q => ?_, rfl⟩
  rw [q] at c1
  omega
theorem d1_0 : decode prog_20_method_6_code 0 = .ok (.lload_n 0, 1) := by decide +kernel
theorem d1_1 : decode prog_20_method_6_code 1 = .ok (.lload_n 2, 1) := by decide +kernel
theorem d1_2 : decode prog_20_method_6_code 2 = .ok (.lsub, 1) := by decide +kernel
theorem d1_3 : decode prog_20_method_6_code 3 = .ok (.lconst 0, 1) := by decide +kernel
theorem d1_4 : decode prog_20_method_6_code 4 = .ok (.lcmp, 1) := by decide +kernel
theorem d1_5 : decode prog_20_method_6_code 5 = .ok (.ifCond .ge 7, 3) := by decide +kernel
theorem d1_12 : decode prog_20_method_6_code 12 = .ok (.lload_n 2, 1) := by decide +kernel
theorem d1_13 : decode prog_20_method_6_code 13 = .ok (.lreturn, 1) := by decide +kernel
theorem pn_1 : plainName "com/example/bouncer/bouncer/Store" = true := by first | (simp [plainName, overriddenIn]; done) | decide +kernel
theorem ef_1 (m : MethodId) (x0 : Int64) (x1 : Int64) : entryFrame m #[(.long x0), (.long x1)] 4 = mkF m 0 #[.val (.long x0), .second, .val (.long x1), .second] [] := by first | (simp [entryFrame, mkF, argsToLocals, Value.category]; done) | rfl
theorem d1_8 : decode prog_20_method_6_code 8 = .ok (.lload_n 0, 1) := by decide +kernel
theorem d1_9 : decode prog_20_method_6_code 9 = .ok (.goto 4, 3) := by decide +kernel
def Q1 (Z : State) (q1 : Int64) (q2 : Int64) (h0 : Heap) (n0 : Nat) (v : Option Value) (h : Heap) (L : List Loc) : Prop := v = some (.long (own_e q1 q2)) ∧ Fr n0 L ∧ h = h0
set_option maxRecDepth 65536 in
set_option maxHeartbeats 40000000 in
theorem rm1_t (l : Launch) (Z : State) (a0 : Array Value) (hw : ∀ d ∈ tables_1, d.before a0 Z = true) (ws : List Jvm.Cond) (q1 : Int64) (q2 : Int64) (h0 : Heap) (n0 : Nat) (Z0 : n0 ≤ h0.size) (hc5 : ¬ ((lcmpW (q1 - q2) (0 : Int64)) < (0 : Int32))) :
    MetFree l (⟨"com/example/bouncer/bouncer/Store", "earlier", "(JJ)J"⟩ : MethodName) (head1 (Jvm.Cond.code (⟨"com/example/bouncer/bouncer/Store", "earlier", "(JJ)J"⟩ : MethodName) prog_20_method_6_code 4 (some .long) :: ws) ({ frames := 0, cells := 0, slots := 0, locals := 0 } : Room)) (fun a U => a = #[(.long q1), (.long q2)] ∧ Z.Warmed39 U.vm ∧ U.heap = h0) (fun _ _ _ _ _ => True) (fun _ U o U' => ∃ v L, o = .returned v ∧ Q1 Z q1 q2 h0 n0 v U'.heap L ∧ FrameEnd U o U' L ({ frames := 0, cells := 0, slots := 0, locals := 0 } : Room).cells ({ frames := 0, cells := 0, slots := 0, locals := 0 } : Room).slots) := by
  refine MetFree.of_bodySF (plainFor_of_name pn_1) hisR ?_
  intro p e s m args below meth c s₁ Bd hml0 hP hK
  obtain ⟨rfl, hZ, hh⟩ := hP
  have hx := Bd.exec
  have hby := Bd.bytes
  have hml : c.maxLocals = 4 := hml0
  have hown : s.vm.findClass "com/example/bouncer/bouncer/Store" = some m.cls := findClass_of_methodNamed Bd.named
  have hnm := (name_of_methodNamed Bd.named Bd.method).1
  have X0 : Stand p l e ({ frames := 0, cells := 0, slots := 0, locals := 0 } : Room) s m #[(.long q1), (.long q2)] below meth c s₁ [] 0 0 := Stand.of_body Bd
  have e0 : s₁.heap = h0 := by rw [← hh, Bd.state]; rfl
  have N0 := Fr.nil n0
  have pre0 : ∀ t, Steps p.tables e below (s₁.setTop (mkF m 0 #[.val (.long q1), .second, .val (.long q2), .second] [])) t → Steps p.tables e below (s₁.setTop (entryFrame m #[(.long q1), (.long q2)] 4)) t := fun t k => castTop (ef_1 m q1 q2) k

  obtain ⟨fs, hr, hrun, hended, hW, hsame⟩ := X0.leave (v := some (.long q2)) (fun h => by rw [Bd.returns] at h; cases h)
  refine ⟨_, _, pre0 _ ?_, hrun, hended, _, _, rfl, ?_, ⟨_, rfl⟩, hW, hsame.mono (by decide) (by decide)⟩
  · show Steps p.tables e below (s₁.setTop (mkF m 0 #[.val (.long q1), .second, .val (.long q2), .second] [])) _
    refine XS.lloadN X0.here hx rfl (hb hby d1_0) rfl ?_
    show Steps p.tables e below (s₁.setTop (mkF m 1 #[.val (.long q1), .second, .val (.long q2), .second] [(.long q1)])) _
    refine XS.lloadN X0.here hx rfl (hb hby d1_1) rfl ?_
    show Steps p.tables e below (s₁.setTop (mkF m 2 #[.val (.long q1), .second, .val (.long q2), .second] [(.long q2), (.long q1)])) _
    refine XS.lsub X0.here hx rfl (hb hby d1_2) rfl ?_
    show Steps p.tables e below (s₁.setTop (mkF m 3 #[.val (.long q1), .second, .val (.long q2), .second] [(.long (q1 - q2))])) _
    refine XS.lconst X0.here hx rfl (hb hby d1_3) ?_
    show Steps p.tables e below (s₁.setTop (mkF m 4 #[.val (.long q1), .second, .val (.long q2), .second] [(.long (0 : Int64)), (.long (q1 - q2))])) _
    refine XS.lcmp X0.here hx rfl (hb hby d1_4) rfl ?_
    show Steps p.tables e below (s₁.setTop (mkF m 5 #[.val (.long q1), .second, .val (.long q2), .second] [(.int (lcmpW (q1 - q2) (0 : Int64)))])) _
    refine XS.ifYes X0.here hx rfl (pc0 := 5) (pc' := 12) rfl (hb hby d1_5) rfl ((if0 _ _).trans (flt hc5).2.1) (by decide) (by decide) ?_
    show Steps p.tables e below (s₁.setTop (mkF m 12 #[.val (.long q1), .second, .val (.long q2), .second] [])) _
    refine XS.lloadN X0.here hx rfl (hb hby d1_12) rfl ?_
    show Steps p.tables e below (s₁.setTop (mkF m 13 #[.val (.long q1), .second, .val (.long q2), .second] [(.long q2)])) _
    jvm_step X0.here [X0.here.top, hx, (hb hby d1_13), X0.method', Bd.returns, narrow]
    first | (intro acts; rw [hr _ acts rfl rfl rfl]) | rw [hr _ _ rfl rfl rfl]
    exact Steps.refl _
  · show Q1 Z q1 q2 h0 n0 _ s₁.heap _
    rw [e0]
    exact ⟨own_e_t hc5, N0, rfl⟩
set_option maxRecDepth 65536 in
set_option maxHeartbeats 40000000 in
theorem rm1_f (l : Launch) (Z : State) (a0 : Array Value) (hw : ∀ d ∈ tables_1, d.before a0 Z = true) (ws : List Jvm.Cond) (q1 : Int64) (q2 : Int64) (h0 : Heap) (n0 : Nat) (Z0 : n0 ≤ h0.size) (hc5 : (lcmpW (q1 - q2) (0 : Int64)) < (0 : Int32)) :
    MetFree l (⟨"com/example/bouncer/bouncer/Store", "earlier", "(JJ)J"⟩ : MethodName) (head1 (Jvm.Cond.code (⟨"com/example/bouncer/bouncer/Store", "earlier", "(JJ)J"⟩ : MethodName) prog_20_method_6_code 4 (some .long) :: ws) ({ frames := 0, cells := 0, slots := 0, locals := 0 } : Room)) (fun a U => a = #[(.long q1), (.long q2)] ∧ Z.Warmed39 U.vm ∧ U.heap = h0) (fun _ _ _ _ _ => True) (fun _ U o U' => ∃ v L, o = .returned v ∧ Q1 Z q1 q2 h0 n0 v U'.heap L ∧ FrameEnd U o U' L ({ frames := 0, cells := 0, slots := 0, locals := 0 } : Room).cells ({ frames := 0, cells := 0, slots := 0, locals := 0 } : Room).slots) := by
  refine MetFree.of_bodySF (plainFor_of_name pn_1) hisR ?_
  intro p e s m args below meth c s₁ Bd hml0 hP hK
  obtain ⟨rfl, hZ, hh⟩ := hP
  have hx := Bd.exec
  have hby := Bd.bytes
  have hml : c.maxLocals = 4 := hml0
  have hown : s.vm.findClass "com/example/bouncer/bouncer/Store" = some m.cls := findClass_of_methodNamed Bd.named
  have hnm := (name_of_methodNamed Bd.named Bd.method).1
  have X0 : Stand p l e ({ frames := 0, cells := 0, slots := 0, locals := 0 } : Room) s m #[(.long q1), (.long q2)] below meth c s₁ [] 0 0 := Stand.of_body Bd
  have e0 : s₁.heap = h0 := by rw [← hh, Bd.state]; rfl
  have N0 := Fr.nil n0
  have pre0 : ∀ t, Steps p.tables e below (s₁.setTop (mkF m 0 #[.val (.long q1), .second, .val (.long q2), .second] [])) t → Steps p.tables e below (s₁.setTop (entryFrame m #[(.long q1), (.long q2)] 4)) t := fun t k => castTop (ef_1 m q1 q2) k

  obtain ⟨fs, hr, hrun, hended, hW, hsame⟩ := X0.leave (v := some (.long q1)) (fun h => by rw [Bd.returns] at h; cases h)
  refine ⟨_, _, pre0 _ ?_, hrun, hended, _, _, rfl, ?_, ⟨_, rfl⟩, hW, hsame.mono (by decide) (by decide)⟩
  · show Steps p.tables e below (s₁.setTop (mkF m 0 #[.val (.long q1), .second, .val (.long q2), .second] [])) _
    refine XS.lloadN X0.here hx rfl (hb hby d1_0) rfl ?_
    show Steps p.tables e below (s₁.setTop (mkF m 1 #[.val (.long q1), .second, .val (.long q2), .second] [(.long q1)])) _
    refine XS.lloadN X0.here hx rfl (hb hby d1_1) rfl ?_
    show Steps p.tables e below (s₁.setTop (mkF m 2 #[.val (.long q1), .second, .val (.long q2), .second] [(.long q2), (.long q1)])) _
    refine XS.lsub X0.here hx rfl (hb hby d1_2) rfl ?_
    show Steps p.tables e below (s₁.setTop (mkF m 3 #[.val (.long q1), .second, .val (.long q2), .second] [(.long (q1 - q2))])) _
    refine XS.lconst X0.here hx rfl (hb hby d1_3) ?_
    show Steps p.tables e below (s₁.setTop (mkF m 4 #[.val (.long q1), .second, .val (.long q2), .second] [(.long (0 : Int64)), (.long (q1 - q2))])) _
    refine XS.lcmp X0.here hx rfl (hb hby d1_4) rfl ?_
    show Steps p.tables e below (s₁.setTop (mkF m 5 #[.val (.long q1), .second, .val (.long q2), .second] [(.int (lcmpW (q1 - q2) (0 : Int64)))])) _
    refine XS.ifNo X0.here hx rfl (hb hby d1_5) rfl ((if0 _ _).trans (tlt hc5).2.1) ?_
    show Steps p.tables e below (s₁.setTop (mkF m 8 #[.val (.long q1), .second, .val (.long q2), .second] [])) _
    refine XS.lloadN X0.here hx rfl (hb hby d1_8) rfl ?_
    show Steps p.tables e below (s₁.setTop (mkF m 9 #[.val (.long q1), .second, .val (.long q2), .second] [(.long q1)])) _
    refine XS.goto X0.here hx rfl (pc0 := 9) (pc' := 13) rfl (hb hby d1_9) (by decide) (by decide) ?_
    show Steps p.tables e below (s₁.setTop (mkF m 13 #[.val (.long q1), .second, .val (.long q2), .second] [(.long q1)])) _
    jvm_step X0.here [X0.here.top, hx, (hb hby d1_13), X0.method', Bd.returns, narrow]
    first | (intro acts; rw [hr _ acts rfl rfl rfl]) | rw [hr _ _ rfl rfl rfl]
    exact Steps.refl _
  · show Q1 Z q1 q2 h0 n0 _ s₁.heap _
    rw [e0]
    exact ⟨own_e_f hc5, N0, rfl⟩
theorem rm1 (l : Launch) (Z : State) (a0 : Array Value) (hw : ∀ d ∈ tables_1, d.before a0 Z = true) (ws : List Jvm.Cond) (q1 : Int64) (q2 : Int64) (h0 : Heap) (n0 : Nat) (Z0 : n0 ≤ h0.size) :
    MetFree l (⟨"com/example/bouncer/bouncer/Store", "earlier", "(JJ)J"⟩ : MethodName) (head1 (Jvm.Cond.code (⟨"com/example/bouncer/bouncer/Store", "earlier", "(JJ)J"⟩ : MethodName) prog_20_method_6_code 4 (some .long) :: ws) ({ frames := 0, cells := 0, slots := 0, locals := 0 } : Room)) (fun a U => a = #[(.long q1), (.long q2)] ∧ Z.Warmed39 U.vm ∧ U.heap = h0) (fun _ _ _ _ _ => True) (fun _ U o U' => ∃ v L, o = .returned v ∧ Q1 Z q1 q2 h0 n0 v U'.heap L ∧ FrameEnd U o U' L ({ frames := 0, cells := 0, slots := 0, locals := 0 } : Room).cells ({ frames := 0, cells := 0, slots := 0, locals := 0 } : Room).slots) := by
  by_cases hc5 : (lcmpW (q1 - q2) (0 : Int64)) < (0 : Int32)
  · exact rm1_f l Z a0 hw ws q1 q2 h0 n0 Z0 hc5
  · exact rm1_t l Z a0 hw ws q1 q2 h0 n0 Z0 hc5
theorem pn_0 : plainName "com/example/bouncer/bouncer/StoreEarlierPinLaw" = true := by first | (simp [plainName, overriddenIn]; done) | decide +kernel
theorem pd_0_0 : parseMethodDescriptor "(JJ)J" = some ⟨[.long, .long], some .long⟩ := by decide +kernel
theorem ef_0 (m : MethodId) (x0 : Int64) (x1 : Int64) : entryFrame m #[(.long x0), (.long x1)] maxLocals = mkF m 0 #[.val (.long x0), .second, .val (.long x1), .second, .unset, .unset, .unset, .unset, .unset, .unset, .unset, .unset] [] := by first | (simp [entryFrame, mkF, argsToLocals, Value.category, maxLocals]; done) | rfl
def Q0 (Z : State) (q1 : Int64) (q2 : Int64) (h0 : Heap) (n0 : Nat) (v : Option Value) (h : Heap) (L : List Loc) : Prop := v = some (.int (1 : Int32)) ∧ Fr n0 L
set_option maxRecDepth 65536 in
set_option maxHeartbeats 40000000 in
theorem rm0_ttff (l : Launch) (Z : State) (a0 : Array Value) (hw : ∀ d ∈ tables_1, d.before a0 Z = true) (ws : List Jvm.Cond) (q1 : Int64) (q2 : Int64) (h0 : Heap) (n0 : Nat) (Z0 : n0 ≤ h0.size) (hc26 : ¬ ((lcmpW q2 (-9223372036854775808 : Int64)) = (0 : Int32))) (hc68 : ¬ ((0 : Int32) < (lcmpW q2 (0 : Int64)))) :
    MetFree l x (head1 (Jvm.Cond.code x code maxLocals ret :: ws) room_1) (fun a U => a = #[(.long q1), (.long q2)] ∧ Z.Warmed39 U.vm ∧ U.heap = h0) (fun _ _ _ _ _ => True) (fun _ U o U' => ∃ v L, o = .returned v ∧ Q0 Z q1 q2 h0 n0 v U'.heap L ∧ FrameEnd U o U' L room_1.cells room_1.slots) := by
  refine MetFree.of_bodySF (plainFor_of_name pn_0) hisR ?_
  intro p e s m args below meth c s₁ Bd hml0 hP hK
  obtain ⟨rfl, hZ, hh⟩ := hP
  have hx := Bd.exec
  have hby := Bd.bytes
  have hml : c.maxLocals = 12 := hml0
  have hown : s.vm.findClass "com/example/bouncer/bouncer/StoreEarlierPinLaw" = some m.cls := findClass_of_methodNamed Bd.named
  have hnm := (name_of_methodNamed Bd.named Bd.method).1
  have X0 : Stand p l e room_1 s m #[(.long q1), (.long q2)] below meth c s₁ [] 0 0 := Stand.of_body Bd
  have e0 : s₁.heap = h0 := by rw [← hh, Bd.state]; rfl
  have N0 := Fr.nil n0
  have pre0 : ∀ t, Steps p.tables e below (s₁.setTop (mkF m 0 #[.val (.long q1), .second, .val (.long q2), .second, .unset, .unset, .unset, .unset, .unset, .unset, .unset, .unset] [])) t → Steps p.tables e below (s₁.setTop (entryFrame m #[(.long q1), (.long q2)] maxLocals)) t := fun t k => castTop (ef_0 m q1 q2) k
  obtain ⟨_, _, ⟨T3, L3, k3, n3⟩, -, X3, ⟨Lc3, hQ3, l3, y3, z3⟩, st3⟩ := Jvm.LawKit.callS X0 hx (y := (⟨"com/example/bouncer/bouncer/Store", "earlier", "(JJ)J"⟩ : MethodName)) hown (mvT hZ (hw _ (List.mem_of_getElem? (i := 0) rfl))) (mvT hZ (hw _ (List.mem_of_getElem? (i := 1) rfl))) (mvT hZ (hw _ (List.mem_of_getElem? (i := 2) rfl))) (mvT hZ (hw _ (List.mem_of_getElem? (i := 3) rfl))) (by decide) (backOf (W := 0) (rm1 l Z a0 hw [] q1 (q1 + q2) h0 n0 Z0) hZ (hw _ (List.mem_of_getElem? (i := 3) rfl)) (hw _ (List.mem_of_getElem? (i := 2) rfl)) (by decide) (by decide)) (g := (mkF m 8 #[.val (.long q1), .second, .val (.long q2), .second, .val (.long (q1 + q2)), .second, .unset, .unset, .unset, .unset, .unset, .unset] [(.long (q1 + q2)), (.long q1)])) rfl (by rw [hml]; rfl) (argsL := [(.long q1), (.long (q1 + q2))]) (rest := []) (lenOf pd_0_0 rfl) rfl (by show 2 * 0 + _ ≤ _; exact Nat.le_of_eq rfl) (hb hby at_8) (fun _ _ => ⟨rfl, e0, (by decide : 0 + 0 ≤ _), (by decide : 0 + 0 ≤ _)⟩)
  dsimp only [Pt.U, Pt.locs, Pt.cells, Pt.slots] at X3 l3 y3 z3 st3 hQ3
  subst l3 y3 z3
  obtain ⟨rfl, N3q, e3⟩ := hQ3      -- what it returned, that it wrote nothing old, and the rest of your Q1
  have N3 := Fr.app N0 N3q
  obtain ⟨_, _, ⟨T4, L4, k4, n4⟩, -, X4, ⟨Lc4, hQ4, l4, y4, z4⟩, st4⟩ := Jvm.LawKit.callS X3 hx (y := (⟨"com/example/bouncer/bouncer/Store", "earlier", "(JJ)J"⟩ : MethodName)) hown (mvT hZ (hw _ (List.mem_of_getElem? (i := 0) rfl))) (mvT hZ (hw _ (List.mem_of_getElem? (i := 1) rfl))) (mvT hZ (hw _ (List.mem_of_getElem? (i := 2) rfl))) (mvT hZ (hw _ (List.mem_of_getElem? (i := 3) rfl))) (by decide) (backOf (W := 0) (rm1 l Z a0 hw [] (q1 + q2) q1 T3.heap n0 (by rw [e3]; exact Z0)) hZ (hw _ (List.mem_of_getElem? (i := 3) rfl)) (hw _ (List.mem_of_getElem? (i := 2) rfl)) (by decide) (by decide)) (g := (mkF m 16 #[.val (.long q1), .second, .val (.long q2), .second, .val (.long (q1 + q2)), .second, .val (.long (own_e q1 (q1 + q2))), .second, .unset, .unset, .unset, .unset] [(.long q1), (.long (q1 + q2))])) rfl (by rw [hml]; rfl) (argsL := [(.long (q1 + q2)), (.long q1)]) (rest := []) (lenOf pd_0_0 rfl) rfl (by show 2 * 0 + _ ≤ _; exact Nat.le_of_eq rfl) (hb hby at_16) (fun _ _ => ⟨rfl, rfl, (by decide : 0 + 0 ≤ _), (by decide : 0 + 0 ≤ _)⟩)
  dsimp only [Pt.U, Pt.locs, Pt.cells, Pt.slots] at X4 l4 y4 z4 st4 hQ4
  subst l4 y4 z4
  obtain ⟨rfl, N4q, e4⟩ := hQ4      -- what it returned, that it wrote nothing old, and the rest of your Q1
  have N4 := Fr.app N3 N4q
  obtain ⟨fs, hr, hrun, hended, hW, hsame⟩ := X4.leave (v := some (.int (1 : Int32))) (fun h => by rw [Bd.returns] at h; cases h)
  refine ⟨_, _, pre0 _ ?_, hrun, hended, _, _, rfl, ?_, ⟨_, rfl⟩, hW, hsame.mono (by decide) (by decide)⟩
  · show Steps p.tables e below (s₁.setTop (mkF m 0 #[.val (.long q1), .second, .val (.long q2), .second, .unset, .unset, .unset, .unset, .unset, .unset, .unset, .unset] [])) _
    refine XS.lloadN X0.here hx rfl (hb hby at_0) rfl ?_
    show Steps p.tables e below (s₁.setTop (mkF m 1 #[.val (.long q1), .second, .val (.long q2), .second, .unset, .unset, .unset, .unset, .unset, .unset, .unset, .unset] [(.long q1)])) _
    refine XS.lloadN X0.here hx rfl (hb hby at_1) rfl ?_
    show Steps p.tables e below (s₁.setTop (mkF m 2 #[.val (.long q1), .second, .val (.long q2), .second, .unset, .unset, .unset, .unset, .unset, .unset, .unset, .unset] [(.long q2), (.long q1)])) _
    refine XS.ladd X0.here hx rfl (hb hby at_2) rfl ?_
    show Steps p.tables e below (s₁.setTop (mkF m 3 #[.val (.long q1), .second, .val (.long q2), .second, .unset, .unset, .unset, .unset, .unset, .unset, .unset, .unset] [(.long (q1 + q2))])) _
    refine XS.lstore X0.here hx rfl (hb hby at_3) rfl (l' := #[.val (.long q1), .second, .val (.long q2), .second, .val (.long (q1 + q2)), .second, .unset, .unset, .unset, .unset, .unset, .unset]) rfl ?_
    show Steps p.tables e below (s₁.setTop (mkF m 5 #[.val (.long q1), .second, .val (.long q2), .second, .val (.long (q1 + q2)), .second, .unset, .unset, .unset, .unset, .unset, .unset] [])) _
    refine XS.lloadN X0.here hx rfl (hb hby at_5) rfl ?_
    show Steps p.tables e below (s₁.setTop (mkF m 6 #[.val (.long q1), .second, .val (.long q2), .second, .val (.long (q1 + q2)), .second, .unset, .unset, .unset, .unset, .unset, .unset] [(.long q1)])) _
    refine XS.lload X0.here hx rfl (hb hby at_6) rfl ?_
    show Steps p.tables e below (s₁.setTop (mkF m 8 #[.val (.long q1), .second, .val (.long q2), .second, .val (.long (q1 + q2)), .second, .unset, .unset, .unset, .unset, .unset, .unset] [(.long (q1 + q2)), (.long q1)])) _
    refine st3 _ ?_
    show Steps p.tables e below (T3.setTop (mkF m 11 #[.val (.long q1), .second, .val (.long q2), .second, .val (.long (q1 + q2)), .second, .unset, .unset, .unset, .unset, .unset, .unset] [(.long (own_e q1 (q1 + q2)))])) _
    refine XS.lstore X3.here hx rfl (hb hby at_11) rfl (l' := #[.val (.long q1), .second, .val (.long q2), .second, .val (.long (q1 + q2)), .second, .val (.long (own_e q1 (q1 + q2))), .second, .unset, .unset, .unset, .unset]) rfl ?_
    show Steps p.tables e below (T3.setTop (mkF m 13 #[.val (.long q1), .second, .val (.long q2), .second, .val (.long (q1 + q2)), .second, .val (.long (own_e q1 (q1 + q2))), .second, .unset, .unset, .unset, .unset] [])) _
    refine XS.lload X3.here hx rfl (hb hby at_13) rfl ?_
    show Steps p.tables e below (T3.setTop (mkF m 15 #[.val (.long q1), .second, .val (.long q2), .second, .val (.long (q1 + q2)), .second, .val (.long (own_e q1 (q1 + q2))), .second, .unset, .unset, .unset, .unset] [(.long (q1 + q2))])) _
    refine XS.lloadN X3.here hx rfl (hb hby at_15) rfl ?_
    show Steps p.tables e below (T3.setTop (mkF m 16 #[.val (.long q1), .second, .val (.long q2), .second, .val (.long (q1 + q2)), .second, .val (.long (own_e q1 (q1 + q2))), .second, .unset, .unset, .unset, .unset] [(.long q1), (.long (q1 + q2))])) _
    refine st4 _ ?_
    show Steps p.tables e below (T4.setTop (mkF m 19 #[.val (.long q1), .second, .val (.long q2), .second, .val (.long (q1 + q2)), .second, .val (.long (own_e q1 (q1 + q2))), .second, .unset, .unset, .unset, .unset] [(.long (own_e (q1 + q2) q1))])) _
    refine XS.lstore X4.here hx rfl (hb hby at_19) rfl (l' := #[.val (.long q1), .second, .val (.long q2), .second, .val (.long (q1 + q2)), .second, .val (.long (own_e q1 (q1 + q2))), .second, .val (.long (own_e (q1 + q2) q1)), .second, .unset, .unset]) rfl ?_
    show Steps p.tables e below (T4.setTop (mkF m 21 #[.val (.long q1), .second, .val (.long q2), .second, .val (.long (q1 + q2)), .second, .val (.long (own_e q1 (q1 + q2))), .second, .val (.long (own_e (q1 + q2) q1)), .second, .unset, .unset] [])) _
    refine XS.lloadN X4.here hx rfl (hb hby at_21) rfl ?_
    show Steps p.tables e below (T4.setTop (mkF m 22 #[.val (.long q1), .second, .val (.long q2), .second, .val (.long (q1 + q2)), .second, .val (.long (own_e q1 (q1 + q2))), .second, .val (.long (own_e (q1 + q2) q1)), .second, .unset, .unset] [(.long q2)])) _
    refine X4.ldc2Long hx hown (mvT hZ (hw _ (List.mem_of_getElem? (i := 4) rfl))) (g := (mkF m 22 #[.val (.long q1), .second, .val (.long q2), .second, .val (.long (q1 + q2)), .second, .val (.long (own_e q1 (q1 + q2))), .second, .val (.long (own_e (q1 + q2) q1)), .second, .unset, .unset] [(.long q2)])) rfl (hb hby at_22) _ ?_
    show Steps p.tables e below (T4.setTop (mkF m 25 #[.val (.long q1), .second, .val (.long q2), .second, .val (.long (q1 + q2)), .second, .val (.long (own_e q1 (q1 + q2))), .second, .val (.long (own_e (q1 + q2) q1)), .second, .unset, .unset] [(.long (-9223372036854775808 : Int64)), (.long q2)])) _
    refine XS.lcmp X4.here hx rfl (hb hby at_25) rfl ?_
    show Steps p.tables e below (T4.setTop (mkF m 26 #[.val (.long q1), .second, .val (.long q2), .second, .val (.long (q1 + q2)), .second, .val (.long (own_e q1 (q1 + q2))), .second, .val (.long (own_e (q1 + q2) q1)), .second, .unset, .unset] [(.int (lcmpW q2 (-9223372036854775808 : Int64)))])) _
    refine XS.ifYes X4.here hx rfl (pc0 := 26) (pc' := 65) rfl (hb hby at_26) rfl ((if0 _ _).trans (feq hc26).2) (by decide) (by decide) ?_
    show Steps p.tables e below (T4.setTop (mkF m 65 #[.val (.long q1), .second, .val (.long q2), .second, .val (.long (q1 + q2)), .second, .val (.long (own_e q1 (q1 + q2))), .second, .val (.long (own_e (q1 + q2) q1)), .second, .unset, .unset] [])) _
    refine XS.lloadN X4.here hx rfl (hb hby at_65) rfl ?_
    show Steps p.tables e below (T4.setTop (mkF m 66 #[.val (.long q1), .second, .val (.long q2), .second, .val (.long (q1 + q2)), .second, .val (.long (own_e q1 (q1 + q2))), .second, .val (.long (own_e (q1 + q2) q1)), .second, .unset, .unset] [(.long q2)])) _
    refine XS.lconst X4.here hx rfl (hb hby at_66) ?_
    show Steps p.tables e below (T4.setTop (mkF m 67 #[.val (.long q1), .second, .val (.long q2), .second, .val (.long (q1 + q2)), .second, .val (.long (own_e q1 (q1 + q2))), .second, .val (.long (own_e (q1 + q2) q1)), .second, .unset, .unset] [(.long (0 : Int64)), (.long q2)])) _
    refine XS.lcmp X4.here hx rfl (hb hby at_67) rfl ?_
    show Steps p.tables e below (T4.setTop (mkF m 68 #[.val (.long q1), .second, .val (.long q2), .second, .val (.long (q1 + q2)), .second, .val (.long (own_e q1 (q1 + q2))), .second, .val (.long (own_e (q1 + q2) q1)), .second, .unset, .unset] [(.int (lcmpW q2 (0 : Int64)))])) _
    refine XS.ifYes X4.here hx rfl (pc0 := 68) (pc' := 77) rfl (hb hby at_68) rfl ((if0 _ _).trans (flt hc68).2.2.2) (by decide) (by decide) ?_
    show Steps p.tables e below (T4.setTop (mkF m 77 #[.val (.long q1), .second, .val (.long q2), .second, .val (.long (q1 + q2)), .second, .val (.long (own_e q1 (q1 + q2))), .second, .val (.long (own_e (q1 + q2) q1)), .second, .unset, .unset] [])) _
    refine XS.lload X4.here hx rfl (hb hby at_77) rfl ?_
    show Steps p.tables e below (T4.setTop (mkF m 79 #[.val (.long q1), .second, .val (.long q2), .second, .val (.long (q1 + q2)), .second, .val (.long (own_e q1 (q1 + q2))), .second, .val (.long (own_e (q1 + q2) q1)), .second, .unset, .unset] [(.long (q1 + q2))])) _
    refine XS.lstore X4.here hx rfl (hb hby at_79) rfl (l' := #[.val (.long q1), .second, .val (.long q2), .second, .val (.long (q1 + q2)), .second, .val (.long (own_e q1 (q1 + q2))), .second, .val (.long (own_e (q1 + q2) q1)), .second, .val (.long (q1 + q2)), .second]) rfl ?_
    show Steps p.tables e below (T4.setTop (mkF m 81 #[.val (.long q1), .second, .val (.long q2), .second, .val (.long (q1 + q2)), .second, .val (.long (own_e q1 (q1 + q2))), .second, .val (.long (own_e (q1 + q2) q1)), .second, .val (.long (q1 + q2)), .second] [])) _
    refine XS.lload X4.here hx rfl (hb hby at_81) rfl ?_
    show Steps p.tables e below (T4.setTop (mkF m 83 #[.val (.long q1), .second, .val (.long q2), .second, .val (.long (q1 + q2)), .second, .val (.long (own_e q1 (q1 + q2))), .second, .val (.long (own_e (q1 + q2) q1)), .second, .val (.long (q1 + q2)), .second] [(.long (own_e q1 (q1 + q2)))])) _
    refine XS.lload X4.here hx rfl (hb hby at_83) rfl ?_
    show Steps p.tables e below (T4.setTop (mkF m 85 #[.val (.long q1), .second, .val (.long q2), .second, .val (.long (q1 + q2)), .second, .val (.long (own_e q1 (q1 + q2))), .second, .val (.long (own_e (q1 + q2) q1)), .second, .val (.long (q1 + q2)), .second] [(.long (q1 + q2)), (.long (own_e q1 (q1 + q2)))])) _
    refine XS.lcmp X4.here hx rfl (hb hby at_85) rfl ?_
    show Steps p.tables e below (T4.setTop (mkF m 86 #[.val (.long q1), .second, .val (.long q2), .second, .val (.long (q1 + q2)), .second, .val (.long (own_e q1 (q1 + q2))), .second, .val (.long (own_e (q1 + q2) q1)), .second, .val (.long (q1 + q2)), .second] [(.int (lcmpW (own_e q1 (q1 + q2)) (q1 + q2)))])) _
    refine XS.ifNo X4.here hx rfl (hb hby at_86) rfl ((if0 _ _).trans (teq ((own_le hc26 hc68).1 : (lcmpW (own_e q1 (q1 + q2)) (q1 + q2)) = (0 : Int32))).2) ?_
    show Steps p.tables e below (T4.setTop (mkF m 89 #[.val (.long q1), .second, .val (.long q2), .second, .val (.long (q1 + q2)), .second, .val (.long (own_e q1 (q1 + q2))), .second, .val (.long (own_e (q1 + q2) q1)), .second, .val (.long (q1 + q2)), .second] [])) _
    refine XS.lload X4.here hx rfl (hb hby at_89) rfl ?_
    show Steps p.tables e below (T4.setTop (mkF m 91 #[.val (.long q1), .second, .val (.long q2), .second, .val (.long (q1 + q2)), .second, .val (.long (own_e q1 (q1 + q2))), .second, .val (.long (own_e (q1 + q2) q1)), .second, .val (.long (q1 + q2)), .second] [(.long (own_e (q1 + q2) q1))])) _
    refine XS.lload X4.here hx rfl (hb hby at_91) rfl ?_
    show Steps p.tables e below (T4.setTop (mkF m 93 #[.val (.long q1), .second, .val (.long q2), .second, .val (.long (q1 + q2)), .second, .val (.long (own_e q1 (q1 + q2))), .second, .val (.long (own_e (q1 + q2) q1)), .second, .val (.long (q1 + q2)), .second] [(.long (q1 + q2)), (.long (own_e (q1 + q2) q1))])) _
    refine XS.lcmp X4.here hx rfl (hb hby at_93) rfl ?_
    show Steps p.tables e below (T4.setTop (mkF m 94 #[.val (.long q1), .second, .val (.long q2), .second, .val (.long (q1 + q2)), .second, .val (.long (own_e q1 (q1 + q2))), .second, .val (.long (own_e (q1 + q2) q1)), .second, .val (.long (q1 + q2)), .second] [(.int (lcmpW (own_e (q1 + q2) q1) (q1 + q2)))])) _
    refine XS.ifNo X4.here hx rfl (hb hby at_94) rfl ((if0 _ _).trans (teq ((own_le hc26 hc68).2 : (lcmpW (own_e (q1 + q2) q1) (q1 + q2)) = (0 : Int32))).2) ?_
    show Steps p.tables e below (T4.setTop (mkF m 97 #[.val (.long q1), .second, .val (.long q2), .second, .val (.long (q1 + q2)), .second, .val (.long (own_e q1 (q1 + q2))), .second, .val (.long (own_e (q1 + q2) q1)), .second, .val (.long (q1 + q2)), .second] [])) _
    refine XS.iconst X4.here hx rfl (hb hby at_97) ?_
    show Steps p.tables e below (T4.setTop (mkF m 98 #[.val (.long q1), .second, .val (.long q2), .second, .val (.long (q1 + q2)), .second, .val (.long (own_e q1 (q1 + q2))), .second, .val (.long (own_e (q1 + q2) q1)), .second, .val (.long (q1 + q2)), .second] [(.int (1 : Int32))])) _
    refine XS.goto X4.here hx rfl (pc0 := 98) (pc' := 102) rfl (hb hby at_98) (by decide) (by decide) ?_
    show Steps p.tables e below (T4.setTop (mkF m 102 #[.val (.long q1), .second, .val (.long q2), .second, .val (.long (q1 + q2)), .second, .val (.long (own_e q1 (q1 + q2))), .second, .val (.long (own_e (q1 + q2) q1)), .second, .val (.long (q1 + q2)), .second] [(.int (1 : Int32))])) _
    exact retN X4 hx (t := .boolean) Bd.returns (by simp) (hb hby at_102) hr
  · show Q0 Z q1 q2 h0 n0 _ T4.heap _
    exact ⟨rfl, N4⟩
set_option maxRecDepth 65536 in
set_option maxHeartbeats 40000000 in
theorem rm0_tfff (l : Launch) (Z : State) (a0 : Array Value) (hw : ∀ d ∈ tables_1, d.before a0 Z = true) (ws : List Jvm.Cond) (q1 : Int64) (q2 : Int64) (h0 : Heap) (n0 : Nat) (Z0 : n0 ≤ h0.size) (hc26 : ¬ ((lcmpW q2 (-9223372036854775808 : Int64)) = (0 : Int32))) (hc68 : (0 : Int32) < (lcmpW q2 (0 : Int64))) :
    MetFree l x (head1 (Jvm.Cond.code x code maxLocals ret :: ws) room_1) (fun a U => a = #[(.long q1), (.long q2)] ∧ Z.Warmed39 U.vm ∧ U.heap = h0) (fun _ _ _ _ _ => True) (fun _ U o U' => ∃ v L, o = .returned v ∧ Q0 Z q1 q2 h0 n0 v U'.heap L ∧ FrameEnd U o U' L room_1.cells room_1.slots) := by
  refine MetFree.of_bodySF (plainFor_of_name pn_0) hisR ?_
  intro p e s m args below meth c s₁ Bd hml0 hP hK
  obtain ⟨rfl, hZ, hh⟩ := hP
  have hx := Bd.exec
  have hby := Bd.bytes
  have hml : c.maxLocals = 12 := hml0
  have hown : s.vm.findClass "com/example/bouncer/bouncer/StoreEarlierPinLaw" = some m.cls := findClass_of_methodNamed Bd.named
  have hnm := (name_of_methodNamed Bd.named Bd.method).1
  have X0 : Stand p l e room_1 s m #[(.long q1), (.long q2)] below meth c s₁ [] 0 0 := Stand.of_body Bd
  have e0 : s₁.heap = h0 := by rw [← hh, Bd.state]; rfl
  have N0 := Fr.nil n0
  have pre0 : ∀ t, Steps p.tables e below (s₁.setTop (mkF m 0 #[.val (.long q1), .second, .val (.long q2), .second, .unset, .unset, .unset, .unset, .unset, .unset, .unset, .unset] [])) t → Steps p.tables e below (s₁.setTop (entryFrame m #[(.long q1), (.long q2)] maxLocals)) t := fun t k => castTop (ef_0 m q1 q2) k
  obtain ⟨_, _, ⟨T3, L3, k3, n3⟩, -, X3, ⟨Lc3, hQ3, l3, y3, z3⟩, st3⟩ := Jvm.LawKit.callS X0 hx (y := (⟨"com/example/bouncer/bouncer/Store", "earlier", "(JJ)J"⟩ : MethodName)) hown (mvT hZ (hw _ (List.mem_of_getElem? (i := 0) rfl))) (mvT hZ (hw _ (List.mem_of_getElem? (i := 1) rfl))) (mvT hZ (hw _ (List.mem_of_getElem? (i := 2) rfl))) (mvT hZ (hw _ (List.mem_of_getElem? (i := 3) rfl))) (by decide) (backOf (W := 0) (rm1 l Z a0 hw [] q1 (q1 + q2) h0 n0 Z0) hZ (hw _ (List.mem_of_getElem? (i := 3) rfl)) (hw _ (List.mem_of_getElem? (i := 2) rfl)) (by decide) (by decide)) (g := (mkF m 8 #[.val (.long q1), .second, .val (.long q2), .second, .val (.long (q1 + q2)), .second, .unset, .unset, .unset, .unset, .unset, .unset] [(.long (q1 + q2)), (.long q1)])) rfl (by rw [hml]; rfl) (argsL := [(.long q1), (.long (q1 + q2))]) (rest := []) (lenOf pd_0_0 rfl) rfl (by show 2 * 0 + _ ≤ _; exact Nat.le_of_eq rfl) (hb hby at_8) (fun _ _ => ⟨rfl, e0, (by decide : 0 + 0 ≤ _), (by decide : 0 + 0 ≤ _)⟩)
  dsimp only [Pt.U, Pt.locs, Pt.cells, Pt.slots] at X3 l3 y3 z3 st3 hQ3
  subst l3 y3 z3
  obtain ⟨rfl, N3q, e3⟩ := hQ3      -- what it returned, that it wrote nothing old, and the rest of your Q1
  have N3 := Fr.app N0 N3q
  obtain ⟨_, _, ⟨T4, L4, k4, n4⟩, -, X4, ⟨Lc4, hQ4, l4, y4, z4⟩, st4⟩ := Jvm.LawKit.callS X3 hx (y := (⟨"com/example/bouncer/bouncer/Store", "earlier", "(JJ)J"⟩ : MethodName)) hown (mvT hZ (hw _ (List.mem_of_getElem? (i := 0) rfl))) (mvT hZ (hw _ (List.mem_of_getElem? (i := 1) rfl))) (mvT hZ (hw _ (List.mem_of_getElem? (i := 2) rfl))) (mvT hZ (hw _ (List.mem_of_getElem? (i := 3) rfl))) (by decide) (backOf (W := 0) (rm1 l Z a0 hw [] (q1 + q2) q1 T3.heap n0 (by rw [e3]; exact Z0)) hZ (hw _ (List.mem_of_getElem? (i := 3) rfl)) (hw _ (List.mem_of_getElem? (i := 2) rfl)) (by decide) (by decide)) (g := (mkF m 16 #[.val (.long q1), .second, .val (.long q2), .second, .val (.long (q1 + q2)), .second, .val (.long (own_e q1 (q1 + q2))), .second, .unset, .unset, .unset, .unset] [(.long q1), (.long (q1 + q2))])) rfl (by rw [hml]; rfl) (argsL := [(.long (q1 + q2)), (.long q1)]) (rest := []) (lenOf pd_0_0 rfl) rfl (by show 2 * 0 + _ ≤ _; exact Nat.le_of_eq rfl) (hb hby at_16) (fun _ _ => ⟨rfl, rfl, (by decide : 0 + 0 ≤ _), (by decide : 0 + 0 ≤ _)⟩)
  dsimp only [Pt.U, Pt.locs, Pt.cells, Pt.slots] at X4 l4 y4 z4 st4 hQ4
  subst l4 y4 z4
  obtain ⟨rfl, N4q, e4⟩ := hQ4      -- what it returned, that it wrote nothing old, and the rest of your Q1
  have N4 := Fr.app N3 N4q
  obtain ⟨fs, hr, hrun, hended, hW, hsame⟩ := X4.leave (v := some (.int (1 : Int32))) (fun h => by rw [Bd.returns] at h; cases h)
  refine ⟨_, _, pre0 _ ?_, hrun, hended, _, _, rfl, ?_, ⟨_, rfl⟩, hW, hsame.mono (by decide) (by decide)⟩
  · show Steps p.tables e below (s₁.setTop (mkF m 0 #[.val (.long q1), .second, .val (.long q2), .second, .unset, .unset, .unset, .unset, .unset, .unset, .unset, .unset] [])) _
    refine XS.lloadN X0.here hx rfl (hb hby at_0) rfl ?_
    show Steps p.tables e below (s₁.setTop (mkF m 1 #[.val (.long q1), .second, .val (.long q2), .second, .unset, .unset, .unset, .unset, .unset, .unset, .unset, .unset] [(.long q1)])) _
    refine XS.lloadN X0.here hx rfl (hb hby at_1) rfl ?_
    show Steps p.tables e below (s₁.setTop (mkF m 2 #[.val (.long q1), .second, .val (.long q2), .second, .unset, .unset, .unset, .unset, .unset, .unset, .unset, .unset] [(.long q2), (.long q1)])) _
    refine XS.ladd X0.here hx rfl (hb hby at_2) rfl ?_
    show Steps p.tables e below (s₁.setTop (mkF m 3 #[.val (.long q1), .second, .val (.long q2), .second, .unset, .unset, .unset, .unset, .unset, .unset, .unset, .unset] [(.long (q1 + q2))])) _
    refine XS.lstore X0.here hx rfl (hb hby at_3) rfl (l' := #[.val (.long q1), .second, .val (.long q2), .second, .val (.long (q1 + q2)), .second, .unset, .unset, .unset, .unset, .unset, .unset]) rfl ?_
    show Steps p.tables e below (s₁.setTop (mkF m 5 #[.val (.long q1), .second, .val (.long q2), .second, .val (.long (q1 + q2)), .second, .unset, .unset, .unset, .unset, .unset, .unset] [])) _
    refine XS.lloadN X0.here hx rfl (hb hby at_5) rfl ?_
    show Steps p.tables e below (s₁.setTop (mkF m 6 #[.val (.long q1), .second, .val (.long q2), .second, .val (.long (q1 + q2)), .second, .unset, .unset, .unset, .unset, .unset, .unset] [(.long q1)])) _
    refine XS.lload X0.here hx rfl (hb hby at_6) rfl ?_
    show Steps p.tables e below (s₁.setTop (mkF m 8 #[.val (.long q1), .second, .val (.long q2), .second, .val (.long (q1 + q2)), .second, .unset, .unset, .unset, .unset, .unset, .unset] [(.long (q1 + q2)), (.long q1)])) _
    refine st3 _ ?_
    show Steps p.tables e below (T3.setTop (mkF m 11 #[.val (.long q1), .second, .val (.long q2), .second, .val (.long (q1 + q2)), .second, .unset, .unset, .unset, .unset, .unset, .unset] [(.long (own_e q1 (q1 + q2)))])) _
    refine XS.lstore X3.here hx rfl (hb hby at_11) rfl (l' := #[.val (.long q1), .second, .val (.long q2), .second, .val (.long (q1 + q2)), .second, .val (.long (own_e q1 (q1 + q2))), .second, .unset, .unset, .unset, .unset]) rfl ?_
    show Steps p.tables e below (T3.setTop (mkF m 13 #[.val (.long q1), .second, .val (.long q2), .second, .val (.long (q1 + q2)), .second, .val (.long (own_e q1 (q1 + q2))), .second, .unset, .unset, .unset, .unset] [])) _
    refine XS.lload X3.here hx rfl (hb hby at_13) rfl ?_
    show Steps p.tables e below (T3.setTop (mkF m 15 #[.val (.long q1), .second, .val (.long q2), .second, .val (.long (q1 + q2)), .second, .val (.long (own_e q1 (q1 + q2))), .second, .unset, .unset, .unset, .unset] [(.long (q1 + q2))])) _
    refine XS.lloadN X3.here hx rfl (hb hby at_15) rfl ?_
    show Steps p.tables e below (T3.setTop (mkF m 16 #[.val (.long q1), .second, .val (.long q2), .second, .val (.long (q1 + q2)), .second, .val (.long (own_e q1 (q1 + q2))), .second, .unset, .unset, .unset, .unset] [(.long q1), (.long (q1 + q2))])) _
    refine st4 _ ?_
    show Steps p.tables e below (T4.setTop (mkF m 19 #[.val (.long q1), .second, .val (.long q2), .second, .val (.long (q1 + q2)), .second, .val (.long (own_e q1 (q1 + q2))), .second, .unset, .unset, .unset, .unset] [(.long (own_e (q1 + q2) q1))])) _
    refine XS.lstore X4.here hx rfl (hb hby at_19) rfl (l' := #[.val (.long q1), .second, .val (.long q2), .second, .val (.long (q1 + q2)), .second, .val (.long (own_e q1 (q1 + q2))), .second, .val (.long (own_e (q1 + q2) q1)), .second, .unset, .unset]) rfl ?_
    show Steps p.tables e below (T4.setTop (mkF m 21 #[.val (.long q1), .second, .val (.long q2), .second, .val (.long (q1 + q2)), .second, .val (.long (own_e q1 (q1 + q2))), .second, .val (.long (own_e (q1 + q2) q1)), .second, .unset, .unset] [])) _
    refine XS.lloadN X4.here hx rfl (hb hby at_21) rfl ?_
    show Steps p.tables e below (T4.setTop (mkF m 22 #[.val (.long q1), .second, .val (.long q2), .second, .val (.long (q1 + q2)), .second, .val (.long (own_e q1 (q1 + q2))), .second, .val (.long (own_e (q1 + q2) q1)), .second, .unset, .unset] [(.long q2)])) _
    refine X4.ldc2Long hx hown (mvT hZ (hw _ (List.mem_of_getElem? (i := 4) rfl))) (g := (mkF m 22 #[.val (.long q1), .second, .val (.long q2), .second, .val (.long (q1 + q2)), .second, .val (.long (own_e q1 (q1 + q2))), .second, .val (.long (own_e (q1 + q2) q1)), .second, .unset, .unset] [(.long q2)])) rfl (hb hby at_22) _ ?_
    show Steps p.tables e below (T4.setTop (mkF m 25 #[.val (.long q1), .second, .val (.long q2), .second, .val (.long (q1 + q2)), .second, .val (.long (own_e q1 (q1 + q2))), .second, .val (.long (own_e (q1 + q2) q1)), .second, .unset, .unset] [(.long (-9223372036854775808 : Int64)), (.long q2)])) _
    refine XS.lcmp X4.here hx rfl (hb hby at_25) rfl ?_
    show Steps p.tables e below (T4.setTop (mkF m 26 #[.val (.long q1), .second, .val (.long q2), .second, .val (.long (q1 + q2)), .second, .val (.long (own_e q1 (q1 + q2))), .second, .val (.long (own_e (q1 + q2) q1)), .second, .unset, .unset] [(.int (lcmpW q2 (-9223372036854775808 : Int64)))])) _
    refine XS.ifYes X4.here hx rfl (pc0 := 26) (pc' := 65) rfl (hb hby at_26) rfl ((if0 _ _).trans (feq hc26).2) (by decide) (by decide) ?_
    show Steps p.tables e below (T4.setTop (mkF m 65 #[.val (.long q1), .second, .val (.long q2), .second, .val (.long (q1 + q2)), .second, .val (.long (own_e q1 (q1 + q2))), .second, .val (.long (own_e (q1 + q2) q1)), .second, .unset, .unset] [])) _
    refine XS.lloadN X4.here hx rfl (hb hby at_65) rfl ?_
    show Steps p.tables e below (T4.setTop (mkF m 66 #[.val (.long q1), .second, .val (.long q2), .second, .val (.long (q1 + q2)), .second, .val (.long (own_e q1 (q1 + q2))), .second, .val (.long (own_e (q1 + q2) q1)), .second, .unset, .unset] [(.long q2)])) _
    refine XS.lconst X4.here hx rfl (hb hby at_66) ?_
    show Steps p.tables e below (T4.setTop (mkF m 67 #[.val (.long q1), .second, .val (.long q2), .second, .val (.long (q1 + q2)), .second, .val (.long (own_e q1 (q1 + q2))), .second, .val (.long (own_e (q1 + q2) q1)), .second, .unset, .unset] [(.long (0 : Int64)), (.long q2)])) _
    refine XS.lcmp X4.here hx rfl (hb hby at_67) rfl ?_
    show Steps p.tables e below (T4.setTop (mkF m 68 #[.val (.long q1), .second, .val (.long q2), .second, .val (.long (q1 + q2)), .second, .val (.long (own_e q1 (q1 + q2))), .second, .val (.long (own_e (q1 + q2) q1)), .second, .unset, .unset] [(.int (lcmpW q2 (0 : Int64)))])) _
    refine XS.ifNo X4.here hx rfl (hb hby at_68) rfl ((if0 _ _).trans (tlt hc68).2.2.2) ?_
    show Steps p.tables e below (T4.setTop (mkF m 71 #[.val (.long q1), .second, .val (.long q2), .second, .val (.long (q1 + q2)), .second, .val (.long (own_e q1 (q1 + q2))), .second, .val (.long (own_e (q1 + q2) q1)), .second, .unset, .unset] [])) _
    refine XS.lloadN X4.here hx rfl (hb hby at_71) rfl ?_
    show Steps p.tables e below (T4.setTop (mkF m 72 #[.val (.long q1), .second, .val (.long q2), .second, .val (.long (q1 + q2)), .second, .val (.long (own_e q1 (q1 + q2))), .second, .val (.long (own_e (q1 + q2) q1)), .second, .unset, .unset] [(.long q1)])) _
    refine XS.lstore X4.here hx rfl (hb hby at_72) rfl (l' := #[.val (.long q1), .second, .val (.long q2), .second, .val (.long (q1 + q2)), .second, .val (.long (own_e q1 (q1 + q2))), .second, .val (.long (own_e (q1 + q2) q1)), .second, .val (.long q1), .second]) rfl ?_
    show Steps p.tables e below (T4.setTop (mkF m 74 #[.val (.long q1), .second, .val (.long q2), .second, .val (.long (q1 + q2)), .second, .val (.long (own_e q1 (q1 + q2))), .second, .val (.long (own_e (q1 + q2) q1)), .second, .val (.long q1), .second] [])) _
    refine XS.goto X4.here hx rfl (pc0 := 74) (pc' := 81) rfl (hb hby at_74) (by decide) (by decide) ?_
    show Steps p.tables e below (T4.setTop (mkF m 81 #[.val (.long q1), .second, .val (.long q2), .second, .val (.long (q1 + q2)), .second, .val (.long (own_e q1 (q1 + q2))), .second, .val (.long (own_e (q1 + q2) q1)), .second, .val (.long q1), .second] [])) _
    refine XS.lload X4.here hx rfl (hb hby at_81) rfl ?_
    show Steps p.tables e below (T4.setTop (mkF m 83 #[.val (.long q1), .second, .val (.long q2), .second, .val (.long (q1 + q2)), .second, .val (.long (own_e q1 (q1 + q2))), .second, .val (.long (own_e (q1 + q2) q1)), .second, .val (.long q1), .second] [(.long (own_e q1 (q1 + q2)))])) _
    refine XS.lload X4.here hx rfl (hb hby at_83) rfl ?_
    show Steps p.tables e below (T4.setTop (mkF m 85 #[.val (.long q1), .second, .val (.long q2), .second, .val (.long (q1 + q2)), .second, .val (.long (own_e q1 (q1 + q2))), .second, .val (.long (own_e (q1 + q2) q1)), .second, .val (.long q1), .second] [(.long q1), (.long (own_e q1 (q1 + q2)))])) _
    refine XS.lcmp X4.here hx rfl (hb hby at_85) rfl ?_
    show Steps p.tables e below (T4.setTop (mkF m 86 #[.val (.long q1), .second, .val (.long q2), .second, .val (.long (q1 + q2)), .second, .val (.long (own_e q1 (q1 + q2))), .second, .val (.long (own_e (q1 + q2) q1)), .second, .val (.long q1), .second] [(.int (lcmpW (own_e q1 (q1 + q2)) q1))])) _
    refine XS.ifNo X4.here hx rfl (hb hby at_86) rfl ((if0 _ _).trans (teq ((own_gt hc26 hc68).1 : (lcmpW (own_e q1 (q1 + q2)) q1) = (0 : Int32))).2) ?_
    show Steps p.tables e below (T4.setTop (mkF m 89 #[.val (.long q1), .second, .val (.long q2), .second, .val (.long (q1 + q2)), .second, .val (.long (own_e q1 (q1 + q2))), .second, .val (.long (own_e (q1 + q2) q1)), .second, .val (.long q1), .second] [])) _
    refine XS.lload X4.here hx rfl (hb hby at_89) rfl ?_
    show Steps p.tables e below (T4.setTop (mkF m 91 #[.val (.long q1), .second, .val (.long q2), .second, .val (.long (q1 + q2)), .second, .val (.long (own_e q1 (q1 + q2))), .second, .val (.long (own_e (q1 + q2) q1)), .second, .val (.long q1), .second] [(.long (own_e (q1 + q2) q1))])) _
    refine XS.lload X4.here hx rfl (hb hby at_91) rfl ?_
    show Steps p.tables e below (T4.setTop (mkF m 93 #[.val (.long q1), .second, .val (.long q2), .second, .val (.long (q1 + q2)), .second, .val (.long (own_e q1 (q1 + q2))), .second, .val (.long (own_e (q1 + q2) q1)), .second, .val (.long q1), .second] [(.long q1), (.long (own_e (q1 + q2) q1))])) _
    refine XS.lcmp X4.here hx rfl (hb hby at_93) rfl ?_
    show Steps p.tables e below (T4.setTop (mkF m 94 #[.val (.long q1), .second, .val (.long q2), .second, .val (.long (q1 + q2)), .second, .val (.long (own_e q1 (q1 + q2))), .second, .val (.long (own_e (q1 + q2) q1)), .second, .val (.long q1), .second] [(.int (lcmpW (own_e (q1 + q2) q1) q1))])) _
    refine XS.ifNo X4.here hx rfl (hb hby at_94) rfl ((if0 _ _).trans (teq ((own_gt hc26 hc68).2 : (lcmpW (own_e (q1 + q2) q1) q1) = (0 : Int32))).2) ?_
    show Steps p.tables e below (T4.setTop (mkF m 97 #[.val (.long q1), .second, .val (.long q2), .second, .val (.long (q1 + q2)), .second, .val (.long (own_e q1 (q1 + q2))), .second, .val (.long (own_e (q1 + q2) q1)), .second, .val (.long q1), .second] [])) _
    refine XS.iconst X4.here hx rfl (hb hby at_97) ?_
    show Steps p.tables e below (T4.setTop (mkF m 98 #[.val (.long q1), .second, .val (.long q2), .second, .val (.long (q1 + q2)), .second, .val (.long (own_e q1 (q1 + q2))), .second, .val (.long (own_e (q1 + q2) q1)), .second, .val (.long q1), .second] [(.int (1 : Int32))])) _
    refine XS.goto X4.here hx rfl (pc0 := 98) (pc' := 102) rfl (hb hby at_98) (by decide) (by decide) ?_
    show Steps p.tables e below (T4.setTop (mkF m 102 #[.val (.long q1), .second, .val (.long q2), .second, .val (.long (q1 + q2)), .second, .val (.long (own_e q1 (q1 + q2))), .second, .val (.long (own_e (q1 + q2) q1)), .second, .val (.long q1), .second] [(.int (1 : Int32))])) _
    exact retN X4 hx (t := .boolean) Bd.returns (by simp) (hb hby at_102) hr
  · show Q0 Z q1 q2 h0 n0 _ T4.heap _
    exact ⟨rfl, N4⟩
set_option maxRecDepth 65536 in
set_option maxHeartbeats 40000000 in
theorem rm0_ftff (l : Launch) (Z : State) (a0 : Array Value) (hw : ∀ d ∈ tables_1, d.before a0 Z = true) (ws : List Jvm.Cond) (q1 : Int64) (q2 : Int64) (h0 : Heap) (n0 : Nat) (Z0 : n0 ≤ h0.size) (hc26 : (lcmpW q2 (-9223372036854775808 : Int64)) = (0 : Int32)) :
    MetFree l x (head1 (Jvm.Cond.code x code maxLocals ret :: ws) room_1) (fun a U => a = #[(.long q1), (.long q2)] ∧ Z.Warmed39 U.vm ∧ U.heap = h0) (fun _ _ _ _ _ => True) (fun _ U o U' => ∃ v L, o = .returned v ∧ Q0 Z q1 q2 h0 n0 v U'.heap L ∧ FrameEnd U o U' L room_1.cells room_1.slots) := by
  refine MetFree.of_bodySF (plainFor_of_name pn_0) hisR ?_
  intro p e s m args below meth c s₁ Bd hml0 hP hK
  obtain ⟨rfl, hZ, hh⟩ := hP
  have hx := Bd.exec
  have hby := Bd.bytes
  have hml : c.maxLocals = 12 := hml0
  have hown : s.vm.findClass "com/example/bouncer/bouncer/StoreEarlierPinLaw" = some m.cls := findClass_of_methodNamed Bd.named
  have hnm := (name_of_methodNamed Bd.named Bd.method).1
  have X0 : Stand p l e room_1 s m #[(.long q1), (.long q2)] below meth c s₁ [] 0 0 := Stand.of_body Bd
  have e0 : s₁.heap = h0 := by rw [← hh, Bd.state]; rfl
  have N0 := Fr.nil n0
  have pre0 : ∀ t, Steps p.tables e below (s₁.setTop (mkF m 0 #[.val (.long q1), .second, .val (.long q2), .second, .unset, .unset, .unset, .unset, .unset, .unset, .unset, .unset] [])) t → Steps p.tables e below (s₁.setTop (entryFrame m #[(.long q1), (.long q2)] maxLocals)) t := fun t k => castTop (ef_0 m q1 q2) k
  obtain ⟨_, _, ⟨T3, L3, k3, n3⟩, -, X3, ⟨Lc3, hQ3, l3, y3, z3⟩, st3⟩ := Jvm.LawKit.callS X0 hx (y := (⟨"com/example/bouncer/bouncer/Store", "earlier", "(JJ)J"⟩ : MethodName)) hown (mvT hZ (hw _ (List.mem_of_getElem? (i := 0) rfl))) (mvT hZ (hw _ (List.mem_of_getElem? (i := 1) rfl))) (mvT hZ (hw _ (List.mem_of_getElem? (i := 2) rfl))) (mvT hZ (hw _ (List.mem_of_getElem? (i := 3) rfl))) (by decide) (backOf (W := 0) (rm1 l Z a0 hw [] q1 (q1 + q2) h0 n0 Z0) hZ (hw _ (List.mem_of_getElem? (i := 3) rfl)) (hw _ (List.mem_of_getElem? (i := 2) rfl)) (by decide) (by decide)) (g := (mkF m 8 #[.val (.long q1), .second, .val (.long q2), .second, .val (.long (q1 + q2)), .second, .unset, .unset, .unset, .unset, .unset, .unset] [(.long (q1 + q2)), (.long q1)])) rfl (by rw [hml]; rfl) (argsL := [(.long q1), (.long (q1 + q2))]) (rest := []) (lenOf pd_0_0 rfl) rfl (by show 2 * 0 + _ ≤ _; exact Nat.le_of_eq rfl) (hb hby at_8) (fun _ _ => ⟨rfl, e0, (by decide : 0 + 0 ≤ _), (by decide : 0 + 0 ≤ _)⟩)
  dsimp only [Pt.U, Pt.locs, Pt.cells, Pt.slots] at X3 l3 y3 z3 st3 hQ3
  subst l3 y3 z3
  obtain ⟨rfl, N3q, e3⟩ := hQ3      -- what it returned, that it wrote nothing old, and the rest of your Q1
  have N3 := Fr.app N0 N3q
  obtain ⟨_, _, ⟨T4, L4, k4, n4⟩, -, X4, ⟨Lc4, hQ4, l4, y4, z4⟩, st4⟩ := Jvm.LawKit.callS X3 hx (y := (⟨"com/example/bouncer/bouncer/Store", "earlier", "(JJ)J"⟩ : MethodName)) hown (mvT hZ (hw _ (List.mem_of_getElem? (i := 0) rfl))) (mvT hZ (hw _ (List.mem_of_getElem? (i := 1) rfl))) (mvT hZ (hw _ (List.mem_of_getElem? (i := 2) rfl))) (mvT hZ (hw _ (List.mem_of_getElem? (i := 3) rfl))) (by decide) (backOf (W := 0) (rm1 l Z a0 hw [] (q1 + q2) q1 T3.heap n0 (by rw [e3]; exact Z0)) hZ (hw _ (List.mem_of_getElem? (i := 3) rfl)) (hw _ (List.mem_of_getElem? (i := 2) rfl)) (by decide) (by decide)) (g := (mkF m 16 #[.val (.long q1), .second, .val (.long q2), .second, .val (.long (q1 + q2)), .second, .val (.long (own_e q1 (q1 + q2))), .second, .unset, .unset, .unset, .unset] [(.long q1), (.long (q1 + q2))])) rfl (by rw [hml]; rfl) (argsL := [(.long (q1 + q2)), (.long q1)]) (rest := []) (lenOf pd_0_0 rfl) rfl (by show 2 * 0 + _ ≤ _; exact Nat.le_of_eq rfl) (hb hby at_16) (fun _ _ => ⟨rfl, rfl, (by decide : 0 + 0 ≤ _), (by decide : 0 + 0 ≤ _)⟩)
  dsimp only [Pt.U, Pt.locs, Pt.cells, Pt.slots] at X4 l4 y4 z4 st4 hQ4
  subst l4 y4 z4
  obtain ⟨rfl, N4q, e4⟩ := hQ4      -- what it returned, that it wrote nothing old, and the rest of your Q1
  have N4 := Fr.app N3 N4q
  obtain ⟨fs, hr, hrun, hended, hW, hsame⟩ := X4.leave (v := some (.int (1 : Int32))) (fun h => by rw [Bd.returns] at h; cases h)
  refine ⟨_, _, pre0 _ ?_, hrun, hended, _, _, rfl, ?_, ⟨_, rfl⟩, hW, hsame.mono (by decide) (by decide)⟩
  · show Steps p.tables e below (s₁.setTop (mkF m 0 #[.val (.long q1), .second, .val (.long q2), .second, .unset, .unset, .unset, .unset, .unset, .unset, .unset, .unset] [])) _
    refine XS.lloadN X0.here hx rfl (hb hby at_0) rfl ?_
    show Steps p.tables e below (s₁.setTop (mkF m 1 #[.val (.long q1), .second, .val (.long q2), .second, .unset, .unset, .unset, .unset, .unset, .unset, .unset, .unset] [(.long q1)])) _
    refine XS.lloadN X0.here hx rfl (hb hby at_1) rfl ?_
    show Steps p.tables e below (s₁.setTop (mkF m 2 #[.val (.long q1), .second, .val (.long q2), .second, .unset, .unset, .unset, .unset, .unset, .unset, .unset, .unset] [(.long q2), (.long q1)])) _
    refine XS.ladd X0.here hx rfl (hb hby at_2) rfl ?_
    show Steps p.tables e below (s₁.setTop (mkF m 3 #[.val (.long q1), .second, .val (.long q2), .second, .unset, .unset, .unset, .unset, .unset, .unset, .unset, .unset] [(.long (q1 + q2))])) _
    refine XS.lstore X0.here hx rfl (hb hby at_3) rfl (l' := #[.val (.long q1), .second, .val (.long q2), .second, .val (.long (q1 + q2)), .second, .unset, .unset, .unset, .unset, .unset, .unset]) rfl ?_
    show Steps p.tables e below (s₁.setTop (mkF m 5 #[.val (.long q1), .second, .val (.long q2), .second, .val (.long (q1 + q2)), .second, .unset, .unset, .unset, .unset, .unset, .unset] [])) _
    refine XS.lloadN X0.here hx rfl (hb hby at_5) rfl ?_
    show Steps p.tables e below (s₁.setTop (mkF m 6 #[.val (.long q1), .second, .val (.long q2), .second, .val (.long (q1 + q2)), .second, .unset, .unset, .unset, .unset, .unset, .unset] [(.long q1)])) _
    refine XS.lload X0.here hx rfl (hb hby at_6) rfl ?_
    show Steps p.tables e below (s₁.setTop (mkF m 8 #[.val (.long q1), .second, .val (.long q2), .second, .val (.long (q1 + q2)), .second, .unset, .unset, .unset, .unset, .unset, .unset] [(.long (q1 + q2)), (.long q1)])) _
    refine st3 _ ?_
    show Steps p.tables e below (T3.setTop (mkF m 11 #[.val (.long q1), .second, .val (.long q2), .second, .val (.long (q1 + q2)), .second, .unset, .unset, .unset, .unset, .unset, .unset] [(.long (own_e q1 (q1 + q2)))])) _
    refine XS.lstore X3.here hx rfl (hb hby at_11) rfl (l' := #[.val (.long q1), .second, .val (.long q2), .second, .val (.long (q1 + q2)), .second, .val (.long (own_e q1 (q1 + q2))), .second, .unset, .unset, .unset, .unset]) rfl ?_
    show Steps p.tables e below (T3.setTop (mkF m 13 #[.val (.long q1), .second, .val (.long q2), .second, .val (.long (q1 + q2)), .second, .val (.long (own_e q1 (q1 + q2))), .second, .unset, .unset, .unset, .unset] [])) _
    refine XS.lload X3.here hx rfl (hb hby at_13) rfl ?_
    show Steps p.tables e below (T3.setTop (mkF m 15 #[.val (.long q1), .second, .val (.long q2), .second, .val (.long (q1 + q2)), .second, .val (.long (own_e q1 (q1 + q2))), .second, .unset, .unset, .unset, .unset] [(.long (q1 + q2))])) _
    refine XS.lloadN X3.here hx rfl (hb hby at_15) rfl ?_
    show Steps p.tables e below (T3.setTop (mkF m 16 #[.val (.long q1), .second, .val (.long q2), .second, .val (.long (q1 + q2)), .second, .val (.long (own_e q1 (q1 + q2))), .second, .unset, .unset, .unset, .unset] [(.long q1), (.long (q1 + q2))])) _
    refine st4 _ ?_
    show Steps p.tables e below (T4.setTop (mkF m 19 #[.val (.long q1), .second, .val (.long q2), .second, .val (.long (q1 + q2)), .second, .val (.long (own_e q1 (q1 + q2))), .second, .unset, .unset, .unset, .unset] [(.long (own_e (q1 + q2) q1))])) _
    refine XS.lstore X4.here hx rfl (hb hby at_19) rfl (l' := #[.val (.long q1), .second, .val (.long q2), .second, .val (.long (q1 + q2)), .second, .val (.long (own_e q1 (q1 + q2))), .second, .val (.long (own_e (q1 + q2) q1)), .second, .unset, .unset]) rfl ?_
    show Steps p.tables e below (T4.setTop (mkF m 21 #[.val (.long q1), .second, .val (.long q2), .second, .val (.long (q1 + q2)), .second, .val (.long (own_e q1 (q1 + q2))), .second, .val (.long (own_e (q1 + q2) q1)), .second, .unset, .unset] [])) _
    refine XS.lloadN X4.here hx rfl (hb hby at_21) rfl ?_
    show Steps p.tables e below (T4.setTop (mkF m 22 #[.val (.long q1), .second, .val (.long q2), .second, .val (.long (q1 + q2)), .second, .val (.long (own_e q1 (q1 + q2))), .second, .val (.long (own_e (q1 + q2) q1)), .second, .unset, .unset] [(.long q2)])) _
    refine X4.ldc2Long hx hown (mvT hZ (hw _ (List.mem_of_getElem? (i := 4) rfl))) (g := (mkF m 22 #[.val (.long q1), .second, .val (.long q2), .second, .val (.long (q1 + q2)), .second, .val (.long (own_e q1 (q1 + q2))), .second, .val (.long (own_e (q1 + q2) q1)), .second, .unset, .unset] [(.long q2)])) rfl (hb hby at_22) _ ?_
    show Steps p.tables e below (T4.setTop (mkF m 25 #[.val (.long q1), .second, .val (.long q2), .second, .val (.long (q1 + q2)), .second, .val (.long (own_e q1 (q1 + q2))), .second, .val (.long (own_e (q1 + q2) q1)), .second, .unset, .unset] [(.long (-9223372036854775808 : Int64)), (.long q2)])) _
    refine XS.lcmp X4.here hx rfl (hb hby at_25) rfl ?_
    show Steps p.tables e below (T4.setTop (mkF m 26 #[.val (.long q1), .second, .val (.long q2), .second, .val (.long (q1 + q2)), .second, .val (.long (own_e q1 (q1 + q2))), .second, .val (.long (own_e (q1 + q2) q1)), .second, .unset, .unset] [(.int (lcmpW q2 (-9223372036854775808 : Int64)))])) _
    refine XS.ifNo X4.here hx rfl (hb hby at_26) rfl ((if0 _ _).trans (teq hc26).2) ?_
    show Steps p.tables e below (T4.setTop (mkF m 29 #[.val (.long q1), .second, .val (.long q2), .second, .val (.long (q1 + q2)), .second, .val (.long (own_e q1 (q1 + q2))), .second, .val (.long (own_e (q1 + q2) q1)), .second, .unset, .unset] [])) _
    refine XS.lload X4.here hx rfl (hb hby at_29) rfl ?_
    show Steps p.tables e below (T4.setTop (mkF m 31 #[.val (.long q1), .second, .val (.long q2), .second, .val (.long (q1 + q2)), .second, .val (.long (own_e q1 (q1 + q2))), .second, .val (.long (own_e (q1 + q2) q1)), .second, .unset, .unset] [(.long (own_e q1 (q1 + q2)))])) _
    refine XS.lloadN X4.here hx rfl (hb hby at_31) rfl ?_
    show Steps p.tables e below (T4.setTop (mkF m 32 #[.val (.long q1), .second, .val (.long q2), .second, .val (.long (q1 + q2)), .second, .val (.long (own_e q1 (q1 + q2))), .second, .val (.long (own_e (q1 + q2) q1)), .second, .unset, .unset] [(.long q1), (.long (own_e q1 (q1 + q2)))])) _
    refine XS.lcmp X4.here hx rfl (hb hby at_32) rfl ?_
    show Steps p.tables e below (T4.setTop (mkF m 33 #[.val (.long q1), .second, .val (.long q2), .second, .val (.long (q1 + q2)), .second, .val (.long (own_e q1 (q1 + q2))), .second, .val (.long (own_e (q1 + q2) q1)), .second, .unset, .unset] [(.int (lcmpW (own_e q1 (q1 + q2)) q1))])) _
    refine XS.ifYes X4.here hx rfl (pc0 := 33) (pc' := 44) rfl (hb hby at_33) rfl ((if0 _ _).trans (teq ((own_min hc26).1 : (lcmpW (own_e q1 (q1 + q2)) q1) = (0 : Int32))).1) (by decide) (by decide) ?_
    show Steps p.tables e below (T4.setTop (mkF m 44 #[.val (.long q1), .second, .val (.long q2), .second, .val (.long (q1 + q2)), .second, .val (.long (own_e q1 (q1 + q2))), .second, .val (.long (own_e (q1 + q2) q1)), .second, .unset, .unset] [])) _
    refine XS.lload X4.here hx rfl (hb hby at_44) rfl ?_
    show Steps p.tables e below (T4.setTop (mkF m 46 #[.val (.long q1), .second, .val (.long q2), .second, .val (.long (q1 + q2)), .second, .val (.long (own_e q1 (q1 + q2))), .second, .val (.long (own_e (q1 + q2) q1)), .second, .unset, .unset] [(.long (own_e (q1 + q2) q1))])) _
    refine XS.lloadN X4.here hx rfl (hb hby at_46) rfl ?_
    show Steps p.tables e below (T4.setTop (mkF m 47 #[.val (.long q1), .second, .val (.long q2), .second, .val (.long (q1 + q2)), .second, .val (.long (own_e q1 (q1 + q2))), .second, .val (.long (own_e (q1 + q2) q1)), .second, .unset, .unset] [(.long q1), (.long (own_e (q1 + q2) q1))])) _
    refine XS.lcmp X4.here hx rfl (hb hby at_47) rfl ?_
    show Steps p.tables e below (T4.setTop (mkF m 48 #[.val (.long q1), .second, .val (.long q2), .second, .val (.long (q1 + q2)), .second, .val (.long (own_e q1 (q1 + q2))), .second, .val (.long (own_e (q1 + q2) q1)), .second, .unset, .unset] [(.int (lcmpW (own_e (q1 + q2) q1) q1))])) _
    refine XS.ifNo X4.here hx rfl (hb hby at_48) rfl ((if0 _ _).trans (feq ((own_min hc26).2.1 : ¬ ((lcmpW (own_e (q1 + q2) q1) q1) = (0 : Int32)))).1) ?_
    show Steps p.tables e below (T4.setTop (mkF m 51 #[.val (.long q1), .second, .val (.long q2), .second, .val (.long (q1 + q2)), .second, .val (.long (own_e q1 (q1 + q2))), .second, .val (.long (own_e (q1 + q2) q1)), .second, .unset, .unset] [])) _
    refine XS.lload X4.here hx rfl (hb hby at_51) rfl ?_
    show Steps p.tables e below (T4.setTop (mkF m 53 #[.val (.long q1), .second, .val (.long q2), .second, .val (.long (q1 + q2)), .second, .val (.long (own_e q1 (q1 + q2))), .second, .val (.long (own_e (q1 + q2) q1)), .second, .unset, .unset] [(.long (own_e (q1 + q2) q1))])) _
    refine XS.lload X4.here hx rfl (hb hby at_53) rfl ?_
    show Steps p.tables e below (T4.setTop (mkF m 55 #[.val (.long q1), .second, .val (.long q2), .second, .val (.long (q1 + q2)), .second, .val (.long (own_e q1 (q1 + q2))), .second, .val (.long (own_e (q1 + q2) q1)), .second, .unset, .unset] [(.long (q1 + q2)), (.long (own_e (q1 + q2) q1))])) _
    refine XS.lcmp X4.here hx rfl (hb hby at_55) rfl ?_
    show Steps p.tables e below (T4.setTop (mkF m 56 #[.val (.long q1), .second, .val (.long q2), .second, .val (.long (q1 + q2)), .second, .val (.long (own_e q1 (q1 + q2))), .second, .val (.long (own_e (q1 + q2) q1)), .second, .unset, .unset] [(.int (lcmpW (own_e (q1 + q2) q1) (q1 + q2)))])) _
    refine XS.ifNo X4.here hx rfl (hb hby at_56) rfl ((if0 _ _).trans (teq ((own_min hc26).2.2 : (lcmpW (own_e (q1 + q2) q1) (q1 + q2)) = (0 : Int32))).2) ?_
    show Steps p.tables e below (T4.setTop (mkF m 59 #[.val (.long q1), .second, .val (.long q2), .second, .val (.long (q1 + q2)), .second, .val (.long (own_e q1 (q1 + q2))), .second, .val (.long (own_e (q1 + q2) q1)), .second, .unset, .unset] [])) _
    refine XS.iconst X4.here hx rfl (hb hby at_59) ?_
    show Steps p.tables e below (T4.setTop (mkF m 60 #[.val (.long q1), .second, .val (.long q2), .second, .val (.long (q1 + q2)), .second, .val (.long (own_e q1 (q1 + q2))), .second, .val (.long (own_e (q1 + q2) q1)), .second, .unset, .unset] [(.int (1 : Int32))])) _
    refine XS.goto X4.here hx rfl (pc0 := 60) (pc' := 64) rfl (hb hby at_60) (by decide) (by decide) ?_
    show Steps p.tables e below (T4.setTop (mkF m 64 #[.val (.long q1), .second, .val (.long q2), .second, .val (.long (q1 + q2)), .second, .val (.long (own_e q1 (q1 + q2))), .second, .val (.long (own_e (q1 + q2) q1)), .second, .unset, .unset] [(.int (1 : Int32))])) _
    exact retN X4 hx (t := .boolean) Bd.returns (by simp) (hb hby at_64) hr
  · show Q0 Z q1 q2 h0 n0 _ T4.heap _
    exact ⟨rfl, N4⟩
theorem rm0 (l : Launch) (Z : State) (a0 : Array Value) (hw : ∀ d ∈ tables_1, d.before a0 Z = true) (ws : List Jvm.Cond) (q1 : Int64) (q2 : Int64) (h0 : Heap) (n0 : Nat) (Z0 : n0 ≤ h0.size) :
    MetFree l x (head1 (Jvm.Cond.code x code maxLocals ret :: ws) room_1) (fun a U => a = #[(.long q1), (.long q2)] ∧ Z.Warmed39 U.vm ∧ U.heap = h0) (fun _ _ _ _ _ => True) (fun _ U o U' => ∃ v L, o = .returned v ∧ Q0 Z q1 q2 h0 n0 v U'.heap L ∧ FrameEnd U o U' L room_1.cells room_1.slots) := by
  by_cases hc26 : (lcmpW q2 (-9223372036854775808 : Int64)) = (0 : Int32)
  · exact rm0_ftff l Z a0 hw ws q1 q2 h0 n0 Z0 hc26
  · by_cases hc68 : (0 : Int32) < (lcmpW q2 (0 : Int64))
    · exact rm0_tfff l Z a0 hw ws q1 q2 h0 n0 Z0 hc26 hc68
    · exact rm0_ttff l Z a0 hw ws q1 q2 h0 n0 Z0 hc26 hc68
set_option maxRecDepth 65536 in
set_option maxHeartbeats 40000000 in
theorem comes_1 {Post : Tables → Env → Array Value → State → Outcome → State → Prop} (hpost : ∀ tb e args s v u, (limb_1_1.after args s (.returned v) u = true ∧ limb_1_2.after args s (.returned v) u = true ∧ True) → FrameEnd s (.returned v) u (Jvm.fieldLocs frame_1_writes args s ++ Jvm.arrayLocs frame_1_arrays args s ++ Jvm.staticLocs frame_1_statics s) 0 0 → Post tb e args s (.returned v) u) :
    ArmFor flags0 classFile x code maxLocals ret World_1 tables_1 room_1 Calls_1 rest_1 Pre_1 Post := by
  intro l hfl _ _ p e ha hc hk s m args below hf hA hF happ hP
  obtain ⟨hcalls, hrest, hpre⟩ := hP
  obtain ⟨-, -, -, hnamed, -, -, -, hat⟩ := (Spec.applies_iff hf).mp happ
  obtain ⟨hg, hn⟩ := and_e (Cond.before_iff.mp (show (Jvm.Cond.and given_1 narrow_1).before args s = true from hpre))
  obtain ⟨g5, g6⟩ := and_e hg
  obtain ⟨g7, g8⟩ := and_e g6
  obtain ⟨w0, w1, rfl⟩ : ∃ w0 w1 : Value, args = #[w0, w1] := by
    have hs : args.size = 2 := by simpa [Cond.value, given_1] using g5
    obtain ⟨L⟩ := args
    match L, hs with
    | [w0, w1], _ => exact ⟨w0, w1, rfl⟩
  have hw := fun d (hd : d ∈ tables_1) => atoms_spec (ws := Jvm.Cond.code x code maxLocals ret :: tables_1) hat d (List.mem_cons_of_mem _ hd)
  have hfit : Fit s := fun {y c} hc i hi => by
    obtain ⟨ha, rfl⟩ := Array.getElem?_eq_some_iff.mp hc
    have q := List.all_eq_true.mp ((Array.all_eq_true_iff_forall_mem.mp hF) _ (Array.getElem_mem ha)) i (List.mem_range.mpr hi)
    simpa [Array.getElem?_eq_getElem hi] using q
  obtain ⟨i0, ei0⟩ := isL_v g7
  obtain rfl : w0 = (.long i0) := Option.some.inj ei0
  obtain ⟨i1, ei1⟩ := isL_v g8
  obtain rfl : w1 = (.long i1) := Option.some.inj ei1
  obtain ⟨n, o, h1, h2, h3, _, L, rfl, ⟨rfl, N⟩, hq⟩ := rm0 l s _ hw tables_1 i0 i1 s.heap s.heap.size (Nat.le_refl _) p e ha hc hk s m _ below hf ((Spec.applies_iff_loose hf).mp happ).1 ⟨rfl, State.Warmed39.refl s, rfl⟩ trivial
  refine ⟨n, _, h1, h2, h3, hpost _ _ _ _ _ _ ⟨Cond.after_iff.mpr rfl, Cond.after_iff.mpr (eq_i res_at (Term.int_eval (1)) rfl), trivial⟩ ⟨hq.1, hq.2.1, (hq.2.2.sift fun y hy => Or.inr (N y hy)).mono (by decide) (by decide)⟩⟩
theorem main_1_1 : Claimed_1_1 := comes_1 fun _ _ _ _ _ _ h hF => ⟨h.1, hF⟩
theorem main_1_2 : Claimed_1_2 := comes_1 fun _ _ _ _ _ _ h hF => ⟨h.2.1, hF⟩
end Jvm.Pilot.@@N@@
namespace Jvm.Pilot.@@N@@
open Jvm Jvm.ClassFile Sem Op Lib Jvm.Free Jvm.Stand Jvm.Pilot.@@N@@.Jvm.D
/-! MADE BY PROGRAM (witnessworld.py) out of the Statement's table words and the real class files: 7 classes; the members and pool entries that the words name. The judged class is class 1, her method 1. -/
namespace start1
open Jvm.ClassFile
def u (s : String) : CpInfo := .utf8 (stringToUtf16 s)
/-- a pool by its gaps: so many unusable entries, then the entry; so many at the end -/
def gap : Nat → List CpInfo → List CpInfo
  | 0, r => r
  | n + 1, r => .unusable :: gap n r
def poolList (es : List (Nat × CpInfo)) (last : Nat) : List CpInfo := es.foldr (fun e r => gap e.1 (e.2 :: r)) (gap last [])
def pool (es : List (Nat × CpInfo)) (last : Nat) : Array CpInfo := ⟨poolList es last⟩
def fileOf (pool : Array CpInfo) (this : Nat) (attrs : Array Attribute := #[]) (ms : Array MethodInfo := #[]) (fl : Nat := 33) (sup : Nat := 0) (ifs : Array Nat := #[]) (fds : Array FieldInfo := #[]) : ClassFile where
  minorVersion := 0
  majorVersion := 65
  constantPool := pool
  accessFlags := fl
  thisClass := this
  superClass := sup
  interfaces := ifs
  fields := fds
  methods := ms
  attributes := attrs
def plain (name : String) (sup : Option ClassId) : Class where
  name := name
  kind := .ordinary
  loader := none
  accessFlags := 33
  super := sup
  interfaces := #[]
  cf := none
  fields := #[]
  methods := #[]
  instanceTypes := #[]
  staticTypes := #[]
  resolved := #[]
  callSites := []
  init := .initialized
  statics := none
  mirror := none

def pool0 : Array CpInfo := pool [(5, u "<init>"), (0, u "()V"), (1, .class_ 10), (1, u "java/lang/Object")] 113

def k0m0 : Method := { name := "<init>", desc := "()V", sig := { parameters := [], returnType := none }, accessFlags := 1, code := none }
/-- java/lang/Object -/
def k0 : Class := { plain "java/lang/Object" none with
  accessFlags := 33
  interfaces := #[]
  cf := some (fileOf pool0 8 #[] #[{ accessFlags := 1, nameIndex := 5, descriptorIndex := 6, attributes := #[] }] 33 0 #[] #[])
  fields := #[]
  methods := #[k0m0]
  instanceTypes := #[]
  staticTypes := #[]
  resolved := Array.replicate 124 none
  statics := none }

def pool1 : Array CpInfo := pool [(2, .class_ 4), (1, u "java/lang/Object"), (0, u "<init>"), (0, u "()V"), (0, .methodref 8 9), (0, .class_ 10), (0, .nameAndType 11 12), (0, u "com/example/bouncer/bouncer/Store"), (0, u "earlier"), (0, u "(JJ)J"), (2, .long 9223372036854775808), (1, .class_ 18), (0, u "com/example/bouncer/bouncer/StoreEarlierPinLaw"), (2, u "law"), (0, u "(JJ)Z")] 3

def k1m0 : Method := { name := "<init>", desc := "()V", sig := { parameters := [], returnType := none }, accessFlags := 2, code := none }
def k1c1 : Code := { maxStack := 4, maxLocals := 12, code := code, exceptionTable := #[], attributes := #[] }
def k1m1 : Method := { name := "law", desc := "(JJ)Z", sig := { parameters := [.long, .long], returnType := some .boolean }, accessFlags := 9, code := some k1c1 }
/-- com/example/bouncer/bouncer/StoreEarlierPinLaw -/
def k1 : Class := { plain "com/example/bouncer/bouncer/StoreEarlierPinLaw" (some 0) with
  accessFlags := 49
  interfaces := #[]
  cf := some (fileOf pool1 17 #[] #[{ accessFlags := 2, nameIndex := 5, descriptorIndex := 6, attributes := #[] }, { accessFlags := 9, nameIndex := 21, descriptorIndex := 22, attributes := #[] }] 49 2 #[] #[])
  fields := #[]
  methods := #[k1m0, k1m1]
  instanceTypes := #[]
  staticTypes := #[]
  resolved := Array.replicate 26 none
  statics := none }

def pool2 : Array CpInfo := pool [(2, .class_ 4), (1, u "java/lang/Object"), (0, u "<init>"), (0, u "()V"), (11, u "(JJ)J"), (7, .class_ 28), (1, u "com/example/bouncer/bouncer/Store"), (15, u "CALL_LIMIT"), (0, u "Ljava/time/Duration;"), (10, u "earlier"), (7, .class_ 65), (0, u "com/example/bouncer/bouncer/Store$Wait")] 2

def k2m0 : Method := { name := "<init>", desc := "()V", sig := { parameters := [], returnType := none }, accessFlags := 0, code := none }
def k2c1 : Code := { maxStack := 4, maxLocals := 4, code := prog_20_method_6_code, exceptionTable := #[], attributes := #[] }
def k2m1 : Method := { name := "earlier", desc := "(JJ)J", sig := { parameters := [.long, .long], returnType := some .long }, accessFlags := 8, code := some k2c1 }
/-- com/example/bouncer/bouncer/Store -/
def k2 : Class := { plain "com/example/bouncer/bouncer/Store" (some 0) with
  accessFlags := 1056
  interfaces := #[]
  cf := some (fileOf pool2 26 #[.nestMembers #[64]] #[{ accessFlags := 0, nameIndex := 5, descriptorIndex := 6, attributes := #[] }, { accessFlags := 8, nameIndex := 56, descriptorIndex := 18, attributes := #[] }] 1056 2 #[] #[{ accessFlags := 24, nameIndex := 44, descriptorIndex := 45, attributes := #[] }])
  fields := #[{ name := "CALL_LIMIT", type := (.object "java/time/Duration"), accessFlags := 24, slot := 0, constantValue := 0 }]
  methods := #[k2m0, k2m1]
  instanceTypes := #[]
  staticTypes := #[(.object "java/time/Duration")]
  resolved := Array.replicate 68 none
  statics := none }

def pool3 : Array CpInfo := pool [(1, u "java/lang/Cloneable"), (0, .class_ 1), (0, u "java/lang/Object"), (0, .class_ 3)] 3

/-- java/lang/Cloneable -/
def k3 : Class := { plain "java/lang/Cloneable" (some 0) with
  accessFlags := 1537
  interfaces := #[]
  cf := some (fileOf pool3 2 #[] #[] 1537 4 #[] #[])
  fields := #[]
  methods := #[]
  instanceTypes := #[]
  staticTypes := #[]
  resolved := Array.replicate 8 none
  statics := none }

def pool4 : Array CpInfo := pool [(1, u "java/io/Serializable"), (0, .class_ 1), (0, u "java/lang/Object"), (0, .class_ 3)] 3

/-- java/io/Serializable -/
def k4 : Class := { plain "java/io/Serializable" (some 0) with
  accessFlags := 1537
  interfaces := #[]
  cf := some (fileOf pool4 2 #[] #[] 1537 4 #[] #[])
  fields := #[]
  methods := #[]
  instanceTypes := #[]
  staticTypes := #[]
  resolved := Array.replicate 8 none
  statics := none }

/-- the primitive byte -/
def k5 : Class := { plain "byte" none with kind := .primitive 'B', accessFlags := 0x411 }
/-- [B -/
def k6 : Class := { plain "[B" (some 0) with kind := .array 5 .byte, interfaces := #[3, 4], accessFlags := 1041 }

def heap : Heap := #[]
def classes : Array Class := #[k0, k1, k2, k3, k4, k5, k6]
def interned : List (Array UInt16 × Addr) := []
def slotsUsed : Nat := 0
def theMethod : MethodId := ⟨1, 1⟩
def args0 : Array Value := #[.long 5, .long 3]
def aboutOver (below : List Frame) : State where
  vm := { classes := classes, interned := interned.toArray }
  heap := heap
  slotsUsed := slotsUsed
  threads := #[{ frames := .invoking theMethod args0 :: below }]
def below0 : List Frame := [.native { method := ⟨0, 0⟩, args := #[] }]
def about1 : State := aboutOver below0
def p0 : Program := .bare "" "" ""
def e0 : Env := launch0.env 0 0 0
theorem w_frames : about1.frames = Frame.invoking theMethod args0 :: below0 := rfl
set_option maxRecDepth 65536 in
theorem w_args : argsFit about1.vm theMethod args0 = true := by decide +kernel
set_option maxRecDepth 65536 in
theorem w_heap : heapFits about1 = true := by decide +kernel
set_option maxRecDepth 65536 in
theorem w_runnable : about1.curStatus? = some .runnable := by decide +kernel
set_option maxRecDepth 65536 in
theorem w_alone : about1.alone = true := by decide +kernel
set_option maxRecDepth 65536 in
theorem w_named : about1.methodNamed? x = some theMethod := by decide +kernel
set_option maxRecDepth 65536 in
theorem w_hears : about1.hears theMethod below0 = true := by decide +kernel
set_option maxRecDepth 65536 in
theorem w_ripe : about1.ripe theMethod args0 below0 = true := by decide +kernel
theorem w_running : about1.status = .running := rfl
set_option maxRecDepth 65536 in
theorem w_room : about1.hasRoom e0.platform room_1 = true :=
  launch0.hasRoom_least _ room_1 (by decide +kernel) (by decide +kernel) (by decide +kernel) (by decide +kernel) (by decide +kernel) (by decide +kernel)
theorem allAtoms_all (ts : List Jvm.Cond) (a : Array Jvm.Value) (st : Jvm.State) : (allAtoms ts).before a st = ts.all (fun c => c.before a st) := by
  induction ts with
  | nil => rfl
  | cons c t ih =>
    show (Jvm.Cond.and c (allAtoms t)).before a st = _
    rw [Jvm.Cond.before_and, ih, List.all_cons]
def words1 : List Jvm.Cond := Jvm.Cond.code x code maxLocals ret :: tables_1
/-- a 'code' word, met by the world's own term for the bytes: nothing is compared byte by byte -/
theorem code_word {y : MethodName} {bytes : ByteArray} {mx : Nat} {rt : Option FieldType} {a : Array Value} {s : State} {m : MethodId} {meth : Method} {c : Code} (h1 : s.methodNamed? y = some m) (h2 : s.vm.method? m = some meth) (h3 : meth.code = some c) (h4 : c.code = bytes)
    (h5 : (c.maxLocals == mx && c.exceptionTable.isEmpty && decide (c.maxStack ≤ mostOperands) && decide (meth.sig.returnType = rt) && !meth.locks && decide (parseMethodDescriptor y.desc = some meth.sig)) = true) : (Jvm.Cond.code y bytes mx rt).before a s = true := by
  simp only [Bool.and_eq_true, beq_iff_eq, Bool.not_eq_true', decide_eq_true_eq] at h5
  obtain ⟨⟨⟨⟨⟨g1, g2⟩, g3⟩, g4⟩, g5⟩, g6⟩ := h5
  simp [Cond.before, Cond.holds, Cond.value, h1, h2, h3, h4, g1, g2, g3, g4, g5, g6]
def isCode : Jvm.Cond → Bool
  | .code _ _ _ _ => true
  | _ => false
theorem all_split {L : List Jvm.Cond} {P : Jvm.Cond → Bool} (h1 : L.all (fun c => isCode c || P c) = true) (h2 : ∀ c ∈ L.filter isCode, P c = true) : L.all P = true := by
  refine List.all_eq_true.mpr fun c hc => ?_
  have h := List.all_eq_true.mp h1 c hc
  rcases Bool.eq_false_or_eq_true (isCode c) with hi | hi
  · exact h2 c (List.mem_filter.mpr ⟨hc, hi⟩)
  · simpa [hi] using h
set_option maxRecDepth 65536 in
theorem w_c0 : (Jvm.Cond.code x code maxLocals ret).before args0 about1 = true := code_word (m := ⟨1, 1⟩) (meth := k1m1) (c := k1c1) (by decide +kernel) rfl rfl rfl (by decide +kernel)
set_option maxRecDepth 65536 in
theorem w_c1 : (Jvm.Cond.code ({ cls := "com/example/bouncer/bouncer/Store", name := "earlier", desc := "(JJ)J" } : Jvm.MethodName) prog_20_method_6_code (4 : Nat) (Option.some Jvm.ClassFile.FieldType.long)).before args0 about1 = true := code_word (m := ⟨2, 1⟩) (meth := k2m1) (c := k2c1) (by decide +kernel) rfl rfl rfl (by decide +kernel)
def codes1 : List Jvm.Cond := [Jvm.Cond.code x code maxLocals ret, Jvm.Cond.code ({ cls := "com/example/bouncer/bouncer/Store", name := "earlier", desc := "(JJ)J" } : Jvm.MethodName) prog_20_method_6_code (4 : Nat) (Option.some Jvm.ClassFile.FieldType.long)]
set_option maxRecDepth 65536 in
theorem codes_eq : words1.filter isCode = codes1 := rfl
theorem w_codes : ∀ c ∈ words1.filter isCode, c.before args0 about1 = true := by
  rw [codes_eq]
  intro c hc
  simp only [codes1, List.mem_cons, List.not_mem_nil, or_false] at hc
  rcases hc with rfl | rfl
  · exact w_c0
  · exact w_c1
set_option maxRecDepth 65536 in
theorem w_t1 : words1.all (fun c => isCode c || c.before args0 about1) = true := by decide +kernel
theorem w_tables : (allAtoms (Jvm.Cond.code x code maxLocals ret :: tables_1)).before args0 about1 = true := by
  rw [allAtoms_all]
  show words1.all (fun c => c.before args0 about1) = true
  refine all_split ?_ w_codes
  rw [w_t1]
set_option maxRecDepth 65536 in
theorem w_case : (Jvm.Cond.and given_1 narrow_1).before args0 about1 = true := by decide +kernel
theorem w_applies : (headSpec (Jvm.Cond.code x code maxLocals ret :: tables_1) room_1).applies x e0.platform about1 = true :=
  (Spec.applies_iff w_frames).mpr ⟨w_running, w_runnable, w_alone, w_named, w_hears, w_ripe, w_room, w_tables⟩
theorem atStart : AtStart classFile x code maxLocals ret World_1 tables_1 room_1 Calls_1 rest_1 Pre_1 launch0 p0 e0 about1 theMethod args0 below0 :=
  ⟨lists_1, trivial, launch0.admits_env _ _ _, launch0.least_env, fairChoices_fair.cas, fairChoices_fair.clock, w_frames, w_args, w_heap, w_applies, trivial, trivial, w_case⟩
end start1
theorem witness_1 : WitnessClaimed_1 := ⟨start1.p0, start1.e0, start1.about1, start1.theMethod, start1.args0, start1.below0, start1.atStart⟩
end Jvm.Pilot.@@N@@
