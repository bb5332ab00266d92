import JvmDerived
import JvmDerived.Pilot.@@N@@Statement
import JvmDerived.Pilot.@@N@@Code
set_option linter.unusedVariables false
set_option linter.unusedSimpArgs false
namespace Jvm.RoadKit
open Sem ClassFile Op Lib Jvm.Stand Jvm.Free Jvm.LawKit
section New
variable {p : Program} {l : Launch} {e : Env} {R : Room} {s : State} {m : MethodId} {args : Array Value} {below : List Frame} {meth : Method} {c : Code} {T : State} {locs : List Loc} {cells slots : Nat}
theorem retI (X : Stand p l e R s m args below meth c T locs cells slots) (hx : p.tables.exec = Jvm.exec) {pc : Nat} {Ls : Array Slot} {z : Int32} {rest : List Value} (hret : meth.sig.returnType = some .int) (hd : decode c.code pc = .ok (.ireturn, 1)) {fs : List Frame}
    (hl : ∀ (f : JFrame) (acts : List Action), f.method = m → f.locked = none → f.entered = [] → (doReturn e (T.setTop f) acts (some (.int z))).1 = T.setFrames fs) : Steps p.tables e below (T.setTop (mkF m pc Ls (.int z :: rest))) (T.setFrames fs) := by
  have hm' : T.vm.method? m = some meth := X.method'
  have hn : narrow .int (.int z) = .int z := rfl
  show Steps p.tables e below (T.setTop { method := m, pc := pc, locals := Ls, stack := _ :: rest, locked := none }) _
  jvm_step X.here [X.here.top, hx, hd, hm', hret, hn]
  first | (intro acts; rw [hl _ acts rfl rfl rfl]) | rw [hl _ _ rfl rfl rfl]
  exact Steps.refl _
end New
end Jvm.RoadKit
namespace Jvm.Pilot.@@N@@
open Jvm Jvm.ClassFile Sem Op Lib Jvm.Free Jvm.Stand Jvm.LawKit Jvm.RoadKit Bundle Jvm.Pilot.@@N@@.Jvm.D

def own_i (p1 : Int32) : Int32 := (p1 &&& (2147483647 : Int32)) - ((p1 &&& (2147483647 : Int32)) / (14 : Int32)) * (14 : Int32)
theorem own_i_rng (p1 : Int32) : 0 ≤ (own_i p1).toInt ∧ (own_i p1).toInt < 14 := by
  have hx := (c_and p1 2147483647 (by decide)).1
  show 0 ≤ ((p1 &&& (2147483647 : Int32)) - ((p1 &&& (2147483647 : Int32)) / (14 : Int32)) * (14 : Int32)).toInt ∧ ((p1 &&& (2147483647 : Int32)) - ((p1 &&& (2147483647 : Int32)) / (14 : Int32)) * (14 : Int32)).toInt < 14
  rw [Jvm.LawKit.rem_toInt, Int.tmod_eq_emod_of_nonneg hx, show (14 : Int32).toInt = 14 from by decide]
  exact ⟨Int.emod_nonneg _ (by decide), Int.emod_lt_of_pos _ (by decide)⟩
theorem own_i_nn (p1 : Int32) : ¬ (own_i p1 < 0) ∧ own_i p1 < (14 : Int32) := by
  have h := own_i_rng p1
  rw [Int32.lt_iff_toInt_lt, Int32.lt_iff_toInt_lt, show (0 : Int32).toInt = 0 from by decide, show (14 : Int32).toInt = 14 from by decide]
  omega
def own_cmp (w : Int32) : Int32 := if w.toInt < 2 ∨ w.toInt > 7 then 0 else 1
theorem own_offs : ∀ k : Nat, k < 6 → (#[40, 40, 40, 40, 40, 40] : Array Int)[k]? = some 40 := by decide
theorem own_cases (i : Int32) (h : 0 ≤ i.toInt ∧ i.toInt < 14) : i = (0 : Int32) ∨ i = (1 : Int32) ∨ i = (2 : Int32) ∨ i = (3 : Int32) ∨ i = (4 : Int32) ∨ i = (5 : Int32) ∨ i = (6 : Int32) ∨ i = (7 : Int32) ∨ i = (8 : Int32) ∨ i = (9 : Int32) ∨ i = (10 : Int32) ∨ i = (11 : Int32) ∨ i = (12 : Int32) ∨ i = (13 : Int32) := by
  have e : ∀ k : Int32, i.toInt = k.toInt → i = k := fun k q => Int32.toInt_inj.mp q
  have hn : i.toInt = 0 ∨ i.toInt = 1 ∨ i.toInt = 2 ∨ i.toInt = 3 ∨ i.toInt = 4 ∨ i.toInt = 5 ∨ i.toInt = 6 ∨ i.toInt = 7 ∨ i.toInt = 8 ∨ i.toInt = 9 ∨ i.toInt = 10 ∨ i.toInt = 11 ∨ i.toInt = 12 ∨ i.toInt = 13 := by omega
  rcases hn with q | q | q | q | q | q | q | q | q | q | q | q | q | q
  · exact Or.inl (e 0 (q.trans (by decide)))
  · exact Or.inr (Or.inl (e 1 (q.trans (by decide))))
  · exact Or.inr (Or.inr (Or.inl (e 2 (q.trans (by decide)))))
  · exact Or.inr (Or.inr (Or.inr (Or.inl (e 3 (q.trans (by decide))))))
  · exact Or.inr (Or.inr (Or.inr (Or.inr (Or.inl (e 4 (q.trans (by decide)))))))
  · exact Or.inr (Or.inr (Or.inr (Or.inr (Or.inr (Or.inl (e 5 (q.trans (by decide))))))))
  · exact Or.inr (Or.inr (Or.inr (Or.inr (Or.inr (Or.inr (Or.inl (e 6 (q.trans (by decide)))))))))
  · exact Or.inr (Or.inr (Or.inr (Or.inr (Or.inr (Or.inr (Or.inr (Or.inl (e 7 (q.trans (by decide))))))))))
  · exact Or.inr (Or.inr (Or.inr (Or.inr (Or.inr (Or.inr (Or.inr (Or.inr (Or.inl (e 8 (q.trans (by decide)))))))))))
  · exact Or.inr (Or.inr (Or.inr (Or.inr (Or.inr (Or.inr (Or.inr (Or.inr (Or.inr (Or.inl (e 9 (q.trans (by decide))))))))))))
  · exact Or.inr (Or.inr (Or.inr (Or.inr (Or.inr (Or.inr (Or.inr (Or.inr (Or.inr (Or.inr (Or.inl (e 10 (q.trans (by decide)))))))))))))
  · exact Or.inr (Or.inr (Or.inr (Or.inr (Or.inr (Or.inr (Or.inr (Or.inr (Or.inr (Or.inr (Or.inr (Or.inl (e 11 (q.trans (by decide))))))))))))))
  · exact Or.inr (Or.inr (Or.inr (Or.inr (Or.inr (Or.inr (Or.inr (Or.inr (Or.inr (Or.inr (Or.inr (Or.inr (Or.inl (e 12 (q.trans (by decide)))))))))))))))
  · exact Or.inr (Or.inr (Or.inr (Or.inr (Or.inr (Or.inr (Or.inr (Or.inr (Or.inr (Or.inr (Or.inr (Or.inr (Or.inr ((e 13 (q.trans (by decide))))))))))))))))
theorem own_pick {P : Addr → Int32 → Prop} {w3 w6 w9 w12 w15 w18 w21 w24 w27 w30 w33 w36 w39 w42 : Addr} (p0 : P w3 0) (p1 : P w6 1) (p2 : P w9 2) (p3 : P w12 3) (p4 : P w15 4) (p5 : P w18 5) (p6 : P w21 6) (p7 : P w24 7) (p8 : P w27 8) (p9 : P w30 9) (p10 : P w33 10) (p11 : P w36 11) (p12 : P w39 12) (p13 : P w42 13) (i : Int32) (h : 0 ≤ i.toInt ∧ i.toInt < 14) :
    ∃ w : Addr, ([.ref w3, .ref w6, .ref w9, .ref w12, .ref w15, .ref w18, .ref w21, .ref w24, .ref w27, .ref w30, .ref w33, .ref w36, .ref w39, .ref w42] : List Value).getD i.toNatClampNeg .null = .ref w ∧ P w i := by
  rcases own_cases i h with rfl | rfl | rfl | rfl | rfl | rfl | rfl | rfl | rfl | rfl | rfl | rfl | rfl | rfl
  · exact ⟨_, rfl, p0⟩
  · exact ⟨_, rfl, p1⟩
  · exact ⟨_, rfl, p2⟩
  · exact ⟨_, rfl, p3⟩
  · exact ⟨_, rfl, p4⟩
  · exact ⟨_, rfl, p5⟩
  · exact ⟨_, rfl, p6⟩
  · exact ⟨_, rfl, p7⟩
  · exact ⟨_, rfl, p8⟩
  · exact ⟨_, rfl, p9⟩
  · exact ⟨_, rfl, p10⟩
  · exact ⟨_, rfl, p11⟩
  · exact ⟨_, rfl, p12⟩
  · exact ⟨_, rfl, p13⟩
def own_ord (Z : State) (h : Heap) (w : Addr) (k : Int32) : Prop := Exa Z h w "com/example/whence/whence/sql/Expression$Binary$Operator" ∧ Fld Z h w "java/lang/Enum" "ordinal" "I" (.int k)
theorem own_at {s : State} {args : Array Value} {nm : String} {k : Int32}
    (h1 : (Jvm.Cond.exactly (Jvm.Term.static "com/example/whence/whence/sql/Expression$Binary$Operator" nm "Lcom/example/whence/whence/sql/Expression$Binary$Operator;") "com/example/whence/whence/sql/Expression$Binary$Operator").value args s none s [] = some true)
    (h2 : (Jvm.Cond.eq (Jvm.Term.field (Jvm.Term.static "com/example/whence/whence/sql/Expression$Binary$Operator" nm "Lcom/example/whence/whence/sql/Expression$Binary$Operator;") "java/lang/Enum" "ordinal" "I") (Jvm.Term.int k)).value args s none s [] = some true)
    (hi : (Jvm.Cond.initialized "com/example/whence/whence/sql/Expression$Binary$Operator").before args s = true) (hl : (Jvm.Cond.laysStatic "com/example/whence/whence/sql/Expression$Binary$Operator" nm "Lcom/example/whence/whence/sql/Expression$Binary$Operator;").before args s = true) :
    ∃ w : Addr, Sta s s.heap "com/example/whence/whence/sql/Expression$Binary$Operator" nm "Lcom/example/whence/whence/sql/Expression$Binary$Operator;" (.ref w) ∧ own_ord s s.heap w k := by
  obtain ⟨w, e⟩ := exa_v h1
  obtain ⟨x, y, ex, ey, hk, -⟩ := cmp_v (Or.inl h2)
  obtain rfl : Value.int k = y := Option.some.inj ey
  obtain ⟨z, rfl⟩ : ∃ z, x = Value.int z := by
    cases x <;> simp [Kin, Value.isRef] at hk ⊢
  have hq : z = k := by
    have h3 := h2
    simp only [Cond.value, ex, Term.int_eval] at h3
    simpa using h3
  subst hq
  exact ⟨w, Sta.start e (Or.inr ⟨hi, hl⟩), Exa.start e h1, Fld.start ((fld_at e).symm.trans ex)⟩

theorem own_cmp_in {w : Int32} (h1 : ¬ (w < (2 : Int32))) (h2 : ¬ ((7 : Int32) < w)) : own_cmp w = (1 : Int32) := by
  rw [Int32.lt_iff_toInt_lt, show (2 : Int32).toInt = 2 from by decide] at h1
  rw [Int32.lt_iff_toInt_lt, show (7 : Int32).toInt = 7 from by decide] at h2
  rw [own_cmp, if_neg (by omega)]
theorem own_cmp_lo {w : Int32} (h1 : w < (2 : Int32)) : own_cmp w = (0 : Int32) := by
  rw [Int32.lt_iff_toInt_lt, show (2 : Int32).toInt = 2 from by decide] at h1
  rw [own_cmp, if_pos (by omega)]
theorem own_cmp_hi {w : Int32} (h2 : (7 : Int32) < w) : own_cmp w = (0 : Int32) := by
  rw [Int32.lt_iff_toInt_lt, show (7 : Int32).toInt = 7 from by decide] at h2
  rw [own_cmp, if_pos (by omega)]
theorem d2_0 : decode jdk_37_method_2_code 0 = .ok (.aload_n 0, 1) := by decide +kernel
theorem d2_1 : decode jdk_37_method_2_code 1 = .ok (.getfield 7, 3) := by decide +kernel
theorem d2_4 : decode jdk_37_method_2_code 4 = .ok (.ireturn, 1) := by decide +kernel
theorem pn_2 : plainName "java/lang/Enum" = true := by first | (simp [plainName, overriddenIn]; done) | decide +kernel
theorem ef_2 (m : MethodId) (x0 : Addr) : entryFrame m #[(.ref x0)] 1 = mkF m 0 #[.val (.ref x0)] [] := by first | (simp [entryFrame, mkF, argsToLocals, Value.category]; done) | rfl
def Q2 (Z : State) (a1 : Addr) (w2 : Int32) (h0 : Heap) (n0 : Nat) (v : Option Value) (h : Heap) (L : List Loc) : Prop := v = some (.int w2) ∧ Fr n0 L ∧ h = h0
set_option maxRecDepth 65536 in
set_option maxHeartbeats 40000000 in
theorem rm2 (l : Launch) (Z : State) (a0 : Array Value) (hw : ∀ d ∈ tables_1, d.before a0 Z = true) (ws : List Jvm.Cond) (a1 : Addr) (w2 : Int32) (h0 : Heap) (n0 : Nat) (Z0 : n0 ≤ h0.size) (F_ordinal_a1 : Fld Z h0 a1 "java/lang/Enum" "ordinal" "I" (.int w2)) :
    MetFree l (⟨"java/lang/Enum", "ordinal", "()I"⟩ : MethodName) (head1 (Jvm.Cond.code (⟨"java/lang/Enum", "ordinal", "()I"⟩ : MethodName) jdk_37_method_2_code 1 (some .int) :: ws) ({ frames := 0, cells := 0, slots := 0, locals := 0 } : Room)) (fun a U => a = #[(.ref a1)] ∧ Z.Warmed39 U.vm ∧ U.heap = h0) (fun _ _ _ _ _ => True) (fun _ U o U' => ∃ v L, o = .returned v ∧ Q2 Z a1 w2 h0 n0 v U'.heap L ∧ FrameEnd U o U' L ({ frames := 0, cells := 0, slots := 0, locals := 0 } : Room).cells ({ frames := 0, cells := 0, slots := 0, locals := 0 } : Room).slots) := by
  refine MetFree.of_bodySF (plainFor_of_name pn_2) hisR ?_
  intro p e s m args below meth c s₁ Bd hml0 hP hK
  obtain ⟨rfl, hZ, hh⟩ := hP
  have hx := Bd.exec
  have hby := Bd.bytes
  have hml : c.maxLocals = 1 := hml0
  have hown : s.vm.findClass "java/lang/Enum" = some m.cls := findClass_of_methodNamed Bd.named
  have hnm := (name_of_methodNamed Bd.named Bd.method).1
  have X0 : Stand p l e ({ frames := 0, cells := 0, slots := 0, locals := 0 } : Room) s m #[(.ref a1)] below meth c s₁ [] 0 0 := Stand.of_body Bd
  have e0 : s₁.heap = h0 := by rw [← hh, Bd.state]; rfl
  have N0 := Fr.nil n0
  have pre0 : ∀ t, Steps p.tables e below (s₁.setTop (mkF m 0 #[.val (.ref a1)] [])) t → Steps p.tables e below (s₁.setTop (entryFrame m #[(.ref a1)] 1)) t := fun t k => castTop (ef_2 m a1) k
  obtain ⟨T3, X3, e3, st3⟩ := getF X0 hx hZ hown (host := "") (Or.inl (hw _ (List.mem_of_getElem? (i := 45) rfl))) Via.refl e0 F_ordinal_a1 (g := (mkF m 1 #[.val (.ref a1)] [(.ref a1)])) rfl rfl (hb hby d2_1)
  obtain ⟨fs, hr, hrun, hended, hW, hsame⟩ := X3.leave (v := some (.int w2)) (fun h => by rw [Bd.returns] at h; cases h)
  refine ⟨_, _, pre0 _ ?_, hrun, hended, _, _, rfl, ?_, ⟨_, rfl⟩, hW, hsame.mono (by decide) (by decide)⟩
  · show Steps p.tables e below (s₁.setTop (mkF m 0 #[.val (.ref a1)] [])) _
    refine XS.aloadN X0.here hx rfl (hb hby d2_0) rfl rfl ?_
    show Steps p.tables e below (s₁.setTop (mkF m 1 #[.val (.ref a1)] [(.ref a1)])) _
    refine st3 _ ?_
    show Steps p.tables e below (T3.setTop (mkF m 4 #[.val (.ref a1)] [(.int w2)])) _
    exact retI X3 hx Bd.returns (hb hby d2_4) hr      -- retI stands in the head ('lawwalk <made dir>' prints it)
  · show Q2 Z a1 w2 h0 n0 _ T3.heap _
    rw [e3]
    exact ⟨rfl, N0, rfl⟩
theorem d1_4 : decode prog_34_method_4_code 4 = .ok (.tableswitch 44 2 7 #[40, 40, 40, 40, 40, 40], 40) := by decide +kernel
theorem d1_44 : decode prog_34_method_4_code 44 = .ok (.iconst 1, 1) := by decide +kernel
theorem d1_45 : decode prog_34_method_4_code 45 = .ok (.goto 4, 3) := by decide +kernel
theorem d1_48 : decode prog_34_method_4_code 48 = .ok (.iconst 0, 1) := by decide +kernel
theorem d1_49 : decode prog_34_method_4_code 49 = .ok (.ireturn, 1) := by decide +kernel
theorem d1_0 : decode prog_34_method_4_code 0 = .ok (.aload_n 0, 1) := by decide +kernel
theorem d1_1 : decode prog_34_method_4_code 1 = .ok (.invokevirtual 65, 3) := by decide +kernel
theorem pn_1 : plainName "com/example/whence/whence/sql/Expression$Binary$Operator" = true := by first | (simp [plainName, overriddenIn]; done) | decide +kernel
theorem pd_1_1 : parseMethodDescriptor "()I" = some ⟨[], some .int⟩ := by decide +kernel
theorem ef_1 (m : MethodId) (x0 : Addr) : entryFrame m #[(.ref x0)] 1 = mkF m 0 #[.val (.ref x0)] [] := by first | (simp [entryFrame, mkF, argsToLocals, Value.category]; done) | rfl
def Q1 (Z : State) (a1 : Addr) (w : Int32) (h0 : Heap) (n0 : Nat) (v : Option Value) (h : Heap) (L : List Loc) : Prop := v = some (.int (own_cmp w)) ∧ Fr n0 L ∧ h = h0
set_option maxRecDepth 65536 in
set_option maxHeartbeats 40000000 in
theorem rm1 (l : Launch) (Z : State) (a0 : Array Value) (hw : ∀ d ∈ tables_1, d.before a0 Z = true) (ws : List Jvm.Cond) (a1 : Addr) (w : Int32) (h0 : Heap) (n0 : Nat) (Z0 : n0 ≤ h0.size) (E_a1 : Exa Z h0 a1 "com/example/whence/whence/sql/Expression$Binary$Operator") (F_ord : Fld Z h0 a1 "java/lang/Enum" "ordinal" "I" (.int w)) :
    MetFree l (⟨"com/example/whence/whence/sql/Expression$Binary$Operator", "isComparison", "()Z"⟩ : MethodName) (head1 (Jvm.Cond.code (⟨"com/example/whence/whence/sql/Expression$Binary$Operator", "isComparison", "()Z"⟩ : MethodName) prog_34_method_4_code 1 (some .boolean) :: ws) ({ frames := 1, cells := 0, slots := 0, locals := 12 } : Room)) (fun a U => a = #[(.ref a1)] ∧ Z.Warmed39 U.vm ∧ U.heap = h0) (fun _ _ _ _ _ => True) (fun _ U o U' => ∃ v L, o = .returned v ∧ Q1 Z a1 w h0 n0 v U'.heap L ∧ FrameEnd U o U' L ({ frames := 1, cells := 0, slots := 0, locals := 12 } : Room).cells ({ frames := 1, cells := 0, slots := 0, locals := 12 } : Room).slots) := by
  refine MetFree.of_bodySF (plainFor_of_name pn_1) hisR ?_
  intro p e s m args below meth c s₁ Bd hml0 hP hK
  obtain ⟨rfl, hZ, hh⟩ := hP
  have hx := Bd.exec
  have hby := Bd.bytes
  have hml : c.maxLocals = 1 := hml0
  have hown : s.vm.findClass "com/example/whence/whence/sql/Expression$Binary$Operator" = some m.cls := findClass_of_methodNamed Bd.named
  have hnm := (name_of_methodNamed Bd.named Bd.method).1
  have X0 : Stand p l e ({ frames := 1, cells := 0, slots := 0, locals := 12 } : Room) s m #[(.ref a1)] below meth c s₁ [] 0 0 := Stand.of_body Bd
  have e0 : s₁.heap = h0 := by rw [← hh, Bd.state]; rfl
  have N0 := Fr.nil n0
  have pre0 : ∀ t, Steps p.tables e below (s₁.setTop (mkF m 0 #[.val (.ref a1)] [])) t → Steps p.tables e below (s₁.setTop (entryFrame m #[(.ref a1)] 1)) t := fun t k => castTop (ef_1 m a1) k
  obtain ⟨cq2, kq2, q2a, q2b, q2c⟩ := isOf hZ e0 E_a1
  obtain ⟨_, _, ⟨T2, L2, k2, n2⟩, -, X2, ⟨Lc2, hQ2, l2, y2, z2⟩, st2⟩ := X0.virtualBackUp hx (x := (⟨"com/example/whence/whence/sql/Expression$Binary$Operator", "ordinal", "()I"⟩ : MethodName)) (owner := "java/lang/Enum") (y := (⟨"java/lang/Enum", "ordinal", "()I"⟩ : MethodName)) hown (mvT hZ (hw _ (List.mem_of_getElem? (i := 38) rfl))) (mvT hZ (hw _ (List.mem_of_getElem? (i := 39) rfl))) (mvT hZ (hw _ (List.mem_of_getElem? (i := 40) rfl))) (by decide) (mvT hZ (hw _ (List.mem_of_getElem? (i := 42) rfl))) (mvT hZ (hw _ (List.mem_of_getElem? (i := 41) rfl))) (backOf (W := 0) (rm2 l Z a0 hw [] a1 w h0 n0 Z0 F_ord) hZ (hw _ (List.mem_of_getElem? (i := 44) rfl)) (hw _ (List.mem_of_getElem? (i := 43) rfl)) (by decide) (by decide)) q2a q2c (g := (mkF m 1 #[.val (.ref a1)] [(.ref a1)])) rfl (by rw [hml]; rfl) (Steps.refl _) (argsL := []) (rest := []) (lenOf pd_1_1 rfl) rfl (by show 2 * 0 + _ ≤ _; exact Nat.le_of_eq rfl) (hb hby d1_1) (fun _ _ => ⟨rfl, e0, (by decide : 0 + 0 ≤ _), (by decide : 0 + 0 ≤ _)⟩)
  dsimp only [Pt.U, Pt.locs, Pt.cells, Pt.slots] at X2 l2 y2 z2 st2 hQ2
  subst l2 y2 z2
  obtain ⟨rfl, N2q, hh2⟩ := hQ2      -- what it returned, that it wrote nothing old, and the rest of your Q2
  have N2 := Fr.app N0 N2q
  by_cases hq : w.toInt < 2 ∨ w.toInt > 7
  · obtain ⟨fs, hr, hrun, hended, hW, hsame⟩ := X2.leave (v := some (.int (0 : Int32))) (fun h => by rw [Bd.returns] at h; cases h)
    refine ⟨_, _, pre0 _ ?_, hrun, hended, _, _, rfl, ?_, ⟨_, rfl⟩, hW, hsame.mono (by decide) (by decide)⟩
    · show Steps p.tables e below (s₁.setTop (mkF m 0 #[.val (.ref a1)] [])) _
      refine XS.aloadN X0.here hx rfl (hb hby d1_0) rfl rfl ?_
      show Steps p.tables e below (s₁.setTop (mkF m 1 #[.val (.ref a1)] [(.ref a1)])) _
      refine st2.trans ?_
      show Steps p.tables e below (T2.setTop (mkF m 4 #[.val (.ref a1)] [(.int w)])) _
      refine XS.tswOut X2.here hx rfl (pc0 := 4) (pc' := 48) rfl (hb hby d1_4) rfl hq (by decide) (by decide) ?_
      show Steps p.tables e below (T2.setTop (mkF m 48 #[.val (.ref a1)] [])) _
      refine XS.iconst X2.here hx rfl (hb hby d1_48) ?_
      show Steps p.tables e below (T2.setTop (mkF m 49 #[.val (.ref a1)] [(.int (0 : Int32))])) _
      exact retN X2 hx (t := .boolean) Bd.returns (by simp) (hb hby d1_49) hr
    · show Q1 Z a1 w h0 n0 _ T2.heap _
      exact ⟨by rw [own_cmp, if_pos hq], N2, hh2⟩
  · obtain ⟨fs, hr, hrun, hended, hW, hsame⟩ := X2.leave (v := some (.int (1 : Int32))) (fun h => by rw [Bd.returns] at h; cases h)
    refine ⟨_, _, pre0 _ ?_, hrun, hended, _, _, rfl, ?_, ⟨_, rfl⟩, hW, hsame.mono (by decide) (by decide)⟩
    · show Steps p.tables e below (s₁.setTop (mkF m 0 #[.val (.ref a1)] [])) _
      refine XS.aloadN X0.here hx rfl (hb hby d1_0) rfl rfl ?_
      show Steps p.tables e below (s₁.setTop (mkF m 1 #[.val (.ref a1)] [(.ref a1)])) _
      refine st2.trans ?_
      show Steps p.tables e below (T2.setTop (mkF m 4 #[.val (.ref a1)] [(.int w)])) _
      refine XS.tswIn X2.here hx rfl (o := 40) (pc0 := 4) (pc' := 44) rfl (hb hby d1_4) rfl hq (own_offs _ (by omega)) (by decide) (by decide) ?_
      show Steps p.tables e below (T2.setTop (mkF m 44 #[.val (.ref a1)] [])) _
      refine XS.iconst X2.here hx rfl (hb hby d1_44) ?_
      show Steps p.tables e below (T2.setTop (mkF m 45 #[.val (.ref a1)] [(.int (1 : Int32))])) _
      refine XS.goto X2.here hx rfl (pc0 := 45) (pc' := 49) rfl (hb hby d1_45) (by decide) (by decide) ?_
      show Steps p.tables e below (T2.setTop (mkF m 49 #[.val (.ref a1)] [(.int (1 : Int32))])) _
      exact retN X2 hx (t := .boolean) Bd.returns (by simp) (hb hby d1_49) hr
    · show Q1 Z a1 w h0 n0 _ T2.heap _
      exact ⟨by rw [own_cmp, if_neg hq], N2, hh2⟩
theorem pn_0 : plainName "com/example/whence/whence/sql/OperatorIsComparisonPinLaw" = true := by first | (simp [plainName, overriddenIn]; done) | decide +kernel
theorem pd_0_0 : parseMethodDescriptor "()Z" = some ⟨[], some .boolean⟩ := by decide +kernel
theorem ef_0 (m : MethodId) (x0 : Int32) : entryFrame m #[(.int x0)] maxLocals = mkF m 0 #[.val (.int x0), .unset, .unset, .unset] [] := by first | (simp [entryFrame, mkF, argsToLocals, Value.category, maxLocals]; done) | rfl
def Q0 (Z : State) (p1 : Int32) (w3 : Addr) (w6 : Addr) (w9 : Addr) (w12 : Addr) (w15 : Addr) (w18 : Addr) (w21 : Addr) (w24 : Addr) (w27 : Addr) (w30 : Addr) (w33 : Addr) (w36 : Addr) (w39 : Addr) (w42 : Addr) (h0 : Heap) (n0 : Nat) (v : Option Value) (h : Heap) (L : List Loc) : Prop := v = some (.int (1 : Int32)) ∧ Fr n0 L
set_option maxRecDepth 65536 in
set_option maxHeartbeats 40000000 in
theorem rm0_fff (l : Launch) (Z : State) (a0 : Array Value) (hw : ∀ d ∈ tables_1, d.before a0 Z = true) (ws : List Jvm.Cond) (p1 : Int32) (w3 : Addr) (w6 : Addr) (w9 : Addr) (w12 : Addr) (w15 : Addr) (w18 : Addr) (w21 : Addr) (w24 : Addr) (w27 : Addr) (w30 : Addr) (w33 : Addr) (w36 : Addr) (w39 : Addr) (w42 : Addr) (h0 : Heap) (n0 : Nat) (Z0 : n0 ≤ h0.size) (S_OR : Sta Z h0 "com/example/whence/whence/sql/Expression$Binary$Operator" "OR" "Lcom/example/whence/whence/sql/Expression$Binary$Operator;" (.ref w3)) (P_0 : own_ord Z h0 w3 0) (S_AND : Sta Z h0 "com/example/whence/whence/sql/Expression$Binary$Operator" "AND" "Lcom/example/whence/whence/sql/Expression$Binary$Operator;" (.ref w6)) (P_1 : own_ord Z h0 w6 1) (S_EQUAL : Sta Z h0 "com/example/whence/whence/sql/Expression$Binary$Operator" "EQUAL" "Lcom/example/whence/whence/sql/Expression$Binary$Operator;" (.ref w9)) (P_2 : own_ord Z h0 w9 2) (S_NOT_EQUAL : Sta Z h0 "com/example/whence/whence/sql/Expression$Binary$Operator" "NOT_EQUAL" "Lcom/example/whence/whence/sql/Expression$Binary$Operator;" (.ref w12)) (P_3 : own_ord Z h0 w12 3) (S_LESS : Sta Z h0 "com/example/whence/whence/sql/Expression$Binary$Operator" "LESS" "Lcom/example/whence/whence/sql/Expression$Binary$Operator;" (.ref w15)) (P_4 : own_ord Z h0 w15 4) (S_LESS_OR_EQUAL : Sta Z h0 "com/example/whence/whence/sql/Expression$Binary$Operator" "LESS_OR_EQUAL" "Lcom/example/whence/whence/sql/Expression$Binary$Operator;" (.ref w18)) (P_5 : own_ord Z h0 w18 5) (S_GREATER : Sta Z h0 "com/example/whence/whence/sql/Expression$Binary$Operator" "GREATER" "Lcom/example/whence/whence/sql/Expression$Binary$Operator;" (.ref w21)) (P_6 : own_ord Z h0 w21 6) (S_GREATER_OR_EQUAL : Sta Z h0 "com/example/whence/whence/sql/Expression$Binary$Operator" "GREATER_OR_EQUAL" "Lcom/example/whence/whence/sql/Expression$Binary$Operator;" (.ref w24)) (P_7 : own_ord Z h0 w24 7) (S_ADD : Sta Z h0 "com/example/whence/whence/sql/Expression$Binary$Operator" "ADD" "Lcom/example/whence/whence/sql/Expression$Binary$Operator;" (.ref w27)) (P_8 : own_ord Z h0 w27 8) (S_SUBTRACT : Sta Z h0 "com/example/whence/whence/sql/Expression$Binary$Operator" "SUBTRACT" "Lcom/example/whence/whence/sql/Expression$Binary$Operator;" (.ref w30)) (P_9 : own_ord Z h0 w30 9) (S_MULTIPLY : Sta Z h0 "com/example/whence/whence/sql/Expression$Binary$Operator" "MULTIPLY" "Lcom/example/whence/whence/sql/Expression$Binary$Operator;" (.ref w33)) (P_10 : own_ord Z h0 w33 10) (S_DIVIDE : Sta Z h0 "com/example/whence/whence/sql/Expression$Binary$Operator" "DIVIDE" "Lcom/example/whence/whence/sql/Expression$Binary$Operator;" (.ref w36)) (P_11 : own_ord Z h0 w36 11) (S_MODULO : Sta Z h0 "com/example/whence/whence/sql/Expression$Binary$Operator" "MODULO" "Lcom/example/whence/whence/sql/Expression$Binary$Operator;" (.ref w39)) (P_12 : own_ord Z h0 w39 12) (S_CONCATENATE : Sta Z h0 "com/example/whence/whence/sql/Expression$Binary$Operator" "CONCATENATE" "Lcom/example/whence/whence/sql/Expression$Binary$Operator;" (.ref w42)) (P_13 : own_ord Z h0 w42 13) (hnz104 : ¬ ((14 : Int32) = (0 : Int32))) (hc108 : ¬ ((own_i p1) < (2 : Int32))) (hc114 : ¬ ((7 : Int32) < (own_i p1))) :
    MetFree l x (head1 (Jvm.Cond.code x code maxLocals ret :: ws) room_1) (fun a U => a = #[(.int p1)] ∧ Z.Warmed39 U.vm ∧ U.heap = h0) (fun _ _ _ _ _ => True) (fun _ U o U' => ∃ v L, o = .returned v ∧ Q0 Z p1 w3 w6 w9 w12 w15 w18 w21 w24 w27 w30 w33 w36 w39 w42 h0 n0 v U'.heap L ∧ FrameEnd U o U' L room_1.cells room_1.slots) := by
  refine MetFree.of_bodySF (plainFor_of_name pn_0) hisR ?_
  intro p e s m args below meth c s₁ Bd hml0 hP hK
  obtain ⟨rfl, hZ, hh⟩ := hP
  have hx := Bd.exec
  have hby := Bd.bytes
  have hml : c.maxLocals = 4 := hml0
  have hown : s.vm.findClass "com/example/whence/whence/sql/OperatorIsComparisonPinLaw" = some m.cls := findClass_of_methodNamed Bd.named
  have hnm := (name_of_methodNamed Bd.named Bd.method).1
  have X0 : Stand p l e room_1 s m #[(.int p1)] below meth c s₁ [] 0 0 := Stand.of_body Bd
  have e0 : s₁.heap = h0 := by rw [← hh, Bd.state]; rfl
  have N0 := Fr.nil n0
  have pre0 : ∀ t, Steps p.tables e below (s₁.setTop (mkF m 0 #[.val (.int p1), .unset, .unset, .unset] [])) t → Steps p.tables e below (s₁.setTop (entryFrame m #[(.int p1)] maxLocals)) t := fun t k => castTop (ef_0 m p1) k
  obtain ⟨T2, h2, k2, X2, e2, E2, A2, O2, st2⟩ := newR X0 hx hZ hown (hw _ (List.mem_of_getElem? (i := 0) rfl)) (hw _ (List.mem_of_getElem? (i := 1) rfl)) e0 (g := (mkF m 2 #[.val (.int p1), .unset, .unset, .unset] [(.int (14 : Int32))])) rfl (hb hby at_2) rfl (by decide) (cap := 14) (by decide) (by decide) (by decide) (by decide)
  obtain ⟨b2, g2⟩ : ∃ z, z = h0.size := ⟨_, rfl⟩      -- the fresh array's address
  rw [← g2] at A2 st2
  have V_2 : Arv Z h2 b2 k2 (.object "com/example/whence/whence/sql/Expression$Binary$Operator") (14 : Int32) (List.replicate 14 .null) .null := (Arv.new A2 (by decide)).pad (pad_rep [] .null 14)      -- Arv Z h2 b2 k2 (.object "com/example/whence/whence/sql/Expression$Binary$Operator") (14 : Int32) [] .null; O2: what may lie in it (Sto.ofV)
  have g_b2 : n0 ≤ b2 := Nat.le_trans Z0 (Nat.le_of_eq g2.symm)
  have sz_b2 : h0.size ≤ b2 := (Nat.le_trans (Keep.refl h0 []).1 (Nat.le_of_eq g2.symm))
  have K2 : Keep h0 h2 [] := (Keep.refl h0 []).ext E2
  obtain ⟨T4, X4, e4, st4⟩ := getS2 X2 hx hZ hown (host := "") (Or.inl (hw _ (List.mem_of_getElem? (i := 2) rfl))) Via.refl e2 (S_OR.ext E2) (g := (mkF m 7 #[.val (.int p1), .unset, .unset, .unset] [(.int (0 : Int32)), (.ref b2), (.ref b2)])) rfl (hb hby at_7)
  obtain ⟨cl2, Ar2, qq2, SS2, NN2, HH2, GG2⟩ := V_2
  obtain ⟨T5, h5, X5, e5, W5, st5⟩ := stR X4 hx hZ e4 Ar2 (j := (0 : Int32)) (inb_of SS2 ⟨by decide, by decide⟩) rfl (Sto.ofV Ar2 qq2 O2 (Ins.self (P_0.1.keep K2))) (g := (mkF m 10 #[.val (.int p1), .unset, .unset, .unset] [(.ref w3), (.int (0 : Int32)), (.ref b2), (.ref b2)])) rfl rfl (hb hby at_10)
  have V_5 := Arv.set Ar2 qq2 SS2 NN2 HH2 GG2 rfl W5 0 rfl (Nat.le_of_ble_eq_true rfl)
  have N5 := Fr.snoc X5 N0 g_b2
  have K5 : Keep h0 h5 [] := K2.wr W5 (Or.inr sz_b2)
  obtain ⟨T7, X7, e7, st7⟩ := getS2 X5 hx hZ hown (host := "") (Or.inl (hw _ (List.mem_of_getElem? (i := 6) rfl))) Via.refl e5 ((S_AND.ext E2).wr W5) (g := (mkF m 13 #[.val (.int p1), .unset, .unset, .unset] [(.int (1 : Int32)), (.ref b2), (.ref b2)])) rfl (hb hby at_13)
  obtain ⟨cl5, Ar5, qq5, SS5, NN5, HH5, GG5⟩ := V_5
  obtain ⟨T8, h8, X8, e8, W8, st8⟩ := stR X7 hx hZ e7 Ar5 (j := (1 : Int32)) (inb_of SS5 ⟨by decide, by decide⟩) rfl (Sto.ofV Ar5 qq5 O2 (Ins.self (P_1.1.keep K5))) (g := (mkF m 16 #[.val (.int p1), .unset, .unset, .unset] [(.ref w6), (.int (1 : Int32)), (.ref b2), (.ref b2)])) rfl rfl (hb hby at_16)
  have V_8 := Arv.set Ar5 qq5 SS5 NN5 HH5 GG5 rfl W8 1 rfl (Nat.le_of_ble_eq_true rfl)
  have N8 := Fr.snoc X8 N5 g_b2
  have K8 : Keep h0 h8 [] := K5.wr W8 (Or.inr sz_b2)
  obtain ⟨T10, X10, e10, st10⟩ := getS2 X8 hx hZ hown (host := "") (Or.inl (hw _ (List.mem_of_getElem? (i := 8) rfl))) Via.refl e8 (((S_EQUAL.ext E2).wr W5).wr W8) (g := (mkF m 19 #[.val (.int p1), .unset, .unset, .unset] [(.int (2 : Int32)), (.ref b2), (.ref b2)])) rfl (hb hby at_19)
  obtain ⟨cl8, Ar8, qq8, SS8, NN8, HH8, GG8⟩ := V_8
  obtain ⟨T11, h11, X11, e11, W11, st11⟩ := stR X10 hx hZ e10 Ar8 (j := (2 : Int32)) (inb_of SS8 ⟨by decide, by decide⟩) rfl (Sto.ofV Ar8 qq8 O2 (Ins.self (P_2.1.keep K8))) (g := (mkF m 22 #[.val (.int p1), .unset, .unset, .unset] [(.ref w9), (.int (2 : Int32)), (.ref b2), (.ref b2)])) rfl rfl (hb hby at_22)
  have V_11 := Arv.set Ar8 qq8 SS8 NN8 HH8 GG8 rfl W11 2 rfl (Nat.le_of_ble_eq_true rfl)
  have N11 := Fr.snoc X11 N8 g_b2
  have K11 : Keep h0 h11 [] := K8.wr W11 (Or.inr sz_b2)
  obtain ⟨T13, X13, e13, st13⟩ := getS2 X11 hx hZ hown (host := "") (Or.inl (hw _ (List.mem_of_getElem? (i := 10) rfl))) Via.refl e11 ((((S_NOT_EQUAL.ext E2).wr W5).wr W8).wr W11) (g := (mkF m 25 #[.val (.int p1), .unset, .unset, .unset] [(.int (3 : Int32)), (.ref b2), (.ref b2)])) rfl (hb hby at_25)
  obtain ⟨cl11, Ar11, qq11, SS11, NN11, HH11, GG11⟩ := V_11
  obtain ⟨T14, h14, X14, e14, W14, st14⟩ := stR X13 hx hZ e13 Ar11 (j := (3 : Int32)) (inb_of SS11 ⟨by decide, by decide⟩) rfl (Sto.ofV Ar11 qq11 O2 (Ins.self (P_3.1.keep K11))) (g := (mkF m 28 #[.val (.int p1), .unset, .unset, .unset] [(.ref w12), (.int (3 : Int32)), (.ref b2), (.ref b2)])) rfl rfl (hb hby at_28)
  have V_14 := Arv.set Ar11 qq11 SS11 NN11 HH11 GG11 rfl W14 3 rfl (Nat.le_of_ble_eq_true rfl)
  have N14 := Fr.snoc X14 N11 g_b2
  have K14 : Keep h0 h14 [] := K11.wr W14 (Or.inr sz_b2)
  obtain ⟨T16, X16, e16, st16⟩ := getS2 X14 hx hZ hown (host := "") (Or.inl (hw _ (List.mem_of_getElem? (i := 12) rfl))) Via.refl e14 (((((S_LESS.ext E2).wr W5).wr W8).wr W11).wr W14) (g := (mkF m 31 #[.val (.int p1), .unset, .unset, .unset] [(.int (4 : Int32)), (.ref b2), (.ref b2)])) rfl (hb hby at_31)
  obtain ⟨cl14, Ar14, qq14, SS14, NN14, HH14, GG14⟩ := V_14
  obtain ⟨T17, h17, X17, e17, W17, st17⟩ := stR X16 hx hZ e16 Ar14 (j := (4 : Int32)) (inb_of SS14 ⟨by decide, by decide⟩) rfl (Sto.ofV Ar14 qq14 O2 (Ins.self (P_4.1.keep K14))) (g := (mkF m 34 #[.val (.int p1), .unset, .unset, .unset] [(.ref w15), (.int (4 : Int32)), (.ref b2), (.ref b2)])) rfl rfl (hb hby at_34)
  have V_17 := Arv.set Ar14 qq14 SS14 NN14 HH14 GG14 rfl W17 4 rfl (Nat.le_of_ble_eq_true rfl)
  have N17 := Fr.snoc X17 N14 g_b2
  have K17 : Keep h0 h17 [] := K14.wr W17 (Or.inr sz_b2)
  obtain ⟨T19, X19, e19, st19⟩ := getS2 X17 hx hZ hown (host := "") (Or.inl (hw _ (List.mem_of_getElem? (i := 14) rfl))) Via.refl e17 ((((((S_LESS_OR_EQUAL.ext E2).wr W5).wr W8).wr W11).wr W14).wr W17) (g := (mkF m 37 #[.val (.int p1), .unset, .unset, .unset] [(.int (5 : Int32)), (.ref b2), (.ref b2)])) rfl (hb hby at_37)
  obtain ⟨cl17, Ar17, qq17, SS17, NN17, HH17, GG17⟩ := V_17
  obtain ⟨T20, h20, X20, e20, W20, st20⟩ := stR X19 hx hZ e19 Ar17 (j := (5 : Int32)) (inb_of SS17 ⟨by decide, by decide⟩) rfl (Sto.ofV Ar17 qq17 O2 (Ins.self (P_5.1.keep K17))) (g := (mkF m 40 #[.val (.int p1), .unset, .unset, .unset] [(.ref w18), (.int (5 : Int32)), (.ref b2), (.ref b2)])) rfl rfl (hb hby at_40)
  have V_20 := Arv.set Ar17 qq17 SS17 NN17 HH17 GG17 rfl W20 5 rfl (Nat.le_of_ble_eq_true rfl)
  have N20 := Fr.snoc X20 N17 g_b2
  have K20 : Keep h0 h20 [] := K17.wr W20 (Or.inr sz_b2)
  obtain ⟨T22, X22, e22, st22⟩ := getS2 X20 hx hZ hown (host := "") (Or.inl (hw _ (List.mem_of_getElem? (i := 16) rfl))) Via.refl e20 (((((((S_GREATER.ext E2).wr W5).wr W8).wr W11).wr W14).wr W17).wr W20) (g := (mkF m 44 #[.val (.int p1), .unset, .unset, .unset] [(.int (6 : Int32)), (.ref b2), (.ref b2)])) rfl (hb hby at_44)
  obtain ⟨cl20, Ar20, qq20, SS20, NN20, HH20, GG20⟩ := V_20
  obtain ⟨T23, h23, X23, e23, W23, st23⟩ := stR X22 hx hZ e22 Ar20 (j := (6 : Int32)) (inb_of SS20 ⟨by decide, by decide⟩) rfl (Sto.ofV Ar20 qq20 O2 (Ins.self (P_6.1.keep K20))) (g := (mkF m 47 #[.val (.int p1), .unset, .unset, .unset] [(.ref w21), (.int (6 : Int32)), (.ref b2), (.ref b2)])) rfl rfl (hb hby at_47)
  have V_23 := Arv.set Ar20 qq20 SS20 NN20 HH20 GG20 rfl W23 6 rfl (Nat.le_of_ble_eq_true rfl)
  have N23 := Fr.snoc X23 N20 g_b2
  have K23 : Keep h0 h23 [] := K20.wr W23 (Or.inr sz_b2)
  obtain ⟨T25, X25, e25, st25⟩ := getS2 X23 hx hZ hown (host := "") (Or.inl (hw _ (List.mem_of_getElem? (i := 18) rfl))) Via.refl e23 ((((((((S_GREATER_OR_EQUAL.ext E2).wr W5).wr W8).wr W11).wr W14).wr W17).wr W20).wr W23) (g := (mkF m 51 #[.val (.int p1), .unset, .unset, .unset] [(.int (7 : Int32)), (.ref b2), (.ref b2)])) rfl (hb hby at_51)
  obtain ⟨cl23, Ar23, qq23, SS23, NN23, HH23, GG23⟩ := V_23
  obtain ⟨T26, h26, X26, e26, W26, st26⟩ := stR X25 hx hZ e25 Ar23 (j := (7 : Int32)) (inb_of SS23 ⟨by decide, by decide⟩) rfl (Sto.ofV Ar23 qq23 O2 (Ins.self (P_7.1.keep K23))) (g := (mkF m 54 #[.val (.int p1), .unset, .unset, .unset] [(.ref w24), (.int (7 : Int32)), (.ref b2), (.ref b2)])) rfl rfl (hb hby at_54)
  have V_26 := Arv.set Ar23 qq23 SS23 NN23 HH23 GG23 rfl W26 7 rfl (Nat.le_of_ble_eq_true rfl)
  have N26 := Fr.snoc X26 N23 g_b2
  have K26 : Keep h0 h26 [] := K23.wr W26 (Or.inr sz_b2)
  obtain ⟨T28, X28, e28, st28⟩ := getS2 X26 hx hZ hown (host := "") (Or.inl (hw _ (List.mem_of_getElem? (i := 20) rfl))) Via.refl e26 (((((((((S_ADD.ext E2).wr W5).wr W8).wr W11).wr W14).wr W17).wr W20).wr W23).wr W26) (g := (mkF m 58 #[.val (.int p1), .unset, .unset, .unset] [(.int (8 : Int32)), (.ref b2), (.ref b2)])) rfl (hb hby at_58)
  obtain ⟨cl26, Ar26, qq26, SS26, NN26, HH26, GG26⟩ := V_26
  obtain ⟨T29, h29, X29, e29, W29, st29⟩ := stR X28 hx hZ e28 Ar26 (j := (8 : Int32)) (inb_of SS26 ⟨by decide, by decide⟩) rfl (Sto.ofV Ar26 qq26 O2 (Ins.self (P_8.1.keep K26))) (g := (mkF m 61 #[.val (.int p1), .unset, .unset, .unset] [(.ref w27), (.int (8 : Int32)), (.ref b2), (.ref b2)])) rfl rfl (hb hby at_61)
  have V_29 := Arv.set Ar26 qq26 SS26 NN26 HH26 GG26 rfl W29 8 rfl (Nat.le_of_ble_eq_true rfl)
  have N29 := Fr.snoc X29 N26 g_b2
  have K29 : Keep h0 h29 [] := K26.wr W29 (Or.inr sz_b2)
  obtain ⟨T31, X31, e31, st31⟩ := getS2 X29 hx hZ hown (host := "") (Or.inl (hw _ (List.mem_of_getElem? (i := 22) rfl))) Via.refl e29 ((((((((((S_SUBTRACT.ext E2).wr W5).wr W8).wr W11).wr W14).wr W17).wr W20).wr W23).wr W26).wr W29) (g := (mkF m 65 #[.val (.int p1), .unset, .unset, .unset] [(.int (9 : Int32)), (.ref b2), (.ref b2)])) rfl (hb hby at_65)
  obtain ⟨cl29, Ar29, qq29, SS29, NN29, HH29, GG29⟩ := V_29
  obtain ⟨T32, h32, X32, e32, W32, st32⟩ := stR X31 hx hZ e31 Ar29 (j := (9 : Int32)) (inb_of SS29 ⟨by decide, by decide⟩) rfl (Sto.ofV Ar29 qq29 O2 (Ins.self (P_9.1.keep K29))) (g := (mkF m 68 #[.val (.int p1), .unset, .unset, .unset] [(.ref w30), (.int (9 : Int32)), (.ref b2), (.ref b2)])) rfl rfl (hb hby at_68)
  have V_32 := Arv.set Ar29 qq29 SS29 NN29 HH29 GG29 rfl W32 9 rfl (Nat.le_of_ble_eq_true rfl)
  have N32 := Fr.snoc X32 N29 g_b2
  have K32 : Keep h0 h32 [] := K29.wr W32 (Or.inr sz_b2)
  obtain ⟨T34, X34, e34, st34⟩ := getS2 X32 hx hZ hown (host := "") (Or.inl (hw _ (List.mem_of_getElem? (i := 24) rfl))) Via.refl e32 (((((((((((S_MULTIPLY.ext E2).wr W5).wr W8).wr W11).wr W14).wr W17).wr W20).wr W23).wr W26).wr W29).wr W32) (g := (mkF m 72 #[.val (.int p1), .unset, .unset, .unset] [(.int (10 : Int32)), (.ref b2), (.ref b2)])) rfl (hb hby at_72)
  obtain ⟨cl32, Ar32, qq32, SS32, NN32, HH32, GG32⟩ := V_32
  obtain ⟨T35, h35, X35, e35, W35, st35⟩ := stR X34 hx hZ e34 Ar32 (j := (10 : Int32)) (inb_of SS32 ⟨by decide, by decide⟩) rfl (Sto.ofV Ar32 qq32 O2 (Ins.self (P_10.1.keep K32))) (g := (mkF m 75 #[.val (.int p1), .unset, .unset, .unset] [(.ref w33), (.int (10 : Int32)), (.ref b2), (.ref b2)])) rfl rfl (hb hby at_75)
  have V_35 := Arv.set Ar32 qq32 SS32 NN32 HH32 GG32 rfl W35 10 rfl (Nat.le_of_ble_eq_true rfl)
  have N35 := Fr.snoc X35 N32 g_b2
  have K35 : Keep h0 h35 [] := K32.wr W35 (Or.inr sz_b2)
  obtain ⟨T37, X37, e37, st37⟩ := getS2 X35 hx hZ hown (host := "") (Or.inl (hw _ (List.mem_of_getElem? (i := 26) rfl))) Via.refl e35 ((((((((((((S_DIVIDE.ext E2).wr W5).wr W8).wr W11).wr W14).wr W17).wr W20).wr W23).wr W26).wr W29).wr W32).wr W35) (g := (mkF m 79 #[.val (.int p1), .unset, .unset, .unset] [(.int (11 : Int32)), (.ref b2), (.ref b2)])) rfl (hb hby at_79)
  obtain ⟨cl35, Ar35, qq35, SS35, NN35, HH35, GG35⟩ := V_35
  obtain ⟨T38, h38, X38, e38, W38, st38⟩ := stR X37 hx hZ e37 Ar35 (j := (11 : Int32)) (inb_of SS35 ⟨by decide, by decide⟩) rfl (Sto.ofV Ar35 qq35 O2 (Ins.self (P_11.1.keep K35))) (g := (mkF m 82 #[.val (.int p1), .unset, .unset, .unset] [(.ref w36), (.int (11 : Int32)), (.ref b2), (.ref b2)])) rfl rfl (hb hby at_82)
  have V_38 := Arv.set Ar35 qq35 SS35 NN35 HH35 GG35 rfl W38 11 rfl (Nat.le_of_ble_eq_true rfl)
  have N38 := Fr.snoc X38 N35 g_b2
  have K38 : Keep h0 h38 [] := K35.wr W38 (Or.inr sz_b2)
  obtain ⟨T40, X40, e40, st40⟩ := getS2 X38 hx hZ hown (host := "") (Or.inl (hw _ (List.mem_of_getElem? (i := 28) rfl))) Via.refl e38 (((((((((((((S_MODULO.ext E2).wr W5).wr W8).wr W11).wr W14).wr W17).wr W20).wr W23).wr W26).wr W29).wr W32).wr W35).wr W38) (g := (mkF m 86 #[.val (.int p1), .unset, .unset, .unset] [(.int (12 : Int32)), (.ref b2), (.ref b2)])) rfl (hb hby at_86)
  obtain ⟨cl38, Ar38, qq38, SS38, NN38, HH38, GG38⟩ := V_38
  obtain ⟨T41, h41, X41, e41, W41, st41⟩ := stR X40 hx hZ e40 Ar38 (j := (12 : Int32)) (inb_of SS38 ⟨by decide, by decide⟩) rfl (Sto.ofV Ar38 qq38 O2 (Ins.self (P_12.1.keep K38))) (g := (mkF m 89 #[.val (.int p1), .unset, .unset, .unset] [(.ref w39), (.int (12 : Int32)), (.ref b2), (.ref b2)])) rfl rfl (hb hby at_89)
  have V_41 := Arv.set Ar38 qq38 SS38 NN38 HH38 GG38 rfl W41 12 rfl (Nat.le_of_ble_eq_true rfl)
  have N41 := Fr.snoc X41 N38 g_b2
  have K41 : Keep h0 h41 [] := K38.wr W41 (Or.inr sz_b2)
  obtain ⟨T43, X43, e43, st43⟩ := getS2 X41 hx hZ hown (host := "") (Or.inl (hw _ (List.mem_of_getElem? (i := 30) rfl))) Via.refl e41 ((((((((((((((S_CONCATENATE.ext E2).wr W5).wr W8).wr W11).wr W14).wr W17).wr W20).wr W23).wr W26).wr W29).wr W32).wr W35).wr W38).wr W41) (g := (mkF m 93 #[.val (.int p1), .unset, .unset, .unset] [(.int (13 : Int32)), (.ref b2), (.ref b2)])) rfl (hb hby at_93)
  obtain ⟨cl41, Ar41, qq41, SS41, NN41, HH41, GG41⟩ := V_41
  obtain ⟨T44, h44, X44, e44, W44, st44⟩ := stR X43 hx hZ e43 Ar41 (j := (13 : Int32)) (inb_of SS41 ⟨by decide, by decide⟩) rfl (Sto.ofV Ar41 qq41 O2 (Ins.self (P_13.1.keep K41))) (g := (mkF m 96 #[.val (.int p1), .unset, .unset, .unset] [(.ref w42), (.int (13 : Int32)), (.ref b2), (.ref b2)])) rfl rfl (hb hby at_96)
  have V_44 := Arv.set Ar41 qq41 SS41 NN41 HH41 GG41 rfl W44 13 rfl (Nat.le_of_ble_eq_true rfl)
  have N44 := Fr.snoc X44 N41 g_b2
  have K44 : Keep h0 h44 [] := K41.wr W44 (Or.inr sz_b2)
  have V_e : Arv Z h44 b2 k2 (.object "com/example/whence/whence/sql/Expression$Binary$Operator") (14 : Int32) [.ref w3, .ref w6, .ref w9, .ref w12, .ref w15, .ref w18, .ref w21, .ref w24, .ref w27, .ref w30, .ref w33, .ref w36, .ref w39, .ref w42] .null := V_44
  obtain ⟨cle, Ar_b2, qqe, SSe, NNe, HHe, GGe⟩ := V_e
  obtain ⟨w45, hgd, E_w45, F_w45⟩ := own_pick (P := own_ord Z h0) P_0 P_1 P_2 P_3 P_4 P_5 P_6 P_7 P_8 P_9 P_10 P_11 P_12 P_13 (own_i p1) (own_i_rng p1)
  have hin125 := inb_of SSe (own_i_nn p1)
  have hat125 : cle.slots[(own_i p1).toNatClampNeg]? = some (.ref w45) := (HHe _ (Nat.lt_of_not_le fun q => hin125 (Or.inr q))).trans (congrArg some hgd)
  obtain ⟨cq46, kq46, q46a, q46b, q46c⟩ := isOf hZ e44 (((((((((((((((E_w45.ext E2).wr W5).wr W8).wr W11).wr W14).wr W17).wr W20).wr W23).wr W26).wr W29).wr W32).wr W35).wr W38).wr W41).wr W44)
  obtain ⟨_, _, ⟨T46, L46, k46, n46⟩, -, X46, ⟨Lc46, hQ46, l46, y46, z46⟩, st46⟩ := X44.virtualBack hx (y := (⟨"com/example/whence/whence/sql/Expression$Binary$Operator", "isComparison", "()Z"⟩ : MethodName)) (z := (⟨"com/example/whence/whence/sql/Expression$Binary$Operator", "isComparison", "()Z"⟩ : MethodName)) hown (mvT hZ (hw _ (List.mem_of_getElem? (i := 33) rfl))) (mvT hZ (hw _ (List.mem_of_getElem? (i := 34) rfl))) (notFace_of_selects (args := #[]) (mvT hZ (hw _ (List.mem_of_getElem? (i := 36) rfl)))) (mvT hZ (hw _ (List.mem_of_getElem? (i := 36) rfl))) (mvT hZ (hw _ (List.mem_of_getElem? (i := 35) rfl))) (by decide) (backOf (W := 0) (rm1 l Z a0 hw [] w45 (own_i p1) h44 n0 (Nat.le_trans Z0 K44.1) (E_w45.keep K44) (F_w45.keep K44 List.not_mem_nil)) hZ (hw _ (List.mem_of_getElem? (i := 37) rfl)) (hw _ (List.mem_of_getElem? (i := 3) rfl)) (by decide) (by decide)) q46a q46c (g := (mkF m 126 #[.val (.int p1), .val (.ref b2), .val (.int (own_i p1)), .val (.int (1 : Int32))] [(.ref w45)])) rfl (by rw [hml]; rfl) (Steps.refl _) (argsL := []) (rest := []) (lenOf pd_0_0 rfl) rfl (by show 2 * 0 + _ ≤ _; exact Nat.le_of_eq rfl) (hb hby at_126) (fun _ _ => ⟨rfl, e44, (by decide : 1 + 0 ≤ _), (by decide : 14 + 0 ≤ _)⟩)
  dsimp only [Pt.U, Pt.locs, Pt.cells, Pt.slots] at X46 l46 y46 z46 st46 hQ46
  subst l46 y46 z46
  obtain ⟨rfl, N46q, hh46⟩ := hQ46      -- what it returned, that it wrote nothing old, and the rest of your Q1
  have N46 := Fr.app N44 N46q
  obtain ⟨fs, hr, hrun, hended, hW, hsame⟩ := X46.leave (v := some (.int (1 : Int32))) (fun h => by rw [Bd.returns] at h; cases h)
  refine ⟨_, _, pre0 _ ?_, hrun, hended, _, _, rfl, ?_, ⟨_, rfl⟩, hW, hsame.mono (by decide) (by decide)⟩
  · show Steps p.tables e below (s₁.setTop (mkF m 0 #[.val (.int p1), .unset, .unset, .unset] [])) _
    refine XS.bipush X0.here hx rfl (hb hby at_0) ?_
    show Steps p.tables e below (s₁.setTop (mkF m 2 #[.val (.int p1), .unset, .unset, .unset] [(.int (14 : Int32))])) _
    refine st2 _ ?_
    show Steps p.tables e below (T2.setTop (mkF m 5 #[.val (.int p1), .unset, .unset, .unset] [(.ref b2)])) _
    refine XS.dup X2.here hx rfl (hb hby at_5) rfl rfl ?_
    show Steps p.tables e below (T2.setTop (mkF m 6 #[.val (.int p1), .unset, .unset, .unset] [(.ref b2), (.ref b2)])) _
    refine XS.iconst X2.here hx rfl (hb hby at_6) ?_
    show Steps p.tables e below (T2.setTop (mkF m 7 #[.val (.int p1), .unset, .unset, .unset] [(.int (0 : Int32)), (.ref b2), (.ref b2)])) _
    refine st4 _ ?_
    show Steps p.tables e below (T4.setTop (mkF m 10 #[.val (.int p1), .unset, .unset, .unset] [(.ref w3), (.int (0 : Int32)), (.ref b2), (.ref b2)])) _
    refine st5 _ ?_
    show Steps p.tables e below (T5.setTop (mkF m 11 #[.val (.int p1), .unset, .unset, .unset] [(.ref b2)])) _
    refine XS.dup X5.here hx rfl (hb hby at_11) rfl rfl ?_
    show Steps p.tables e below (T5.setTop (mkF m 12 #[.val (.int p1), .unset, .unset, .unset] [(.ref b2), (.ref b2)])) _
    refine XS.iconst X5.here hx rfl (hb hby at_12) ?_
    show Steps p.tables e below (T5.setTop (mkF m 13 #[.val (.int p1), .unset, .unset, .unset] [(.int (1 : Int32)), (.ref b2), (.ref b2)])) _
    refine st7 _ ?_
    show Steps p.tables e below (T7.setTop (mkF m 16 #[.val (.int p1), .unset, .unset, .unset] [(.ref w6), (.int (1 : Int32)), (.ref b2), (.ref b2)])) _
    refine st8 _ ?_
    show Steps p.tables e below (T8.setTop (mkF m 17 #[.val (.int p1), .unset, .unset, .unset] [(.ref b2)])) _
    refine XS.dup X8.here hx rfl (hb hby at_17) rfl rfl ?_
    show Steps p.tables e below (T8.setTop (mkF m 18 #[.val (.int p1), .unset, .unset, .unset] [(.ref b2), (.ref b2)])) _
    refine XS.iconst X8.here hx rfl (hb hby at_18) ?_
    show Steps p.tables e below (T8.setTop (mkF m 19 #[.val (.int p1), .unset, .unset, .unset] [(.int (2 : Int32)), (.ref b2), (.ref b2)])) _
    refine st10 _ ?_
    show Steps p.tables e below (T10.setTop (mkF m 22 #[.val (.int p1), .unset, .unset, .unset] [(.ref w9), (.int (2 : Int32)), (.ref b2), (.ref b2)])) _
    refine st11 _ ?_
    show Steps p.tables e below (T11.setTop (mkF m 23 #[.val (.int p1), .unset, .unset, .unset] [(.ref b2)])) _
    refine XS.dup X11.here hx rfl (hb hby at_23) rfl rfl ?_
    show Steps p.tables e below (T11.setTop (mkF m 24 #[.val (.int p1), .unset, .unset, .unset] [(.ref b2), (.ref b2)])) _
    refine XS.iconst X11.here hx rfl (hb hby at_24) ?_
    show Steps p.tables e below (T11.setTop (mkF m 25 #[.val (.int p1), .unset, .unset, .unset] [(.int (3 : Int32)), (.ref b2), (.ref b2)])) _
    refine st13 _ ?_
    show Steps p.tables e below (T13.setTop (mkF m 28 #[.val (.int p1), .unset, .unset, .unset] [(.ref w12), (.int (3 : Int32)), (.ref b2), (.ref b2)])) _
    refine st14 _ ?_
    show Steps p.tables e below (T14.setTop (mkF m 29 #[.val (.int p1), .unset, .unset, .unset] [(.ref b2)])) _
    refine XS.dup X14.here hx rfl (hb hby at_29) rfl rfl ?_
    show Steps p.tables e below (T14.setTop (mkF m 30 #[.val (.int p1), .unset, .unset, .unset] [(.ref b2), (.ref b2)])) _
    refine XS.iconst X14.here hx rfl (hb hby at_30) ?_
    show Steps p.tables e below (T14.setTop (mkF m 31 #[.val (.int p1), .unset, .unset, .unset] [(.int (4 : Int32)), (.ref b2), (.ref b2)])) _
    refine st16 _ ?_
    show Steps p.tables e below (T16.setTop (mkF m 34 #[.val (.int p1), .unset, .unset, .unset] [(.ref w15), (.int (4 : Int32)), (.ref b2), (.ref b2)])) _
    refine st17 _ ?_
    show Steps p.tables e below (T17.setTop (mkF m 35 #[.val (.int p1), .unset, .unset, .unset] [(.ref b2)])) _
    refine XS.dup X17.here hx rfl (hb hby at_35) rfl rfl ?_
    show Steps p.tables e below (T17.setTop (mkF m 36 #[.val (.int p1), .unset, .unset, .unset] [(.ref b2), (.ref b2)])) _
    refine XS.iconst X17.here hx rfl (hb hby at_36) ?_
    show Steps p.tables e below (T17.setTop (mkF m 37 #[.val (.int p1), .unset, .unset, .unset] [(.int (5 : Int32)), (.ref b2), (.ref b2)])) _
    refine st19 _ ?_
    show Steps p.tables e below (T19.setTop (mkF m 40 #[.val (.int p1), .unset, .unset, .unset] [(.ref w18), (.int (5 : Int32)), (.ref b2), (.ref b2)])) _
    refine st20 _ ?_
    show Steps p.tables e below (T20.setTop (mkF m 41 #[.val (.int p1), .unset, .unset, .unset] [(.ref b2)])) _
    refine XS.dup X20.here hx rfl (hb hby at_41) rfl rfl ?_
    show Steps p.tables e below (T20.setTop (mkF m 42 #[.val (.int p1), .unset, .unset, .unset] [(.ref b2), (.ref b2)])) _
    refine XS.bipush X20.here hx rfl (hb hby at_42) ?_
    show Steps p.tables e below (T20.setTop (mkF m 44 #[.val (.int p1), .unset, .unset, .unset] [(.int (6 : Int32)), (.ref b2), (.ref b2)])) _
    refine st22 _ ?_
    show Steps p.tables e below (T22.setTop (mkF m 47 #[.val (.int p1), .unset, .unset, .unset] [(.ref w21), (.int (6 : Int32)), (.ref b2), (.ref b2)])) _
    refine st23 _ ?_
    show Steps p.tables e below (T23.setTop (mkF m 48 #[.val (.int p1), .unset, .unset, .unset] [(.ref b2)])) _
    refine XS.dup X23.here hx rfl (hb hby at_48) rfl rfl ?_
    show Steps p.tables e below (T23.setTop (mkF m 49 #[.val (.int p1), .unset, .unset, .unset] [(.ref b2), (.ref b2)])) _
    refine XS.bipush X23.here hx rfl (hb hby at_49) ?_
    show Steps p.tables e below (T23.setTop (mkF m 51 #[.val (.int p1), .unset, .unset, .unset] [(.int (7 : Int32)), (.ref b2), (.ref b2)])) _
    refine st25 _ ?_
    show Steps p.tables e below (T25.setTop (mkF m 54 #[.val (.int p1), .unset, .unset, .unset] [(.ref w24), (.int (7 : Int32)), (.ref b2), (.ref b2)])) _
    refine st26 _ ?_
    show Steps p.tables e below (T26.setTop (mkF m 55 #[.val (.int p1), .unset, .unset, .unset] [(.ref b2)])) _
    refine XS.dup X26.here hx rfl (hb hby at_55) rfl rfl ?_
    show Steps p.tables e below (T26.setTop (mkF m 56 #[.val (.int p1), .unset, .unset, .unset] [(.ref b2), (.ref b2)])) _
    refine XS.bipush X26.here hx rfl (hb hby at_56) ?_
    show Steps p.tables e below (T26.setTop (mkF m 58 #[.val (.int p1), .unset, .unset, .unset] [(.int (8 : Int32)), (.ref b2), (.ref b2)])) _
    refine st28 _ ?_
    show Steps p.tables e below (T28.setTop (mkF m 61 #[.val (.int p1), .unset, .unset, .unset] [(.ref w27), (.int (8 : Int32)), (.ref b2), (.ref b2)])) _
    refine st29 _ ?_
    show Steps p.tables e below (T29.setTop (mkF m 62 #[.val (.int p1), .unset, .unset, .unset] [(.ref b2)])) _
    refine XS.dup X29.here hx rfl (hb hby at_62) rfl rfl ?_
    show Steps p.tables e below (T29.setTop (mkF m 63 #[.val (.int p1), .unset, .unset, .unset] [(.ref b2), (.ref b2)])) _
    refine XS.bipush X29.here hx rfl (hb hby at_63) ?_
    show Steps p.tables e below (T29.setTop (mkF m 65 #[.val (.int p1), .unset, .unset, .unset] [(.int (9 : Int32)), (.ref b2), (.ref b2)])) _
    refine st31 _ ?_
    show Steps p.tables e below (T31.setTop (mkF m 68 #[.val (.int p1), .unset, .unset, .unset] [(.ref w30), (.int (9 : Int32)), (.ref b2), (.ref b2)])) _
    refine st32 _ ?_
    show Steps p.tables e below (T32.setTop (mkF m 69 #[.val (.int p1), .unset, .unset, .unset] [(.ref b2)])) _
    refine XS.dup X32.here hx rfl (hb hby at_69) rfl rfl ?_
    show Steps p.tables e below (T32.setTop (mkF m 70 #[.val (.int p1), .unset, .unset, .unset] [(.ref b2), (.ref b2)])) _
    refine XS.bipush X32.here hx rfl (hb hby at_70) ?_
    show Steps p.tables e below (T32.setTop (mkF m 72 #[.val (.int p1), .unset, .unset, .unset] [(.int (10 : Int32)), (.ref b2), (.ref b2)])) _
    refine st34 _ ?_
    show Steps p.tables e below (T34.setTop (mkF m 75 #[.val (.int p1), .unset, .unset, .unset] [(.ref w33), (.int (10 : Int32)), (.ref b2), (.ref b2)])) _
    refine st35 _ ?_
    show Steps p.tables e below (T35.setTop (mkF m 76 #[.val (.int p1), .unset, .unset, .unset] [(.ref b2)])) _
    refine XS.dup X35.here hx rfl (hb hby at_76) rfl rfl ?_
    show Steps p.tables e below (T35.setTop (mkF m 77 #[.val (.int p1), .unset, .unset, .unset] [(.ref b2), (.ref b2)])) _
    refine XS.bipush X35.here hx rfl (hb hby at_77) ?_
    show Steps p.tables e below (T35.setTop (mkF m 79 #[.val (.int p1), .unset, .unset, .unset] [(.int (11 : Int32)), (.ref b2), (.ref b2)])) _
    refine st37 _ ?_
    show Steps p.tables e below (T37.setTop (mkF m 82 #[.val (.int p1), .unset, .unset, .unset] [(.ref w36), (.int (11 : Int32)), (.ref b2), (.ref b2)])) _
    refine st38 _ ?_
    show Steps p.tables e below (T38.setTop (mkF m 83 #[.val (.int p1), .unset, .unset, .unset] [(.ref b2)])) _
    refine XS.dup X38.here hx rfl (hb hby at_83) rfl rfl ?_
    show Steps p.tables e below (T38.setTop (mkF m 84 #[.val (.int p1), .unset, .unset, .unset] [(.ref b2), (.ref b2)])) _
    refine XS.bipush X38.here hx rfl (hb hby at_84) ?_
    show Steps p.tables e below (T38.setTop (mkF m 86 #[.val (.int p1), .unset, .unset, .unset] [(.int (12 : Int32)), (.ref b2), (.ref b2)])) _
    refine st40 _ ?_
    show Steps p.tables e below (T40.setTop (mkF m 89 #[.val (.int p1), .unset, .unset, .unset] [(.ref w39), (.int (12 : Int32)), (.ref b2), (.ref b2)])) _
    refine st41 _ ?_
    show Steps p.tables e below (T41.setTop (mkF m 90 #[.val (.int p1), .unset, .unset, .unset] [(.ref b2)])) _
    refine XS.dup X41.here hx rfl (hb hby at_90) rfl rfl ?_
    show Steps p.tables e below (T41.setTop (mkF m 91 #[.val (.int p1), .unset, .unset, .unset] [(.ref b2), (.ref b2)])) _
    refine XS.bipush X41.here hx rfl (hb hby at_91) ?_
    show Steps p.tables e below (T41.setTop (mkF m 93 #[.val (.int p1), .unset, .unset, .unset] [(.int (13 : Int32)), (.ref b2), (.ref b2)])) _
    refine st43 _ ?_
    show Steps p.tables e below (T43.setTop (mkF m 96 #[.val (.int p1), .unset, .unset, .unset] [(.ref w42), (.int (13 : Int32)), (.ref b2), (.ref b2)])) _
    refine st44 _ ?_
    show Steps p.tables e below (T44.setTop (mkF m 97 #[.val (.int p1), .unset, .unset, .unset] [(.ref b2)])) _
    refine XS.astoreN X44.here hx rfl (hb hby at_97) rfl rfl (l' := #[.val (.int p1), .val (.ref b2), .unset, .unset]) rfl ?_
    show Steps p.tables e below (T44.setTop (mkF m 98 #[.val (.int p1), .val (.ref b2), .unset, .unset] [])) _
    refine XS.iloadN X44.here hx rfl (hb hby at_98) rfl ?_
    show Steps p.tables e below (T44.setTop (mkF m 99 #[.val (.int p1), .val (.ref b2), .unset, .unset] [(.int p1)])) _
    refine X44.ldcInt hx hown (mvT hZ (hw _ (List.mem_of_getElem? (i := 32) rfl))) (g := (mkF m 99 #[.val (.int p1), .val (.ref b2), .unset, .unset] [(.int p1)])) rfl (hb hby at_99) _ ?_
    show Steps p.tables e below (T44.setTop (mkF m 101 #[.val (.int p1), .val (.ref b2), .unset, .unset] [(.int (2147483647 : Int32)), (.int p1)])) _
    refine XS.iand X44.here hx rfl (hb hby at_101) rfl ?_
    show Steps p.tables e below (T44.setTop (mkF m 102 #[.val (.int p1), .val (.ref b2), .unset, .unset] [(.int (p1 &&& (2147483647 : Int32)))])) _
    refine XS.bipush X44.here hx rfl (hb hby at_102) ?_
    show Steps p.tables e below (T44.setTop (mkF m 104 #[.val (.int p1), .val (.ref b2), .unset, .unset] [(.int (14 : Int32)), (.int (p1 &&& (2147483647 : Int32)))])) _
    refine XS.irem X44.here hx rfl (hb hby at_104) rfl hnz104 ?_
    show Steps p.tables e below (T44.setTop (mkF m 105 #[.val (.int p1), .val (.ref b2), .unset, .unset] [(.int (own_i p1))])) _
    refine XS.istoreN X44.here hx rfl (hb hby at_105) rfl (l' := #[.val (.int p1), .val (.ref b2), .val (.int (own_i p1)), .unset]) rfl ?_
    show Steps p.tables e below (T44.setTop (mkF m 106 #[.val (.int p1), .val (.ref b2), .val (.int (own_i p1)), .unset] [])) _
    refine XS.iloadN X44.here hx rfl (hb hby at_106) rfl ?_
    show Steps p.tables e below (T44.setTop (mkF m 107 #[.val (.int p1), .val (.ref b2), .val (.int (own_i p1)), .unset] [(.int (own_i p1))])) _
    refine XS.iconst X44.here hx rfl (hb hby at_107) ?_
    show Steps p.tables e below (T44.setTop (mkF m 108 #[.val (.int p1), .val (.ref b2), .val (.int (own_i p1)), .unset] [(.int (2 : Int32)), (.int (own_i p1))])) _
    refine XS.icmpNo X44.here hx rfl (hb hby at_108) rfl (flt hc108).1 ?_
    show Steps p.tables e below (T44.setTop (mkF m 111 #[.val (.int p1), .val (.ref b2), .val (.int (own_i p1)), .unset] [])) _
    refine XS.iloadN X44.here hx rfl (hb hby at_111) rfl ?_
    show Steps p.tables e below (T44.setTop (mkF m 112 #[.val (.int p1), .val (.ref b2), .val (.int (own_i p1)), .unset] [(.int (own_i p1))])) _
    refine XS.bipush X44.here hx rfl (hb hby at_112) ?_
    show Steps p.tables e below (T44.setTop (mkF m 114 #[.val (.int p1), .val (.ref b2), .val (.int (own_i p1)), .unset] [(.int (7 : Int32)), (.int (own_i p1))])) _
    refine XS.icmpNo X44.here hx rfl (hb hby at_114) rfl (flt hc114).2.2.1 ?_
    show Steps p.tables e below (T44.setTop (mkF m 117 #[.val (.int p1), .val (.ref b2), .val (.int (own_i p1)), .unset] [])) _
    refine XS.iconst X44.here hx rfl (hb hby at_117) ?_
    show Steps p.tables e below (T44.setTop (mkF m 118 #[.val (.int p1), .val (.ref b2), .val (.int (own_i p1)), .unset] [(.int (1 : Int32))])) _
    refine XS.goto X44.here hx rfl (pc0 := 118) (pc' := 122) rfl (hb hby at_118) (by decide) (by decide) ?_
    show Steps p.tables e below (T44.setTop (mkF m 122 #[.val (.int p1), .val (.ref b2), .val (.int (own_i p1)), .unset] [(.int (1 : Int32))])) _
    refine XS.istoreN X44.here hx rfl (hb hby at_122) rfl (l' := #[.val (.int p1), .val (.ref b2), .val (.int (own_i p1)), .val (.int (1 : Int32))]) rfl ?_
    show Steps p.tables e below (T44.setTop (mkF m 123 #[.val (.int p1), .val (.ref b2), .val (.int (own_i p1)), .val (.int (1 : Int32))] [])) _
    refine XS.aloadN X44.here hx rfl (hb hby at_123) rfl rfl ?_
    show Steps p.tables e below (T44.setTop (mkF m 124 #[.val (.int p1), .val (.ref b2), .val (.int (own_i p1)), .val (.int (1 : Int32))] [(.ref b2)])) _
    refine XS.iloadN X44.here hx rfl (hb hby at_124) rfl ?_
    show Steps p.tables e below (T44.setTop (mkF m 125 #[.val (.int p1), .val (.ref b2), .val (.int (own_i p1)), .val (.int (1 : Int32))] [(.int (own_i p1)), (.ref b2)])) _
    refine X44.aaload hx (j := (own_i p1)) (v := (.ref w45)) (by rw [e44]; exact Ar_b2.1) (State.isArrayOf_alike hZ.alike Ar_b2.2.1) rfl Ar_b2.2.2 hin125 hat125 (g := (mkF m 125 #[.val (.int p1), .val (.ref b2), .val (.int (own_i p1)), .val (.int (1 : Int32))] [(.int (own_i p1)), (.ref b2)])) rfl rfl (hb hby at_125) _ ?_
    show Steps p.tables e below (T44.setTop (mkF m 126 #[.val (.int p1), .val (.ref b2), .val (.int (own_i p1)), .val (.int (1 : Int32))] [(.ref w45)])) _
    refine st46.trans ?_
    show Steps p.tables e below (T46.setTop (mkF m 129 #[.val (.int p1), .val (.ref b2), .val (.int (own_i p1)), .val (.int (1 : Int32))] [(.int (own_cmp (own_i p1)))])) _
    refine XS.iloadN X46.here hx rfl (hb hby at_129) rfl ?_
    show Steps p.tables e below (T46.setTop (mkF m 130 #[.val (.int p1), .val (.ref b2), .val (.int (own_i p1)), .val (.int (1 : Int32))] [(.int (1 : Int32)), (.int (own_cmp (own_i p1)))])) _
    refine XS.icmpNo X46.here hx rfl (hb hby at_130) rfl (teq (own_cmp_in hc108 hc114 : (own_cmp (own_i p1)) = (1 : Int32))).2 ?_
    show Steps p.tables e below (T46.setTop (mkF m 133 #[.val (.int p1), .val (.ref b2), .val (.int (own_i p1)), .val (.int (1 : Int32))] [])) _
    refine XS.iconst X46.here hx rfl (hb hby at_133) ?_
    show Steps p.tables e below (T46.setTop (mkF m 134 #[.val (.int p1), .val (.ref b2), .val (.int (own_i p1)), .val (.int (1 : Int32))] [(.int (1 : Int32))])) _
    refine XS.goto X46.here hx rfl (pc0 := 134) (pc' := 138) rfl (hb hby at_134) (by decide) (by decide) ?_
    show Steps p.tables e below (T46.setTop (mkF m 138 #[.val (.int p1), .val (.ref b2), .val (.int (own_i p1)), .val (.int (1 : Int32))] [(.int (1 : Int32))])) _
    exact retN X46 hx (t := .boolean) Bd.returns (by simp) (hb hby at_138) hr
  · show Q0 Z p1 w3 w6 w9 w12 w15 w18 w21 w24 w27 w30 w33 w36 w39 w42 h0 n0 _ T46.heap _
    exact ⟨rfl, N46⟩
set_option maxRecDepth 65536 in
set_option maxHeartbeats 40000000 in
theorem rm0_tf (l : Launch) (Z : State) (a0 : Array Value) (hw : ∀ d ∈ tables_1, d.before a0 Z = true) (ws : List Jvm.Cond) (p1 : Int32) (w3 : Addr) (w6 : Addr) (w9 : Addr) (w12 : Addr) (w15 : Addr) (w18 : Addr) (w21 : Addr) (w24 : Addr) (w27 : Addr) (w30 : Addr) (w33 : Addr) (w36 : Addr) (w39 : Addr) (w42 : Addr) (h0 : Heap) (n0 : Nat) (Z0 : n0 ≤ h0.size) (S_OR : Sta Z h0 "com/example/whence/whence/sql/Expression$Binary$Operator" "OR" "Lcom/example/whence/whence/sql/Expression$Binary$Operator;" (.ref w3)) (P_0 : own_ord Z h0 w3 0) (S_AND : Sta Z h0 "com/example/whence/whence/sql/Expression$Binary$Operator" "AND" "Lcom/example/whence/whence/sql/Expression$Binary$Operator;" (.ref w6)) (P_1 : own_ord Z h0 w6 1) (S_EQUAL : Sta Z h0 "com/example/whence/whence/sql/Expression$Binary$Operator" "EQUAL" "Lcom/example/whence/whence/sql/Expression$Binary$Operator;" (.ref w9)) (P_2 : own_ord Z h0 w9 2) (S_NOT_EQUAL : Sta Z h0 "com/example/whence/whence/sql/Expression$Binary$Operator" "NOT_EQUAL" "Lcom/example/whence/whence/sql/Expression$Binary$Operator;" (.ref w12)) (P_3 : own_ord Z h0 w12 3) (S_LESS : Sta Z h0 "com/example/whence/whence/sql/Expression$Binary$Operator" "LESS" "Lcom/example/whence/whence/sql/Expression$Binary$Operator;" (.ref w15)) (P_4 : own_ord Z h0 w15 4) (S_LESS_OR_EQUAL : Sta Z h0 "com/example/whence/whence/sql/Expression$Binary$Operator" "LESS_OR_EQUAL" "Lcom/example/whence/whence/sql/Expression$Binary$Operator;" (.ref w18)) (P_5 : own_ord Z h0 w18 5) (S_GREATER : Sta Z h0 "com/example/whence/whence/sql/Expression$Binary$Operator" "GREATER" "Lcom/example/whence/whence/sql/Expression$Binary$Operator;" (.ref w21)) (P_6 : own_ord Z h0 w21 6) (S_GREATER_OR_EQUAL : Sta Z h0 "com/example/whence/whence/sql/Expression$Binary$Operator" "GREATER_OR_EQUAL" "Lcom/example/whence/whence/sql/Expression$Binary$Operator;" (.ref w24)) (P_7 : own_ord Z h0 w24 7) (S_ADD : Sta Z h0 "com/example/whence/whence/sql/Expression$Binary$Operator" "ADD" "Lcom/example/whence/whence/sql/Expression$Binary$Operator;" (.ref w27)) (P_8 : own_ord Z h0 w27 8) (S_SUBTRACT : Sta Z h0 "com/example/whence/whence/sql/Expression$Binary$Operator" "SUBTRACT" "Lcom/example/whence/whence/sql/Expression$Binary$Operator;" (.ref w30)) (P_9 : own_ord Z h0 w30 9) (S_MULTIPLY : Sta Z h0 "com/example/whence/whence/sql/Expression$Binary$Operator" "MULTIPLY" "Lcom/example/whence/whence/sql/Expression$Binary$Operator;" (.ref w33)) (P_10 : own_ord Z h0 w33 10) (S_DIVIDE : Sta Z h0 "com/example/whence/whence/sql/Expression$Binary$Operator" "DIVIDE" "Lcom/example/whence/whence/sql/Expression$Binary$Operator;" (.ref w36)) (P_11 : own_ord Z h0 w36 11) (S_MODULO : Sta Z h0 "com/example/whence/whence/sql/Expression$Binary$Operator" "MODULO" "Lcom/example/whence/whence/sql/Expression$Binary$Operator;" (.ref w39)) (P_12 : own_ord Z h0 w39 12) (S_CONCATENATE : Sta Z h0 "com/example/whence/whence/sql/Expression$Binary$Operator" "CONCATENATE" "Lcom/example/whence/whence/sql/Expression$Binary$Operator;" (.ref w42)) (P_13 : own_ord Z h0 w42 13) (hnz104 : ¬ ((14 : Int32) = (0 : Int32))) (hc108 : (own_i p1) < (2 : Int32)) :
    MetFree l x (head1 (Jvm.Cond.code x code maxLocals ret :: ws) room_1) (fun a U => a = #[(.int p1)] ∧ Z.Warmed39 U.vm ∧ U.heap = h0) (fun _ _ _ _ _ => True) (fun _ U o U' => ∃ v L, o = .returned v ∧ Q0 Z p1 w3 w6 w9 w12 w15 w18 w21 w24 w27 w30 w33 w36 w39 w42 h0 n0 v U'.heap L ∧ FrameEnd U o U' L room_1.cells room_1.slots) := by
  refine MetFree.of_bodySF (plainFor_of_name pn_0) hisR ?_
  intro p e s m args below meth c s₁ Bd hml0 hP hK
  obtain ⟨rfl, hZ, hh⟩ := hP
  have hx := Bd.exec
  have hby := Bd.bytes
  have hml : c.maxLocals = 4 := hml0
  have hown : s.vm.findClass "com/example/whence/whence/sql/OperatorIsComparisonPinLaw" = some m.cls := findClass_of_methodNamed Bd.named
  have hnm := (name_of_methodNamed Bd.named Bd.method).1
  have X0 : Stand p l e room_1 s m #[(.int p1)] below meth c s₁ [] 0 0 := Stand.of_body Bd
  have e0 : s₁.heap = h0 := by rw [← hh, Bd.state]; rfl
  have N0 := Fr.nil n0
  have pre0 : ∀ t, Steps p.tables e below (s₁.setTop (mkF m 0 #[.val (.int p1), .unset, .unset, .unset] [])) t → Steps p.tables e below (s₁.setTop (entryFrame m #[(.int p1)] maxLocals)) t := fun t k => castTop (ef_0 m p1) k
  obtain ⟨T2, h2, k2, X2, e2, E2, A2, O2, st2⟩ := newR X0 hx hZ hown (hw _ (List.mem_of_getElem? (i := 0) rfl)) (hw _ (List.mem_of_getElem? (i := 1) rfl)) e0 (g := (mkF m 2 #[.val (.int p1), .unset, .unset, .unset] [(.int (14 : Int32))])) rfl (hb hby at_2) rfl (by decide) (cap := 14) (by decide) (by decide) (by decide) (by decide)
  obtain ⟨b2, g2⟩ : ∃ z, z = h0.size := ⟨_, rfl⟩      -- the fresh array's address
  rw [← g2] at A2 st2
  have V_2 : Arv Z h2 b2 k2 (.object "com/example/whence/whence/sql/Expression$Binary$Operator") (14 : Int32) (List.replicate 14 .null) .null := (Arv.new A2 (by decide)).pad (pad_rep [] .null 14)      -- Arv Z h2 b2 k2 (.object "com/example/whence/whence/sql/Expression$Binary$Operator") (14 : Int32) [] .null; O2: what may lie in it (Sto.ofV)
  have g_b2 : n0 ≤ b2 := Nat.le_trans Z0 (Nat.le_of_eq g2.symm)
  have sz_b2 : h0.size ≤ b2 := (Nat.le_trans (Keep.refl h0 []).1 (Nat.le_of_eq g2.symm))
  have K2 : Keep h0 h2 [] := (Keep.refl h0 []).ext E2
  obtain ⟨T4, X4, e4, st4⟩ := getS2 X2 hx hZ hown (host := "") (Or.inl (hw _ (List.mem_of_getElem? (i := 2) rfl))) Via.refl e2 (S_OR.ext E2) (g := (mkF m 7 #[.val (.int p1), .unset, .unset, .unset] [(.int (0 : Int32)), (.ref b2), (.ref b2)])) rfl (hb hby at_7)
  obtain ⟨cl2, Ar2, qq2, SS2, NN2, HH2, GG2⟩ := V_2
  obtain ⟨T5, h5, X5, e5, W5, st5⟩ := stR X4 hx hZ e4 Ar2 (j := (0 : Int32)) (inb_of SS2 ⟨by decide, by decide⟩) rfl (Sto.ofV Ar2 qq2 O2 (Ins.self (P_0.1.keep K2))) (g := (mkF m 10 #[.val (.int p1), .unset, .unset, .unset] [(.ref w3), (.int (0 : Int32)), (.ref b2), (.ref b2)])) rfl rfl (hb hby at_10)
  have V_5 := Arv.set Ar2 qq2 SS2 NN2 HH2 GG2 rfl W5 0 rfl (Nat.le_of_ble_eq_true rfl)
  have N5 := Fr.snoc X5 N0 g_b2
  have K5 : Keep h0 h5 [] := K2.wr W5 (Or.inr sz_b2)
  obtain ⟨T7, X7, e7, st7⟩ := getS2 X5 hx hZ hown (host := "") (Or.inl (hw _ (List.mem_of_getElem? (i := 6) rfl))) Via.refl e5 ((S_AND.ext E2).wr W5) (g := (mkF m 13 #[.val (.int p1), .unset, .unset, .unset] [(.int (1 : Int32)), (.ref b2), (.ref b2)])) rfl (hb hby at_13)
  obtain ⟨cl5, Ar5, qq5, SS5, NN5, HH5, GG5⟩ := V_5
  obtain ⟨T8, h8, X8, e8, W8, st8⟩ := stR X7 hx hZ e7 Ar5 (j := (1 : Int32)) (inb_of SS5 ⟨by decide, by decide⟩) rfl (Sto.ofV Ar5 qq5 O2 (Ins.self (P_1.1.keep K5))) (g := (mkF m 16 #[.val (.int p1), .unset, .unset, .unset] [(.ref w6), (.int (1 : Int32)), (.ref b2), (.ref b2)])) rfl rfl (hb hby at_16)
  have V_8 := Arv.set Ar5 qq5 SS5 NN5 HH5 GG5 rfl W8 1 rfl (Nat.le_of_ble_eq_true rfl)
  have N8 := Fr.snoc X8 N5 g_b2
  have K8 : Keep h0 h8 [] := K5.wr W8 (Or.inr sz_b2)
  obtain ⟨T10, X10, e10, st10⟩ := getS2 X8 hx hZ hown (host := "") (Or.inl (hw _ (List.mem_of_getElem? (i := 8) rfl))) Via.refl e8 (((S_EQUAL.ext E2).wr W5).wr W8) (g := (mkF m 19 #[.val (.int p1), .unset, .unset, .unset] [(.int (2 : Int32)), (.ref b2), (.ref b2)])) rfl (hb hby at_19)
  obtain ⟨cl8, Ar8, qq8, SS8, NN8, HH8, GG8⟩ := V_8
  obtain ⟨T11, h11, X11, e11, W11, st11⟩ := stR X10 hx hZ e10 Ar8 (j := (2 : Int32)) (inb_of SS8 ⟨by decide, by decide⟩) rfl (Sto.ofV Ar8 qq8 O2 (Ins.self (P_2.1.keep K8))) (g := (mkF m 22 #[.val (.int p1), .unset, .unset, .unset] [(.ref w9), (.int (2 : Int32)), (.ref b2), (.ref b2)])) rfl rfl (hb hby at_22)
  have V_11 := Arv.set Ar8 qq8 SS8 NN8 HH8 GG8 rfl W11 2 rfl (Nat.le_of_ble_eq_true rfl)
  have N11 := Fr.snoc X11 N8 g_b2
  have K11 : Keep h0 h11 [] := K8.wr W11 (Or.inr sz_b2)
  obtain ⟨T13, X13, e13, st13⟩ := getS2 X11 hx hZ hown (host := "") (Or.inl (hw _ (List.mem_of_getElem? (i := 10) rfl))) Via.refl e11 ((((S_NOT_EQUAL.ext E2).wr W5).wr W8).wr W11) (g := (mkF m 25 #[.val (.int p1), .unset, .unset, .unset] [(.int (3 : Int32)), (.ref b2), (.ref b2)])) rfl (hb hby at_25)
  obtain ⟨cl11, Ar11, qq11, SS11, NN11, HH11, GG11⟩ := V_11
  obtain ⟨T14, h14, X14, e14, W14, st14⟩ := stR X13 hx hZ e13 Ar11 (j := (3 : Int32)) (inb_of SS11 ⟨by decide, by decide⟩) rfl (Sto.ofV Ar11 qq11 O2 (Ins.self (P_3.1.keep K11))) (g := (mkF m 28 #[.val (.int p1), .unset, .unset, .unset] [(.ref w12), (.int (3 : Int32)), (.ref b2), (.ref b2)])) rfl rfl (hb hby at_28)
  have V_14 := Arv.set Ar11 qq11 SS11 NN11 HH11 GG11 rfl W14 3 rfl (Nat.le_of_ble_eq_true rfl)
  have N14 := Fr.snoc X14 N11 g_b2
  have K14 : Keep h0 h14 [] := K11.wr W14 (Or.inr sz_b2)
  obtain ⟨T16, X16, e16, st16⟩ := getS2 X14 hx hZ hown (host := "") (Or.inl (hw _ (List.mem_of_getElem? (i := 12) rfl))) Via.refl e14 (((((S_LESS.ext E2).wr W5).wr W8).wr W11).wr W14) (g := (mkF m 31 #[.val (.int p1), .unset, .unset, .unset] [(.int (4 : Int32)), (.ref b2), (.ref b2)])) rfl (hb hby at_31)
  obtain ⟨cl14, Ar14, qq14, SS14, NN14, HH14, GG14⟩ := V_14
  obtain ⟨T17, h17, X17, e17, W17, st17⟩ := stR X16 hx hZ e16 Ar14 (j := (4 : Int32)) (inb_of SS14 ⟨by decide, by decide⟩) rfl (Sto.ofV Ar14 qq14 O2 (Ins.self (P_4.1.keep K14))) (g := (mkF m 34 #[.val (.int p1), .unset, .unset, .unset] [(.ref w15), (.int (4 : Int32)), (.ref b2), (.ref b2)])) rfl rfl (hb hby at_34)
  have V_17 := Arv.set Ar14 qq14 SS14 NN14 HH14 GG14 rfl W17 4 rfl (Nat.le_of_ble_eq_true rfl)
  have N17 := Fr.snoc X17 N14 g_b2
  have K17 : Keep h0 h17 [] := K14.wr W17 (Or.inr sz_b2)
  obtain ⟨T19, X19, e19, st19⟩ := getS2 X17 hx hZ hown (host := "") (Or.inl (hw _ (List.mem_of_getElem? (i := 14) rfl))) Via.refl e17 ((((((S_LESS_OR_EQUAL.ext E2).wr W5).wr W8).wr W11).wr W14).wr W17) (g := (mkF m 37 #[.val (.int p1), .unset, .unset, .unset] [(.int (5 : Int32)), (.ref b2), (.ref b2)])) rfl (hb hby at_37)
  obtain ⟨cl17, Ar17, qq17, SS17, NN17, HH17, GG17⟩ := V_17
  obtain ⟨T20, h20, X20, e20, W20, st20⟩ := stR X19 hx hZ e19 Ar17 (j := (5 : Int32)) (inb_of SS17 ⟨by decide, by decide⟩) rfl (Sto.ofV Ar17 qq17 O2 (Ins.self (P_5.1.keep K17))) (g := (mkF m 40 #[.val (.int p1), .unset, .unset, .unset] [(.ref w18), (.int (5 : Int32)), (.ref b2), (.ref b2)])) rfl rfl (hb hby at_40)
  have V_20 := Arv.set Ar17 qq17 SS17 NN17 HH17 GG17 rfl W20 5 rfl (Nat.le_of_ble_eq_true rfl)
  have N20 := Fr.snoc X20 N17 g_b2
  have K20 : Keep h0 h20 [] := K17.wr W20 (Or.inr sz_b2)
  obtain ⟨T22, X22, e22, st22⟩ := getS2 X20 hx hZ hown (host := "") (Or.inl (hw _ (List.mem_of_getElem? (i := 16) rfl))) Via.refl e20 (((((((S_GREATER.ext E2).wr W5).wr W8).wr W11).wr W14).wr W17).wr W20) (g := (mkF m 44 #[.val (.int p1), .unset, .unset, .unset] [(.int (6 : Int32)), (.ref b2), (.ref b2)])) rfl (hb hby at_44)
  obtain ⟨cl20, Ar20, qq20, SS20, NN20, HH20, GG20⟩ := V_20
  obtain ⟨T23, h23, X23, e23, W23, st23⟩ := stR X22 hx hZ e22 Ar20 (j := (6 : Int32)) (inb_of SS20 ⟨by decide, by decide⟩) rfl (Sto.ofV Ar20 qq20 O2 (Ins.self (P_6.1.keep K20))) (g := (mkF m 47 #[.val (.int p1), .unset, .unset, .unset] [(.ref w21), (.int (6 : Int32)), (.ref b2), (.ref b2)])) rfl rfl (hb hby at_47)
  have V_23 := Arv.set Ar20 qq20 SS20 NN20 HH20 GG20 rfl W23 6 rfl (Nat.le_of_ble_eq_true rfl)
  have N23 := Fr.snoc X23 N20 g_b2
  have K23 : Keep h0 h23 [] := K20.wr W23 (Or.inr sz_b2)
  obtain ⟨T25, X25, e25, st25⟩ := getS2 X23 hx hZ hown (host := "") (Or.inl (hw _ (List.mem_of_getElem? (i := 18) rfl))) Via.refl e23 ((((((((S_GREATER_OR_EQUAL.ext E2).wr W5).wr W8).wr W11).wr W14).wr W17).wr W20).wr W23) (g := (mkF m 51 #[.val (.int p1), .unset, .unset, .unset] [(.int (7 : Int32)), (.ref b2), (.ref b2)])) rfl (hb hby at_51)
  obtain ⟨cl23, Ar23, qq23, SS23, NN23, HH23, GG23⟩ := V_23
  obtain ⟨T26, h26, X26, e26, W26, st26⟩ := stR X25 hx hZ e25 Ar23 (j := (7 : Int32)) (inb_of SS23 ⟨by decide, by decide⟩) rfl (Sto.ofV Ar23 qq23 O2 (Ins.self (P_7.1.keep K23))) (g := (mkF m 54 #[.val (.int p1), .unset, .unset, .unset] [(.ref w24), (.int (7 : Int32)), (.ref b2), (.ref b2)])) rfl rfl (hb hby at_54)
  have V_26 := Arv.set Ar23 qq23 SS23 NN23 HH23 GG23 rfl W26 7 rfl (Nat.le_of_ble_eq_true rfl)
  have N26 := Fr.snoc X26 N23 g_b2
  have K26 : Keep h0 h26 [] := K23.wr W26 (Or.inr sz_b2)
  obtain ⟨T28, X28, e28, st28⟩ := getS2 X26 hx hZ hown (host := "") (Or.inl (hw _ (List.mem_of_getElem? (i := 20) rfl))) Via.refl e26 (((((((((S_ADD.ext E2).wr W5).wr W8).wr W11).wr W14).wr W17).wr W20).wr W23).wr W26) (g := (mkF m 58 #[.val (.int p1), .unset, .unset, .unset] [(.int (8 : Int32)), (.ref b2), (.ref b2)])) rfl (hb hby at_58)
  obtain ⟨cl26, Ar26, qq26, SS26, NN26, HH26, GG26⟩ := V_26
  obtain ⟨T29, h29, X29, e29, W29, st29⟩ := stR X28 hx hZ e28 Ar26 (j := (8 : Int32)) (inb_of SS26 ⟨by decide, by decide⟩) rfl (Sto.ofV Ar26 qq26 O2 (Ins.self (P_8.1.keep K26))) (g := (mkF m 61 #[.val (.int p1), .unset, .unset, .unset] [(.ref w27), (.int (8 : Int32)), (.ref b2), (.ref b2)])) rfl rfl (hb hby at_61)
  have V_29 := Arv.set Ar26 qq26 SS26 NN26 HH26 GG26 rfl W29 8 rfl (Nat.le_of_ble_eq_true rfl)
  have N29 := Fr.snoc X29 N26 g_b2
  have K29 : Keep h0 h29 [] := K26.wr W29 (Or.inr sz_b2)
  obtain ⟨T31, X31, e31, st31⟩ := getS2 X29 hx hZ hown (host := "") (Or.inl (hw _ (List.mem_of_getElem? (i := 22) rfl))) Via.refl e29 ((((((((((S_SUBTRACT.ext E2).wr W5).wr W8).wr W11).wr W14).wr W17).wr W20).wr W23).wr W26).wr W29) (g := (mkF m 65 #[.val (.int p1), .unset, .unset, .unset] [(.int (9 : Int32)), (.ref b2), (.ref b2)])) rfl (hb hby at_65)
  obtain ⟨cl29, Ar29, qq29, SS29, NN29, HH29, GG29⟩ := V_29
  obtain ⟨T32, h32, X32, e32, W32, st32⟩ := stR X31 hx hZ e31 Ar29 (j := (9 : Int32)) (inb_of SS29 ⟨by decide, by decide⟩) rfl (Sto.ofV Ar29 qq29 O2 (Ins.self (P_9.1.keep K29))) (g := (mkF m 68 #[.val (.int p1), .unset, .unset, .unset] [(.ref w30), (.int (9 : Int32)), (.ref b2), (.ref b2)])) rfl rfl (hb hby at_68)
  have V_32 := Arv.set Ar29 qq29 SS29 NN29 HH29 GG29 rfl W32 9 rfl (Nat.le_of_ble_eq_true rfl)
  have N32 := Fr.snoc X32 N29 g_b2
  have K32 : Keep h0 h32 [] := K29.wr W32 (Or.inr sz_b2)
  obtain ⟨T34, X34, e34, st34⟩ := getS2 X32 hx hZ hown (host := "") (Or.inl (hw _ (List.mem_of_getElem? (i := 24) rfl))) Via.refl e32 (((((((((((S_MULTIPLY.ext E2).wr W5).wr W8).wr W11).wr W14).wr W17).wr W20).wr W23).wr W26).wr W29).wr W32) (g := (mkF m 72 #[.val (.int p1), .unset, .unset, .unset] [(.int (10 : Int32)), (.ref b2), (.ref b2)])) rfl (hb hby at_72)
  obtain ⟨cl32, Ar32, qq32, SS32, NN32, HH32, GG32⟩ := V_32
  obtain ⟨T35, h35, X35, e35, W35, st35⟩ := stR X34 hx hZ e34 Ar32 (j := (10 : Int32)) (inb_of SS32 ⟨by decide, by decide⟩) rfl (Sto.ofV Ar32 qq32 O2 (Ins.self (P_10.1.keep K32))) (g := (mkF m 75 #[.val (.int p1), .unset, .unset, .unset] [(.ref w33), (.int (10 : Int32)), (.ref b2), (.ref b2)])) rfl rfl (hb hby at_75)
  have V_35 := Arv.set Ar32 qq32 SS32 NN32 HH32 GG32 rfl W35 10 rfl (Nat.le_of_ble_eq_true rfl)
  have N35 := Fr.snoc X35 N32 g_b2
  have K35 : Keep h0 h35 [] := K32.wr W35 (Or.inr sz_b2)
  obtain ⟨T37, X37, e37, st37⟩ := getS2 X35 hx hZ hown (host := "") (Or.inl (hw _ (List.mem_of_getElem? (i := 26) rfl))) Via.refl e35 ((((((((((((S_DIVIDE.ext E2).wr W5).wr W8).wr W11).wr W14).wr W17).wr W20).wr W23).wr W26).wr W29).wr W32).wr W35) (g := (mkF m 79 #[.val (.int p1), .unset, .unset, .unset] [(.int (11 : Int32)), (.ref b2), (.ref b2)])) rfl (hb hby at_79)
  obtain ⟨cl35, Ar35, qq35, SS35, NN35, HH35, GG35⟩ := V_35
  obtain ⟨T38, h38, X38, e38, W38, st38⟩ := stR X37 hx hZ e37 Ar35 (j := (11 : Int32)) (inb_of SS35 ⟨by decide, by decide⟩) rfl (Sto.ofV Ar35 qq35 O2 (Ins.self (P_11.1.keep K35))) (g := (mkF m 82 #[.val (.int p1), .unset, .unset, .unset] [(.ref w36), (.int (11 : Int32)), (.ref b2), (.ref b2)])) rfl rfl (hb hby at_82)
  have V_38 := Arv.set Ar35 qq35 SS35 NN35 HH35 GG35 rfl W38 11 rfl (Nat.le_of_ble_eq_true rfl)
  have N38 := Fr.snoc X38 N35 g_b2
  have K38 : Keep h0 h38 [] := K35.wr W38 (Or.inr sz_b2)
  obtain ⟨T40, X40, e40, st40⟩ := getS2 X38 hx hZ hown (host := "") (Or.inl (hw _ (List.mem_of_getElem? (i := 28) rfl))) Via.refl e38 (((((((((((((S_MODULO.ext E2).wr W5).wr W8).wr W11).wr W14).wr W17).wr W20).wr W23).wr W26).wr W29).wr W32).wr W35).wr W38) (g := (mkF m 86 #[.val (.int p1), .unset, .unset, .unset] [(.int (12 : Int32)), (.ref b2), (.ref b2)])) rfl (hb hby at_86)
  obtain ⟨cl38, Ar38, qq38, SS38, NN38, HH38, GG38⟩ := V_38
  obtain ⟨T41, h41, X41, e41, W41, st41⟩ := stR X40 hx hZ e40 Ar38 (j := (12 : Int32)) (inb_of SS38 ⟨by decide, by decide⟩) rfl (Sto.ofV Ar38 qq38 O2 (Ins.self (P_12.1.keep K38))) (g := (mkF m 89 #[.val (.int p1), .unset, .unset, .unset] [(.ref w39), (.int (12 : Int32)), (.ref b2), (.ref b2)])) rfl rfl (hb hby at_89)
  have V_41 := Arv.set Ar38 qq38 SS38 NN38 HH38 GG38 rfl W41 12 rfl (Nat.le_of_ble_eq_true rfl)
  have N41 := Fr.snoc X41 N38 g_b2
  have K41 : Keep h0 h41 [] := K38.wr W41 (Or.inr sz_b2)
  obtain ⟨T43, X43, e43, st43⟩ := getS2 X41 hx hZ hown (host := "") (Or.inl (hw _ (List.mem_of_getElem? (i := 30) rfl))) Via.refl e41 ((((((((((((((S_CONCATENATE.ext E2).wr W5).wr W8).wr W11).wr W14).wr W17).wr W20).wr W23).wr W26).wr W29).wr W32).wr W35).wr W38).wr W41) (g := (mkF m 93 #[.val (.int p1), .unset, .unset, .unset] [(.int (13 : Int32)), (.ref b2), (.ref b2)])) rfl (hb hby at_93)
  obtain ⟨cl41, Ar41, qq41, SS41, NN41, HH41, GG41⟩ := V_41
  obtain ⟨T44, h44, X44, e44, W44, st44⟩ := stR X43 hx hZ e43 Ar41 (j := (13 : Int32)) (inb_of SS41 ⟨by decide, by decide⟩) rfl (Sto.ofV Ar41 qq41 O2 (Ins.self (P_13.1.keep K41))) (g := (mkF m 96 #[.val (.int p1), .unset, .unset, .unset] [(.ref w42), (.int (13 : Int32)), (.ref b2), (.ref b2)])) rfl rfl (hb hby at_96)
  have V_44 := Arv.set Ar41 qq41 SS41 NN41 HH41 GG41 rfl W44 13 rfl (Nat.le_of_ble_eq_true rfl)
  have N44 := Fr.snoc X44 N41 g_b2
  have K44 : Keep h0 h44 [] := K41.wr W44 (Or.inr sz_b2)
  have V_e : Arv Z h44 b2 k2 (.object "com/example/whence/whence/sql/Expression$Binary$Operator") (14 : Int32) [.ref w3, .ref w6, .ref w9, .ref w12, .ref w15, .ref w18, .ref w21, .ref w24, .ref w27, .ref w30, .ref w33, .ref w36, .ref w39, .ref w42] .null := V_44
  obtain ⟨cle, Ar_b2, qqe, SSe, NNe, HHe, GGe⟩ := V_e
  obtain ⟨w45, hgd, E_w45, F_w45⟩ := own_pick (P := own_ord Z h0) P_0 P_1 P_2 P_3 P_4 P_5 P_6 P_7 P_8 P_9 P_10 P_11 P_12 P_13 (own_i p1) (own_i_rng p1)
  have hin125 := inb_of SSe (own_i_nn p1)
  have hat125 : cle.slots[(own_i p1).toNatClampNeg]? = some (.ref w45) := (HHe _ (Nat.lt_of_not_le fun q => hin125 (Or.inr q))).trans (congrArg some hgd)
  obtain ⟨cq46, kq46, q46a, q46b, q46c⟩ := isOf hZ e44 (((((((((((((((E_w45.ext E2).wr W5).wr W8).wr W11).wr W14).wr W17).wr W20).wr W23).wr W26).wr W29).wr W32).wr W35).wr W38).wr W41).wr W44)
  obtain ⟨_, _, ⟨T46, L46, k46, n46⟩, -, X46, ⟨Lc46, hQ46, l46, y46, z46⟩, st46⟩ := X44.virtualBack hx (y := (⟨"com/example/whence/whence/sql/Expression$Binary$Operator", "isComparison", "()Z"⟩ : MethodName)) (z := (⟨"com/example/whence/whence/sql/Expression$Binary$Operator", "isComparison", "()Z"⟩ : MethodName)) hown (mvT hZ (hw _ (List.mem_of_getElem? (i := 33) rfl))) (mvT hZ (hw _ (List.mem_of_getElem? (i := 34) rfl))) (notFace_of_selects (args := #[]) (mvT hZ (hw _ (List.mem_of_getElem? (i := 36) rfl)))) (mvT hZ (hw _ (List.mem_of_getElem? (i := 36) rfl))) (mvT hZ (hw _ (List.mem_of_getElem? (i := 35) rfl))) (by decide) (backOf (W := 0) (rm1 l Z a0 hw [] w45 (own_i p1) h44 n0 (Nat.le_trans Z0 K44.1) (E_w45.keep K44) (F_w45.keep K44 List.not_mem_nil)) hZ (hw _ (List.mem_of_getElem? (i := 37) rfl)) (hw _ (List.mem_of_getElem? (i := 3) rfl)) (by decide) (by decide)) q46a q46c (g := (mkF m 126 #[.val (.int p1), .val (.ref b2), .val (.int (own_i p1)), .val (.int (0 : Int32))] [(.ref w45)])) rfl (by rw [hml]; rfl) (Steps.refl _) (argsL := []) (rest := []) (lenOf pd_0_0 rfl) rfl (by show 2 * 0 + _ ≤ _; exact Nat.le_of_eq rfl) (hb hby at_126) (fun _ _ => ⟨rfl, e44, (by decide : 1 + 0 ≤ _), (by decide : 14 + 0 ≤ _)⟩)
  dsimp only [Pt.U, Pt.locs, Pt.cells, Pt.slots] at X46 l46 y46 z46 st46 hQ46
  subst l46 y46 z46
  obtain ⟨rfl, N46q, hh46⟩ := hQ46      -- what it returned, that it wrote nothing old, and the rest of your Q1
  have N46 := Fr.app N44 N46q
  obtain ⟨fs, hr, hrun, hended, hW, hsame⟩ := X46.leave (v := some (.int (1 : Int32))) (fun h => by rw [Bd.returns] at h; cases h)
  refine ⟨_, _, pre0 _ ?_, hrun, hended, _, _, rfl, ?_, ⟨_, rfl⟩, hW, hsame.mono (by decide) (by decide)⟩
  · show Steps p.tables e below (s₁.setTop (mkF m 0 #[.val (.int p1), .unset, .unset, .unset] [])) _
    refine XS.bipush X0.here hx rfl (hb hby at_0) ?_
    show Steps p.tables e below (s₁.setTop (mkF m 2 #[.val (.int p1), .unset, .unset, .unset] [(.int (14 : Int32))])) _
    refine st2 _ ?_
    show Steps p.tables e below (T2.setTop (mkF m 5 #[.val (.int p1), .unset, .unset, .unset] [(.ref b2)])) _
    refine XS.dup X2.here hx rfl (hb hby at_5) rfl rfl ?_
    show Steps p.tables e below (T2.setTop (mkF m 6 #[.val (.int p1), .unset, .unset, .unset] [(.ref b2), (.ref b2)])) _
    refine XS.iconst X2.here hx rfl (hb hby at_6) ?_
    show Steps p.tables e below (T2.setTop (mkF m 7 #[.val (.int p1), .unset, .unset, .unset] [(.int (0 : Int32)), (.ref b2), (.ref b2)])) _
    refine st4 _ ?_
    show Steps p.tables e below (T4.setTop (mkF m 10 #[.val (.int p1), .unset, .unset, .unset] [(.ref w3), (.int (0 : Int32)), (.ref b2), (.ref b2)])) _
    refine st5 _ ?_
    show Steps p.tables e below (T5.setTop (mkF m 11 #[.val (.int p1), .unset, .unset, .unset] [(.ref b2)])) _
    refine XS.dup X5.here hx rfl (hb hby at_11) rfl rfl ?_
    show Steps p.tables e below (T5.setTop (mkF m 12 #[.val (.int p1), .unset, .unset, .unset] [(.ref b2), (.ref b2)])) _
    refine XS.iconst X5.here hx rfl (hb hby at_12) ?_
    show Steps p.tables e below (T5.setTop (mkF m 13 #[.val (.int p1), .unset, .unset, .unset] [(.int (1 : Int32)), (.ref b2), (.ref b2)])) _
    refine st7 _ ?_
    show Steps p.tables e below (T7.setTop (mkF m 16 #[.val (.int p1), .unset, .unset, .unset] [(.ref w6), (.int (1 : Int32)), (.ref b2), (.ref b2)])) _
    refine st8 _ ?_
    show Steps p.tables e below (T8.setTop (mkF m 17 #[.val (.int p1), .unset, .unset, .unset] [(.ref b2)])) _
    refine XS.dup X8.here hx rfl (hb hby at_17) rfl rfl ?_
    show Steps p.tables e below (T8.setTop (mkF m 18 #[.val (.int p1), .unset, .unset, .unset] [(.ref b2), (.ref b2)])) _
    refine XS.iconst X8.here hx rfl (hb hby at_18) ?_
    show Steps p.tables e below (T8.setTop (mkF m 19 #[.val (.int p1), .unset, .unset, .unset] [(.int (2 : Int32)), (.ref b2), (.ref b2)])) _
    refine st10 _ ?_
    show Steps p.tables e below (T10.setTop (mkF m 22 #[.val (.int p1), .unset, .unset, .unset] [(.ref w9), (.int (2 : Int32)), (.ref b2), (.ref b2)])) _
    refine st11 _ ?_
    show Steps p.tables e below (T11.setTop (mkF m 23 #[.val (.int p1), .unset, .unset, .unset] [(.ref b2)])) _
    refine XS.dup X11.here hx rfl (hb hby at_23) rfl rfl ?_
    show Steps p.tables e below (T11.setTop (mkF m 24 #[.val (.int p1), .unset, .unset, .unset] [(.ref b2), (.ref b2)])) _
    refine XS.iconst X11.here hx rfl (hb hby at_24) ?_
    show Steps p.tables e below (T11.setTop (mkF m 25 #[.val (.int p1), .unset, .unset, .unset] [(.int (3 : Int32)), (.ref b2), (.ref b2)])) _
    refine st13 _ ?_
    show Steps p.tables e below (T13.setTop (mkF m 28 #[.val (.int p1), .unset, .unset, .unset] [(.ref w12), (.int (3 : Int32)), (.ref b2), (.ref b2)])) _
    refine st14 _ ?_
    show Steps p.tables e below (T14.setTop (mkF m 29 #[.val (.int p1), .unset, .unset, .unset] [(.ref b2)])) _
    refine XS.dup X14.here hx rfl (hb hby at_29) rfl rfl ?_
    show Steps p.tables e below (T14.setTop (mkF m 30 #[.val (.int p1), .unset, .unset, .unset] [(.ref b2), (.ref b2)])) _
    refine XS.iconst X14.here hx rfl (hb hby at_30) ?_
    show Steps p.tables e below (T14.setTop (mkF m 31 #[.val (.int p1), .unset, .unset, .unset] [(.int (4 : Int32)), (.ref b2), (.ref b2)])) _
    refine st16 _ ?_
    show Steps p.tables e below (T16.setTop (mkF m 34 #[.val (.int p1), .unset, .unset, .unset] [(.ref w15), (.int (4 : Int32)), (.ref b2), (.ref b2)])) _
    refine st17 _ ?_
    show Steps p.tables e below (T17.setTop (mkF m 35 #[.val (.int p1), .unset, .unset, .unset] [(.ref b2)])) _
    refine XS.dup X17.here hx rfl (hb hby at_35) rfl rfl ?_
    show Steps p.tables e below (T17.setTop (mkF m 36 #[.val (.int p1), .unset, .unset, .unset] [(.ref b2), (.ref b2)])) _
    refine XS.iconst X17.here hx rfl (hb hby at_36) ?_
    show Steps p.tables e below (T17.setTop (mkF m 37 #[.val (.int p1), .unset, .unset, .unset] [(.int (5 : Int32)), (.ref b2), (.ref b2)])) _
    refine st19 _ ?_
    show Steps p.tables e below (T19.setTop (mkF m 40 #[.val (.int p1), .unset, .unset, .unset] [(.ref w18), (.int (5 : Int32)), (.ref b2), (.ref b2)])) _
    refine st20 _ ?_
    show Steps p.tables e below (T20.setTop (mkF m 41 #[.val (.int p1), .unset, .unset, .unset] [(.ref b2)])) _
    refine XS.dup X20.here hx rfl (hb hby at_41) rfl rfl ?_
    show Steps p.tables e below (T20.setTop (mkF m 42 #[.val (.int p1), .unset, .unset, .unset] [(.ref b2), (.ref b2)])) _
    refine XS.bipush X20.here hx rfl (hb hby at_42) ?_
    show Steps p.tables e below (T20.setTop (mkF m 44 #[.val (.int p1), .unset, .unset, .unset] [(.int (6 : Int32)), (.ref b2), (.ref b2)])) _
    refine st22 _ ?_
    show Steps p.tables e below (T22.setTop (mkF m 47 #[.val (.int p1), .unset, .unset, .unset] [(.ref w21), (.int (6 : Int32)), (.ref b2), (.ref b2)])) _
    refine st23 _ ?_
    show Steps p.tables e below (T23.setTop (mkF m 48 #[.val (.int p1), .unset, .unset, .unset] [(.ref b2)])) _
    refine XS.dup X23.here hx rfl (hb hby at_48) rfl rfl ?_
    show Steps p.tables e below (T23.setTop (mkF m 49 #[.val (.int p1), .unset, .unset, .unset] [(.ref b2), (.ref b2)])) _
    refine XS.bipush X23.here hx rfl (hb hby at_49) ?_
    show Steps p.tables e below (T23.setTop (mkF m 51 #[.val (.int p1), .unset, .unset, .unset] [(.int (7 : Int32)), (.ref b2), (.ref b2)])) _
    refine st25 _ ?_
    show Steps p.tables e below (T25.setTop (mkF m 54 #[.val (.int p1), .unset, .unset, .unset] [(.ref w24), (.int (7 : Int32)), (.ref b2), (.ref b2)])) _
    refine st26 _ ?_
    show Steps p.tables e below (T26.setTop (mkF m 55 #[.val (.int p1), .unset, .unset, .unset] [(.ref b2)])) _
    refine XS.dup X26.here hx rfl (hb hby at_55) rfl rfl ?_
    show Steps p.tables e below (T26.setTop (mkF m 56 #[.val (.int p1), .unset, .unset, .unset] [(.ref b2), (.ref b2)])) _
    refine XS.bipush X26.here hx rfl (hb hby at_56) ?_
    show Steps p.tables e below (T26.setTop (mkF m 58 #[.val (.int p1), .unset, .unset, .unset] [(.int (8 : Int32)), (.ref b2), (.ref b2)])) _
    refine st28 _ ?_
    show Steps p.tables e below (T28.setTop (mkF m 61 #[.val (.int p1), .unset, .unset, .unset] [(.ref w27), (.int (8 : Int32)), (.ref b2), (.ref b2)])) _
    refine st29 _ ?_
    show Steps p.tables e below (T29.setTop (mkF m 62 #[.val (.int p1), .unset, .unset, .unset] [(.ref b2)])) _
    refine XS.dup X29.here hx rfl (hb hby at_62) rfl rfl ?_
    show Steps p.tables e below (T29.setTop (mkF m 63 #[.val (.int p1), .unset, .unset, .unset] [(.ref b2), (.ref b2)])) _
    refine XS.bipush X29.here hx rfl (hb hby at_63) ?_
    show Steps p.tables e below (T29.setTop (mkF m 65 #[.val (.int p1), .unset, .unset, .unset] [(.int (9 : Int32)), (.ref b2), (.ref b2)])) _
    refine st31 _ ?_
    show Steps p.tables e below (T31.setTop (mkF m 68 #[.val (.int p1), .unset, .unset, .unset] [(.ref w30), (.int (9 : Int32)), (.ref b2), (.ref b2)])) _
    refine st32 _ ?_
    show Steps p.tables e below (T32.setTop (mkF m 69 #[.val (.int p1), .unset, .unset, .unset] [(.ref b2)])) _
    refine XS.dup X32.here hx rfl (hb hby at_69) rfl rfl ?_
    show Steps p.tables e below (T32.setTop (mkF m 70 #[.val (.int p1), .unset, .unset, .unset] [(.ref b2), (.ref b2)])) _
    refine XS.bipush X32.here hx rfl (hb hby at_70) ?_
    show Steps p.tables e below (T32.setTop (mkF m 72 #[.val (.int p1), .unset, .unset, .unset] [(.int (10 : Int32)), (.ref b2), (.ref b2)])) _
    refine st34 _ ?_
    show Steps p.tables e below (T34.setTop (mkF m 75 #[.val (.int p1), .unset, .unset, .unset] [(.ref w33), (.int (10 : Int32)), (.ref b2), (.ref b2)])) _
    refine st35 _ ?_
    show Steps p.tables e below (T35.setTop (mkF m 76 #[.val (.int p1), .unset, .unset, .unset] [(.ref b2)])) _
    refine XS.dup X35.here hx rfl (hb hby at_76) rfl rfl ?_
    show Steps p.tables e below (T35.setTop (mkF m 77 #[.val (.int p1), .unset, .unset, .unset] [(.ref b2), (.ref b2)])) _
    refine XS.bipush X35.here hx rfl (hb hby at_77) ?_
    show Steps p.tables e below (T35.setTop (mkF m 79 #[.val (.int p1), .unset, .unset, .unset] [(.int (11 : Int32)), (.ref b2), (.ref b2)])) _
    refine st37 _ ?_
    show Steps p.tables e below (T37.setTop (mkF m 82 #[.val (.int p1), .unset, .unset, .unset] [(.ref w36), (.int (11 : Int32)), (.ref b2), (.ref b2)])) _
    refine st38 _ ?_
    show Steps p.tables e below (T38.setTop (mkF m 83 #[.val (.int p1), .unset, .unset, .unset] [(.ref b2)])) _
    refine XS.dup X38.here hx rfl (hb hby at_83) rfl rfl ?_
    show Steps p.tables e below (T38.setTop (mkF m 84 #[.val (.int p1), .unset, .unset, .unset] [(.ref b2), (.ref b2)])) _
    refine XS.bipush X38.here hx rfl (hb hby at_84) ?_
    show Steps p.tables e below (T38.setTop (mkF m 86 #[.val (.int p1), .unset, .unset, .unset] [(.int (12 : Int32)), (.ref b2), (.ref b2)])) _
    refine st40 _ ?_
    show Steps p.tables e below (T40.setTop (mkF m 89 #[.val (.int p1), .unset, .unset, .unset] [(.ref w39), (.int (12 : Int32)), (.ref b2), (.ref b2)])) _
    refine st41 _ ?_
    show Steps p.tables e below (T41.setTop (mkF m 90 #[.val (.int p1), .unset, .unset, .unset] [(.ref b2)])) _
    refine XS.dup X41.here hx rfl (hb hby at_90) rfl rfl ?_
    show Steps p.tables e below (T41.setTop (mkF m 91 #[.val (.int p1), .unset, .unset, .unset] [(.ref b2), (.ref b2)])) _
    refine XS.bipush X41.here hx rfl (hb hby at_91) ?_
    show Steps p.tables e below (T41.setTop (mkF m 93 #[.val (.int p1), .unset, .unset, .unset] [(.int (13 : Int32)), (.ref b2), (.ref b2)])) _
    refine st43 _ ?_
    show Steps p.tables e below (T43.setTop (mkF m 96 #[.val (.int p1), .unset, .unset, .unset] [(.ref w42), (.int (13 : Int32)), (.ref b2), (.ref b2)])) _
    refine st44 _ ?_
    show Steps p.tables e below (T44.setTop (mkF m 97 #[.val (.int p1), .unset, .unset, .unset] [(.ref b2)])) _
    refine XS.astoreN X44.here hx rfl (hb hby at_97) rfl rfl (l' := #[.val (.int p1), .val (.ref b2), .unset, .unset]) rfl ?_
    show Steps p.tables e below (T44.setTop (mkF m 98 #[.val (.int p1), .val (.ref b2), .unset, .unset] [])) _
    refine XS.iloadN X44.here hx rfl (hb hby at_98) rfl ?_
    show Steps p.tables e below (T44.setTop (mkF m 99 #[.val (.int p1), .val (.ref b2), .unset, .unset] [(.int p1)])) _
    refine X44.ldcInt hx hown (mvT hZ (hw _ (List.mem_of_getElem? (i := 32) rfl))) (g := (mkF m 99 #[.val (.int p1), .val (.ref b2), .unset, .unset] [(.int p1)])) rfl (hb hby at_99) _ ?_
    show Steps p.tables e below (T44.setTop (mkF m 101 #[.val (.int p1), .val (.ref b2), .unset, .unset] [(.int (2147483647 : Int32)), (.int p1)])) _
    refine XS.iand X44.here hx rfl (hb hby at_101) rfl ?_
    show Steps p.tables e below (T44.setTop (mkF m 102 #[.val (.int p1), .val (.ref b2), .unset, .unset] [(.int (p1 &&& (2147483647 : Int32)))])) _
    refine XS.bipush X44.here hx rfl (hb hby at_102) ?_
    show Steps p.tables e below (T44.setTop (mkF m 104 #[.val (.int p1), .val (.ref b2), .unset, .unset] [(.int (14 : Int32)), (.int (p1 &&& (2147483647 : Int32)))])) _
    refine XS.irem X44.here hx rfl (hb hby at_104) rfl hnz104 ?_
    show Steps p.tables e below (T44.setTop (mkF m 105 #[.val (.int p1), .val (.ref b2), .unset, .unset] [(.int (own_i p1))])) _
    refine XS.istoreN X44.here hx rfl (hb hby at_105) rfl (l' := #[.val (.int p1), .val (.ref b2), .val (.int (own_i p1)), .unset]) rfl ?_
    show Steps p.tables e below (T44.setTop (mkF m 106 #[.val (.int p1), .val (.ref b2), .val (.int (own_i p1)), .unset] [])) _
    refine XS.iloadN X44.here hx rfl (hb hby at_106) rfl ?_
    show Steps p.tables e below (T44.setTop (mkF m 107 #[.val (.int p1), .val (.ref b2), .val (.int (own_i p1)), .unset] [(.int (own_i p1))])) _
    refine XS.iconst X44.here hx rfl (hb hby at_107) ?_
    show Steps p.tables e below (T44.setTop (mkF m 108 #[.val (.int p1), .val (.ref b2), .val (.int (own_i p1)), .unset] [(.int (2 : Int32)), (.int (own_i p1))])) _
    refine XS.icmpYes X44.here hx rfl (pc0 := 108) (pc' := 121) rfl (hb hby at_108) rfl (tlt hc108).1 (by decide) (by decide) ?_
    show Steps p.tables e below (T44.setTop (mkF m 121 #[.val (.int p1), .val (.ref b2), .val (.int (own_i p1)), .unset] [])) _
    refine XS.iconst X44.here hx rfl (hb hby at_121) ?_
    show Steps p.tables e below (T44.setTop (mkF m 122 #[.val (.int p1), .val (.ref b2), .val (.int (own_i p1)), .unset] [(.int (0 : Int32))])) _
    refine XS.istoreN X44.here hx rfl (hb hby at_122) rfl (l' := #[.val (.int p1), .val (.ref b2), .val (.int (own_i p1)), .val (.int (0 : Int32))]) rfl ?_
    show Steps p.tables e below (T44.setTop (mkF m 123 #[.val (.int p1), .val (.ref b2), .val (.int (own_i p1)), .val (.int (0 : Int32))] [])) _
    refine XS.aloadN X44.here hx rfl (hb hby at_123) rfl rfl ?_
    show Steps p.tables e below (T44.setTop (mkF m 124 #[.val (.int p1), .val (.ref b2), .val (.int (own_i p1)), .val (.int (0 : Int32))] [(.ref b2)])) _
    refine XS.iloadN X44.here hx rfl (hb hby at_124) rfl ?_
    show Steps p.tables e below (T44.setTop (mkF m 125 #[.val (.int p1), .val (.ref b2), .val (.int (own_i p1)), .val (.int (0 : Int32))] [(.int (own_i p1)), (.ref b2)])) _
    refine X44.aaload hx (j := (own_i p1)) (v := (.ref w45)) (by rw [e44]; exact Ar_b2.1) (State.isArrayOf_alike hZ.alike Ar_b2.2.1) rfl Ar_b2.2.2 hin125 hat125 (g := (mkF m 125 #[.val (.int p1), .val (.ref b2), .val (.int (own_i p1)), .val (.int (0 : Int32))] [(.int (own_i p1)), (.ref b2)])) rfl rfl (hb hby at_125) _ ?_
    show Steps p.tables e below (T44.setTop (mkF m 126 #[.val (.int p1), .val (.ref b2), .val (.int (own_i p1)), .val (.int (0 : Int32))] [(.ref w45)])) _
    refine st46.trans ?_
    show Steps p.tables e below (T46.setTop (mkF m 129 #[.val (.int p1), .val (.ref b2), .val (.int (own_i p1)), .val (.int (0 : Int32))] [(.int (own_cmp (own_i p1)))])) _
    refine XS.iloadN X46.here hx rfl (hb hby at_129) rfl ?_
    show Steps p.tables e below (T46.setTop (mkF m 130 #[.val (.int p1), .val (.ref b2), .val (.int (own_i p1)), .val (.int (0 : Int32))] [(.int (0 : Int32)), (.int (own_cmp (own_i p1)))])) _
    refine XS.icmpNo X46.here hx rfl (hb hby at_130) rfl (teq (own_cmp_lo hc108 : (own_cmp (own_i p1)) = (0 : Int32))).2 ?_
    show Steps p.tables e below (T46.setTop (mkF m 133 #[.val (.int p1), .val (.ref b2), .val (.int (own_i p1)), .val (.int (0 : Int32))] [])) _
    refine XS.iconst X46.here hx rfl (hb hby at_133) ?_
    show Steps p.tables e below (T46.setTop (mkF m 134 #[.val (.int p1), .val (.ref b2), .val (.int (own_i p1)), .val (.int (0 : Int32))] [(.int (1 : Int32))])) _
    refine XS.goto X46.here hx rfl (pc0 := 134) (pc' := 138) rfl (hb hby at_134) (by decide) (by decide) ?_
    show Steps p.tables e below (T46.setTop (mkF m 138 #[.val (.int p1), .val (.ref b2), .val (.int (own_i p1)), .val (.int (0 : Int32))] [(.int (1 : Int32))])) _
    exact retN X46 hx (t := .boolean) Bd.returns (by simp) (hb hby at_138) hr
  · show Q0 Z p1 w3 w6 w9 w12 w15 w18 w21 w24 w27 w30 w33 w36 w39 w42 h0 n0 _ T46.heap _
    exact ⟨rfl, N46⟩
set_option maxRecDepth 65536 in
set_option maxHeartbeats 40000000 in
theorem rm0_ftf (l : Launch) (Z : State) (a0 : Array Value) (hw : ∀ d ∈ tables_1, d.before a0 Z = true) (ws : List Jvm.Cond) (p1 : Int32) (w3 : Addr) (w6 : Addr) (w9 : Addr) (w12 : Addr) (w15 : Addr) (w18 : Addr) (w21 : Addr) (w24 : Addr) (w27 : Addr) (w30 : Addr) (w33 : Addr) (w36 : Addr) (w39 : Addr) (w42 : Addr) (h0 : Heap) (n0 : Nat) (Z0 : n0 ≤ h0.size) (S_OR : Sta Z h0 "com/example/whence/whence/sql/Expression$Binary$Operator" "OR" "Lcom/example/whence/whence/sql/Expression$Binary$Operator;" (.ref w3)) (P_0 : own_ord Z h0 w3 0) (S_AND : Sta Z h0 "com/example/whence/whence/sql/Expression$Binary$Operator" "AND" "Lcom/example/whence/whence/sql/Expression$Binary$Operator;" (.ref w6)) (P_1 : own_ord Z h0 w6 1) (S_EQUAL : Sta Z h0 "com/example/whence/whence/sql/Expression$Binary$Operator" "EQUAL" "Lcom/example/whence/whence/sql/Expression$Binary$Operator;" (.ref w9)) (P_2 : own_ord Z h0 w9 2) (S_NOT_EQUAL : Sta Z h0 "com/example/whence/whence/sql/Expression$Binary$Operator" "NOT_EQUAL" "Lcom/example/whence/whence/sql/Expression$Binary$Operator;" (.ref w12)) (P_3 : own_ord Z h0 w12 3) (S_LESS : Sta Z h0 "com/example/whence/whence/sql/Expression$Binary$Operator" "LESS" "Lcom/example/whence/whence/sql/Expression$Binary$Operator;" (.ref w15)) (P_4 : own_ord Z h0 w15 4) (S_LESS_OR_EQUAL : Sta Z h0 "com/example/whence/whence/sql/Expression$Binary$Operator" "LESS_OR_EQUAL" "Lcom/example/whence/whence/sql/Expression$Binary$Operator;" (.ref w18)) (P_5 : own_ord Z h0 w18 5) (S_GREATER : Sta Z h0 "com/example/whence/whence/sql/Expression$Binary$Operator" "GREATER" "Lcom/example/whence/whence/sql/Expression$Binary$Operator;" (.ref w21)) (P_6 : own_ord Z h0 w21 6) (S_GREATER_OR_EQUAL : Sta Z h0 "com/example/whence/whence/sql/Expression$Binary$Operator" "GREATER_OR_EQUAL" "Lcom/example/whence/whence/sql/Expression$Binary$Operator;" (.ref w24)) (P_7 : own_ord Z h0 w24 7) (S_ADD : Sta Z h0 "com/example/whence/whence/sql/Expression$Binary$Operator" "ADD" "Lcom/example/whence/whence/sql/Expression$Binary$Operator;" (.ref w27)) (P_8 : own_ord Z h0 w27 8) (S_SUBTRACT : Sta Z h0 "com/example/whence/whence/sql/Expression$Binary$Operator" "SUBTRACT" "Lcom/example/whence/whence/sql/Expression$Binary$Operator;" (.ref w30)) (P_9 : own_ord Z h0 w30 9) (S_MULTIPLY : Sta Z h0 "com/example/whence/whence/sql/Expression$Binary$Operator" "MULTIPLY" "Lcom/example/whence/whence/sql/Expression$Binary$Operator;" (.ref w33)) (P_10 : own_ord Z h0 w33 10) (S_DIVIDE : Sta Z h0 "com/example/whence/whence/sql/Expression$Binary$Operator" "DIVIDE" "Lcom/example/whence/whence/sql/Expression$Binary$Operator;" (.ref w36)) (P_11 : own_ord Z h0 w36 11) (S_MODULO : Sta Z h0 "com/example/whence/whence/sql/Expression$Binary$Operator" "MODULO" "Lcom/example/whence/whence/sql/Expression$Binary$Operator;" (.ref w39)) (P_12 : own_ord Z h0 w39 12) (S_CONCATENATE : Sta Z h0 "com/example/whence/whence/sql/Expression$Binary$Operator" "CONCATENATE" "Lcom/example/whence/whence/sql/Expression$Binary$Operator;" (.ref w42)) (P_13 : own_ord Z h0 w42 13) (hnz104 : ¬ ((14 : Int32) = (0 : Int32))) (hc108 : ¬ ((own_i p1) < (2 : Int32))) (hc114 : (7 : Int32) < (own_i p1)) :
    MetFree l x (head1 (Jvm.Cond.code x code maxLocals ret :: ws) room_1) (fun a U => a = #[(.int p1)] ∧ Z.Warmed39 U.vm ∧ U.heap = h0) (fun _ _ _ _ _ => True) (fun _ U o U' => ∃ v L, o = .returned v ∧ Q0 Z p1 w3 w6 w9 w12 w15 w18 w21 w24 w27 w30 w33 w36 w39 w42 h0 n0 v U'.heap L ∧ FrameEnd U o U' L room_1.cells room_1.slots) := by
  refine MetFree.of_bodySF (plainFor_of_name pn_0) hisR ?_
  intro p e s m args below meth c s₁ Bd hml0 hP hK
  obtain ⟨rfl, hZ, hh⟩ := hP
  have hx := Bd.exec
  have hby := Bd.bytes
  have hml : c.maxLocals = 4 := hml0
  have hown : s.vm.findClass "com/example/whence/whence/sql/OperatorIsComparisonPinLaw" = some m.cls := findClass_of_methodNamed Bd.named
  have hnm := (name_of_methodNamed Bd.named Bd.method).1
  have X0 : Stand p l e room_1 s m #[(.int p1)] below meth c s₁ [] 0 0 := Stand.of_body Bd
  have e0 : s₁.heap = h0 := by rw [← hh, Bd.state]; rfl
  have N0 := Fr.nil n0
  have pre0 : ∀ t, Steps p.tables e below (s₁.setTop (mkF m 0 #[.val (.int p1), .unset, .unset, .unset] [])) t → Steps p.tables e below (s₁.setTop (entryFrame m #[(.int p1)] maxLocals)) t := fun t k => castTop (ef_0 m p1) k
  obtain ⟨T2, h2, k2, X2, e2, E2, A2, O2, st2⟩ := newR X0 hx hZ hown (hw _ (List.mem_of_getElem? (i := 0) rfl)) (hw _ (List.mem_of_getElem? (i := 1) rfl)) e0 (g := (mkF m 2 #[.val (.int p1), .unset, .unset, .unset] [(.int (14 : Int32))])) rfl (hb hby at_2) rfl (by decide) (cap := 14) (by decide) (by decide) (by decide) (by decide)
  obtain ⟨b2, g2⟩ : ∃ z, z = h0.size := ⟨_, rfl⟩      -- the fresh array's address
  rw [← g2] at A2 st2
  have V_2 : Arv Z h2 b2 k2 (.object "com/example/whence/whence/sql/Expression$Binary$Operator") (14 : Int32) (List.replicate 14 .null) .null := (Arv.new A2 (by decide)).pad (pad_rep [] .null 14)      -- Arv Z h2 b2 k2 (.object "com/example/whence/whence/sql/Expression$Binary$Operator") (14 : Int32) [] .null; O2: what may lie in it (Sto.ofV)
  have g_b2 : n0 ≤ b2 := Nat.le_trans Z0 (Nat.le_of_eq g2.symm)
  have sz_b2 : h0.size ≤ b2 := (Nat.le_trans (Keep.refl h0 []).1 (Nat.le_of_eq g2.symm))
  have K2 : Keep h0 h2 [] := (Keep.refl h0 []).ext E2
  obtain ⟨T4, X4, e4, st4⟩ := getS2 X2 hx hZ hown (host := "") (Or.inl (hw _ (List.mem_of_getElem? (i := 2) rfl))) Via.refl e2 (S_OR.ext E2) (g := (mkF m 7 #[.val (.int p1), .unset, .unset, .unset] [(.int (0 : Int32)), (.ref b2), (.ref b2)])) rfl (hb hby at_7)
  obtain ⟨cl2, Ar2, qq2, SS2, NN2, HH2, GG2⟩ := V_2
  obtain ⟨T5, h5, X5, e5, W5, st5⟩ := stR X4 hx hZ e4 Ar2 (j := (0 : Int32)) (inb_of SS2 ⟨by decide, by decide⟩) rfl (Sto.ofV Ar2 qq2 O2 (Ins.self (P_0.1.keep K2))) (g := (mkF m 10 #[.val (.int p1), .unset, .unset, .unset] [(.ref w3), (.int (0 : Int32)), (.ref b2), (.ref b2)])) rfl rfl (hb hby at_10)
  have V_5 := Arv.set Ar2 qq2 SS2 NN2 HH2 GG2 rfl W5 0 rfl (Nat.le_of_ble_eq_true rfl)
  have N5 := Fr.snoc X5 N0 g_b2
  have K5 : Keep h0 h5 [] := K2.wr W5 (Or.inr sz_b2)
  obtain ⟨T7, X7, e7, st7⟩ := getS2 X5 hx hZ hown (host := "") (Or.inl (hw _ (List.mem_of_getElem? (i := 6) rfl))) Via.refl e5 ((S_AND.ext E2).wr W5) (g := (mkF m 13 #[.val (.int p1), .unset, .unset, .unset] [(.int (1 : Int32)), (.ref b2), (.ref b2)])) rfl (hb hby at_13)
  obtain ⟨cl5, Ar5, qq5, SS5, NN5, HH5, GG5⟩ := V_5
  obtain ⟨T8, h8, X8, e8, W8, st8⟩ := stR X7 hx hZ e7 Ar5 (j := (1 : Int32)) (inb_of SS5 ⟨by decide, by decide⟩) rfl (Sto.ofV Ar5 qq5 O2 (Ins.self (P_1.1.keep K5))) (g := (mkF m 16 #[.val (.int p1), .unset, .unset, .unset] [(.ref w6), (.int (1 : Int32)), (.ref b2), (.ref b2)])) rfl rfl (hb hby at_16)
  have V_8 := Arv.set Ar5 qq5 SS5 NN5 HH5 GG5 rfl W8 1 rfl (Nat.le_of_ble_eq_true rfl)
  have N8 := Fr.snoc X8 N5 g_b2
  have K8 : Keep h0 h8 [] := K5.wr W8 (Or.inr sz_b2)
  obtain ⟨T10, X10, e10, st10⟩ := getS2 X8 hx hZ hown (host := "") (Or.inl (hw _ (List.mem_of_getElem? (i := 8) rfl))) Via.refl e8 (((S_EQUAL.ext E2).wr W5).wr W8) (g := (mkF m 19 #[.val (.int p1), .unset, .unset, .unset] [(.int (2 : Int32)), (.ref b2), (.ref b2)])) rfl (hb hby at_19)
  obtain ⟨cl8, Ar8, qq8, SS8, NN8, HH8, GG8⟩ := V_8
  obtain ⟨T11, h11, X11, e11, W11, st11⟩ := stR X10 hx hZ e10 Ar8 (j := (2 : Int32)) (inb_of SS8 ⟨by decide, by decide⟩) rfl (Sto.ofV Ar8 qq8 O2 (Ins.self (P_2.1.keep K8))) (g := (mkF m 22 #[.val (.int p1), .unset, .unset, .unset] [(.ref w9), (.int (2 : Int32)), (.ref b2), (.ref b2)])) rfl rfl (hb hby at_22)
  have V_11 := Arv.set Ar8 qq8 SS8 NN8 HH8 GG8 rfl W11 2 rfl (Nat.le_of_ble_eq_true rfl)
  have N11 := Fr.snoc X11 N8 g_b2
  have K11 : Keep h0 h11 [] := K8.wr W11 (Or.inr sz_b2)
  obtain ⟨T13, X13, e13, st13⟩ := getS2 X11 hx hZ hown (host := "") (Or.inl (hw _ (List.mem_of_getElem? (i := 10) rfl))) Via.refl e11 ((((S_NOT_EQUAL.ext E2).wr W5).wr W8).wr W11) (g := (mkF m 25 #[.val (.int p1), .unset, .unset, .unset] [(.int (3 : Int32)), (.ref b2), (.ref b2)])) rfl (hb hby at_25)
  obtain ⟨cl11, Ar11, qq11, SS11, NN11, HH11, GG11⟩ := V_11
  obtain ⟨T14, h14, X14, e14, W14, st14⟩ := stR X13 hx hZ e13 Ar11 (j := (3 : Int32)) (inb_of SS11 ⟨by decide, by decide⟩) rfl (Sto.ofV Ar11 qq11 O2 (Ins.self (P_3.1.keep K11))) (g := (mkF m 28 #[.val (.int p1), .unset, .unset, .unset] [(.ref w12), (.int (3 : Int32)), (.ref b2), (.ref b2)])) rfl rfl (hb hby at_28)
  have V_14 := Arv.set Ar11 qq11 SS11 NN11 HH11 GG11 rfl W14 3 rfl (Nat.le_of_ble_eq_true rfl)
  have N14 := Fr.snoc X14 N11 g_b2
  have K14 : Keep h0 h14 [] := K11.wr W14 (Or.inr sz_b2)
  obtain ⟨T16, X16, e16, st16⟩ := getS2 X14 hx hZ hown (host := "") (Or.inl (hw _ (List.mem_of_getElem? (i := 12) rfl))) Via.refl e14 (((((S_LESS.ext E2).wr W5).wr W8).wr W11).wr W14) (g := (mkF m 31 #[.val (.int p1), .unset, .unset, .unset] [(.int (4 : Int32)), (.ref b2), (.ref b2)])) rfl (hb hby at_31)
  obtain ⟨cl14, Ar14, qq14, SS14, NN14, HH14, GG14⟩ := V_14
  obtain ⟨T17, h17, X17, e17, W17, st17⟩ := stR X16 hx hZ e16 Ar14 (j := (4 : Int32)) (inb_of SS14 ⟨by decide, by decide⟩) rfl (Sto.ofV Ar14 qq14 O2 (Ins.self (P_4.1.keep K14))) (g := (mkF m 34 #[.val (.int p1), .unset, .unset, .unset] [(.ref w15), (.int (4 : Int32)), (.ref b2), (.ref b2)])) rfl rfl (hb hby at_34)
  have V_17 := Arv.set Ar14 qq14 SS14 NN14 HH14 GG14 rfl W17 4 rfl (Nat.le_of_ble_eq_true rfl)
  have N17 := Fr.snoc X17 N14 g_b2
  have K17 : Keep h0 h17 [] := K14.wr W17 (Or.inr sz_b2)
  obtain ⟨T19, X19, e19, st19⟩ := getS2 X17 hx hZ hown (host := "") (Or.inl (hw _ (List.mem_of_getElem? (i := 14) rfl))) Via.refl e17 ((((((S_LESS_OR_EQUAL.ext E2).wr W5).wr W8).wr W11).wr W14).wr W17) (g := (mkF m 37 #[.val (.int p1), .unset, .unset, .unset] [(.int (5 : Int32)), (.ref b2), (.ref b2)])) rfl (hb hby at_37)
  obtain ⟨cl17, Ar17, qq17, SS17, NN17, HH17, GG17⟩ := V_17
  obtain ⟨T20, h20, X20, e20, W20, st20⟩ := stR X19 hx hZ e19 Ar17 (j := (5 : Int32)) (inb_of SS17 ⟨by decide, by decide⟩) rfl (Sto.ofV Ar17 qq17 O2 (Ins.self (P_5.1.keep K17))) (g := (mkF m 40 #[.val (.int p1), .unset, .unset, .unset] [(.ref w18), (.int (5 : Int32)), (.ref b2), (.ref b2)])) rfl rfl (hb hby at_40)
  have V_20 := Arv.set Ar17 qq17 SS17 NN17 HH17 GG17 rfl W20 5 rfl (Nat.le_of_ble_eq_true rfl)
  have N20 := Fr.snoc X20 N17 g_b2
  have K20 : Keep h0 h20 [] := K17.wr W20 (Or.inr sz_b2)
  obtain ⟨T22, X22, e22, st22⟩ := getS2 X20 hx hZ hown (host := "") (Or.inl (hw _ (List.mem_of_getElem? (i := 16) rfl))) Via.refl e20 (((((((S_GREATER.ext E2).wr W5).wr W8).wr W11).wr W14).wr W17).wr W20) (g := (mkF m 44 #[.val (.int p1), .unset, .unset, .unset] [(.int (6 : Int32)), (.ref b2), (.ref b2)])) rfl (hb hby at_44)
  obtain ⟨cl20, Ar20, qq20, SS20, NN20, HH20, GG20⟩ := V_20
  obtain ⟨T23, h23, X23, e23, W23, st23⟩ := stR X22 hx hZ e22 Ar20 (j := (6 : Int32)) (inb_of SS20 ⟨by decide, by decide⟩) rfl (Sto.ofV Ar20 qq20 O2 (Ins.self (P_6.1.keep K20))) (g := (mkF m 47 #[.val (.int p1), .unset, .unset, .unset] [(.ref w21), (.int (6 : Int32)), (.ref b2), (.ref b2)])) rfl rfl (hb hby at_47)
  have V_23 := Arv.set Ar20 qq20 SS20 NN20 HH20 GG20 rfl W23 6 rfl (Nat.le_of_ble_eq_true rfl)
  have N23 := Fr.snoc X23 N20 g_b2
  have K23 : Keep h0 h23 [] := K20.wr W23 (Or.inr sz_b2)
  obtain ⟨T25, X25, e25, st25⟩ := getS2 X23 hx hZ hown (host := "") (Or.inl (hw _ (List.mem_of_getElem? (i := 18) rfl))) Via.refl e23 ((((((((S_GREATER_OR_EQUAL.ext E2).wr W5).wr W8).wr W11).wr W14).wr W17).wr W20).wr W23) (g := (mkF m 51 #[.val (.int p1), .unset, .unset, .unset] [(.int (7 : Int32)), (.ref b2), (.ref b2)])) rfl (hb hby at_51)
  obtain ⟨cl23, Ar23, qq23, SS23, NN23, HH23, GG23⟩ := V_23
  obtain ⟨T26, h26, X26, e26, W26, st26⟩ := stR X25 hx hZ e25 Ar23 (j := (7 : Int32)) (inb_of SS23 ⟨by decide, by decide⟩) rfl (Sto.ofV Ar23 qq23 O2 (Ins.self (P_7.1.keep K23))) (g := (mkF m 54 #[.val (.int p1), .unset, .unset, .unset] [(.ref w24), (.int (7 : Int32)), (.ref b2), (.ref b2)])) rfl rfl (hb hby at_54)
  have V_26 := Arv.set Ar23 qq23 SS23 NN23 HH23 GG23 rfl W26 7 rfl (Nat.le_of_ble_eq_true rfl)
  have N26 := Fr.snoc X26 N23 g_b2
  have K26 : Keep h0 h26 [] := K23.wr W26 (Or.inr sz_b2)
  obtain ⟨T28, X28, e28, st28⟩ := getS2 X26 hx hZ hown (host := "") (Or.inl (hw _ (List.mem_of_getElem? (i := 20) rfl))) Via.refl e26 (((((((((S_ADD.ext E2).wr W5).wr W8).wr W11).wr W14).wr W17).wr W20).wr W23).wr W26) (g := (mkF m 58 #[.val (.int p1), .unset, .unset, .unset] [(.int (8 : Int32)), (.ref b2), (.ref b2)])) rfl (hb hby at_58)
  obtain ⟨cl26, Ar26, qq26, SS26, NN26, HH26, GG26⟩ := V_26
  obtain ⟨T29, h29, X29, e29, W29, st29⟩ := stR X28 hx hZ e28 Ar26 (j := (8 : Int32)) (inb_of SS26 ⟨by decide, by decide⟩) rfl (Sto.ofV Ar26 qq26 O2 (Ins.self (P_8.1.keep K26))) (g := (mkF m 61 #[.val (.int p1), .unset, .unset, .unset] [(.ref w27), (.int (8 : Int32)), (.ref b2), (.ref b2)])) rfl rfl (hb hby at_61)
  have V_29 := Arv.set Ar26 qq26 SS26 NN26 HH26 GG26 rfl W29 8 rfl (Nat.le_of_ble_eq_true rfl)
  have N29 := Fr.snoc X29 N26 g_b2
  have K29 : Keep h0 h29 [] := K26.wr W29 (Or.inr sz_b2)
  obtain ⟨T31, X31, e31, st31⟩ := getS2 X29 hx hZ hown (host := "") (Or.inl (hw _ (List.mem_of_getElem? (i := 22) rfl))) Via.refl e29 ((((((((((S_SUBTRACT.ext E2).wr W5).wr W8).wr W11).wr W14).wr W17).wr W20).wr W23).wr W26).wr W29) (g := (mkF m 65 #[.val (.int p1), .unset, .unset, .unset] [(.int (9 : Int32)), (.ref b2), (.ref b2)])) rfl (hb hby at_65)
  obtain ⟨cl29, Ar29, qq29, SS29, NN29, HH29, GG29⟩ := V_29
  obtain ⟨T32, h32, X32, e32, W32, st32⟩ := stR X31 hx hZ e31 Ar29 (j := (9 : Int32)) (inb_of SS29 ⟨by decide, by decide⟩) rfl (Sto.ofV Ar29 qq29 O2 (Ins.self (P_9.1.keep K29))) (g := (mkF m 68 #[.val (.int p1), .unset, .unset, .unset] [(.ref w30), (.int (9 : Int32)), (.ref b2), (.ref b2)])) rfl rfl (hb hby at_68)
  have V_32 := Arv.set Ar29 qq29 SS29 NN29 HH29 GG29 rfl W32 9 rfl (Nat.le_of_ble_eq_true rfl)
  have N32 := Fr.snoc X32 N29 g_b2
  have K32 : Keep h0 h32 [] := K29.wr W32 (Or.inr sz_b2)
  obtain ⟨T34, X34, e34, st34⟩ := getS2 X32 hx hZ hown (host := "") (Or.inl (hw _ (List.mem_of_getElem? (i := 24) rfl))) Via.refl e32 (((((((((((S_MULTIPLY.ext E2).wr W5).wr W8).wr W11).wr W14).wr W17).wr W20).wr W23).wr W26).wr W29).wr W32) (g := (mkF m 72 #[.val (.int p1), .unset, .unset, .unset] [(.int (10 : Int32)), (.ref b2), (.ref b2)])) rfl (hb hby at_72)
  obtain ⟨cl32, Ar32, qq32, SS32, NN32, HH32, GG32⟩ := V_32
  obtain ⟨T35, h35, X35, e35, W35, st35⟩ := stR X34 hx hZ e34 Ar32 (j := (10 : Int32)) (inb_of SS32 ⟨by decide, by decide⟩) rfl (Sto.ofV Ar32 qq32 O2 (Ins.self (P_10.1.keep K32))) (g := (mkF m 75 #[.val (.int p1), .unset, .unset, .unset] [(.ref w33), (.int (10 : Int32)), (.ref b2), (.ref b2)])) rfl rfl (hb hby at_75)
  have V_35 := Arv.set Ar32 qq32 SS32 NN32 HH32 GG32 rfl W35 10 rfl (Nat.le_of_ble_eq_true rfl)
  have N35 := Fr.snoc X35 N32 g_b2
  have K35 : Keep h0 h35 [] := K32.wr W35 (Or.inr sz_b2)
  obtain ⟨T37, X37, e37, st37⟩ := getS2 X35 hx hZ hown (host := "") (Or.inl (hw _ (List.mem_of_getElem? (i := 26) rfl))) Via.refl e35 ((((((((((((S_DIVIDE.ext E2).wr W5).wr W8).wr W11).wr W14).wr W17).wr W20).wr W23).wr W26).wr W29).wr W32).wr W35) (g := (mkF m 79 #[.val (.int p1), .unset, .unset, .unset] [(.int (11 : Int32)), (.ref b2), (.ref b2)])) rfl (hb hby at_79)
  obtain ⟨cl35, Ar35, qq35, SS35, NN35, HH35, GG35⟩ := V_35
  obtain ⟨T38, h38, X38, e38, W38, st38⟩ := stR X37 hx hZ e37 Ar35 (j := (11 : Int32)) (inb_of SS35 ⟨by decide, by decide⟩) rfl (Sto.ofV Ar35 qq35 O2 (Ins.self (P_11.1.keep K35))) (g := (mkF m 82 #[.val (.int p1), .unset, .unset, .unset] [(.ref w36), (.int (11 : Int32)), (.ref b2), (.ref b2)])) rfl rfl (hb hby at_82)
  have V_38 := Arv.set Ar35 qq35 SS35 NN35 HH35 GG35 rfl W38 11 rfl (Nat.le_of_ble_eq_true rfl)
  have N38 := Fr.snoc X38 N35 g_b2
  have K38 : Keep h0 h38 [] := K35.wr W38 (Or.inr sz_b2)
  obtain ⟨T40, X40, e40, st40⟩ := getS2 X38 hx hZ hown (host := "") (Or.inl (hw _ (List.mem_of_getElem? (i := 28) rfl))) Via.refl e38 (((((((((((((S_MODULO.ext E2).wr W5).wr W8).wr W11).wr W14).wr W17).wr W20).wr W23).wr W26).wr W29).wr W32).wr W35).wr W38) (g := (mkF m 86 #[.val (.int p1), .unset, .unset, .unset] [(.int (12 : Int32)), (.ref b2), (.ref b2)])) rfl (hb hby at_86)
  obtain ⟨cl38, Ar38, qq38, SS38, NN38, HH38, GG38⟩ := V_38
  obtain ⟨T41, h41, X41, e41, W41, st41⟩ := stR X40 hx hZ e40 Ar38 (j := (12 : Int32)) (inb_of SS38 ⟨by decide, by decide⟩) rfl (Sto.ofV Ar38 qq38 O2 (Ins.self (P_12.1.keep K38))) (g := (mkF m 89 #[.val (.int p1), .unset, .unset, .unset] [(.ref w39), (.int (12 : Int32)), (.ref b2), (.ref b2)])) rfl rfl (hb hby at_89)
  have V_41 := Arv.set Ar38 qq38 SS38 NN38 HH38 GG38 rfl W41 12 rfl (Nat.le_of_ble_eq_true rfl)
  have N41 := Fr.snoc X41 N38 g_b2
  have K41 : Keep h0 h41 [] := K38.wr W41 (Or.inr sz_b2)
  obtain ⟨T43, X43, e43, st43⟩ := getS2 X41 hx hZ hown (host := "") (Or.inl (hw _ (List.mem_of_getElem? (i := 30) rfl))) Via.refl e41 ((((((((((((((S_CONCATENATE.ext E2).wr W5).wr W8).wr W11).wr W14).wr W17).wr W20).wr W23).wr W26).wr W29).wr W32).wr W35).wr W38).wr W41) (g := (mkF m 93 #[.val (.int p1), .unset, .unset, .unset] [(.int (13 : Int32)), (.ref b2), (.ref b2)])) rfl (hb hby at_93)
  obtain ⟨cl41, Ar41, qq41, SS41, NN41, HH41, GG41⟩ := V_41
  obtain ⟨T44, h44, X44, e44, W44, st44⟩ := stR X43 hx hZ e43 Ar41 (j := (13 : Int32)) (inb_of SS41 ⟨by decide, by decide⟩) rfl (Sto.ofV Ar41 qq41 O2 (Ins.self (P_13.1.keep K41))) (g := (mkF m 96 #[.val (.int p1), .unset, .unset, .unset] [(.ref w42), (.int (13 : Int32)), (.ref b2), (.ref b2)])) rfl rfl (hb hby at_96)
  have V_44 := Arv.set Ar41 qq41 SS41 NN41 HH41 GG41 rfl W44 13 rfl (Nat.le_of_ble_eq_true rfl)
  have N44 := Fr.snoc X44 N41 g_b2
  have K44 : Keep h0 h44 [] := K41.wr W44 (Or.inr sz_b2)
  have V_e : Arv Z h44 b2 k2 (.object "com/example/whence/whence/sql/Expression$Binary$Operator") (14 : Int32) [.ref w3, .ref w6, .ref w9, .ref w12, .ref w15, .ref w18, .ref w21, .ref w24, .ref w27, .ref w30, .ref w33, .ref w36, .ref w39, .ref w42] .null := V_44
  obtain ⟨cle, Ar_b2, qqe, SSe, NNe, HHe, GGe⟩ := V_e
  obtain ⟨w45, hgd, E_w45, F_w45⟩ := own_pick (P := own_ord Z h0) P_0 P_1 P_2 P_3 P_4 P_5 P_6 P_7 P_8 P_9 P_10 P_11 P_12 P_13 (own_i p1) (own_i_rng p1)
  have hin125 := inb_of SSe (own_i_nn p1)
  have hat125 : cle.slots[(own_i p1).toNatClampNeg]? = some (.ref w45) := (HHe _ (Nat.lt_of_not_le fun q => hin125 (Or.inr q))).trans (congrArg some hgd)
  obtain ⟨cq46, kq46, q46a, q46b, q46c⟩ := isOf hZ e44 (((((((((((((((E_w45.ext E2).wr W5).wr W8).wr W11).wr W14).wr W17).wr W20).wr W23).wr W26).wr W29).wr W32).wr W35).wr W38).wr W41).wr W44)
  obtain ⟨_, _, ⟨T46, L46, k46, n46⟩, -, X46, ⟨Lc46, hQ46, l46, y46, z46⟩, st46⟩ := X44.virtualBack hx (y := (⟨"com/example/whence/whence/sql/Expression$Binary$Operator", "isComparison", "()Z"⟩ : MethodName)) (z := (⟨"com/example/whence/whence/sql/Expression$Binary$Operator", "isComparison", "()Z"⟩ : MethodName)) hown (mvT hZ (hw _ (List.mem_of_getElem? (i := 33) rfl))) (mvT hZ (hw _ (List.mem_of_getElem? (i := 34) rfl))) (notFace_of_selects (args := #[]) (mvT hZ (hw _ (List.mem_of_getElem? (i := 36) rfl)))) (mvT hZ (hw _ (List.mem_of_getElem? (i := 36) rfl))) (mvT hZ (hw _ (List.mem_of_getElem? (i := 35) rfl))) (by decide) (backOf (W := 0) (rm1 l Z a0 hw [] w45 (own_i p1) h44 n0 (Nat.le_trans Z0 K44.1) (E_w45.keep K44) (F_w45.keep K44 List.not_mem_nil)) hZ (hw _ (List.mem_of_getElem? (i := 37) rfl)) (hw _ (List.mem_of_getElem? (i := 3) rfl)) (by decide) (by decide)) q46a q46c (g := (mkF m 126 #[.val (.int p1), .val (.ref b2), .val (.int (own_i p1)), .val (.int (0 : Int32))] [(.ref w45)])) rfl (by rw [hml]; rfl) (Steps.refl _) (argsL := []) (rest := []) (lenOf pd_0_0 rfl) rfl (by show 2 * 0 + _ ≤ _; exact Nat.le_of_eq rfl) (hb hby at_126) (fun _ _ => ⟨rfl, e44, (by decide : 1 + 0 ≤ _), (by decide : 14 + 0 ≤ _)⟩)
  dsimp only [Pt.U, Pt.locs, Pt.cells, Pt.slots] at X46 l46 y46 z46 st46 hQ46
  subst l46 y46 z46
  obtain ⟨rfl, N46q, hh46⟩ := hQ46      -- what it returned, that it wrote nothing old, and the rest of your Q1
  have N46 := Fr.app N44 N46q
  obtain ⟨fs, hr, hrun, hended, hW, hsame⟩ := X46.leave (v := some (.int (1 : Int32))) (fun h => by rw [Bd.returns] at h; cases h)
  refine ⟨_, _, pre0 _ ?_, hrun, hended, _, _, rfl, ?_, ⟨_, rfl⟩, hW, hsame.mono (by decide) (by decide)⟩
  · show Steps p.tables e below (s₁.setTop (mkF m 0 #[.val (.int p1), .unset, .unset, .unset] [])) _
    refine XS.bipush X0.here hx rfl (hb hby at_0) ?_
    show Steps p.tables e below (s₁.setTop (mkF m 2 #[.val (.int p1), .unset, .unset, .unset] [(.int (14 : Int32))])) _
    refine st2 _ ?_
    show Steps p.tables e below (T2.setTop (mkF m 5 #[.val (.int p1), .unset, .unset, .unset] [(.ref b2)])) _
    refine XS.dup X2.here hx rfl (hb hby at_5) rfl rfl ?_
    show Steps p.tables e below (T2.setTop (mkF m 6 #[.val (.int p1), .unset, .unset, .unset] [(.ref b2), (.ref b2)])) _
    refine XS.iconst X2.here hx rfl (hb hby at_6) ?_
    show Steps p.tables e below (T2.setTop (mkF m 7 #[.val (.int p1), .unset, .unset, .unset] [(.int (0 : Int32)), (.ref b2), (.ref b2)])) _
    refine st4 _ ?_
    show Steps p.tables e below (T4.setTop (mkF m 10 #[.val (.int p1), .unset, .unset, .unset] [(.ref w3), (.int (0 : Int32)), (.ref b2), (.ref b2)])) _
    refine st5 _ ?_
    show Steps p.tables e below (T5.setTop (mkF m 11 #[.val (.int p1), .unset, .unset, .unset] [(.ref b2)])) _
    refine XS.dup X5.here hx rfl (hb hby at_11) rfl rfl ?_
    show Steps p.tables e below (T5.setTop (mkF m 12 #[.val (.int p1), .unset, .unset, .unset] [(.ref b2), (.ref b2)])) _
    refine XS.iconst X5.here hx rfl (hb hby at_12) ?_
    show Steps p.tables e below (T5.setTop (mkF m 13 #[.val (.int p1), .unset, .unset, .unset] [(.int (1 : Int32)), (.ref b2), (.ref b2)])) _
    refine st7 _ ?_
    show Steps p.tables e below (T7.setTop (mkF m 16 #[.val (.int p1), .unset, .unset, .unset] [(.ref w6), (.int (1 : Int32)), (.ref b2), (.ref b2)])) _
    refine st8 _ ?_
    show Steps p.tables e below (T8.setTop (mkF m 17 #[.val (.int p1), .unset, .unset, .unset] [(.ref b2)])) _
    refine XS.dup X8.here hx rfl (hb hby at_17) rfl rfl ?_
    show Steps p.tables e below (T8.setTop (mkF m 18 #[.val (.int p1), .unset, .unset, .unset] [(.ref b2), (.ref b2)])) _
    refine XS.iconst X8.here hx rfl (hb hby at_18) ?_
    show Steps p.tables e below (T8.setTop (mkF m 19 #[.val (.int p1), .unset, .unset, .unset] [(.int (2 : Int32)), (.ref b2), (.ref b2)])) _
    refine st10 _ ?_
    show Steps p.tables e below (T10.setTop (mkF m 22 #[.val (.int p1), .unset, .unset, .unset] [(.ref w9), (.int (2 : Int32)), (.ref b2), (.ref b2)])) _
    refine st11 _ ?_
    show Steps p.tables e below (T11.setTop (mkF m 23 #[.val (.int p1), .unset, .unset, .unset] [(.ref b2)])) _
    refine XS.dup X11.here hx rfl (hb hby at_23) rfl rfl ?_
    show Steps p.tables e below (T11.setTop (mkF m 24 #[.val (.int p1), .unset, .unset, .unset] [(.ref b2), (.ref b2)])) _
    refine XS.iconst X11.here hx rfl (hb hby at_24) ?_
    show Steps p.tables e below (T11.setTop (mkF m 25 #[.val (.int p1), .unset, .unset, .unset] [(.int (3 : Int32)), (.ref b2), (.ref b2)])) _
    refine st13 _ ?_
    show Steps p.tables e below (T13.setTop (mkF m 28 #[.val (.int p1), .unset, .unset, .unset] [(.ref w12), (.int (3 : Int32)), (.ref b2), (.ref b2)])) _
    refine st14 _ ?_
    show Steps p.tables e below (T14.setTop (mkF m 29 #[.val (.int p1), .unset, .unset, .unset] [(.ref b2)])) _
    refine XS.dup X14.here hx rfl (hb hby at_29) rfl rfl ?_
    show Steps p.tables e below (T14.setTop (mkF m 30 #[.val (.int p1), .unset, .unset, .unset] [(.ref b2), (.ref b2)])) _
    refine XS.iconst X14.here hx rfl (hb hby at_30) ?_
    show Steps p.tables e below (T14.setTop (mkF m 31 #[.val (.int p1), .unset, .unset, .unset] [(.int (4 : Int32)), (.ref b2), (.ref b2)])) _
    refine st16 _ ?_
    show Steps p.tables e below (T16.setTop (mkF m 34 #[.val (.int p1), .unset, .unset, .unset] [(.ref w15), (.int (4 : Int32)), (.ref b2), (.ref b2)])) _
    refine st17 _ ?_
    show Steps p.tables e below (T17.setTop (mkF m 35 #[.val (.int p1), .unset, .unset, .unset] [(.ref b2)])) _
    refine XS.dup X17.here hx rfl (hb hby at_35) rfl rfl ?_
    show Steps p.tables e below (T17.setTop (mkF m 36 #[.val (.int p1), .unset, .unset, .unset] [(.ref b2), (.ref b2)])) _
    refine XS.iconst X17.here hx rfl (hb hby at_36) ?_
    show Steps p.tables e below (T17.setTop (mkF m 37 #[.val (.int p1), .unset, .unset, .unset] [(.int (5 : Int32)), (.ref b2), (.ref b2)])) _
    refine st19 _ ?_
    show Steps p.tables e below (T19.setTop (mkF m 40 #[.val (.int p1), .unset, .unset, .unset] [(.ref w18), (.int (5 : Int32)), (.ref b2), (.ref b2)])) _
    refine st20 _ ?_
    show Steps p.tables e below (T20.setTop (mkF m 41 #[.val (.int p1), .unset, .unset, .unset] [(.ref b2)])) _
    refine XS.dup X20.here hx rfl (hb hby at_41) rfl rfl ?_
    show Steps p.tables e below (T20.setTop (mkF m 42 #[.val (.int p1), .unset, .unset, .unset] [(.ref b2), (.ref b2)])) _
    refine XS.bipush X20.here hx rfl (hb hby at_42) ?_
    show Steps p.tables e below (T20.setTop (mkF m 44 #[.val (.int p1), .unset, .unset, .unset] [(.int (6 : Int32)), (.ref b2), (.ref b2)])) _
    refine st22 _ ?_
    show Steps p.tables e below (T22.setTop (mkF m 47 #[.val (.int p1), .unset, .unset, .unset] [(.ref w21), (.int (6 : Int32)), (.ref b2), (.ref b2)])) _
    refine st23 _ ?_
    show Steps p.tables e below (T23.setTop (mkF m 48 #[.val (.int p1), .unset, .unset, .unset] [(.ref b2)])) _
    refine XS.dup X23.here hx rfl (hb hby at_48) rfl rfl ?_
    show Steps p.tables e below (T23.setTop (mkF m 49 #[.val (.int p1), .unset, .unset, .unset] [(.ref b2), (.ref b2)])) _
    refine XS.bipush X23.here hx rfl (hb hby at_49) ?_
    show Steps p.tables e below (T23.setTop (mkF m 51 #[.val (.int p1), .unset, .unset, .unset] [(.int (7 : Int32)), (.ref b2), (.ref b2)])) _
    refine st25 _ ?_
    show Steps p.tables e below (T25.setTop (mkF m 54 #[.val (.int p1), .unset, .unset, .unset] [(.ref w24), (.int (7 : Int32)), (.ref b2), (.ref b2)])) _
    refine st26 _ ?_
    show Steps p.tables e below (T26.setTop (mkF m 55 #[.val (.int p1), .unset, .unset, .unset] [(.ref b2)])) _
    refine XS.dup X26.here hx rfl (hb hby at_55) rfl rfl ?_
    show Steps p.tables e below (T26.setTop (mkF m 56 #[.val (.int p1), .unset, .unset, .unset] [(.ref b2), (.ref b2)])) _
    refine XS.bipush X26.here hx rfl (hb hby at_56) ?_
    show Steps p.tables e below (T26.setTop (mkF m 58 #[.val (.int p1), .unset, .unset, .unset] [(.int (8 : Int32)), (.ref b2), (.ref b2)])) _
    refine st28 _ ?_
    show Steps p.tables e below (T28.setTop (mkF m 61 #[.val (.int p1), .unset, .unset, .unset] [(.ref w27), (.int (8 : Int32)), (.ref b2), (.ref b2)])) _
    refine st29 _ ?_
    show Steps p.tables e below (T29.setTop (mkF m 62 #[.val (.int p1), .unset, .unset, .unset] [(.ref b2)])) _
    refine XS.dup X29.here hx rfl (hb hby at_62) rfl rfl ?_
    show Steps p.tables e below (T29.setTop (mkF m 63 #[.val (.int p1), .unset, .unset, .unset] [(.ref b2), (.ref b2)])) _
    refine XS.bipush X29.here hx rfl (hb hby at_63) ?_
    show Steps p.tables e below (T29.setTop (mkF m 65 #[.val (.int p1), .unset, .unset, .unset] [(.int (9 : Int32)), (.ref b2), (.ref b2)])) _
    refine st31 _ ?_
    show Steps p.tables e below (T31.setTop (mkF m 68 #[.val (.int p1), .unset, .unset, .unset] [(.ref w30), (.int (9 : Int32)), (.ref b2), (.ref b2)])) _
    refine st32 _ ?_
    show Steps p.tables e below (T32.setTop (mkF m 69 #[.val (.int p1), .unset, .unset, .unset] [(.ref b2)])) _
    refine XS.dup X32.here hx rfl (hb hby at_69) rfl rfl ?_
    show Steps p.tables e below (T32.setTop (mkF m 70 #[.val (.int p1), .unset, .unset, .unset] [(.ref b2), (.ref b2)])) _
    refine XS.bipush X32.here hx rfl (hb hby at_70) ?_
    show Steps p.tables e below (T32.setTop (mkF m 72 #[.val (.int p1), .unset, .unset, .unset] [(.int (10 : Int32)), (.ref b2), (.ref b2)])) _
    refine st34 _ ?_
    show Steps p.tables e below (T34.setTop (mkF m 75 #[.val (.int p1), .unset, .unset, .unset] [(.ref w33), (.int (10 : Int32)), (.ref b2), (.ref b2)])) _
    refine st35 _ ?_
    show Steps p.tables e below (T35.setTop (mkF m 76 #[.val (.int p1), .unset, .unset, .unset] [(.ref b2)])) _
    refine XS.dup X35.here hx rfl (hb hby at_76) rfl rfl ?_
    show Steps p.tables e below (T35.setTop (mkF m 77 #[.val (.int p1), .unset, .unset, .unset] [(.ref b2), (.ref b2)])) _
    refine XS.bipush X35.here hx rfl (hb hby at_77) ?_
    show Steps p.tables e below (T35.setTop (mkF m 79 #[.val (.int p1), .unset, .unset, .unset] [(.int (11 : Int32)), (.ref b2), (.ref b2)])) _
    refine st37 _ ?_
    show Steps p.tables e below (T37.setTop (mkF m 82 #[.val (.int p1), .unset, .unset, .unset] [(.ref w36), (.int (11 : Int32)), (.ref b2), (.ref b2)])) _
    refine st38 _ ?_
    show Steps p.tables e below (T38.setTop (mkF m 83 #[.val (.int p1), .unset, .unset, .unset] [(.ref b2)])) _
    refine XS.dup X38.here hx rfl (hb hby at_83) rfl rfl ?_
    show Steps p.tables e below (T38.setTop (mkF m 84 #[.val (.int p1), .unset, .unset, .unset] [(.ref b2), (.ref b2)])) _
    refine XS.bipush X38.here hx rfl (hb hby at_84) ?_
    show Steps p.tables e below (T38.setTop (mkF m 86 #[.val (.int p1), .unset, .unset, .unset] [(.int (12 : Int32)), (.ref b2), (.ref b2)])) _
    refine st40 _ ?_
    show Steps p.tables e below (T40.setTop (mkF m 89 #[.val (.int p1), .unset, .unset, .unset] [(.ref w39), (.int (12 : Int32)), (.ref b2), (.ref b2)])) _
    refine st41 _ ?_
    show Steps p.tables e below (T41.setTop (mkF m 90 #[.val (.int p1), .unset, .unset, .unset] [(.ref b2)])) _
    refine XS.dup X41.here hx rfl (hb hby at_90) rfl rfl ?_
    show Steps p.tables e below (T41.setTop (mkF m 91 #[.val (.int p1), .unset, .unset, .unset] [(.ref b2), (.ref b2)])) _
    refine XS.bipush X41.here hx rfl (hb hby at_91) ?_
    show Steps p.tables e below (T41.setTop (mkF m 93 #[.val (.int p1), .unset, .unset, .unset] [(.int (13 : Int32)), (.ref b2), (.ref b2)])) _
    refine st43 _ ?_
    show Steps p.tables e below (T43.setTop (mkF m 96 #[.val (.int p1), .unset, .unset, .unset] [(.ref w42), (.int (13 : Int32)), (.ref b2), (.ref b2)])) _
    refine st44 _ ?_
    show Steps p.tables e below (T44.setTop (mkF m 97 #[.val (.int p1), .unset, .unset, .unset] [(.ref b2)])) _
    refine XS.astoreN X44.here hx rfl (hb hby at_97) rfl rfl (l' := #[.val (.int p1), .val (.ref b2), .unset, .unset]) rfl ?_
    show Steps p.tables e below (T44.setTop (mkF m 98 #[.val (.int p1), .val (.ref b2), .unset, .unset] [])) _
    refine XS.iloadN X44.here hx rfl (hb hby at_98) rfl ?_
    show Steps p.tables e below (T44.setTop (mkF m 99 #[.val (.int p1), .val (.ref b2), .unset, .unset] [(.int p1)])) _
    refine X44.ldcInt hx hown (mvT hZ (hw _ (List.mem_of_getElem? (i := 32) rfl))) (g := (mkF m 99 #[.val (.int p1), .val (.ref b2), .unset, .unset] [(.int p1)])) rfl (hb hby at_99) _ ?_
    show Steps p.tables e below (T44.setTop (mkF m 101 #[.val (.int p1), .val (.ref b2), .unset, .unset] [(.int (2147483647 : Int32)), (.int p1)])) _
    refine XS.iand X44.here hx rfl (hb hby at_101) rfl ?_
    show Steps p.tables e below (T44.setTop (mkF m 102 #[.val (.int p1), .val (.ref b2), .unset, .unset] [(.int (p1 &&& (2147483647 : Int32)))])) _
    refine XS.bipush X44.here hx rfl (hb hby at_102) ?_
    show Steps p.tables e below (T44.setTop (mkF m 104 #[.val (.int p1), .val (.ref b2), .unset, .unset] [(.int (14 : Int32)), (.int (p1 &&& (2147483647 : Int32)))])) _
    refine XS.irem X44.here hx rfl (hb hby at_104) rfl hnz104 ?_
    show Steps p.tables e below (T44.setTop (mkF m 105 #[.val (.int p1), .val (.ref b2), .unset, .unset] [(.int (own_i p1))])) _
    refine XS.istoreN X44.here hx rfl (hb hby at_105) rfl (l' := #[.val (.int p1), .val (.ref b2), .val (.int (own_i p1)), .unset]) rfl ?_
    show Steps p.tables e below (T44.setTop (mkF m 106 #[.val (.int p1), .val (.ref b2), .val (.int (own_i p1)), .unset] [])) _
    refine XS.iloadN X44.here hx rfl (hb hby at_106) rfl ?_
    show Steps p.tables e below (T44.setTop (mkF m 107 #[.val (.int p1), .val (.ref b2), .val (.int (own_i p1)), .unset] [(.int (own_i p1))])) _
    refine XS.iconst X44.here hx rfl (hb hby at_107) ?_
    show Steps p.tables e below (T44.setTop (mkF m 108 #[.val (.int p1), .val (.ref b2), .val (.int (own_i p1)), .unset] [(.int (2 : Int32)), (.int (own_i p1))])) _
    refine XS.icmpNo X44.here hx rfl (hb hby at_108) rfl (flt hc108).1 ?_
    show Steps p.tables e below (T44.setTop (mkF m 111 #[.val (.int p1), .val (.ref b2), .val (.int (own_i p1)), .unset] [])) _
    refine XS.iloadN X44.here hx rfl (hb hby at_111) rfl ?_
    show Steps p.tables e below (T44.setTop (mkF m 112 #[.val (.int p1), .val (.ref b2), .val (.int (own_i p1)), .unset] [(.int (own_i p1))])) _
    refine XS.bipush X44.here hx rfl (hb hby at_112) ?_
    show Steps p.tables e below (T44.setTop (mkF m 114 #[.val (.int p1), .val (.ref b2), .val (.int (own_i p1)), .unset] [(.int (7 : Int32)), (.int (own_i p1))])) _
    refine XS.icmpYes X44.here hx rfl (pc0 := 114) (pc' := 121) rfl (hb hby at_114) rfl (tlt hc114).2.2.1 (by decide) (by decide) ?_
    show Steps p.tables e below (T44.setTop (mkF m 121 #[.val (.int p1), .val (.ref b2), .val (.int (own_i p1)), .unset] [])) _
    refine XS.iconst X44.here hx rfl (hb hby at_121) ?_
    show Steps p.tables e below (T44.setTop (mkF m 122 #[.val (.int p1), .val (.ref b2), .val (.int (own_i p1)), .unset] [(.int (0 : Int32))])) _
    refine XS.istoreN X44.here hx rfl (hb hby at_122) rfl (l' := #[.val (.int p1), .val (.ref b2), .val (.int (own_i p1)), .val (.int (0 : Int32))]) rfl ?_
    show Steps p.tables e below (T44.setTop (mkF m 123 #[.val (.int p1), .val (.ref b2), .val (.int (own_i p1)), .val (.int (0 : Int32))] [])) _
    refine XS.aloadN X44.here hx rfl (hb hby at_123) rfl rfl ?_
    show Steps p.tables e below (T44.setTop (mkF m 124 #[.val (.int p1), .val (.ref b2), .val (.int (own_i p1)), .val (.int (0 : Int32))] [(.ref b2)])) _
    refine XS.iloadN X44.here hx rfl (hb hby at_124) rfl ?_
    show Steps p.tables e below (T44.setTop (mkF m 125 #[.val (.int p1), .val (.ref b2), .val (.int (own_i p1)), .val (.int (0 : Int32))] [(.int (own_i p1)), (.ref b2)])) _
    refine X44.aaload hx (j := (own_i p1)) (v := (.ref w45)) (by rw [e44]; exact Ar_b2.1) (State.isArrayOf_alike hZ.alike Ar_b2.2.1) rfl Ar_b2.2.2 hin125 hat125 (g := (mkF m 125 #[.val (.int p1), .val (.ref b2), .val (.int (own_i p1)), .val (.int (0 : Int32))] [(.int (own_i p1)), (.ref b2)])) rfl rfl (hb hby at_125) _ ?_
    show Steps p.tables e below (T44.setTop (mkF m 126 #[.val (.int p1), .val (.ref b2), .val (.int (own_i p1)), .val (.int (0 : Int32))] [(.ref w45)])) _
    refine st46.trans ?_
    show Steps p.tables e below (T46.setTop (mkF m 129 #[.val (.int p1), .val (.ref b2), .val (.int (own_i p1)), .val (.int (0 : Int32))] [(.int (own_cmp (own_i p1)))])) _
    refine XS.iloadN X46.here hx rfl (hb hby at_129) rfl ?_
    show Steps p.tables e below (T46.setTop (mkF m 130 #[.val (.int p1), .val (.ref b2), .val (.int (own_i p1)), .val (.int (0 : Int32))] [(.int (0 : Int32)), (.int (own_cmp (own_i p1)))])) _
    refine XS.icmpNo X46.here hx rfl (hb hby at_130) rfl (teq (own_cmp_hi hc114 : (own_cmp (own_i p1)) = (0 : Int32))).2 ?_
    show Steps p.tables e below (T46.setTop (mkF m 133 #[.val (.int p1), .val (.ref b2), .val (.int (own_i p1)), .val (.int (0 : Int32))] [])) _
    refine XS.iconst X46.here hx rfl (hb hby at_133) ?_
    show Steps p.tables e below (T46.setTop (mkF m 134 #[.val (.int p1), .val (.ref b2), .val (.int (own_i p1)), .val (.int (0 : Int32))] [(.int (1 : Int32))])) _
    refine XS.goto X46.here hx rfl (pc0 := 134) (pc' := 138) rfl (hb hby at_134) (by decide) (by decide) ?_
    show Steps p.tables e below (T46.setTop (mkF m 138 #[.val (.int p1), .val (.ref b2), .val (.int (own_i p1)), .val (.int (0 : Int32))] [(.int (1 : Int32))])) _
    exact retN X46 hx (t := .boolean) Bd.returns (by simp) (hb hby at_138) hr
  · show Q0 Z p1 w3 w6 w9 w12 w15 w18 w21 w24 w27 w30 w33 w36 w39 w42 h0 n0 _ T46.heap _
    exact ⟨rfl, N46⟩
theorem rm0 (l : Launch) (Z : State) (a0 : Array Value) (hw : ∀ d ∈ tables_1, d.before a0 Z = true) (ws : List Jvm.Cond) (p1 : Int32) (w3 : Addr) (w6 : Addr) (w9 : Addr) (w12 : Addr) (w15 : Addr) (w18 : Addr) (w21 : Addr) (w24 : Addr) (w27 : Addr) (w30 : Addr) (w33 : Addr) (w36 : Addr) (w39 : Addr) (w42 : Addr) (h0 : Heap) (n0 : Nat) (Z0 : n0 ≤ h0.size) (S_OR : Sta Z h0 "com/example/whence/whence/sql/Expression$Binary$Operator" "OR" "Lcom/example/whence/whence/sql/Expression$Binary$Operator;" (.ref w3)) (P_0 : own_ord Z h0 w3 0) (S_AND : Sta Z h0 "com/example/whence/whence/sql/Expression$Binary$Operator" "AND" "Lcom/example/whence/whence/sql/Expression$Binary$Operator;" (.ref w6)) (P_1 : own_ord Z h0 w6 1) (S_EQUAL : Sta Z h0 "com/example/whence/whence/sql/Expression$Binary$Operator" "EQUAL" "Lcom/example/whence/whence/sql/Expression$Binary$Operator;" (.ref w9)) (P_2 : own_ord Z h0 w9 2) (S_NOT_EQUAL : Sta Z h0 "com/example/whence/whence/sql/Expression$Binary$Operator" "NOT_EQUAL" "Lcom/example/whence/whence/sql/Expression$Binary$Operator;" (.ref w12)) (P_3 : own_ord Z h0 w12 3) (S_LESS : Sta Z h0 "com/example/whence/whence/sql/Expression$Binary$Operator" "LESS" "Lcom/example/whence/whence/sql/Expression$Binary$Operator;" (.ref w15)) (P_4 : own_ord Z h0 w15 4) (S_LESS_OR_EQUAL : Sta Z h0 "com/example/whence/whence/sql/Expression$Binary$Operator" "LESS_OR_EQUAL" "Lcom/example/whence/whence/sql/Expression$Binary$Operator;" (.ref w18)) (P_5 : own_ord Z h0 w18 5) (S_GREATER : Sta Z h0 "com/example/whence/whence/sql/Expression$Binary$Operator" "GREATER" "Lcom/example/whence/whence/sql/Expression$Binary$Operator;" (.ref w21)) (P_6 : own_ord Z h0 w21 6) (S_GREATER_OR_EQUAL : Sta Z h0 "com/example/whence/whence/sql/Expression$Binary$Operator" "GREATER_OR_EQUAL" "Lcom/example/whence/whence/sql/Expression$Binary$Operator;" (.ref w24)) (P_7 : own_ord Z h0 w24 7) (S_ADD : Sta Z h0 "com/example/whence/whence/sql/Expression$Binary$Operator" "ADD" "Lcom/example/whence/whence/sql/Expression$Binary$Operator;" (.ref w27)) (P_8 : own_ord Z h0 w27 8) (S_SUBTRACT : Sta Z h0 "com/example/whence/whence/sql/Expression$Binary$Operator" "SUBTRACT" "Lcom/example/whence/whence/sql/Expression$Binary$Operator;" (.ref w30)) (P_9 : own_ord Z h0 w30 9) (S_MULTIPLY : Sta Z h0 "com/example/whence/whence/sql/Expression$Binary$Operator" "MULTIPLY" "Lcom/example/whence/whence/sql/Expression$Binary$Operator;" (.ref w33)) (P_10 : own_ord Z h0 w33 10) (S_DIVIDE : Sta Z h0 "com/example/whence/whence/sql/Expression$Binary$Operator" "DIVIDE" "Lcom/example/whence/whence/sql/Expression$Binary$Operator;" (.ref w36)) (P_11 : own_ord Z h0 w36 11) (S_MODULO : Sta Z h0 "com/example/whence/whence/sql/Expression$Binary$Operator" "MODULO" "Lcom/example/whence/whence/sql/Expression$Binary$Operator;" (.ref w39)) (P_12 : own_ord Z h0 w39 12) (S_CONCATENATE : Sta Z h0 "com/example/whence/whence/sql/Expression$Binary$Operator" "CONCATENATE" "Lcom/example/whence/whence/sql/Expression$Binary$Operator;" (.ref w42)) (P_13 : own_ord Z h0 w42 13) :
    MetFree l x (head1 (Jvm.Cond.code x code maxLocals ret :: ws) room_1) (fun a U => a = #[(.int p1)] ∧ Z.Warmed39 U.vm ∧ U.heap = h0) (fun _ _ _ _ _ => True) (fun _ U o U' => ∃ v L, o = .returned v ∧ Q0 Z p1 w3 w6 w9 w12 w15 w18 w21 w24 w27 w30 w33 w36 w39 w42 h0 n0 v U'.heap L ∧ FrameEnd U o U' L room_1.cells room_1.slots) := by
  by_cases hc108 : (own_i p1) < (2 : Int32)
  · exact rm0_tf l Z a0 hw ws p1 w3 w6 w9 w12 w15 w18 w21 w24 w27 w30 w33 w36 w39 w42 h0 n0 Z0 S_OR P_0 S_AND P_1 S_EQUAL P_2 S_NOT_EQUAL P_3 S_LESS P_4 S_LESS_OR_EQUAL P_5 S_GREATER P_6 S_GREATER_OR_EQUAL P_7 S_ADD P_8 S_SUBTRACT P_9 S_MULTIPLY P_10 S_DIVIDE P_11 S_MODULO P_12 S_CONCATENATE P_13 (by decide) hc108
  · by_cases hc114 : (7 : Int32) < (own_i p1)
    · exact rm0_ftf l Z a0 hw ws p1 w3 w6 w9 w12 w15 w18 w21 w24 w27 w30 w33 w36 w39 w42 h0 n0 Z0 S_OR P_0 S_AND P_1 S_EQUAL P_2 S_NOT_EQUAL P_3 S_LESS P_4 S_LESS_OR_EQUAL P_5 S_GREATER P_6 S_GREATER_OR_EQUAL P_7 S_ADD P_8 S_SUBTRACT P_9 S_MULTIPLY P_10 S_DIVIDE P_11 S_MODULO P_12 S_CONCATENATE P_13 (by decide) hc108 hc114
    · exact rm0_fff l Z a0 hw ws p1 w3 w6 w9 w12 w15 w18 w21 w24 w27 w30 w33 w36 w39 w42 h0 n0 Z0 S_OR P_0 S_AND P_1 S_EQUAL P_2 S_NOT_EQUAL P_3 S_LESS P_4 S_LESS_OR_EQUAL P_5 S_GREATER P_6 S_GREATER_OR_EQUAL P_7 S_ADD P_8 S_SUBTRACT P_9 S_MULTIPLY P_10 S_DIVIDE P_11 S_MODULO P_12 S_CONCATENATE P_13 (by decide) hc108 hc114
set_option maxRecDepth 65536 in
set_option maxHeartbeats 40000000 in
theorem comes_1 {Post : Tables → Env → Array Value → State → Outcome → State → Prop} (hpost : ∀ tb e args s v u, (limb_1_1.after args s (.returned v) u = true ∧ limb_1_2.after args s (.returned v) u = true ∧ True) → FrameEnd s (.returned v) u (Jvm.fieldLocs frame_1_writes args s ++ Jvm.arrayLocs frame_1_arrays args s ++ Jvm.staticLocs frame_1_statics s) 16 128 → Post tb e args s (.returned v) u) :
    ArmFor flags0 classFile x code maxLocals ret World_1 tables_1 room_1 Calls_1 rest_1 Pre_1 Post := by
  intro l hfl _ _ p e ha hc hk s m args below hf hA hF happ hP
  obtain ⟨hcalls, hrest, hpre⟩ := hP
  obtain ⟨-, -, -, hnamed, -, -, -, hat⟩ := (Spec.applies_iff hf).mp happ
  obtain ⟨hg, hn⟩ := and_e (Cond.before_iff.mp (show (Jvm.Cond.and given_1 narrow_1).before args s = true from hpre))
  obtain ⟨g47, g48⟩ := and_e hg
  obtain ⟨w0, rfl⟩ : ∃ w0 : Value, args = #[w0] := by
    have hs : args.size = 1 := by simpa [Cond.value, given_1] using g47
    obtain ⟨L⟩ := args
    match L, hs with
    | [w0], _ => exact ⟨w0, rfl⟩
  have hw := fun d (hd : d ∈ tables_1) => atoms_spec (ws := Jvm.Cond.code x code maxLocals ret :: tables_1) hat d (List.mem_cons_of_mem _ hd)
  have hfit : Fit s := fun {y c} hc i hi => by
    obtain ⟨ha, rfl⟩ := Array.getElem?_eq_some_iff.mp hc
    have q := List.all_eq_true.mp ((Array.all_eq_true_iff_forall_mem.mp hF) _ (Array.getElem_mem ha)) i (List.mem_range.mpr hi)
    simpa [Array.getElem?_eq_getElem hi] using q
  obtain ⟨i0, ei0⟩ := is_v g48
  obtain rfl : w0 = (.int i0) := Option.some.inj ei0
  obtain ⟨n0, hn⟩ := and_e hn
  obtain ⟨n1, hn⟩ := and_e hn
  obtain ⟨n2, hn⟩ := and_e hn
  obtain ⟨n3, hn⟩ := and_e hn
  obtain ⟨n4, hn⟩ := and_e hn
  obtain ⟨n5, hn⟩ := and_e hn
  obtain ⟨n6, hn⟩ := and_e hn
  obtain ⟨n7, hn⟩ := and_e hn
  obtain ⟨n8, hn⟩ := and_e hn
  obtain ⟨n9, hn⟩ := and_e hn
  obtain ⟨n10, hn⟩ := and_e hn
  obtain ⟨n11, hn⟩ := and_e hn
  obtain ⟨n12, hn⟩ := and_e hn
  obtain ⟨n13, hn⟩ := and_e hn
  obtain ⟨n14, hn⟩ := and_e hn
  obtain ⟨n15, hn⟩ := and_e hn
  obtain ⟨n16, hn⟩ := and_e hn
  obtain ⟨n17, hn⟩ := and_e hn
  obtain ⟨n18, hn⟩ := and_e hn
  obtain ⟨n19, hn⟩ := and_e hn
  obtain ⟨n20, hn⟩ := and_e hn
  obtain ⟨n21, hn⟩ := and_e hn
  obtain ⟨n22, hn⟩ := and_e hn
  obtain ⟨n23, hn⟩ := and_e hn
  obtain ⟨n24, hn⟩ := and_e hn
  obtain ⟨n25, hn⟩ := and_e hn
  obtain ⟨n26, hn⟩ := and_e hn
  obtain ⟨w3, S_OR, P_0⟩ := own_at (k := 0) n0 n14 (hw _ (List.mem_of_getElem? (i := 3) rfl)) (hw _ (List.mem_of_getElem? (i := 4) rfl))
  obtain ⟨w6, S_AND, P_1⟩ := own_at (k := 1) n1 n24 (hw _ (List.mem_of_getElem? (i := 3) rfl)) (hw _ (List.mem_of_getElem? (i := 7) rfl))
  obtain ⟨w9, S_EQUAL, P_2⟩ := own_at (k := 2) n2 n20 (hw _ (List.mem_of_getElem? (i := 3) rfl)) (hw _ (List.mem_of_getElem? (i := 9) rfl))
  obtain ⟨w12, S_NOT_EQUAL, P_3⟩ := own_at (k := 3) n3 n15 (hw _ (List.mem_of_getElem? (i := 3) rfl)) (hw _ (List.mem_of_getElem? (i := 11) rfl))
  obtain ⟨w15, S_LESS, P_4⟩ := own_at (k := 4) n4 n18 (hw _ (List.mem_of_getElem? (i := 3) rfl)) (hw _ (List.mem_of_getElem? (i := 13) rfl))
  obtain ⟨w18, S_LESS_OR_EQUAL, P_5⟩ := own_at (k := 5) n5 n26 (hw _ (List.mem_of_getElem? (i := 3) rfl)) (hw _ (List.mem_of_getElem? (i := 15) rfl))
  obtain ⟨w21, S_GREATER, P_6⟩ := own_at (k := 6) n6 hn (hw _ (List.mem_of_getElem? (i := 3) rfl)) (hw _ (List.mem_of_getElem? (i := 17) rfl))
  obtain ⟨w24, S_GREATER_OR_EQUAL, P_7⟩ := own_at (k := 7) n7 n19 (hw _ (List.mem_of_getElem? (i := 3) rfl)) (hw _ (List.mem_of_getElem? (i := 19) rfl))
  obtain ⟨w27, S_ADD, P_8⟩ := own_at (k := 8) n8 n23 (hw _ (List.mem_of_getElem? (i := 3) rfl)) (hw _ (List.mem_of_getElem? (i := 21) rfl))
  obtain ⟨w30, S_SUBTRACT, P_9⟩ := own_at (k := 9) n9 n25 (hw _ (List.mem_of_getElem? (i := 3) rfl)) (hw _ (List.mem_of_getElem? (i := 23) rfl))
  obtain ⟨w33, S_MULTIPLY, P_10⟩ := own_at (k := 10) n10 n22 (hw _ (List.mem_of_getElem? (i := 3) rfl)) (hw _ (List.mem_of_getElem? (i := 25) rfl))
  obtain ⟨w36, S_DIVIDE, P_11⟩ := own_at (k := 11) n11 n21 (hw _ (List.mem_of_getElem? (i := 3) rfl)) (hw _ (List.mem_of_getElem? (i := 27) rfl))
  obtain ⟨w39, S_MODULO, P_12⟩ := own_at (k := 12) n12 n16 (hw _ (List.mem_of_getElem? (i := 3) rfl)) (hw _ (List.mem_of_getElem? (i := 29) rfl))
  obtain ⟨w42, S_CONCATENATE, P_13⟩ := own_at (k := 13) n13 n17 (hw _ (List.mem_of_getElem? (i := 3) rfl)) (hw _ (List.mem_of_getElem? (i := 31) rfl))
  obtain ⟨n, o, h1, h2, h3, _, L, rfl, ⟨rfl, N⟩, hq⟩ := rm0 l s _ hw tables_1 i0 w3 w6 w9 w12 w15 w18 w21 w24 w27 w30 w33 w36 w39 w42 s.heap s.heap.size (Nat.le_refl _) S_OR P_0 S_AND P_1 S_EQUAL P_2 S_NOT_EQUAL P_3 S_LESS P_4 S_LESS_OR_EQUAL P_5 S_GREATER P_6 S_GREATER_OR_EQUAL P_7 S_ADD P_8 S_SUBTRACT P_9 S_MULTIPLY P_10 S_DIVIDE P_11 S_MODULO P_12 S_CONCATENATE P_13 p e ha hc hk s m _ below hf ((Spec.applies_iff_loose hf).mp happ).1 ⟨rfl, State.Warmed39.refl s, rfl⟩ trivial
  refine ⟨n, _, h1, h2, h3, hpost _ _ _ _ _ _ ⟨Cond.after_iff.mpr rfl, Cond.after_iff.mpr (eq_i res_at (Term.int_eval (1)) rfl), trivial⟩ ⟨hq.1, hq.2.1, (hq.2.2.sift fun y hy => Or.inr (N y hy)).mono (by decide) (by decide)⟩⟩
theorem main_1_1 : Claimed_1_1 := comes_1 fun _ _ _ _ _ _ h hF => ⟨h.1, hF⟩
theorem main_1_2 : Claimed_1_2 := comes_1 fun _ _ _ _ _ _ h hF => ⟨h.2.1, hF⟩
end Jvm.Pilot.@@N@@
namespace Jvm.Pilot.@@N@@
open Jvm Jvm.ClassFile Sem Op Lib Jvm.Free Jvm.Stand Jvm.Pilot.@@N@@.Jvm.D
/-! MADE BY PROGRAM (witnessworld.py) out of the Statement's table words and the real class files: 11 classes; the members and pool entries that the words name. The judged class is class 1, her method 1. -/
namespace start1
open Jvm.ClassFile
def u (s : String) : CpInfo := .utf8 (stringToUtf16 s)
/-- a pool by its gaps: so many unusable entries, then the entry; so many at the end -/
def gap : Nat → List CpInfo → List CpInfo
  | 0, r => r
  | n + 1, r => .unusable :: gap n r
def poolList (es : List (Nat × CpInfo)) (last : Nat) : List CpInfo := es.foldr (fun e r => gap e.1 (e.2 :: r)) (gap last [])
def pool (es : List (Nat × CpInfo)) (last : Nat) : Array CpInfo := ⟨poolList es last⟩
def fileOf (pool : Array CpInfo) (this : Nat) (attrs : Array Attribute := #[]) (ms : Array MethodInfo := #[]) (fl : Nat := 33) (sup : Nat := 0) (ifs : Array Nat := #[]) (fds : Array FieldInfo := #[]) : ClassFile where
  minorVersion := 0
  majorVersion := 65
  constantPool := pool
  accessFlags := fl
  thisClass := this
  superClass := sup
  interfaces := ifs
  fields := fds
  methods := ms
  attributes := attrs
def plain (name : String) (sup : Option ClassId) : Class where
  name := name
  kind := .ordinary
  loader := none
  accessFlags := 33
  super := sup
  interfaces := #[]
  cf := none
  fields := #[]
  methods := #[]
  instanceTypes := #[]
  staticTypes := #[]
  resolved := #[]
  callSites := []
  init := .initialized
  statics := none
  mirror := none

def pool0 : Array CpInfo := pool [(5, u "<init>"), (0, u "()V"), (1, .class_ 10), (1, u "java/lang/Object")] 113

def k0m0 : Method := { name := "<init>", desc := "()V", sig := { parameters := [], returnType := none }, accessFlags := 1, code := none }
/-- java/lang/Object -/
def k0 : Class := { plain "java/lang/Object" none with
  accessFlags := 33
  interfaces := #[]
  cf := some (fileOf pool0 8 #[] #[{ accessFlags := 1, nameIndex := 5, descriptorIndex := 6, attributes := #[] }] 33 0 #[] #[])
  fields := #[]
  methods := #[k0m0]
  instanceTypes := #[]
  staticTypes := #[]
  resolved := Array.replicate 124 none
  statics := none }

def pool1 : Array CpInfo := pool [(2, .class_ 4), (1, u "java/lang/Object"), (0, u "<init>"), (0, u "()V"), (0, .class_ 8), (0, u "com/example/whence/whence/sql/Expression$Binary$Operator"), (0, .fieldref 7 10), (0, .nameAndType 11 12), (0, u "OR"), (0, u "Lcom/example/whence/whence/sql/Expression$Binary$Operator;"), (0, .fieldref 7 14), (0, .nameAndType 15 12), (0, u "AND"), (0, .fieldref 7 17), (0, .nameAndType 18 12), (0, u "EQUAL"), (0, .fieldref 7 20), (0, .nameAndType 21 12), (0, u "NOT_EQUAL"), (0, .fieldref 7 23), (0, .nameAndType 24 12), (0, u "LESS"), (0, .fieldref 7 26), (0, .nameAndType 27 12), (0, u "LESS_OR_EQUAL"), (0, .fieldref 7 29), (0, .nameAndType 30 12), (0, u "GREATER"), (0, .fieldref 7 32), (0, .nameAndType 33 12), (0, u "GREATER_OR_EQUAL"), (0, .fieldref 7 35), (0, .nameAndType 36 12), (0, u "ADD"), (0, .fieldref 7 38), (0, .nameAndType 39 12), (0, u "SUBTRACT"), (0, .fieldref 7 41), (0, .nameAndType 42 12), (0, u "MULTIPLY"), (0, .fieldref 7 44), (0, .nameAndType 45 12), (0, u "DIVIDE"), (0, .fieldref 7 47), (0, .nameAndType 48 12), (0, u "MODULO"), (0, .fieldref 7 50), (0, .nameAndType 51 12), (0, u "CONCATENATE"), (0, .integer 2147483647), (0, .methodref 7 54), (0, .nameAndType 55 56), (0, u "isComparison"), (0, u "()Z"), (0, .class_ 58), (0, u "com/example/whence/whence/sql/OperatorIsComparisonPinLaw"), (2, u "law"), (0, u "(I)Z")] 12

def k1m0 : Method := { name := "<init>", desc := "()V", sig := { parameters := [], returnType := none }, accessFlags := 2, code := none }
def k1c1 : Code := { maxStack := 4, maxLocals := 4, code := code, exceptionTable := #[], attributes := #[] }
def k1m1 : Method := { name := "law", desc := "(I)Z", sig := { parameters := [.int], returnType := some .boolean }, accessFlags := 9, code := some k1c1 }
/-- com/example/whence/whence/sql/OperatorIsComparisonPinLaw -/
def k1 : Class := { plain "com/example/whence/whence/sql/OperatorIsComparisonPinLaw" (some 0) with
  accessFlags := 49
  interfaces := #[]
  cf := some (fileOf pool1 57 #[] #[{ accessFlags := 2, nameIndex := 5, descriptorIndex := 6, attributes := #[] }, { accessFlags := 9, nameIndex := 61, descriptorIndex := 62, attributes := #[] }] 49 2 #[] #[])
  fields := #[]
  methods := #[k1m0, k1m1]
  instanceTypes := #[]
  staticTypes := #[]
  resolved := Array.replicate 75 none
  statics := none }

def pool2 : Array CpInfo := pool [(1, .class_ 2), (0, u "java/lang/constant/Constable"), (0, .class_ 4), (0, u "java/lang/Object")] 6

/-- java/lang/constant/Constable -/
def k2 : Class := { plain "java/lang/constant/Constable" (some 0) with
  accessFlags := 1537
  interfaces := #[]
  cf := some (fileOf pool2 1 #[] #[] 1537 3 #[] #[])
  fields := #[]
  methods := #[]
  instanceTypes := #[]
  staticTypes := #[]
  resolved := Array.replicate 11 none
  statics := none }

def pool3 : Array CpInfo := pool [(1, .class_ 2), (0, u "java/lang/Comparable"), (0, .class_ 4), (0, u "java/lang/Object")] 7

/-- java/lang/Comparable -/
def k3 : Class := { plain "java/lang/Comparable" (some 0) with
  accessFlags := 1537
  interfaces := #[]
  cf := some (fileOf pool3 1 #[] #[] 1537 3 #[] #[])
  fields := #[]
  methods := #[]
  instanceTypes := #[]
  staticTypes := #[]
  resolved := Array.replicate 12 none
  statics := none }

def pool4 : Array CpInfo := pool [(1, .class_ 2), (0, u "java/io/Serializable"), (0, .class_ 4), (0, u "java/lang/Object")] 2

/-- java/io/Serializable -/
def k4 : Class := { plain "java/io/Serializable" (some 0) with
  accessFlags := 1537
  interfaces := #[]
  cf := some (fileOf pool4 1 #[] #[] 1537 3 #[] #[])
  fields := #[]
  methods := #[]
  instanceTypes := #[]
  staticTypes := #[]
  resolved := Array.replicate 7 none
  statics := none }

def pool5 : Array CpInfo := pool [(2, .class_ 4), (1, u "java/lang/Enum"), (0, u "name"), (0, u "Ljava/lang/String;"), (0, .fieldref 2 8), (0, .nameAndType 9 10), (0, u "ordinal"), (0, u "I"), (1, .class_ 14), (1, u "java/lang/Object"), (4, u "hash"), (86, .class_ 108), (1, u "java/lang/Enum$EnumDesc"), (2, .class_ 112), (0, u "java/lang/constant/Constable"), (0, .class_ 114), (0, u "java/lang/Comparable"), (0, .class_ 116), (0, u "java/io/Serializable"), (9, u "()I")] 77

def k5c0 : Code := { maxStack := 1, maxLocals := 1, code := jdk_37_method_2_code, exceptionTable := #[], attributes := #[] }
def k5m0 : Method := { name := "ordinal", desc := "()I", sig := { parameters := [], returnType := some .int }, accessFlags := 17, code := some k5c0 }
/-- java/lang/Enum -/
def k5 : Class := { plain "java/lang/Enum" (some 0) with
  accessFlags := 1057
  interfaces := #[2, 3, 4]
  cf := some (fileOf pool5 2 #[.nestMembers #[106]] #[{ accessFlags := 17, nameIndex := 9, descriptorIndex := 126, attributes := #[] }] 1057 12 #[111, 113, 115] #[{ accessFlags := 18, nameIndex := 5, descriptorIndex := 6, attributes := #[] }, { accessFlags := 18, nameIndex := 9, descriptorIndex := 10, attributes := #[] }, { accessFlags := 2, nameIndex := 19, descriptorIndex := 10, attributes := #[] }])
  fields := #[{ name := "name", type := (.object "java/lang/String"), accessFlags := 18, slot := 0, constantValue := 0 }, { name := "ordinal", type := .int, accessFlags := 18, slot := 1, constantValue := 0 }, { name := "hash", type := .int, accessFlags := 2, slot := 2, constantValue := 0 }]
  methods := #[k5m0]
  instanceTypes := #[(.object "java/lang/String"), .int, .int]
  staticTypes := #[]
  resolved := Array.replicate 204 none
  statics := none }

def pool6 : Array CpInfo := pool [(1, .class_ 2), (0, u "com/example/whence/whence/sql/Expression$Binary$Operator"), (2, u "OR"), (0, u "Lcom/example/whence/whence/sql/Expression$Binary$Operator;"), (2, u "AND"), (2, u "EQUAL"), (2, u "NOT_EQUAL"), (2, u "LESS"), (2, u "LESS_OR_EQUAL"), (2, u "GREATER"), (2, u "GREATER_OR_EQUAL"), (2, u "ADD"), (2, u "SUBTRACT"), (2, u "MULTIPLY"), (2, u "DIVIDE"), (2, u "MODULO"), (2, u "CONCATENATE"), (2, u "$VALUES"), (0, u "[Lcom/example/whence/whence/sql/Expression$Binary$Operator;"), (6, .class_ 58), (1, u "java/lang/Enum"), (6, .methodref 1 66), (0, .nameAndType 67 68), (0, u "ordinal"), (0, u "()I"), (40, u "isComparison"), (0, u "()Z"), (8, .class_ 120), (0, u "com/example/whence/whence/sql/Expression")] 19

def k6c0 : Code := { maxStack := 1, maxLocals := 1, code := prog_34_method_4_code, exceptionTable := #[], attributes := #[] }
def k6m0 : Method := { name := "isComparison", desc := "()Z", sig := { parameters := [], returnType := some .boolean }, accessFlags := 1, code := some k6c0 }
/-- com/example/whence/whence/sql/Expression$Binary$Operator -/
def k6 : Class := { plain "com/example/whence/whence/sql/Expression$Binary$Operator" (some 5) with
  accessFlags := 16433
  interfaces := #[]
  cf := some (fileOf pool6 1 #[.nestHost 119] #[{ accessFlags := 1, nameIndex := 109, descriptorIndex := 110, attributes := #[] }] 16433 56 #[] #[{ accessFlags := 16409, nameIndex := 5, descriptorIndex := 6, attributes := #[] }, { accessFlags := 16409, nameIndex := 9, descriptorIndex := 6, attributes := #[] }, { accessFlags := 16409, nameIndex := 12, descriptorIndex := 6, attributes := #[] }, { accessFlags := 16409, nameIndex := 15, descriptorIndex := 6, attributes := #[] }, { accessFlags := 16409, nameIndex := 18, descriptorIndex := 6, attributes := #[] }, { accessFlags := 16409, nameIndex := 21, descriptorIndex := 6, attributes := #[] }, { accessFlags := 16409, nameIndex := 24, descriptorIndex := 6, attributes := #[] }, { accessFlags := 16409, nameIndex := 27, descriptorIndex := 6, attributes := #[] }, { accessFlags := 16409, nameIndex := 30, descriptorIndex := 6, attributes := #[] }, { accessFlags := 16409, nameIndex := 33, descriptorIndex := 6, attributes := #[] }, { accessFlags := 16409, nameIndex := 36, descriptorIndex := 6, attributes := #[] }, { accessFlags := 16409, nameIndex := 39, descriptorIndex := 6, attributes := #[] }, { accessFlags := 16409, nameIndex := 42, descriptorIndex := 6, attributes := #[] }, { accessFlags := 16409, nameIndex := 45, descriptorIndex := 6, attributes := #[] }, { accessFlags := 4122, nameIndex := 48, descriptorIndex := 49, attributes := #[] }])
  fields := #[{ name := "OR", type := (.object "com/example/whence/whence/sql/Expression$Binary$Operator"), accessFlags := 16409, slot := 0, constantValue := 0 }, { name := "AND", type := (.object "com/example/whence/whence/sql/Expression$Binary$Operator"), accessFlags := 16409, slot := 1, constantValue := 0 }, { name := "EQUAL", type := (.object "com/example/whence/whence/sql/Expression$Binary$Operator"), accessFlags := 16409, slot := 2, constantValue := 0 }, { name := "NOT_EQUAL", type := (.object "com/example/whence/whence/sql/Expression$Binary$Operator"), accessFlags := 16409, slot := 3, constantValue := 0 }, { name := "LESS", type := (.object "com/example/whence/whence/sql/Expression$Binary$Operator"), accessFlags := 16409, slot := 4, constantValue := 0 }, { name := "LESS_OR_EQUAL", type := (.object "com/example/whence/whence/sql/Expression$Binary$Operator"), accessFlags := 16409, slot := 5, constantValue := 0 }, { name := "GREATER", type := (.object "com/example/whence/whence/sql/Expression$Binary$Operator"), accessFlags := 16409, slot := 6, constantValue := 0 }, { name := "GREATER_OR_EQUAL", type := (.object "com/example/whence/whence/sql/Expression$Binary$Operator"), accessFlags := 16409, slot := 7, constantValue := 0 }, { name := "ADD", type := (.object "com/example/whence/whence/sql/Expression$Binary$Operator"), accessFlags := 16409, slot := 8, constantValue := 0 }, { name := "SUBTRACT", type := (.object "com/example/whence/whence/sql/Expression$Binary$Operator"), accessFlags := 16409, slot := 9, constantValue := 0 }, { name := "MULTIPLY", type := (.object "com/example/whence/whence/sql/Expression$Binary$Operator"), accessFlags := 16409, slot := 10, constantValue := 0 }, { name := "DIVIDE", type := (.object "com/example/whence/whence/sql/Expression$Binary$Operator"), accessFlags := 16409, slot := 11, constantValue := 0 }, { name := "MODULO", type := (.object "com/example/whence/whence/sql/Expression$Binary$Operator"), accessFlags := 16409, slot := 12, constantValue := 0 }, { name := "CONCATENATE", type := (.object "com/example/whence/whence/sql/Expression$Binary$Operator"), accessFlags := 16409, slot := 13, constantValue := 0 }, { name := "$VALUES", type := (.array (.object "com/example/whence/whence/sql/Expression$Binary$Operator")), accessFlags := 4122, slot := 14, constantValue := 0 }]
  methods := #[k6m0]
  instanceTypes := #[(.object "java/lang/String"), .int, .int]
  staticTypes := #[(.object "com/example/whence/whence/sql/Expression$Binary$Operator"), (.object "com/example/whence/whence/sql/Expression$Binary$Operator"), (.object "com/example/whence/whence/sql/Expression$Binary$Operator"), (.object "com/example/whence/whence/sql/Expression$Binary$Operator"), (.object "com/example/whence/whence/sql/Expression$Binary$Operator"), (.object "com/example/whence/whence/sql/Expression$Binary$Operator"), (.object "com/example/whence/whence/sql/Expression$Binary$Operator"), (.object "com/example/whence/whence/sql/Expression$Binary$Operator"), (.object "com/example/whence/whence/sql/Expression$Binary$Operator"), (.object "com/example/whence/whence/sql/Expression$Binary$Operator"), (.object "com/example/whence/whence/sql/Expression$Binary$Operator"), (.object "com/example/whence/whence/sql/Expression$Binary$Operator"), (.object "com/example/whence/whence/sql/Expression$Binary$Operator"), (.object "com/example/whence/whence/sql/Expression$Binary$Operator"), (.array (.object "com/example/whence/whence/sql/Expression$Binary$Operator"))]
  resolved := Array.replicate 140 none
  statics := some 0 }

def pool7 : Array CpInfo := pool [(1, u "java/lang/Cloneable"), (0, .class_ 1), (0, u "java/lang/Object"), (0, .class_ 3)] 3

/-- java/lang/Cloneable -/
def k7 : Class := { plain "java/lang/Cloneable" (some 0) with
  accessFlags := 1537
  interfaces := #[]
  cf := some (fileOf pool7 2 #[] #[] 1537 4 #[] #[])
  fields := #[]
  methods := #[]
  instanceTypes := #[]
  staticTypes := #[]
  resolved := Array.replicate 8 none
  statics := none }

/-- the primitive byte -/
def k8 : Class := { plain "byte" none with kind := .primitive 'B', accessFlags := 0x411 }
/-- [B -/
def k9 : Class := { plain "[B" (some 0) with kind := .array 8 .byte, interfaces := #[7, 4], accessFlags := 1041 }

/-- [Lcom/example/whence/whence/sql/Expression$Binary$Operator; -/
def k10 : Class := { plain "[Lcom/example/whence/whence/sql/Expression$Binary$Operator;" (some 0) with kind := .array 6 (.object "com/example/whence/whence/sql/Expression$Binary$Operator"), interfaces := #[7, 4], accessFlags := 1041 }

def heap : Heap := #[{ cls := 6, slots := #[.ref 1, .ref 2, .ref 3, .ref 4, .ref 5, .ref 6, .ref 7, .ref 8, .ref 9, .ref 10, .ref 11, .ref 12, .ref 13, .ref 14, .null], vm := .statics 6 },
  { cls := 6, slots := #[.null, .int 0, .int 0], vm := .none },
  { cls := 6, slots := #[.null, .int 1, .int 0], vm := .none },
  { cls := 6, slots := #[.null, .int 2, .int 0], vm := .none },
  { cls := 6, slots := #[.null, .int 3, .int 0], vm := .none },
  { cls := 6, slots := #[.null, .int 4, .int 0], vm := .none },
  { cls := 6, slots := #[.null, .int 5, .int 0], vm := .none },
  { cls := 6, slots := #[.null, .int 6, .int 0], vm := .none },
  { cls := 6, slots := #[.null, .int 7, .int 0], vm := .none },
  { cls := 6, slots := #[.null, .int 8, .int 0], vm := .none },
  { cls := 6, slots := #[.null, .int 9, .int 0], vm := .none },
  { cls := 6, slots := #[.null, .int 10, .int 0], vm := .none },
  { cls := 6, slots := #[.null, .int 11, .int 0], vm := .none },
  { cls := 6, slots := #[.null, .int 12, .int 0], vm := .none },
  { cls := 6, slots := #[.null, .int 13, .int 0], vm := .none }]
def classes : Array Class := #[k0, k1, k2, k3, k4, k5, k6, k7, k8, k9, k10]
def interned : List (Array UInt16 × Addr) := []
def slotsUsed : Nat := 57
def theMethod : MethodId := ⟨1, 1⟩
def args0 : Array Value := #[.int 5]
def aboutOver (below : List Frame) : State where
  vm := { classes := classes, interned := interned.toArray }
  heap := heap
  slotsUsed := slotsUsed
  threads := #[{ frames := .invoking theMethod args0 :: below }]
def below0 : List Frame := [.native { method := ⟨0, 0⟩, args := #[] }]
def about1 : State := aboutOver below0
def p0 : Program := .bare "" "" ""
def e0 : Env := launch0.env 0 0 0
theorem w_frames : about1.frames = Frame.invoking theMethod args0 :: below0 := rfl
set_option maxRecDepth 65536 in
theorem w_args : argsFit about1.vm theMethod args0 = true := by decide +kernel
set_option maxRecDepth 65536 in
theorem w_heap : heapFits about1 = true := by decide +kernel
set_option maxRecDepth 65536 in
theorem w_runnable : about1.curStatus? = some .runnable := by decide +kernel
set_option maxRecDepth 65536 in
theorem w_alone : about1.alone = true := by decide +kernel
set_option maxRecDepth 65536 in
theorem w_named : about1.methodNamed? x = some theMethod := by decide +kernel
set_option maxRecDepth 65536 in
theorem w_hears : about1.hears theMethod below0 = true := by decide +kernel
set_option maxRecDepth 65536 in
theorem w_ripe : about1.ripe theMethod args0 below0 = true := by decide +kernel
theorem w_running : about1.status = .running := rfl
set_option maxRecDepth 65536 in
theorem w_room : about1.hasRoom e0.platform room_1 = true :=
  launch0.hasRoom_least _ room_1 (by decide +kernel) (by decide +kernel) (by decide +kernel) (by decide +kernel) (by decide +kernel) (by decide +kernel)
theorem allAtoms_all (ts : List Jvm.Cond) (a : Array Jvm.Value) (st : Jvm.State) : (allAtoms ts).before a st = ts.all (fun c => c.before a st) := by
  induction ts with
  | nil => rfl
  | cons c t ih =>
    show (Jvm.Cond.and c (allAtoms t)).before a st = _
    rw [Jvm.Cond.before_and, ih, List.all_cons]
def words1 : List Jvm.Cond := Jvm.Cond.code x code maxLocals ret :: tables_1
/-- a 'code' word, met by the world's own term for the bytes: nothing is compared byte by byte -/
theorem code_word {y : MethodName} {bytes : ByteArray} {mx : Nat} {rt : Option FieldType} {a : Array Value} {s : State} {m : MethodId} {meth : Method} {c : Code} (h1 : s.methodNamed? y = some m) (h2 : s.vm.method? m = some meth) (h3 : meth.code = some c) (h4 : c.code = bytes)
    (h5 : (c.maxLocals == mx && c.exceptionTable.isEmpty && decide (c.maxStack ≤ mostOperands) && decide (meth.sig.returnType = rt) && !meth.locks && decide (parseMethodDescriptor y.desc = some meth.sig)) = true) : (Jvm.Cond.code y bytes mx rt).before a s = true := by
  simp only [Bool.and_eq_true, beq_iff_eq, Bool.not_eq_true', decide_eq_true_eq] at h5
  obtain ⟨⟨⟨⟨⟨g1, g2⟩, g3⟩, g4⟩, g5⟩, g6⟩ := h5
  simp [Cond.before, Cond.holds, Cond.value, h1, h2, h3, h4, g1, g2, g3, g4, g5, g6]
def isCode : Jvm.Cond → Bool
  | .code _ _ _ _ => true
  | _ => false
theorem all_split {L : List Jvm.Cond} {P : Jvm.Cond → Bool} (h1 : L.all (fun c => isCode c || P c) = true) (h2 : ∀ c ∈ L.filter isCode, P c = true) : L.all P = true := by
  refine List.all_eq_true.mpr fun c hc => ?_
  have h := List.all_eq_true.mp h1 c hc
  rcases Bool.eq_false_or_eq_true (isCode c) with hi | hi
  · exact h2 c (List.mem_filter.mpr ⟨hc, hi⟩)
  · simpa [hi] using h
set_option maxRecDepth 65536 in
theorem w_c0 : (Jvm.Cond.code x code maxLocals ret).before args0 about1 = true := code_word (m := ⟨1, 1⟩) (meth := k1m1) (c := k1c1) (by decide +kernel) rfl rfl rfl (by decide +kernel)
set_option maxRecDepth 65536 in
theorem w_c1 : (Jvm.Cond.code ({ cls := "com/example/whence/whence/sql/Expression$Binary$Operator", name := "isComparison", desc := "()Z" } : Jvm.MethodName) prog_34_method_4_code (1 : Nat) (Option.some Jvm.ClassFile.FieldType.boolean)).before args0 about1 = true := code_word (m := ⟨6, 0⟩) (meth := k6m0) (c := k6c0) (by decide +kernel) rfl rfl rfl (by decide +kernel)
set_option maxRecDepth 65536 in
theorem w_c2 : (Jvm.Cond.code ({ cls := "java/lang/Enum", name := "ordinal", desc := "()I" } : Jvm.MethodName) jdk_37_method_2_code (1 : Nat) (Option.some Jvm.ClassFile.FieldType.int)).before args0 about1 = true := code_word (m := ⟨5, 0⟩) (meth := k5m0) (c := k5c0) (by decide +kernel) rfl rfl rfl (by decide +kernel)
def codes1 : List Jvm.Cond := [Jvm.Cond.code x code maxLocals ret, Jvm.Cond.code ({ cls := "com/example/whence/whence/sql/Expression$Binary$Operator", name := "isComparison", desc := "()Z" } : Jvm.MethodName) prog_34_method_4_code (1 : Nat) (Option.some Jvm.ClassFile.FieldType.boolean), Jvm.Cond.code ({ cls := "java/lang/Enum", name := "ordinal", desc := "()I" } : Jvm.MethodName) jdk_37_method_2_code (1 : Nat) (Option.some Jvm.ClassFile.FieldType.int)]
set_option maxRecDepth 65536 in
theorem codes_eq : words1.filter isCode = codes1 := rfl
theorem w_codes : ∀ c ∈ words1.filter isCode, c.before args0 about1 = true := by
  rw [codes_eq]
  intro c hc
  simp only [codes1, List.mem_cons, List.not_mem_nil, or_false] at hc
  rcases hc with rfl | rfl | rfl
  · exact w_c0
  · exact w_c1
  · exact w_c2
set_option maxRecDepth 65536 in
theorem w_t1 : (words1.take 24).all (fun c => isCode c || c.before args0 about1) = true := by decide +kernel
set_option maxRecDepth 65536 in
theorem w_t2 : (words1.drop 24).all (fun c => isCode c || c.before args0 about1) = true := by decide +kernel
theorem w_tables : (allAtoms (Jvm.Cond.code x code maxLocals ret :: tables_1)).before args0 about1 = true := by
  rw [allAtoms_all]
  show words1.all (fun c => c.before args0 about1) = true
  refine all_split ?_ w_codes
  rw [← List.take_append_drop 24 words1, List.all_append, w_t1, w_t2]
  rfl
set_option maxRecDepth 65536 in
theorem w_case : (Jvm.Cond.and given_1 narrow_1).before args0 about1 = true := by decide +kernel
theorem w_applies : (headSpec (Jvm.Cond.code x code maxLocals ret :: tables_1) room_1).applies x e0.platform about1 = true :=
  (Spec.applies_iff w_frames).mpr ⟨w_running, w_runnable, w_alone, w_named, w_hears, w_ripe, w_room, w_tables⟩
theorem atStart : AtStart classFile x code maxLocals ret World_1 tables_1 room_1 Calls_1 rest_1 Pre_1 launch0 p0 e0 about1 theMethod args0 below0 :=
  ⟨lists_1, trivial, launch0.admits_env _ _ _, launch0.least_env, fairChoices_fair.cas, fairChoices_fair.clock, w_frames, w_args, w_heap, w_applies, trivial, trivial, w_case⟩
end start1
theorem witness_1 : WitnessClaimed_1 := ⟨start1.p0, start1.e0, start1.about1, start1.theMethod, start1.args0, start1.below0, start1.atStart⟩
end Jvm.Pilot.@@N@@
