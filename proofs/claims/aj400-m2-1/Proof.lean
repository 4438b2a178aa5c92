import JvmDerived
import JvmDerived.Pilot.@@N@@Statement
import JvmDerived.Pilot.@@N@@Code
set_option linter.unusedVariables false
set_option linter.unusedSimpArgs false
namespace Jvm.RoadKit
open Sem ClassFile Op Lib Jvm.Stand Jvm.Free Jvm.LawKit
section New
variable {p : Program} {l : Launch} {e : Env} {R : Room} {s : State} {m : MethodId} {args : Array Value} {below : List Frame} {meth : Method} {c : Code} {T : State} {locs : List Loc} {cells slots : Nat}
theorem retI (X : Stand p l e R s m args below meth c T locs cells slots) (hx : p.tables.exec = Jvm.exec) {pc : Nat} {Ls : Array Slot} {z : Int32} {rest : List Value} (hret : meth.sig.returnType = some .int) (hd : decode c.code pc = .ok (.ireturn, 1)) {fs : List Frame}
    (hl : ∀ (f : JFrame) (acts : List Action), f.method = m → f.locked = none → f.entered = [] → (doReturn e (T.setTop f) acts (some (.int z))).1 = T.setFrames fs) : Steps p.tables e below (T.setTop (mkF m pc Ls (.int z :: rest))) (T.setFrames fs) := by
  have hm' : T.vm.method? m = some meth := X.method'
  have hn : narrow .int (.int z) = .int z := rfl
  show Steps p.tables e below (T.setTop { method := m, pc := pc, locals := Ls, stack := _ :: rest, locked := none }) _
  jvm_step X.here [X.here.top, hx, hd, hm', hret, hn]
  first | (intro acts; rw [hl _ acts rfl rfl rfl]) | rw [hl _ _ rfl rfl rfl]
  exact Steps.refl _
end New
end Jvm.RoadKit
namespace Jvm.Pilot.@@N@@
open Jvm Jvm.ClassFile Sem Op Lib Jvm.Free Jvm.Stand Jvm.LawKit Jvm.RoadKit Bundle Jvm.Pilot.@@N@@.Jvm.D
/-- whoever comes from the frame f (over T) comes from the frame f0 (over T0) -/
abbrev Go (p : Program) (e : Env) (below : List Frame) (T : State) (f : JFrame) (T0 : State) (f0 : JFrame) : Prop := ∀ t, Steps p.tables e below (T.setTop f) t → Steps p.tables e below (T0.setTop f0) t
def own_bound (mn mx s : Int32) : Int32 := if 0 < mn ∧ s < mn then mn else if 0 < mx ∧ mx < s then mx else s
def own_max (a b : Int32) : Int32 := if a < b then b else a
def own_min (a b : Int32) : Int32 := if b < a then b else a
theorem own_law (mn mx s : Int32) (h : ¬ (0 < mn ∧ 0 < mx ∧ mx < mn)) : own_bound mn mx s = own_min (own_max s (if 0 < mn then mn else (-2147483648 : Int32))) (if 0 < mx then mx else (2147483647 : Int32)) := by
  have r1 := rng32 s
  have r2 := rng32 mn
  have r3 := rng32 mx
  have e0 : (0 : Int32).toInt = 0 := rfl
  have e1 : (-2147483648 : Int32).toInt = -2147483648 := rfl
  have e2 : (2147483647 : Int32).toInt = 2147483647 := rfl
  unfold own_bound own_min own_max
  simp only [Int32.lt_iff_toInt_lt] at *
  by_cases a : (0 : Int32).toInt < mn.toInt <;> by_cases b : (0 : Int32).toInt < mx.toInt <;> by_cases d : s.toInt < mn.toInt <;> by_cases g : mx.toInt < s.toInt <;> simp only [a, b, d, g, if_true, if_false, true_and, false_and, and_true, and_false] at h ⊢ <;> (repeat' split) <;> first | rfl | (exfalso; omega) | (apply Int32.toInt_inj.mp; omega)
theorem d1_0 : decode prog_26_method_1_code 0 = .ok (.aload_n 0, 1) := by decide +kernel
theorem d1_1 : decode prog_26_method_1_code 1 = .ok (.invokespecial 1, 3) := by decide +kernel
theorem d1_4 : decode prog_26_method_1_code 4 = .ok (.aload_n 0, 1) := by decide +kernel
theorem d1_5 : decode prog_26_method_1_code 5 = .ok (.iload_n 1, 1) := by decide +kernel
theorem d1_6 : decode prog_26_method_1_code 6 = .ok (.putfield 7, 3) := by decide +kernel
theorem d1_9 : decode prog_26_method_1_code 9 = .ok (.aload_n 0, 1) := by decide +kernel
theorem d1_10 : decode prog_26_method_1_code 10 = .ok (.iload_n 2, 1) := by decide +kernel
theorem d1_11 : decode prog_26_method_1_code 11 = .ok (.putfield 13, 3) := by decide +kernel
theorem d1_14 : decode prog_26_method_1_code 14 = .ok (.aload_n 0, 1) := by decide +kernel
theorem d1_15 : decode prog_26_method_1_code 15 = .ok (.iload_n 3, 1) := by decide +kernel
theorem d1_16 : decode prog_26_method_1_code 16 = .ok (.putfield 16, 3) := by decide +kernel
theorem d1_19 : decode prog_26_method_1_code 19 = .ok (.return_, 1) := by decide +kernel
theorem pn_1 : plainName "com/example/hard_zone/hardzone/TtlLimits" = true := by first | (simp [plainName, overriddenIn]; done) | decide +kernel
theorem pd_1 : parseMethodDescriptor "(III)V" = some ⟨[.int, .int, .int], none⟩ := by decide +kernel
theorem ef_1 (m : MethodId) (x0 : Addr) (x1 : Int32) (x2 : Int32) (x3 : Int32) : entryFrame m #[(.ref x0), (.int x1), (.int x2), (.int x3)] 4 = mkF m 0 #[.val (.ref x0), .val (.int x1), .val (.int x2), .val (.int x3)] [] := by first | (simp [entryFrame, mkF, argsToLocals, Value.category]; done) | rfl
def Q1 (Z : State) (a1 : Addr) (p2 p3 p4 : Int32) (u1 u2 u3 : Value) (h0 : Heap) (n0 : Nat) (v : Option Value) (h : Heap) (L : List Loc) : Prop := v = none ∧ Fr n0 L ∧ Keep h0 h [a1] ∧ Exa Z h a1 "com/example/hard_zone/hardzone/TtlLimits" ∧ Fld Z h a1 "com/example/hard_zone/hardzone/TtlLimits" "minTtl" "I" (.int p3) ∧ Fld Z h a1 "com/example/hard_zone/hardzone/TtlLimits" "maxTtl" "I" (.int p4)
set_option maxRecDepth 65536 in
set_option maxHeartbeats 40000000 in
theorem rm1 (l : Launch) (Z : State) (a0 : Array Value) (hw : ∀ d ∈ tables_1, d.before a0 Z = true) (ws : List Jvm.Cond) (a1 : Addr) (p2 p3 p4 : Int32) (u1 u2 u3 : Value) (h0 : Heap) (n0 : Nat) (Z0 : n0 ≤ h0.size) (F_defaultTtl : Fld Z h0 a1 "com/example/hard_zone/hardzone/TtlLimits" "defaultTtl" "I" u1) (F_minTtl : Fld Z h0 a1 "com/example/hard_zone/hardzone/TtlLimits" "minTtl" "I" u2) (F_maxTtl : Fld Z h0 a1 "com/example/hard_zone/hardzone/TtlLimits" "maxTtl" "I" u3) (E_a1 : Exa Z h0 a1 "com/example/hard_zone/hardzone/TtlLimits") (g_a1 : n0 ≤ a1) :
    MetFree l (⟨"com/example/hard_zone/hardzone/TtlLimits", "<init>", "(III)V"⟩ : MethodName) (head1 (Jvm.Cond.code (⟨"com/example/hard_zone/hardzone/TtlLimits", "<init>", "(III)V"⟩ : MethodName) prog_26_method_1_code 4 none :: ws) ({ frames := 1, cells := 0, slots := 0, locals := 12 } : Room)) (fun a U => a = #[(.ref a1), (.int p2), (.int p3), (.int p4)] ∧ Z.Warmed39 U.vm ∧ U.heap = h0) (fun _ _ _ _ _ => True) (fun _ U o U' => ∃ v L, o = .returned v ∧ Q1 Z a1 p2 p3 p4 u1 u2 u3 h0 n0 v U'.heap L ∧ FrameEnd U o U' L ({ frames := 1, cells := 0, slots := 0, locals := 12 } : Room).cells ({ frames := 1, cells := 0, slots := 0, locals := 12 } : Room).slots) := by
  refine MetFree.of_bodySF (plainFor_of_name pn_1) hisR ?_
  intro p e s m args below meth c s₁ Bd hml0 hP hK
  obtain ⟨rfl, hZ, hh⟩ := hP
  have hx := Bd.exec
  have hby := Bd.bytes
  have hml : c.maxLocals = 4 := hml0
  have hown : s.vm.findClass "com/example/hard_zone/hardzone/TtlLimits" = some m.cls := findClass_of_methodNamed Bd.named
  have hnm := (name_of_methodNamed Bd.named Bd.method).1
  have X0 : Stand p l e ({ frames := 1, cells := 0, slots := 0, locals := 12 } : Room) s m #[(.ref a1), (.int p2), (.int p3), (.int p4)] below meth c s₁ [] 0 0 := Stand.of_body Bd
  have e0 : s₁.heap = h0 := by rw [← hh, Bd.state]; rfl
  have N0 := Fr.nil n0
  obtain ⟨F0, hF0⟩ : ∃ F0, F0 = entryFrame m #[(.ref a1), (.int p2), (.int p3), (.int p4)] 4 := ⟨_, rfl⟩
  have C0 : Go p e below s₁ (mkF m 0 #[.val (.ref a1), .val (.int p2), .val (.int p3), .val (.int p4)] []) s₁ F0 := fun t k => by rw [hF0]; exact castTop (ef_1 m a1 p2 p3 p4) k
  have pre0 : ∀ t, Steps p.tables e below (s₁.setTop F0) t → Steps p.tables e below (s₁.setTop (entryFrame m #[(.ref a1), (.int p2), (.int p3), (.int p4)] 4)) t := fun t k => by rw [← hF0]; exact k
  have C1 : Go p e below s₁ (mkF m 1 #[.val (.ref a1), .val (.int p2), .val (.int p3), .val (.int p4)] [(.ref a1)]) s₁ F0 := fun t k => C0 t (by
    refine XS.aloadN X0.here hx rfl (hb hby d1_0) rfl rfl ?_
    exact k)
  obtain ⟨T2, X2, e2, st2⟩ := initO X0 hx hZ hown (hw _ (List.mem_of_getElem? (i := 7) rfl)) (hw _ (List.mem_of_getElem? (i := 8) rfl)) (hw _ (List.mem_of_getElem? (i := 9) rfl)) e0 (g := (mkF m 1 #[.val (.ref a1), .val (.int p2), .val (.int p3), .val (.int p4)] [(.ref a1)])) rfl (by rw [hml]; rfl) rfl (hb hby d1_1) (by decide) (W := 0) (by show 2 * 0 + _ ≤ _; exact Nat.le_of_eq rfl) (by decide)
  have C2 : Go p e below T2 (mkF m 4 #[.val (.ref a1), .val (.int p2), .val (.int p3), .val (.int p4)] []) s₁ F0 := fun t k => C1 t (st2 t k)
  have C3 : Go p e below T2 (mkF m 6 #[.val (.ref a1), .val (.int p2), .val (.int p3), .val (.int p4)] [(.int p2), (.ref a1)]) s₁ F0 := fun t k => C2 t (by
    refine XS.aloadN X2.here hx rfl (hb hby d1_4) rfl rfl ?_
    show Steps p.tables e below (T2.setTop (mkF m 5 #[.val (.ref a1), .val (.int p2), .val (.int p3), .val (.int p4)] [(.ref a1)])) _
    refine XS.iloadN X2.here hx rfl (hb hby d1_5) rfl ?_
    exact k)
  obtain ⟨T4, h4, X4, e4, W4, st4⟩ := putF X2 hx hZ hown (host := "") (Or.inl (hw _ (List.mem_of_getElem? (i := 10) rfl))) Via.refl e2 F_defaultTtl E_a1 (Or.inr ⟨(hw _ (List.mem_of_getElem? (i := 11) rfl)), rfl, hnm⟩) (hw _ (List.mem_of_getElem? (i := 2) rfl)) (ty := .int) (by decide) rfl rfl (g := (mkF m 6 #[.val (.ref a1), .val (.int p2), .val (.int p3), .val (.int p4)] [(.int p2), (.ref a1)])) rfl rfl (hb hby d1_6)
  have C4 : Go p e below T4 (mkF m 9 #[.val (.ref a1), .val (.int p2), .val (.int p3), .val (.int p4)] []) s₁ F0 := fun t k => C3 t (st4 t k)
  have N4 := Fr.snoc X4 N0 g_a1
  have K4 := Keep.wr (Keep.refl h0 [a1]) W4 (Or.inl (List.mem_of_getElem? (i := 0) rfl))
  have Ea4 := E_a1.wr W4
  have Fmn4 := F_minTtl.other W4 (Or.inr (slot_ne (Or.inr (hw _ (List.mem_of_getElem? (i := 13) rfl))) (Or.inr (hw _ (List.mem_of_getElem? (i := 11) rfl))) (by decide) (t := .int) (t' := .int) (by decide) (by decide)))
  have Fmx4 := F_maxTtl.other W4 (Or.inr (slot_ne (Or.inr (hw _ (List.mem_of_getElem? (i := 15) rfl))) (Or.inr (hw _ (List.mem_of_getElem? (i := 11) rfl))) (by decide) (t := .int) (t' := .int) (by decide) (by decide)))
  have C5 : Go p e below T4 (mkF m 11 #[.val (.ref a1), .val (.int p2), .val (.int p3), .val (.int p4)] [(.int p3), (.ref a1)]) s₁ F0 := fun t k => C4 t (by
    refine XS.aloadN X4.here hx rfl (hb hby d1_9) rfl rfl ?_
    show Steps p.tables e below (T4.setTop (mkF m 10 #[.val (.ref a1), .val (.int p2), .val (.int p3), .val (.int p4)] [(.ref a1)])) _
    refine XS.iloadN X4.here hx rfl (hb hby d1_10) rfl ?_
    exact k)
  obtain ⟨T6, h6, X6, e6, W6, st6⟩ := putF X4 hx hZ hown (host := "") (Or.inl (hw _ (List.mem_of_getElem? (i := 12) rfl))) Via.refl e4 Fmn4 Ea4 (Or.inr ⟨(hw _ (List.mem_of_getElem? (i := 13) rfl)), rfl, hnm⟩) (hw _ (List.mem_of_getElem? (i := 2) rfl)) (ty := .int) (by decide) rfl rfl (g := (mkF m 11 #[.val (.ref a1), .val (.int p2), .val (.int p3), .val (.int p4)] [(.int p3), (.ref a1)])) rfl rfl (hb hby d1_11)
  have C6 : Go p e below T6 (mkF m 14 #[.val (.ref a1), .val (.int p2), .val (.int p3), .val (.int p4)] []) s₁ F0 := fun t k => C5 t (st6 t k)
  have N6 := Fr.snoc X6 N4 g_a1
  have K6 := K4.wr W6 (Or.inl (List.mem_of_getElem? (i := 0) rfl))
  have Ea6 := Ea4.wr W6
  have Fmn6 := Fmn4.same W6
  have Fmx6 := Fmx4.other W6 (Or.inr (slot_ne (Or.inr (hw _ (List.mem_of_getElem? (i := 15) rfl))) (Or.inr (hw _ (List.mem_of_getElem? (i := 13) rfl))) (by decide) (t := .int) (t' := .int) (by decide) (by decide)))
  have C7 : Go p e below T6 (mkF m 16 #[.val (.ref a1), .val (.int p2), .val (.int p3), .val (.int p4)] [(.int p4), (.ref a1)]) s₁ F0 := fun t k => C6 t (by
    refine XS.aloadN X6.here hx rfl (hb hby d1_14) rfl rfl ?_
    show Steps p.tables e below (T6.setTop (mkF m 15 #[.val (.ref a1), .val (.int p2), .val (.int p3), .val (.int p4)] [(.ref a1)])) _
    refine XS.iloadN X6.here hx rfl (hb hby d1_15) rfl ?_
    exact k)
  obtain ⟨T8, h8, X8, e8, W8, st8⟩ := putF X6 hx hZ hown (host := "") (Or.inl (hw _ (List.mem_of_getElem? (i := 14) rfl))) Via.refl e6 Fmx6 Ea6 (Or.inr ⟨(hw _ (List.mem_of_getElem? (i := 15) rfl)), rfl, hnm⟩) (hw _ (List.mem_of_getElem? (i := 2) rfl)) (ty := .int) (by decide) rfl rfl (g := (mkF m 16 #[.val (.ref a1), .val (.int p2), .val (.int p3), .val (.int p4)] [(.int p4), (.ref a1)])) rfl rfl (hb hby d1_16)
  have C8 : Go p e below T8 (mkF m 19 #[.val (.ref a1), .val (.int p2), .val (.int p3), .val (.int p4)] []) s₁ F0 := fun t k => C7 t (st8 t k)
  have N8 := Fr.snoc X8 N6 g_a1
  have K8 := K6.wr W8 (Or.inl (List.mem_of_getElem? (i := 0) rfl))
  have Ea8 := Ea6.wr W8
  have Fmn8 := Fmn6.other W8 (Or.inr (slot_ne (Or.inr (hw _ (List.mem_of_getElem? (i := 13) rfl))) (Or.inr (hw _ (List.mem_of_getElem? (i := 15) rfl))) (by decide) (t := .int) (t' := .int) (by decide) (by decide)))
  have Fmx8 := Fmx6.same W8
  obtain ⟨fs, hr, hrun, hended, hW, hsame⟩ := X8.leave (v := none) (fun _ => rfl)
  refine ⟨_, _, pre0 _ (C8 _ ?_), hrun, hended, _, _, rfl, ?_, ⟨_, rfl⟩, hW, hsame.mono (by decide) (by decide)⟩
  · exact X8.returnOut hx Bd.returns (hb hby d1_19) hr
  · show Q1 Z a1 p2 p3 p4 u1 u2 u3 h0 n0 _ T8.heap _
    rw [e8]
    exact ⟨rfl, N8, K8, Ea8, Fmn8, Fmx8⟩
theorem d3_0 : decode prog_26_method_4_code 0 = .ok (.iload_n 1, 1) := by decide +kernel
theorem d3_1 : decode prog_26_method_4_code 1 = .ok (.istore_n 2, 1) := by decide +kernel
theorem d3_2 : decode prog_26_method_4_code 2 = .ok (.aload_n 0, 1) := by decide +kernel
theorem d3_3 : decode prog_26_method_4_code 3 = .ok (.getfield 13, 3) := by decide +kernel
theorem d3_6 : decode prog_26_method_4_code 6 = .ok (.ifCond .le 19, 3) := by decide +kernel
theorem d3_9 : decode prog_26_method_4_code 9 = .ok (.iload_n 2, 1) := by decide +kernel
theorem d3_10 : decode prog_26_method_4_code 10 = .ok (.aload_n 0, 1) := by decide +kernel
theorem d3_11 : decode prog_26_method_4_code 11 = .ok (.getfield 13, 3) := by decide +kernel
theorem d3_14 : decode prog_26_method_4_code 14 = .ok (.if_icmp .ge 11, 3) := by decide +kernel
theorem d3_17 : decode prog_26_method_4_code 17 = .ok (.aload_n 0, 1) := by decide +kernel
theorem d3_18 : decode prog_26_method_4_code 18 = .ok (.getfield 13, 3) := by decide +kernel
theorem d3_21 : decode prog_26_method_4_code 21 = .ok (.istore_n 2, 1) := by decide +kernel
theorem d3_22 : decode prog_26_method_4_code 22 = .ok (.goto 23, 3) := by decide +kernel
theorem d3_25 : decode prog_26_method_4_code 25 = .ok (.aload_n 0, 1) := by decide +kernel
theorem d3_26 : decode prog_26_method_4_code 26 = .ok (.getfield 16, 3) := by decide +kernel
theorem d3_29 : decode prog_26_method_4_code 29 = .ok (.ifCond .le 16, 3) := by decide +kernel
theorem d3_32 : decode prog_26_method_4_code 32 = .ok (.iload_n 2, 1) := by decide +kernel
theorem d3_33 : decode prog_26_method_4_code 33 = .ok (.aload_n 0, 1) := by decide +kernel
theorem d3_34 : decode prog_26_method_4_code 34 = .ok (.getfield 16, 3) := by decide +kernel
theorem d3_37 : decode prog_26_method_4_code 37 = .ok (.if_icmp .le 8, 3) := by decide +kernel
theorem d3_40 : decode prog_26_method_4_code 40 = .ok (.aload_n 0, 1) := by decide +kernel
theorem d3_41 : decode prog_26_method_4_code 41 = .ok (.getfield 16, 3) := by decide +kernel
theorem d3_44 : decode prog_26_method_4_code 44 = .ok (.istore_n 2, 1) := by decide +kernel
theorem d3_45 : decode prog_26_method_4_code 45 = .ok (.iload_n 2, 1) := by decide +kernel
theorem d3_46 : decode prog_26_method_4_code 46 = .ok (.ireturn, 1) := by decide +kernel
theorem pn_3 : plainName "com/example/hard_zone/hardzone/TtlLimits" = true := by first | (simp [plainName, overriddenIn]; done) | decide +kernel
theorem pd_3 : parseMethodDescriptor "(I)I" = some ⟨[.int], some .int⟩ := by decide +kernel
theorem ef_3 (m : MethodId) (x0 : Addr) (x1 : Int32) : entryFrame m #[(.ref x0), (.int x1)] 3 = mkF m 0 #[.val (.ref x0), .val (.int x1), .unset] [] := by first | (simp [entryFrame, mkF, argsToLocals, Value.category]; done) | rfl
def Q3 (Z : State) (a1 : Addr) (p2 mn mx : Int32) (h0 : Heap) (n0 : Nat) (v : Option Value) (h : Heap) (L : List Loc) : Prop := v = some (.int (own_bound mn mx p2)) ∧ Fr n0 L ∧ h = h0
set_option maxRecDepth 65536 in
set_option maxHeartbeats 40000000 in
theorem rm3 (l : Launch) (Z : State) (a0 : Array Value) (hw : ∀ d ∈ tables_1, d.before a0 Z = true) (ws : List Jvm.Cond) (a1 : Addr) (p2 mn mx : Int32) (h0 : Heap) (n0 : Nat) (Z0 : n0 ≤ h0.size) (Fmn : Fld Z h0 a1 "com/example/hard_zone/hardzone/TtlLimits" "minTtl" "I" (.int mn)) (Fmx : Fld Z h0 a1 "com/example/hard_zone/hardzone/TtlLimits" "maxTtl" "I" (.int mx)) :
    MetFree l (⟨"com/example/hard_zone/hardzone/TtlLimits", "bound", "(I)I"⟩ : MethodName) (head1 (Jvm.Cond.code (⟨"com/example/hard_zone/hardzone/TtlLimits", "bound", "(I)I"⟩ : MethodName) prog_26_method_4_code 3 (some .int) :: ws) ({ frames := 0, cells := 0, slots := 0, locals := 0 } : Room)) (fun a U => a = #[(.ref a1), (.int p2)] ∧ Z.Warmed39 U.vm ∧ U.heap = h0) (fun _ _ _ _ _ => True) (fun _ U o U' => ∃ v L, o = .returned v ∧ Q3 Z a1 p2 mn mx h0 n0 v U'.heap L ∧ FrameEnd U o U' L ({ frames := 0, cells := 0, slots := 0, locals := 0 } : Room).cells ({ frames := 0, cells := 0, slots := 0, locals := 0 } : Room).slots) := by
  refine MetFree.of_bodySF (plainFor_of_name pn_3) hisR ?_
  intro p e s m args below meth c s₁ Bd hml0 hP hK
  obtain ⟨rfl, hZ, hh⟩ := hP
  have hx := Bd.exec
  have hby := Bd.bytes
  have hml : c.maxLocals = 3 := hml0
  have hown : s.vm.findClass "com/example/hard_zone/hardzone/TtlLimits" = some m.cls := findClass_of_methodNamed Bd.named
  have hnm := (name_of_methodNamed Bd.named Bd.method).1
  have X0 : Stand p l e ({ frames := 0, cells := 0, slots := 0, locals := 0 } : Room) s m #[(.ref a1), (.int p2)] below meth c s₁ [] 0 0 := Stand.of_body Bd
  have e0 : s₁.heap = h0 := by rw [← hh, Bd.state]; rfl
  have N0 := Fr.nil n0
  obtain ⟨F0, hF0⟩ : ∃ F0, F0 = entryFrame m #[(.ref a1), (.int p2)] 3 := ⟨_, rfl⟩
  have C0 : Go p e below s₁ (mkF m 0 #[.val (.ref a1), .val (.int p2), .unset] []) s₁ F0 := fun t k => by rw [hF0]; exact castTop (ef_3 m a1 p2) k
  have pre0 : ∀ t, Steps p.tables e below (s₁.setTop F0) t → Steps p.tables e below (s₁.setTop (entryFrame m #[(.ref a1), (.int p2)] 3)) t := fun t k => by rw [← hF0]; exact k
  have C1 : Go p e below s₁ (mkF m 3 #[.val (.ref a1), .val (.int p2), .val (.int p2)] [(.ref a1)]) s₁ F0 := fun t k => C0 t (by
    refine XS.iloadN X0.here hx rfl (hb hby d3_0) rfl ?_
    show Steps p.tables e below (s₁.setTop (mkF m 1 #[.val (.ref a1), .val (.int p2), .unset] [(.int p2)])) _
    refine XS.istoreN X0.here hx rfl (hb hby d3_1) rfl (l' := #[.val (.ref a1), .val (.int p2), .val (.int p2)]) rfl ?_
    show Steps p.tables e below (s₁.setTop (mkF m 2 #[.val (.ref a1), .val (.int p2), .val (.int p2)] [])) _
    refine XS.aloadN X0.here hx rfl (hb hby d3_2) rfl rfl ?_
    exact k)
  obtain ⟨T2, X2, e2, st2⟩ := getF X0 hx hZ hown (host := "") (Or.inl (hw _ (List.mem_of_getElem? (i := 12) rfl))) Via.refl e0 Fmn (g := (mkF m 3 #[.val (.ref a1), .val (.int p2), .val (.int p2)] [(.ref a1)])) rfl rfl (hb hby d3_3)
  have C2 : Go p e below T2 (mkF m 6 #[.val (.ref a1), .val (.int p2), .val (.int p2)] [(.int mn)]) s₁ F0 := fun t k => C1 t (st2 t k)
  obtain ⟨T45, X45, e45, C45⟩ : ∃ T', Stand p l e ({ frames := 0, cells := 0, slots := 0, locals := 0 } : Room) s m #[(.ref a1), (.int p2)] below meth c T' [] 0 0 ∧ T'.heap = h0 ∧ Go p e below T' (mkF m 45 #[.val (.ref a1), .val (.int p2), .val (.int (own_bound mn mx p2))] []) s₁ F0 := by
    by_cases hc : 0 < mn ∧ p2 < mn
    · have q : own_bound mn mx p2 = mn := if_pos hc
      have C3 : Go p e below T2 (mkF m 11 #[.val (.ref a1), .val (.int p2), .val (.int p2)] [(.ref a1), (.int p2)]) s₁ F0 := fun t k => C2 t (by
        refine XS.ifNo X2.here hx rfl (hb hby d3_6) rfl ((if0 _ _).trans (tlt hc.1).2.2.2) ?_
        show Steps p.tables e below (T2.setTop (mkF m 9 #[.val (.ref a1), .val (.int p2), .val (.int p2)] [])) _
        refine XS.iloadN X2.here hx rfl (hb hby d3_9) rfl ?_
        show Steps p.tables e below (T2.setTop (mkF m 10 #[.val (.ref a1), .val (.int p2), .val (.int p2)] [(.int p2)])) _
        refine XS.aloadN X2.here hx rfl (hb hby d3_10) rfl rfl ?_
        exact k)
      obtain ⟨T4, X4, e4, st4⟩ := getF X2 hx hZ hown (host := "") (Or.inl (hw _ (List.mem_of_getElem? (i := 12) rfl))) Via.refl e2 Fmn (g := (mkF m 11 #[.val (.ref a1), .val (.int p2), .val (.int p2)] [(.ref a1), (.int p2)])) rfl rfl (hb hby d3_11)
      have C4 : Go p e below T4 (mkF m 14 #[.val (.ref a1), .val (.int p2), .val (.int p2)] [(.int mn), (.int p2)]) s₁ F0 := fun t k => C3 t (st4 t k)
      have C5 : Go p e below T4 (mkF m 18 #[.val (.ref a1), .val (.int p2), .val (.int p2)] [(.ref a1)]) s₁ F0 := fun t k => C4 t (by
        refine XS.icmpNo X4.here hx rfl (hb hby d3_14) rfl (tlt hc.2).2.1 ?_
        show Steps p.tables e below (T4.setTop (mkF m 17 #[.val (.ref a1), .val (.int p2), .val (.int p2)] [])) _
        refine XS.aloadN X4.here hx rfl (hb hby d3_17) rfl rfl ?_
        exact k)
      obtain ⟨T6, X6, e6, st6⟩ := getF X4 hx hZ hown (host := "") (Or.inl (hw _ (List.mem_of_getElem? (i := 12) rfl))) Via.refl e4 Fmn (g := (mkF m 18 #[.val (.ref a1), .val (.int p2), .val (.int p2)] [(.ref a1)])) rfl rfl (hb hby d3_18)
      have C6 : Go p e below T6 (mkF m 21 #[.val (.ref a1), .val (.int p2), .val (.int p2)] [(.int mn)]) s₁ F0 := fun t k => C5 t (st6 t k)
      have C7 : Go p e below T6 (mkF m 45 #[.val (.ref a1), .val (.int p2), .val (.int mn)] []) s₁ F0 := fun t k => C6 t (by
        refine XS.istoreN X6.here hx rfl (hb hby d3_21) rfl (l' := #[.val (.ref a1), .val (.int p2), .val (.int mn)]) rfl ?_
        show Steps p.tables e below (T6.setTop (mkF m 22 #[.val (.ref a1), .val (.int p2), .val (.int mn)] [])) _
        refine XS.goto X6.here hx rfl (pc0 := 22) (pc' := 45) rfl (hb hby d3_22) (by decide) (by decide) ?_
        exact k)
      rw [q]
      exact ⟨_, X6, e6, C7⟩
    · skip
      obtain ⟨T25, X25, e25, C25⟩ : ∃ T', Stand p l e ({ frames := 0, cells := 0, slots := 0, locals := 0 } : Room) s m #[(.ref a1), (.int p2)] below meth c T' [] 0 0 ∧ T'.heap = h0 ∧ Go p e below T' (mkF m 25 #[.val (.ref a1), .val (.int p2), .val (.int p2)] []) s₁ F0 := by
        by_cases c1 : 0 < mn
        · have c2 : ¬ p2 < mn := fun h => hc ⟨c1, h⟩
          have C8 : Go p e below T2 (mkF m 11 #[.val (.ref a1), .val (.int p2), .val (.int p2)] [(.ref a1), (.int p2)]) s₁ F0 := fun t k => C2 t (by
            refine XS.ifNo X2.here hx rfl (hb hby d3_6) rfl ((if0 _ _).trans (tlt c1).2.2.2) ?_
            show Steps p.tables e below (T2.setTop (mkF m 9 #[.val (.ref a1), .val (.int p2), .val (.int p2)] [])) _
            refine XS.iloadN X2.here hx rfl (hb hby d3_9) rfl ?_
            show Steps p.tables e below (T2.setTop (mkF m 10 #[.val (.ref a1), .val (.int p2), .val (.int p2)] [(.int p2)])) _
            refine XS.aloadN X2.here hx rfl (hb hby d3_10) rfl rfl ?_
            exact k)
          obtain ⟨T9, X9, e9, st9⟩ := getF X2 hx hZ hown (host := "") (Or.inl (hw _ (List.mem_of_getElem? (i := 12) rfl))) Via.refl e2 Fmn (g := (mkF m 11 #[.val (.ref a1), .val (.int p2), .val (.int p2)] [(.ref a1), (.int p2)])) rfl rfl (hb hby d3_11)
          have C9 : Go p e below T9 (mkF m 14 #[.val (.ref a1), .val (.int p2), .val (.int p2)] [(.int mn), (.int p2)]) s₁ F0 := fun t k => C8 t (st9 t k)
          have C10 : Go p e below T9 (mkF m 25 #[.val (.ref a1), .val (.int p2), .val (.int p2)] []) s₁ F0 := fun t k => C9 t (by
            refine XS.icmpYes X9.here hx rfl (pc0 := 14) (pc' := 25) rfl (hb hby d3_14) rfl (flt c2).2.1 (by decide) (by decide) ?_
            exact k)
          exact ⟨_, X9, e9, C10⟩
        · skip
          have C11 : Go p e below T2 (mkF m 25 #[.val (.ref a1), .val (.int p2), .val (.int p2)] []) s₁ F0 := fun t k => C2 t (by
            refine XS.ifYes X2.here hx rfl (pc0 := 6) (pc' := 25) rfl (hb hby d3_6) rfl ((if0 _ _).trans (flt c1).2.2.2) (by decide) (by decide) ?_
            exact k)
          exact ⟨_, X2, e2, C11⟩
      have C12 : Go p e below T25 (mkF m 26 #[.val (.ref a1), .val (.int p2), .val (.int p2)] [(.ref a1)]) s₁ F0 := fun t k => C25 t (by
        refine XS.aloadN X25.here hx rfl (hb hby d3_25) rfl rfl ?_
        exact k)
      obtain ⟨T13, X13, e13, st13⟩ := getF X25 hx hZ hown (host := "") (Or.inl (hw _ (List.mem_of_getElem? (i := 14) rfl))) Via.refl e25 Fmx (g := (mkF m 26 #[.val (.ref a1), .val (.int p2), .val (.int p2)] [(.ref a1)])) rfl rfl (hb hby d3_26)
      have C13 : Go p e below T13 (mkF m 29 #[.val (.ref a1), .val (.int p2), .val (.int p2)] [(.int mx)]) s₁ F0 := fun t k => C12 t (st13 t k)
      by_cases d1 : 0 < mx
      · by_cases d2 : mx < p2
        · have q : own_bound mn mx p2 = mx := (if_neg hc).trans (if_pos ⟨d1, d2⟩)
          have C14 : Go p e below T13 (mkF m 34 #[.val (.ref a1), .val (.int p2), .val (.int p2)] [(.ref a1), (.int p2)]) s₁ F0 := fun t k => C13 t (by
            refine XS.ifNo X13.here hx rfl (hb hby d3_29) rfl ((if0 _ _).trans (tlt d1).2.2.2) ?_
            show Steps p.tables e below (T13.setTop (mkF m 32 #[.val (.ref a1), .val (.int p2), .val (.int p2)] [])) _
            refine XS.iloadN X13.here hx rfl (hb hby d3_32) rfl ?_
            show Steps p.tables e below (T13.setTop (mkF m 33 #[.val (.ref a1), .val (.int p2), .val (.int p2)] [(.int p2)])) _
            refine XS.aloadN X13.here hx rfl (hb hby d3_33) rfl rfl ?_
            exact k)
          obtain ⟨T15, X15, e15, st15⟩ := getF X13 hx hZ hown (host := "") (Or.inl (hw _ (List.mem_of_getElem? (i := 14) rfl))) Via.refl e13 Fmx (g := (mkF m 34 #[.val (.ref a1), .val (.int p2), .val (.int p2)] [(.ref a1), (.int p2)])) rfl rfl (hb hby d3_34)
          have C15 : Go p e below T15 (mkF m 37 #[.val (.ref a1), .val (.int p2), .val (.int p2)] [(.int mx), (.int p2)]) s₁ F0 := fun t k => C14 t (st15 t k)
          have C16 : Go p e below T15 (mkF m 41 #[.val (.ref a1), .val (.int p2), .val (.int p2)] [(.ref a1)]) s₁ F0 := fun t k => C15 t (by
            refine XS.icmpNo X15.here hx rfl (hb hby d3_37) rfl (tlt d2).2.2.2 ?_
            show Steps p.tables e below (T15.setTop (mkF m 40 #[.val (.ref a1), .val (.int p2), .val (.int p2)] [])) _
            refine XS.aloadN X15.here hx rfl (hb hby d3_40) rfl rfl ?_
            exact k)
          obtain ⟨T17, X17, e17, st17⟩ := getF X15 hx hZ hown (host := "") (Or.inl (hw _ (List.mem_of_getElem? (i := 14) rfl))) Via.refl e15 Fmx (g := (mkF m 41 #[.val (.ref a1), .val (.int p2), .val (.int p2)] [(.ref a1)])) rfl rfl (hb hby d3_41)
          have C17 : Go p e below T17 (mkF m 44 #[.val (.ref a1), .val (.int p2), .val (.int p2)] [(.int mx)]) s₁ F0 := fun t k => C16 t (st17 t k)
          have C18 : Go p e below T17 (mkF m 45 #[.val (.ref a1), .val (.int p2), .val (.int mx)] []) s₁ F0 := fun t k => C17 t (by
            refine XS.istoreN X17.here hx rfl (hb hby d3_44) rfl (l' := #[.val (.ref a1), .val (.int p2), .val (.int mx)]) rfl ?_
            exact k)
          rw [q]
          exact ⟨_, X17, e17, C18⟩
        · have q : own_bound mn mx p2 = p2 := (if_neg hc).trans (if_neg fun h => d2 h.2)
          have C19 : Go p e below T13 (mkF m 34 #[.val (.ref a1), .val (.int p2), .val (.int p2)] [(.ref a1), (.int p2)]) s₁ F0 := fun t k => C13 t (by
            refine XS.ifNo X13.here hx rfl (hb hby d3_29) rfl ((if0 _ _).trans (tlt d1).2.2.2) ?_
            show Steps p.tables e below (T13.setTop (mkF m 32 #[.val (.ref a1), .val (.int p2), .val (.int p2)] [])) _
            refine XS.iloadN X13.here hx rfl (hb hby d3_32) rfl ?_
            show Steps p.tables e below (T13.setTop (mkF m 33 #[.val (.ref a1), .val (.int p2), .val (.int p2)] [(.int p2)])) _
            refine XS.aloadN X13.here hx rfl (hb hby d3_33) rfl rfl ?_
            exact k)
          obtain ⟨T20, X20, e20, st20⟩ := getF X13 hx hZ hown (host := "") (Or.inl (hw _ (List.mem_of_getElem? (i := 14) rfl))) Via.refl e13 Fmx (g := (mkF m 34 #[.val (.ref a1), .val (.int p2), .val (.int p2)] [(.ref a1), (.int p2)])) rfl rfl (hb hby d3_34)
          have C20 : Go p e below T20 (mkF m 37 #[.val (.ref a1), .val (.int p2), .val (.int p2)] [(.int mx), (.int p2)]) s₁ F0 := fun t k => C19 t (st20 t k)
          have C21 : Go p e below T20 (mkF m 45 #[.val (.ref a1), .val (.int p2), .val (.int p2)] []) s₁ F0 := fun t k => C20 t (by
            refine XS.icmpYes X20.here hx rfl (pc0 := 37) (pc' := 45) rfl (hb hby d3_37) rfl (flt d2).2.2.2 (by decide) (by decide) ?_
            exact k)
          rw [q]
          exact ⟨_, X20, e20, C21⟩
      · have q : own_bound mn mx p2 = p2 := (if_neg hc).trans (if_neg fun h => d1 h.1)
        have C22 : Go p e below T13 (mkF m 45 #[.val (.ref a1), .val (.int p2), .val (.int p2)] []) s₁ F0 := fun t k => C13 t (by
          refine XS.ifYes X13.here hx rfl (pc0 := 29) (pc' := 45) rfl (hb hby d3_29) rfl ((if0 _ _).trans (flt d1).2.2.2) (by decide) (by decide) ?_
          exact k)
        rw [q]
        exact ⟨_, X13, e13, C22⟩
  have C23 : Go p e below T45 (mkF m 46 #[.val (.ref a1), .val (.int p2), .val (.int (own_bound mn mx p2))] [(.int (own_bound mn mx p2))]) s₁ F0 := fun t k => C45 t (by
    refine XS.iloadN X45.here hx rfl (hb hby d3_45) rfl ?_
    exact k)
  obtain ⟨fs, hr, hrun, hended, hW, hsame⟩ := X45.leave (v := (some (.int (own_bound mn mx p2)))) (fun h => by rw [Bd.returns] at h; cases h)
  refine ⟨_, _, pre0 _ (C23 _ ?_), hrun, hended, _, _, rfl, ?_, ⟨_, rfl⟩, hW, hsame.mono (by decide) (by decide)⟩
  · exact retI X45 hx Bd.returns (hb hby d3_46) hr
  · show Q3 Z a1 p2 mn mx h0 n0 _ T45.heap _
    rw [e45]
    exact ⟨rfl, N0, rfl⟩
theorem d4_0 : decode jdk_29_method_65_code 0 = .ok (.iload_n 0, 1) := by decide +kernel
theorem d4_1 : decode jdk_29_method_65_code 1 = .ok (.iload_n 1, 1) := by decide +kernel
theorem d4_2 : decode jdk_29_method_65_code 2 = .ok (.if_icmp .lt 7, 3) := by decide +kernel
theorem d4_5 : decode jdk_29_method_65_code 5 = .ok (.iload_n 0, 1) := by decide +kernel
theorem d4_6 : decode jdk_29_method_65_code 6 = .ok (.goto 4, 3) := by decide +kernel
theorem d4_9 : decode jdk_29_method_65_code 9 = .ok (.iload_n 1, 1) := by decide +kernel
theorem d4_10 : decode jdk_29_method_65_code 10 = .ok (.ireturn, 1) := by decide +kernel
theorem pd_4 : parseMethodDescriptor "(II)I" = some ⟨[.int, .int], some .int⟩ := by decide +kernel
theorem ef_4 (m : MethodId) (x0 : Int32) (x1 : Int32) : entryFrame m #[(.int x0), (.int x1)] 2 = mkF m 0 #[.val (.int x0), .val (.int x1)] [] := by first | (simp [entryFrame, mkF, argsToLocals, Value.category]; done) | rfl
def Q4 (Z : State) (p1 p2 : Int32) (h0 : Heap) (n0 : Nat) (v : Option Value) (h : Heap) (L : List Loc) : Prop := v = some (.int (own_max p1 p2)) ∧ Fr n0 L ∧ h = h0
set_option maxRecDepth 65536 in
set_option maxHeartbeats 40000000 in
theorem rm4 (l : Launch) (Z : State) (a0 : Array Value) (hw : ∀ d ∈ tables_1, d.before a0 Z = true) (ws : List Jvm.Cond) (p1 p2 : Int32) (h0 : Heap) (n0 : Nat) (Z0 : n0 ≤ h0.size)  :
    MetFree l (⟨"java/lang/Math", "max", "(II)I"⟩ : MethodName) (head1 (Jvm.Cond.code (⟨"java/lang/Math", "max", "(II)I"⟩ : MethodName) jdk_29_method_65_code 2 (some .int) :: ws) ({ frames := 0, cells := 0, slots := 0, locals := 0 } : Room)) (fun a U => a = #[(.int p1), (.int p2)] ∧ Z.Warmed39 U.vm ∧ U.heap = h0) (fun _ _ _ _ _ => True) (fun _ U o U' => ∃ v L, o = .returned v ∧ Q4 Z p1 p2 h0 n0 v U'.heap L ∧ FrameEnd U o U' L ({ frames := 0, cells := 0, slots := 0, locals := 0 } : Room).cells ({ frames := 0, cells := 0, slots := 0, locals := 0 } : Room).slots) := by
  refine MetFree.of_bodySF (Jvm.Free.JP.mathPlain rfl (by decide +kernel)) hisR ?_
  intro p e s m args below meth c s₁ Bd hml0 hP hK
  obtain ⟨rfl, hZ, hh⟩ := hP
  have hx := Bd.exec
  have hby := Bd.bytes
  have hml : c.maxLocals = 2 := hml0
  have hown : s.vm.findClass "java/lang/Math" = some m.cls := findClass_of_methodNamed Bd.named
  have hnm := (name_of_methodNamed Bd.named Bd.method).1
  have X0 : Stand p l e ({ frames := 0, cells := 0, slots := 0, locals := 0 } : Room) s m #[(.int p1), (.int p2)] below meth c s₁ [] 0 0 := Stand.of_body Bd
  have e0 : s₁.heap = h0 := by rw [← hh, Bd.state]; rfl
  have N0 := Fr.nil n0
  obtain ⟨F0, hF0⟩ : ∃ F0, F0 = entryFrame m #[(.int p1), (.int p2)] 2 := ⟨_, rfl⟩
  have C0 : Go p e below s₁ (mkF m 0 #[.val (.int p1), .val (.int p2)] []) s₁ F0 := fun t k => by rw [hF0]; exact castTop (ef_4 m p1 p2) k
  have pre0 : ∀ t, Steps p.tables e below (s₁.setTop F0) t → Steps p.tables e below (s₁.setTop (entryFrame m #[(.int p1), (.int p2)] 2)) t := fun t k => by rw [← hF0]; exact k
  have C10 : Go p e below s₁ (mkF m 10 #[.val (.int p1), .val (.int p2)] [(.int (own_max p1 p2))]) s₁ F0 := by
    by_cases c : p1 < p2
    · have q : own_max p1 p2 = p2 := if_pos c
      have C1 : Go p e below s₁ (mkF m 10 #[.val (.int p1), .val (.int p2)] [(.int p2)]) s₁ F0 := fun t k => C0 t (by
        refine XS.iloadN X0.here hx rfl (hb hby d4_0) rfl ?_
        show Steps p.tables e below (s₁.setTop (mkF m 1 #[.val (.int p1), .val (.int p2)] [(.int p1)])) _
        refine XS.iloadN X0.here hx rfl (hb hby d4_1) rfl ?_
        show Steps p.tables e below (s₁.setTop (mkF m 2 #[.val (.int p1), .val (.int p2)] [(.int p2), (.int p1)])) _
        refine XS.icmpYes X0.here hx rfl (pc0 := 2) (pc' := 9) rfl (hb hby d4_2) rfl (tlt c).1 (by decide) (by decide) ?_
        show Steps p.tables e below (s₁.setTop (mkF m 9 #[.val (.int p1), .val (.int p2)] [])) _
        refine XS.iloadN X0.here hx rfl (hb hby d4_9) rfl ?_
        exact k)
      rw [q]
      exact C1
    · have q : own_max p1 p2 = p1 := if_neg c
      have C2 : Go p e below s₁ (mkF m 10 #[.val (.int p1), .val (.int p2)] [(.int p1)]) s₁ F0 := fun t k => C0 t (by
        refine XS.iloadN X0.here hx rfl (hb hby d4_0) rfl ?_
        show Steps p.tables e below (s₁.setTop (mkF m 1 #[.val (.int p1), .val (.int p2)] [(.int p1)])) _
        refine XS.iloadN X0.here hx rfl (hb hby d4_1) rfl ?_
        show Steps p.tables e below (s₁.setTop (mkF m 2 #[.val (.int p1), .val (.int p2)] [(.int p2), (.int p1)])) _
        refine XS.icmpNo X0.here hx rfl (hb hby d4_2) rfl (flt c).1 ?_
        show Steps p.tables e below (s₁.setTop (mkF m 5 #[.val (.int p1), .val (.int p2)] [])) _
        refine XS.iloadN X0.here hx rfl (hb hby d4_5) rfl ?_
        show Steps p.tables e below (s₁.setTop (mkF m 6 #[.val (.int p1), .val (.int p2)] [(.int p1)])) _
        refine XS.goto X0.here hx rfl (pc0 := 6) (pc' := 10) rfl (hb hby d4_6) (by decide) (by decide) ?_
        exact k)
      rw [q]
      exact C2
  obtain ⟨fs, hr, hrun, hended, hW, hsame⟩ := X0.leave (v := (some (.int (own_max p1 p2)))) (fun h => by rw [Bd.returns] at h; cases h)
  refine ⟨_, _, pre0 _ (C10 _ ?_), hrun, hended, _, _, rfl, ?_, ⟨_, rfl⟩, hW, hsame.mono (by decide) (by decide)⟩
  · exact retI X0 hx Bd.returns (hb hby d4_10) hr
  · show Q4 Z p1 p2 h0 n0 _ s₁.heap _
    rw [e0]
    exact ⟨rfl, N0, rfl⟩
theorem d5_0 : decode jdk_29_method_69_code 0 = .ok (.iload_n 0, 1) := by decide +kernel
theorem d5_1 : decode jdk_29_method_69_code 1 = .ok (.iload_n 1, 1) := by decide +kernel
theorem d5_2 : decode jdk_29_method_69_code 2 = .ok (.if_icmp .gt 7, 3) := by decide +kernel
theorem d5_5 : decode jdk_29_method_69_code 5 = .ok (.iload_n 0, 1) := by decide +kernel
theorem d5_6 : decode jdk_29_method_69_code 6 = .ok (.goto 4, 3) := by decide +kernel
theorem d5_9 : decode jdk_29_method_69_code 9 = .ok (.iload_n 1, 1) := by decide +kernel
theorem d5_10 : decode jdk_29_method_69_code 10 = .ok (.ireturn, 1) := by decide +kernel
theorem pd_5 : parseMethodDescriptor "(II)I" = some ⟨[.int, .int], some .int⟩ := by decide +kernel
theorem ef_5 (m : MethodId) (x0 : Int32) (x1 : Int32) : entryFrame m #[(.int x0), (.int x1)] 2 = mkF m 0 #[.val (.int x0), .val (.int x1)] [] := by first | (simp [entryFrame, mkF, argsToLocals, Value.category]; done) | rfl
def Q5 (Z : State) (p1 p2 : Int32) (h0 : Heap) (n0 : Nat) (v : Option Value) (h : Heap) (L : List Loc) : Prop := v = some (.int (own_min p1 p2)) ∧ Fr n0 L ∧ h = h0
set_option maxRecDepth 65536 in
set_option maxHeartbeats 40000000 in
theorem rm5 (l : Launch) (Z : State) (a0 : Array Value) (hw : ∀ d ∈ tables_1, d.before a0 Z = true) (ws : List Jvm.Cond) (p1 p2 : Int32) (h0 : Heap) (n0 : Nat) (Z0 : n0 ≤ h0.size)  :
    MetFree l (⟨"java/lang/Math", "min", "(II)I"⟩ : MethodName) (head1 (Jvm.Cond.code (⟨"java/lang/Math", "min", "(II)I"⟩ : MethodName) jdk_29_method_69_code 2 (some .int) :: ws) ({ frames := 0, cells := 0, slots := 0, locals := 0 } : Room)) (fun a U => a = #[(.int p1), (.int p2)] ∧ Z.Warmed39 U.vm ∧ U.heap = h0) (fun _ _ _ _ _ => True) (fun _ U o U' => ∃ v L, o = .returned v ∧ Q5 Z p1 p2 h0 n0 v U'.heap L ∧ FrameEnd U o U' L ({ frames := 0, cells := 0, slots := 0, locals := 0 } : Room).cells ({ frames := 0, cells := 0, slots := 0, locals := 0 } : Room).slots) := by
  refine MetFree.of_bodySF (Jvm.Free.JP.mathPlain rfl (by decide +kernel)) hisR ?_
  intro p e s m args below meth c s₁ Bd hml0 hP hK
  obtain ⟨rfl, hZ, hh⟩ := hP
  have hx := Bd.exec
  have hby := Bd.bytes
  have hml : c.maxLocals = 2 := hml0
  have hown : s.vm.findClass "java/lang/Math" = some m.cls := findClass_of_methodNamed Bd.named
  have hnm := (name_of_methodNamed Bd.named Bd.method).1
  have X0 : Stand p l e ({ frames := 0, cells := 0, slots := 0, locals := 0 } : Room) s m #[(.int p1), (.int p2)] below meth c s₁ [] 0 0 := Stand.of_body Bd
  have e0 : s₁.heap = h0 := by rw [← hh, Bd.state]; rfl
  have N0 := Fr.nil n0
  obtain ⟨F0, hF0⟩ : ∃ F0, F0 = entryFrame m #[(.int p1), (.int p2)] 2 := ⟨_, rfl⟩
  have C0 : Go p e below s₁ (mkF m 0 #[.val (.int p1), .val (.int p2)] []) s₁ F0 := fun t k => by rw [hF0]; exact castTop (ef_5 m p1 p2) k
  have pre0 : ∀ t, Steps p.tables e below (s₁.setTop F0) t → Steps p.tables e below (s₁.setTop (entryFrame m #[(.int p1), (.int p2)] 2)) t := fun t k => by rw [← hF0]; exact k
  have C10 : Go p e below s₁ (mkF m 10 #[.val (.int p1), .val (.int p2)] [(.int (own_min p1 p2))]) s₁ F0 := by
    by_cases c : p2 < p1
    · have q : own_min p1 p2 = p2 := if_pos c
      have C1 : Go p e below s₁ (mkF m 10 #[.val (.int p1), .val (.int p2)] [(.int p2)]) s₁ F0 := fun t k => C0 t (by
        refine XS.iloadN X0.here hx rfl (hb hby d5_0) rfl ?_
        show Steps p.tables e below (s₁.setTop (mkF m 1 #[.val (.int p1), .val (.int p2)] [(.int p1)])) _
        refine XS.iloadN X0.here hx rfl (hb hby d5_1) rfl ?_
        show Steps p.tables e below (s₁.setTop (mkF m 2 #[.val (.int p1), .val (.int p2)] [(.int p2), (.int p1)])) _
        refine XS.icmpYes X0.here hx rfl (pc0 := 2) (pc' := 9) rfl (hb hby d5_2) rfl (tlt c).2.2.1 (by decide) (by decide) ?_
        show Steps p.tables e below (s₁.setTop (mkF m 9 #[.val (.int p1), .val (.int p2)] [])) _
        refine XS.iloadN X0.here hx rfl (hb hby d5_9) rfl ?_
        exact k)
      rw [q]
      exact C1
    · have q : own_min p1 p2 = p1 := if_neg c
      have C2 : Go p e below s₁ (mkF m 10 #[.val (.int p1), .val (.int p2)] [(.int p1)]) s₁ F0 := fun t k => C0 t (by
        refine XS.iloadN X0.here hx rfl (hb hby d5_0) rfl ?_
        show Steps p.tables e below (s₁.setTop (mkF m 1 #[.val (.int p1), .val (.int p2)] [(.int p1)])) _
        refine XS.iloadN X0.here hx rfl (hb hby d5_1) rfl ?_
        show Steps p.tables e below (s₁.setTop (mkF m 2 #[.val (.int p1), .val (.int p2)] [(.int p2), (.int p1)])) _
        refine XS.icmpNo X0.here hx rfl (hb hby d5_2) rfl (flt c).2.2.1 ?_
        show Steps p.tables e below (s₁.setTop (mkF m 5 #[.val (.int p1), .val (.int p2)] [])) _
        refine XS.iloadN X0.here hx rfl (hb hby d5_5) rfl ?_
        show Steps p.tables e below (s₁.setTop (mkF m 6 #[.val (.int p1), .val (.int p2)] [(.int p1)])) _
        refine XS.goto X0.here hx rfl (pc0 := 6) (pc' := 10) rfl (hb hby d5_6) (by decide) (by decide) ?_
        exact k)
      rw [q]
      exact C2
  obtain ⟨fs, hr, hrun, hended, hW, hsame⟩ := X0.leave (v := (some (.int (own_min p1 p2)))) (fun h => by rw [Bd.returns] at h; cases h)
  refine ⟨_, _, pre0 _ (C10 _ ?_), hrun, hended, _, _, rfl, ?_, ⟨_, rfl⟩, hW, hsame.mono (by decide) (by decide)⟩
  · exact retI X0 hx Bd.returns (hb hby d5_10) hr
  · show Q5 Z p1 p2 h0 n0 _ s₁.heap _
    rw [e0]
    exact ⟨rfl, N0, rfl⟩
theorem pn_0 : plainName "com/example/hard_zone/hardzone/TtlLimitsBoundPinLaw" = true := by first | (simp [plainName, overriddenIn]; done) | decide +kernel
theorem pd_0 : parseMethodDescriptor "(IIIII)Z" = some ⟨[.int, .int, .int, .int, .int], some .boolean⟩ := by decide +kernel
theorem ef_0 (m : MethodId) (x0 : Int32) (x1 : Int32) (x2 : Int32) (x3 : Int32) (x4 : Int32) : entryFrame m #[(.int x0), (.int x1), (.int x2), (.int x3), (.int x4)] maxLocals = mkF m 0 #[.val (.int x0), .val (.int x1), .val (.int x2), .val (.int x3), .val (.int x4), .unset, .unset, .unset, .unset, .unset, .unset, .unset, .unset, .unset, .unset] [] := by first | (simp [entryFrame, mkF, argsToLocals, Value.category, maxLocals]; done) | rfl
def Q0 (Z : State) (p1 p2 p3 p4 p5 : Int32) (h0 : Heap) (n0 : Nat) (v : Option Value) (h : Heap) (L : List Loc) : Prop := v = some (.int 1) ∧ Fr n0 L
set_option maxRecDepth 65536 in
set_option maxHeartbeats 40000000 in
theorem rm0 (l : Launch) (Z : State) (a0 : Array Value) (hw : ∀ d ∈ tables_1, d.before a0 Z = true) (ws : List Jvm.Cond) (p1 p2 p3 p4 p5 : Int32) (h0 : Heap) (n0 : Nat) (Z0 : n0 ≤ h0.size)  :
    MetFree l x (head1 (Jvm.Cond.code x code maxLocals ret :: ws) room_1) (fun a U => a = #[(.int p1), (.int p2), (.int p3), (.int p4), (.int p5)] ∧ Z.Warmed39 U.vm ∧ U.heap = h0) (fun _ _ _ _ _ => True) (fun _ U o U' => ∃ v L, o = .returned v ∧ Q0 Z p1 p2 p3 p4 p5 h0 n0 v U'.heap L ∧ FrameEnd U o U' L room_1.cells room_1.slots) := by
  refine MetFree.of_bodySF (plainFor_of_name pn_0) hisR ?_
  intro p e s m args below meth c s₁ Bd hml0 hP hK
  obtain ⟨rfl, hZ, hh⟩ := hP
  have hx := Bd.exec
  have hby := Bd.bytes
  have hml : c.maxLocals = 15 := hml0
  have hown : s.vm.findClass "com/example/hard_zone/hardzone/TtlLimitsBoundPinLaw" = some m.cls := findClass_of_methodNamed Bd.named
  have hnm := (name_of_methodNamed Bd.named Bd.method).1
  have X0 : Stand p l e room_1 s m #[(.int p1), (.int p2), (.int p3), (.int p4), (.int p5)] below meth c s₁ [] 0 0 := Stand.of_body Bd
  have e0 : s₁.heap = h0 := by rw [← hh, Bd.state]; rfl
  have N0 := Fr.nil n0
  obtain ⟨F0, hF0⟩ : ∃ F0, F0 = entryFrame m #[(.int p1), (.int p2), (.int p3), (.int p4), (.int p5)] maxLocals := ⟨_, rfl⟩
  have C0 : Go p e below s₁ (mkF m 0 #[.val (.int p1), .val (.int p2), .val (.int p3), .val (.int p4), .val (.int p5), .unset, .unset, .unset, .unset, .unset, .unset, .unset, .unset, .unset, .unset] []) s₁ F0 := fun t k => by rw [hF0]; exact castTop (ef_0 m p1 p2 p3 p4 p5) k
  have pre0 : ∀ t, Steps p.tables e below (s₁.setTop F0) t → Steps p.tables e below (s₁.setTop (entryFrame m #[(.int p1), (.int p2), (.int p3), (.int p4), (.int p5)] maxLocals)) t := fun t k => by rw [← hF0]; exact k
  have C1 : Go p e below s₁ (mkF m 12 #[.val (.int p1), .val (.int p2), .val (.int p3), .val (.int p4), .val (.int p5), .val (.int (p2 &&& (2147483647 : Int32))), .val (.int (p3 &&& (2147483647 : Int32))), .unset, .unset, .unset, .unset, .unset, .unset, .unset, .unset] []) s₁ F0 := fun t k => C0 t (by
    refine XS.iloadN X0.here hx rfl (hb hby at_0) rfl ?_
    show Steps p.tables e below (s₁.setTop (mkF m 1 #[.val (.int p1), .val (.int p2), .val (.int p3), .val (.int p4), .val (.int p5), .unset, .unset, .unset, .unset, .unset, .unset, .unset, .unset, .unset, .unset] [(.int p2)])) _
    refine X0.ldcInt hx hown (mvT hZ (hw _ (List.mem_of_getElem? (i := 0) rfl))) (g := (mkF m 1 #[.val (.int p1), .val (.int p2), .val (.int p3), .val (.int p4), .val (.int p5), .unset, .unset, .unset, .unset, .unset, .unset, .unset, .unset, .unset, .unset] [(.int p2)])) rfl (hb hby at_1) _ ?_
    show Steps p.tables e below (s₁.setTop (mkF m 3 #[.val (.int p1), .val (.int p2), .val (.int p3), .val (.int p4), .val (.int p5), .unset, .unset, .unset, .unset, .unset, .unset, .unset, .unset, .unset, .unset] [(.int (2147483647 : Int32)), (.int p2)])) _
    refine XS.iand X0.here hx rfl (hb hby at_3) rfl ?_
    show Steps p.tables e below (s₁.setTop (mkF m 4 #[.val (.int p1), .val (.int p2), .val (.int p3), .val (.int p4), .val (.int p5), .unset, .unset, .unset, .unset, .unset, .unset, .unset, .unset, .unset, .unset] [(.int (p2 &&& (2147483647 : Int32)))])) _
    refine XS.istore X0.here hx rfl (hb hby at_4) rfl (l' := #[.val (.int p1), .val (.int p2), .val (.int p3), .val (.int p4), .val (.int p5), .val (.int (p2 &&& (2147483647 : Int32))), .unset, .unset, .unset, .unset, .unset, .unset, .unset, .unset, .unset]) rfl ?_
    show Steps p.tables e below (s₁.setTop (mkF m 6 #[.val (.int p1), .val (.int p2), .val (.int p3), .val (.int p4), .val (.int p5), .val (.int (p2 &&& (2147483647 : Int32))), .unset, .unset, .unset, .unset, .unset, .unset, .unset, .unset, .unset] [])) _
    refine XS.iloadN X0.here hx rfl (hb hby at_6) rfl ?_
    show Steps p.tables e below (s₁.setTop (mkF m 7 #[.val (.int p1), .val (.int p2), .val (.int p3), .val (.int p4), .val (.int p5), .val (.int (p2 &&& (2147483647 : Int32))), .unset, .unset, .unset, .unset, .unset, .unset, .unset, .unset, .unset] [(.int p3)])) _
    refine X0.ldcInt hx hown (mvT hZ (hw _ (List.mem_of_getElem? (i := 0) rfl))) (g := (mkF m 7 #[.val (.int p1), .val (.int p2), .val (.int p3), .val (.int p4), .val (.int p5), .val (.int (p2 &&& (2147483647 : Int32))), .unset, .unset, .unset, .unset, .unset, .unset, .unset, .unset, .unset] [(.int p3)])) rfl (hb hby at_7) _ ?_
    show Steps p.tables e below (s₁.setTop (mkF m 9 #[.val (.int p1), .val (.int p2), .val (.int p3), .val (.int p4), .val (.int p5), .val (.int (p2 &&& (2147483647 : Int32))), .unset, .unset, .unset, .unset, .unset, .unset, .unset, .unset, .unset] [(.int (2147483647 : Int32)), (.int p3)])) _
    refine XS.iand X0.here hx rfl (hb hby at_9) rfl ?_
    show Steps p.tables e below (s₁.setTop (mkF m 10 #[.val (.int p1), .val (.int p2), .val (.int p3), .val (.int p4), .val (.int p5), .val (.int (p2 &&& (2147483647 : Int32))), .unset, .unset, .unset, .unset, .unset, .unset, .unset, .unset, .unset] [(.int (p3 &&& (2147483647 : Int32)))])) _
    refine XS.istore X0.here hx rfl (hb hby at_10) rfl (l' := #[.val (.int p1), .val (.int p2), .val (.int p3), .val (.int p4), .val (.int p5), .val (.int (p2 &&& (2147483647 : Int32))), .val (.int (p3 &&& (2147483647 : Int32))), .unset, .unset, .unset, .unset, .unset, .unset, .unset, .unset]) rfl ?_
    exact k)
  obtain ⟨mn1, C2⟩ : ∃ mn1 : Int32, Go p e below s₁ (mkF m 22 #[.val (.int p1), .val (.int p2), .val (.int p3), .val (.int p4), .val (.int p5), .val (.int mn1), .val (.int (p3 &&& (2147483647 : Int32))), .unset, .unset, .unset, .unset, .unset, .unset, .unset, .unset] []) s₁ F0 := by
    by_cases c : (p5 &&& 1) = 0
    · skip
      have C3 : Go p e below s₁ (mkF m 22 #[.val (.int p1), .val (.int p2), .val (.int p3), .val (.int p4), .val (.int p5), .val (.int (p2 &&& (2147483647 : Int32))), .val (.int (p3 &&& (2147483647 : Int32))), .unset, .unset, .unset, .unset, .unset, .unset, .unset, .unset] []) s₁ F0 := fun t k => C1 t (by
        refine XS.iload X0.here hx rfl (hb hby at_12) rfl ?_
        show Steps p.tables e below (s₁.setTop (mkF m 14 #[.val (.int p1), .val (.int p2), .val (.int p3), .val (.int p4), .val (.int p5), .val (.int (p2 &&& (2147483647 : Int32))), .val (.int (p3 &&& (2147483647 : Int32))), .unset, .unset, .unset, .unset, .unset, .unset, .unset, .unset] [(.int p5)])) _
        refine XS.iconst X0.here hx rfl (hb hby at_14) ?_
        show Steps p.tables e below (s₁.setTop (mkF m 15 #[.val (.int p1), .val (.int p2), .val (.int p3), .val (.int p4), .val (.int p5), .val (.int (p2 &&& (2147483647 : Int32))), .val (.int (p3 &&& (2147483647 : Int32))), .unset, .unset, .unset, .unset, .unset, .unset, .unset, .unset] [(.int (1 : Int32)), (.int p5)])) _
        refine XS.iand X0.here hx rfl (hb hby at_15) rfl ?_
        show Steps p.tables e below (s₁.setTop (mkF m 16 #[.val (.int p1), .val (.int p2), .val (.int p3), .val (.int p4), .val (.int p5), .val (.int (p2 &&& (2147483647 : Int32))), .val (.int (p3 &&& (2147483647 : Int32))), .unset, .unset, .unset, .unset, .unset, .unset, .unset, .unset] [(.int (p5 &&& (1 : Int32)))])) _
        refine XS.ifYes X0.here hx rfl (pc0 := 16) (pc' := 22) rfl (hb hby at_16) rfl ((if0 _ _).trans (teq c).1) (by decide) (by decide) ?_
        exact k)
      exact ⟨_, C3⟩
    · skip
      have C4 : Go p e below s₁ (mkF m 22 #[.val (.int p1), .val (.int p2), .val (.int p3), .val (.int p4), .val (.int p5), .val (.int (0 : Int32)), .val (.int (p3 &&& (2147483647 : Int32))), .unset, .unset, .unset, .unset, .unset, .unset, .unset, .unset] []) s₁ F0 := fun t k => C1 t (by
        refine XS.iload X0.here hx rfl (hb hby at_12) rfl ?_
        show Steps p.tables e below (s₁.setTop (mkF m 14 #[.val (.int p1), .val (.int p2), .val (.int p3), .val (.int p4), .val (.int p5), .val (.int (p2 &&& (2147483647 : Int32))), .val (.int (p3 &&& (2147483647 : Int32))), .unset, .unset, .unset, .unset, .unset, .unset, .unset, .unset] [(.int p5)])) _
        refine XS.iconst X0.here hx rfl (hb hby at_14) ?_
        show Steps p.tables e below (s₁.setTop (mkF m 15 #[.val (.int p1), .val (.int p2), .val (.int p3), .val (.int p4), .val (.int p5), .val (.int (p2 &&& (2147483647 : Int32))), .val (.int (p3 &&& (2147483647 : Int32))), .unset, .unset, .unset, .unset, .unset, .unset, .unset, .unset] [(.int (1 : Int32)), (.int p5)])) _
        refine XS.iand X0.here hx rfl (hb hby at_15) rfl ?_
        show Steps p.tables e below (s₁.setTop (mkF m 16 #[.val (.int p1), .val (.int p2), .val (.int p3), .val (.int p4), .val (.int p5), .val (.int (p2 &&& (2147483647 : Int32))), .val (.int (p3 &&& (2147483647 : Int32))), .unset, .unset, .unset, .unset, .unset, .unset, .unset, .unset] [(.int (p5 &&& (1 : Int32)))])) _
        refine XS.ifNo X0.here hx rfl (hb hby at_16) rfl ((if0 _ _).trans (feq c).1) ?_
        show Steps p.tables e below (s₁.setTop (mkF m 19 #[.val (.int p1), .val (.int p2), .val (.int p3), .val (.int p4), .val (.int p5), .val (.int (p2 &&& (2147483647 : Int32))), .val (.int (p3 &&& (2147483647 : Int32))), .unset, .unset, .unset, .unset, .unset, .unset, .unset, .unset] [])) _
        refine XS.iconst X0.here hx rfl (hb hby at_19) ?_
        show Steps p.tables e below (s₁.setTop (mkF m 20 #[.val (.int p1), .val (.int p2), .val (.int p3), .val (.int p4), .val (.int p5), .val (.int (p2 &&& (2147483647 : Int32))), .val (.int (p3 &&& (2147483647 : Int32))), .unset, .unset, .unset, .unset, .unset, .unset, .unset, .unset] [(.int (0 : Int32))])) _
        refine XS.istore X0.here hx rfl (hb hby at_20) rfl (l' := #[.val (.int p1), .val (.int p2), .val (.int p3), .val (.int p4), .val (.int p5), .val (.int (0 : Int32)), .val (.int (p3 &&& (2147483647 : Int32))), .unset, .unset, .unset, .unset, .unset, .unset, .unset, .unset]) rfl ?_
        exact k)
      exact ⟨_, C4⟩
  obtain ⟨mx1, C5⟩ : ∃ mx1 : Int32, Go p e below s₁ (mkF m 32 #[.val (.int p1), .val (.int p2), .val (.int p3), .val (.int p4), .val (.int p5), .val (.int mn1), .val (.int mx1), .unset, .unset, .unset, .unset, .unset, .unset, .unset, .unset] []) s₁ F0 := by
    by_cases c : (p5 &&& 2) = 0
    · skip
      have C6 : Go p e below s₁ (mkF m 32 #[.val (.int p1), .val (.int p2), .val (.int p3), .val (.int p4), .val (.int p5), .val (.int mn1), .val (.int (p3 &&& (2147483647 : Int32))), .unset, .unset, .unset, .unset, .unset, .unset, .unset, .unset] []) s₁ F0 := fun t k => C2 t (by
        refine XS.iload X0.here hx rfl (hb hby at_22) rfl ?_
        show Steps p.tables e below (s₁.setTop (mkF m 24 #[.val (.int p1), .val (.int p2), .val (.int p3), .val (.int p4), .val (.int p5), .val (.int mn1), .val (.int (p3 &&& (2147483647 : Int32))), .unset, .unset, .unset, .unset, .unset, .unset, .unset, .unset] [(.int p5)])) _
        refine XS.iconst X0.here hx rfl (hb hby at_24) ?_
        show Steps p.tables e below (s₁.setTop (mkF m 25 #[.val (.int p1), .val (.int p2), .val (.int p3), .val (.int p4), .val (.int p5), .val (.int mn1), .val (.int (p3 &&& (2147483647 : Int32))), .unset, .unset, .unset, .unset, .unset, .unset, .unset, .unset] [(.int (2 : Int32)), (.int p5)])) _
        refine XS.iand X0.here hx rfl (hb hby at_25) rfl ?_
        show Steps p.tables e below (s₁.setTop (mkF m 26 #[.val (.int p1), .val (.int p2), .val (.int p3), .val (.int p4), .val (.int p5), .val (.int mn1), .val (.int (p3 &&& (2147483647 : Int32))), .unset, .unset, .unset, .unset, .unset, .unset, .unset, .unset] [(.int (p5 &&& (2 : Int32)))])) _
        refine XS.ifYes X0.here hx rfl (pc0 := 26) (pc' := 32) rfl (hb hby at_26) rfl ((if0 _ _).trans (teq c).1) (by decide) (by decide) ?_
        exact k)
      exact ⟨_, C6⟩
    · skip
      have C7 : Go p e below s₁ (mkF m 32 #[.val (.int p1), .val (.int p2), .val (.int p3), .val (.int p4), .val (.int p5), .val (.int mn1), .val (.int (0 : Int32)), .unset, .unset, .unset, .unset, .unset, .unset, .unset, .unset] []) s₁ F0 := fun t k => C2 t (by
        refine XS.iload X0.here hx rfl (hb hby at_22) rfl ?_
        show Steps p.tables e below (s₁.setTop (mkF m 24 #[.val (.int p1), .val (.int p2), .val (.int p3), .val (.int p4), .val (.int p5), .val (.int mn1), .val (.int (p3 &&& (2147483647 : Int32))), .unset, .unset, .unset, .unset, .unset, .unset, .unset, .unset] [(.int p5)])) _
        refine XS.iconst X0.here hx rfl (hb hby at_24) ?_
        show Steps p.tables e below (s₁.setTop (mkF m 25 #[.val (.int p1), .val (.int p2), .val (.int p3), .val (.int p4), .val (.int p5), .val (.int mn1), .val (.int (p3 &&& (2147483647 : Int32))), .unset, .unset, .unset, .unset, .unset, .unset, .unset, .unset] [(.int (2 : Int32)), (.int p5)])) _
        refine XS.iand X0.here hx rfl (hb hby at_25) rfl ?_
        show Steps p.tables e below (s₁.setTop (mkF m 26 #[.val (.int p1), .val (.int p2), .val (.int p3), .val (.int p4), .val (.int p5), .val (.int mn1), .val (.int (p3 &&& (2147483647 : Int32))), .unset, .unset, .unset, .unset, .unset, .unset, .unset, .unset] [(.int (p5 &&& (2 : Int32)))])) _
        refine XS.ifNo X0.here hx rfl (hb hby at_26) rfl ((if0 _ _).trans (feq c).1) ?_
        show Steps p.tables e below (s₁.setTop (mkF m 29 #[.val (.int p1), .val (.int p2), .val (.int p3), .val (.int p4), .val (.int p5), .val (.int mn1), .val (.int (p3 &&& (2147483647 : Int32))), .unset, .unset, .unset, .unset, .unset, .unset, .unset, .unset] [])) _
        refine XS.iconst X0.here hx rfl (hb hby at_29) ?_
        show Steps p.tables e below (s₁.setTop (mkF m 30 #[.val (.int p1), .val (.int p2), .val (.int p3), .val (.int p4), .val (.int p5), .val (.int mn1), .val (.int (p3 &&& (2147483647 : Int32))), .unset, .unset, .unset, .unset, .unset, .unset, .unset, .unset] [(.int (0 : Int32))])) _
        refine XS.istore X0.here hx rfl (hb hby at_30) rfl (l' := #[.val (.int p1), .val (.int p2), .val (.int p3), .val (.int p4), .val (.int p5), .val (.int mn1), .val (.int (0 : Int32)), .unset, .unset, .unset, .unset, .unset, .unset, .unset, .unset]) rfl ?_
        exact k)
      exact ⟨_, C7⟩
  obtain ⟨mn, mx, s7, hs7, hmm, CJ⟩ : ∃ (mn mx : Int32) (s7 : Slot), One s7 ∧ ¬ (0 < mn ∧ 0 < mx ∧ mx < mn) ∧ Go p e below s₁ (mkF m 61 #[.val (.int p1), .val (.int p2), .val (.int p3), .val (.int p4), .val (.int p5), .val (.int mn), .val (.int mx), s7, .unset, .unset, .unset, .unset, .unset, .unset, .unset] []) s₁ F0 := by
    by_cases c1 : 0 < mn1
    · by_cases c2 : 0 < mx1
      · by_cases c3 : mx1 < mn1
        · skip
          have C8 : Go p e below s₁ (mkF m 61 #[.val (.int p1), .val (.int p2), .val (.int p3), .val (.int p4), .val (.int p5), .val (.int mx1), .val (.int mn1), .val (.int mn1), .unset, .unset, .unset, .unset, .unset, .unset, .unset] []) s₁ F0 := fun t k => C5 t (by
            refine XS.iload X0.here hx rfl (hb hby at_32) rfl ?_
            show Steps p.tables e below (s₁.setTop (mkF m 34 #[.val (.int p1), .val (.int p2), .val (.int p3), .val (.int p4), .val (.int p5), .val (.int mn1), .val (.int mx1), .unset, .unset, .unset, .unset, .unset, .unset, .unset, .unset] [(.int mn1)])) _
            refine XS.ifNo X0.here hx rfl (hb hby at_34) rfl ((if0 _ _).trans (tlt c1).2.2.2) ?_
            show Steps p.tables e below (s₁.setTop (mkF m 37 #[.val (.int p1), .val (.int p2), .val (.int p3), .val (.int p4), .val (.int p5), .val (.int mn1), .val (.int mx1), .unset, .unset, .unset, .unset, .unset, .unset, .unset, .unset] [])) _
            refine XS.iload X0.here hx rfl (hb hby at_37) rfl ?_
            show Steps p.tables e below (s₁.setTop (mkF m 39 #[.val (.int p1), .val (.int p2), .val (.int p3), .val (.int p4), .val (.int p5), .val (.int mn1), .val (.int mx1), .unset, .unset, .unset, .unset, .unset, .unset, .unset, .unset] [(.int mx1)])) _
            refine XS.ifNo X0.here hx rfl (hb hby at_39) rfl ((if0 _ _).trans (tlt c2).2.2.2) ?_
            show Steps p.tables e below (s₁.setTop (mkF m 42 #[.val (.int p1), .val (.int p2), .val (.int p3), .val (.int p4), .val (.int p5), .val (.int mn1), .val (.int mx1), .unset, .unset, .unset, .unset, .unset, .unset, .unset, .unset] [])) _
            refine XS.iload X0.here hx rfl (hb hby at_42) rfl ?_
            show Steps p.tables e below (s₁.setTop (mkF m 44 #[.val (.int p1), .val (.int p2), .val (.int p3), .val (.int p4), .val (.int p5), .val (.int mn1), .val (.int mx1), .unset, .unset, .unset, .unset, .unset, .unset, .unset, .unset] [(.int mn1)])) _
            refine XS.iload X0.here hx rfl (hb hby at_44) rfl ?_
            show Steps p.tables e below (s₁.setTop (mkF m 46 #[.val (.int p1), .val (.int p2), .val (.int p3), .val (.int p4), .val (.int p5), .val (.int mn1), .val (.int mx1), .unset, .unset, .unset, .unset, .unset, .unset, .unset, .unset] [(.int mx1), (.int mn1)])) _
            refine XS.icmpNo X0.here hx rfl (hb hby at_46) rfl (tlt c3).2.2.2 ?_
            show Steps p.tables e below (s₁.setTop (mkF m 49 #[.val (.int p1), .val (.int p2), .val (.int p3), .val (.int p4), .val (.int p5), .val (.int mn1), .val (.int mx1), .unset, .unset, .unset, .unset, .unset, .unset, .unset, .unset] [])) _
            refine XS.iload X0.here hx rfl (hb hby at_49) rfl ?_
            show Steps p.tables e below (s₁.setTop (mkF m 51 #[.val (.int p1), .val (.int p2), .val (.int p3), .val (.int p4), .val (.int p5), .val (.int mn1), .val (.int mx1), .unset, .unset, .unset, .unset, .unset, .unset, .unset, .unset] [(.int mn1)])) _
            refine XS.istore X0.here hx rfl (hb hby at_51) rfl (l' := #[.val (.int p1), .val (.int p2), .val (.int p3), .val (.int p4), .val (.int p5), .val (.int mn1), .val (.int mx1), .val (.int mn1), .unset, .unset, .unset, .unset, .unset, .unset, .unset]) rfl ?_
            show Steps p.tables e below (s₁.setTop (mkF m 53 #[.val (.int p1), .val (.int p2), .val (.int p3), .val (.int p4), .val (.int p5), .val (.int mn1), .val (.int mx1), .val (.int mn1), .unset, .unset, .unset, .unset, .unset, .unset, .unset] [])) _
            refine XS.iload X0.here hx rfl (hb hby at_53) rfl ?_
            show Steps p.tables e below (s₁.setTop (mkF m 55 #[.val (.int p1), .val (.int p2), .val (.int p3), .val (.int p4), .val (.int p5), .val (.int mn1), .val (.int mx1), .val (.int mn1), .unset, .unset, .unset, .unset, .unset, .unset, .unset] [(.int mx1)])) _
            refine XS.istore X0.here hx rfl (hb hby at_55) rfl (l' := #[.val (.int p1), .val (.int p2), .val (.int p3), .val (.int p4), .val (.int p5), .val (.int mx1), .val (.int mx1), .val (.int mn1), .unset, .unset, .unset, .unset, .unset, .unset, .unset]) rfl ?_
            show Steps p.tables e below (s₁.setTop (mkF m 57 #[.val (.int p1), .val (.int p2), .val (.int p3), .val (.int p4), .val (.int p5), .val (.int mx1), .val (.int mx1), .val (.int mn1), .unset, .unset, .unset, .unset, .unset, .unset, .unset] [])) _
            refine XS.iload X0.here hx rfl (hb hby at_57) rfl ?_
            show Steps p.tables e below (s₁.setTop (mkF m 59 #[.val (.int p1), .val (.int p2), .val (.int p3), .val (.int p4), .val (.int p5), .val (.int mx1), .val (.int mx1), .val (.int mn1), .unset, .unset, .unset, .unset, .unset, .unset, .unset] [(.int mn1)])) _
            refine XS.istore X0.here hx rfl (hb hby at_59) rfl (l' := #[.val (.int p1), .val (.int p2), .val (.int p3), .val (.int p4), .val (.int p5), .val (.int mx1), .val (.int mn1), .val (.int mn1), .unset, .unset, .unset, .unset, .unset, .unset, .unset]) rfl ?_
            exact k)
          exact ⟨_, _, _, One.val rfl, fun h => Int32.lt_asymm c3 h.2.2, C8⟩
        · skip
          have C9 : Go p e below s₁ (mkF m 61 #[.val (.int p1), .val (.int p2), .val (.int p3), .val (.int p4), .val (.int p5), .val (.int mn1), .val (.int mx1), .unset, .unset, .unset, .unset, .unset, .unset, .unset, .unset] []) s₁ F0 := fun t k => C5 t (by
            refine XS.iload X0.here hx rfl (hb hby at_32) rfl ?_
            show Steps p.tables e below (s₁.setTop (mkF m 34 #[.val (.int p1), .val (.int p2), .val (.int p3), .val (.int p4), .val (.int p5), .val (.int mn1), .val (.int mx1), .unset, .unset, .unset, .unset, .unset, .unset, .unset, .unset] [(.int mn1)])) _
            refine XS.ifNo X0.here hx rfl (hb hby at_34) rfl ((if0 _ _).trans (tlt c1).2.2.2) ?_
            show Steps p.tables e below (s₁.setTop (mkF m 37 #[.val (.int p1), .val (.int p2), .val (.int p3), .val (.int p4), .val (.int p5), .val (.int mn1), .val (.int mx1), .unset, .unset, .unset, .unset, .unset, .unset, .unset, .unset] [])) _
            refine XS.iload X0.here hx rfl (hb hby at_37) rfl ?_
            show Steps p.tables e below (s₁.setTop (mkF m 39 #[.val (.int p1), .val (.int p2), .val (.int p3), .val (.int p4), .val (.int p5), .val (.int mn1), .val (.int mx1), .unset, .unset, .unset, .unset, .unset, .unset, .unset, .unset] [(.int mx1)])) _
            refine XS.ifNo X0.here hx rfl (hb hby at_39) rfl ((if0 _ _).trans (tlt c2).2.2.2) ?_
            show Steps p.tables e below (s₁.setTop (mkF m 42 #[.val (.int p1), .val (.int p2), .val (.int p3), .val (.int p4), .val (.int p5), .val (.int mn1), .val (.int mx1), .unset, .unset, .unset, .unset, .unset, .unset, .unset, .unset] [])) _
            refine XS.iload X0.here hx rfl (hb hby at_42) rfl ?_
            show Steps p.tables e below (s₁.setTop (mkF m 44 #[.val (.int p1), .val (.int p2), .val (.int p3), .val (.int p4), .val (.int p5), .val (.int mn1), .val (.int mx1), .unset, .unset, .unset, .unset, .unset, .unset, .unset, .unset] [(.int mn1)])) _
            refine XS.iload X0.here hx rfl (hb hby at_44) rfl ?_
            show Steps p.tables e below (s₁.setTop (mkF m 46 #[.val (.int p1), .val (.int p2), .val (.int p3), .val (.int p4), .val (.int p5), .val (.int mn1), .val (.int mx1), .unset, .unset, .unset, .unset, .unset, .unset, .unset, .unset] [(.int mx1), (.int mn1)])) _
            refine XS.icmpYes X0.here hx rfl (pc0 := 46) (pc' := 61) rfl (hb hby at_46) rfl (flt c3).2.2.2 (by decide) (by decide) ?_
            exact k)
          exact ⟨_, _, _, One.u, fun h => c3 h.2.2, C9⟩
      · skip
        have C10 : Go p e below s₁ (mkF m 61 #[.val (.int p1), .val (.int p2), .val (.int p3), .val (.int p4), .val (.int p5), .val (.int mn1), .val (.int mx1), .unset, .unset, .unset, .unset, .unset, .unset, .unset, .unset] []) s₁ F0 := fun t k => C5 t (by
          refine XS.iload X0.here hx rfl (hb hby at_32) rfl ?_
          show Steps p.tables e below (s₁.setTop (mkF m 34 #[.val (.int p1), .val (.int p2), .val (.int p3), .val (.int p4), .val (.int p5), .val (.int mn1), .val (.int mx1), .unset, .unset, .unset, .unset, .unset, .unset, .unset, .unset] [(.int mn1)])) _
          refine XS.ifNo X0.here hx rfl (hb hby at_34) rfl ((if0 _ _).trans (tlt c1).2.2.2) ?_
          show Steps p.tables e below (s₁.setTop (mkF m 37 #[.val (.int p1), .val (.int p2), .val (.int p3), .val (.int p4), .val (.int p5), .val (.int mn1), .val (.int mx1), .unset, .unset, .unset, .unset, .unset, .unset, .unset, .unset] [])) _
          refine XS.iload X0.here hx rfl (hb hby at_37) rfl ?_
          show Steps p.tables e below (s₁.setTop (mkF m 39 #[.val (.int p1), .val (.int p2), .val (.int p3), .val (.int p4), .val (.int p5), .val (.int mn1), .val (.int mx1), .unset, .unset, .unset, .unset, .unset, .unset, .unset, .unset] [(.int mx1)])) _
          refine XS.ifYes X0.here hx rfl (pc0 := 39) (pc' := 61) rfl (hb hby at_39) rfl ((if0 _ _).trans (flt c2).2.2.2) (by decide) (by decide) ?_
          exact k)
        exact ⟨_, _, _, One.u, fun h => c2 h.2.1, C10⟩
    · skip
      have C11 : Go p e below s₁ (mkF m 61 #[.val (.int p1), .val (.int p2), .val (.int p3), .val (.int p4), .val (.int p5), .val (.int mn1), .val (.int mx1), .unset, .unset, .unset, .unset, .unset, .unset, .unset, .unset] []) s₁ F0 := fun t k => C5 t (by
        refine XS.iload X0.here hx rfl (hb hby at_32) rfl ?_
        show Steps p.tables e below (s₁.setTop (mkF m 34 #[.val (.int p1), .val (.int p2), .val (.int p3), .val (.int p4), .val (.int p5), .val (.int mn1), .val (.int mx1), .unset, .unset, .unset, .unset, .unset, .unset, .unset, .unset] [(.int mn1)])) _
        refine XS.ifYes X0.here hx rfl (pc0 := 34) (pc' := 61) rfl (hb hby at_34) rfl ((if0 _ _).trans (flt c1).2.2.2) (by decide) (by decide) ?_
        exact k)
      exact ⟨_, _, _, One.u, fun h => c1 h.1, C11⟩
  have C12 : Go p e below s₁ (mkF m 74 #[.val (.int p1), .val (.int p2), .val (.int p3), .val (.int p4), .val (.int p5), .val (.int mn), .val (.int mx), .val (.int ((p5 >>> ((2 : Int32) &&& 31)) &&& (3 : Int32))), .val (.int (p4 % (3 : Int32))), .unset, .unset, .unset, .unset, .unset, .unset] []) s₁ F0 := fun t k => CJ t (by
    refine XS.iload X0.here hx rfl (hb hby at_61) rfl ?_
    show Steps p.tables e below (s₁.setTop (mkF m 63 #[.val (.int p1), .val (.int p2), .val (.int p3), .val (.int p4), .val (.int p5), .val (.int mn), .val (.int mx), s7, .unset, .unset, .unset, .unset, .unset, .unset, .unset] [(.int p5)])) _
    refine XS.iconst X0.here hx rfl (hb hby at_63) ?_
    show Steps p.tables e below (s₁.setTop (mkF m 64 #[.val (.int p1), .val (.int p2), .val (.int p3), .val (.int p4), .val (.int p5), .val (.int mn), .val (.int mx), s7, .unset, .unset, .unset, .unset, .unset, .unset, .unset] [(.int (2 : Int32)), (.int p5)])) _
    refine XS.ishr X0.here hx rfl (hb hby at_64) rfl ?_
    show Steps p.tables e below (s₁.setTop (mkF m 65 #[.val (.int p1), .val (.int p2), .val (.int p3), .val (.int p4), .val (.int p5), .val (.int mn), .val (.int mx), s7, .unset, .unset, .unset, .unset, .unset, .unset, .unset] [(.int (p5 >>> ((2 : Int32) &&& 31)))])) _
    refine XS.iconst X0.here hx rfl (hb hby at_65) ?_
    show Steps p.tables e below (s₁.setTop (mkF m 66 #[.val (.int p1), .val (.int p2), .val (.int p3), .val (.int p4), .val (.int p5), .val (.int mn), .val (.int mx), s7, .unset, .unset, .unset, .unset, .unset, .unset, .unset] [(.int (3 : Int32)), (.int (p5 >>> ((2 : Int32) &&& 31)))])) _
    refine XS.iand X0.here hx rfl (hb hby at_66) rfl ?_
    show Steps p.tables e below (s₁.setTop (mkF m 67 #[.val (.int p1), .val (.int p2), .val (.int p3), .val (.int p4), .val (.int p5), .val (.int mn), .val (.int mx), s7, .unset, .unset, .unset, .unset, .unset, .unset, .unset] [(.int ((p5 >>> ((2 : Int32) &&& 31)) &&& (3 : Int32)))])) _
    refine XS.istoreS X0.here hx rfl (hb hby at_67) rfl rfl hs7 ?_
    show Steps p.tables e below (s₁.setTop (mkF m 69 #[.val (.int p1), .val (.int p2), .val (.int p3), .val (.int p4), .val (.int p5), .val (.int mn), .val (.int mx), .val (.int ((p5 >>> ((2 : Int32) &&& 31)) &&& (3 : Int32))), .unset, .unset, .unset, .unset, .unset, .unset, .unset] [])) _
    refine XS.iloadN X0.here hx rfl (hb hby at_69) rfl ?_
    show Steps p.tables e below (s₁.setTop (mkF m 70 #[.val (.int p1), .val (.int p2), .val (.int p3), .val (.int p4), .val (.int p5), .val (.int mn), .val (.int mx), .val (.int ((p5 >>> ((2 : Int32) &&& 31)) &&& (3 : Int32))), .unset, .unset, .unset, .unset, .unset, .unset, .unset] [(.int p4)])) _
    refine XS.iconst X0.here hx rfl (hb hby at_70) ?_
    show Steps p.tables e below (s₁.setTop (mkF m 71 #[.val (.int p1), .val (.int p2), .val (.int p3), .val (.int p4), .val (.int p5), .val (.int mn), .val (.int mx), .val (.int ((p5 >>> ((2 : Int32) &&& 31)) &&& (3 : Int32))), .unset, .unset, .unset, .unset, .unset, .unset, .unset] [(.int (3 : Int32)), (.int p4)])) _
    refine iremM (g := (mkF m 71 #[.val (.int p1), .val (.int p2), .val (.int p3), .val (.int p4), .val (.int p5), .val (.int mn), .val (.int mx), .val (.int ((p5 >>> ((2 : Int32) &&& 31)) &&& (3 : Int32))), .unset, .unset, .unset, .unset, .unset, .unset, .unset] [(.int (3 : Int32)), (.int p4)])) X0 hx rfl (hb hby at_71) rfl (by decide) ?_
    show Steps p.tables e below (s₁.setTop (mkF m 72 #[.val (.int p1), .val (.int p2), .val (.int p3), .val (.int p4), .val (.int p5), .val (.int mn), .val (.int mx), .val (.int ((p5 >>> ((2 : Int32) &&& 31)) &&& (3 : Int32))), .unset, .unset, .unset, .unset, .unset, .unset, .unset] [(.int (p4 % (3 : Int32)))])) _
    refine XS.istore X0.here hx rfl (hb hby at_72) rfl (l' := #[.val (.int p1), .val (.int p2), .val (.int p3), .val (.int p4), .val (.int p5), .val (.int mn), .val (.int mx), .val (.int ((p5 >>> ((2 : Int32) &&& 31)) &&& (3 : Int32))), .val (.int (p4 % (3 : Int32))), .unset, .unset, .unset, .unset, .unset, .unset]) rfl ?_
    exact k)
  obtain ⟨sec, CK⟩ : ∃ sec : Int32, Go p e below s₁ (mkF m 109 #[.val (.int p1), .val (.int p2), .val (.int p3), .val (.int p4), .val (.int p5), .val (.int mn), .val (.int mx), .val (.int ((p5 >>> ((2 : Int32) &&& 31)) &&& (3 : Int32))), .val (.int (p4 % (3 : Int32))), .val (.int sec), .unset, .unset, .unset, .unset, .unset] []) s₁ F0 := by
    by_cases c1 : ((p5 >>> ((2 : Int32) &&& 31)) &&& (3 : Int32)) = 1
    · skip
      have C13 : Go p e below s₁ (mkF m 109 #[.val (.int p1), .val (.int p2), .val (.int p3), .val (.int p4), .val (.int p5), .val (.int mn), .val (.int mx), .val (.int ((p5 >>> ((2 : Int32) &&& 31)) &&& (3 : Int32))), .val (.int (p4 % (3 : Int32))), .val (.int (mn + (p4 % (3 : Int32)))), .unset, .unset, .unset, .unset, .unset] []) s₁ F0 := fun t k => C12 t (by
        refine XS.iload X0.here hx rfl (hb hby at_74) rfl ?_
        show Steps p.tables e below (s₁.setTop (mkF m 76 #[.val (.int p1), .val (.int p2), .val (.int p3), .val (.int p4), .val (.int p5), .val (.int mn), .val (.int mx), .val (.int ((p5 >>> ((2 : Int32) &&& 31)) &&& (3 : Int32))), .val (.int (p4 % (3 : Int32))), .unset, .unset, .unset, .unset, .unset, .unset] [(.int ((p5 >>> ((2 : Int32) &&& 31)) &&& (3 : Int32)))])) _
        refine XS.iconst X0.here hx rfl (hb hby at_76) ?_
        show Steps p.tables e below (s₁.setTop (mkF m 77 #[.val (.int p1), .val (.int p2), .val (.int p3), .val (.int p4), .val (.int p5), .val (.int mn), .val (.int mx), .val (.int ((p5 >>> ((2 : Int32) &&& 31)) &&& (3 : Int32))), .val (.int (p4 % (3 : Int32))), .unset, .unset, .unset, .unset, .unset, .unset] [(.int (1 : Int32)), (.int ((p5 >>> ((2 : Int32) &&& 31)) &&& (3 : Int32)))])) _
        refine XS.icmpNo X0.here hx rfl (hb hby at_77) rfl (teq c1).2 ?_
        show Steps p.tables e below (s₁.setTop (mkF m 80 #[.val (.int p1), .val (.int p2), .val (.int p3), .val (.int p4), .val (.int p5), .val (.int mn), .val (.int mx), .val (.int ((p5 >>> ((2 : Int32) &&& 31)) &&& (3 : Int32))), .val (.int (p4 % (3 : Int32))), .unset, .unset, .unset, .unset, .unset, .unset] [])) _
        refine XS.iload X0.here hx rfl (hb hby at_80) rfl ?_
        show Steps p.tables e below (s₁.setTop (mkF m 82 #[.val (.int p1), .val (.int p2), .val (.int p3), .val (.int p4), .val (.int p5), .val (.int mn), .val (.int mx), .val (.int ((p5 >>> ((2 : Int32) &&& 31)) &&& (3 : Int32))), .val (.int (p4 % (3 : Int32))), .unset, .unset, .unset, .unset, .unset, .unset] [(.int mn)])) _
        refine XS.iload X0.here hx rfl (hb hby at_82) rfl ?_
        show Steps p.tables e below (s₁.setTop (mkF m 84 #[.val (.int p1), .val (.int p2), .val (.int p3), .val (.int p4), .val (.int p5), .val (.int mn), .val (.int mx), .val (.int ((p5 >>> ((2 : Int32) &&& 31)) &&& (3 : Int32))), .val (.int (p4 % (3 : Int32))), .unset, .unset, .unset, .unset, .unset, .unset] [(.int (p4 % (3 : Int32))), (.int mn)])) _
        refine XS.iadd X0.here hx rfl (hb hby at_84) rfl ?_
        show Steps p.tables e below (s₁.setTop (mkF m 85 #[.val (.int p1), .val (.int p2), .val (.int p3), .val (.int p4), .val (.int p5), .val (.int mn), .val (.int mx), .val (.int ((p5 >>> ((2 : Int32) &&& 31)) &&& (3 : Int32))), .val (.int (p4 % (3 : Int32))), .unset, .unset, .unset, .unset, .unset, .unset] [(.int (mn + (p4 % (3 : Int32))))])) _
        refine XS.istore X0.here hx rfl (hb hby at_85) rfl (l' := #[.val (.int p1), .val (.int p2), .val (.int p3), .val (.int p4), .val (.int p5), .val (.int mn), .val (.int mx), .val (.int ((p5 >>> ((2 : Int32) &&& 31)) &&& (3 : Int32))), .val (.int (p4 % (3 : Int32))), .val (.int (mn + (p4 % (3 : Int32)))), .unset, .unset, .unset, .unset, .unset]) rfl ?_
        show Steps p.tables e below (s₁.setTop (mkF m 87 #[.val (.int p1), .val (.int p2), .val (.int p3), .val (.int p4), .val (.int p5), .val (.int mn), .val (.int mx), .val (.int ((p5 >>> ((2 : Int32) &&& 31)) &&& (3 : Int32))), .val (.int (p4 % (3 : Int32))), .val (.int (mn + (p4 % (3 : Int32)))), .unset, .unset, .unset, .unset, .unset] [])) _
        refine XS.goto X0.here hx rfl (pc0 := 87) (pc' := 109) rfl (hb hby at_87) (by decide) (by decide) ?_
        exact k)
      exact ⟨_, C13⟩
    · by_cases c2 : ((p5 >>> ((2 : Int32) &&& 31)) &&& (3 : Int32)) = 2
      · skip
        have C14 : Go p e below s₁ (mkF m 109 #[.val (.int p1), .val (.int p2), .val (.int p3), .val (.int p4), .val (.int p5), .val (.int mn), .val (.int mx), .val (.int ((p5 >>> ((2 : Int32) &&& 31)) &&& (3 : Int32))), .val (.int (p4 % (3 : Int32))), .val (.int (mx + (p4 % (3 : Int32)))), .unset, .unset, .unset, .unset, .unset] []) s₁ F0 := fun t k => C12 t (by
          refine XS.iload X0.here hx rfl (hb hby at_74) rfl ?_
          show Steps p.tables e below (s₁.setTop (mkF m 76 #[.val (.int p1), .val (.int p2), .val (.int p3), .val (.int p4), .val (.int p5), .val (.int mn), .val (.int mx), .val (.int ((p5 >>> ((2 : Int32) &&& 31)) &&& (3 : Int32))), .val (.int (p4 % (3 : Int32))), .unset, .unset, .unset, .unset, .unset, .unset] [(.int ((p5 >>> ((2 : Int32) &&& 31)) &&& (3 : Int32)))])) _
          refine XS.iconst X0.here hx rfl (hb hby at_76) ?_
          show Steps p.tables e below (s₁.setTop (mkF m 77 #[.val (.int p1), .val (.int p2), .val (.int p3), .val (.int p4), .val (.int p5), .val (.int mn), .val (.int mx), .val (.int ((p5 >>> ((2 : Int32) &&& 31)) &&& (3 : Int32))), .val (.int (p4 % (3 : Int32))), .unset, .unset, .unset, .unset, .unset, .unset] [(.int (1 : Int32)), (.int ((p5 >>> ((2 : Int32) &&& 31)) &&& (3 : Int32)))])) _
          refine XS.icmpYes X0.here hx rfl (pc0 := 77) (pc' := 90) rfl (hb hby at_77) rfl (feq c1).2 (by decide) (by decide) ?_
          show Steps p.tables e below (s₁.setTop (mkF m 90 #[.val (.int p1), .val (.int p2), .val (.int p3), .val (.int p4), .val (.int p5), .val (.int mn), .val (.int mx), .val (.int ((p5 >>> ((2 : Int32) &&& 31)) &&& (3 : Int32))), .val (.int (p4 % (3 : Int32))), .unset, .unset, .unset, .unset, .unset, .unset] [])) _
          refine XS.iload X0.here hx rfl (hb hby at_90) rfl ?_
          show Steps p.tables e below (s₁.setTop (mkF m 92 #[.val (.int p1), .val (.int p2), .val (.int p3), .val (.int p4), .val (.int p5), .val (.int mn), .val (.int mx), .val (.int ((p5 >>> ((2 : Int32) &&& 31)) &&& (3 : Int32))), .val (.int (p4 % (3 : Int32))), .unset, .unset, .unset, .unset, .unset, .unset] [(.int ((p5 >>> ((2 : Int32) &&& 31)) &&& (3 : Int32)))])) _
          refine XS.iconst X0.here hx rfl (hb hby at_92) ?_
          show Steps p.tables e below (s₁.setTop (mkF m 93 #[.val (.int p1), .val (.int p2), .val (.int p3), .val (.int p4), .val (.int p5), .val (.int mn), .val (.int mx), .val (.int ((p5 >>> ((2 : Int32) &&& 31)) &&& (3 : Int32))), .val (.int (p4 % (3 : Int32))), .unset, .unset, .unset, .unset, .unset, .unset] [(.int (2 : Int32)), (.int ((p5 >>> ((2 : Int32) &&& 31)) &&& (3 : Int32)))])) _
          refine XS.icmpNo X0.here hx rfl (hb hby at_93) rfl (teq c2).2 ?_
          show Steps p.tables e below (s₁.setTop (mkF m 96 #[.val (.int p1), .val (.int p2), .val (.int p3), .val (.int p4), .val (.int p5), .val (.int mn), .val (.int mx), .val (.int ((p5 >>> ((2 : Int32) &&& 31)) &&& (3 : Int32))), .val (.int (p4 % (3 : Int32))), .unset, .unset, .unset, .unset, .unset, .unset] [])) _
          refine XS.iload X0.here hx rfl (hb hby at_96) rfl ?_
          show Steps p.tables e below (s₁.setTop (mkF m 98 #[.val (.int p1), .val (.int p2), .val (.int p3), .val (.int p4), .val (.int p5), .val (.int mn), .val (.int mx), .val (.int ((p5 >>> ((2 : Int32) &&& 31)) &&& (3 : Int32))), .val (.int (p4 % (3 : Int32))), .unset, .unset, .unset, .unset, .unset, .unset] [(.int mx)])) _
          refine XS.iload X0.here hx rfl (hb hby at_98) rfl ?_
          show Steps p.tables e below (s₁.setTop (mkF m 100 #[.val (.int p1), .val (.int p2), .val (.int p3), .val (.int p4), .val (.int p5), .val (.int mn), .val (.int mx), .val (.int ((p5 >>> ((2 : Int32) &&& 31)) &&& (3 : Int32))), .val (.int (p4 % (3 : Int32))), .unset, .unset, .unset, .unset, .unset, .unset] [(.int (p4 % (3 : Int32))), (.int mx)])) _
          refine XS.iadd X0.here hx rfl (hb hby at_100) rfl ?_
          show Steps p.tables e below (s₁.setTop (mkF m 101 #[.val (.int p1), .val (.int p2), .val (.int p3), .val (.int p4), .val (.int p5), .val (.int mn), .val (.int mx), .val (.int ((p5 >>> ((2 : Int32) &&& 31)) &&& (3 : Int32))), .val (.int (p4 % (3 : Int32))), .unset, .unset, .unset, .unset, .unset, .unset] [(.int (mx + (p4 % (3 : Int32))))])) _
          refine XS.istore X0.here hx rfl (hb hby at_101) rfl (l' := #[.val (.int p1), .val (.int p2), .val (.int p3), .val (.int p4), .val (.int p5), .val (.int mn), .val (.int mx), .val (.int ((p5 >>> ((2 : Int32) &&& 31)) &&& (3 : Int32))), .val (.int (p4 % (3 : Int32))), .val (.int (mx + (p4 % (3 : Int32)))), .unset, .unset, .unset, .unset, .unset]) rfl ?_
          show Steps p.tables e below (s₁.setTop (mkF m 103 #[.val (.int p1), .val (.int p2), .val (.int p3), .val (.int p4), .val (.int p5), .val (.int mn), .val (.int mx), .val (.int ((p5 >>> ((2 : Int32) &&& 31)) &&& (3 : Int32))), .val (.int (p4 % (3 : Int32))), .val (.int (mx + (p4 % (3 : Int32)))), .unset, .unset, .unset, .unset, .unset] [])) _
          refine XS.goto X0.here hx rfl (pc0 := 103) (pc' := 109) rfl (hb hby at_103) (by decide) (by decide) ?_
          exact k)
        exact ⟨_, C14⟩
      · skip
        have C15 : Go p e below s₁ (mkF m 109 #[.val (.int p1), .val (.int p2), .val (.int p3), .val (.int p4), .val (.int p5), .val (.int mn), .val (.int mx), .val (.int ((p5 >>> ((2 : Int32) &&& 31)) &&& (3 : Int32))), .val (.int (p4 % (3 : Int32))), .val (.int p4), .unset, .unset, .unset, .unset, .unset] []) s₁ F0 := fun t k => C12 t (by
          refine XS.iload X0.here hx rfl (hb hby at_74) rfl ?_
          show Steps p.tables e below (s₁.setTop (mkF m 76 #[.val (.int p1), .val (.int p2), .val (.int p3), .val (.int p4), .val (.int p5), .val (.int mn), .val (.int mx), .val (.int ((p5 >>> ((2 : Int32) &&& 31)) &&& (3 : Int32))), .val (.int (p4 % (3 : Int32))), .unset, .unset, .unset, .unset, .unset, .unset] [(.int ((p5 >>> ((2 : Int32) &&& 31)) &&& (3 : Int32)))])) _
          refine XS.iconst X0.here hx rfl (hb hby at_76) ?_
          show Steps p.tables e below (s₁.setTop (mkF m 77 #[.val (.int p1), .val (.int p2), .val (.int p3), .val (.int p4), .val (.int p5), .val (.int mn), .val (.int mx), .val (.int ((p5 >>> ((2 : Int32) &&& 31)) &&& (3 : Int32))), .val (.int (p4 % (3 : Int32))), .unset, .unset, .unset, .unset, .unset, .unset] [(.int (1 : Int32)), (.int ((p5 >>> ((2 : Int32) &&& 31)) &&& (3 : Int32)))])) _
          refine XS.icmpYes X0.here hx rfl (pc0 := 77) (pc' := 90) rfl (hb hby at_77) rfl (feq c1).2 (by decide) (by decide) ?_
          show Steps p.tables e below (s₁.setTop (mkF m 90 #[.val (.int p1), .val (.int p2), .val (.int p3), .val (.int p4), .val (.int p5), .val (.int mn), .val (.int mx), .val (.int ((p5 >>> ((2 : Int32) &&& 31)) &&& (3 : Int32))), .val (.int (p4 % (3 : Int32))), .unset, .unset, .unset, .unset, .unset, .unset] [])) _
          refine XS.iload X0.here hx rfl (hb hby at_90) rfl ?_
          show Steps p.tables e below (s₁.setTop (mkF m 92 #[.val (.int p1), .val (.int p2), .val (.int p3), .val (.int p4), .val (.int p5), .val (.int mn), .val (.int mx), .val (.int ((p5 >>> ((2 : Int32) &&& 31)) &&& (3 : Int32))), .val (.int (p4 % (3 : Int32))), .unset, .unset, .unset, .unset, .unset, .unset] [(.int ((p5 >>> ((2 : Int32) &&& 31)) &&& (3 : Int32)))])) _
          refine XS.iconst X0.here hx rfl (hb hby at_92) ?_
          show Steps p.tables e below (s₁.setTop (mkF m 93 #[.val (.int p1), .val (.int p2), .val (.int p3), .val (.int p4), .val (.int p5), .val (.int mn), .val (.int mx), .val (.int ((p5 >>> ((2 : Int32) &&& 31)) &&& (3 : Int32))), .val (.int (p4 % (3 : Int32))), .unset, .unset, .unset, .unset, .unset, .unset] [(.int (2 : Int32)), (.int ((p5 >>> ((2 : Int32) &&& 31)) &&& (3 : Int32)))])) _
          refine XS.icmpYes X0.here hx rfl (pc0 := 93) (pc' := 106) rfl (hb hby at_93) rfl (feq c2).2 (by decide) (by decide) ?_
          show Steps p.tables e below (s₁.setTop (mkF m 106 #[.val (.int p1), .val (.int p2), .val (.int p3), .val (.int p4), .val (.int p5), .val (.int mn), .val (.int mx), .val (.int ((p5 >>> ((2 : Int32) &&& 31)) &&& (3 : Int32))), .val (.int (p4 % (3 : Int32))), .unset, .unset, .unset, .unset, .unset, .unset] [])) _
          refine XS.iloadN X0.here hx rfl (hb hby at_106) rfl ?_
          show Steps p.tables e below (s₁.setTop (mkF m 107 #[.val (.int p1), .val (.int p2), .val (.int p3), .val (.int p4), .val (.int p5), .val (.int mn), .val (.int mx), .val (.int ((p5 >>> ((2 : Int32) &&& 31)) &&& (3 : Int32))), .val (.int (p4 % (3 : Int32))), .unset, .unset, .unset, .unset, .unset, .unset] [(.int p4)])) _
          refine XS.istore X0.here hx rfl (hb hby at_107) rfl (l' := #[.val (.int p1), .val (.int p2), .val (.int p3), .val (.int p4), .val (.int p5), .val (.int mn), .val (.int mx), .val (.int ((p5 >>> ((2 : Int32) &&& 31)) &&& (3 : Int32))), .val (.int (p4 % (3 : Int32))), .val (.int p4), .unset, .unset, .unset, .unset, .unset]) rfl ?_
          exact k)
        exact ⟨_, C15⟩
  obtain ⟨T16, h16, X16, e16, E16, A16, D16, -, st16⟩ := newO X0 hx hZ hown (hw _ (List.mem_of_getElem? (i := 1) rfl)) (hw _ (List.mem_of_getElem? (i := 2) rfl)) (hw _ (List.mem_of_getElem? (i := 3) rfl)) e0 (g := (mkF m 109 #[.val (.int p1), .val (.int p2), .val (.int p3), .val (.int p4), .val (.int p5), .val (.int mn), .val (.int mx), .val (.int ((p5 >>> ((2 : Int32) &&& 31)) &&& (3 : Int32))), .val (.int (p4 % (3 : Int32))), .val (.int sec), .unset, .unset, .unset, .unset, .unset] [])) rfl (hb hby at_109) (by decide) (by decide)
  obtain ⟨b16, g16⟩ : ∃ z, z = h0.size := ⟨_, rfl⟩
  rw [← g16] at A16 D16 st16
  have C16 : Go p e below T16 (mkF m 112 #[.val (.int p1), .val (.int p2), .val (.int p3), .val (.int p4), .val (.int p5), .val (.int mn), .val (.int mx), .val (.int ((p5 >>> ((2 : Int32) &&& 31)) &&& (3 : Int32))), .val (.int (p4 % (3 : Int32))), .val (.int sec), .unset, .unset, .unset, .unset, .unset] [(.ref b16)]) s₁ F0 := fun t k => CK t (st16 t k)
  have F_defaultTtl : Fld Z h16 b16 "com/example/hard_zone/hardzone/TtlLimits" "defaultTtl" "I" (.int (0 : Int32)) := D16 (Or.inr (hw _ (List.mem_of_getElem? (i := 11) rfl))) (ty := .int) (by decide)
  have F_minTtl : Fld Z h16 b16 "com/example/hard_zone/hardzone/TtlLimits" "minTtl" "I" (.int (0 : Int32)) := D16 (Or.inr (hw _ (List.mem_of_getElem? (i := 13) rfl))) (ty := .int) (by decide)
  have F_maxTtl : Fld Z h16 b16 "com/example/hard_zone/hardzone/TtlLimits" "maxTtl" "I" (.int (0 : Int32)) := D16 (Or.inr (hw _ (List.mem_of_getElem? (i := 15) rfl))) (ty := .int) (by decide)
  have g_o : n0 ≤ b16 := Nat.le_trans Z0 (Nat.le_of_eq g16.symm)
  have Z16 : n0 ≤ h16.size := Nat.le_trans Z0 E16.1
  have C17 : Go p e below T16 (mkF m 118 #[.val (.int p1), .val (.int p2), .val (.int p3), .val (.int p4), .val (.int p5), .val (.int mn), .val (.int mx), .val (.int ((p5 >>> ((2 : Int32) &&& 31)) &&& (3 : Int32))), .val (.int (p4 % (3 : Int32))), .val (.int sec), .unset, .unset, .unset, .unset, .unset] [(.int mx), (.int mn), (.int p1), (.ref b16), (.ref b16)]) s₁ F0 := fun t k => C16 t (by
    refine XS.dup X16.here hx rfl (hb hby at_112) rfl rfl ?_
    show Steps p.tables e below (T16.setTop (mkF m 113 #[.val (.int p1), .val (.int p2), .val (.int p3), .val (.int p4), .val (.int p5), .val (.int mn), .val (.int mx), .val (.int ((p5 >>> ((2 : Int32) &&& 31)) &&& (3 : Int32))), .val (.int (p4 % (3 : Int32))), .val (.int sec), .unset, .unset, .unset, .unset, .unset] [(.ref b16), (.ref b16)])) _
    refine XS.iloadN X16.here hx rfl (hb hby at_113) rfl ?_
    show Steps p.tables e below (T16.setTop (mkF m 114 #[.val (.int p1), .val (.int p2), .val (.int p3), .val (.int p4), .val (.int p5), .val (.int mn), .val (.int mx), .val (.int ((p5 >>> ((2 : Int32) &&& 31)) &&& (3 : Int32))), .val (.int (p4 % (3 : Int32))), .val (.int sec), .unset, .unset, .unset, .unset, .unset] [(.int p1), (.ref b16), (.ref b16)])) _
    refine XS.iload X16.here hx rfl (hb hby at_114) rfl ?_
    show Steps p.tables e below (T16.setTop (mkF m 116 #[.val (.int p1), .val (.int p2), .val (.int p3), .val (.int p4), .val (.int p5), .val (.int mn), .val (.int mx), .val (.int ((p5 >>> ((2 : Int32) &&& 31)) &&& (3 : Int32))), .val (.int (p4 % (3 : Int32))), .val (.int sec), .unset, .unset, .unset, .unset, .unset] [(.int mn), (.int p1), (.ref b16), (.ref b16)])) _
    refine XS.iload X16.here hx rfl (hb hby at_116) rfl ?_
    exact k)
  obtain ⟨_, _, ⟨T18, L18, k18, n18⟩, -, X18, ⟨Lc18, hQ18, l18, y18, z18⟩, st18⟩ := X16.specialBack hx (y := (⟨"com/example/hard_zone/hardzone/TtlLimits", "<init>", "(III)V"⟩ : MethodName)) rfl hown (mvT hZ (hw _ (List.mem_of_getElem? (i := 4) rfl))) (mvT hZ (hw _ (List.mem_of_getElem? (i := 5) rfl))) (mvT hZ (hw _ (List.mem_of_getElem? (i := 6) rfl))) (by decide) (backOf (W := 1) (rm1 l Z a0 hw [] b16 p1 mn mx _ _ _ h16 n0 Z16 F_defaultTtl F_minTtl F_maxTtl A16 g_o) hZ (hw _ (List.mem_of_getElem? (i := 6) rfl)) (hw _ (List.mem_of_getElem? (i := 3) rfl)) (by decide) (by decide)) (g := (mkF m 118 #[.val (.int p1), .val (.int p2), .val (.int p3), .val (.int p4), .val (.int p5), .val (.int mn), .val (.int mx), .val (.int ((p5 >>> ((2 : Int32) &&& 31)) &&& (3 : Int32))), .val (.int (p4 % (3 : Int32))), .val (.int sec), .unset, .unset, .unset, .unset, .unset] [(.int mx), (.int mn), (.int p1), (.ref b16), (.ref b16)])) rfl (by rw [hml]; rfl) (Steps.refl _) (a := b16) (argsL := [(.int p1), (.int mn), (.int mx)]) (rest := [(.ref b16)]) (lenOf pd_1 rfl) rfl (by show 2 * 0 + _ ≤ _; exact Nat.le_of_eq rfl) (hb hby at_118) (fun _ _ => ⟨rfl, e16, (by decide : 1 + 0 ≤ _), (by decide : 3 + 0 ≤ _)⟩)
  dsimp only [Pt.U, Pt.locs, Pt.cells, Pt.slots] at X18 l18 y18 z18 st18 hQ18
  subst l18 y18 z18
  obtain ⟨rfl, N18q, K18, Ea18, Fmn18, Fmx18⟩ := hQ18
  have C18 : Go p e below T18 (mkF m 121 #[.val (.int p1), .val (.int p2), .val (.int p3), .val (.int p4), .val (.int p5), .val (.int mn), .val (.int mx), .val (.int ((p5 >>> ((2 : Int32) &&& 31)) &&& (3 : Int32))), .val (.int (p4 % (3 : Int32))), .val (.int sec), .unset, .unset, .unset, .unset, .unset] [(.ref b16)]) s₁ F0 := fun t k => C17 t (st18.trans k)
  have N18 := Fr.app N0 N18q
  have Z18 : n0 ≤ T18.heap.size := Nat.le_trans Z16 K18.1
  have C19 : Go p e below T18 (mkF m 127 #[.val (.int p1), .val (.int p2), .val (.int p3), .val (.int p4), .val (.int p5), .val (.int mn), .val (.int mx), .val (.int ((p5 >>> ((2 : Int32) &&& 31)) &&& (3 : Int32))), .val (.int (p4 % (3 : Int32))), .val (.int sec), .val (.ref b16), .unset, .unset, .unset, .unset] [(.int sec), (.ref b16)]) s₁ F0 := fun t k => C18 t (by
    refine XS.astore X18.here hx rfl (hb hby at_121) rfl rfl (l' := #[.val (.int p1), .val (.int p2), .val (.int p3), .val (.int p4), .val (.int p5), .val (.int mn), .val (.int mx), .val (.int ((p5 >>> ((2 : Int32) &&& 31)) &&& (3 : Int32))), .val (.int (p4 % (3 : Int32))), .val (.int sec), .val (.ref b16), .unset, .unset, .unset, .unset]) rfl ?_
    show Steps p.tables e below (T18.setTop (mkF m 123 #[.val (.int p1), .val (.int p2), .val (.int p3), .val (.int p4), .val (.int p5), .val (.int mn), .val (.int mx), .val (.int ((p5 >>> ((2 : Int32) &&& 31)) &&& (3 : Int32))), .val (.int (p4 % (3 : Int32))), .val (.int sec), .val (.ref b16), .unset, .unset, .unset, .unset] [])) _
    refine XS.aload X18.here hx rfl (hb hby at_123) rfl rfl ?_
    show Steps p.tables e below (T18.setTop (mkF m 125 #[.val (.int p1), .val (.int p2), .val (.int p3), .val (.int p4), .val (.int p5), .val (.int mn), .val (.int mx), .val (.int ((p5 >>> ((2 : Int32) &&& 31)) &&& (3 : Int32))), .val (.int (p4 % (3 : Int32))), .val (.int sec), .val (.ref b16), .unset, .unset, .unset, .unset] [(.ref b16)])) _
    refine XS.iload X18.here hx rfl (hb hby at_125) rfl ?_
    exact k)
  obtain ⟨cq20, kq20, q20a, q20b, q20c⟩ := isOf hZ rfl Ea18
  obtain ⟨_, _, ⟨T20, L20, k20, n20⟩, -, X20, ⟨Lc20, hQ20, l20, y20, z20⟩, st20⟩ := X18.virtualBack hx (y := (⟨"com/example/hard_zone/hardzone/TtlLimits", "bound", "(I)I"⟩ : MethodName)) (z := (⟨"com/example/hard_zone/hardzone/TtlLimits", "bound", "(I)I"⟩ : MethodName)) hown (mvT hZ (hw _ (List.mem_of_getElem? (i := 16) rfl))) (mvT hZ (hw _ (List.mem_of_getElem? (i := 17) rfl))) (notFace_of_selects (args := #[]) (mvT hZ (hw _ (List.mem_of_getElem? (i := 19) rfl)))) (mvT hZ (hw _ (List.mem_of_getElem? (i := 19) rfl))) (mvT hZ (hw _ (List.mem_of_getElem? (i := 18) rfl))) (by decide) (backOf (W := 0) (rm3 l Z a0 hw [] b16 sec mn mx T18.heap n0 Z18 Fmn18 Fmx18) hZ (hw _ (List.mem_of_getElem? (i := 20) rfl)) (hw _ (List.mem_of_getElem? (i := 3) rfl)) (by decide) (by decide)) q20a q20c (g := (mkF m 127 #[.val (.int p1), .val (.int p2), .val (.int p3), .val (.int p4), .val (.int p5), .val (.int mn), .val (.int mx), .val (.int ((p5 >>> ((2 : Int32) &&& 31)) &&& (3 : Int32))), .val (.int (p4 % (3 : Int32))), .val (.int sec), .val (.ref b16), .unset, .unset, .unset, .unset] [(.int sec), (.ref b16)])) rfl (by rw [hml]; rfl) (Steps.refl _) (argsL := [(.int sec)]) (rest := []) (lenOf pd_3 rfl) rfl (by show 2 * 0 + _ ≤ _; exact Nat.le_of_eq rfl) (hb hby at_127) (fun _ _ => ⟨rfl, rfl, (by decide : 1 + 0 ≤ _), (by decide : 3 + 0 ≤ _)⟩)
  dsimp only [Pt.U, Pt.locs, Pt.cells, Pt.slots] at X20 l20 y20 z20 st20 hQ20
  subst l20 y20 z20
  obtain ⟨rfl, N20q, eh20⟩ := hQ20
  have C20 : Go p e below T20 (mkF m 130 #[.val (.int p1), .val (.int p2), .val (.int p3), .val (.int p4), .val (.int p5), .val (.int mn), .val (.int mx), .val (.int ((p5 >>> ((2 : Int32) &&& 31)) &&& (3 : Int32))), .val (.int (p4 % (3 : Int32))), .val (.int sec), .val (.ref b16), .unset, .unset, .unset, .unset] [(.int (own_bound mn mx sec))]) s₁ F0 := fun t k => C19 t (st20.trans k)
  have N20 := Fr.app N18 N20q
  have C21 : Go p e below T20 (mkF m 132 #[.val (.int p1), .val (.int p2), .val (.int p3), .val (.int p4), .val (.int p5), .val (.int mn), .val (.int mx), .val (.int ((p5 >>> ((2 : Int32) &&& 31)) &&& (3 : Int32))), .val (.int (p4 % (3 : Int32))), .val (.int sec), .val (.ref b16), .val (.int (own_bound mn mx sec)), .unset, .unset, .unset] []) s₁ F0 := fun t k => C20 t (by
    refine XS.istore X20.here hx rfl (hb hby at_130) rfl (l' := #[.val (.int p1), .val (.int p2), .val (.int p3), .val (.int p4), .val (.int p5), .val (.int mn), .val (.int mx), .val (.int ((p5 >>> ((2 : Int32) &&& 31)) &&& (3 : Int32))), .val (.int (p4 % (3 : Int32))), .val (.int sec), .val (.ref b16), .val (.int (own_bound mn mx sec)), .unset, .unset, .unset]) rfl ?_
    exact k)
  have C22 : Go p e below T20 (mkF m 144 #[.val (.int p1), .val (.int p2), .val (.int p3), .val (.int p4), .val (.int p5), .val (.int mn), .val (.int mx), .val (.int ((p5 >>> ((2 : Int32) &&& 31)) &&& (3 : Int32))), .val (.int (p4 % (3 : Int32))), .val (.int sec), .val (.ref b16), .val (.int (own_bound mn mx sec)), .unset, .unset, .unset] [(.int (if 0 < mn then mn else (-2147483648 : Int32)))]) s₁ F0 := by
    by_cases c : 0 < mn
    · have q : (if 0 < mn then mn else (-2147483648 : Int32)) = mn := if_pos c
      have C23 : Go p e below T20 (mkF m 144 #[.val (.int p1), .val (.int p2), .val (.int p3), .val (.int p4), .val (.int p5), .val (.int mn), .val (.int mx), .val (.int ((p5 >>> ((2 : Int32) &&& 31)) &&& (3 : Int32))), .val (.int (p4 % (3 : Int32))), .val (.int sec), .val (.ref b16), .val (.int (own_bound mn mx sec)), .unset, .unset, .unset] [(.int mn)]) s₁ F0 := fun t k => C21 t (by
        refine XS.iload X20.here hx rfl (hb hby at_132) rfl ?_
        show Steps p.tables e below (T20.setTop (mkF m 134 #[.val (.int p1), .val (.int p2), .val (.int p3), .val (.int p4), .val (.int p5), .val (.int mn), .val (.int mx), .val (.int ((p5 >>> ((2 : Int32) &&& 31)) &&& (3 : Int32))), .val (.int (p4 % (3 : Int32))), .val (.int sec), .val (.ref b16), .val (.int (own_bound mn mx sec)), .unset, .unset, .unset] [(.int mn)])) _
        refine XS.ifNo X20.here hx rfl (hb hby at_134) rfl ((if0 _ _).trans (tlt c).2.2.2) ?_
        show Steps p.tables e below (T20.setTop (mkF m 137 #[.val (.int p1), .val (.int p2), .val (.int p3), .val (.int p4), .val (.int p5), .val (.int mn), .val (.int mx), .val (.int ((p5 >>> ((2 : Int32) &&& 31)) &&& (3 : Int32))), .val (.int (p4 % (3 : Int32))), .val (.int sec), .val (.ref b16), .val (.int (own_bound mn mx sec)), .unset, .unset, .unset] [])) _
        refine XS.iload X20.here hx rfl (hb hby at_137) rfl ?_
        show Steps p.tables e below (T20.setTop (mkF m 139 #[.val (.int p1), .val (.int p2), .val (.int p3), .val (.int p4), .val (.int p5), .val (.int mn), .val (.int mx), .val (.int ((p5 >>> ((2 : Int32) &&& 31)) &&& (3 : Int32))), .val (.int (p4 % (3 : Int32))), .val (.int sec), .val (.ref b16), .val (.int (own_bound mn mx sec)), .unset, .unset, .unset] [(.int mn)])) _
        refine XS.goto X20.here hx rfl (pc0 := 139) (pc' := 144) rfl (hb hby at_139) (by decide) (by decide) ?_
        exact k)
      rw [q]
      exact C23
    · have q : (if 0 < mn then mn else (-2147483648 : Int32)) = (-2147483648 : Int32) := if_neg c
      have C24 : Go p e below T20 (mkF m 144 #[.val (.int p1), .val (.int p2), .val (.int p3), .val (.int p4), .val (.int p5), .val (.int mn), .val (.int mx), .val (.int ((p5 >>> ((2 : Int32) &&& 31)) &&& (3 : Int32))), .val (.int (p4 % (3 : Int32))), .val (.int sec), .val (.ref b16), .val (.int (own_bound mn mx sec)), .unset, .unset, .unset] [(.int (-2147483648 : Int32))]) s₁ F0 := fun t k => C21 t (by
        refine XS.iload X20.here hx rfl (hb hby at_132) rfl ?_
        show Steps p.tables e below (T20.setTop (mkF m 134 #[.val (.int p1), .val (.int p2), .val (.int p3), .val (.int p4), .val (.int p5), .val (.int mn), .val (.int mx), .val (.int ((p5 >>> ((2 : Int32) &&& 31)) &&& (3 : Int32))), .val (.int (p4 % (3 : Int32))), .val (.int sec), .val (.ref b16), .val (.int (own_bound mn mx sec)), .unset, .unset, .unset] [(.int mn)])) _
        refine XS.ifYes X20.here hx rfl (pc0 := 134) (pc' := 142) rfl (hb hby at_134) rfl ((if0 _ _).trans (flt c).2.2.2) (by decide) (by decide) ?_
        show Steps p.tables e below (T20.setTop (mkF m 142 #[.val (.int p1), .val (.int p2), .val (.int p3), .val (.int p4), .val (.int p5), .val (.int mn), .val (.int mx), .val (.int ((p5 >>> ((2 : Int32) &&& 31)) &&& (3 : Int32))), .val (.int (p4 % (3 : Int32))), .val (.int sec), .val (.ref b16), .val (.int (own_bound mn mx sec)), .unset, .unset, .unset] [])) _
        refine X20.ldcInt hx hown (mvT hZ (hw _ (List.mem_of_getElem? (i := 28) rfl))) (g := (mkF m 142 #[.val (.int p1), .val (.int p2), .val (.int p3), .val (.int p4), .val (.int p5), .val (.int mn), .val (.int mx), .val (.int ((p5 >>> ((2 : Int32) &&& 31)) &&& (3 : Int32))), .val (.int (p4 % (3 : Int32))), .val (.int sec), .val (.ref b16), .val (.int (own_bound mn mx sec)), .unset, .unset, .unset] [])) rfl (hb hby at_142) _ ?_
        exact k)
      rw [q]
      exact C24
  have C25 : Go p e below T20 (mkF m 146 #[.val (.int p1), .val (.int p2), .val (.int p3), .val (.int p4), .val (.int p5), .val (.int mn), .val (.int mx), .val (.int ((p5 >>> ((2 : Int32) &&& 31)) &&& (3 : Int32))), .val (.int (p4 % (3 : Int32))), .val (.int sec), .val (.ref b16), .val (.int (own_bound mn mx sec)), .val (.int (if 0 < mn then mn else (-2147483648 : Int32))), .unset, .unset] []) s₁ F0 := fun t k => C22 t (by
    refine XS.istore X20.here hx rfl (hb hby at_144) rfl (l' := #[.val (.int p1), .val (.int p2), .val (.int p3), .val (.int p4), .val (.int p5), .val (.int mn), .val (.int mx), .val (.int ((p5 >>> ((2 : Int32) &&& 31)) &&& (3 : Int32))), .val (.int (p4 % (3 : Int32))), .val (.int sec), .val (.ref b16), .val (.int (own_bound mn mx sec)), .val (.int (if 0 < mn then mn else (-2147483648 : Int32))), .unset, .unset]) rfl ?_
    exact k)
  have C26 : Go p e below T20 (mkF m 158 #[.val (.int p1), .val (.int p2), .val (.int p3), .val (.int p4), .val (.int p5), .val (.int mn), .val (.int mx), .val (.int ((p5 >>> ((2 : Int32) &&& 31)) &&& (3 : Int32))), .val (.int (p4 % (3 : Int32))), .val (.int sec), .val (.ref b16), .val (.int (own_bound mn mx sec)), .val (.int (if 0 < mn then mn else (-2147483648 : Int32))), .unset, .unset] [(.int (if 0 < mx then mx else (2147483647 : Int32)))]) s₁ F0 := by
    by_cases c : 0 < mx
    · have q : (if 0 < mx then mx else (2147483647 : Int32)) = mx := if_pos c
      have C27 : Go p e below T20 (mkF m 158 #[.val (.int p1), .val (.int p2), .val (.int p3), .val (.int p4), .val (.int p5), .val (.int mn), .val (.int mx), .val (.int ((p5 >>> ((2 : Int32) &&& 31)) &&& (3 : Int32))), .val (.int (p4 % (3 : Int32))), .val (.int sec), .val (.ref b16), .val (.int (own_bound mn mx sec)), .val (.int (if 0 < mn then mn else (-2147483648 : Int32))), .unset, .unset] [(.int mx)]) s₁ F0 := fun t k => C25 t (by
        refine XS.iload X20.here hx rfl (hb hby at_146) rfl ?_
        show Steps p.tables e below (T20.setTop (mkF m 148 #[.val (.int p1), .val (.int p2), .val (.int p3), .val (.int p4), .val (.int p5), .val (.int mn), .val (.int mx), .val (.int ((p5 >>> ((2 : Int32) &&& 31)) &&& (3 : Int32))), .val (.int (p4 % (3 : Int32))), .val (.int sec), .val (.ref b16), .val (.int (own_bound mn mx sec)), .val (.int (if 0 < mn then mn else (-2147483648 : Int32))), .unset, .unset] [(.int mx)])) _
        refine XS.ifNo X20.here hx rfl (hb hby at_148) rfl ((if0 _ _).trans (tlt c).2.2.2) ?_
        show Steps p.tables e below (T20.setTop (mkF m 151 #[.val (.int p1), .val (.int p2), .val (.int p3), .val (.int p4), .val (.int p5), .val (.int mn), .val (.int mx), .val (.int ((p5 >>> ((2 : Int32) &&& 31)) &&& (3 : Int32))), .val (.int (p4 % (3 : Int32))), .val (.int sec), .val (.ref b16), .val (.int (own_bound mn mx sec)), .val (.int (if 0 < mn then mn else (-2147483648 : Int32))), .unset, .unset] [])) _
        refine XS.iload X20.here hx rfl (hb hby at_151) rfl ?_
        show Steps p.tables e below (T20.setTop (mkF m 153 #[.val (.int p1), .val (.int p2), .val (.int p3), .val (.int p4), .val (.int p5), .val (.int mn), .val (.int mx), .val (.int ((p5 >>> ((2 : Int32) &&& 31)) &&& (3 : Int32))), .val (.int (p4 % (3 : Int32))), .val (.int sec), .val (.ref b16), .val (.int (own_bound mn mx sec)), .val (.int (if 0 < mn then mn else (-2147483648 : Int32))), .unset, .unset] [(.int mx)])) _
        refine XS.goto X20.here hx rfl (pc0 := 153) (pc' := 158) rfl (hb hby at_153) (by decide) (by decide) ?_
        exact k)
      rw [q]
      exact C27
    · have q : (if 0 < mx then mx else (2147483647 : Int32)) = (2147483647 : Int32) := if_neg c
      have C28 : Go p e below T20 (mkF m 158 #[.val (.int p1), .val (.int p2), .val (.int p3), .val (.int p4), .val (.int p5), .val (.int mn), .val (.int mx), .val (.int ((p5 >>> ((2 : Int32) &&& 31)) &&& (3 : Int32))), .val (.int (p4 % (3 : Int32))), .val (.int sec), .val (.ref b16), .val (.int (own_bound mn mx sec)), .val (.int (if 0 < mn then mn else (-2147483648 : Int32))), .unset, .unset] [(.int (2147483647 : Int32))]) s₁ F0 := fun t k => C25 t (by
        refine XS.iload X20.here hx rfl (hb hby at_146) rfl ?_
        show Steps p.tables e below (T20.setTop (mkF m 148 #[.val (.int p1), .val (.int p2), .val (.int p3), .val (.int p4), .val (.int p5), .val (.int mn), .val (.int mx), .val (.int ((p5 >>> ((2 : Int32) &&& 31)) &&& (3 : Int32))), .val (.int (p4 % (3 : Int32))), .val (.int sec), .val (.ref b16), .val (.int (own_bound mn mx sec)), .val (.int (if 0 < mn then mn else (-2147483648 : Int32))), .unset, .unset] [(.int mx)])) _
        refine XS.ifYes X20.here hx rfl (pc0 := 148) (pc' := 156) rfl (hb hby at_148) rfl ((if0 _ _).trans (flt c).2.2.2) (by decide) (by decide) ?_
        show Steps p.tables e below (T20.setTop (mkF m 156 #[.val (.int p1), .val (.int p2), .val (.int p3), .val (.int p4), .val (.int p5), .val (.int mn), .val (.int mx), .val (.int ((p5 >>> ((2 : Int32) &&& 31)) &&& (3 : Int32))), .val (.int (p4 % (3 : Int32))), .val (.int sec), .val (.ref b16), .val (.int (own_bound mn mx sec)), .val (.int (if 0 < mn then mn else (-2147483648 : Int32))), .unset, .unset] [])) _
        refine X20.ldcInt hx hown (mvT hZ (hw _ (List.mem_of_getElem? (i := 0) rfl))) (g := (mkF m 156 #[.val (.int p1), .val (.int p2), .val (.int p3), .val (.int p4), .val (.int p5), .val (.int mn), .val (.int mx), .val (.int ((p5 >>> ((2 : Int32) &&& 31)) &&& (3 : Int32))), .val (.int (p4 % (3 : Int32))), .val (.int sec), .val (.ref b16), .val (.int (own_bound mn mx sec)), .val (.int (if 0 < mn then mn else (-2147483648 : Int32))), .unset, .unset] [])) rfl (hb hby at_156) _ ?_
        exact k)
      rw [q]
      exact C28
  have C29 : Go p e below T20 (mkF m 160 #[.val (.int p1), .val (.int p2), .val (.int p3), .val (.int p4), .val (.int p5), .val (.int mn), .val (.int mx), .val (.int ((p5 >>> ((2 : Int32) &&& 31)) &&& (3 : Int32))), .val (.int (p4 % (3 : Int32))), .val (.int sec), .val (.ref b16), .val (.int (own_bound mn mx sec)), .val (.int (if 0 < mn then mn else (-2147483648 : Int32))), .val (.int (if 0 < mx then mx else (2147483647 : Int32))), .unset] []) s₁ F0 := fun t k => C26 t (by
    refine XS.istore X20.here hx rfl (hb hby at_158) rfl (l' := #[.val (.int p1), .val (.int p2), .val (.int p3), .val (.int p4), .val (.int p5), .val (.int mn), .val (.int mx), .val (.int ((p5 >>> ((2 : Int32) &&& 31)) &&& (3 : Int32))), .val (.int (p4 % (3 : Int32))), .val (.int sec), .val (.ref b16), .val (.int (own_bound mn mx sec)), .val (.int (if 0 < mn then mn else (-2147483648 : Int32))), .val (.int (if 0 < mx then mx else (2147483647 : Int32))), .unset]) rfl ?_
    exact k)
  have C30 : Go p e below T20 (mkF m 164 #[.val (.int p1), .val (.int p2), .val (.int p3), .val (.int p4), .val (.int p5), .val (.int mn), .val (.int mx), .val (.int ((p5 >>> ((2 : Int32) &&& 31)) &&& (3 : Int32))), .val (.int (p4 % (3 : Int32))), .val (.int sec), .val (.ref b16), .val (.int (own_bound mn mx sec)), .val (.int (if 0 < mn then mn else (-2147483648 : Int32))), .val (.int (if 0 < mx then mx else (2147483647 : Int32))), .unset] [(.int (if 0 < mn then mn else (-2147483648 : Int32))), (.int sec)]) s₁ F0 := fun t k => C29 t (by
    refine XS.iload X20.here hx rfl (hb hby at_160) rfl ?_
    show Steps p.tables e below (T20.setTop (mkF m 162 #[.val (.int p1), .val (.int p2), .val (.int p3), .val (.int p4), .val (.int p5), .val (.int mn), .val (.int mx), .val (.int ((p5 >>> ((2 : Int32) &&& 31)) &&& (3 : Int32))), .val (.int (p4 % (3 : Int32))), .val (.int sec), .val (.ref b16), .val (.int (own_bound mn mx sec)), .val (.int (if 0 < mn then mn else (-2147483648 : Int32))), .val (.int (if 0 < mx then mx else (2147483647 : Int32))), .unset] [(.int sec)])) _
    refine XS.iload X20.here hx rfl (hb hby at_162) rfl ?_
    exact k)
  have Z20 : n0 ≤ T20.heap.size := by rw [eh20]; exact Z18
  obtain ⟨_, _, ⟨T31, L31, k31, n31⟩, -, X31, ⟨Lc31, hQ31, l31, y31, z31⟩, st31⟩ := Jvm.LawKit.callS X20 hx (y := (⟨"java/lang/Math", "max", "(II)I"⟩ : MethodName)) hown (mvT hZ (hw _ (List.mem_of_getElem? (i := 21) rfl))) (mvT hZ (hw _ (List.mem_of_getElem? (i := 22) rfl))) (mvT hZ (hw _ (List.mem_of_getElem? (i := 23) rfl))) (mvT hZ (hw _ (List.mem_of_getElem? (i := 24) rfl))) (by decide) (backOf (W := 0) (rm4 l Z a0 hw [] sec (if 0 < mn then mn else (-2147483648 : Int32)) T20.heap n0 Z20) hZ (hw _ (List.mem_of_getElem? (i := 24) rfl)) (hw _ (List.mem_of_getElem? (i := 23) rfl)) (by decide) (by decide)) (g := (mkF m 164 #[.val (.int p1), .val (.int p2), .val (.int p3), .val (.int p4), .val (.int p5), .val (.int mn), .val (.int mx), .val (.int ((p5 >>> ((2 : Int32) &&& 31)) &&& (3 : Int32))), .val (.int (p4 % (3 : Int32))), .val (.int sec), .val (.ref b16), .val (.int (own_bound mn mx sec)), .val (.int (if 0 < mn then mn else (-2147483648 : Int32))), .val (.int (if 0 < mx then mx else (2147483647 : Int32))), .unset] [(.int (if 0 < mn then mn else (-2147483648 : Int32))), (.int sec)])) rfl (by rw [hml]; rfl) (argsL := [(.int sec), (.int (if 0 < mn then mn else (-2147483648 : Int32)))]) (rest := []) (lenOf pd_4 rfl) rfl (by show 2 * 0 + _ ≤ _; exact Nat.le_of_eq rfl) (hb hby at_164) (fun _ _ => ⟨rfl, rfl, (by decide : 1 + 0 ≤ _), (by decide : 3 + 0 ≤ _)⟩)
  dsimp only [Pt.U, Pt.locs, Pt.cells, Pt.slots] at X31 l31 y31 z31 st31 hQ31
  subst l31 y31 z31
  obtain ⟨rfl, N31q, eh31⟩ := hQ31
  have C31 : Go p e below T31 (mkF m 167 #[.val (.int p1), .val (.int p2), .val (.int p3), .val (.int p4), .val (.int p5), .val (.int mn), .val (.int mx), .val (.int ((p5 >>> ((2 : Int32) &&& 31)) &&& (3 : Int32))), .val (.int (p4 % (3 : Int32))), .val (.int sec), .val (.ref b16), .val (.int (own_bound mn mx sec)), .val (.int (if 0 < mn then mn else (-2147483648 : Int32))), .val (.int (if 0 < mx then mx else (2147483647 : Int32))), .unset] [(.int (own_max sec (if 0 < mn then mn else (-2147483648 : Int32))))]) s₁ F0 := fun t k => C30 t (st31 t k)
  have N31 := Fr.app N20 N31q
  have Z31 : n0 ≤ T31.heap.size := by rw [eh31]; exact Z20
  have C32 : Go p e below T31 (mkF m 169 #[.val (.int p1), .val (.int p2), .val (.int p3), .val (.int p4), .val (.int p5), .val (.int mn), .val (.int mx), .val (.int ((p5 >>> ((2 : Int32) &&& 31)) &&& (3 : Int32))), .val (.int (p4 % (3 : Int32))), .val (.int sec), .val (.ref b16), .val (.int (own_bound mn mx sec)), .val (.int (if 0 < mn then mn else (-2147483648 : Int32))), .val (.int (if 0 < mx then mx else (2147483647 : Int32))), .unset] [(.int (if 0 < mx then mx else (2147483647 : Int32))), (.int (own_max sec (if 0 < mn then mn else (-2147483648 : Int32))))]) s₁ F0 := fun t k => C31 t (by
    refine XS.iload X31.here hx rfl (hb hby at_167) rfl ?_
    exact k)
  obtain ⟨_, _, ⟨T33, L33, k33, n33⟩, -, X33, ⟨Lc33, hQ33, l33, y33, z33⟩, st33⟩ := Jvm.LawKit.callS X31 hx (y := (⟨"java/lang/Math", "min", "(II)I"⟩ : MethodName)) hown (mvT hZ (hw _ (List.mem_of_getElem? (i := 25) rfl))) (mvT hZ (hw _ (List.mem_of_getElem? (i := 26) rfl))) (mvT hZ (hw _ (List.mem_of_getElem? (i := 23) rfl))) (mvT hZ (hw _ (List.mem_of_getElem? (i := 27) rfl))) (by decide) (backOf (W := 0) (rm5 l Z a0 hw [] (own_max sec (if 0 < mn then mn else (-2147483648 : Int32))) (if 0 < mx then mx else (2147483647 : Int32)) T31.heap n0 Z31) hZ (hw _ (List.mem_of_getElem? (i := 27) rfl)) (hw _ (List.mem_of_getElem? (i := 23) rfl)) (by decide) (by decide)) (g := (mkF m 169 #[.val (.int p1), .val (.int p2), .val (.int p3), .val (.int p4), .val (.int p5), .val (.int mn), .val (.int mx), .val (.int ((p5 >>> ((2 : Int32) &&& 31)) &&& (3 : Int32))), .val (.int (p4 % (3 : Int32))), .val (.int sec), .val (.ref b16), .val (.int (own_bound mn mx sec)), .val (.int (if 0 < mn then mn else (-2147483648 : Int32))), .val (.int (if 0 < mx then mx else (2147483647 : Int32))), .unset] [(.int (if 0 < mx then mx else (2147483647 : Int32))), (.int (own_max sec (if 0 < mn then mn else (-2147483648 : Int32))))])) rfl (by rw [hml]; rfl) (argsL := [(.int (own_max sec (if 0 < mn then mn else (-2147483648 : Int32)))), (.int (if 0 < mx then mx else (2147483647 : Int32)))]) (rest := []) (lenOf pd_5 rfl) rfl (by show 2 * 0 + _ ≤ _; exact Nat.le_of_eq rfl) (hb hby at_169) (fun _ _ => ⟨rfl, rfl, (by decide : 1 + 0 ≤ _), (by decide : 3 + 0 ≤ _)⟩)
  dsimp only [Pt.U, Pt.locs, Pt.cells, Pt.slots] at X33 l33 y33 z33 st33 hQ33
  subst l33 y33 z33
  obtain ⟨rfl, N33q, eh33⟩ := hQ33
  have C33 : Go p e below T33 (mkF m 172 #[.val (.int p1), .val (.int p2), .val (.int p3), .val (.int p4), .val (.int p5), .val (.int mn), .val (.int mx), .val (.int ((p5 >>> ((2 : Int32) &&& 31)) &&& (3 : Int32))), .val (.int (p4 % (3 : Int32))), .val (.int sec), .val (.ref b16), .val (.int (own_bound mn mx sec)), .val (.int (if 0 < mn then mn else (-2147483648 : Int32))), .val (.int (if 0 < mx then mx else (2147483647 : Int32))), .unset] [(.int (own_min (own_max sec (if 0 < mn then mn else (-2147483648 : Int32))) (if 0 < mx then mx else (2147483647 : Int32))))]) s₁ F0 := fun t k => C32 t (st33 t k)
  have N33 := Fr.app N31 N33q
  have C34 : Go p e below T33 (mkF m 186 #[.val (.int p1), .val (.int p2), .val (.int p3), .val (.int p4), .val (.int p5), .val (.int mn), .val (.int mx), .val (.int ((p5 >>> ((2 : Int32) &&& 31)) &&& (3 : Int32))), .val (.int (p4 % (3 : Int32))), .val (.int sec), .val (.ref b16), .val (.int (own_bound mn mx sec)), .val (.int (if 0 < mn then mn else (-2147483648 : Int32))), .val (.int (if 0 < mx then mx else (2147483647 : Int32))), .val (.int (own_min (own_max sec (if 0 < mn then mn else (-2147483648 : Int32))) (if 0 < mx then mx else (2147483647 : Int32))))] [(.int (1 : Int32))]) s₁ F0 := fun t k => C33 t (by
    refine XS.istore X33.here hx rfl (hb hby at_172) rfl (l' := #[.val (.int p1), .val (.int p2), .val (.int p3), .val (.int p4), .val (.int p5), .val (.int mn), .val (.int mx), .val (.int ((p5 >>> ((2 : Int32) &&& 31)) &&& (3 : Int32))), .val (.int (p4 % (3 : Int32))), .val (.int sec), .val (.ref b16), .val (.int (own_bound mn mx sec)), .val (.int (if 0 < mn then mn else (-2147483648 : Int32))), .val (.int (if 0 < mx then mx else (2147483647 : Int32))), .val (.int (own_min (own_max sec (if 0 < mn then mn else (-2147483648 : Int32))) (if 0 < mx then mx else (2147483647 : Int32))))]) rfl ?_
    show Steps p.tables e below (T33.setTop (mkF m 174 #[.val (.int p1), .val (.int p2), .val (.int p3), .val (.int p4), .val (.int p5), .val (.int mn), .val (.int mx), .val (.int ((p5 >>> ((2 : Int32) &&& 31)) &&& (3 : Int32))), .val (.int (p4 % (3 : Int32))), .val (.int sec), .val (.ref b16), .val (.int (own_bound mn mx sec)), .val (.int (if 0 < mn then mn else (-2147483648 : Int32))), .val (.int (if 0 < mx then mx else (2147483647 : Int32))), .val (.int (own_min (own_max sec (if 0 < mn then mn else (-2147483648 : Int32))) (if 0 < mx then mx else (2147483647 : Int32))))] [])) _
    refine XS.iload X33.here hx rfl (hb hby at_174) rfl ?_
    show Steps p.tables e below (T33.setTop (mkF m 176 #[.val (.int p1), .val (.int p2), .val (.int p3), .val (.int p4), .val (.int p5), .val (.int mn), .val (.int mx), .val (.int ((p5 >>> ((2 : Int32) &&& 31)) &&& (3 : Int32))), .val (.int (p4 % (3 : Int32))), .val (.int sec), .val (.ref b16), .val (.int (own_bound mn mx sec)), .val (.int (if 0 < mn then mn else (-2147483648 : Int32))), .val (.int (if 0 < mx then mx else (2147483647 : Int32))), .val (.int (own_min (own_max sec (if 0 < mn then mn else (-2147483648 : Int32))) (if 0 < mx then mx else (2147483647 : Int32))))] [(.int (own_bound mn mx sec))])) _
    refine XS.iload X33.here hx rfl (hb hby at_176) rfl ?_
    show Steps p.tables e below (T33.setTop (mkF m 178 #[.val (.int p1), .val (.int p2), .val (.int p3), .val (.int p4), .val (.int p5), .val (.int mn), .val (.int mx), .val (.int ((p5 >>> ((2 : Int32) &&& 31)) &&& (3 : Int32))), .val (.int (p4 % (3 : Int32))), .val (.int sec), .val (.ref b16), .val (.int (own_bound mn mx sec)), .val (.int (if 0 < mn then mn else (-2147483648 : Int32))), .val (.int (if 0 < mx then mx else (2147483647 : Int32))), .val (.int (own_min (own_max sec (if 0 < mn then mn else (-2147483648 : Int32))) (if 0 < mx then mx else (2147483647 : Int32))))] [(.int (own_min (own_max sec (if 0 < mn then mn else (-2147483648 : Int32))) (if 0 < mx then mx else (2147483647 : Int32)))), (.int (own_bound mn mx sec))])) _
    refine XS.icmpNo X33.here hx rfl (hb hby at_178) rfl (teq (own_law mn mx sec hmm)).2 ?_
    show Steps p.tables e below (T33.setTop (mkF m 181 #[.val (.int p1), .val (.int p2), .val (.int p3), .val (.int p4), .val (.int p5), .val (.int mn), .val (.int mx), .val (.int ((p5 >>> ((2 : Int32) &&& 31)) &&& (3 : Int32))), .val (.int (p4 % (3 : Int32))), .val (.int sec), .val (.ref b16), .val (.int (own_bound mn mx sec)), .val (.int (if 0 < mn then mn else (-2147483648 : Int32))), .val (.int (if 0 < mx then mx else (2147483647 : Int32))), .val (.int (own_min (own_max sec (if 0 < mn then mn else (-2147483648 : Int32))) (if 0 < mx then mx else (2147483647 : Int32))))] [])) _
    refine XS.iconst X33.here hx rfl (hb hby at_181) ?_
    show Steps p.tables e below (T33.setTop (mkF m 182 #[.val (.int p1), .val (.int p2), .val (.int p3), .val (.int p4), .val (.int p5), .val (.int mn), .val (.int mx), .val (.int ((p5 >>> ((2 : Int32) &&& 31)) &&& (3 : Int32))), .val (.int (p4 % (3 : Int32))), .val (.int sec), .val (.ref b16), .val (.int (own_bound mn mx sec)), .val (.int (if 0 < mn then mn else (-2147483648 : Int32))), .val (.int (if 0 < mx then mx else (2147483647 : Int32))), .val (.int (own_min (own_max sec (if 0 < mn then mn else (-2147483648 : Int32))) (if 0 < mx then mx else (2147483647 : Int32))))] [(.int (1 : Int32))])) _
    refine XS.goto X33.here hx rfl (pc0 := 182) (pc' := 186) rfl (hb hby at_182) (by decide) (by decide) ?_
    exact k)
  obtain ⟨fs, hr, hrun, hended, hW, hsame⟩ := X33.leave (v := (some (.int (nar .boolean (1 : Int32))))) (fun h => by rw [Bd.returns] at h; cases h)
  refine ⟨_, _, pre0 _ (C34 _ ?_), hrun, hended, _, _, rfl, ?_, ⟨_, rfl⟩, hW, hsame.mono (by decide) (by decide)⟩
  · exact retN X33 hx (t := .boolean) Bd.returns (by simp) (hb hby at_186) hr
  · show Q0 Z p1 p2 p3 p4 p5 h0 n0 _ T33.heap _
    exact ⟨rfl, N33⟩
set_option maxRecDepth 65536 in
set_option maxHeartbeats 40000000 in
theorem comes_1 {Post : Tables → Env → Array Value → State → Outcome → State → Prop} (hpost : ∀ tb e args s v u, (limb_1_1.after args s (.returned v) u = true ∧ limb_1_2.after args s (.returned v) u = true ∧ True) → FrameEnd s (.returned v) u (Jvm.fieldLocs frame_1_writes args s ++ Jvm.arrayLocs frame_1_arrays args s ++ Jvm.staticLocs frame_1_statics s) 16 128 → Post tb e args s (.returned v) u) :
    ArmFor flags0 classFile x code maxLocals ret World_1 tables_1 room_1 Calls_1 rest_1 Pre_1 Post := by
  intro l hfl _ _ p e ha hc hk s m args below hf hA hF happ hP
  obtain ⟨hcalls, hrest, hpre⟩ := hP
  obtain ⟨-, -, -, hnamed, -, -, -, hat⟩ := (Spec.applies_iff hf).mp happ
  obtain ⟨hg, hn⟩ := and_e (Cond.before_iff.mp (show (Jvm.Cond.and given_1 narrow_1).before args s = true from hpre))
  obtain ⟨h1, j0⟩ := and_e hg
  obtain ⟨i0, j1⟩ := and_e j0
  obtain ⟨i1, j2⟩ := and_e j1
  obtain ⟨i2, j3⟩ := and_e j2
  obtain ⟨i3, j4⟩ := and_e j3
  have i4 := j4
  obtain ⟨w0, w1, w2, w3, w4, rfl⟩ : ∃ w0 w1 w2 w3 w4 : Value, args = #[w0, w1, w2, w3, w4] := by
    have hs : args.size = 5 := by simpa [Cond.value, given_1] using h1
    obtain ⟨L⟩ := args
    match L, hs with
    | [w0, w1, w2, w3, w4], _ => exact ⟨w0, w1, w2, w3, w4, rfl⟩
  have hw := fun d (hd : d ∈ tables_1) => atoms_spec (ws := Jvm.Cond.code x code maxLocals ret :: tables_1) hat d (List.mem_cons_of_mem _ hd)
  obtain ⟨v0, e0⟩ := is_v i0
  obtain rfl : w0 = (.int v0) := Option.some.inj e0
  obtain ⟨v1, e1⟩ := is_v i1
  obtain rfl : w1 = (.int v1) := Option.some.inj e1
  obtain ⟨v2, e2⟩ := is_v i2
  obtain rfl : w2 = (.int v2) := Option.some.inj e2
  obtain ⟨v3, e3⟩ := is_v i3
  obtain rfl : w3 = (.int v3) := Option.some.inj e3
  obtain ⟨v4, e4⟩ := is_v i4
  obtain rfl : w4 = (.int v4) := Option.some.inj e4
  obtain ⟨n, o, h1, h2, h3, _, L, rfl, ⟨rfl, N⟩, hq⟩ := rm0 l s _ hw tables_1 v0 v1 v2 v3 v4 s.heap s.heap.size (Nat.le_refl _) p e ha hc hk s m _ below hf ((Spec.applies_iff_loose hf).mp happ).1 ⟨rfl, State.Warmed39.refl s, rfl⟩ trivial
  refine ⟨n, _, h1, h2, h3, hpost _ _ _ _ _ _ ⟨Cond.after_iff.mpr rfl, Cond.after_iff.mpr (eq_i res_at (Term.int_eval (1)) rfl), trivial⟩ ⟨hq.1, hq.2.1, (hq.2.2.sift fun y hy => Or.inr (N y hy)).mono (by decide) (by decide)⟩⟩
theorem main_1_1 : Claimed_1_1 := comes_1 fun _ _ _ _ _ _ h hF => ⟨h.1, hF⟩
theorem main_1_2 : Claimed_1_2 := comes_1 fun _ _ _ _ _ _ h hF => ⟨h.2.1, hF⟩
end Jvm.Pilot.@@N@@
namespace Jvm.Pilot.@@N@@
open Jvm Jvm.ClassFile Sem Op Lib Jvm.Free Jvm.Stand Jvm.Pilot.@@N@@.Jvm.D
/-! MADE BY PROGRAM (witnessworld.py) out of the Statement's table words and the real class files: 10 classes; the members and pool entries that the words name. The judged class is class 1, her method 1. -/
namespace start1
open Jvm.ClassFile
def u (s : String) : CpInfo := .utf8 (stringToUtf16 s)
/-- a pool by its gaps: so many unusable entries, then the entry; so many at the end -/
def gap : Nat → List CpInfo → List CpInfo
  | 0, r => r
  | n + 1, r => .unusable :: gap n r
def poolList (es : List (Nat × CpInfo)) (last : Nat) : List CpInfo := es.foldr (fun e r => gap e.1 (e.2 :: r)) (gap last [])
def pool (es : List (Nat × CpInfo)) (last : Nat) : Array CpInfo := ⟨poolList es last⟩
def fileOf (pool : Array CpInfo) (this : Nat) (attrs : Array Attribute := #[]) (ms : Array MethodInfo := #[]) (fl : Nat := 33) (sup : Nat := 0) (ifs : Array Nat := #[]) (fds : Array FieldInfo := #[]) : ClassFile where
  minorVersion := 0
  majorVersion := 65
  constantPool := pool
  accessFlags := fl
  thisClass := this
  superClass := sup
  interfaces := ifs
  fields := fds
  methods := ms
  attributes := attrs
def plain (name : String) (sup : Option ClassId) : Class where
  name := name
  kind := .ordinary
  loader := none
  accessFlags := 33
  super := sup
  interfaces := #[]
  cf := none
  fields := #[]
  methods := #[]
  instanceTypes := #[]
  staticTypes := #[]
  resolved := #[]
  callSites := []
  init := .initialized
  statics := none
  mirror := none

def pool0 : Array CpInfo := pool [(5, u "<init>"), (0, u "()V"), (1, .class_ 10), (1, u "java/lang/Object")] 113

def k0c0 : Code := { maxStack := 0, maxLocals := 1, code := object_method_1_code, exceptionTable := #[], attributes := #[] }
def k0m0 : Method := { name := "<init>", desc := "()V", sig := { parameters := [], returnType := none }, accessFlags := 1, code := some k0c0 }
/-- java/lang/Object -/
def k0 : Class := { plain "java/lang/Object" none with
  accessFlags := 33
  interfaces := #[]
  cf := some (fileOf pool0 8 #[] #[{ accessFlags := 1, nameIndex := 5, descriptorIndex := 6, attributes := #[] }] 33 0 #[] #[])
  fields := #[]
  methods := #[k0m0]
  instanceTypes := #[]
  staticTypes := #[]
  resolved := Array.replicate 124 none
  statics := none }

def pool1 : Array CpInfo := pool [(2, .class_ 4), (1, u "java/lang/Object"), (0, u "<init>"), (0, u "()V"), (0, .integer 2147483647), (0, .class_ 9), (0, u "com/example/hard_zone/hardzone/TtlLimits"), (0, .methodref 8 11), (0, .nameAndType 5 12), (0, u "(III)V"), (0, .methodref 8 14), (0, .nameAndType 15 16), (0, u "bound"), (0, u "(I)I"), (2, .integer 2147483648), (0, .methodref 21 22), (0, .class_ 23), (0, .nameAndType 24 25), (0, u "java/lang/Math"), (0, u "max"), (0, u "(II)I"), (0, .methodref 21 27), (0, .nameAndType 28 25), (0, u "min"), (0, .class_ 30), (0, u "com/example/hard_zone/hardzone/TtlLimitsBoundPinLaw"), (2, u "law"), (0, u "(IIIII)Z")] 3

def k1m0 : Method := { name := "<init>", desc := "()V", sig := { parameters := [], returnType := none }, accessFlags := 2, code := none }
def k1c1 : Code := { maxStack := 5, maxLocals := 15, code := code, exceptionTable := #[], attributes := #[] }
def k1m1 : Method := { name := "law", desc := "(IIIII)Z", sig := { parameters := [.int, .int, .int, .int, .int], returnType := some .boolean }, accessFlags := 9, code := some k1c1 }
/-- com/example/hard_zone/hardzone/TtlLimitsBoundPinLaw -/
def k1 : Class := { plain "com/example/hard_zone/hardzone/TtlLimitsBoundPinLaw" (some 0) with
  accessFlags := 49
  interfaces := #[]
  cf := some (fileOf pool1 29 #[] #[{ accessFlags := 2, nameIndex := 5, descriptorIndex := 6, attributes := #[] }, { accessFlags := 9, nameIndex := 33, descriptorIndex := 34, attributes := #[] }] 49 2 #[] #[])
  fields := #[]
  methods := #[k1m0, k1m1]
  instanceTypes := #[]
  staticTypes := #[]
  resolved := Array.replicate 38 none
  statics := none }

def pool2 : Array CpInfo := pool [(1, .methodref 2 3), (0, .class_ 4), (0, .nameAndType 5 6), (0, u "java/lang/Object"), (0, u "<init>"), (0, u "()V"), (0, .fieldref 8 9), (0, .class_ 10), (0, .nameAndType 11 12), (0, u "com/example/hard_zone/hardzone/TtlLimits"), (0, u "defaultTtl"), (0, u "I"), (0, .fieldref 8 14), (0, .nameAndType 15 12), (0, u "minTtl"), (0, .fieldref 8 17), (0, .nameAndType 18 12), (0, u "maxTtl"), (30, u "(III)V"), (2, u "bound"), (0, u "(I)I"), (24, u "DEFAULT"), (0, u "Lcom/example/hard_zone/hardzone/TtlLimits;"), (0, u "DEFAULT_TTL"), (2, u "FORM"), (0, u "Ljava/lang/String;")] 29

def k2c0 : Code := { maxStack := 2, maxLocals := 4, code := prog_26_method_1_code, exceptionTable := #[], attributes := #[] }
def k2m0 : Method := { name := "<init>", desc := "(III)V", sig := { parameters := [.int, .int, .int], returnType := none }, accessFlags := 0, code := some k2c0 }
def k2c1 : Code := { maxStack := 2, maxLocals := 3, code := prog_26_method_4_code, exceptionTable := #[], attributes := #[] }
def k2m1 : Method := { name := "bound", desc := "(I)I", sig := { parameters := [.int], returnType := some .int }, accessFlags := 0, code := some k2c1 }
/-- com/example/hard_zone/hardzone/TtlLimits -/
def k2 : Class := { plain "com/example/hard_zone/hardzone/TtlLimits" (some 0) with
  accessFlags := 48
  interfaces := #[]
  cf := some (fileOf pool2 8 #[] #[{ accessFlags := 0, nameIndex := 5, descriptorIndex := 49, attributes := #[] }, { accessFlags := 0, nameIndex := 52, descriptorIndex := 53, attributes := #[] }] 48 2 #[] #[{ accessFlags := 26, nameIndex := 80, descriptorIndex := 12, attributes := #[] }, { accessFlags := 24, nameIndex := 83, descriptorIndex := 84, attributes := #[] }, { accessFlags := 24, nameIndex := 78, descriptorIndex := 79, attributes := #[] }, { accessFlags := 18, nameIndex := 11, descriptorIndex := 12, attributes := #[] }, { accessFlags := 18, nameIndex := 15, descriptorIndex := 12, attributes := #[] }, { accessFlags := 18, nameIndex := 18, descriptorIndex := 12, attributes := #[] }])
  fields := #[{ name := "DEFAULT_TTL", type := .int, accessFlags := 26, slot := 0, constantValue := 0 }, { name := "FORM", type := (.object "java/lang/String"), accessFlags := 24, slot := 1, constantValue := 0 }, { name := "DEFAULT", type := (.object "com/example/hard_zone/hardzone/TtlLimits"), accessFlags := 24, slot := 2, constantValue := 0 }, { name := "defaultTtl", type := .int, accessFlags := 18, slot := 0, constantValue := 0 }, { name := "minTtl", type := .int, accessFlags := 18, slot := 1, constantValue := 0 }, { name := "maxTtl", type := .int, accessFlags := 18, slot := 2, constantValue := 0 }]
  methods := #[k2m0, k2m1]
  instanceTypes := #[.int, .int, .int]
  staticTypes := #[.int, (.object "java/lang/String"), (.object "com/example/hard_zone/hardzone/TtlLimits")]
  resolved := Array.replicate 114 none
  statics := none }

def pool3 : Array CpInfo := pool [(1, .class_ 2), (0, u "java/lang/Math"), (1, .class_ 6), (1, u "java/lang/Object"), (0, u "<init>"), (0, u "()V"), (89, .class_ 100), (1, u "java/lang/Math$RandomNumberGeneratorHolder"), (71, u "negativeZeroFloatBits"), (0, u "J"), (2, u "negativeZeroDoubleBits"), (21, u "max"), (2, u "min"), (43, u "$assertionsDisabled"), (0, u "Z"), (88, u "(II)I"), (2, u "twoToTheDoubleScaleDown"), (0, u "D"), (4, u "twoToTheDoubleScaleUp"), (9, u "E"), (3, u "PI"), (2, u "TAU"), (2, u "DEGREES_TO_RADIANS"), (0, u "RADIANS_TO_DEGREES")] 94

def k3m0 : Method := { name := "<init>", desc := "()V", sig := { parameters := [], returnType := none }, accessFlags := 2, code := none }
def k3c1 : Code := { maxStack := 2, maxLocals := 2, code := jdk_29_method_65_code, exceptionTable := #[], attributes := #[] }
def k3m1 : Method := { name := "max", desc := "(II)I", sig := { parameters := [.int, .int], returnType := some .int }, accessFlags := 9, code := some k3c1 }
def k3c2 : Code := { maxStack := 2, maxLocals := 2, code := jdk_29_method_69_code, exceptionTable := #[], attributes := #[] }
def k3m2 : Method := { name := "min", desc := "(II)I", sig := { parameters := [.int, .int], returnType := some .int }, accessFlags := 9, code := some k3c2 }
/-- java/lang/Math -/
def k3 : Class := { plain "java/lang/Math" (some 0) with
  accessFlags := 49
  interfaces := #[]
  cf := some (fileOf pool3 1 #[.nestMembers #[98]] #[{ accessFlags := 2, nameIndex := 7, descriptorIndex := 8, attributes := #[] }, { accessFlags := 9, nameIndex := 198, descriptorIndex := 335, attributes := #[] }, { accessFlags := 9, nameIndex := 201, descriptorIndex := 335, attributes := #[] }] 49 4 #[] #[{ accessFlags := 25, nameIndex := 354, descriptorIndex := 339, attributes := #[] }, { accessFlags := 25, nameIndex := 358, descriptorIndex := 339, attributes := #[] }, { accessFlags := 25, nameIndex := 361, descriptorIndex := 339, attributes := #[] }, { accessFlags := 26, nameIndex := 364, descriptorIndex := 339, attributes := #[] }, { accessFlags := 26, nameIndex := 365, descriptorIndex := 339, attributes := #[] }, { accessFlags := 26, nameIndex := 172, descriptorIndex := 173, attributes := #[] }, { accessFlags := 26, nameIndex := 176, descriptorIndex := 173, attributes := #[] }, { accessFlags := 8, nameIndex := 344, descriptorIndex := 339, attributes := #[] }, { accessFlags := 8, nameIndex := 338, descriptorIndex := 339, attributes := #[] }, { accessFlags := 4120, nameIndex := 245, descriptorIndex := 246, attributes := #[] }])
  fields := #[{ name := "E", type := .double, accessFlags := 25, slot := 0, constantValue := 0 }, { name := "PI", type := .double, accessFlags := 25, slot := 1, constantValue := 0 }, { name := "TAU", type := .double, accessFlags := 25, slot := 2, constantValue := 0 }, { name := "DEGREES_TO_RADIANS", type := .double, accessFlags := 26, slot := 3, constantValue := 0 }, { name := "RADIANS_TO_DEGREES", type := .double, accessFlags := 26, slot := 4, constantValue := 0 }, { name := "negativeZeroFloatBits", type := .long, accessFlags := 26, slot := 5, constantValue := 0 }, { name := "negativeZeroDoubleBits", type := .long, accessFlags := 26, slot := 6, constantValue := 0 }, { name := "twoToTheDoubleScaleUp", type := .double, accessFlags := 8, slot := 7, constantValue := 0 }, { name := "twoToTheDoubleScaleDown", type := .double, accessFlags := 8, slot := 8, constantValue := 0 }, { name := "$assertionsDisabled", type := .boolean, accessFlags := 4120, slot := 9, constantValue := 0 }]
  methods := #[k3m0, k3m1, k3m2]
  instanceTypes := #[]
  staticTypes := #[.double, .double, .double, .double, .double, .long, .long, .double, .double, .boolean]
  resolved := Array.replicate 460 none
  statics := none }

def pool4 : Array CpInfo := pool [(1, u "java/lang/Cloneable"), (0, .class_ 1), (0, u "java/lang/Object"), (0, .class_ 3)] 3

/-- java/lang/Cloneable -/
def k4 : Class := { plain "java/lang/Cloneable" (some 0) with
  accessFlags := 1537
  interfaces := #[]
  cf := some (fileOf pool4 2 #[] #[] 1537 4 #[] #[])
  fields := #[]
  methods := #[]
  instanceTypes := #[]
  staticTypes := #[]
  resolved := Array.replicate 8 none
  statics := none }

def pool5 : Array CpInfo := pool [(1, u "java/io/Serializable"), (0, .class_ 1), (0, u "java/lang/Object"), (0, .class_ 3)] 3

/-- java/io/Serializable -/
def k5 : Class := { plain "java/io/Serializable" (some 0) with
  accessFlags := 1537
  interfaces := #[]
  cf := some (fileOf pool5 2 #[] #[] 1537 4 #[] #[])
  fields := #[]
  methods := #[]
  instanceTypes := #[]
  staticTypes := #[]
  resolved := Array.replicate 8 none
  statics := none }

/-- the primitive byte -/
def k6 : Class := { plain "byte" none with kind := .primitive 'B', accessFlags := 0x411 }
/-- [B -/
def k7 : Class := { plain "[B" (some 0) with kind := .array 6 .byte, interfaces := #[4, 5], accessFlags := 1041 }

/-- the primitive int -/
def k8 : Class := { plain "int" none with kind := .primitive 'I', accessFlags := 0x411 }
/-- [I -/
def k9 : Class := { plain "[I" (some 0) with kind := .array 8 .int, interfaces := #[4, 5], accessFlags := 1041 }

def heap : Heap := #[]
def classes : Array Class := #[k0, k1, k2, k3, k4, k5, k6, k7, k8, k9]
def interned : List (Array UInt16 × Addr) := []
def slotsUsed : Nat := 0
def theMethod : MethodId := ⟨1, 1⟩
def args0 : Array Value := #[.int 5, .int 6, .int 7, .int 8, .int 0]
def aboutOver (below : List Frame) : State where
  vm := { classes := classes, interned := interned.toArray }
  heap := heap
  slotsUsed := slotsUsed
  threads := #[{ frames := .invoking theMethod args0 :: below }]
def below0 : List Frame := [.native { method := ⟨0, 0⟩, args := #[] }]
def about1 : State := aboutOver below0
def p0 : Program := .bare "" "" ""
def e0 : Env := launch0.env 0 0 0
theorem w_frames : about1.frames = Frame.invoking theMethod args0 :: below0 := rfl
set_option maxRecDepth 65536 in
theorem w_args : argsFit about1.vm theMethod args0 = true := by decide +kernel
set_option maxRecDepth 65536 in
theorem w_heap : heapFits about1 = true := by decide +kernel
set_option maxRecDepth 65536 in
theorem w_runnable : about1.curStatus? = some .runnable := by decide +kernel
set_option maxRecDepth 65536 in
theorem w_alone : about1.alone = true := by decide +kernel
set_option maxRecDepth 65536 in
theorem w_named : about1.methodNamed? x = some theMethod := by decide +kernel
set_option maxRecDepth 65536 in
theorem w_hears : about1.hears theMethod below0 = true := by decide +kernel
set_option maxRecDepth 65536 in
theorem w_ripe : about1.ripe theMethod args0 below0 = true := by decide +kernel
theorem w_running : about1.status = .running := rfl
set_option maxRecDepth 65536 in
theorem w_room : about1.hasRoom e0.platform room_1 = true :=
  launch0.hasRoom_least _ room_1 (by decide +kernel) (by decide +kernel) (by decide +kernel) (by decide +kernel) (by decide +kernel) (by decide +kernel)
theorem allAtoms_all (ts : List Jvm.Cond) (a : Array Jvm.Value) (st : Jvm.State) : (allAtoms ts).before a st = ts.all (fun c => c.before a st) := by
  induction ts with
  | nil => rfl
  | cons c t ih =>
    show (Jvm.Cond.and c (allAtoms t)).before a st = _
    rw [Jvm.Cond.before_and, ih, List.all_cons]
def words1 : List Jvm.Cond := Jvm.Cond.code x code maxLocals ret :: tables_1
/-- a 'code' word, met by the world's own term for the bytes: nothing is compared byte by byte -/
theorem code_word {y : MethodName} {bytes : ByteArray} {mx : Nat} {rt : Option FieldType} {a : Array Value} {s : State} {m : MethodId} {meth : Method} {c : Code} (h1 : s.methodNamed? y = some m) (h2 : s.vm.method? m = some meth) (h3 : meth.code = some c) (h4 : c.code = bytes)
    (h5 : (c.maxLocals == mx && c.exceptionTable.isEmpty && decide (c.maxStack ≤ mostOperands) && decide (meth.sig.returnType = rt) && !meth.locks && decide (parseMethodDescriptor y.desc = some meth.sig)) = true) : (Jvm.Cond.code y bytes mx rt).before a s = true := by
  simp only [Bool.and_eq_true, beq_iff_eq, Bool.not_eq_true', decide_eq_true_eq] at h5
  obtain ⟨⟨⟨⟨⟨g1, g2⟩, g3⟩, g4⟩, g5⟩, g6⟩ := h5
  simp [Cond.before, Cond.holds, Cond.value, h1, h2, h3, h4, g1, g2, g3, g4, g5, g6]
def isCode : Jvm.Cond → Bool
  | .code _ _ _ _ => true
  | _ => false
theorem all_split {L : List Jvm.Cond} {P : Jvm.Cond → Bool} (h1 : L.all (fun c => isCode c || P c) = true) (h2 : ∀ c ∈ L.filter isCode, P c = true) : L.all P = true := by
  refine List.all_eq_true.mpr fun c hc => ?_
  have h := List.all_eq_true.mp h1 c hc
  rcases Bool.eq_false_or_eq_true (isCode c) with hi | hi
  · exact h2 c (List.mem_filter.mpr ⟨hc, hi⟩)
  · simpa [hi] using h
set_option maxRecDepth 65536 in
theorem w_c0 : (Jvm.Cond.code x code maxLocals ret).before args0 about1 = true := code_word (m := ⟨1, 1⟩) (meth := k1m1) (c := k1c1) (by decide +kernel) rfl rfl rfl (by decide +kernel)
set_option maxRecDepth 65536 in
theorem w_c1 : (Jvm.Cond.code ({ cls := "com/example/hard_zone/hardzone/TtlLimits", name := "<init>", desc := "(III)V" } : Jvm.MethodName) prog_26_method_1_code (4 : Nat) (Option.none : Option Jvm.ClassFile.FieldType)).before args0 about1 = true := code_word (m := ⟨2, 0⟩) (meth := k2m0) (c := k2c0) (by decide +kernel) rfl rfl rfl (by decide +kernel)
set_option maxRecDepth 65536 in
theorem w_c2 : (Jvm.Cond.code ({ cls := "java/lang/Object", name := "<init>", desc := "()V" } : Jvm.MethodName) object_method_1_code (1 : Nat) (Option.none : Option Jvm.ClassFile.FieldType)).before args0 about1 = true := code_word (m := ⟨0, 0⟩) (meth := k0m0) (c := k0c0) (by decide +kernel) rfl rfl rfl (by decide +kernel)
set_option maxRecDepth 65536 in
theorem w_c3 : (Jvm.Cond.code ({ cls := "com/example/hard_zone/hardzone/TtlLimits", name := "bound", desc := "(I)I" } : Jvm.MethodName) prog_26_method_4_code (3 : Nat) (Option.some Jvm.ClassFile.FieldType.int)).before args0 about1 = true := code_word (m := ⟨2, 1⟩) (meth := k2m1) (c := k2c1) (by decide +kernel) rfl rfl rfl (by decide +kernel)
set_option maxRecDepth 65536 in
theorem w_c4 : (Jvm.Cond.code ({ cls := "java/lang/Math", name := "max", desc := "(II)I" } : Jvm.MethodName) jdk_29_method_65_code (2 : Nat) (Option.some Jvm.ClassFile.FieldType.int)).before args0 about1 = true := code_word (m := ⟨3, 1⟩) (meth := k3m1) (c := k3c1) (by decide +kernel) rfl rfl rfl (by decide +kernel)
set_option maxRecDepth 65536 in
theorem w_c5 : (Jvm.Cond.code ({ cls := "java/lang/Math", name := "min", desc := "(II)I" } : Jvm.MethodName) jdk_29_method_69_code (2 : Nat) (Option.some Jvm.ClassFile.FieldType.int)).before args0 about1 = true := code_word (m := ⟨3, 2⟩) (meth := k3m2) (c := k3c2) (by decide +kernel) rfl rfl rfl (by decide +kernel)
def codes1 : List Jvm.Cond := [Jvm.Cond.code x code maxLocals ret, Jvm.Cond.code ({ cls := "com/example/hard_zone/hardzone/TtlLimits", name := "<init>", desc := "(III)V" } : Jvm.MethodName) prog_26_method_1_code (4 : Nat) (Option.none : Option Jvm.ClassFile.FieldType), Jvm.Cond.code ({ cls := "java/lang/Object", name := "<init>", desc := "()V" } : Jvm.MethodName) object_method_1_code (1 : Nat) (Option.none : Option Jvm.ClassFile.FieldType), Jvm.Cond.code ({ cls := "com/example/hard_zone/hardzone/TtlLimits", name := "bound", desc := "(I)I" } : Jvm.MethodName) prog_26_method_4_code (3 : Nat) (Option.some Jvm.ClassFile.FieldType.int), Jvm.Cond.code ({ cls := "java/lang/Math", name := "max", desc := "(II)I" } : Jvm.MethodName) jdk_29_method_65_code (2 : Nat) (Option.some Jvm.ClassFile.FieldType.int), Jvm.Cond.code ({ cls := "java/lang/Math", name := "min", desc := "(II)I" } : Jvm.MethodName) jdk_29_method_69_code (2 : Nat) (Option.some Jvm.ClassFile.FieldType.int)]
set_option maxRecDepth 65536 in
theorem codes_eq : words1.filter isCode = codes1 := rfl
theorem w_codes : ∀ c ∈ words1.filter isCode, c.before args0 about1 = true := by
  rw [codes_eq]
  intro c hc
  simp only [codes1, List.mem_cons, List.not_mem_nil, or_false] at hc
  rcases hc with rfl | rfl | rfl | rfl | rfl | rfl
  · exact w_c0
  · exact w_c1
  · exact w_c2
  · exact w_c3
  · exact w_c4
  · exact w_c5
set_option maxRecDepth 65536 in
theorem w_t1 : (words1.take 24).all (fun c => isCode c || c.before args0 about1) = true := by decide +kernel
set_option maxRecDepth 65536 in
theorem w_t2 : (words1.drop 24).all (fun c => isCode c || c.before args0 about1) = true := by decide +kernel
theorem w_tables : (allAtoms (Jvm.Cond.code x code maxLocals ret :: tables_1)).before args0 about1 = true := by
  rw [allAtoms_all]
  show words1.all (fun c => c.before args0 about1) = true
  refine all_split ?_ w_codes
  rw [← List.take_append_drop 24 words1, List.all_append, w_t1, w_t2]
  rfl
set_option maxRecDepth 65536 in
theorem w_case : (Jvm.Cond.and given_1 narrow_1).before args0 about1 = true := by decide +kernel
theorem w_applies : (headSpec (Jvm.Cond.code x code maxLocals ret :: tables_1) room_1).applies x e0.platform about1 = true :=
  (Spec.applies_iff w_frames).mpr ⟨w_running, w_runnable, w_alone, w_named, w_hears, w_ripe, w_room, w_tables⟩
theorem atStart : AtStart classFile x code maxLocals ret World_1 tables_1 room_1 Calls_1 rest_1 Pre_1 launch0 p0 e0 about1 theMethod args0 below0 :=
  ⟨lists_1, trivial, launch0.admits_env _ _ _, launch0.least_env, fairChoices_fair.cas, fairChoices_fair.clock, w_frames, w_args, w_heap, w_applies, trivial, trivial, w_case⟩
end start1
theorem witness_1 : WitnessClaimed_1 := ⟨start1.p0, start1.e0, start1.about1, start1.theMethod, start1.args0, start1.below0, start1.atStart⟩
end Jvm.Pilot.@@N@@
