import JvmDerived
import JvmDerived.Pilot.@@N@@Statement
import JvmDerived.Pilot.@@N@@Code
set_option linter.unusedVariables false
set_option linter.unusedSimpArgs false
namespace Jvm.RoadKit
open Sem ClassFile Op Lib Jvm.Stand Jvm.Free Jvm.LawKit
section New
variable {p : Program} {l : Launch} {e : Env} {R : Room} {s : State} {m : MethodId} {args : Array Value} {below : List Frame} {meth : Method} {c : Code} {T : State} {locs : List Loc} {cells slots : Nat}
theorem retI (X : Stand p l e R s m args below meth c T locs cells slots) (hx : p.tables.exec = Jvm.exec) {pc : Nat} {Ls : Array Slot} {z : Int32} {rest : List Value} (hret : meth.sig.returnType = some .int) (hd : decode c.code pc = .ok (.ireturn, 1)) {fs : List Frame}
    (hl : ∀ (f : JFrame) (acts : List Action), f.method = m → f.locked = none → f.entered = [] → (doReturn e (T.setTop f) acts (some (.int z))).1 = T.setFrames fs) : Steps p.tables e below (T.setTop (mkF m pc Ls (.int z :: rest))) (T.setFrames fs) := by
  have hm' : T.vm.method? m = some meth := X.method'
  have hn : narrow .int (.int z) = .int z := rfl
  show Steps p.tables e below (T.setTop { method := m, pc := pc, locals := Ls, stack := _ :: rest, locked := none }) _
  jvm_step X.here [X.here.top, hx, hd, hm', hret, hn]
  first | (intro acts; rw [hl _ acts rfl rfl rfl]) | rw [hl _ _ rfl rfl rfl]
  exact Steps.refl _
end New
end Jvm.RoadKit
namespace Jvm.Pilot.@@N@@
open Jvm Jvm.ClassFile Sem Op Lib Jvm.Free Jvm.Stand Jvm.LawKit Jvm.RoadKit Bundle Jvm.Pilot.@@N@@.Jvm.D
/-- whoever comes from the frame f (over T) comes from the frame f0 (over T0) -/
abbrev Go (p : Program) (e : Env) (below : List Frame) (T : State) (f : JFrame) (T0 : State) (f0 : JFrame) : Prop := ∀ t, Steps p.tables e below (T.setTop f) t → Steps p.tables e below (T0.setTop f0) t
theorem own_selects {s : State} {args : Array Value} {y : MethodName} {n : Nat} (hy : y.cls ≠ "java/lang/invoke/MethodHandle" ∧ y.cls ≠ "java/lang/invoke/VarHandle") (hins : (Jvm.Cond.instantiable y.cls n).before args s = true) (hpriv : (Jvm.Cond.privateMethod y).before args s = true) (hinst : (Jvm.Cond.instanceMethod y).before args s = true) :
    (Jvm.Cond.selects y.cls y y).before args s = true := by
  obtain ⟨c, k, hc, hk, -, hniab, -, -⟩ := Cond.instantiable_spec hins
  have hni : k.isInterface = false := (Bool.or_eq_false_iff.mp hniab).1
  obtain ⟨mk, methM, hnamed, hmethM, -, -⟩ := Cond.instanceMethod_spec hinst
  have hfound : s.methodFound? y.cls y.name y.desc = some mk := State.methodFound?_of_named hnamed hy
  have hcls : mk.cls = c := Option.some.inj ((findClass_of_methodNamed hnamed).symm.trans hc)
  have hsel : selectMethod {} s.vm c mk = .method mk := selectMethod_private hmethM (Cond.privateMethod_at hpriv mk methM hnamed hmethM)
  simp only [Cond.before, Cond.holds, Cond.value, hc, hfound, hnamed, hsel, hcls, hk]
  simp; exact hni
theorem own_sub (t s w : Int64) : (t - w) - s = (t - s) - w := by
  simp only [Int64.sub_eq_add_neg, Int64.add_assoc]
  rw [Int64.add_comm (-w)]
theorem d4_0 : decode jdk_22_method_1_code 0 = .ok (.aload_n 0, 1) := by decide +kernel
theorem d4_1 : decode jdk_22_method_1_code 1 = .ok (.invokespecial 1, 3) := by decide +kernel
theorem d4_4 : decode jdk_22_method_1_code 4 = .ok (.return_, 1) := by decide +kernel
theorem pn_4 : plainName "java/util/AbstractCollection" = true := by first | (simp [plainName, overriddenIn]; done) | decide +kernel
theorem pd_4 : parseMethodDescriptor "()V" = some ⟨[], none⟩ := by decide +kernel
theorem ef_4 (m : MethodId) (x0 : Addr) : entryFrame m #[(.ref x0)] 1 = mkF m 0 #[.val (.ref x0)] [] := by first | (simp [entryFrame, mkF, argsToLocals, Value.category]; done) | rfl
def Q4 (Z : State) (a1 : Addr) (h0 : Heap) (n0 : Nat) (v : Option Value) (h : Heap) (L : List Loc) : Prop := v = none ∧ Fr n0 L ∧ h = h0
set_option maxRecDepth 65536 in
set_option maxHeartbeats 40000000 in
theorem rm4 (l : Launch) (Z : State) (a0 : Array Value) (hw : ∀ d ∈ tables_1, d.before a0 Z = true) (ws : List Jvm.Cond) (a1 : Addr) (h0 : Heap) (n0 : Nat) (Z0 : n0 ≤ h0.size)  :
    MetFree l (⟨"java/util/AbstractCollection", "<init>", "()V"⟩ : MethodName) (head1 (Jvm.Cond.code (⟨"java/util/AbstractCollection", "<init>", "()V"⟩ : MethodName) jdk_22_method_1_code 1 none :: ws) ({ frames := 1, cells := 0, slots := 0, locals := 12 } : Room)) (fun a U => a = #[(.ref a1)] ∧ Z.Warmed39 U.vm ∧ U.heap = h0) (fun _ _ _ _ _ => True) (fun _ U o U' => ∃ v L, o = .returned v ∧ Q4 Z a1 h0 n0 v U'.heap L ∧ FrameEnd U o U' L ({ frames := 1, cells := 0, slots := 0, locals := 12 } : Room).cells ({ frames := 1, cells := 0, slots := 0, locals := 12 } : Room).slots) := by
  refine MetFree.of_bodySF (plainFor_of_name pn_4) hisR ?_
  intro p e s m args below meth c s₁ Bd hml0 hP hK
  obtain ⟨rfl, hZ, hh⟩ := hP
  have hx := Bd.exec
  have hby := Bd.bytes
  have hml : c.maxLocals = 1 := hml0
  have hown : s.vm.findClass "java/util/AbstractCollection" = some m.cls := findClass_of_methodNamed Bd.named
  have hnm := (name_of_methodNamed Bd.named Bd.method).1
  have X0 : Stand p l e ({ frames := 1, cells := 0, slots := 0, locals := 12 } : Room) s m #[(.ref a1)] below meth c s₁ [] 0 0 := Stand.of_body Bd
  have e0 : s₁.heap = h0 := by rw [← hh, Bd.state]; rfl
  have N0 := Fr.nil n0
  obtain ⟨F0, hF0⟩ : ∃ F0, F0 = entryFrame m #[(.ref a1)] 1 := ⟨_, rfl⟩
  have C0 : Go p e below s₁ (mkF m 0 #[.val (.ref a1)] []) s₁ F0 := fun t k => by rw [hF0]; exact castTop (ef_4 m a1) k
  have pre0 : ∀ t, Steps p.tables e below (s₁.setTop F0) t → Steps p.tables e below (s₁.setTop (entryFrame m #[(.ref a1)] 1)) t := fun t k => by rw [← hF0]; exact k
  have C1 : Go p e below s₁ (mkF m 1 #[.val (.ref a1)] [(.ref a1)]) s₁ F0 := fun t k => C0 t (by
    refine XS.aloadN X0.here hx rfl (hb hby d4_0) rfl rfl ?_
    exact k)
  obtain ⟨T2, X2, e2, st2⟩ := initO X0 hx hZ hown (hw _ (List.mem_of_getElem? (i := 21) rfl)) (hw _ (List.mem_of_getElem? (i := 7) rfl)) (hw _ (List.mem_of_getElem? (i := 8) rfl)) e0 (g := (mkF m 1 #[.val (.ref a1)] [(.ref a1)])) rfl (by rw [hml]; rfl) rfl (hb hby d4_1) (by decide) (W := 0) (by show 2 * 0 + _ ≤ _; exact Nat.le_of_eq rfl) (by decide)
  have C2 : Go p e below T2 (mkF m 4 #[.val (.ref a1)] []) s₁ F0 := fun t k => C1 t (st2 t k)
  obtain ⟨fs, hr, hrun, hended, hW, hsame⟩ := X2.leave (v := none) (fun _ => rfl)
  refine ⟨_, _, pre0 _ (C2 _ ?_), hrun, hended, _, _, rfl, ?_, ⟨_, rfl⟩, hW, hsame.mono (by decide) (by decide)⟩
  · exact X2.returnOut hx Bd.returns (hb hby d4_4) hr
  · show Q4 Z a1 h0 n0 _ T2.heap _
    rw [e2]
    exact ⟨rfl, N0, rfl⟩
theorem d3_0 : decode jdk_21_method_3_code 0 = .ok (.aload_n 0, 1) := by decide +kernel
theorem d3_1 : decode jdk_21_method_3_code 1 = .ok (.invokespecial 42, 3) := by decide +kernel
theorem d3_4 : decode jdk_21_method_3_code 4 = .ok (.aload_n 0, 1) := by decide +kernel
theorem d3_5 : decode jdk_21_method_3_code 5 = .ok (.bipush 17, 2) := by decide +kernel
theorem d3_7 : decode jdk_21_method_3_code 7 = .ok (.anewarray 47, 3) := by decide +kernel
theorem d3_10 : decode jdk_21_method_3_code 10 = .ok (.putfield 3, 3) := by decide +kernel
theorem d3_13 : decode jdk_21_method_3_code 13 = .ok (.return_, 1) := by decide +kernel
theorem pn_3 : plainName "java/util/ArrayDeque" = true := by first | (simp [plainName, overriddenIn]; done) | decide +kernel
theorem pd_3 : parseMethodDescriptor "()V" = some ⟨[], none⟩ := by decide +kernel
theorem ef_3 (m : MethodId) (x0 : Addr) : entryFrame m #[(.ref x0)] 1 = mkF m 0 #[.val (.ref x0)] [] := by first | (simp [entryFrame, mkF, argsToLocals, Value.category]; done) | rfl
def Q3 (Z : State) (a1 : Addr) (u1 : Value) (h0 : Heap) (n0 : Nat) (v : Option Value) (h : Heap) (L : List Loc) : Prop := ∃ (b : Addr) (k : ClassId), v = none ∧ Fr n0 L ∧ Keep h0 h [a1] ∧ h0.size ≤ b ∧ Exa Z h a1 "java/util/ArrayDeque" ∧ Fld Z h a1 "java/util/ArrayDeque" "elements" "[Ljava/lang/Object;" (.ref b) ∧ Fld Z h a1 "java/util/ArrayDeque" "tail" "I" (.int 0) ∧ Fld Z h a1 "java/util/ArrayDeque" "head" "I" (.int 0) ∧ Arv Z h b k (.object "java/lang/Object") 17 [] .null ∧ Ovr Z k "java/lang/Object"
set_option maxRecDepth 65536 in
set_option maxHeartbeats 40000000 in
theorem rm3 (l : Launch) (Z : State) (a0 : Array Value) (hw : ∀ d ∈ tables_1, d.before a0 Z = true) (ws : List Jvm.Cond) (a1 : Addr) (u1 : Value) (h0 : Heap) (n0 : Nat) (Z0 : n0 ≤ h0.size) (F_el : Fld Z h0 a1 "java/util/ArrayDeque" "elements" "[Ljava/lang/Object;" u1) (F_t : Fld Z h0 a1 "java/util/ArrayDeque" "tail" "I" (.int 0)) (F_h : Fld Z h0 a1 "java/util/ArrayDeque" "head" "I" (.int 0)) (E_a1 : Exa Z h0 a1 "java/util/ArrayDeque") (g_a1 : n0 ≤ a1) :
    MetFree l (⟨"java/util/ArrayDeque", "<init>", "()V"⟩ : MethodName) (head1 (Jvm.Cond.code (⟨"java/util/ArrayDeque", "<init>", "()V"⟩ : MethodName) jdk_21_method_3_code 1 none :: ws) ({ frames := 2, cells := 1, slots := 17, locals := 24 } : Room)) (fun a U => a = #[(.ref a1)] ∧ Z.Warmed39 U.vm ∧ U.heap = h0) (fun _ _ _ _ _ => True) (fun _ U o U' => ∃ v L, o = .returned v ∧ Q3 Z a1 u1 h0 n0 v U'.heap L ∧ FrameEnd U o U' L ({ frames := 2, cells := 1, slots := 17, locals := 24 } : Room).cells ({ frames := 2, cells := 1, slots := 17, locals := 24 } : Room).slots) := by
  refine MetFree.of_bodySF (plainFor_of_name pn_3) hisR ?_
  intro p e s m args below meth c s₁ Bd hml0 hP hK
  obtain ⟨rfl, hZ, hh⟩ := hP
  have hx := Bd.exec
  have hby := Bd.bytes
  have hml : c.maxLocals = 1 := hml0
  have hown : s.vm.findClass "java/util/ArrayDeque" = some m.cls := findClass_of_methodNamed Bd.named
  have hnm := (name_of_methodNamed Bd.named Bd.method).1
  have X0 : Stand p l e ({ frames := 2, cells := 1, slots := 17, locals := 24 } : Room) s m #[(.ref a1)] below meth c s₁ [] 0 0 := Stand.of_body Bd
  have e0 : s₁.heap = h0 := by rw [← hh, Bd.state]; rfl
  have N0 := Fr.nil n0
  obtain ⟨F0, hF0⟩ : ∃ F0, F0 = entryFrame m #[(.ref a1)] 1 := ⟨_, rfl⟩
  have C0 : Go p e below s₁ (mkF m 0 #[.val (.ref a1)] []) s₁ F0 := fun t k => by rw [hF0]; exact castTop (ef_3 m a1) k
  have pre0 : ∀ t, Steps p.tables e below (s₁.setTop F0) t → Steps p.tables e below (s₁.setTop (entryFrame m #[(.ref a1)] 1)) t := fun t k => by rw [← hF0]; exact k
  have C1 : Go p e below s₁ (mkF m 1 #[.val (.ref a1)] [(.ref a1)]) s₁ F0 := fun t k => C0 t (by
    refine XS.aloadN X0.here hx rfl (hb hby d3_0) rfl rfl ?_
    exact k)
  obtain ⟨_, _, ⟨T2, L2, k2, n2⟩, -, X2, ⟨Lc2, hQ2, l2, y2, z2⟩, st2⟩ := X0.specialBack hx (y := (⟨"java/util/AbstractCollection", "<init>", "()V"⟩ : MethodName)) rfl hown (mvT hZ (hw _ (List.mem_of_getElem? (i := 15) rfl))) (mvT hZ (hw _ (List.mem_of_getElem? (i := 16) rfl))) (mvT hZ (hw _ (List.mem_of_getElem? (i := 20) rfl))) (by decide) (backOf (W := 0) (rm4 l Z a0 hw [] a1 h0 n0 Z0) hZ (hw _ (List.mem_of_getElem? (i := 20) rfl)) (hw _ (List.mem_of_getElem? (i := 19) rfl)) (by decide) (by decide)) (g := (mkF m 1 #[.val (.ref a1)] [(.ref a1)])) rfl (by rw [hml]; rfl) (Steps.refl _) (a := a1) (argsL := []) (rest := []) (lenOf pd_4 rfl) rfl (by show 2 * 0 + _ ≤ _; exact Nat.le_of_eq rfl) (hb hby d3_1) (fun _ _ => ⟨rfl, e0, (by decide : 0 + 0 ≤ _), (by decide : 0 + 0 ≤ _)⟩)
  dsimp only [Pt.U, Pt.locs, Pt.cells, Pt.slots] at X2 l2 y2 z2 st2 hQ2
  subst l2 y2 z2
  obtain ⟨rfl, N2q, eh2⟩ := hQ2
  have C2 : Go p e below T2 (mkF m 4 #[.val (.ref a1)] []) s₁ F0 := fun t k => C1 t (st2.trans k)
  have N2 := Fr.app N0 N2q
  have C3 : Go p e below T2 (mkF m 7 #[.val (.ref a1)] [(.int (17 : Int32)), (.ref a1)]) s₁ F0 := fun t k => C2 t (by
    refine XS.aloadN X2.here hx rfl (hb hby d3_4) rfl rfl ?_
    show Steps p.tables e below (T2.setTop (mkF m 5 #[.val (.ref a1)] [(.ref a1)])) _
    refine XS.bipush X2.here hx rfl (hb hby d3_5) ?_
    exact k)
  obtain ⟨T4, h4, k4, X4, e4, E4, A4, O4, st4⟩ := newR X2 hx hZ hown (hw _ (List.mem_of_getElem? (i := 22) rfl)) (hw _ (List.mem_of_getElem? (i := 23) rfl)) eh2 (g := (mkF m 7 #[.val (.ref a1)] [(.int (17 : Int32)), (.ref a1)])) rfl (hb hby d3_7) rfl (by decide) (cap := 17) (by decide) (by decide) (by decide) (by decide)
  obtain ⟨b4, g4⟩ : ∃ z, z = h0.size := ⟨_, rfl⟩
  rw [← g4] at A4 st4
  have C4 : Go p e below T4 (mkF m 10 #[.val (.ref a1)] [(.ref b4), (.ref a1)]) s₁ F0 := fun t k => C3 t (st4 t k)
  have V4 : Arv Z h4 b4 k4 (.object "java/lang/Object") 17 [] .null := Arv.new A4 (by decide)
  have ne : a1 ≠ b4 := Nat.ne_of_lt (Nat.lt_of_lt_of_le E_a1.lt (Nat.le_of_eq g4.symm))
  obtain ⟨T5, h5, X5, e5, W5, st5⟩ := putF X4 hx hZ hown (host := "") (Or.inl (hw _ (List.mem_of_getElem? (i := 24) rfl))) Via.refl e4 (F_el.ext E4) (E_a1.ext E4) (Or.inl (hw _ (List.mem_of_getElem? (i := 25) rfl))) (hw _ (List.mem_of_getElem? (i := 10) rfl)) (ty := (.array (.object "java/lang/Object"))) (by decide) rfl rfl (g := (mkF m 10 #[.val (.ref a1)] [(.ref b4), (.ref a1)])) rfl rfl (hb hby d3_10)
  have C5 : Go p e below T5 (mkF m 13 #[.val (.ref a1)] []) s₁ F0 := fun t k => C4 t (st5 t k)
  have N5 := Fr.snoc X5 N2 g_a1
  have K5 := ((Keep.refl h0 [a1]).ext E4).wr W5 (Or.inl (List.mem_of_getElem? (i := 0) rfl))
  obtain ⟨fs, hr, hrun, hended, hW, hsame⟩ := X5.leave (v := none) (fun _ => rfl)
  refine ⟨_, _, pre0 _ (C5 _ ?_), hrun, hended, _, _, rfl, ?_, ⟨_, rfl⟩, hW, hsame.mono (by decide) (by decide)⟩
  · exact X5.returnOut hx Bd.returns (hb hby d3_13) hr
  · show Q3 Z a1 u1 h0 n0 _ T5.heap _
    rw [e5]
    exact ⟨b4, k4, rfl, N5, K5, Nat.le_of_eq g4.symm, (E_a1.ext E4).wr W5, (F_el.ext E4).same W5, (F_t.ext E4).other W5 (Or.inr (slot_ne (Or.inl (hw _ (List.mem_of_getElem? (i := 46) rfl))) (Or.inl (hw _ (List.mem_of_getElem? (i := 25) rfl))) (by decide) (t := .int) (t' := (.array (.object "java/lang/Object"))) (by decide) (by decide))), (F_h.ext E4).other W5 (Or.inr (slot_ne (Or.inl (hw _ (List.mem_of_getElem? (i := 49) rfl))) (Or.inl (hw _ (List.mem_of_getElem? (i := 25) rfl))) (by decide) (t := .int) (t' := (.array (.object "java/lang/Object"))) (by decide) (by decide))), V4.other W5 ne.symm, O4⟩
theorem d7_0 : decode jdk_21_method_6_code 0 = .ok (.iinc 0 1, 3) := by decide +kernel
theorem d7_3 : decode jdk_21_method_6_code 3 = .ok (.iload_n 0, 1) := by decide +kernel
theorem d7_4 : decode jdk_21_method_6_code 4 = .ok (.iload_n 1, 1) := by decide +kernel
theorem d7_5 : decode jdk_21_method_6_code 5 = .ok (.if_icmp .lt 5, 3) := by decide +kernel
theorem d7_8 : decode jdk_21_method_6_code 8 = .ok (.iconst 0, 1) := by decide +kernel
theorem d7_9 : decode jdk_21_method_6_code 9 = .ok (.istore_n 0, 1) := by decide +kernel
theorem d7_10 : decode jdk_21_method_6_code 10 = .ok (.iload_n 0, 1) := by decide +kernel
theorem d7_11 : decode jdk_21_method_6_code 11 = .ok (.ireturn, 1) := by decide +kernel
theorem pn_7 : plainName "java/util/ArrayDeque" = true := by first | (simp [plainName, overriddenIn]; done) | decide +kernel
theorem pd_7 : parseMethodDescriptor "(II)I" = some ⟨[.int, .int], some .int⟩ := by decide +kernel
theorem ef_7 (m : MethodId) (x0 : Int32) (x1 : Int32) : entryFrame m #[(.int x0), (.int x1)] 2 = mkF m 0 #[.val (.int x0), .val (.int x1)] [] := by first | (simp [entryFrame, mkF, argsToLocals, Value.category]; done) | rfl
def Q7 (Z : State) (p1 p2 : Int32) (h0 : Heap) (n0 : Nat) (v : Option Value) (h : Heap) (L : List Loc) : Prop := v = some (.int (p1 + 1)) ∧ Fr n0 L ∧ h = h0
set_option maxRecDepth 65536 in
set_option maxHeartbeats 40000000 in
theorem rm7 (l : Launch) (Z : State) (a0 : Array Value) (hw : ∀ d ∈ tables_1, d.before a0 Z = true) (ws : List Jvm.Cond) (p1 p2 : Int32) (h0 : Heap) (n0 : Nat) (Z0 : n0 ≤ h0.size) (hc : (p1 + 1) < p2) :
    MetFree l (⟨"java/util/ArrayDeque", "inc", "(II)I"⟩ : MethodName) (head1 (Jvm.Cond.code (⟨"java/util/ArrayDeque", "inc", "(II)I"⟩ : MethodName) jdk_21_method_6_code 2 (some .int) :: ws) ({ frames := 0, cells := 0, slots := 0, locals := 0 } : Room)) (fun a U => a = #[(.int p1), (.int p2)] ∧ Z.Warmed39 U.vm ∧ U.heap = h0) (fun _ _ _ _ _ => True) (fun _ U o U' => ∃ v L, o = .returned v ∧ Q7 Z p1 p2 h0 n0 v U'.heap L ∧ FrameEnd U o U' L ({ frames := 0, cells := 0, slots := 0, locals := 0 } : Room).cells ({ frames := 0, cells := 0, slots := 0, locals := 0 } : Room).slots) := by
  refine MetFree.of_bodySF (plainFor_of_name pn_7) hisR ?_
  intro p e s m args below meth c s₁ Bd hml0 hP hK
  obtain ⟨rfl, hZ, hh⟩ := hP
  have hx := Bd.exec
  have hby := Bd.bytes
  have hml : c.maxLocals = 2 := hml0
  have hown : s.vm.findClass "java/util/ArrayDeque" = some m.cls := findClass_of_methodNamed Bd.named
  have hnm := (name_of_methodNamed Bd.named Bd.method).1
  have X0 : Stand p l e ({ frames := 0, cells := 0, slots := 0, locals := 0 } : Room) s m #[(.int p1), (.int p2)] below meth c s₁ [] 0 0 := Stand.of_body Bd
  have e0 : s₁.heap = h0 := by rw [← hh, Bd.state]; rfl
  have N0 := Fr.nil n0
  obtain ⟨F0, hF0⟩ : ∃ F0, F0 = entryFrame m #[(.int p1), (.int p2)] 2 := ⟨_, rfl⟩
  have C0 : Go p e below s₁ (mkF m 0 #[.val (.int p1), .val (.int p2)] []) s₁ F0 := fun t k => by rw [hF0]; exact castTop (ef_7 m p1 p2) k
  have pre0 : ∀ t, Steps p.tables e below (s₁.setTop F0) t → Steps p.tables e below (s₁.setTop (entryFrame m #[(.int p1), (.int p2)] 2)) t := fun t k => by rw [← hF0]; exact k
  have C1 : Go p e below s₁ (mkF m 11 #[.val (.int (p1 + (1 : Int32))), .val (.int p2)] [(.int (p1 + (1 : Int32)))]) s₁ F0 := fun t k => C0 t (by
    refine XS.iinc X0.here hx rfl (hb hby d7_0) rfl (l' := #[.val (.int (p1 + (1 : Int32))), .val (.int p2)]) rfl ?_
    show Steps p.tables e below (s₁.setTop (mkF m 3 #[.val (.int (p1 + (1 : Int32))), .val (.int p2)] [])) _
    refine XS.iloadN X0.here hx rfl (hb hby d7_3) rfl ?_
    show Steps p.tables e below (s₁.setTop (mkF m 4 #[.val (.int (p1 + (1 : Int32))), .val (.int p2)] [(.int (p1 + (1 : Int32)))])) _
    refine XS.iloadN X0.here hx rfl (hb hby d7_4) rfl ?_
    show Steps p.tables e below (s₁.setTop (mkF m 5 #[.val (.int (p1 + (1 : Int32))), .val (.int p2)] [(.int p2), (.int (p1 + (1 : Int32)))])) _
    refine XS.icmpYes X0.here hx rfl (pc0 := 5) (pc' := 10) rfl (hb hby d7_5) rfl (tlt hc).1 (by decide) (by decide) ?_
    show Steps p.tables e below (s₁.setTop (mkF m 10 #[.val (.int (p1 + (1 : Int32))), .val (.int p2)] [])) _
    refine XS.iloadN X0.here hx rfl (hb hby d7_10) rfl ?_
    exact k)
  obtain ⟨fs, hr, hrun, hended, hW, hsame⟩ := X0.leave (v := (some (.int (p1 + (1 : Int32))))) (fun h => by rw [Bd.returns] at h; cases h)
  refine ⟨_, _, pre0 _ (C1 _ ?_), hrun, hended, _, _, rfl, ?_, ⟨_, rfl⟩, hW, hsame.mono (by decide) (by decide)⟩
  · exact retI X0 hx Bd.returns (hb hby d7_11) hr
  · show Q7 Z p1 p2 h0 n0 _ s₁.heap _
    rw [e0]
    exact ⟨rfl, N0, rfl⟩
theorem d12_0 : decode jdk_21_method_7_code 0 = .ok (.iinc 0 (-1), 3) := by decide +kernel
theorem d12_3 : decode jdk_21_method_7_code 3 = .ok (.iload_n 0, 1) := by decide +kernel
theorem d12_4 : decode jdk_21_method_7_code 4 = .ok (.ifCond .ge 7, 3) := by decide +kernel
theorem d12_7 : decode jdk_21_method_7_code 7 = .ok (.iload_n 1, 1) := by decide +kernel
theorem d12_8 : decode jdk_21_method_7_code 8 = .ok (.iconst 1, 1) := by decide +kernel
theorem d12_9 : decode jdk_21_method_7_code 9 = .ok (.isub, 1) := by decide +kernel
theorem d12_10 : decode jdk_21_method_7_code 10 = .ok (.istore_n 0, 1) := by decide +kernel
theorem d12_11 : decode jdk_21_method_7_code 11 = .ok (.iload_n 0, 1) := by decide +kernel
theorem d12_12 : decode jdk_21_method_7_code 12 = .ok (.ireturn, 1) := by decide +kernel
theorem pn_12 : plainName "java/util/ArrayDeque" = true := by first | (simp [plainName, overriddenIn]; done) | decide +kernel
theorem pd_12 : parseMethodDescriptor "(II)I" = some ⟨[.int, .int], some .int⟩ := by decide +kernel
theorem ef_12 (m : MethodId) (x0 : Int32) (x1 : Int32) : entryFrame m #[(.int x0), (.int x1)] 2 = mkF m 0 #[.val (.int x0), .val (.int x1)] [] := by first | (simp [entryFrame, mkF, argsToLocals, Value.category]; done) | rfl
def Q12 (Z : State) (p1 p2 : Int32) (h0 : Heap) (n0 : Nat) (v : Option Value) (h : Heap) (L : List Loc) : Prop := v = some (.int (p1 + (-1))) ∧ Fr n0 L ∧ h = h0
set_option maxRecDepth 65536 in
set_option maxHeartbeats 40000000 in
theorem rm12 (l : Launch) (Z : State) (a0 : Array Value) (hw : ∀ d ∈ tables_1, d.before a0 Z = true) (ws : List Jvm.Cond) (p1 p2 : Int32) (h0 : Heap) (n0 : Nat) (Z0 : n0 ≤ h0.size) (hc : ¬ (p1 + (-1)) < 0) :
    MetFree l (⟨"java/util/ArrayDeque", "dec", "(II)I"⟩ : MethodName) (head1 (Jvm.Cond.code (⟨"java/util/ArrayDeque", "dec", "(II)I"⟩ : MethodName) jdk_21_method_7_code 2 (some .int) :: ws) ({ frames := 0, cells := 0, slots := 0, locals := 0 } : Room)) (fun a U => a = #[(.int p1), (.int p2)] ∧ Z.Warmed39 U.vm ∧ U.heap = h0) (fun _ _ _ _ _ => True) (fun _ U o U' => ∃ v L, o = .returned v ∧ Q12 Z p1 p2 h0 n0 v U'.heap L ∧ FrameEnd U o U' L ({ frames := 0, cells := 0, slots := 0, locals := 0 } : Room).cells ({ frames := 0, cells := 0, slots := 0, locals := 0 } : Room).slots) := by
  refine MetFree.of_bodySF (plainFor_of_name pn_12) hisR ?_
  intro p e s m args below meth c s₁ Bd hml0 hP hK
  obtain ⟨rfl, hZ, hh⟩ := hP
  have hx := Bd.exec
  have hby := Bd.bytes
  have hml : c.maxLocals = 2 := hml0
  have hown : s.vm.findClass "java/util/ArrayDeque" = some m.cls := findClass_of_methodNamed Bd.named
  have hnm := (name_of_methodNamed Bd.named Bd.method).1
  have X0 : Stand p l e ({ frames := 0, cells := 0, slots := 0, locals := 0 } : Room) s m #[(.int p1), (.int p2)] below meth c s₁ [] 0 0 := Stand.of_body Bd
  have e0 : s₁.heap = h0 := by rw [← hh, Bd.state]; rfl
  have N0 := Fr.nil n0
  obtain ⟨F0, hF0⟩ : ∃ F0, F0 = entryFrame m #[(.int p1), (.int p2)] 2 := ⟨_, rfl⟩
  have C0 : Go p e below s₁ (mkF m 0 #[.val (.int p1), .val (.int p2)] []) s₁ F0 := fun t k => by rw [hF0]; exact castTop (ef_12 m p1 p2) k
  have pre0 : ∀ t, Steps p.tables e below (s₁.setTop F0) t → Steps p.tables e below (s₁.setTop (entryFrame m #[(.int p1), (.int p2)] 2)) t := fun t k => by rw [← hF0]; exact k
  have C1 : Go p e below s₁ (mkF m 12 #[.val (.int (p1 + (-1 : Int32))), .val (.int p2)] [(.int (p1 + (-1 : Int32)))]) s₁ F0 := fun t k => C0 t (by
    refine XS.iinc X0.here hx rfl (hb hby d12_0) rfl (l' := #[.val (.int (p1 + (-1 : Int32))), .val (.int p2)]) rfl ?_
    show Steps p.tables e below (s₁.setTop (mkF m 3 #[.val (.int (p1 + (-1 : Int32))), .val (.int p2)] [])) _
    refine XS.iloadN X0.here hx rfl (hb hby d12_3) rfl ?_
    show Steps p.tables e below (s₁.setTop (mkF m 4 #[.val (.int (p1 + (-1 : Int32))), .val (.int p2)] [(.int (p1 + (-1 : Int32)))])) _
    refine XS.ifYes X0.here hx rfl (pc0 := 4) (pc' := 11) rfl (hb hby d12_4) rfl ((if0 _ _).trans (flt hc).2.1) (by decide) (by decide) ?_
    show Steps p.tables e below (s₁.setTop (mkF m 11 #[.val (.int (p1 + (-1 : Int32))), .val (.int p2)] [])) _
    refine XS.iloadN X0.here hx rfl (hb hby d12_11) rfl ?_
    exact k)
  obtain ⟨fs, hr, hrun, hended, hW, hsame⟩ := X0.leave (v := (some (.int (p1 + (-1 : Int32))))) (fun h => by rw [Bd.returns] at h; cases h)
  refine ⟨_, _, pre0 _ (C1 _ ?_), hrun, hended, _, _, rfl, ?_, ⟨_, rfl⟩, hW, hsame.mono (by decide) (by decide)⟩
  · exact retI X0 hx Bd.returns (hb hby d12_12) hr
  · show Q12 Z p1 p2 h0 n0 _ s₁.heap _
    rw [e0]
    exact ⟨rfl, N0, rfl⟩
theorem d13_0 : decode jdk_21_method_10_code 0 = .ok (.aload_n 0, 1) := by decide +kernel
theorem d13_1 : decode jdk_21_method_10_code 1 = .ok (.iload_n 1, 1) := by decide +kernel
theorem d13_2 : decode jdk_21_method_10_code 2 = .ok (.aaload, 1) := by decide +kernel
theorem d13_3 : decode jdk_21_method_10_code 3 = .ok (.areturn, 1) := by decide +kernel
theorem pn_13 : plainName "java/util/ArrayDeque" = true := by first | (simp [plainName, overriddenIn]; done) | decide +kernel
theorem pd_13 : parseMethodDescriptor "([Ljava/lang/Object;I)Ljava/lang/Object;" = some ⟨[(.array (.object "java/lang/Object")), .int], some (.object "java/lang/Object")⟩ := by decide +kernel
theorem ef_13 (m : MethodId) (x0 : Addr) (x1 : Int32) : entryFrame m #[(.ref x0), (.int x1)] 2 = mkF m 0 #[.val (.ref x0), .val (.int x1)] [] := by first | (simp [entryFrame, mkF, argsToLocals, Value.category]; done) | rfl
def Q13 (Z : State) (a1 : Addr) (p2 : Int32) (cl0 : Cell) (r : Addr) (h0 : Heap) (n0 : Nat) (v : Option Value) (h : Heap) (L : List Loc) : Prop := v = some (.ref r) ∧ Fr n0 L ∧ h = h0
set_option maxRecDepth 65536 in
set_option maxHeartbeats 40000000 in
theorem rm13 (l : Launch) (Z : State) (a0 : Array Value) (hw : ∀ d ∈ tables_1, d.before a0 Z = true) (ws : List Jvm.Cond) (a1 : Addr) (p2 : Int32) (cl0 : Cell) (r : Addr) (h0 : Heap) (n0 : Nat) (Z0 : n0 ≤ h0.size) (Ar0 : Arr Z h0 a1 cl0 (.object "java/lang/Object")) (hin : ¬ (p2 < 0 ∨ cl0.slots.size ≤ p2.toNatClampNeg)) (hat : cl0.slots[p2.toNatClampNeg]? = some (.ref r)) :
    MetFree l (⟨"java/util/ArrayDeque", "elementAt", "([Ljava/lang/Object;I)Ljava/lang/Object;"⟩ : MethodName) (head1 (Jvm.Cond.code (⟨"java/util/ArrayDeque", "elementAt", "([Ljava/lang/Object;I)Ljava/lang/Object;"⟩ : MethodName) jdk_21_method_10_code 2 (some (.object "java/lang/Object")) :: ws) ({ frames := 0, cells := 0, slots := 0, locals := 0 } : Room)) (fun a U => a = #[(.ref a1), (.int p2)] ∧ Z.Warmed39 U.vm ∧ U.heap = h0) (fun _ _ _ _ _ => True) (fun _ U o U' => ∃ v L, o = .returned v ∧ Q13 Z a1 p2 cl0 r h0 n0 v U'.heap L ∧ FrameEnd U o U' L ({ frames := 0, cells := 0, slots := 0, locals := 0 } : Room).cells ({ frames := 0, cells := 0, slots := 0, locals := 0 } : Room).slots) := by
  refine MetFree.of_bodySF (plainFor_of_name pn_13) hisR ?_
  intro p e s m args below meth c s₁ Bd hml0 hP hK
  obtain ⟨rfl, hZ, hh⟩ := hP
  have hx := Bd.exec
  have hby := Bd.bytes
  have hml : c.maxLocals = 2 := hml0
  have hown : s.vm.findClass "java/util/ArrayDeque" = some m.cls := findClass_of_methodNamed Bd.named
  have hnm := (name_of_methodNamed Bd.named Bd.method).1
  have X0 : Stand p l e ({ frames := 0, cells := 0, slots := 0, locals := 0 } : Room) s m #[(.ref a1), (.int p2)] below meth c s₁ [] 0 0 := Stand.of_body Bd
  have e0 : s₁.heap = h0 := by rw [← hh, Bd.state]; rfl
  have N0 := Fr.nil n0
  obtain ⟨F0, hF0⟩ : ∃ F0, F0 = entryFrame m #[(.ref a1), (.int p2)] 2 := ⟨_, rfl⟩
  have C0 : Go p e below s₁ (mkF m 0 #[.val (.ref a1), .val (.int p2)] []) s₁ F0 := fun t k => by rw [hF0]; exact castTop (ef_13 m a1 p2) k
  have pre0 : ∀ t, Steps p.tables e below (s₁.setTop F0) t → Steps p.tables e below (s₁.setTop (entryFrame m #[(.ref a1), (.int p2)] 2)) t := fun t k => by rw [← hF0]; exact k
  have C1 : Go p e below s₁ (mkF m 3 #[.val (.ref a1), .val (.int p2)] [(.ref r)]) s₁ F0 := fun t k => C0 t (by
    refine XS.aloadN X0.here hx rfl (hb hby d13_0) rfl rfl ?_
    show Steps p.tables e below (s₁.setTop (mkF m 1 #[.val (.ref a1), .val (.int p2)] [(.ref a1)])) _
    refine XS.iloadN X0.here hx rfl (hb hby d13_1) rfl ?_
    show Steps p.tables e below (s₁.setTop (mkF m 2 #[.val (.ref a1), .val (.int p2)] [(.int p2), (.ref a1)])) _
    refine X0.aaload hx (j := p2) (v := (.ref r)) (by rw [e0]; exact Ar0.1) (State.isArrayOf_alike hZ.alike Ar0.2.1) rfl Ar0.2.2 hin hat (g := (mkF m 2 #[.val (.ref a1), .val (.int p2)] [(.int p2), (.ref a1)])) rfl rfl (hb hby d13_2) _ ?_
    exact k)
  obtain ⟨fs, hr, hrun, hended, hW, hsame⟩ := X0.leave (v := (some (.ref r))) (fun h => by rw [Bd.returns] at h; cases h)
  refine ⟨_, _, pre0 _ (C1 _ ?_), hrun, hended, _, _, rfl, ?_, ⟨_, rfl⟩, hW, hsame.mono (by decide) (by decide)⟩
  · jvm_step X0.here [X0.here.top, hx, (hb hby d13_3), X0.method', Bd.returns, Value.isRef, FieldType.isReference]
    first | (intro acts; rw [hr _ acts rfl rfl rfl]) | rw [hr _ _ rfl rfl rfl]
    exact Steps.refl _
  · show Q13 Z a1 p2 cl0 r h0 n0 _ s₁.heap _
    rw [e0]
    exact ⟨rfl, N0, rfl⟩
theorem d6_0 : decode jdk_21_method_13_code 0 = .ok (.aload_n 1, 1) := by decide +kernel
theorem d6_1 : decode jdk_21_method_13_code 1 = .ok (.ifnonnull 11, 3) := by decide +kernel
theorem d6_4 : decode jdk_21_method_13_code 4 = .ok (.new 65, 3) := by decide +kernel
theorem d6_7 : decode jdk_21_method_13_code 7 = .ok (.dup, 1) := by decide +kernel
theorem d6_8 : decode jdk_21_method_13_code 8 = .ok (.invokespecial 67, 3) := by decide +kernel
theorem d6_11 : decode jdk_21_method_13_code 11 = .ok (.athrow, 1) := by decide +kernel
theorem d6_12 : decode jdk_21_method_13_code 12 = .ok (.aload_n 0, 1) := by decide +kernel
theorem d6_13 : decode jdk_21_method_13_code 13 = .ok (.getfield 3, 3) := by decide +kernel
theorem d6_16 : decode jdk_21_method_13_code 16 = .ok (.astore_n 2, 1) := by decide +kernel
theorem d6_17 : decode jdk_21_method_13_code 17 = .ok (.aload_n 2, 1) := by decide +kernel
theorem d6_18 : decode jdk_21_method_13_code 18 = .ok (.aload_n 0, 1) := by decide +kernel
theorem d6_19 : decode jdk_21_method_13_code 19 = .ok (.getfield 20, 3) := by decide +kernel
theorem d6_22 : decode jdk_21_method_13_code 22 = .ok (.aload_n 1, 1) := by decide +kernel
theorem d6_23 : decode jdk_21_method_13_code 23 = .ok (.aastore, 1) := by decide +kernel
theorem d6_24 : decode jdk_21_method_13_code 24 = .ok (.aload_n 0, 1) := by decide +kernel
theorem d6_25 : decode jdk_21_method_13_code 25 = .ok (.getfield 24, 3) := by decide +kernel
theorem d6_28 : decode jdk_21_method_13_code 28 = .ok (.aload_n 0, 1) := by decide +kernel
theorem d6_29 : decode jdk_21_method_13_code 29 = .ok (.aload_n 0, 1) := by decide +kernel
theorem d6_30 : decode jdk_21_method_13_code 30 = .ok (.getfield 20, 3) := by decide +kernel
theorem d6_33 : decode jdk_21_method_13_code 33 = .ok (.aload_n 2, 1) := by decide +kernel
theorem d6_34 : decode jdk_21_method_13_code 34 = .ok (.arraylength, 1) := by decide +kernel
theorem d6_35 : decode jdk_21_method_13_code 35 = .ok (.invokestatic 74, 3) := by decide +kernel
theorem d6_38 : decode jdk_21_method_13_code 38 = .ok (.dup_x1, 1) := by decide +kernel
theorem d6_39 : decode jdk_21_method_13_code 39 = .ok (.putfield 20, 3) := by decide +kernel
theorem d6_42 : decode jdk_21_method_13_code 42 = .ok (.if_icmp .ne 8, 3) := by decide +kernel
theorem d6_45 : decode jdk_21_method_13_code 45 = .ok (.aload_n 0, 1) := by decide +kernel
theorem d6_46 : decode jdk_21_method_13_code 46 = .ok (.iconst 1, 1) := by decide +kernel
theorem d6_47 : decode jdk_21_method_13_code 47 = .ok (.invokevirtual 71, 3) := by decide +kernel
theorem d6_50 : decode jdk_21_method_13_code 50 = .ok (.return_, 1) := by decide +kernel
theorem pn_6 : plainName "java/util/ArrayDeque" = true := by first | (simp [plainName, overriddenIn]; done) | decide +kernel
theorem pd_6 : parseMethodDescriptor "(Ljava/lang/Object;)V" = some ⟨[(.object "java/lang/Object")], none⟩ := by decide +kernel
theorem ef_6 (m : MethodId) (x0 : Addr) (x1 : Addr) : entryFrame m #[(.ref x0), (.ref x1)] 3 = mkF m 0 #[.val (.ref x0), .val (.ref x1), .unset] [] := by first | (simp [entryFrame, mkF, argsToLocals, Value.category]; done) | rfl
def Q6 (Z : State) (a1 a2 : Addr) (b : Addr) (k : ClassId) (h0 : Heap) (n0 : Nat) (v : Option Value) (h : Heap) (L : List Loc) : Prop := v = none ∧ Fr n0 L ∧ Keep h0 h [b, a1] ∧ Exa Z h a1 "java/util/ArrayDeque" ∧ Fld Z h a1 "java/util/ArrayDeque" "elements" "[Ljava/lang/Object;" (.ref b) ∧ Fld Z h a1 "java/util/ArrayDeque" "tail" "I" (.int (0 + 1)) ∧ Arv Z h b k (.object "java/lang/Object") 17 [.ref a2] .null
set_option maxRecDepth 65536 in
set_option maxHeartbeats 40000000 in
theorem rm6 (l : Launch) (Z : State) (a0 : Array Value) (hw : ∀ d ∈ tables_1, d.before a0 Z = true) (ws : List Jvm.Cond) (a1 a2 : Addr) (b : Addr) (k : ClassId) (h0 : Heap) (n0 : Nat) (Z0 : n0 ≤ h0.size) (F_el : Fld Z h0 a1 "java/util/ArrayDeque" "elements" "[Ljava/lang/Object;" (.ref b)) (F_t : Fld Z h0 a1 "java/util/ArrayDeque" "tail" "I" (.int 0)) (F_h : Fld Z h0 a1 "java/util/ArrayDeque" "head" "I" (.int 0)) (E_a1 : Exa Z h0 a1 "java/util/ArrayDeque") (V0 : Arv Z h0 b k (.object "java/lang/Object") 17 [] .null) (O0 : Ovr Z k "java/lang/Object") (I2 : Ins Z h0 a2 "java/lang/Object" true) (g_a1 : n0 ≤ a1) (g_b : n0 ≤ b) (ne : a1 ≠ b) :
    MetFree l (⟨"java/util/ArrayDeque", "addLast", "(Ljava/lang/Object;)V"⟩ : MethodName) (head1 (Jvm.Cond.code (⟨"java/util/ArrayDeque", "addLast", "(Ljava/lang/Object;)V"⟩ : MethodName) jdk_21_method_13_code 3 none :: ws) ({ frames := 1, cells := 0, slots := 0, locals := 15 } : Room)) (fun a U => a = #[(.ref a1), (.ref a2)] ∧ Z.Warmed39 U.vm ∧ U.heap = h0) (fun _ _ _ _ _ => True) (fun _ U o U' => ∃ v L, o = .returned v ∧ Q6 Z a1 a2 b k h0 n0 v U'.heap L ∧ FrameEnd U o U' L ({ frames := 1, cells := 0, slots := 0, locals := 15 } : Room).cells ({ frames := 1, cells := 0, slots := 0, locals := 15 } : Room).slots) := by
  refine MetFree.of_bodySF (plainFor_of_name pn_6) hisR ?_
  intro p e s m args below meth c s₁ Bd hml0 hP hK
  obtain ⟨rfl, hZ, hh⟩ := hP
  have hx := Bd.exec
  have hby := Bd.bytes
  have hml : c.maxLocals = 3 := hml0
  have hown : s.vm.findClass "java/util/ArrayDeque" = some m.cls := findClass_of_methodNamed Bd.named
  have hnm := (name_of_methodNamed Bd.named Bd.method).1
  have X0 : Stand p l e ({ frames := 1, cells := 0, slots := 0, locals := 15 } : Room) s m #[(.ref a1), (.ref a2)] below meth c s₁ [] 0 0 := Stand.of_body Bd
  have e0 : s₁.heap = h0 := by rw [← hh, Bd.state]; rfl
  have N0 := Fr.nil n0
  obtain ⟨F0, hF0⟩ : ∃ F0, F0 = entryFrame m #[(.ref a1), (.ref a2)] 3 := ⟨_, rfl⟩
  have C0 : Go p e below s₁ (mkF m 0 #[.val (.ref a1), .val (.ref a2), .unset] []) s₁ F0 := fun t k => by rw [hF0]; exact castTop (ef_6 m a1 a2) k
  have pre0 : ∀ t, Steps p.tables e below (s₁.setTop F0) t → Steps p.tables e below (s₁.setTop (entryFrame m #[(.ref a1), (.ref a2)] 3)) t := fun t k => by rw [← hF0]; exact k
  have V1 : Arv Z h0 b k (.object "java/lang/Object") 17 [.null] .null := V0.pad (pad_rep [] _ 1)
  obtain ⟨cl0, Ar0, q0, S0, M0, H0, G0⟩ := V1
  have C1 : Go p e below s₁ (mkF m 13 #[.val (.ref a1), .val (.ref a2), .unset] [(.ref a1)]) s₁ F0 := fun t k => C0 t (by
    refine XS.aloadN X0.here hx rfl (hb hby d6_0) rfl rfl ?_
    show Steps p.tables e below (s₁.setTop (mkF m 1 #[.val (.ref a1), .val (.ref a2), .unset] [(.ref a2)])) _
    refine XS.ifnonnullYes X0.here hx rfl (pc0 := 1) (pc' := 12) rfl (hb hby d6_1) rfl (by decide) (by decide) ?_
    show Steps p.tables e below (s₁.setTop (mkF m 12 #[.val (.ref a1), .val (.ref a2), .unset] [])) _
    refine XS.aloadN X0.here hx rfl (hb hby d6_12) rfl rfl ?_
    exact k)
  obtain ⟨T2, X2, e2, st2⟩ := getF X0 hx hZ hown (host := "") (Or.inl (hw _ (List.mem_of_getElem? (i := 24) rfl))) Via.refl e0 F_el (g := (mkF m 13 #[.val (.ref a1), .val (.ref a2), .unset] [(.ref a1)])) rfl rfl (hb hby d6_13)
  have C2 : Go p e below T2 (mkF m 16 #[.val (.ref a1), .val (.ref a2), .unset] [(.ref b)]) s₁ F0 := fun t k => C1 t (st2 t k)
  have C3 : Go p e below T2 (mkF m 19 #[.val (.ref a1), .val (.ref a2), .val (.ref b)] [(.ref a1), (.ref b)]) s₁ F0 := fun t k => C2 t (by
    refine XS.astoreN X2.here hx rfl (hb hby d6_16) rfl rfl (l' := #[.val (.ref a1), .val (.ref a2), .val (.ref b)]) rfl ?_
    show Steps p.tables e below (T2.setTop (mkF m 17 #[.val (.ref a1), .val (.ref a2), .val (.ref b)] [])) _
    refine XS.aloadN X2.here hx rfl (hb hby d6_17) rfl rfl ?_
    show Steps p.tables e below (T2.setTop (mkF m 18 #[.val (.ref a1), .val (.ref a2), .val (.ref b)] [(.ref b)])) _
    refine XS.aloadN X2.here hx rfl (hb hby d6_18) rfl rfl ?_
    exact k)
  obtain ⟨T4, X4, e4, st4⟩ := getF X2 hx hZ hown (host := "") (Or.inl (hw _ (List.mem_of_getElem? (i := 45) rfl))) Via.refl e2 F_t (g := (mkF m 19 #[.val (.ref a1), .val (.ref a2), .val (.ref b)] [(.ref a1), (.ref b)])) rfl rfl (hb hby d6_19)
  have C4 : Go p e below T4 (mkF m 22 #[.val (.ref a1), .val (.ref a2), .val (.ref b)] [(.int (0 : Int32)), (.ref b)]) s₁ F0 := fun t k => C3 t (st4 t k)
  have C5 : Go p e below T4 (mkF m 23 #[.val (.ref a1), .val (.ref a2), .val (.ref b)] [(.ref a2), (.int (0 : Int32)), (.ref b)]) s₁ F0 := fun t k => C4 t (by
    refine XS.aloadN X4.here hx rfl (hb hby d6_22) rfl rfl ?_
    exact k)
  obtain ⟨T6, h6, X6, e6, W6, st6⟩ := stR X4 hx hZ e4 Ar0 (j := (0 : Int32)) (inb_of S0 ⟨by decide, by decide⟩) rfl (Sto.ofV Ar0 q0 O0 I2) (g := (mkF m 23 #[.val (.ref a1), .val (.ref a2), .val (.ref b)] [(.ref a2), (.int (0 : Int32)), (.ref b)])) rfl rfl (hb hby d6_23)
  have C6 : Go p e below T6 (mkF m 24 #[.val (.ref a1), .val (.ref a2), .val (.ref b)] []) s₁ F0 := fun t k => C5 t (st6 t k)
  have V6 : Arv Z h6 b k (.object "java/lang/Object") 17 [.ref a2] .null := Arv.set Ar0 q0 S0 M0 H0 G0 rfl W6 0 rfl (Nat.le_of_ble_eq_true rfl)
  have N6 := Fr.snoc X6 N0 g_b
  have K6 := (Keep.refl h0 [b, a1]).wr W6 (Or.inl (List.mem_of_getElem? (i := 0) rfl))
  have Fel6 := F_el.other W6 (Or.inl ne)
  have Ft6 := F_t.other W6 (Or.inl ne)
  have Fh6 := F_h.other W6 (Or.inl ne)
  have Ea6 := E_a1.wr W6
  obtain ⟨cl1, Ar1, q1, S1, M1, H1, G1⟩ := id V6
  have C7 : Go p e below T6 (mkF m 25 #[.val (.ref a1), .val (.ref a2), .val (.ref b)] [(.ref a1)]) s₁ F0 := fun t k => C6 t (by
    refine XS.aloadN X6.here hx rfl (hb hby d6_24) rfl rfl ?_
    exact k)
  obtain ⟨T8, X8, e8, st8⟩ := getF X6 hx hZ hown (host := "") (Or.inl (hw _ (List.mem_of_getElem? (i := 48) rfl))) Via.refl e6 Fh6 (g := (mkF m 25 #[.val (.ref a1), .val (.ref a2), .val (.ref b)] [(.ref a1)])) rfl rfl (hb hby d6_25)
  have C8 : Go p e below T8 (mkF m 28 #[.val (.ref a1), .val (.ref a2), .val (.ref b)] [(.int (0 : Int32))]) s₁ F0 := fun t k => C7 t (st8 t k)
  have C9 : Go p e below T8 (mkF m 30 #[.val (.ref a1), .val (.ref a2), .val (.ref b)] [(.ref a1), (.ref a1), (.int (0 : Int32))]) s₁ F0 := fun t k => C8 t (by
    refine XS.aloadN X8.here hx rfl (hb hby d6_28) rfl rfl ?_
    show Steps p.tables e below (T8.setTop (mkF m 29 #[.val (.ref a1), .val (.ref a2), .val (.ref b)] [(.ref a1), (.int (0 : Int32))])) _
    refine XS.aloadN X8.here hx rfl (hb hby d6_29) rfl rfl ?_
    exact k)
  obtain ⟨T10, X10, e10, st10⟩ := getF X8 hx hZ hown (host := "") (Or.inl (hw _ (List.mem_of_getElem? (i := 45) rfl))) Via.refl e8 Ft6 (g := (mkF m 30 #[.val (.ref a1), .val (.ref a2), .val (.ref b)] [(.ref a1), (.ref a1), (.int (0 : Int32))])) rfl rfl (hb hby d6_30)
  have C10 : Go p e below T10 (mkF m 33 #[.val (.ref a1), .val (.ref a2), .val (.ref b)] [(.int (0 : Int32)), (.ref a1), (.int (0 : Int32))]) s₁ F0 := fun t k => C9 t (st10 t k)
  have C11 : Go p e below T10 (mkF m 35 #[.val (.ref a1), .val (.ref a2), .val (.ref b)] [(.int (17 : Int32)), (.int (0 : Int32)), (.ref a1), (.int (0 : Int32))]) s₁ F0 := fun t k => C10 t (by
    refine XS.aloadN X10.here hx rfl (hb hby d6_33) rfl rfl ?_
    show Steps p.tables e below (T10.setTop (mkF m 34 #[.val (.ref a1), .val (.ref a2), .val (.ref b)] [(.ref b), (.int (0 : Int32)), (.ref a1), (.int (0 : Int32))])) _
    refine X10.arraylength hx (by rw [e10]; exact Ar1.1) (State.isArrayOf_alike hZ.alike Ar1.2.1) (g := (mkF m 34 #[.val (.ref a1), .val (.ref a2), .val (.ref b)] [(.ref b), (.int (0 : Int32)), (.ref a1), (.int (0 : Int32))])) rfl rfl (hb hby d6_34) _ ?_
    rw [len_of S1 M1]
    exact k)
  have Z6 : n0 ≤ h6.size := Nat.le_trans Z0 K6.1
  obtain ⟨_, _, ⟨T12, L12, k12, n12⟩, -, X12, ⟨Lc12, hQ12, l12, y12, z12⟩, st12⟩ := Jvm.LawKit.callS X10 hx (y := (⟨"java/util/ArrayDeque", "inc", "(II)I"⟩ : MethodName)) hown (mvT hZ (hw _ (List.mem_of_getElem? (i := 50) rfl))) (mvT hZ (hw _ (List.mem_of_getElem? (i := 51) rfl))) (mvT hZ (hw _ (List.mem_of_getElem? (i := 11) rfl))) (mvT hZ (hw _ (List.mem_of_getElem? (i := 52) rfl))) (by decide) (backOf (W := 2) (rm7 l Z a0 hw [] 0 17 h6 n0 Z6 (by decide)) hZ (hw _ (List.mem_of_getElem? (i := 52) rfl)) (hw _ (List.mem_of_getElem? (i := 11) rfl)) (by decide) (by decide)) (g := (mkF m 35 #[.val (.ref a1), .val (.ref a2), .val (.ref b)] [(.int (17 : Int32)), (.int (0 : Int32)), (.ref a1), (.int (0 : Int32))])) rfl (by rw [hml]; rfl) (argsL := [(.int (0 : Int32)), (.int (17 : Int32))]) (rest := [(.ref a1), (.int (0 : Int32))]) (lenOf pd_7 rfl) rfl (by show 2 * 0 + _ ≤ _; exact Nat.le_of_eq rfl) (hb hby d6_35) (fun _ _ => ⟨rfl, e10, (by decide : 0 + 0 ≤ _), (by decide : 0 + 0 ≤ _)⟩)
  dsimp only [Pt.U, Pt.locs, Pt.cells, Pt.slots] at X12 l12 y12 z12 st12 hQ12
  subst l12 y12 z12
  obtain ⟨rfl, N12q, eh12⟩ := hQ12
  have C12 : Go p e below T12 (mkF m 38 #[.val (.ref a1), .val (.ref a2), .val (.ref b)] [(.int ((0 : Int32) + 1)), (.ref a1), (.int (0 : Int32))]) s₁ F0 := fun t k => C11 t (st12 t k)
  have N12 := Fr.app N6 N12q
  have C13 : Go p e below T12 (mkF m 39 #[.val (.ref a1), .val (.ref a2), .val (.ref b)] [(.int ((0 : Int32) + 1)), (.ref a1), (.int ((0 : Int32) + 1)), (.int (0 : Int32))]) s₁ F0 := fun t k => C12 t (by
    refine XS.dupX1 X12.here hx rfl (hb hby d6_38) rfl rfl rfl ?_
    exact k)
  obtain ⟨T14, h14, X14, e14, W14, st14⟩ := putF X12 hx hZ hown (host := "") (Or.inl (hw _ (List.mem_of_getElem? (i := 45) rfl))) Via.refl eh12 Ft6 Ea6 (Or.inl (hw _ (List.mem_of_getElem? (i := 46) rfl))) (hw _ (List.mem_of_getElem? (i := 10) rfl)) (ty := .int) (by decide) rfl rfl (g := (mkF m 39 #[.val (.ref a1), .val (.ref a2), .val (.ref b)] [(.int ((0 : Int32) + 1)), (.ref a1), (.int ((0 : Int32) + 1)), (.int (0 : Int32))])) rfl rfl (hb hby d6_39)
  have C14 : Go p e below T14 (mkF m 42 #[.val (.ref a1), .val (.ref a2), .val (.ref b)] [(.int ((0 : Int32) + 1)), (.int (0 : Int32))]) s₁ F0 := fun t k => C13 t (st14 t k)
  have N14 := Fr.snoc X14 N12 g_a1
  have K14 := K6.wr W14 (Or.inl (List.mem_of_getElem? (i := 1) rfl))
  have C15 : Go p e below T14 (mkF m 50 #[.val (.ref a1), .val (.ref a2), .val (.ref b)] []) s₁ F0 := fun t k => C14 t (by
    refine XS.icmpYes X14.here hx rfl (pc0 := 42) (pc' := 50) rfl (hb hby d6_42) rfl (feq (by decide)).2 (by decide) (by decide) ?_
    exact k)
  obtain ⟨fs, hr, hrun, hended, hW, hsame⟩ := X14.leave (v := none) (fun _ => rfl)
  refine ⟨_, _, pre0 _ (C15 _ ?_), hrun, hended, _, _, rfl, ?_, ⟨_, rfl⟩, hW, hsame.mono (by decide) (by decide)⟩
  · exact X14.returnOut hx Bd.returns (hb hby d6_50) hr
  · show Q6 Z a1 a2 b k h0 n0 _ T14.heap _
    rw [e14]
    exact ⟨rfl, N14, K14, Ea6.wr W14, Fel6.other W14 (Or.inr (slot_ne (Or.inl (hw _ (List.mem_of_getElem? (i := 25) rfl))) (Or.inl (hw _ (List.mem_of_getElem? (i := 46) rfl))) (by decide) (t := (.array (.object "java/lang/Object"))) (t' := .int) (by decide) (by decide))), Ft6.same W14, V6.other W14 ne.symm⟩
theorem d5_0 : decode jdk_21_method_28_code 0 = .ok (.aload_n 0, 1) := by decide +kernel
theorem d5_1 : decode jdk_21_method_28_code 1 = .ok (.aload_n 1, 1) := by decide +kernel
theorem d5_2 : decode jdk_21_method_28_code 2 = .ok (.invokevirtual 90, 3) := by decide +kernel
theorem d5_5 : decode jdk_21_method_28_code 5 = .ok (.iconst 1, 1) := by decide +kernel
theorem d5_6 : decode jdk_21_method_28_code 6 = .ok (.ireturn, 1) := by decide +kernel
theorem pn_5 : plainName "java/util/ArrayDeque" = true := by first | (simp [plainName, overriddenIn]; done) | decide +kernel
theorem pd_5 : parseMethodDescriptor "(Ljava/lang/Object;)Z" = some ⟨[(.object "java/lang/Object")], some .boolean⟩ := by decide +kernel
theorem ef_5 (m : MethodId) (x0 : Addr) (x1 : Addr) : entryFrame m #[(.ref x0), (.ref x1)] 2 = mkF m 0 #[.val (.ref x0), .val (.ref x1)] [] := by first | (simp [entryFrame, mkF, argsToLocals, Value.category]; done) | rfl
def Q5 (Z : State) (a1 a2 : Addr) (b : Addr) (k : ClassId) (h0 : Heap) (n0 : Nat) (v : Option Value) (h : Heap) (L : List Loc) : Prop := v = some (.int 1) ∧ Fr n0 L ∧ Keep h0 h [b, a1] ∧ Exa Z h a1 "java/util/ArrayDeque" ∧ Fld Z h a1 "java/util/ArrayDeque" "elements" "[Ljava/lang/Object;" (.ref b) ∧ Fld Z h a1 "java/util/ArrayDeque" "tail" "I" (.int (0 + 1)) ∧ Arv Z h b k (.object "java/lang/Object") 17 [.ref a2] .null
set_option maxRecDepth 65536 in
set_option maxHeartbeats 40000000 in
theorem rm5 (l : Launch) (Z : State) (a0 : Array Value) (hw : ∀ d ∈ tables_1, d.before a0 Z = true) (ws : List Jvm.Cond) (a1 a2 : Addr) (b : Addr) (k : ClassId) (h0 : Heap) (n0 : Nat) (Z0 : n0 ≤ h0.size) (F_el : Fld Z h0 a1 "java/util/ArrayDeque" "elements" "[Ljava/lang/Object;" (.ref b)) (F_t : Fld Z h0 a1 "java/util/ArrayDeque" "tail" "I" (.int 0)) (F_h : Fld Z h0 a1 "java/util/ArrayDeque" "head" "I" (.int 0)) (E_a1 : Exa Z h0 a1 "java/util/ArrayDeque") (V0 : Arv Z h0 b k (.object "java/lang/Object") 17 [] .null) (O0 : Ovr Z k "java/lang/Object") (I2 : Ins Z h0 a2 "java/lang/Object" true) (g_a1 : n0 ≤ a1) (g_b : n0 ≤ b) (ne : a1 ≠ b) :
    MetFree l (⟨"java/util/ArrayDeque", "add", "(Ljava/lang/Object;)Z"⟩ : MethodName) (head1 (Jvm.Cond.code (⟨"java/util/ArrayDeque", "add", "(Ljava/lang/Object;)Z"⟩ : MethodName) jdk_21_method_28_code 2 (some .boolean) :: ws) ({ frames := 2, cells := 0, slots := 0, locals := 29 } : Room)) (fun a U => a = #[(.ref a1), (.ref a2)] ∧ Z.Warmed39 U.vm ∧ U.heap = h0) (fun _ _ _ _ _ => True) (fun _ U o U' => ∃ v L, o = .returned v ∧ Q5 Z a1 a2 b k h0 n0 v U'.heap L ∧ FrameEnd U o U' L ({ frames := 2, cells := 0, slots := 0, locals := 29 } : Room).cells ({ frames := 2, cells := 0, slots := 0, locals := 29 } : Room).slots) := by
  refine MetFree.of_bodySF (plainFor_of_name pn_5) hisR ?_
  intro p e s m args below meth c s₁ Bd hml0 hP hK
  obtain ⟨rfl, hZ, hh⟩ := hP
  have hx := Bd.exec
  have hby := Bd.bytes
  have hml : c.maxLocals = 2 := hml0
  have hown : s.vm.findClass "java/util/ArrayDeque" = some m.cls := findClass_of_methodNamed Bd.named
  have hnm := (name_of_methodNamed Bd.named Bd.method).1
  have X0 : Stand p l e ({ frames := 2, cells := 0, slots := 0, locals := 29 } : Room) s m #[(.ref a1), (.ref a2)] below meth c s₁ [] 0 0 := Stand.of_body Bd
  have e0 : s₁.heap = h0 := by rw [← hh, Bd.state]; rfl
  have N0 := Fr.nil n0
  obtain ⟨F0, hF0⟩ : ∃ F0, F0 = entryFrame m #[(.ref a1), (.ref a2)] 2 := ⟨_, rfl⟩
  have C0 : Go p e below s₁ (mkF m 0 #[.val (.ref a1), .val (.ref a2)] []) s₁ F0 := fun t k => by rw [hF0]; exact castTop (ef_5 m a1 a2) k
  have pre0 : ∀ t, Steps p.tables e below (s₁.setTop F0) t → Steps p.tables e below (s₁.setTop (entryFrame m #[(.ref a1), (.ref a2)] 2)) t := fun t k => by rw [← hF0]; exact k
  have C1 : Go p e below s₁ (mkF m 2 #[.val (.ref a1), .val (.ref a2)] [(.ref a2), (.ref a1)]) s₁ F0 := fun t k => C0 t (by
    refine XS.aloadN X0.here hx rfl (hb hby d5_0) rfl rfl ?_
    show Steps p.tables e below (s₁.setTop (mkF m 1 #[.val (.ref a1), .val (.ref a2)] [(.ref a1)])) _
    refine XS.aloadN X0.here hx rfl (hb hby d5_1) rfl rfl ?_
    exact k)
  obtain ⟨cq2, kq2, q2a, q2b, q2c⟩ := isOf hZ e0 E_a1
  obtain ⟨_, _, ⟨T2, L2, k2, n2⟩, -, X2, ⟨Lc2, hQ2, l2, y2, z2⟩, st2⟩ := X0.virtualBack hx (y := (⟨"java/util/ArrayDeque", "addLast", "(Ljava/lang/Object;)V"⟩ : MethodName)) (z := (⟨"java/util/ArrayDeque", "addLast", "(Ljava/lang/Object;)V"⟩ : MethodName)) hown (mvT hZ (hw _ (List.mem_of_getElem? (i := 40) rfl))) (mvT hZ (hw _ (List.mem_of_getElem? (i := 41) rfl))) (notFace_of_selects (args := #[]) (mvT hZ (hw _ (List.mem_of_getElem? (i := 43) rfl)))) (mvT hZ (hw _ (List.mem_of_getElem? (i := 43) rfl))) (mvT hZ (hw _ (List.mem_of_getElem? (i := 42) rfl))) (by decide) (backOf (W := 0) (rm6 l Z a0 hw [] a1 a2 b k h0 n0 Z0 F_el F_t F_h E_a1 V0 O0 I2 g_a1 g_b ne) hZ (hw _ (List.mem_of_getElem? (i := 44) rfl)) (hw _ (List.mem_of_getElem? (i := 11) rfl)) (by decide) (by decide)) q2a q2c (g := (mkF m 2 #[.val (.ref a1), .val (.ref a2)] [(.ref a2), (.ref a1)])) rfl (by rw [hml]; rfl) (Steps.refl _) (argsL := [(.ref a2)]) (rest := []) (lenOf pd_6 rfl) rfl (by show 2 * 0 + _ ≤ _; exact Nat.le_of_eq rfl) (hb hby d5_2) (fun _ _ => ⟨rfl, e0, (by decide : 0 + 0 ≤ _), (by decide : 0 + 0 ≤ _)⟩)
  dsimp only [Pt.U, Pt.locs, Pt.cells, Pt.slots] at X2 l2 y2 z2 st2 hQ2
  subst l2 y2 z2
  obtain ⟨rfl, N2q, hrest⟩ := hQ2
  have C2 : Go p e below T2 (mkF m 5 #[.val (.ref a1), .val (.ref a2)] []) s₁ F0 := fun t k => C1 t (st2.trans k)
  have N2 := Fr.app N0 N2q
  have C3 : Go p e below T2 (mkF m 6 #[.val (.ref a1), .val (.ref a2)] [(.int (1 : Int32))]) s₁ F0 := fun t k => C2 t (by
    refine XS.iconst X2.here hx rfl (hb hby d5_5) ?_
    exact k)
  obtain ⟨fs, hr, hrun, hended, hW, hsame⟩ := X2.leave (v := (some (.int (nar .boolean (1 : Int32))))) (fun h => by rw [Bd.returns] at h; cases h)
  refine ⟨_, _, pre0 _ (C3 _ ?_), hrun, hended, _, _, rfl, ?_, ⟨_, rfl⟩, hW, hsame.mono (by decide) (by decide)⟩
  · exact retN X2 hx (t := .boolean) Bd.returns (by simp) (hb hby d5_6) hr
  · show Q5 Z a1 a2 b k h0 n0 _ T2.heap _
    exact ⟨rfl, N2, hrest⟩
theorem d11_0 : decode jdk_21_method_25_code 0 = .ok (.aload_n 0, 1) := by decide +kernel
theorem d11_1 : decode jdk_21_method_25_code 1 = .ok (.getfield 3, 3) := by decide +kernel
theorem d11_4 : decode jdk_21_method_25_code 4 = .ok (.dup, 1) := by decide +kernel
theorem d11_5 : decode jdk_21_method_25_code 5 = .ok (.astore_n 1, 1) := by decide +kernel
theorem d11_6 : decode jdk_21_method_25_code 6 = .ok (.aload_n 0, 1) := by decide +kernel
theorem d11_7 : decode jdk_21_method_25_code 7 = .ok (.getfield 20, 3) := by decide +kernel
theorem d11_10 : decode jdk_21_method_25_code 10 = .ok (.aload_n 1, 1) := by decide +kernel
theorem d11_11 : decode jdk_21_method_25_code 11 = .ok (.arraylength, 1) := by decide +kernel
theorem d11_12 : decode jdk_21_method_25_code 12 = .ok (.invokestatic 68, 3) := by decide +kernel
theorem d11_15 : decode jdk_21_method_25_code 15 = .ok (.invokestatic 103, 3) := by decide +kernel
theorem d11_18 : decode jdk_21_method_25_code 18 = .ok (.areturn, 1) := by decide +kernel
theorem pn_11 : plainName "java/util/ArrayDeque" = true := by first | (simp [plainName, overriddenIn]; done) | decide +kernel
theorem pd_11 : parseMethodDescriptor "()Ljava/lang/Object;" = some ⟨[], some (.object "java/lang/Object")⟩ := by decide +kernel
theorem ef_11 (m : MethodId) (x0 : Addr) : entryFrame m #[(.ref x0)] 2 = mkF m 0 #[.val (.ref x0), .unset] [] := by first | (simp [entryFrame, mkF, argsToLocals, Value.category]; done) | rfl
def Q11 (Z : State) (a1 b r : Addr) (k : ClassId) (h0 : Heap) (n0 : Nat) (v : Option Value) (h : Heap) (L : List Loc) : Prop := v = some (.ref r) ∧ Fr n0 L ∧ h = h0
set_option maxRecDepth 65536 in
set_option maxHeartbeats 40000000 in
theorem rm11 (l : Launch) (Z : State) (a0 : Array Value) (hw : ∀ d ∈ tables_1, d.before a0 Z = true) (ws : List Jvm.Cond) (a1 b r : Addr) (k : ClassId) (h0 : Heap) (n0 : Nat) (Z0 : n0 ≤ h0.size) (F_el : Fld Z h0 a1 "java/util/ArrayDeque" "elements" "[Ljava/lang/Object;" (.ref b)) (F_t : Fld Z h0 a1 "java/util/ArrayDeque" "tail" "I" (.int (0 + 1))) (V0 : Arv Z h0 b k (.object "java/lang/Object") 17 [.ref r] .null) :
    MetFree l (⟨"java/util/ArrayDeque", "peekLast", "()Ljava/lang/Object;"⟩ : MethodName) (head1 (Jvm.Cond.code (⟨"java/util/ArrayDeque", "peekLast", "()Ljava/lang/Object;"⟩ : MethodName) jdk_21_method_25_code 2 (some (.object "java/lang/Object")) :: ws) ({ frames := 1, cells := 0, slots := 0, locals := 14 } : Room)) (fun a U => a = #[(.ref a1)] ∧ Z.Warmed39 U.vm ∧ U.heap = h0) (fun _ _ _ _ _ => True) (fun _ U o U' => ∃ v L, o = .returned v ∧ Q11 Z a1 b r k h0 n0 v U'.heap L ∧ FrameEnd U o U' L ({ frames := 1, cells := 0, slots := 0, locals := 14 } : Room).cells ({ frames := 1, cells := 0, slots := 0, locals := 14 } : Room).slots) := by
  refine MetFree.of_bodySF (plainFor_of_name pn_11) hisR ?_
  intro p e s m args below meth c s₁ Bd hml0 hP hK
  obtain ⟨rfl, hZ, hh⟩ := hP
  have hx := Bd.exec
  have hby := Bd.bytes
  have hml : c.maxLocals = 2 := hml0
  have hown : s.vm.findClass "java/util/ArrayDeque" = some m.cls := findClass_of_methodNamed Bd.named
  have hnm := (name_of_methodNamed Bd.named Bd.method).1
  have X0 : Stand p l e ({ frames := 1, cells := 0, slots := 0, locals := 14 } : Room) s m #[(.ref a1)] below meth c s₁ [] 0 0 := Stand.of_body Bd
  have e0 : s₁.heap = h0 := by rw [← hh, Bd.state]; rfl
  have N0 := Fr.nil n0
  obtain ⟨F0, hF0⟩ : ∃ F0, F0 = entryFrame m #[(.ref a1)] 2 := ⟨_, rfl⟩
  have C0 : Go p e below s₁ (mkF m 0 #[.val (.ref a1), .unset] []) s₁ F0 := fun t k => by rw [hF0]; exact castTop (ef_11 m a1) k
  have pre0 : ∀ t, Steps p.tables e below (s₁.setTop F0) t → Steps p.tables e below (s₁.setTop (entryFrame m #[(.ref a1)] 2)) t := fun t k => by rw [← hF0]; exact k
  obtain ⟨cl0, Ar0, q0, S0, M0, H0, G0⟩ := V0
  have C1 : Go p e below s₁ (mkF m 1 #[.val (.ref a1), .unset] [(.ref a1)]) s₁ F0 := fun t k => C0 t (by
    refine XS.aloadN X0.here hx rfl (hb hby d11_0) rfl rfl ?_
    exact k)
  obtain ⟨T2, X2, e2, st2⟩ := getF X0 hx hZ hown (host := "") (Or.inl (hw _ (List.mem_of_getElem? (i := 24) rfl))) Via.refl e0 F_el (g := (mkF m 1 #[.val (.ref a1), .unset] [(.ref a1)])) rfl rfl (hb hby d11_1)
  have C2 : Go p e below T2 (mkF m 4 #[.val (.ref a1), .unset] [(.ref b)]) s₁ F0 := fun t k => C1 t (st2 t k)
  have C3 : Go p e below T2 (mkF m 7 #[.val (.ref a1), .val (.ref b)] [(.ref a1), (.ref b)]) s₁ F0 := fun t k => C2 t (by
    refine XS.dup X2.here hx rfl (hb hby d11_4) rfl rfl ?_
    show Steps p.tables e below (T2.setTop (mkF m 5 #[.val (.ref a1), .unset] [(.ref b), (.ref b)])) _
    refine XS.astoreN X2.here hx rfl (hb hby d11_5) rfl rfl (l' := #[.val (.ref a1), .val (.ref b)]) rfl ?_
    show Steps p.tables e below (T2.setTop (mkF m 6 #[.val (.ref a1), .val (.ref b)] [(.ref b)])) _
    refine XS.aloadN X2.here hx rfl (hb hby d11_6) rfl rfl ?_
    exact k)
  obtain ⟨T4, X4, e4, st4⟩ := getF X2 hx hZ hown (host := "") (Or.inl (hw _ (List.mem_of_getElem? (i := 45) rfl))) Via.refl e2 F_t (g := (mkF m 7 #[.val (.ref a1), .val (.ref b)] [(.ref a1), (.ref b)])) rfl rfl (hb hby d11_7)
  have C4 : Go p e below T4 (mkF m 10 #[.val (.ref a1), .val (.ref b)] [(.int ((0 : Int32) + 1)), (.ref b)]) s₁ F0 := fun t k => C3 t (st4 t k)
  have C5 : Go p e below T4 (mkF m 12 #[.val (.ref a1), .val (.ref b)] [(.int (17 : Int32)), (.int ((0 : Int32) + 1)), (.ref b)]) s₁ F0 := fun t k => C4 t (by
    refine XS.aloadN X4.here hx rfl (hb hby d11_10) rfl rfl ?_
    show Steps p.tables e below (T4.setTop (mkF m 11 #[.val (.ref a1), .val (.ref b)] [(.ref b), (.int ((0 : Int32) + 1)), (.ref b)])) _
    refine X4.arraylength hx (by rw [e4]; exact Ar0.1) (State.isArrayOf_alike hZ.alike Ar0.2.1) (g := (mkF m 11 #[.val (.ref a1), .val (.ref b)] [(.ref b), (.int ((0 : Int32) + 1)), (.ref b)])) rfl rfl (hb hby d11_11) _ ?_
    rw [len_of S0 M0]
    exact k)
  obtain ⟨_, _, ⟨T6, L6, k6, n6⟩, -, X6, ⟨Lc6, hQ6, l6, y6, z6⟩, st6⟩ := Jvm.LawKit.callS X4 hx (y := (⟨"java/util/ArrayDeque", "dec", "(II)I"⟩ : MethodName)) hown (mvT hZ (hw _ (List.mem_of_getElem? (i := 79) rfl))) (mvT hZ (hw _ (List.mem_of_getElem? (i := 80) rfl))) (mvT hZ (hw _ (List.mem_of_getElem? (i := 11) rfl))) (mvT hZ (hw _ (List.mem_of_getElem? (i := 81) rfl))) (by decide) (backOf (W := 1) (rm12 l Z a0 hw [] (0 + 1) 17 h0 n0 Z0 (by decide)) hZ (hw _ (List.mem_of_getElem? (i := 81) rfl)) (hw _ (List.mem_of_getElem? (i := 11) rfl)) (by decide) (by decide)) (g := (mkF m 12 #[.val (.ref a1), .val (.ref b)] [(.int (17 : Int32)), (.int ((0 : Int32) + 1)), (.ref b)])) rfl (by rw [hml]; rfl) (argsL := [(.int ((0 : Int32) + 1)), (.int (17 : Int32))]) (rest := [(.ref b)]) (lenOf pd_12 rfl) rfl (by show 2 * 0 + _ ≤ _; exact Nat.le_of_eq rfl) (hb hby d11_12) (fun _ _ => ⟨rfl, e4, (by decide : 0 + 0 ≤ _), (by decide : 0 + 0 ≤ _)⟩)
  dsimp only [Pt.U, Pt.locs, Pt.cells, Pt.slots] at X6 l6 y6 z6 st6 hQ6
  subst l6 y6 z6
  obtain ⟨rfl, N6q, eh6⟩ := hQ6
  have C6 : Go p e below T6 (mkF m 15 #[.val (.ref a1), .val (.ref b)] [(.int (((0 : Int32) + 1) + (-1))), (.ref b)]) s₁ F0 := fun t k => C5 t (st6 t k)
  have N6 := Fr.app N0 N6q
  have hin := inb_of (j := (((0 : Int32) + 1) + (-1))) S0 ⟨by decide, by decide⟩
  have hat : cl0.slots[(((0 : Int32) + 1) + (-1)).toNatClampNeg]? = some (.ref r) := H0.at hin rfl
  obtain ⟨_, _, ⟨T7, L7, k7, n7⟩, -, X7, ⟨Lc7, hQ7, l7, y7, z7⟩, st7⟩ := Jvm.LawKit.callS X6 hx (y := (⟨"java/util/ArrayDeque", "elementAt", "([Ljava/lang/Object;I)Ljava/lang/Object;"⟩ : MethodName)) hown (mvT hZ (hw _ (List.mem_of_getElem? (i := 82) rfl))) (mvT hZ (hw _ (List.mem_of_getElem? (i := 83) rfl))) (mvT hZ (hw _ (List.mem_of_getElem? (i := 11) rfl))) (mvT hZ (hw _ (List.mem_of_getElem? (i := 84) rfl))) (by decide) (backOf (W := 0) (rm13 l Z a0 hw [] b (((0 : Int32) + 1) + (-1)) cl0 r h0 n0 Z0 Ar0 hin hat) hZ (hw _ (List.mem_of_getElem? (i := 84) rfl)) (hw _ (List.mem_of_getElem? (i := 11) rfl)) (by decide) (by decide)) (g := (mkF m 15 #[.val (.ref a1), .val (.ref b)] [(.int (((0 : Int32) + 1) + (-1))), (.ref b)])) rfl (by rw [hml]; rfl) (argsL := [(.ref b), (.int (((0 : Int32) + 1) + (-1)))]) (rest := []) (lenOf pd_13 rfl) rfl (by show 2 * 0 + _ ≤ _; exact Nat.le_of_eq rfl) (hb hby d11_15) (fun _ _ => ⟨rfl, eh6, (by decide : 0 + 0 ≤ _), (by decide : 0 + 0 ≤ _)⟩)
  dsimp only [Pt.U, Pt.locs, Pt.cells, Pt.slots] at X7 l7 y7 z7 st7 hQ7
  subst l7 y7 z7
  obtain ⟨rfl, N7q, eh7⟩ := hQ7
  have C7 : Go p e below T7 (mkF m 18 #[.val (.ref a1), .val (.ref b)] [(.ref r)]) s₁ F0 := fun t k => C6 t (st7 t k)
  have N7 := Fr.app N6 N7q
  obtain ⟨fs, hr, hrun, hended, hW, hsame⟩ := X7.leave (v := (some (.ref r))) (fun h => by rw [Bd.returns] at h; cases h)
  refine ⟨_, _, pre0 _ (C7 _ ?_), hrun, hended, _, _, rfl, ?_, ⟨_, rfl⟩, hW, hsame.mono (by decide) (by decide)⟩
  · jvm_step X7.here [X7.here.top, hx, (hb hby d11_18), X7.method', Bd.returns, Value.isRef, FieldType.isReference]
    first | (intro acts; rw [hr _ acts rfl rfl rfl]) | rw [hr _ _ rfl rfl rfl]
    exact Steps.refl _
  · show Q11 Z a1 b r k h0 n0 _ T7.heap _
    exact ⟨rfl, N7, eh7⟩
theorem d1_0 : decode prog_13_method_1_code 0 = .ok (.aload_n 0, 1) := by decide +kernel
theorem d1_1 : decode prog_13_method_1_code 1 = .ok (.invokespecial 1, 3) := by decide +kernel
theorem d1_4 : decode prog_13_method_1_code 4 = .ok (.aload_n 0, 1) := by decide +kernel
theorem d1_5 : decode prog_13_method_1_code 5 = .ok (.new 7, 3) := by decide +kernel
theorem d1_8 : decode prog_13_method_1_code 8 = .ok (.dup, 1) := by decide +kernel
theorem d1_9 : decode prog_13_method_1_code 9 = .ok (.invokespecial 9, 3) := by decide +kernel
theorem d1_12 : decode prog_13_method_1_code 12 = .ok (.putfield 10, 3) := by decide +kernel
theorem d1_15 : decode prog_13_method_1_code 15 = .ok (.aload_n 0, 1) := by decide +kernel
theorem d1_16 : decode prog_13_method_1_code 16 = .ok (.lload_n 1, 1) := by decide +kernel
theorem d1_17 : decode prog_13_method_1_code 17 = .ok (.putfield 16, 3) := by decide +kernel
theorem d1_20 : decode prog_13_method_1_code 20 = .ok (.aload_n 0, 1) := by decide +kernel
theorem d1_21 : decode prog_13_method_1_code 21 = .ok (.getfield 10, 3) := by decide +kernel
theorem d1_24 : decode prog_13_method_1_code 24 = .ok (.iconst 2, 1) := by decide +kernel
theorem d1_25 : decode prog_13_method_1_code 25 = .ok (.newarray .long, 2) := by decide +kernel
theorem d1_27 : decode prog_13_method_1_code 27 = .ok (.dup, 1) := by decide +kernel
theorem d1_28 : decode prog_13_method_1_code 28 = .ok (.iconst 0, 1) := by decide +kernel
theorem d1_29 : decode prog_13_method_1_code 29 = .ok (.lload_n 1, 1) := by decide +kernel
theorem d1_30 : decode prog_13_method_1_code 30 = .ok (.lastore, 1) := by decide +kernel
theorem d1_31 : decode prog_13_method_1_code 31 = .ok (.dup, 1) := by decide +kernel
theorem d1_32 : decode prog_13_method_1_code 32 = .ok (.iconst 1, 1) := by decide +kernel
theorem d1_33 : decode prog_13_method_1_code 33 = .ok (.lconst 0, 1) := by decide +kernel
theorem d1_34 : decode prog_13_method_1_code 34 = .ok (.lastore, 1) := by decide +kernel
theorem d1_35 : decode prog_13_method_1_code 35 = .ok (.invokeinterface 20 2, 5) := by decide +kernel
theorem d1_40 : decode prog_13_method_1_code 40 = .ok (.pop, 1) := by decide +kernel
theorem d1_41 : decode prog_13_method_1_code 41 = .ok (.return_, 1) := by decide +kernel
theorem pn_1 : plainName "com/example/tributary/tributary/Meter" = true := by first | (simp [plainName, overriddenIn]; done) | decide +kernel
theorem pd_1 : parseMethodDescriptor "(J)V" = some ⟨[.long], none⟩ := by decide +kernel
theorem ef_1 (m : MethodId) (x0 : Addr) (x1 : Int64) : entryFrame m #[(.ref x0), (.long x1)] 3 = mkF m 0 #[.val (.ref x0), .val (.long x1), .second] [] := by first | (simp [entryFrame, mkF, argsToLocals, Value.category]; done) | rfl
def Q1 (Z : State) (a1 : Addr) (p2 : Int64) (u1 u2 : Value) (h0 : Heap) (n0 : Nat) (v : Option Value) (h : Heap) (L : List Loc) : Prop := ∃ (q b ar : Addr) (k ka : ClassId), v = none ∧ Fr n0 L ∧ Keep h0 h [a1] ∧ h0.size ≤ q ∧ h0.size ≤ b ∧ h0.size ≤ ar ∧ Exa Z h a1 "com/example/tributary/tributary/Meter" ∧ Fld Z h a1 "com/example/tributary/tributary/Meter" "samples" "Ljava/util/Deque;" (.ref q) ∧ Fld Z h a1 "com/example/tributary/tributary/Meter" "waiting" "Z" (.int 0) ∧ Fld Z h a1 "com/example/tributary/tributary/Meter" "waitingSince" "J" (.long 0) ∧ Fld Z h a1 "com/example/tributary/tributary/Meter" "waited" "J" (.long 0) ∧ Exa Z h q "java/util/ArrayDeque" ∧ Fld Z h q "java/util/ArrayDeque" "elements" "[Ljava/lang/Object;" (.ref b) ∧ Fld Z h q "java/util/ArrayDeque" "tail" "I" (.int (0 + 1)) ∧ Arv Z h b k (.object "java/lang/Object") 17 [.ref ar] .null ∧ Arv Z h ar ka .long 2 [.long p2, .long 0] (.long 0) ∧ Exa Z h ar "[J"
set_option maxRecDepth 65536 in
set_option maxHeartbeats 40000000 in
theorem rm1 (l : Launch) (Z : State) (a0 : Array Value) (hw : ∀ d ∈ tables_1, d.before a0 Z = true) (ws : List Jvm.Cond) (a1 : Addr) (p2 : Int64) (u1 u2 : Value) (h0 : Heap) (n0 : Nat) (Z0 : n0 ≤ h0.size) (F_sm : Fld Z h0 a1 "com/example/tributary/tributary/Meter" "samples" "Ljava/util/Deque;" u1) (F_st : Fld Z h0 a1 "com/example/tributary/tributary/Meter" "start" "J" u2) (F_wt : Fld Z h0 a1 "com/example/tributary/tributary/Meter" "waiting" "Z" (.int 0)) (F_ws : Fld Z h0 a1 "com/example/tributary/tributary/Meter" "waitingSince" "J" (.long 0)) (F_wd : Fld Z h0 a1 "com/example/tributary/tributary/Meter" "waited" "J" (.long 0)) (E_a1 : Exa Z h0 a1 "com/example/tributary/tributary/Meter") (g_a1 : n0 ≤ a1) :
    MetFree l (⟨"com/example/tributary/tributary/Meter", "<init>", "(J)V"⟩ : MethodName) (head1 (Jvm.Cond.code (⟨"com/example/tributary/tributary/Meter", "<init>", "(J)V"⟩ : MethodName) prog_13_method_1_code 3 none :: ws) ({ frames := 3, cells := 3, slots := 22, locals := 42 } : Room)) (fun a U => a = #[(.ref a1), (.long p2)] ∧ Z.Warmed39 U.vm ∧ U.heap = h0) (fun _ _ _ _ _ => True) (fun _ U o U' => ∃ v L, o = .returned v ∧ Q1 Z a1 p2 u1 u2 h0 n0 v U'.heap L ∧ FrameEnd U o U' L ({ frames := 3, cells := 3, slots := 22, locals := 42 } : Room).cells ({ frames := 3, cells := 3, slots := 22, locals := 42 } : Room).slots) := by
  refine MetFree.of_bodySF (plainFor_of_name pn_1) hisR ?_
  intro p e s m args below meth c s₁ Bd hml0 hP hK
  obtain ⟨rfl, hZ, hh⟩ := hP
  have hx := Bd.exec
  have hby := Bd.bytes
  have hml : c.maxLocals = 3 := hml0
  have hown : s.vm.findClass "com/example/tributary/tributary/Meter" = some m.cls := findClass_of_methodNamed Bd.named
  have hnm := (name_of_methodNamed Bd.named Bd.method).1
  have X0 : Stand p l e ({ frames := 3, cells := 3, slots := 22, locals := 42 } : Room) s m #[(.ref a1), (.long p2)] below meth c s₁ [] 0 0 := Stand.of_body Bd
  have e0 : s₁.heap = h0 := by rw [← hh, Bd.state]; rfl
  have N0 := Fr.nil n0
  obtain ⟨F0, hF0⟩ : ∃ F0, F0 = entryFrame m #[(.ref a1), (.long p2)] 3 := ⟨_, rfl⟩
  have C0 : Go p e below s₁ (mkF m 0 #[.val (.ref a1), .val (.long p2), .second] []) s₁ F0 := fun t k => by rw [hF0]; exact castTop (ef_1 m a1 p2) k
  have pre0 : ∀ t, Steps p.tables e below (s₁.setTop F0) t → Steps p.tables e below (s₁.setTop (entryFrame m #[(.ref a1), (.long p2)] 3)) t := fun t k => by rw [← hF0]; exact k
  have C1 : Go p e below s₁ (mkF m 1 #[.val (.ref a1), .val (.long p2), .second] [(.ref a1)]) s₁ F0 := fun t k => C0 t (by
    refine XS.aloadN X0.here hx rfl (hb hby d1_0) rfl rfl ?_
    exact k)
  obtain ⟨T2, X2, e2, st2⟩ := initO X0 hx hZ hown (hw _ (List.mem_of_getElem? (i := 6) rfl)) (hw _ (List.mem_of_getElem? (i := 7) rfl)) (hw _ (List.mem_of_getElem? (i := 8) rfl)) e0 (g := (mkF m 1 #[.val (.ref a1), .val (.long p2), .second] [(.ref a1)])) rfl (by rw [hml]; rfl) rfl (hb hby d1_1) (by decide) (W := 0) (by show 2 * 0 + _ ≤ _; exact Nat.le_of_eq rfl) (by decide)
  have C2 : Go p e below T2 (mkF m 4 #[.val (.ref a1), .val (.long p2), .second] []) s₁ F0 := fun t k => C1 t (st2 t k)
  have C3 : Go p e below T2 (mkF m 5 #[.val (.ref a1), .val (.long p2), .second] [(.ref a1)]) s₁ F0 := fun t k => C2 t (by
    refine XS.aloadN X2.here hx rfl (hb hby d1_4) rfl rfl ?_
    exact k)
  obtain ⟨T4, h4, X4, e4, E4, A4, D4, -, st4⟩ := newO X2 hx hZ hown (hw _ (List.mem_of_getElem? (i := 9) rfl)) (hw _ (List.mem_of_getElem? (i := 10) rfl)) (hw _ (List.mem_of_getElem? (i := 11) rfl)) e2 (g := (mkF m 5 #[.val (.ref a1), .val (.long p2), .second] [(.ref a1)])) rfl (hb hby d1_5) (by decide) (by decide)
  obtain ⟨b4, g4⟩ : ∃ z, z = h0.size := ⟨_, rfl⟩
  rw [← g4] at A4 D4 st4
  have C4 : Go p e below T4 (mkF m 8 #[.val (.ref a1), .val (.long p2), .second] [(.ref b4), (.ref a1)]) s₁ F0 := fun t k => C3 t (st4 t k)
  have sq : h0.size ≤ b4 := Nat.le_of_eq g4.symm
  have gq : n0 ≤ b4 := Nat.le_trans Z0 sq
  have Zo : n0 ≤ h4.size := Nat.le_trans Z0 E4.1
  have nq : a1 ≠ b4 := Nat.ne_of_lt (Nat.lt_of_lt_of_le E_a1.lt sq)
  have Fqe : Fld Z h4 b4 "java/util/ArrayDeque" "elements" "[Ljava/lang/Object;" .null := D4 (Or.inl (hw _ (List.mem_of_getElem? (i := 25) rfl))) (ty := (.array (.object "java/lang/Object"))) (by decide)
  have Fqt : Fld Z h4 b4 "java/util/ArrayDeque" "tail" "I" (.int (0 : Int32)) := D4 (Or.inl (hw _ (List.mem_of_getElem? (i := 46) rfl))) (ty := .int) (by decide)
  have Fqh : Fld Z h4 b4 "java/util/ArrayDeque" "head" "I" (.int (0 : Int32)) := D4 (Or.inl (hw _ (List.mem_of_getElem? (i := 49) rfl))) (ty := .int) (by decide)
  have C5 : Go p e below T4 (mkF m 9 #[.val (.ref a1), .val (.long p2), .second] [(.ref b4), (.ref b4), (.ref a1)]) s₁ F0 := fun t k => C4 t (by
    refine XS.dup X4.here hx rfl (hb hby d1_8) rfl rfl ?_
    exact k)
  obtain ⟨_, _, ⟨T6, L6, k6, n6⟩, -, X6, ⟨Lc6, hQ6, l6, y6, z6⟩, st6⟩ := X4.specialBack hx (y := (⟨"java/util/ArrayDeque", "<init>", "()V"⟩ : MethodName)) rfl hown (mvT hZ (hw _ (List.mem_of_getElem? (i := 12) rfl))) (mvT hZ (hw _ (List.mem_of_getElem? (i := 13) rfl))) (mvT hZ (hw _ (List.mem_of_getElem? (i := 14) rfl))) (by decide) (backOf (W := 2) (rm3 l Z a0 hw [] b4 .null h4 n0 Zo Fqe Fqt Fqh A4 gq) hZ (hw _ (List.mem_of_getElem? (i := 14) rfl)) (hw _ (List.mem_of_getElem? (i := 11) rfl)) (by decide) (by decide)) (g := (mkF m 9 #[.val (.ref a1), .val (.long p2), .second] [(.ref b4), (.ref b4), (.ref a1)])) rfl (by rw [hml]; rfl) (Steps.refl _) (a := b4) (argsL := []) (rest := [(.ref b4), (.ref a1)]) (lenOf pd_3 rfl) rfl (by show 2 * 0 + _ ≤ _; exact Nat.le_of_eq rfl) (hb hby d1_9) (fun _ _ => ⟨rfl, e4, (by decide : 1 + 1 ≤ _), (by decide : 3 + 17 ≤ _)⟩)
  dsimp only [Pt.U, Pt.locs, Pt.cells, Pt.slots] at X6 l6 y6 z6 st6 hQ6
  subst l6 y6 z6
  obtain ⟨be, ke, rfl, N6q, K6, sbe, Eq6, Fe6, Ft6, Fh6, Ve6, Oe⟩ := hQ6
  have C6 : Go p e below T6 (mkF m 12 #[.val (.ref a1), .val (.long p2), .second] [(.ref b4), (.ref a1)]) s₁ F0 := fun t k => C5 t (st6.trans k)
  have N6 := Fr.app N0 N6q
  have ge : n0 ≤ be := Nat.le_trans Zo sbe
  have sbe0 : h0.size ≤ be := Nat.le_trans E4.1 sbe
  have nqe : b4 ≠ be := Nat.ne_of_lt (Nat.lt_of_lt_of_le A4.lt sbe)
  have nae : a1 ≠ be := Nat.ne_of_lt (Nat.lt_of_lt_of_le E_a1.lt sbe0)
  have KA6 : Keep h0 T6.heap [a1] := ((Keep.refl h0 [a1]).ext E4).trans K6 (allS (Or.inr sq) all0)
  have Msm6 := (F_sm.ext E4).keep K6 (ninS nq nin0)
  have Mst6 := (F_st.ext E4).keep K6 (ninS nq nin0)
  have Mwt6 := (F_wt.ext E4).keep K6 (ninS nq nin0)
  have Mws6 := (F_ws.ext E4).keep K6 (ninS nq nin0)
  have Mwd6 := (F_wd.ext E4).keep K6 (ninS nq nin0)
  have Em6 := (E_a1.ext E4).keep K6
  obtain ⟨T7, h7, X7, e7, W7, st7⟩ := putF X6 hx hZ hown (host := "") (Or.inl (hw _ (List.mem_of_getElem? (i := 26) rfl))) Via.refl rfl Msm6 Em6 (Or.inr ⟨(hw _ (List.mem_of_getElem? (i := 27) rfl)), rfl, hnm⟩) (hw _ (List.mem_of_getElem? (i := 1) rfl)) (ty := (.object "java/util/Deque")) (by decide) rfl rfl (g := (mkF m 12 #[.val (.ref a1), .val (.long p2), .second] [(.ref b4), (.ref a1)])) rfl rfl (hb hby d1_12)
  have C7 : Go p e below T7 (mkF m 15 #[.val (.ref a1), .val (.long p2), .second] []) s₁ F0 := fun t k => C6 t (st7 t k)
  have Msm7 := Msm6.same W7
  have Mst7 := Mst6.other W7 (Or.inr (slot_ne (Or.inr (hw _ (List.mem_of_getElem? (i := 29) rfl))) (Or.inr (hw _ (List.mem_of_getElem? (i := 27) rfl))) (by decide) (t := .long) (t' := (.object "java/util/Deque")) (by decide) (by decide)))
  have Mwt7 := Mwt6.other W7 (Or.inr (slot_ne (Or.inl (hw _ (List.mem_of_getElem? (i := 59) rfl))) (Or.inr (hw _ (List.mem_of_getElem? (i := 27) rfl))) (by decide) (t := .boolean) (t' := (.object "java/util/Deque")) (by decide) (by decide)))
  have Mws7 := Mws6.other W7 (Or.inr (slot_ne (Or.inl (hw _ (List.mem_of_getElem? (i := 93) rfl))) (Or.inr (hw _ (List.mem_of_getElem? (i := 27) rfl))) (by decide) (t := .long) (t' := (.object "java/util/Deque")) (by decide) (by decide)))
  have Mwd7 := Mwd6.other W7 (Or.inr (slot_ne (Or.inl (hw _ (List.mem_of_getElem? (i := 70) rfl))) (Or.inr (hw _ (List.mem_of_getElem? (i := 27) rfl))) (by decide) (t := .long) (t' := (.object "java/util/Deque")) (by decide) (by decide)))
  have N7 := Fr.snoc X7 N6 g_a1
  have KA7 := KA6.wr W7 (Or.inl (List.mem_of_getElem? (i := 0) rfl))
  have Em7 := Em6.wr W7
  have Eq7 := Eq6.wr W7
  have Fe7 := Fe6.other W7 (Or.inl nq.symm)
  have Ft7 := Ft6.other W7 (Or.inl nq.symm)
  have Fh7 := Fh6.other W7 (Or.inl nq.symm)
  have Ve7 := Ve6.other W7 nae.symm
  have C8 : Go p e below T7 (mkF m 17 #[.val (.ref a1), .val (.long p2), .second] [(.long p2), (.ref a1)]) s₁ F0 := fun t k => C7 t (by
    refine XS.aloadN X7.here hx rfl (hb hby d1_15) rfl rfl ?_
    show Steps p.tables e below (T7.setTop (mkF m 16 #[.val (.ref a1), .val (.long p2), .second] [(.ref a1)])) _
    refine XS.lloadN X7.here hx rfl (hb hby d1_16) rfl ?_
    exact k)
  obtain ⟨T9, h9, X9, e9, W9, st9⟩ := putF X7 hx hZ hown (host := "") (Or.inl (hw _ (List.mem_of_getElem? (i := 28) rfl))) Via.refl e7 Mst7 Em7 (Or.inr ⟨(hw _ (List.mem_of_getElem? (i := 29) rfl)), rfl, hnm⟩) (hw _ (List.mem_of_getElem? (i := 1) rfl)) (ty := .long) (by decide) rfl rfl (g := (mkF m 17 #[.val (.ref a1), .val (.long p2), .second] [(.long p2), (.ref a1)])) rfl rfl (hb hby d1_17)
  have C9 : Go p e below T9 (mkF m 20 #[.val (.ref a1), .val (.long p2), .second] []) s₁ F0 := fun t k => C8 t (st9 t k)
  have Msm9 := Msm7.other W9 (Or.inr (slot_ne (Or.inr (hw _ (List.mem_of_getElem? (i := 27) rfl))) (Or.inr (hw _ (List.mem_of_getElem? (i := 29) rfl))) (by decide) (t := (.object "java/util/Deque")) (t' := .long) (by decide) (by decide)))
  have Mwt9 := Mwt7.other W9 (Or.inr (slot_ne (Or.inl (hw _ (List.mem_of_getElem? (i := 59) rfl))) (Or.inr (hw _ (List.mem_of_getElem? (i := 29) rfl))) (by decide) (t := .boolean) (t' := .long) (by decide) (by decide)))
  have Mws9 := Mws7.other W9 (Or.inr (slot_ne (Or.inl (hw _ (List.mem_of_getElem? (i := 93) rfl))) (Or.inr (hw _ (List.mem_of_getElem? (i := 29) rfl))) (by decide) (t := .long) (t' := .long) (by decide) (by decide)))
  have Mwd9 := Mwd7.other W9 (Or.inr (slot_ne (Or.inl (hw _ (List.mem_of_getElem? (i := 70) rfl))) (Or.inr (hw _ (List.mem_of_getElem? (i := 29) rfl))) (by decide) (t := .long) (t' := .long) (by decide) (by decide)))
  have N9 := Fr.snoc X9 N7 g_a1
  have KA9 := KA7.wr W9 (Or.inl (List.mem_of_getElem? (i := 0) rfl))
  have Em9 := Em7.wr W9
  have Eq9 := Eq7.wr W9
  have Fe9 := Fe7.other W9 (Or.inl nq.symm)
  have Ft9 := Ft7.other W9 (Or.inl nq.symm)
  have Fh9 := Fh7.other W9 (Or.inl nq.symm)
  have Ve9 := Ve7.other W9 nae.symm
  have C10 : Go p e below T9 (mkF m 21 #[.val (.ref a1), .val (.long p2), .second] [(.ref a1)]) s₁ F0 := fun t k => C9 t (by
    refine XS.aloadN X9.here hx rfl (hb hby d1_20) rfl rfl ?_
    exact k)
  obtain ⟨T11, X11, e11, st11⟩ := getF X9 hx hZ hown (host := "") (Or.inl (hw _ (List.mem_of_getElem? (i := 26) rfl))) Via.refl e9 Msm9 (g := (mkF m 21 #[.val (.ref a1), .val (.long p2), .second] [(.ref a1)])) rfl rfl (hb hby d1_21)
  have C11 : Go p e below T11 (mkF m 24 #[.val (.ref a1), .val (.long p2), .second] [(.ref b4)]) s₁ F0 := fun t k => C10 t (st11 t k)
  have C12 : Go p e below T11 (mkF m 25 #[.val (.ref a1), .val (.long p2), .second] [(.int (2 : Int32)), (.ref b4)]) s₁ F0 := fun t k => C11 t (by
    refine XS.iconst X11.here hx rfl (hb hby d1_24) ?_
    exact k)
  obtain ⟨T13, h13, k13, X13, e13, E13, A13, Ex13, st13⟩ := newPE X11 hx hZ (hw _ (List.mem_of_getElem? (i := 30) rfl)) e11 (g := (mkF m 25 #[.val (.ref a1), .val (.long p2), .second] [(.int (2 : Int32)), (.ref b4)])) rfl (hb hby d1_25) rfl (by decide) (cap := 2) (by decide) (by decide) (by decide) (by decide) (ad := "[J") rfl
  obtain ⟨b13, g13⟩ : ∃ z, z = h9.size := ⟨_, rfl⟩
  rw [← g13] at A13 Ex13 st13
  have C13 : Go p e below T13 (mkF m 27 #[.val (.ref a1), .val (.long p2), .second] [(.ref b13), (.ref b4)]) s₁ F0 := fun t k => C12 t (st13 t k)
  have sar : h0.size ≤ b13 := Nat.le_trans KA9.1 (Nat.le_of_eq g13.symm)
  have gar : n0 ≤ b13 := Nat.le_trans Z0 sar
  have VA0 : Arv Z h13 b13 k13 .long 2 [.long 0, .long 0] (.long 0) := (Arv.new (ty := .long) A13 (by decide)).pad (pad_rep [] _ 2)
  have Msm13 := Msm9.ext E13
  have Mwt13 := Mwt9.ext E13
  have Mws13 := Mws9.ext E13
  have Mwd13 := Mwd9.ext E13
  have Em13 := Em9.ext E13
  have Eq13 := Eq9.ext E13
  have KA13 := KA9.ext E13
  have Fe13 := Fe9.ext E13
  have Ft13 := Ft9.ext E13
  have Fh13 := Fh9.ext E13
  have Ve13 := Ve9.ext E13
  have na1 : a1 ≠ b13 := Nat.ne_of_lt (Nat.lt_of_lt_of_le E_a1.lt sar)
  have nar1 : b4 ≠ b13 := Nat.ne_of_lt (Nat.lt_of_lt_of_le Eq9.lt (Nat.le_of_eq g13.symm))
  have nar2 : be ≠ b13 := Nat.ne_of_lt (Nat.lt_of_lt_of_le Ve9.lt (Nat.le_of_eq g13.symm))
  have C14 : Go p e below T13 (mkF m 30 #[.val (.ref a1), .val (.long p2), .second] [(.long p2), (.int (0 : Int32)), (.ref b13), (.ref b13), (.ref b4)]) s₁ F0 := fun t k => C13 t (by
    refine XS.dup X13.here hx rfl (hb hby d1_27) rfl rfl ?_
    show Steps p.tables e below (T13.setTop (mkF m 28 #[.val (.ref a1), .val (.long p2), .second] [(.ref b13), (.ref b13), (.ref b4)])) _
    refine XS.iconst X13.here hx rfl (hb hby d1_28) ?_
    show Steps p.tables e below (T13.setTop (mkF m 29 #[.val (.ref a1), .val (.long p2), .second] [(.int (0 : Int32)), (.ref b13), (.ref b13), (.ref b4)])) _
    refine XS.lloadN X13.here hx rfl (hb hby d1_29) rfl ?_
    exact k)
  obtain ⟨cz0, Az0, qz0, Sz0, Mz0, Hz0, Gz0⟩ := VA0
  obtain ⟨T15, h15, X15, e15, W15, st15⟩ := stJ X13 hx hZ e13 Az0 (j := (0 : Int32)) (inb_of Sz0 ⟨by decide, by decide⟩) (g := (mkF m 30 #[.val (.ref a1), .val (.long p2), .second] [(.long p2), (.int (0 : Int32)), (.ref b13), (.ref b13), (.ref b4)])) rfl rfl (hb hby d1_30)
  have C15 : Go p e below T15 (mkF m 31 #[.val (.ref a1), .val (.long p2), .second] [(.ref b13), (.ref b4)]) s₁ F0 := fun t k => C14 t (st15 t k)
  have VA1 : Arv Z h15 b13 k13 .long 2 [.long p2, .long 0] (.long 0) := Arv.set Az0 qz0 Sz0 Mz0 Hz0 Gz0 rfl W15 0 rfl (Nat.le_of_ble_eq_true rfl)
  have N15 := Fr.snoc X15 N9 gar
  have Msm15 := Msm13.other W15 (Or.inl na1)
  have Mwt15 := Mwt13.other W15 (Or.inl na1)
  have Mws15 := Mws13.other W15 (Or.inl na1)
  have Mwd15 := Mwd13.other W15 (Or.inl na1)
  have Em15 := Em13.wr W15
  have Eq15 := Eq13.wr W15
  have KA15 := KA13.wr W15 (Or.inr sar)
  have Fe15 := Fe13.other W15 (Or.inl nar1)
  have Ft15 := Ft13.other W15 (Or.inl nar1)
  have Fh15 := Fh13.other W15 (Or.inl nar1)
  have Ve15 := Ve13.other W15 nar2
  have Ex15 := Ex13.wr W15
  have C16 : Go p e below T15 (mkF m 34 #[.val (.ref a1), .val (.long p2), .second] [(.long (0 : Int64)), (.int (1 : Int32)), (.ref b13), (.ref b13), (.ref b4)]) s₁ F0 := fun t k => C15 t (by
    refine XS.dup X15.here hx rfl (hb hby d1_31) rfl rfl ?_
    show Steps p.tables e below (T15.setTop (mkF m 32 #[.val (.ref a1), .val (.long p2), .second] [(.ref b13), (.ref b13), (.ref b4)])) _
    refine XS.iconst X15.here hx rfl (hb hby d1_32) ?_
    show Steps p.tables e below (T15.setTop (mkF m 33 #[.val (.ref a1), .val (.long p2), .second] [(.int (1 : Int32)), (.ref b13), (.ref b13), (.ref b4)])) _
    refine XS.lconst X15.here hx rfl (hb hby d1_33) ?_
    exact k)
  obtain ⟨cz1, Az1, qz1, Sz1, Mz1, Hz1, Gz1⟩ := VA1
  obtain ⟨T17, h17, X17, e17, W17, st17⟩ := stJ X15 hx hZ e15 Az1 (j := (1 : Int32)) (inb_of Sz1 ⟨by decide, by decide⟩) (g := (mkF m 34 #[.val (.ref a1), .val (.long p2), .second] [(.long (0 : Int64)), (.int (1 : Int32)), (.ref b13), (.ref b13), (.ref b4)])) rfl rfl (hb hby d1_34)
  have C17 : Go p e below T17 (mkF m 35 #[.val (.ref a1), .val (.long p2), .second] [(.ref b13), (.ref b4)]) s₁ F0 := fun t k => C16 t (st17 t k)
  have VA2 : Arv Z h17 b13 k13 .long 2 [.long p2, .long 0] (.long 0) := Arv.set Az1 qz1 Sz1 Mz1 Hz1 Gz1 rfl W17 1 rfl (Nat.le_of_ble_eq_true rfl)
  have N17 := Fr.snoc X17 N15 gar
  have Msm17 := Msm15.other W17 (Or.inl na1)
  have Mwt17 := Mwt15.other W17 (Or.inl na1)
  have Mws17 := Mws15.other W17 (Or.inl na1)
  have Mwd17 := Mwd15.other W17 (Or.inl na1)
  have Em17 := Em15.wr W17
  have Eq17 := Eq15.wr W17
  have KA17 := KA15.wr W17 (Or.inr sar)
  have Fe17 := Fe15.other W17 (Or.inl nar1)
  have Ft17 := Ft15.other W17 (Or.inl nar1)
  have Fh17 := Fh15.other W17 (Or.inl nar1)
  have Ve17 := Ve15.other W17 nar2
  have Ex17 := Ex15.wr W17
  have Ia : Ins Z h17 b13 "java/lang/Object" true := Ins.of_exa Ex17 (hw _ (List.mem_of_getElem? (i := 47) rfl))
  have Zp : n0 ≤ h17.size := Nat.le_trans Z0 KA17.1
  obtain ⟨cq18, kq18, q18a, q18b, q18c⟩ := isOf hZ e17 Eq17
  obtain ⟨_, _, ⟨T18, L18, k18, n18⟩, -, X18, ⟨Lc18, hQ18, l18, y18, z18⟩, st18⟩ := X17.interfaceBack hx (xi := (⟨"java/util/Deque", "add", "(Ljava/lang/Object;)Z"⟩ : MethodName)) (y := (⟨"java/util/ArrayDeque", "add", "(Ljava/lang/Object;)Z"⟩ : MethodName)) hown (mvT hZ (hw _ (List.mem_of_getElem? (i := 31) rfl))) (mvT hZ (hw _ (List.mem_of_getElem? (i := 32) rfl))) (mvT hZ (hw _ (List.mem_of_getElem? (i := 33) rfl))) (mvT hZ (hw _ (List.mem_of_getElem? (i := 34) rfl))) (mvT hZ (hw _ (List.mem_of_getElem? (i := 35) rfl))) (mvT hZ (hw _ (List.mem_of_getElem? (i := 36) rfl))) (mvT hZ (hw _ (List.mem_of_getElem? (i := 37) rfl))) (mvT hZ (hw _ (List.mem_of_getElem? (i := 38) rfl))) (by decide) (backOf (W := 0) (rm5 l Z a0 hw [] b4 b13 be ke h17 n0 Zp Fe17 Ft17 Fh17 Eq17 Ve17 Oe Ia gq ge nqe) hZ (hw _ (List.mem_of_getElem? (i := 39) rfl)) (hw _ (List.mem_of_getElem? (i := 11) rfl)) (by decide) (by decide)) q18a q18b q18c (g := (mkF m 35 #[.val (.ref a1), .val (.long p2), .second] [(.ref b13), (.ref b4)])) rfl (by rw [hml]; rfl) (Steps.refl _) (argsL := [(.ref b13)]) (rest := []) (lenOf pd_5 rfl) rfl (by show 2 * 0 + _ ≤ _; exact Nat.le_of_eq rfl) (hb hby d1_35) (fun _ _ => ⟨rfl, e17, (by decide : 3 + 0 ≤ _), (by decide : 22 + 0 ≤ _)⟩)
  dsimp only [Pt.U, Pt.locs, Pt.cells, Pt.slots] at X18 l18 y18 z18 st18 hQ18
  subst l18 y18 z18
  obtain ⟨rfl, N18q, K18, Eq18, Fe18, Ft18, Ve18⟩ := hQ18
  have C18 : Go p e below T18 (mkF m 40 #[.val (.ref a1), .val (.long p2), .second] [(.int (1 : Int32))]) s₁ F0 := fun t k => C17 t (st18.trans k)
  have N18 := Fr.app N17 N18q
  have KA18 := KA17.trans K18 (allS (Or.inr sbe0) (allS (Or.inr sq) all0))
  have Msm18 := Msm17.keep K18 (ninS nae (ninS nq nin0))
  have Mwt18 := Mwt17.keep K18 (ninS nae (ninS nq nin0))
  have Mws18 := Mws17.keep K18 (ninS nae (ninS nq nin0))
  have Mwd18 := Mwd17.keep K18 (ninS nae (ninS nq nin0))
  have Em18 := Em17.keep K18
  have VA18 := VA2.keep K18 (ninS nar2.symm (ninS nar1.symm nin0))
  have Ex18 := Ex17.keep K18
  have C19 : Go p e below T18 (mkF m 41 #[.val (.ref a1), .val (.long p2), .second] []) s₁ F0 := fun t k => C18 t (by
    refine XS.pop X18.here hx rfl (hb hby d1_40) rfl rfl ?_
    exact k)
  obtain ⟨fs, hr, hrun, hended, hW, hsame⟩ := X18.leave (v := none) (fun _ => rfl)
  refine ⟨_, _, pre0 _ (C19 _ ?_), hrun, hended, _, _, rfl, ?_, ⟨_, rfl⟩, hW, hsame.mono (by decide) (by decide)⟩
  · exact X18.returnOut hx Bd.returns (hb hby d1_41) hr
  · show Q1 Z a1 p2 u1 u2 h0 n0 _ T18.heap _
    exact ⟨_, _, _, _, _, rfl, N18, KA18, sq, sbe0, sar, Em18, Msm18, Mwt18, Mws18, Mwd18, Eq18, Fe18, Ft18, Ve18, VA18, Ex18⟩
theorem d14_0 : decode prog_13_method_5_code 0 = .ok (.aload_n 0, 1) := by decide +kernel
theorem d14_1 : decode prog_13_method_5_code 1 = .ok (.getfield 81, 3) := by decide +kernel
theorem d14_4 : decode prog_13_method_5_code 4 = .ok (.ifCond .ne 13, 3) := by decide +kernel
theorem d14_7 : decode prog_13_method_5_code 7 = .ok (.aload_n 0, 1) := by decide +kernel
theorem d14_8 : decode prog_13_method_5_code 8 = .ok (.iconst 1, 1) := by decide +kernel
theorem d14_9 : decode prog_13_method_5_code 9 = .ok (.putfield 81, 3) := by decide +kernel
theorem d14_12 : decode prog_13_method_5_code 12 = .ok (.aload_n 0, 1) := by decide +kernel
theorem d14_13 : decode prog_13_method_5_code 13 = .ok (.lload_n 1, 1) := by decide +kernel
theorem d14_14 : decode prog_13_method_5_code 14 = .ok (.putfield 85, 3) := by decide +kernel
theorem d14_17 : decode prog_13_method_5_code 17 = .ok (.return_, 1) := by decide +kernel
theorem pn_14 : plainName "com/example/tributary/tributary/Meter" = true := by first | (simp [plainName, overriddenIn]; done) | decide +kernel
theorem pd_14 : parseMethodDescriptor "(J)V" = some ⟨[.long], none⟩ := by decide +kernel
theorem ef_14 (m : MethodId) (x0 : Addr) (x1 : Int64) : entryFrame m #[(.ref x0), (.long x1)] 3 = mkF m 0 #[.val (.ref x0), .val (.long x1), .second] [] := by first | (simp [entryFrame, mkF, argsToLocals, Value.category]; done) | rfl
def Q14 (Z : State) (a1 q : Addr) (p2 x w : Int64) (h0 : Heap) (n0 : Nat) (v : Option Value) (h : Heap) (L : List Loc) : Prop := v = none ∧ Fr n0 L ∧ Keep h0 h [a1] ∧ Exa Z h a1 "com/example/tributary/tributary/Meter" ∧ Fld Z h a1 "com/example/tributary/tributary/Meter" "samples" "Ljava/util/Deque;" (.ref q) ∧ Fld Z h a1 "com/example/tributary/tributary/Meter" "waiting" "Z" (.int 1) ∧ Fld Z h a1 "com/example/tributary/tributary/Meter" "waitingSince" "J" (.long p2) ∧ Fld Z h a1 "com/example/tributary/tributary/Meter" "waited" "J" (.long w)
set_option maxRecDepth 65536 in
set_option maxHeartbeats 40000000 in
theorem rm14 (l : Launch) (Z : State) (a0 : Array Value) (hw : ∀ d ∈ tables_1, d.before a0 Z = true) (ws : List Jvm.Cond) (a1 q : Addr) (p2 x w : Int64) (h0 : Heap) (n0 : Nat) (Z0 : n0 ≤ h0.size) (Msm0 : Fld Z h0 a1 "com/example/tributary/tributary/Meter" "samples" "Ljava/util/Deque;" (.ref q)) (Mwt0 : Fld Z h0 a1 "com/example/tributary/tributary/Meter" "waiting" "Z" (.int 0)) (Mws0 : Fld Z h0 a1 "com/example/tributary/tributary/Meter" "waitingSince" "J" (.long x)) (Mwd0 : Fld Z h0 a1 "com/example/tributary/tributary/Meter" "waited" "J" (.long w)) (Em0 : Exa Z h0 a1 "com/example/tributary/tributary/Meter") (g_a1 : n0 ≤ a1) :
    MetFree l (⟨"com/example/tributary/tributary/Meter", "idle", "(J)V"⟩ : MethodName) (head1 (Jvm.Cond.code (⟨"com/example/tributary/tributary/Meter", "idle", "(J)V"⟩ : MethodName) prog_13_method_5_code 3 none :: ws) ({ frames := 0, cells := 0, slots := 0, locals := 0 } : Room)) (fun a U => a = #[(.ref a1), (.long p2)] ∧ Z.Warmed39 U.vm ∧ U.heap = h0) (fun _ _ _ _ _ => True) (fun _ U o U' => ∃ v L, o = .returned v ∧ Q14 Z a1 q p2 x w h0 n0 v U'.heap L ∧ FrameEnd U o U' L ({ frames := 0, cells := 0, slots := 0, locals := 0 } : Room).cells ({ frames := 0, cells := 0, slots := 0, locals := 0 } : Room).slots) := by
  refine MetFree.of_bodySF (plainFor_of_name pn_14) hisR ?_
  intro p e s m args below meth c s₁ Bd hml0 hP hK
  obtain ⟨rfl, hZ, hh⟩ := hP
  have hx := Bd.exec
  have hby := Bd.bytes
  have hml : c.maxLocals = 3 := hml0
  have hown : s.vm.findClass "com/example/tributary/tributary/Meter" = some m.cls := findClass_of_methodNamed Bd.named
  have hnm := (name_of_methodNamed Bd.named Bd.method).1
  have X0 : Stand p l e ({ frames := 0, cells := 0, slots := 0, locals := 0 } : Room) s m #[(.ref a1), (.long p2)] below meth c s₁ [] 0 0 := Stand.of_body Bd
  have e0 : s₁.heap = h0 := by rw [← hh, Bd.state]; rfl
  have N0 := Fr.nil n0
  obtain ⟨F0, hF0⟩ : ∃ F0, F0 = entryFrame m #[(.ref a1), (.long p2)] 3 := ⟨_, rfl⟩
  have C0 : Go p e below s₁ (mkF m 0 #[.val (.ref a1), .val (.long p2), .second] []) s₁ F0 := fun t k => by rw [hF0]; exact castTop (ef_14 m a1 p2) k
  have pre0 : ∀ t, Steps p.tables e below (s₁.setTop F0) t → Steps p.tables e below (s₁.setTop (entryFrame m #[(.ref a1), (.long p2)] 3)) t := fun t k => by rw [← hF0]; exact k
  have C1 : Go p e below s₁ (mkF m 1 #[.val (.ref a1), .val (.long p2), .second] [(.ref a1)]) s₁ F0 := fun t k => C0 t (by
    refine XS.aloadN X0.here hx rfl (hb hby d14_0) rfl rfl ?_
    exact k)
  obtain ⟨T2, X2, e2, st2⟩ := getF X0 hx hZ hown (host := "") (Or.inl (hw _ (List.mem_of_getElem? (i := 58) rfl))) Via.refl e0 Mwt0 (g := (mkF m 1 #[.val (.ref a1), .val (.long p2), .second] [(.ref a1)])) rfl rfl (hb hby d14_1)
  have C2 : Go p e below T2 (mkF m 4 #[.val (.ref a1), .val (.long p2), .second] [(.int (0 : Int32))]) s₁ F0 := fun t k => C1 t (st2 t k)
  have C3 : Go p e below T2 (mkF m 9 #[.val (.ref a1), .val (.long p2), .second] [(.int (1 : Int32)), (.ref a1)]) s₁ F0 := fun t k => C2 t (by
    refine XS.ifNo X2.here hx rfl (hb hby d14_4) rfl ((if0 _ _).trans (teq (rfl : (0 : Int32) = 0)).2) ?_
    show Steps p.tables e below (T2.setTop (mkF m 7 #[.val (.ref a1), .val (.long p2), .second] [])) _
    refine XS.aloadN X2.here hx rfl (hb hby d14_7) rfl rfl ?_
    show Steps p.tables e below (T2.setTop (mkF m 8 #[.val (.ref a1), .val (.long p2), .second] [(.ref a1)])) _
    refine XS.iconst X2.here hx rfl (hb hby d14_8) ?_
    exact k)
  obtain ⟨T4, h4, X4, e4, W4, st4⟩ := putFN X2 hx hZ hown (hw _ (List.mem_of_getElem? (i := 58) rfl)) Via.refl e2 Mwt0 Em0 (Or.inl (hw _ (List.mem_of_getElem? (i := 59) rfl))) (hw _ (List.mem_of_getElem? (i := 1) rfl)) (ty := .boolean) (v' := (.int (1 : Int32))) (by decide) rfl rfl (g := (mkF m 9 #[.val (.ref a1), .val (.long p2), .second] [(.int (1 : Int32)), (.ref a1)])) rfl rfl (hb hby d14_9)
  have C4 : Go p e below T4 (mkF m 12 #[.val (.ref a1), .val (.long p2), .second] []) s₁ F0 := fun t k => C3 t (st4 t k)
  have Msm4 := Msm0.other W4 (Or.inr (slot_ne (Or.inr (hw _ (List.mem_of_getElem? (i := 27) rfl))) (Or.inl (hw _ (List.mem_of_getElem? (i := 59) rfl))) (by decide) (t := (.object "java/util/Deque")) (t' := .boolean) (by decide) (by decide)))
  have Mwt4 := Mwt0.same W4
  have Mws4 := Mws0.other W4 (Or.inr (slot_ne (Or.inl (hw _ (List.mem_of_getElem? (i := 93) rfl))) (Or.inl (hw _ (List.mem_of_getElem? (i := 59) rfl))) (by decide) (t := .long) (t' := .boolean) (by decide) (by decide)))
  have Mwd4 := Mwd0.other W4 (Or.inr (slot_ne (Or.inl (hw _ (List.mem_of_getElem? (i := 70) rfl))) (Or.inl (hw _ (List.mem_of_getElem? (i := 59) rfl))) (by decide) (t := .long) (t' := .boolean) (by decide) (by decide)))
  have N4 := Fr.snoc X4 N0 g_a1
  have K4 := (Keep.refl h0 [a1]).wr W4 (Or.inl (List.mem_of_getElem? (i := 0) rfl))
  have Em4 := Em0.wr W4
  have C5 : Go p e below T4 (mkF m 14 #[.val (.ref a1), .val (.long p2), .second] [(.long p2), (.ref a1)]) s₁ F0 := fun t k => C4 t (by
    refine XS.aloadN X4.here hx rfl (hb hby d14_12) rfl rfl ?_
    show Steps p.tables e below (T4.setTop (mkF m 13 #[.val (.ref a1), .val (.long p2), .second] [(.ref a1)])) _
    refine XS.lloadN X4.here hx rfl (hb hby d14_13) rfl ?_
    exact k)
  obtain ⟨T6, h6, X6, e6, W6, st6⟩ := putF X4 hx hZ hown (host := "") (Or.inl (hw _ (List.mem_of_getElem? (i := 92) rfl))) Via.refl e4 Mws4 Em4 (Or.inl (hw _ (List.mem_of_getElem? (i := 93) rfl))) (hw _ (List.mem_of_getElem? (i := 1) rfl)) (ty := .long) (by decide) rfl rfl (g := (mkF m 14 #[.val (.ref a1), .val (.long p2), .second] [(.long p2), (.ref a1)])) rfl rfl (hb hby d14_14)
  have C6 : Go p e below T6 (mkF m 17 #[.val (.ref a1), .val (.long p2), .second] []) s₁ F0 := fun t k => C5 t (st6 t k)
  have Msm6 := Msm4.other W6 (Or.inr (slot_ne (Or.inr (hw _ (List.mem_of_getElem? (i := 27) rfl))) (Or.inl (hw _ (List.mem_of_getElem? (i := 93) rfl))) (by decide) (t := (.object "java/util/Deque")) (t' := .long) (by decide) (by decide)))
  have Mwt6 := Mwt4.other W6 (Or.inr (slot_ne (Or.inl (hw _ (List.mem_of_getElem? (i := 59) rfl))) (Or.inl (hw _ (List.mem_of_getElem? (i := 93) rfl))) (by decide) (t := .boolean) (t' := .long) (by decide) (by decide)))
  have Mws6 := Mws4.same W6
  have Mwd6 := Mwd4.other W6 (Or.inr (slot_ne (Or.inl (hw _ (List.mem_of_getElem? (i := 70) rfl))) (Or.inl (hw _ (List.mem_of_getElem? (i := 93) rfl))) (by decide) (t := .long) (t' := .long) (by decide) (by decide)))
  have N6 := Fr.snoc X6 N4 g_a1
  have K6 := K4.wr W6 (Or.inl (List.mem_of_getElem? (i := 0) rfl))
  have Em6 := Em4.wr W6
  obtain ⟨fs, hr, hrun, hended, hW, hsame⟩ := X6.leave (v := none) (fun _ => rfl)
  refine ⟨_, _, pre0 _ (C6 _ ?_), hrun, hended, _, _, rfl, ?_, ⟨_, rfl⟩, hW, hsame.mono (by decide) (by decide)⟩
  · exact X6.returnOut hx Bd.returns (hb hby d14_17) hr
  · show Q14 Z a1 q p2 x w h0 n0 _ T6.heap _
    rw [e6]
    exact ⟨rfl, N6, K6, Em6, Msm6, Mwt6, Mws6, Mwd6⟩
theorem d8_0 : decode prog_13_method_6_code 0 = .ok (.aload_n 0, 1) := by decide +kernel
theorem d8_1 : decode prog_13_method_6_code 1 = .ok (.getfield 81, 3) := by decide +kernel
theorem d8_4 : decode prog_13_method_6_code 4 = .ok (.ifCond .eq 23, 3) := by decide +kernel
theorem d8_7 : decode prog_13_method_6_code 7 = .ok (.aload_n 0, 1) := by decide +kernel
theorem d8_8 : decode prog_13_method_6_code 8 = .ok (.iconst 0, 1) := by decide +kernel
theorem d8_9 : decode prog_13_method_6_code 9 = .ok (.putfield 81, 3) := by decide +kernel
theorem d8_12 : decode prog_13_method_6_code 12 = .ok (.aload_n 0, 1) := by decide +kernel
theorem d8_13 : decode prog_13_method_6_code 13 = .ok (.dup, 1) := by decide +kernel
theorem d8_14 : decode prog_13_method_6_code 14 = .ok (.getfield 88, 3) := by decide +kernel
theorem d8_17 : decode prog_13_method_6_code 17 = .ok (.lload_n 1, 1) := by decide +kernel
theorem d8_18 : decode prog_13_method_6_code 18 = .ok (.aload_n 0, 1) := by decide +kernel
theorem d8_19 : decode prog_13_method_6_code 19 = .ok (.getfield 85, 3) := by decide +kernel
theorem d8_22 : decode prog_13_method_6_code 22 = .ok (.lsub, 1) := by decide +kernel
theorem d8_23 : decode prog_13_method_6_code 23 = .ok (.ladd, 1) := by decide +kernel
theorem d8_24 : decode prog_13_method_6_code 24 = .ok (.putfield 88, 3) := by decide +kernel
theorem d8_27 : decode prog_13_method_6_code 27 = .ok (.return_, 1) := by decide +kernel
theorem pn_8 : plainName "com/example/tributary/tributary/Meter" = true := by first | (simp [plainName, overriddenIn]; done) | decide +kernel
theorem pd_8 : parseMethodDescriptor "(J)V" = some ⟨[.long], none⟩ := by decide +kernel
theorem ef_8 (m : MethodId) (x0 : Addr) (x1 : Int64) : entryFrame m #[(.ref x0), (.long x1)] 3 = mkF m 0 #[.val (.ref x0), .val (.long x1), .second] [] := by first | (simp [entryFrame, mkF, argsToLocals, Value.category]; done) | rfl
def Q8 (Z : State) (a1 q : Addr) (p2 x w : Int64) (h0 : Heap) (n0 : Nat) (v : Option Value) (h : Heap) (L : List Loc) : Prop := v = none ∧ Fr n0 L ∧ Keep h0 h [a1] ∧ Exa Z h a1 "com/example/tributary/tributary/Meter" ∧ Fld Z h a1 "com/example/tributary/tributary/Meter" "samples" "Ljava/util/Deque;" (.ref q) ∧ Fld Z h a1 "com/example/tributary/tributary/Meter" "waiting" "Z" (.int 0) ∧ Fld Z h a1 "com/example/tributary/tributary/Meter" "waitingSince" "J" (.long x) ∧ Fld Z h a1 "com/example/tributary/tributary/Meter" "waited" "J" (.long (w + (p2 - x)))
set_option maxRecDepth 65536 in
set_option maxHeartbeats 40000000 in
theorem rm8 (l : Launch) (Z : State) (a0 : Array Value) (hw : ∀ d ∈ tables_1, d.before a0 Z = true) (ws : List Jvm.Cond) (a1 q : Addr) (p2 x w : Int64) (h0 : Heap) (n0 : Nat) (Z0 : n0 ≤ h0.size) (Msm0 : Fld Z h0 a1 "com/example/tributary/tributary/Meter" "samples" "Ljava/util/Deque;" (.ref q)) (Mwt0 : Fld Z h0 a1 "com/example/tributary/tributary/Meter" "waiting" "Z" (.int 1)) (Mws0 : Fld Z h0 a1 "com/example/tributary/tributary/Meter" "waitingSince" "J" (.long x)) (Mwd0 : Fld Z h0 a1 "com/example/tributary/tributary/Meter" "waited" "J" (.long w)) (Em0 : Exa Z h0 a1 "com/example/tributary/tributary/Meter") (g_a1 : n0 ≤ a1) :
    MetFree l (⟨"com/example/tributary/tributary/Meter", "busy", "(J)V"⟩ : MethodName) (head1 (Jvm.Cond.code (⟨"com/example/tributary/tributary/Meter", "busy", "(J)V"⟩ : MethodName) prog_13_method_6_code 3 none :: ws) ({ frames := 0, cells := 0, slots := 0, locals := 0 } : Room)) (fun a U => a = #[(.ref a1), (.long p2)] ∧ Z.Warmed39 U.vm ∧ U.heap = h0) (fun _ _ _ _ _ => True) (fun _ U o U' => ∃ v L, o = .returned v ∧ Q8 Z a1 q p2 x w h0 n0 v U'.heap L ∧ FrameEnd U o U' L ({ frames := 0, cells := 0, slots := 0, locals := 0 } : Room).cells ({ frames := 0, cells := 0, slots := 0, locals := 0 } : Room).slots) := by
  refine MetFree.of_bodySF (plainFor_of_name pn_8) hisR ?_
  intro p e s m args below meth c s₁ Bd hml0 hP hK
  obtain ⟨rfl, hZ, hh⟩ := hP
  have hx := Bd.exec
  have hby := Bd.bytes
  have hml : c.maxLocals = 3 := hml0
  have hown : s.vm.findClass "com/example/tributary/tributary/Meter" = some m.cls := findClass_of_methodNamed Bd.named
  have hnm := (name_of_methodNamed Bd.named Bd.method).1
  have X0 : Stand p l e ({ frames := 0, cells := 0, slots := 0, locals := 0 } : Room) s m #[(.ref a1), (.long p2)] below meth c s₁ [] 0 0 := Stand.of_body Bd
  have e0 : s₁.heap = h0 := by rw [← hh, Bd.state]; rfl
  have N0 := Fr.nil n0
  obtain ⟨F0, hF0⟩ : ∃ F0, F0 = entryFrame m #[(.ref a1), (.long p2)] 3 := ⟨_, rfl⟩
  have C0 : Go p e below s₁ (mkF m 0 #[.val (.ref a1), .val (.long p2), .second] []) s₁ F0 := fun t k => by rw [hF0]; exact castTop (ef_8 m a1 p2) k
  have pre0 : ∀ t, Steps p.tables e below (s₁.setTop F0) t → Steps p.tables e below (s₁.setTop (entryFrame m #[(.ref a1), (.long p2)] 3)) t := fun t k => by rw [← hF0]; exact k
  have C1 : Go p e below s₁ (mkF m 1 #[.val (.ref a1), .val (.long p2), .second] [(.ref a1)]) s₁ F0 := fun t k => C0 t (by
    refine XS.aloadN X0.here hx rfl (hb hby d8_0) rfl rfl ?_
    exact k)
  obtain ⟨T2, X2, e2, st2⟩ := getF X0 hx hZ hown (host := "") (Or.inl (hw _ (List.mem_of_getElem? (i := 58) rfl))) Via.refl e0 Mwt0 (g := (mkF m 1 #[.val (.ref a1), .val (.long p2), .second] [(.ref a1)])) rfl rfl (hb hby d8_1)
  have C2 : Go p e below T2 (mkF m 4 #[.val (.ref a1), .val (.long p2), .second] [(.int (1 : Int32))]) s₁ F0 := fun t k => C1 t (st2 t k)
  have C3 : Go p e below T2 (mkF m 9 #[.val (.ref a1), .val (.long p2), .second] [(.int (0 : Int32)), (.ref a1)]) s₁ F0 := fun t k => C2 t (by
    refine XS.ifNo X2.here hx rfl (hb hby d8_4) rfl ((if0 _ _).trans (feq (by decide)).1) ?_
    show Steps p.tables e below (T2.setTop (mkF m 7 #[.val (.ref a1), .val (.long p2), .second] [])) _
    refine XS.aloadN X2.here hx rfl (hb hby d8_7) rfl rfl ?_
    show Steps p.tables e below (T2.setTop (mkF m 8 #[.val (.ref a1), .val (.long p2), .second] [(.ref a1)])) _
    refine XS.iconst X2.here hx rfl (hb hby d8_8) ?_
    exact k)
  obtain ⟨T4, h4, X4, e4, W4, st4⟩ := putFN X2 hx hZ hown (hw _ (List.mem_of_getElem? (i := 58) rfl)) Via.refl e2 Mwt0 Em0 (Or.inl (hw _ (List.mem_of_getElem? (i := 59) rfl))) (hw _ (List.mem_of_getElem? (i := 1) rfl)) (ty := .boolean) (v' := (.int (0 : Int32))) (by decide) rfl rfl (g := (mkF m 9 #[.val (.ref a1), .val (.long p2), .second] [(.int (0 : Int32)), (.ref a1)])) rfl rfl (hb hby d8_9)
  have C4 : Go p e below T4 (mkF m 12 #[.val (.ref a1), .val (.long p2), .second] []) s₁ F0 := fun t k => C3 t (st4 t k)
  have Msm4 := Msm0.other W4 (Or.inr (slot_ne (Or.inr (hw _ (List.mem_of_getElem? (i := 27) rfl))) (Or.inl (hw _ (List.mem_of_getElem? (i := 59) rfl))) (by decide) (t := (.object "java/util/Deque")) (t' := .boolean) (by decide) (by decide)))
  have Mwt4 := Mwt0.same W4
  have Mws4 := Mws0.other W4 (Or.inr (slot_ne (Or.inl (hw _ (List.mem_of_getElem? (i := 93) rfl))) (Or.inl (hw _ (List.mem_of_getElem? (i := 59) rfl))) (by decide) (t := .long) (t' := .boolean) (by decide) (by decide)))
  have Mwd4 := Mwd0.other W4 (Or.inr (slot_ne (Or.inl (hw _ (List.mem_of_getElem? (i := 70) rfl))) (Or.inl (hw _ (List.mem_of_getElem? (i := 59) rfl))) (by decide) (t := .long) (t' := .boolean) (by decide) (by decide)))
  have N4 := Fr.snoc X4 N0 g_a1
  have K4 := (Keep.refl h0 [a1]).wr W4 (Or.inl (List.mem_of_getElem? (i := 0) rfl))
  have Em4 := Em0.wr W4
  have C5 : Go p e below T4 (mkF m 14 #[.val (.ref a1), .val (.long p2), .second] [(.ref a1), (.ref a1)]) s₁ F0 := fun t k => C4 t (by
    refine XS.aloadN X4.here hx rfl (hb hby d8_12) rfl rfl ?_
    show Steps p.tables e below (T4.setTop (mkF m 13 #[.val (.ref a1), .val (.long p2), .second] [(.ref a1)])) _
    refine XS.dup X4.here hx rfl (hb hby d8_13) rfl rfl ?_
    exact k)
  obtain ⟨T6, X6, e6, st6⟩ := getF X4 hx hZ hown (host := "") (Or.inl (hw _ (List.mem_of_getElem? (i := 69) rfl))) Via.refl e4 Mwd4 (g := (mkF m 14 #[.val (.ref a1), .val (.long p2), .second] [(.ref a1), (.ref a1)])) rfl rfl (hb hby d8_14)
  have C6 : Go p e below T6 (mkF m 17 #[.val (.ref a1), .val (.long p2), .second] [(.long w), (.ref a1)]) s₁ F0 := fun t k => C5 t (st6 t k)
  have C7 : Go p e below T6 (mkF m 19 #[.val (.ref a1), .val (.long p2), .second] [(.ref a1), (.long p2), (.long w), (.ref a1)]) s₁ F0 := fun t k => C6 t (by
    refine XS.lloadN X6.here hx rfl (hb hby d8_17) rfl ?_
    show Steps p.tables e below (T6.setTop (mkF m 18 #[.val (.ref a1), .val (.long p2), .second] [(.long p2), (.long w), (.ref a1)])) _
    refine XS.aloadN X6.here hx rfl (hb hby d8_18) rfl rfl ?_
    exact k)
  obtain ⟨T8, X8, e8, st8⟩ := getF X6 hx hZ hown (host := "") (Or.inl (hw _ (List.mem_of_getElem? (i := 92) rfl))) Via.refl e6 Mws4 (g := (mkF m 19 #[.val (.ref a1), .val (.long p2), .second] [(.ref a1), (.long p2), (.long w), (.ref a1)])) rfl rfl (hb hby d8_19)
  have C8 : Go p e below T8 (mkF m 22 #[.val (.ref a1), .val (.long p2), .second] [(.long x), (.long p2), (.long w), (.ref a1)]) s₁ F0 := fun t k => C7 t (st8 t k)
  have C9 : Go p e below T8 (mkF m 24 #[.val (.ref a1), .val (.long p2), .second] [(.long (w + (p2 - x))), (.ref a1)]) s₁ F0 := fun t k => C8 t (by
    refine XS.lsub X8.here hx rfl (hb hby d8_22) rfl ?_
    show Steps p.tables e below (T8.setTop (mkF m 23 #[.val (.ref a1), .val (.long p2), .second] [(.long (p2 - x)), (.long w), (.ref a1)])) _
    refine XS.ladd X8.here hx rfl (hb hby d8_23) rfl ?_
    exact k)
  obtain ⟨T10, h10, X10, e10, W10, st10⟩ := putF X8 hx hZ hown (host := "") (Or.inl (hw _ (List.mem_of_getElem? (i := 69) rfl))) Via.refl e8 Mwd4 Em4 (Or.inl (hw _ (List.mem_of_getElem? (i := 70) rfl))) (hw _ (List.mem_of_getElem? (i := 1) rfl)) (ty := .long) (by decide) rfl rfl (g := (mkF m 24 #[.val (.ref a1), .val (.long p2), .second] [(.long (w + (p2 - x))), (.ref a1)])) rfl rfl (hb hby d8_24)
  have C10 : Go p e below T10 (mkF m 27 #[.val (.ref a1), .val (.long p2), .second] []) s₁ F0 := fun t k => C9 t (st10 t k)
  have Msm10 := Msm4.other W10 (Or.inr (slot_ne (Or.inr (hw _ (List.mem_of_getElem? (i := 27) rfl))) (Or.inl (hw _ (List.mem_of_getElem? (i := 70) rfl))) (by decide) (t := (.object "java/util/Deque")) (t' := .long) (by decide) (by decide)))
  have Mwt10 := Mwt4.other W10 (Or.inr (slot_ne (Or.inl (hw _ (List.mem_of_getElem? (i := 59) rfl))) (Or.inl (hw _ (List.mem_of_getElem? (i := 70) rfl))) (by decide) (t := .boolean) (t' := .long) (by decide) (by decide)))
  have Mws10 := Mws4.other W10 (Or.inr (slot_ne (Or.inl (hw _ (List.mem_of_getElem? (i := 93) rfl))) (Or.inl (hw _ (List.mem_of_getElem? (i := 70) rfl))) (by decide) (t := .long) (t' := .long) (by decide) (by decide)))
  have Mwd10 := Mwd4.same W10
  have N10 := Fr.snoc X10 N4 g_a1
  have K10 := K4.wr W10 (Or.inl (List.mem_of_getElem? (i := 0) rfl))
  have Em10 := Em4.wr W10
  obtain ⟨fs, hr, hrun, hended, hW, hsame⟩ := X10.leave (v := none) (fun _ => rfl)
  refine ⟨_, _, pre0 _ (C10 _ ?_), hrun, hended, _, _, rfl, ?_, ⟨_, rfl⟩, hW, hsame.mono (by decide) (by decide)⟩
  · exact X10.returnOut hx Bd.returns (hb hby d8_27) hr
  · show Q8 Z a1 q p2 x w h0 n0 _ T10.heap _
    rw [e10]
    exact ⟨rfl, N10, K10, Em10, Msm10, Mwt10, Mws10, Mwd10⟩
def Q8n (Z : State) (a1 : Addr) (p2 : Int64) (h0 : Heap) (n0 : Nat) (v : Option Value) (h : Heap) (L : List Loc) : Prop := v = none ∧ Fr n0 L ∧ h = h0
set_option maxRecDepth 65536 in
set_option maxHeartbeats 40000000 in
theorem rm8n (l : Launch) (Z : State) (a0 : Array Value) (hw : ∀ d ∈ tables_1, d.before a0 Z = true) (ws : List Jvm.Cond) (a1 : Addr) (p2 : Int64) (h0 : Heap) (n0 : Nat) (Z0 : n0 ≤ h0.size) (Mwt0 : Fld Z h0 a1 "com/example/tributary/tributary/Meter" "waiting" "Z" (.int 0)) :
    MetFree l (⟨"com/example/tributary/tributary/Meter", "busy", "(J)V"⟩ : MethodName) (head1 (Jvm.Cond.code (⟨"com/example/tributary/tributary/Meter", "busy", "(J)V"⟩ : MethodName) prog_13_method_6_code 3 none :: ws) ({ frames := 0, cells := 0, slots := 0, locals := 0 } : Room)) (fun a U => a = #[(.ref a1), (.long p2)] ∧ Z.Warmed39 U.vm ∧ U.heap = h0) (fun _ _ _ _ _ => True) (fun _ U o U' => ∃ v L, o = .returned v ∧ Q8n Z a1 p2 h0 n0 v U'.heap L ∧ FrameEnd U o U' L ({ frames := 0, cells := 0, slots := 0, locals := 0 } : Room).cells ({ frames := 0, cells := 0, slots := 0, locals := 0 } : Room).slots) := by
  refine MetFree.of_bodySF (plainFor_of_name pn_8) hisR ?_
  intro p e s m args below meth c s₁ Bd hml0 hP hK
  obtain ⟨rfl, hZ, hh⟩ := hP
  have hx := Bd.exec
  have hby := Bd.bytes
  have hml : c.maxLocals = 3 := hml0
  have hown : s.vm.findClass "com/example/tributary/tributary/Meter" = some m.cls := findClass_of_methodNamed Bd.named
  have hnm := (name_of_methodNamed Bd.named Bd.method).1
  have X0 : Stand p l e ({ frames := 0, cells := 0, slots := 0, locals := 0 } : Room) s m #[(.ref a1), (.long p2)] below meth c s₁ [] 0 0 := Stand.of_body Bd
  have e0 : s₁.heap = h0 := by rw [← hh, Bd.state]; rfl
  have N0 := Fr.nil n0
  obtain ⟨F0, hF0⟩ : ∃ F0, F0 = entryFrame m #[(.ref a1), (.long p2)] 3 := ⟨_, rfl⟩
  have C0 : Go p e below s₁ (mkF m 0 #[.val (.ref a1), .val (.long p2), .second] []) s₁ F0 := fun t k => by rw [hF0]; exact castTop (ef_8 m a1 p2) k
  have pre0 : ∀ t, Steps p.tables e below (s₁.setTop F0) t → Steps p.tables e below (s₁.setTop (entryFrame m #[(.ref a1), (.long p2)] 3)) t := fun t k => by rw [← hF0]; exact k
  have C1 : Go p e below s₁ (mkF m 1 #[.val (.ref a1), .val (.long p2), .second] [(.ref a1)]) s₁ F0 := fun t k => C0 t (by
    refine XS.aloadN X0.here hx rfl (hb hby d8_0) rfl rfl ?_
    exact k)
  obtain ⟨T2, X2, e2, st2⟩ := getF X0 hx hZ hown (host := "") (Or.inl (hw _ (List.mem_of_getElem? (i := 58) rfl))) Via.refl e0 Mwt0 (g := (mkF m 1 #[.val (.ref a1), .val (.long p2), .second] [(.ref a1)])) rfl rfl (hb hby d8_1)
  have C2 : Go p e below T2 (mkF m 4 #[.val (.ref a1), .val (.long p2), .second] [(.int (0 : Int32))]) s₁ F0 := fun t k => C1 t (st2 t k)
  have C3 : Go p e below T2 (mkF m 27 #[.val (.ref a1), .val (.long p2), .second] []) s₁ F0 := fun t k => C2 t (by
    refine XS.ifYes X2.here hx rfl (pc0 := 4) (pc' := 27) rfl (hb hby d8_4) rfl ((if0 _ _).trans (teq (rfl : (0 : Int32) = 0)).1) (by decide) (by decide) ?_
    exact k)
  obtain ⟨fs, hr, hrun, hended, hW, hsame⟩ := X2.leave (v := none) (fun _ => rfl)
  refine ⟨_, _, pre0 _ (C3 _ ?_), hrun, hended, _, _, rfl, ?_, ⟨_, rfl⟩, hW, hsame.mono (by decide) (by decide)⟩
  · exact X2.returnOut hx Bd.returns (hb hby d8_27) hr
  · show Q8n Z a1 p2 h0 n0 _ T2.heap _
    rw [e2]
    exact ⟨rfl, N0, rfl⟩
theorem d10_0 : decode prog_13_method_7_code 0 = .ok (.aload_n 0, 1) := by decide +kernel
theorem d10_1 : decode prog_13_method_7_code 1 = .ok (.getfield 81, 3) := by decide +kernel
theorem d10_4 : decode prog_13_method_7_code 4 = .ok (.ifCond .eq 14, 3) := by decide +kernel
theorem d10_7 : decode prog_13_method_7_code 7 = .ok (.lload_n 1, 1) := by decide +kernel
theorem d10_8 : decode prog_13_method_7_code 8 = .ok (.aload_n 0, 1) := by decide +kernel
theorem d10_9 : decode prog_13_method_7_code 9 = .ok (.getfield 85, 3) := by decide +kernel
theorem d10_12 : decode prog_13_method_7_code 12 = .ok (.invokestatic 91, 3) := by decide +kernel
theorem d10_15 : decode prog_13_method_7_code 15 = .ok (.goto 4, 3) := by decide +kernel
theorem d10_18 : decode prog_13_method_7_code 18 = .ok (.lload_n 1, 1) := by decide +kernel
theorem d10_19 : decode prog_13_method_7_code 19 = .ok (.aload_n 0, 1) := by decide +kernel
theorem d10_20 : decode prog_13_method_7_code 20 = .ok (.getfield 88, 3) := by decide +kernel
theorem d10_23 : decode prog_13_method_7_code 23 = .ok (.lsub, 1) := by decide +kernel
theorem d10_24 : decode prog_13_method_7_code 24 = .ok (.lreturn, 1) := by decide +kernel
theorem pn_10 : plainName "com/example/tributary/tributary/Meter" = true := by first | (simp [plainName, overriddenIn]; done) | decide +kernel
theorem pd_10 : parseMethodDescriptor "(J)J" = some ⟨[.long], some .long⟩ := by decide +kernel
theorem ef_10 (m : MethodId) (x0 : Addr) (x1 : Int64) : entryFrame m #[(.ref x0), (.long x1)] 3 = mkF m 0 #[.val (.ref x0), .val (.long x1), .second] [] := by first | (simp [entryFrame, mkF, argsToLocals, Value.category]; done) | rfl
def Q10 (Z : State) (a1 : Addr) (p2 w : Int64) (h0 : Heap) (n0 : Nat) (v : Option Value) (h : Heap) (L : List Loc) : Prop := v = some (.long (p2 - w)) ∧ Fr n0 L ∧ h = h0
set_option maxRecDepth 65536 in
set_option maxHeartbeats 40000000 in
theorem rm10 (l : Launch) (Z : State) (a0 : Array Value) (hw : ∀ d ∈ tables_1, d.before a0 Z = true) (ws : List Jvm.Cond) (a1 : Addr) (p2 w : Int64) (h0 : Heap) (n0 : Nat) (Z0 : n0 ≤ h0.size) (Mwt0 : Fld Z h0 a1 "com/example/tributary/tributary/Meter" "waiting" "Z" (.int 0)) (Mwd0 : Fld Z h0 a1 "com/example/tributary/tributary/Meter" "waited" "J" (.long w)) :
    MetFree l (⟨"com/example/tributary/tributary/Meter", "clock", "(J)J"⟩ : MethodName) (head1 (Jvm.Cond.code (⟨"com/example/tributary/tributary/Meter", "clock", "(J)J"⟩ : MethodName) prog_13_method_7_code 3 (some .long) :: ws) ({ frames := 0, cells := 0, slots := 0, locals := 0 } : Room)) (fun a U => a = #[(.ref a1), (.long p2)] ∧ Z.Warmed39 U.vm ∧ U.heap = h0) (fun _ _ _ _ _ => True) (fun _ U o U' => ∃ v L, o = .returned v ∧ Q10 Z a1 p2 w h0 n0 v U'.heap L ∧ FrameEnd U o U' L ({ frames := 0, cells := 0, slots := 0, locals := 0 } : Room).cells ({ frames := 0, cells := 0, slots := 0, locals := 0 } : Room).slots) := by
  refine MetFree.of_bodySF (plainFor_of_name pn_10) hisR ?_
  intro p e s m args below meth c s₁ Bd hml0 hP hK
  obtain ⟨rfl, hZ, hh⟩ := hP
  have hx := Bd.exec
  have hby := Bd.bytes
  have hml : c.maxLocals = 3 := hml0
  have hown : s.vm.findClass "com/example/tributary/tributary/Meter" = some m.cls := findClass_of_methodNamed Bd.named
  have hnm := (name_of_methodNamed Bd.named Bd.method).1
  have X0 : Stand p l e ({ frames := 0, cells := 0, slots := 0, locals := 0 } : Room) s m #[(.ref a1), (.long p2)] below meth c s₁ [] 0 0 := Stand.of_body Bd
  have e0 : s₁.heap = h0 := by rw [← hh, Bd.state]; rfl
  have N0 := Fr.nil n0
  obtain ⟨F0, hF0⟩ : ∃ F0, F0 = entryFrame m #[(.ref a1), (.long p2)] 3 := ⟨_, rfl⟩
  have C0 : Go p e below s₁ (mkF m 0 #[.val (.ref a1), .val (.long p2), .second] []) s₁ F0 := fun t k => by rw [hF0]; exact castTop (ef_10 m a1 p2) k
  have pre0 : ∀ t, Steps p.tables e below (s₁.setTop F0) t → Steps p.tables e below (s₁.setTop (entryFrame m #[(.ref a1), (.long p2)] 3)) t := fun t k => by rw [← hF0]; exact k
  have C1 : Go p e below s₁ (mkF m 1 #[.val (.ref a1), .val (.long p2), .second] [(.ref a1)]) s₁ F0 := fun t k => C0 t (by
    refine XS.aloadN X0.here hx rfl (hb hby d10_0) rfl rfl ?_
    exact k)
  obtain ⟨T2, X2, e2, st2⟩ := getF X0 hx hZ hown (host := "") (Or.inl (hw _ (List.mem_of_getElem? (i := 58) rfl))) Via.refl e0 Mwt0 (g := (mkF m 1 #[.val (.ref a1), .val (.long p2), .second] [(.ref a1)])) rfl rfl (hb hby d10_1)
  have C2 : Go p e below T2 (mkF m 4 #[.val (.ref a1), .val (.long p2), .second] [(.int (0 : Int32))]) s₁ F0 := fun t k => C1 t (st2 t k)
  have C3 : Go p e below T2 (mkF m 20 #[.val (.ref a1), .val (.long p2), .second] [(.ref a1), (.long p2)]) s₁ F0 := fun t k => C2 t (by
    refine XS.ifYes X2.here hx rfl (pc0 := 4) (pc' := 18) rfl (hb hby d10_4) rfl ((if0 _ _).trans (teq (rfl : (0 : Int32) = 0)).1) (by decide) (by decide) ?_
    show Steps p.tables e below (T2.setTop (mkF m 18 #[.val (.ref a1), .val (.long p2), .second] [])) _
    refine XS.lloadN X2.here hx rfl (hb hby d10_18) rfl ?_
    show Steps p.tables e below (T2.setTop (mkF m 19 #[.val (.ref a1), .val (.long p2), .second] [(.long p2)])) _
    refine XS.aloadN X2.here hx rfl (hb hby d10_19) rfl rfl ?_
    exact k)
  obtain ⟨T4, X4, e4, st4⟩ := getF X2 hx hZ hown (host := "") (Or.inl (hw _ (List.mem_of_getElem? (i := 69) rfl))) Via.refl e2 Mwd0 (g := (mkF m 20 #[.val (.ref a1), .val (.long p2), .second] [(.ref a1), (.long p2)])) rfl rfl (hb hby d10_20)
  have C4 : Go p e below T4 (mkF m 23 #[.val (.ref a1), .val (.long p2), .second] [(.long w), (.long p2)]) s₁ F0 := fun t k => C3 t (st4 t k)
  have C5 : Go p e below T4 (mkF m 24 #[.val (.ref a1), .val (.long p2), .second] [(.long (p2 - w))]) s₁ F0 := fun t k => C4 t (by
    refine XS.lsub X4.here hx rfl (hb hby d10_23) rfl ?_
    exact k)
  obtain ⟨fs, hr, hrun, hended, hW, hsame⟩ := X4.leave (v := (some (.long (p2 - w)))) (fun h => by rw [Bd.returns] at h; cases h)
  refine ⟨_, _, pre0 _ (C5 _ ?_), hrun, hended, _, _, rfl, ?_, ⟨_, rfl⟩, hW, hsame.mono (by decide) (by decide)⟩
  · jvm_step X4.here [X4.here.top, hx, (hb hby d10_24), X4.method', Bd.returns, narrow]
    first | (intro acts; rw [hr _ acts rfl rfl rfl]) | rw [hr _ _ rfl rfl rfl]
    exact Steps.refl _
  · show Q10 Z a1 p2 w h0 n0 _ T4.heap _
    rw [e4]
    exact ⟨rfl, N0, rfl⟩
theorem d9_0 : decode prog_13_method_4_code 0 = .ok (.aload_n 0, 1) := by decide +kernel
theorem d9_1 : decode prog_13_method_4_code 1 = .ok (.lload_n 1, 1) := by decide +kernel
theorem d9_2 : decode prog_13_method_4_code 2 = .ok (.invokevirtual 30, 3) := by decide +kernel
theorem d9_5 : decode prog_13_method_4_code 5 = .ok (.aload_n 0, 1) := by decide +kernel
theorem d9_6 : decode prog_13_method_4_code 6 = .ok (.getfield 10, 3) := by decide +kernel
theorem d9_9 : decode prog_13_method_4_code 9 = .ok (.invokeinterface 78 1, 5) := by decide +kernel
theorem d9_14 : decode prog_13_method_4_code 14 = .ok (.checkcast 49, 3) := by decide +kernel
theorem d9_17 : decode prog_13_method_4_code 17 = .ok (.iconst 0, 1) := by decide +kernel
theorem d9_18 : decode prog_13_method_4_code 18 = .ok (.laload, 1) := by decide +kernel
theorem d9_19 : decode prog_13_method_4_code 19 = .ok (.lsub, 1) := by decide +kernel
theorem d9_20 : decode prog_13_method_4_code 20 = .ok (.lreturn, 1) := by decide +kernel
theorem pn_9 : plainName "com/example/tributary/tributary/Meter" = true := by first | (simp [plainName, overriddenIn]; done) | decide +kernel
theorem pd_9 : parseMethodDescriptor "(J)J" = some ⟨[.long], some .long⟩ := by decide +kernel
theorem ef_9 (m : MethodId) (x0 : Addr) (x1 : Int64) : entryFrame m #[(.ref x0), (.long x1)] 3 = mkF m 0 #[.val (.ref x0), .val (.long x1), .second] [] := by first | (simp [entryFrame, mkF, argsToLocals, Value.category]; done) | rfl
def Q9 (Z : State) (a1 : Addr) (p2 w st : Int64) (q b ar : Addr) (k ka : ClassId) (h0 : Heap) (n0 : Nat) (v : Option Value) (h : Heap) (L : List Loc) : Prop := v = some (.long ((p2 - w) - st)) ∧ Fr n0 L ∧ h = h0
set_option maxRecDepth 65536 in
set_option maxHeartbeats 40000000 in
theorem rm9 (l : Launch) (Z : State) (a0 : Array Value) (hw : ∀ d ∈ tables_1, d.before a0 Z = true) (ws : List Jvm.Cond) (a1 : Addr) (p2 w st : Int64) (q b ar : Addr) (k ka : ClassId) (h0 : Heap) (n0 : Nat) (Z0 : n0 ≤ h0.size) (Mwt0 : Fld Z h0 a1 "com/example/tributary/tributary/Meter" "waiting" "Z" (.int 0)) (Mwd0 : Fld Z h0 a1 "com/example/tributary/tributary/Meter" "waited" "J" (.long w)) (Msm0 : Fld Z h0 a1 "com/example/tributary/tributary/Meter" "samples" "Ljava/util/Deque;" (.ref q)) (Em0 : Exa Z h0 a1 "com/example/tributary/tributary/Meter") (Eq0 : Exa Z h0 q "java/util/ArrayDeque") (Fe0 : Fld Z h0 q "java/util/ArrayDeque" "elements" "[Ljava/lang/Object;" (.ref b)) (Ft0 : Fld Z h0 q "java/util/ArrayDeque" "tail" "I" (.int (0 + 1))) (Ve0 : Arv Z h0 b k (.object "java/lang/Object") 17 [.ref ar] .null) (VA0 : Arv Z h0 ar ka .long 2 [.long st, .long 0] (.long 0)) (Ex0 : Exa Z h0 ar "[J") :
    MetFree l (⟨"com/example/tributary/tributary/Meter", "silence", "(J)J"⟩ : MethodName) (head1 (Jvm.Cond.code (⟨"com/example/tributary/tributary/Meter", "silence", "(J)J"⟩ : MethodName) prog_13_method_4_code 3 (some .long) :: ws) ({ frames := 2, cells := 0, slots := 0, locals := 29 } : Room)) (fun a U => a = #[(.ref a1), (.long p2)] ∧ Z.Warmed39 U.vm ∧ U.heap = h0) (fun _ _ _ _ _ => True) (fun _ U o U' => ∃ v L, o = .returned v ∧ Q9 Z a1 p2 w st q b ar k ka h0 n0 v U'.heap L ∧ FrameEnd U o U' L ({ frames := 2, cells := 0, slots := 0, locals := 29 } : Room).cells ({ frames := 2, cells := 0, slots := 0, locals := 29 } : Room).slots) := by
  refine MetFree.of_bodySF (plainFor_of_name pn_9) hisR ?_
  intro p e s m args below meth c s₁ Bd hml0 hP hK
  obtain ⟨rfl, hZ, hh⟩ := hP
  have hx := Bd.exec
  have hby := Bd.bytes
  have hml : c.maxLocals = 3 := hml0
  have hown : s.vm.findClass "com/example/tributary/tributary/Meter" = some m.cls := findClass_of_methodNamed Bd.named
  have hnm := (name_of_methodNamed Bd.named Bd.method).1
  have X0 : Stand p l e ({ frames := 2, cells := 0, slots := 0, locals := 29 } : Room) s m #[(.ref a1), (.long p2)] below meth c s₁ [] 0 0 := Stand.of_body Bd
  have e0 : s₁.heap = h0 := by rw [← hh, Bd.state]; rfl
  have N0 := Fr.nil n0
  obtain ⟨F0, hF0⟩ : ∃ F0, F0 = entryFrame m #[(.ref a1), (.long p2)] 3 := ⟨_, rfl⟩
  have C0 : Go p e below s₁ (mkF m 0 #[.val (.ref a1), .val (.long p2), .second] []) s₁ F0 := fun t k => by rw [hF0]; exact castTop (ef_9 m a1 p2) k
  have pre0 : ∀ t, Steps p.tables e below (s₁.setTop F0) t → Steps p.tables e below (s₁.setTop (entryFrame m #[(.ref a1), (.long p2)] 3)) t := fun t k => by rw [← hF0]; exact k
  have C1 : Go p e below s₁ (mkF m 2 #[.val (.ref a1), .val (.long p2), .second] [(.long p2), (.ref a1)]) s₁ F0 := fun t k => C0 t (by
    refine XS.aloadN X0.here hx rfl (hb hby d9_0) rfl rfl ?_
    show Steps p.tables e below (s₁.setTop (mkF m 1 #[.val (.ref a1), .val (.long p2), .second] [(.ref a1)])) _
    refine XS.lloadN X0.here hx rfl (hb hby d9_1) rfl ?_
    exact k)
  obtain ⟨cq2, q2, q2'⟩ := Em0.cell
  obtain ⟨_, _, ⟨T2, L2, k2, n2⟩, -, X2, ⟨Lc2, hQ2, l2, y2, z2⟩, st2⟩ := X0.privateBack hx (y := (⟨"com/example/tributary/tributary/Meter", "clock", "(J)J"⟩ : MethodName)) hown (mvT hZ (hw _ (List.mem_of_getElem? (i := 65) rfl))) (mvT hZ (hw _ (List.mem_of_getElem? (i := 66) rfl))) (mvT hZ (own_selects (y := (⟨"com/example/tributary/tributary/Meter", "clock", "(J)J"⟩ : MethodName)) (by decide) (hw _ (List.mem_of_getElem? (i := 1) rfl)) (hw _ (List.mem_of_getElem? (i := 67) rfl)) (hw _ (List.mem_of_getElem? (i := 66) rfl)))) (Cond.privateMethod_at (mvP hZ (hw _ (List.mem_of_getElem? (i := 67) rfl)) (args := #[]))) (mvT hZ (hw _ (List.mem_of_getElem? (i := 68) rfl))) (by decide) (backOf (W := 0) (rm10 l Z a0 hw [] a1 p2 w h0 n0 Z0 Mwt0 Mwd0) hZ (hw _ (List.mem_of_getElem? (i := 68) rfl)) (hw _ (List.mem_of_getElem? (i := 2) rfl)) (by decide) (by decide)) (g := (mkF m 2 #[.val (.ref a1), .val (.long p2), .second] [(.long p2), (.ref a1)])) rfl (by rw [hml]; rfl) (Steps.refl _) (a := a1) (by rw [e0]; exact q2) q2' (argsL := [(.long p2)]) (rest := []) (lenOf pd_10 rfl) rfl (by show 2 * 0 + _ ≤ _; exact Nat.le_of_eq rfl) (hb hby d9_2) (fun _ _ => ⟨rfl, e0, (by decide : 0 + 0 ≤ _), (by decide : 0 + 0 ≤ _)⟩)
  dsimp only [Pt.U, Pt.locs, Pt.cells, Pt.slots] at X2 l2 y2 z2 st2 hQ2
  subst l2 y2 z2
  obtain ⟨rfl, N2q, eh2⟩ := hQ2
  have C2 : Go p e below T2 (mkF m 5 #[.val (.ref a1), .val (.long p2), .second] [(.long (p2 - w))]) s₁ F0 := fun t k => C1 t (st2.trans k)
  have N2 := Fr.app N0 N2q
  have C3 : Go p e below T2 (mkF m 6 #[.val (.ref a1), .val (.long p2), .second] [(.ref a1), (.long (p2 - w))]) s₁ F0 := fun t k => C2 t (by
    refine XS.aloadN X2.here hx rfl (hb hby d9_5) rfl rfl ?_
    exact k)
  obtain ⟨T4, X4, e4, st4⟩ := getF X2 hx hZ hown (host := "") (Or.inl (hw _ (List.mem_of_getElem? (i := 26) rfl))) Via.refl eh2 Msm0 (g := (mkF m 6 #[.val (.ref a1), .val (.long p2), .second] [(.ref a1), (.long (p2 - w))])) rfl rfl (hb hby d9_6)
  have C4 : Go p e below T4 (mkF m 9 #[.val (.ref a1), .val (.long p2), .second] [(.ref q), (.long (p2 - w))]) s₁ F0 := fun t k => C3 t (st4 t k)
  obtain ⟨cq5, kq5, q5a, q5b, q5c⟩ := isOf hZ e4 Eq0
  obtain ⟨_, _, ⟨T5, L5, k5, n5⟩, -, X5, ⟨Lc5, hQ5, l5, y5, z5⟩, st5⟩ := X4.interfaceBack hx (xi := (⟨"java/util/Deque", "peekLast", "()Ljava/lang/Object;"⟩ : MethodName)) (y := (⟨"java/util/ArrayDeque", "peekLast", "()Ljava/lang/Object;"⟩ : MethodName)) hown (mvT hZ (hw _ (List.mem_of_getElem? (i := 71) rfl))) (mvT hZ (hw _ (List.mem_of_getElem? (i := 72) rfl))) (mvT hZ (hw _ (List.mem_of_getElem? (i := 73) rfl))) (mvT hZ (hw _ (List.mem_of_getElem? (i := 74) rfl))) (mvT hZ (hw _ (List.mem_of_getElem? (i := 75) rfl))) (mvT hZ (hw _ (List.mem_of_getElem? (i := 76) rfl))) (mvT hZ (hw _ (List.mem_of_getElem? (i := 77) rfl))) (mvT hZ (hw _ (List.mem_of_getElem? (i := 38) rfl))) (by decide) (backOf (W := 2) (rm11 l Z a0 hw [] q b ar k h0 n0 Z0 Fe0 Ft0 Ve0) hZ (hw _ (List.mem_of_getElem? (i := 78) rfl)) (hw _ (List.mem_of_getElem? (i := 11) rfl)) (by decide) (by decide)) q5a q5b q5c (g := (mkF m 9 #[.val (.ref a1), .val (.long p2), .second] [(.ref q), (.long (p2 - w))])) rfl (by rw [hml]; rfl) (Steps.refl _) (argsL := []) (rest := [(.long (p2 - w))]) (lenOf pd_11 rfl) rfl (by show 2 * 0 + _ ≤ _; exact Nat.le_of_eq rfl) (hb hby d9_9) (fun _ _ => ⟨rfl, e4, (by decide : 0 + 0 ≤ _), (by decide : 0 + 0 ≤ _)⟩)
  dsimp only [Pt.U, Pt.locs, Pt.cells, Pt.slots] at X5 l5 y5 z5 st5 hQ5
  subst l5 y5 z5
  obtain ⟨rfl, N5q, eh5⟩ := hQ5
  have C5 : Go p e below T5 (mkF m 14 #[.val (.ref a1), .val (.long p2), .second] [(.ref ar), (.long (p2 - w))]) s₁ F0 := fun t k => C4 t (st5.trans k)
  have N5 := Fr.app N2 N5q
  obtain ⟨T6, X6, e6, st6⟩ := castY X5 hx hZ hown (hw _ (List.mem_of_getElem? (i := 85) rfl)) eh5 (Ins.self Ex0) (g := (mkF m 14 #[.val (.ref a1), .val (.long p2), .second] [(.ref ar), (.long (p2 - w))])) rfl rfl (hb hby d9_14)
  have C6 : Go p e below T6 (mkF m 17 #[.val (.ref a1), .val (.long p2), .second] [(.ref ar), (.long (p2 - w))]) s₁ F0 := fun t k => C5 t (st6 t k)
  obtain ⟨cz, Az, qz, Sz, Mz, Hz, Gz⟩ := VA0
  have hin := inb_of (j := (0 : Int32)) Sz ⟨by decide, by decide⟩
  have hat : cz.slots[(0 : Int32).toNatClampNeg]? = some (.long st) := Hz.at hin rfl
  have C7 : Go p e below T6 (mkF m 20 #[.val (.ref a1), .val (.long p2), .second] [(.long ((p2 - w) - st))]) s₁ F0 := fun t k => C6 t (by
    refine XS.iconst X6.here hx rfl (hb hby d9_17) ?_
    show Steps p.tables e below (T6.setTop (mkF m 18 #[.val (.ref a1), .val (.long p2), .second] [(.int (0 : Int32)), (.ref ar), (.long (p2 - w))])) _
    refine X6.laload hx (j := (0 : Int32)) (v := (.long st)) (by rw [e6]; exact Az.1) (State.isArrayOf_alike hZ.alike Az.2.1) Az.2.2 hin hat (g := (mkF m 18 #[.val (.ref a1), .val (.long p2), .second] [(.int (0 : Int32)), (.ref ar), (.long (p2 - w))])) rfl rfl (hb hby d9_18) _ ?_
    show Steps p.tables e below (T6.setTop (mkF m 19 #[.val (.ref a1), .val (.long p2), .second] [(.long st), (.long (p2 - w))])) _
    refine XS.lsub X6.here hx rfl (hb hby d9_19) rfl ?_
    exact k)
  obtain ⟨fs, hr, hrun, hended, hW, hsame⟩ := X6.leave (v := (some (.long ((p2 - w) - st)))) (fun h => by rw [Bd.returns] at h; cases h)
  refine ⟨_, _, pre0 _ (C7 _ ?_), hrun, hended, _, _, rfl, ?_, ⟨_, rfl⟩, hW, hsame.mono (by decide) (by decide)⟩
  · jvm_step X6.here [X6.here.top, hx, (hb hby d9_20), X6.method', Bd.returns, narrow]
    first | (intro acts; rw [hr _ acts rfl rfl rfl]) | rw [hr _ _ rfl rfl rfl]
    exact Steps.refl _
  · show Q9 Z a1 p2 w st q b ar k ka h0 n0 _ T6.heap _
    exact ⟨rfl, N5, e6⟩
theorem pn_0 : plainName "com/example/tributary/tributary/MeterBusyPinLaw" = true := by first | (simp [plainName, overriddenIn]; done) | decide +kernel
theorem pd_0 : parseMethodDescriptor "(JJJJJI)Z" = some ⟨[.long, .long, .long, .long, .long, .int], some .boolean⟩ := by decide +kernel
theorem ef_0 (m : MethodId) (x0 : Int64) (x1 : Int64) (x2 : Int64) (x3 : Int64) (x4 : Int64) (x5 : Int32) : entryFrame m #[(.long x0), (.long x1), (.long x2), (.long x3), (.long x4), (.int x5)] maxLocals = mkF m 0 #[.val (.long x0), .second, .val (.long x1), .second, .val (.long x2), .second, .val (.long x3), .second, .val (.long x4), .second, .val (.int x5), .unset, .unset, .unset, .unset, .unset, .unset, .unset, .unset] [] := by first | (simp [entryFrame, mkF, argsToLocals, Value.category, maxLocals]; done) | rfl
def Q0 (Z : State) (p1 p2 p3 p4 p5 : Int64) (p6 : Int32) (h0 : Heap) (n0 : Nat) (v : Option Value) (h : Heap) (L : List Loc) : Prop := v = some (.int 1) ∧ Fr n0 L
set_option maxRecDepth 65536 in
set_option maxHeartbeats 40000000 in
theorem rm0 (l : Launch) (Z : State) (a0 : Array Value) (hw : ∀ d ∈ tables_1, d.before a0 Z = true) (ws : List Jvm.Cond) (p1 p2 p3 p4 p5 : Int64) (p6 : Int32) (h0 : Heap) (n0 : Nat) (Z0 : n0 ≤ h0.size)  :
    MetFree l x (head1 (Jvm.Cond.code x code maxLocals ret :: ws) room_1) (fun a U => a = #[(.long p1), (.long p2), (.long p3), (.long p4), (.long p5), (.int p6)] ∧ Z.Warmed39 U.vm ∧ U.heap = h0) (fun _ _ _ _ _ => True) (fun _ U o U' => ∃ v L, o = .returned v ∧ Q0 Z p1 p2 p3 p4 p5 p6 h0 n0 v U'.heap L ∧ FrameEnd U o U' L room_1.cells room_1.slots) := by
  refine MetFree.of_bodySF (plainFor_of_name pn_0) hisR ?_
  intro p e s m args below meth c s₁ Bd hml0 hP hK
  obtain ⟨rfl, hZ, hh⟩ := hP
  have hx := Bd.exec
  have hby := Bd.bytes
  have hml : c.maxLocals = 19 := hml0
  have hown : s.vm.findClass "com/example/tributary/tributary/MeterBusyPinLaw" = some m.cls := findClass_of_methodNamed Bd.named
  have hnm := (name_of_methodNamed Bd.named Bd.method).1
  have X0 : Stand p l e room_1 s m #[(.long p1), (.long p2), (.long p3), (.long p4), (.long p5), (.int p6)] below meth c s₁ [] 0 0 := Stand.of_body Bd
  have e0 : s₁.heap = h0 := by rw [← hh, Bd.state]; rfl
  have N0 := Fr.nil n0
  obtain ⟨F0, hF0⟩ : ∃ F0, F0 = entryFrame m #[(.long p1), (.long p2), (.long p3), (.long p4), (.long p5), (.int p6)] maxLocals := ⟨_, rfl⟩
  have C0 : Go p e below s₁ (mkF m 0 #[.val (.long p1), .second, .val (.long p2), .second, .val (.long p3), .second, .val (.long p4), .second, .val (.long p5), .second, .val (.int p6), .unset, .unset, .unset, .unset, .unset, .unset, .unset, .unset] []) s₁ F0 := fun t k => by rw [hF0]; exact castTop (ef_0 m p1 p2 p3 p4 p5 p6) k
  have pre0 : ∀ t, Steps p.tables e below (s₁.setTop F0) t → Steps p.tables e below (s₁.setTop (entryFrame m #[(.long p1), (.long p2), (.long p3), (.long p4), (.long p5), (.int p6)] maxLocals)) t := fun t k => by rw [← hF0]; exact k
  obtain ⟨fa, CF11⟩ : ∃ fa : Int32, Go p e below s₁ (mkF m 14 #[.val (.long p1), .second, .val (.long p2), .second, .val (.long p3), .second, .val (.long p4), .second, .val (.long p5), .second, .val (.int p6), .val (.int fa), .unset, .unset, .unset, .unset, .unset, .unset, .unset] []) s₁ F0 := by
    by_cases c : (p6 &&& 1) = 0
    · skip
      have C1 : Go p e below s₁ (mkF m 14 #[.val (.long p1), .second, .val (.long p2), .second, .val (.long p3), .second, .val (.long p4), .second, .val (.long p5), .second, .val (.int p6), .val (.int (0 : Int32)), .unset, .unset, .unset, .unset, .unset, .unset, .unset] []) s₁ F0 := fun t k => C0 t (by
        refine XS.iload X0.here hx rfl (hb hby at_0) rfl ?_
        show Steps p.tables e below (s₁.setTop (mkF m 2 #[.val (.long p1), .second, .val (.long p2), .second, .val (.long p3), .second, .val (.long p4), .second, .val (.long p5), .second, .val (.int p6), .unset, .unset, .unset, .unset, .unset, .unset, .unset, .unset] [(.int p6)])) _
        refine XS.iconst X0.here hx rfl (hb hby at_2) ?_
        show Steps p.tables e below (s₁.setTop (mkF m 3 #[.val (.long p1), .second, .val (.long p2), .second, .val (.long p3), .second, .val (.long p4), .second, .val (.long p5), .second, .val (.int p6), .unset, .unset, .unset, .unset, .unset, .unset, .unset, .unset] [(.int (1 : Int32)), (.int p6)])) _
        refine XS.iand X0.here hx rfl (hb hby at_3) rfl ?_
        show Steps p.tables e below (s₁.setTop (mkF m 4 #[.val (.long p1), .second, .val (.long p2), .second, .val (.long p3), .second, .val (.long p4), .second, .val (.long p5), .second, .val (.int p6), .unset, .unset, .unset, .unset, .unset, .unset, .unset, .unset] [(.int (p6 &&& (1 : Int32)))])) _
        refine XS.ifYes X0.here hx rfl (pc0 := 4) (pc' := 11) rfl (hb hby at_4) rfl ((if0 _ _).trans (teq c).1) (by decide) (by decide) ?_
        show Steps p.tables e below (s₁.setTop (mkF m 11 #[.val (.long p1), .second, .val (.long p2), .second, .val (.long p3), .second, .val (.long p4), .second, .val (.long p5), .second, .val (.int p6), .unset, .unset, .unset, .unset, .unset, .unset, .unset, .unset] [])) _
        refine XS.iconst X0.here hx rfl (hb hby at_11) ?_
        show Steps p.tables e below (s₁.setTop (mkF m 12 #[.val (.long p1), .second, .val (.long p2), .second, .val (.long p3), .second, .val (.long p4), .second, .val (.long p5), .second, .val (.int p6), .unset, .unset, .unset, .unset, .unset, .unset, .unset, .unset] [(.int (0 : Int32))])) _
        refine XS.istore X0.here hx rfl (hb hby at_12) rfl (l' := #[.val (.long p1), .second, .val (.long p2), .second, .val (.long p3), .second, .val (.long p4), .second, .val (.long p5), .second, .val (.int p6), .val (.int (0 : Int32)), .unset, .unset, .unset, .unset, .unset, .unset, .unset]) rfl ?_
        exact k)
      exact ⟨_, C1⟩
    · skip
      have C2 : Go p e below s₁ (mkF m 14 #[.val (.long p1), .second, .val (.long p2), .second, .val (.long p3), .second, .val (.long p4), .second, .val (.long p5), .second, .val (.int p6), .val (.int (1 : Int32)), .unset, .unset, .unset, .unset, .unset, .unset, .unset] []) s₁ F0 := fun t k => C0 t (by
        refine XS.iload X0.here hx rfl (hb hby at_0) rfl ?_
        show Steps p.tables e below (s₁.setTop (mkF m 2 #[.val (.long p1), .second, .val (.long p2), .second, .val (.long p3), .second, .val (.long p4), .second, .val (.long p5), .second, .val (.int p6), .unset, .unset, .unset, .unset, .unset, .unset, .unset, .unset] [(.int p6)])) _
        refine XS.iconst X0.here hx rfl (hb hby at_2) ?_
        show Steps p.tables e below (s₁.setTop (mkF m 3 #[.val (.long p1), .second, .val (.long p2), .second, .val (.long p3), .second, .val (.long p4), .second, .val (.long p5), .second, .val (.int p6), .unset, .unset, .unset, .unset, .unset, .unset, .unset, .unset] [(.int (1 : Int32)), (.int p6)])) _
        refine XS.iand X0.here hx rfl (hb hby at_3) rfl ?_
        show Steps p.tables e below (s₁.setTop (mkF m 4 #[.val (.long p1), .second, .val (.long p2), .second, .val (.long p3), .second, .val (.long p4), .second, .val (.long p5), .second, .val (.int p6), .unset, .unset, .unset, .unset, .unset, .unset, .unset, .unset] [(.int (p6 &&& (1 : Int32)))])) _
        refine XS.ifNo X0.here hx rfl (hb hby at_4) rfl ((if0 _ _).trans (feq c).1) ?_
        show Steps p.tables e below (s₁.setTop (mkF m 7 #[.val (.long p1), .second, .val (.long p2), .second, .val (.long p3), .second, .val (.long p4), .second, .val (.long p5), .second, .val (.int p6), .unset, .unset, .unset, .unset, .unset, .unset, .unset, .unset] [])) _
        refine XS.iconst X0.here hx rfl (hb hby at_7) ?_
        show Steps p.tables e below (s₁.setTop (mkF m 8 #[.val (.long p1), .second, .val (.long p2), .second, .val (.long p3), .second, .val (.long p4), .second, .val (.long p5), .second, .val (.int p6), .unset, .unset, .unset, .unset, .unset, .unset, .unset, .unset] [(.int (1 : Int32))])) _
        refine XS.goto X0.here hx rfl (pc0 := 8) (pc' := 12) rfl (hb hby at_8) (by decide) (by decide) ?_
        show Steps p.tables e below (s₁.setTop (mkF m 12 #[.val (.long p1), .second, .val (.long p2), .second, .val (.long p3), .second, .val (.long p4), .second, .val (.long p5), .second, .val (.int p6), .unset, .unset, .unset, .unset, .unset, .unset, .unset, .unset] [(.int (1 : Int32))])) _
        refine XS.istore X0.here hx rfl (hb hby at_12) rfl (l' := #[.val (.long p1), .second, .val (.long p2), .second, .val (.long p3), .second, .val (.long p4), .second, .val (.long p5), .second, .val (.int p6), .val (.int (1 : Int32)), .unset, .unset, .unset, .unset, .unset, .unset, .unset]) rfl ?_
        exact k)
      exact ⟨_, C2⟩
  obtain ⟨fb, CF12⟩ : ∃ fb : Int32, Go p e below s₁ (mkF m 28 #[.val (.long p1), .second, .val (.long p2), .second, .val (.long p3), .second, .val (.long p4), .second, .val (.long p5), .second, .val (.int p6), .val (.int fa), .val (.int fb), .unset, .unset, .unset, .unset, .unset, .unset] []) s₁ F0 := by
    by_cases c : (p6 &&& 2) = 0
    · skip
      have C3 : Go p e below s₁ (mkF m 28 #[.val (.long p1), .second, .val (.long p2), .second, .val (.long p3), .second, .val (.long p4), .second, .val (.long p5), .second, .val (.int p6), .val (.int fa), .val (.int (0 : Int32)), .unset, .unset, .unset, .unset, .unset, .unset] []) s₁ F0 := fun t k => CF11 t (by
        refine XS.iload X0.here hx rfl (hb hby at_14) rfl ?_
        show Steps p.tables e below (s₁.setTop (mkF m 16 #[.val (.long p1), .second, .val (.long p2), .second, .val (.long p3), .second, .val (.long p4), .second, .val (.long p5), .second, .val (.int p6), .val (.int fa), .unset, .unset, .unset, .unset, .unset, .unset, .unset] [(.int p6)])) _
        refine XS.iconst X0.here hx rfl (hb hby at_16) ?_
        show Steps p.tables e below (s₁.setTop (mkF m 17 #[.val (.long p1), .second, .val (.long p2), .second, .val (.long p3), .second, .val (.long p4), .second, .val (.long p5), .second, .val (.int p6), .val (.int fa), .unset, .unset, .unset, .unset, .unset, .unset, .unset] [(.int (2 : Int32)), (.int p6)])) _
        refine XS.iand X0.here hx rfl (hb hby at_17) rfl ?_
        show Steps p.tables e below (s₁.setTop (mkF m 18 #[.val (.long p1), .second, .val (.long p2), .second, .val (.long p3), .second, .val (.long p4), .second, .val (.long p5), .second, .val (.int p6), .val (.int fa), .unset, .unset, .unset, .unset, .unset, .unset, .unset] [(.int (p6 &&& (2 : Int32)))])) _
        refine XS.ifYes X0.here hx rfl (pc0 := 18) (pc' := 25) rfl (hb hby at_18) rfl ((if0 _ _).trans (teq c).1) (by decide) (by decide) ?_
        show Steps p.tables e below (s₁.setTop (mkF m 25 #[.val (.long p1), .second, .val (.long p2), .second, .val (.long p3), .second, .val (.long p4), .second, .val (.long p5), .second, .val (.int p6), .val (.int fa), .unset, .unset, .unset, .unset, .unset, .unset, .unset] [])) _
        refine XS.iconst X0.here hx rfl (hb hby at_25) ?_
        show Steps p.tables e below (s₁.setTop (mkF m 26 #[.val (.long p1), .second, .val (.long p2), .second, .val (.long p3), .second, .val (.long p4), .second, .val (.long p5), .second, .val (.int p6), .val (.int fa), .unset, .unset, .unset, .unset, .unset, .unset, .unset] [(.int (0 : Int32))])) _
        refine XS.istore X0.here hx rfl (hb hby at_26) rfl (l' := #[.val (.long p1), .second, .val (.long p2), .second, .val (.long p3), .second, .val (.long p4), .second, .val (.long p5), .second, .val (.int p6), .val (.int fa), .val (.int (0 : Int32)), .unset, .unset, .unset, .unset, .unset, .unset]) rfl ?_
        exact k)
      exact ⟨_, C3⟩
    · skip
      have C4 : Go p e below s₁ (mkF m 28 #[.val (.long p1), .second, .val (.long p2), .second, .val (.long p3), .second, .val (.long p4), .second, .val (.long p5), .second, .val (.int p6), .val (.int fa), .val (.int (1 : Int32)), .unset, .unset, .unset, .unset, .unset, .unset] []) s₁ F0 := fun t k => CF11 t (by
        refine XS.iload X0.here hx rfl (hb hby at_14) rfl ?_
        show Steps p.tables e below (s₁.setTop (mkF m 16 #[.val (.long p1), .second, .val (.long p2), .second, .val (.long p3), .second, .val (.long p4), .second, .val (.long p5), .second, .val (.int p6), .val (.int fa), .unset, .unset, .unset, .unset, .unset, .unset, .unset] [(.int p6)])) _
        refine XS.iconst X0.here hx rfl (hb hby at_16) ?_
        show Steps p.tables e below (s₁.setTop (mkF m 17 #[.val (.long p1), .second, .val (.long p2), .second, .val (.long p3), .second, .val (.long p4), .second, .val (.long p5), .second, .val (.int p6), .val (.int fa), .unset, .unset, .unset, .unset, .unset, .unset, .unset] [(.int (2 : Int32)), (.int p6)])) _
        refine XS.iand X0.here hx rfl (hb hby at_17) rfl ?_
        show Steps p.tables e below (s₁.setTop (mkF m 18 #[.val (.long p1), .second, .val (.long p2), .second, .val (.long p3), .second, .val (.long p4), .second, .val (.long p5), .second, .val (.int p6), .val (.int fa), .unset, .unset, .unset, .unset, .unset, .unset, .unset] [(.int (p6 &&& (2 : Int32)))])) _
        refine XS.ifNo X0.here hx rfl (hb hby at_18) rfl ((if0 _ _).trans (feq c).1) ?_
        show Steps p.tables e below (s₁.setTop (mkF m 21 #[.val (.long p1), .second, .val (.long p2), .second, .val (.long p3), .second, .val (.long p4), .second, .val (.long p5), .second, .val (.int p6), .val (.int fa), .unset, .unset, .unset, .unset, .unset, .unset, .unset] [])) _
        refine XS.iconst X0.here hx rfl (hb hby at_21) ?_
        show Steps p.tables e below (s₁.setTop (mkF m 22 #[.val (.long p1), .second, .val (.long p2), .second, .val (.long p3), .second, .val (.long p4), .second, .val (.long p5), .second, .val (.int p6), .val (.int fa), .unset, .unset, .unset, .unset, .unset, .unset, .unset] [(.int (1 : Int32))])) _
        refine XS.goto X0.here hx rfl (pc0 := 22) (pc' := 26) rfl (hb hby at_22) (by decide) (by decide) ?_
        show Steps p.tables e below (s₁.setTop (mkF m 26 #[.val (.long p1), .second, .val (.long p2), .second, .val (.long p3), .second, .val (.long p4), .second, .val (.long p5), .second, .val (.int p6), .val (.int fa), .unset, .unset, .unset, .unset, .unset, .unset, .unset] [(.int (1 : Int32))])) _
        refine XS.istore X0.here hx rfl (hb hby at_26) rfl (l' := #[.val (.long p1), .second, .val (.long p2), .second, .val (.long p3), .second, .val (.long p4), .second, .val (.long p5), .second, .val (.int p6), .val (.int fa), .val (.int (1 : Int32)), .unset, .unset, .unset, .unset, .unset, .unset]) rfl ?_
        exact k)
      exact ⟨_, C4⟩
  obtain ⟨fc, CF13⟩ : ∃ fc : Int32, Go p e below s₁ (mkF m 42 #[.val (.long p1), .second, .val (.long p2), .second, .val (.long p3), .second, .val (.long p4), .second, .val (.long p5), .second, .val (.int p6), .val (.int fa), .val (.int fb), .val (.int fc), .unset, .unset, .unset, .unset, .unset] []) s₁ F0 := by
    by_cases c : (p6 &&& 4) = 0
    · skip
      have C5 : Go p e below s₁ (mkF m 42 #[.val (.long p1), .second, .val (.long p2), .second, .val (.long p3), .second, .val (.long p4), .second, .val (.long p5), .second, .val (.int p6), .val (.int fa), .val (.int fb), .val (.int (0 : Int32)), .unset, .unset, .unset, .unset, .unset] []) s₁ F0 := fun t k => CF12 t (by
        refine XS.iload X0.here hx rfl (hb hby at_28) rfl ?_
        show Steps p.tables e below (s₁.setTop (mkF m 30 #[.val (.long p1), .second, .val (.long p2), .second, .val (.long p3), .second, .val (.long p4), .second, .val (.long p5), .second, .val (.int p6), .val (.int fa), .val (.int fb), .unset, .unset, .unset, .unset, .unset, .unset] [(.int p6)])) _
        refine XS.iconst X0.here hx rfl (hb hby at_30) ?_
        show Steps p.tables e below (s₁.setTop (mkF m 31 #[.val (.long p1), .second, .val (.long p2), .second, .val (.long p3), .second, .val (.long p4), .second, .val (.long p5), .second, .val (.int p6), .val (.int fa), .val (.int fb), .unset, .unset, .unset, .unset, .unset, .unset] [(.int (4 : Int32)), (.int p6)])) _
        refine XS.iand X0.here hx rfl (hb hby at_31) rfl ?_
        show Steps p.tables e below (s₁.setTop (mkF m 32 #[.val (.long p1), .second, .val (.long p2), .second, .val (.long p3), .second, .val (.long p4), .second, .val (.long p5), .second, .val (.int p6), .val (.int fa), .val (.int fb), .unset, .unset, .unset, .unset, .unset, .unset] [(.int (p6 &&& (4 : Int32)))])) _
        refine XS.ifYes X0.here hx rfl (pc0 := 32) (pc' := 39) rfl (hb hby at_32) rfl ((if0 _ _).trans (teq c).1) (by decide) (by decide) ?_
        show Steps p.tables e below (s₁.setTop (mkF m 39 #[.val (.long p1), .second, .val (.long p2), .second, .val (.long p3), .second, .val (.long p4), .second, .val (.long p5), .second, .val (.int p6), .val (.int fa), .val (.int fb), .unset, .unset, .unset, .unset, .unset, .unset] [])) _
        refine XS.iconst X0.here hx rfl (hb hby at_39) ?_
        show Steps p.tables e below (s₁.setTop (mkF m 40 #[.val (.long p1), .second, .val (.long p2), .second, .val (.long p3), .second, .val (.long p4), .second, .val (.long p5), .second, .val (.int p6), .val (.int fa), .val (.int fb), .unset, .unset, .unset, .unset, .unset, .unset] [(.int (0 : Int32))])) _
        refine XS.istore X0.here hx rfl (hb hby at_40) rfl (l' := #[.val (.long p1), .second, .val (.long p2), .second, .val (.long p3), .second, .val (.long p4), .second, .val (.long p5), .second, .val (.int p6), .val (.int fa), .val (.int fb), .val (.int (0 : Int32)), .unset, .unset, .unset, .unset, .unset]) rfl ?_
        exact k)
      exact ⟨_, C5⟩
    · skip
      have C6 : Go p e below s₁ (mkF m 42 #[.val (.long p1), .second, .val (.long p2), .second, .val (.long p3), .second, .val (.long p4), .second, .val (.long p5), .second, .val (.int p6), .val (.int fa), .val (.int fb), .val (.int (1 : Int32)), .unset, .unset, .unset, .unset, .unset] []) s₁ F0 := fun t k => CF12 t (by
        refine XS.iload X0.here hx rfl (hb hby at_28) rfl ?_
        show Steps p.tables e below (s₁.setTop (mkF m 30 #[.val (.long p1), .second, .val (.long p2), .second, .val (.long p3), .second, .val (.long p4), .second, .val (.long p5), .second, .val (.int p6), .val (.int fa), .val (.int fb), .unset, .unset, .unset, .unset, .unset, .unset] [(.int p6)])) _
        refine XS.iconst X0.here hx rfl (hb hby at_30) ?_
        show Steps p.tables e below (s₁.setTop (mkF m 31 #[.val (.long p1), .second, .val (.long p2), .second, .val (.long p3), .second, .val (.long p4), .second, .val (.long p5), .second, .val (.int p6), .val (.int fa), .val (.int fb), .unset, .unset, .unset, .unset, .unset, .unset] [(.int (4 : Int32)), (.int p6)])) _
        refine XS.iand X0.here hx rfl (hb hby at_31) rfl ?_
        show Steps p.tables e below (s₁.setTop (mkF m 32 #[.val (.long p1), .second, .val (.long p2), .second, .val (.long p3), .second, .val (.long p4), .second, .val (.long p5), .second, .val (.int p6), .val (.int fa), .val (.int fb), .unset, .unset, .unset, .unset, .unset, .unset] [(.int (p6 &&& (4 : Int32)))])) _
        refine XS.ifNo X0.here hx rfl (hb hby at_32) rfl ((if0 _ _).trans (feq c).1) ?_
        show Steps p.tables e below (s₁.setTop (mkF m 35 #[.val (.long p1), .second, .val (.long p2), .second, .val (.long p3), .second, .val (.long p4), .second, .val (.long p5), .second, .val (.int p6), .val (.int fa), .val (.int fb), .unset, .unset, .unset, .unset, .unset, .unset] [])) _
        refine XS.iconst X0.here hx rfl (hb hby at_35) ?_
        show Steps p.tables e below (s₁.setTop (mkF m 36 #[.val (.long p1), .second, .val (.long p2), .second, .val (.long p3), .second, .val (.long p4), .second, .val (.long p5), .second, .val (.int p6), .val (.int fa), .val (.int fb), .unset, .unset, .unset, .unset, .unset, .unset] [(.int (1 : Int32))])) _
        refine XS.goto X0.here hx rfl (pc0 := 36) (pc' := 40) rfl (hb hby at_36) (by decide) (by decide) ?_
        show Steps p.tables e below (s₁.setTop (mkF m 40 #[.val (.long p1), .second, .val (.long p2), .second, .val (.long p3), .second, .val (.long p4), .second, .val (.long p5), .second, .val (.int p6), .val (.int fa), .val (.int fb), .unset, .unset, .unset, .unset, .unset, .unset] [(.int (1 : Int32))])) _
        refine XS.istore X0.here hx rfl (hb hby at_40) rfl (l' := #[.val (.long p1), .second, .val (.long p2), .second, .val (.long p3), .second, .val (.long p4), .second, .val (.long p5), .second, .val (.int p6), .val (.int fa), .val (.int fb), .val (.int (1 : Int32)), .unset, .unset, .unset, .unset, .unset]) rfl ?_
        exact k)
      exact ⟨_, C6⟩
  obtain ⟨T7, h7, X7, e7, E7, A7, D7, -, st7⟩ := newO X0 hx hZ hown (hw _ (List.mem_of_getElem? (i := 0) rfl)) (hw _ (List.mem_of_getElem? (i := 1) rfl)) (hw _ (List.mem_of_getElem? (i := 2) rfl)) e0 (g := (mkF m 42 #[.val (.long p1), .second, .val (.long p2), .second, .val (.long p3), .second, .val (.long p4), .second, .val (.long p5), .second, .val (.int p6), .val (.int fa), .val (.int fb), .val (.int fc), .unset, .unset, .unset, .unset, .unset] [])) rfl (hb hby at_42) (by decide) (by decide)
  obtain ⟨b7, g7⟩ : ∃ z, z = h0.size := ⟨_, rfl⟩
  rw [← g7] at A7 D7 st7
  have C7 : Go p e below T7 (mkF m 45 #[.val (.long p1), .second, .val (.long p2), .second, .val (.long p3), .second, .val (.long p4), .second, .val (.long p5), .second, .val (.int p6), .val (.int fa), .val (.int fb), .val (.int fc), .unset, .unset, .unset, .unset, .unset] [(.ref b7)]) s₁ F0 := fun t k => CF13 t (st7 t k)
  have gm : n0 ≤ b7 := Nat.le_trans Z0 (Nat.le_of_eq g7.symm)
  have Zo : n0 ≤ h7.size := Nat.le_trans Z0 E7.1
  have F_sm : Fld Z h7 b7 "com/example/tributary/tributary/Meter" "samples" "Ljava/util/Deque;" .null := D7 (Or.inr (hw _ (List.mem_of_getElem? (i := 27) rfl))) (ty := (.object "java/util/Deque")) (by decide)
  have F_st : Fld Z h7 b7 "com/example/tributary/tributary/Meter" "start" "J" (.long (0 : Int64)) := D7 (Or.inr (hw _ (List.mem_of_getElem? (i := 29) rfl))) (ty := .long) (by decide)
  have F_wt : Fld Z h7 b7 "com/example/tributary/tributary/Meter" "waiting" "Z" (.int (0 : Int32)) := D7 (Or.inl (hw _ (List.mem_of_getElem? (i := 59) rfl))) (ty := .boolean) (by decide)
  have F_ws : Fld Z h7 b7 "com/example/tributary/tributary/Meter" "waitingSince" "J" (.long (0 : Int64)) := D7 (Or.inl (hw _ (List.mem_of_getElem? (i := 93) rfl))) (ty := .long) (by decide)
  have F_wd : Fld Z h7 b7 "com/example/tributary/tributary/Meter" "waited" "J" (.long (0 : Int64)) := D7 (Or.inl (hw _ (List.mem_of_getElem? (i := 70) rfl))) (ty := .long) (by decide)
  have C8 : Go p e below T7 (mkF m 47 #[.val (.long p1), .second, .val (.long p2), .second, .val (.long p3), .second, .val (.long p4), .second, .val (.long p5), .second, .val (.int p6), .val (.int fa), .val (.int fb), .val (.int fc), .unset, .unset, .unset, .unset, .unset] [(.long p1), (.ref b7), (.ref b7)]) s₁ F0 := fun t k => C7 t (by
    refine XS.dup X7.here hx rfl (hb hby at_45) rfl rfl ?_
    show Steps p.tables e below (T7.setTop (mkF m 46 #[.val (.long p1), .second, .val (.long p2), .second, .val (.long p3), .second, .val (.long p4), .second, .val (.long p5), .second, .val (.int p6), .val (.int fa), .val (.int fb), .val (.int fc), .unset, .unset, .unset, .unset, .unset] [(.ref b7), (.ref b7)])) _
    refine XS.lloadN X7.here hx rfl (hb hby at_46) rfl ?_
    exact k)
  obtain ⟨_, _, ⟨T9, L9, k9, n9⟩, -, X9, ⟨Lc9, hQ9, l9, y9, z9⟩, st9⟩ := X7.specialBack hx (y := (⟨"com/example/tributary/tributary/Meter", "<init>", "(J)V"⟩ : MethodName)) rfl hown (mvT hZ (hw _ (List.mem_of_getElem? (i := 3) rfl))) (mvT hZ (hw _ (List.mem_of_getElem? (i := 4) rfl))) (mvT hZ (hw _ (List.mem_of_getElem? (i := 5) rfl))) (by decide) (backOf (W := 1) (rm1 l Z a0 hw [] b7 p1 .null (.long 0) h7 n0 Zo F_sm F_st F_wt F_ws F_wd A7 gm) hZ (hw _ (List.mem_of_getElem? (i := 5) rfl)) (hw _ (List.mem_of_getElem? (i := 2) rfl)) (by decide) (by decide)) (g := (mkF m 47 #[.val (.long p1), .second, .val (.long p2), .second, .val (.long p3), .second, .val (.long p4), .second, .val (.long p5), .second, .val (.int p6), .val (.int fa), .val (.int fb), .val (.int fc), .unset, .unset, .unset, .unset, .unset] [(.long p1), (.ref b7), (.ref b7)])) rfl (by rw [hml]; rfl) (Steps.refl _) (a := b7) (argsL := [(.long p1)]) (rest := [(.ref b7)]) (lenOf pd_1 rfl) rfl (by show 2 * 0 + _ ≤ _; exact Nat.le_of_eq rfl) (hb hby at_47) (fun _ _ => ⟨rfl, e7, (by decide : 1 + 3 ≤ _), (by decide : 6 + 22 ≤ _)⟩)
  dsimp only [Pt.U, Pt.locs, Pt.cells, Pt.slots] at X9 l9 y9 z9 st9 hQ9
  subst l9 y9 z9
  obtain ⟨dq, be, ar, ke, ka, rfl, N9q, K9, sdq, sbe, sar, Em0, Msm0, Mwt0, Mws0, Mwd0, Eq0, Fe0, Ft0, Ve0, VA0, Ex0⟩ := hQ9
  have C9 : Go p e below T9 (mkF m 50 #[.val (.long p1), .second, .val (.long p2), .second, .val (.long p3), .second, .val (.long p4), .second, .val (.long p5), .second, .val (.int p6), .val (.int fa), .val (.int fb), .val (.int fc), .unset, .unset, .unset, .unset, .unset] [(.ref b7)]) s₁ F0 := fun t k => C8 t (st9.trans k)
  have NN0 := Fr.app N0 N9q
  have ZZ0 : n0 ≤ T9.heap.size := Nat.le_trans Zo K9.1
  have n_dq : dq ≠ b7 := fun z => Nat.lt_irrefl _ (Nat.lt_of_lt_of_le (z ▸ A7.lt) sdq)
  have n_be : be ≠ b7 := fun z => Nat.lt_irrefl _ (Nat.lt_of_lt_of_le (z ▸ A7.lt) sbe)
  have n_ar : ar ≠ b7 := fun z => Nat.lt_irrefl _ (Nat.lt_of_lt_of_le (z ▸ A7.lt) sar)
  have C10 : Go p e below T9 (mkF m 52 #[.val (.long p1), .second, .val (.long p2), .second, .val (.long p3), .second, .val (.long p4), .second, .val (.long p5), .second, .val (.int p6), .val (.int fa), .val (.int fb), .val (.int fc), .val (.ref b7), .unset, .unset, .unset, .unset] []) s₁ F0 := fun t k => C9 t (by
    refine XS.astore X9.here hx rfl (hb hby at_50) rfl rfl (l' := #[.val (.long p1), .second, .val (.long p2), .second, .val (.long p3), .second, .val (.long p4), .second, .val (.long p5), .second, .val (.int p6), .val (.int fa), .val (.int fb), .val (.int fc), .val (.ref b7), .unset, .unset, .unset, .unset]) rfl ?_
    exact k)
  obtain ⟨hh0, ee0⟩ : ∃ z, z = T9.heap := ⟨_, rfl⟩
  rw [← ee0] at Em0 Msm0 Mwt0 Mws0 Mwd0 Eq0 Fe0 Ft0 Ve0 VA0 Ex0 ZZ0
  have eT0 : T9.heap = hh0 := ee0.symm
  have LS0 : Stand p l e room_1 s m #[(.long p1), (.long p2), (.long p3), (.long p4), (.long p5), (.int p6)] below meth c T9 _ 4 28 := X9
  have NS0 := NN0
  have KS0 := Keep.refl hh0 [b7]
  have ES0 := Em0
  have SM0 := Msm0
  have WT0 := Mwt0
  have WS0 := Mws0
  have WD0 := Mwd0
  have xS0 : Int64 := 0
  obtain ⟨TS1, hS1, lS1, xS1, LS1, eS1, NS1, KS1, ES1, SM1, WT1, WS1, WD1, CS1⟩ : ∃ (T' : State) (h' : Heap) (ls : List Loc) (x : Int64), Stand p l e room_1 s m #[(.long p1), (.long p2), (.long p3), (.long p4), (.long p5), (.int p6)] below meth c T' ls 4 28 ∧ T'.heap = h' ∧ Fr n0 ls ∧ Keep hh0 h' [b7] ∧ Exa Z h' b7 "com/example/tributary/tributary/Meter" ∧ Fld Z h' b7 "com/example/tributary/tributary/Meter" "samples" "Ljava/util/Deque;" (.ref dq) ∧ Fld Z h' b7 "com/example/tributary/tributary/Meter" "waiting" "Z" (.int 0) ∧ Fld Z h' b7 "com/example/tributary/tributary/Meter" "waitingSince" "J" (.long x) ∧ Fld Z h' b7 "com/example/tributary/tributary/Meter" "waited" "J" (.long (if fa = 0 then (0 : Int64) else 0 + (p3 - p2))) ∧ Go p e below T' (mkF m 70 #[.val (.long p1), .second, .val (.long p2), .second, .val (.long p3), .second, .val (.long p4), .second, .val (.long p5), .second, .val (.int p6), .val (.int fa), .val (.int fb), .val (.int fc), .val (.ref b7), .unset, .unset, .unset, .unset] []) s₁ F0 := by
    by_cases c : fa = 0
    · have q : (if fa = 0 then (0 : Int64) else 0 + (p3 - p2)) = 0 := if_pos c
      have C11 : Go p e below T9 (mkF m 67 #[.val (.long p1), .second, .val (.long p2), .second, .val (.long p3), .second, .val (.long p4), .second, .val (.long p5), .second, .val (.int p6), .val (.int fa), .val (.int fb), .val (.int fc), .val (.ref b7), .unset, .unset, .unset, .unset] [(.long p3), (.ref b7)]) s₁ F0 := fun t k => C10 t (by
        refine XS.iload LS0.here hx rfl (hb hby at_52) rfl ?_
        show Steps p.tables e below (T9.setTop (mkF m 54 #[.val (.long p1), .second, .val (.long p2), .second, .val (.long p3), .second, .val (.long p4), .second, .val (.long p5), .second, .val (.int p6), .val (.int fa), .val (.int fb), .val (.int fc), .val (.ref b7), .unset, .unset, .unset, .unset] [(.int fa)])) _
        refine XS.ifYes LS0.here hx rfl (pc0 := 54) (pc' := 63) rfl (hb hby at_54) rfl ((if0 _ _).trans (teq c).1) (by decide) (by decide) ?_
        show Steps p.tables e below (T9.setTop (mkF m 63 #[.val (.long p1), .second, .val (.long p2), .second, .val (.long p3), .second, .val (.long p4), .second, .val (.long p5), .second, .val (.int p6), .val (.int fa), .val (.int fb), .val (.int fc), .val (.ref b7), .unset, .unset, .unset, .unset] [])) _
        refine XS.aload LS0.here hx rfl (hb hby at_63) rfl rfl ?_
        show Steps p.tables e below (T9.setTop (mkF m 65 #[.val (.long p1), .second, .val (.long p2), .second, .val (.long p3), .second, .val (.long p4), .second, .val (.long p5), .second, .val (.int p6), .val (.int fa), .val (.int fb), .val (.int fc), .val (.ref b7), .unset, .unset, .unset, .unset] [(.ref b7)])) _
        refine XS.lload LS0.here hx rfl (hb hby at_65) rfl ?_
        exact k)
      have Za : n0 ≤ hh0.size := ZZ0
      obtain ⟨cq12, kq12, q12a, q12b, q12c⟩ := isOf hZ eT0 ES0
      obtain ⟨_, _, ⟨T12, L12, k12, n12⟩, -, X12, ⟨Lc12, hQ12, l12, y12, z12⟩, st12⟩ := LS0.virtualBack hx (y := (⟨"com/example/tributary/tributary/Meter", "busy", "(J)V"⟩ : MethodName)) (z := (⟨"com/example/tributary/tributary/Meter", "busy", "(J)V"⟩ : MethodName)) hown (mvT hZ (hw _ (List.mem_of_getElem? (i := 53) rfl))) (mvT hZ (hw _ (List.mem_of_getElem? (i := 54) rfl))) (notFace_of_selects (args := #[]) (mvT hZ (hw _ (List.mem_of_getElem? (i := 56) rfl)))) (mvT hZ (hw _ (List.mem_of_getElem? (i := 56) rfl))) (mvT hZ (hw _ (List.mem_of_getElem? (i := 55) rfl))) (by decide) (backOf (W := 0) (rm8n l Z a0 hw [] b7 p3 hh0 n0 Za WT0) hZ (hw _ (List.mem_of_getElem? (i := 57) rfl)) (hw _ (List.mem_of_getElem? (i := 2) rfl)) (by decide) (by decide)) q12a q12c (g := (mkF m 67 #[.val (.long p1), .second, .val (.long p2), .second, .val (.long p3), .second, .val (.long p4), .second, .val (.long p5), .second, .val (.int p6), .val (.int fa), .val (.int fb), .val (.int fc), .val (.ref b7), .unset, .unset, .unset, .unset] [(.long p3), (.ref b7)])) rfl (by rw [hml]; rfl) (Steps.refl _) (argsL := [(.long p3)]) (rest := []) (lenOf pd_8 rfl) rfl (by show 2 * 0 + _ ≤ _; exact Nat.le_of_eq rfl) (hb hby at_67) (fun _ _ => ⟨rfl, eT0, (by decide : 4 + 0 ≤ _), (by decide : 28 + 0 ≤ _)⟩)
      dsimp only [Pt.U, Pt.locs, Pt.cells, Pt.slots] at X12 l12 y12 z12 st12 hQ12
      subst l12 y12 z12
      obtain ⟨rfl, N12q, eh12⟩ := hQ12
      have C12 : Go p e below T12 (mkF m 70 #[.val (.long p1), .second, .val (.long p2), .second, .val (.long p3), .second, .val (.long p4), .second, .val (.long p5), .second, .val (.int p6), .val (.int fa), .val (.int fb), .val (.int fc), .val (.ref b7), .unset, .unset, .unset, .unset] []) s₁ F0 := fun t k => C11 t (st12.trans k)
      have N12 := Fr.app NS0 N12q
      rw [q]
      exact ⟨_, hh0, _, _, X12, eh12, N12, KS0, ES0, SM0, WT0, WS0, WD0, C12⟩
    · have q : (if fa = 0 then (0 : Int64) else 0 + (p3 - p2)) = 0 + (p3 - p2) := if_neg c
      have C13 : Go p e below T9 (mkF m 60 #[.val (.long p1), .second, .val (.long p2), .second, .val (.long p3), .second, .val (.long p4), .second, .val (.long p5), .second, .val (.int p6), .val (.int fa), .val (.int fb), .val (.int fc), .val (.ref b7), .unset, .unset, .unset, .unset] [(.long p2), (.ref b7)]) s₁ F0 := fun t k => C10 t (by
        refine XS.iload LS0.here hx rfl (hb hby at_52) rfl ?_
        show Steps p.tables e below (T9.setTop (mkF m 54 #[.val (.long p1), .second, .val (.long p2), .second, .val (.long p3), .second, .val (.long p4), .second, .val (.long p5), .second, .val (.int p6), .val (.int fa), .val (.int fb), .val (.int fc), .val (.ref b7), .unset, .unset, .unset, .unset] [(.int fa)])) _
        refine XS.ifNo LS0.here hx rfl (hb hby at_54) rfl ((if0 _ _).trans (feq c).1) ?_
        show Steps p.tables e below (T9.setTop (mkF m 57 #[.val (.long p1), .second, .val (.long p2), .second, .val (.long p3), .second, .val (.long p4), .second, .val (.long p5), .second, .val (.int p6), .val (.int fa), .val (.int fb), .val (.int fc), .val (.ref b7), .unset, .unset, .unset, .unset] [])) _
        refine XS.aload LS0.here hx rfl (hb hby at_57) rfl rfl ?_
        show Steps p.tables e below (T9.setTop (mkF m 59 #[.val (.long p1), .second, .val (.long p2), .second, .val (.long p3), .second, .val (.long p4), .second, .val (.long p5), .second, .val (.int p6), .val (.int fa), .val (.int fb), .val (.int fc), .val (.ref b7), .unset, .unset, .unset, .unset] [(.ref b7)])) _
        refine XS.lloadN LS0.here hx rfl (hb hby at_59) rfl ?_
        exact k)
      have Za : n0 ≤ hh0.size := Nat.le_trans gm (Nat.le_of_lt ES0.lt)
      obtain ⟨cq14, kq14, q14a, q14b, q14c⟩ := isOf hZ eT0 ES0
      obtain ⟨_, _, ⟨T14, L14, k14, n14⟩, -, X14, ⟨Lc14, hQ14, l14, y14, z14⟩, st14⟩ := LS0.virtualBack hx (y := (⟨"com/example/tributary/tributary/Meter", "idle", "(J)V"⟩ : MethodName)) (z := (⟨"com/example/tributary/tributary/Meter", "idle", "(J)V"⟩ : MethodName)) hown (mvT hZ (hw _ (List.mem_of_getElem? (i := 87) rfl))) (mvT hZ (hw _ (List.mem_of_getElem? (i := 88) rfl))) (notFace_of_selects (args := #[]) (mvT hZ (hw _ (List.mem_of_getElem? (i := 90) rfl)))) (mvT hZ (hw _ (List.mem_of_getElem? (i := 90) rfl))) (mvT hZ (hw _ (List.mem_of_getElem? (i := 89) rfl))) (by decide) (backOf (W := 0) (rm14 l Z a0 hw [] b7 dq p2 0 0 hh0 n0 Za SM0 WT0 WS0 WD0 ES0 gm) hZ (hw _ (List.mem_of_getElem? (i := 91) rfl)) (hw _ (List.mem_of_getElem? (i := 2) rfl)) (by decide) (by decide)) q14a q14c (g := (mkF m 60 #[.val (.long p1), .second, .val (.long p2), .second, .val (.long p3), .second, .val (.long p4), .second, .val (.long p5), .second, .val (.int p6), .val (.int fa), .val (.int fb), .val (.int fc), .val (.ref b7), .unset, .unset, .unset, .unset] [(.long p2), (.ref b7)])) rfl (by rw [hml]; rfl) (Steps.refl _) (argsL := [(.long p2)]) (rest := []) (lenOf pd_14 rfl) rfl (by show 2 * 0 + _ ≤ _; exact Nat.le_of_eq rfl) (hb hby at_60) (fun _ _ => ⟨rfl, eT0, (by decide : 4 + 0 ≤ _), (by decide : 28 + 0 ≤ _)⟩)
      dsimp only [Pt.U, Pt.locs, Pt.cells, Pt.slots] at X14 l14 y14 z14 st14 hQ14
      subst l14 y14 z14
      obtain ⟨rfl, N14q, K14, E14, SM14, WT14, WS14, WD14⟩ := hQ14
      have C14 : Go p e below T14 (mkF m 63 #[.val (.long p1), .second, .val (.long p2), .second, .val (.long p3), .second, .val (.long p4), .second, .val (.long p5), .second, .val (.int p6), .val (.int fa), .val (.int fb), .val (.int fc), .val (.ref b7), .unset, .unset, .unset, .unset] []) s₁ F0 := fun t k => C13 t (st14.trans k)
      have N14 := Fr.app NS0 N14q
      have K14a := KS0.trans K14 (allS (Or.inl (List.mem_of_getElem? (i := 0) rfl)) all0)
      have C15 : Go p e below T14 (mkF m 67 #[.val (.long p1), .second, .val (.long p2), .second, .val (.long p3), .second, .val (.long p4), .second, .val (.long p5), .second, .val (.int p6), .val (.int fa), .val (.int fb), .val (.int fc), .val (.ref b7), .unset, .unset, .unset, .unset] [(.long p3), (.ref b7)]) s₁ F0 := fun t k => C14 t (by
        refine XS.aload X14.here hx rfl (hb hby at_63) rfl rfl ?_
        show Steps p.tables e below (T14.setTop (mkF m 65 #[.val (.long p1), .second, .val (.long p2), .second, .val (.long p3), .second, .val (.long p4), .second, .val (.long p5), .second, .val (.int p6), .val (.int fa), .val (.int fb), .val (.int fc), .val (.ref b7), .unset, .unset, .unset, .unset] [(.ref b7)])) _
        refine XS.lload X14.here hx rfl (hb hby at_65) rfl ?_
        exact k)
      have Zb : n0 ≤ T14.heap.size := Nat.le_trans gm (Nat.le_of_lt E14.lt)
      obtain ⟨cq16, kq16, q16a, q16b, q16c⟩ := isOf hZ rfl E14
      obtain ⟨_, _, ⟨T16, L16, k16, n16⟩, -, X16, ⟨Lc16, hQ16, l16, y16, z16⟩, st16⟩ := X14.virtualBack hx (y := (⟨"com/example/tributary/tributary/Meter", "busy", "(J)V"⟩ : MethodName)) (z := (⟨"com/example/tributary/tributary/Meter", "busy", "(J)V"⟩ : MethodName)) hown (mvT hZ (hw _ (List.mem_of_getElem? (i := 53) rfl))) (mvT hZ (hw _ (List.mem_of_getElem? (i := 54) rfl))) (notFace_of_selects (args := #[]) (mvT hZ (hw _ (List.mem_of_getElem? (i := 56) rfl)))) (mvT hZ (hw _ (List.mem_of_getElem? (i := 56) rfl))) (mvT hZ (hw _ (List.mem_of_getElem? (i := 55) rfl))) (by decide) (backOf (W := 0) (rm8 l Z a0 hw [] b7 dq p3 p2 0 T14.heap n0 Zb SM14 WT14 WS14 WD14 E14 gm) hZ (hw _ (List.mem_of_getElem? (i := 57) rfl)) (hw _ (List.mem_of_getElem? (i := 2) rfl)) (by decide) (by decide)) q16a q16c (g := (mkF m 67 #[.val (.long p1), .second, .val (.long p2), .second, .val (.long p3), .second, .val (.long p4), .second, .val (.long p5), .second, .val (.int p6), .val (.int fa), .val (.int fb), .val (.int fc), .val (.ref b7), .unset, .unset, .unset, .unset] [(.long p3), (.ref b7)])) rfl (by rw [hml]; rfl) (Steps.refl _) (argsL := [(.long p3)]) (rest := []) (lenOf pd_8 rfl) rfl (by show 2 * 0 + _ ≤ _; exact Nat.le_of_eq rfl) (hb hby at_67) (fun _ _ => ⟨rfl, rfl, (by decide : 4 + 0 ≤ _), (by decide : 28 + 0 ≤ _)⟩)
      dsimp only [Pt.U, Pt.locs, Pt.cells, Pt.slots] at X16 l16 y16 z16 st16 hQ16
      subst l16 y16 z16
      obtain ⟨rfl, N16q, K16, E16, SM16, WT16, WS16, WD16⟩ := hQ16
      have C16 : Go p e below T16 (mkF m 70 #[.val (.long p1), .second, .val (.long p2), .second, .val (.long p3), .second, .val (.long p4), .second, .val (.long p5), .second, .val (.int p6), .val (.int fa), .val (.int fb), .val (.int fc), .val (.ref b7), .unset, .unset, .unset, .unset] []) s₁ F0 := fun t k => C15 t (st16.trans k)
      have N16 := Fr.app N14 N16q
      have K16a := K14a.trans K16 (allS (Or.inl (List.mem_of_getElem? (i := 0) rfl)) all0)
      rw [q]
      exact ⟨_, _, _, _, X16, rfl, N16, K16a, E16, SM16, WT16, WS16, WD16, C16⟩
  obtain ⟨TS2, hS2, lS2, xS2, LS2, eS2, NS2, KS2, ES2, SM2, WT2, WS2, WD2, CS2⟩ : ∃ (T' : State) (h' : Heap) (ls : List Loc) (x : Int64), Stand p l e room_1 s m #[(.long p1), (.long p2), (.long p3), (.long p4), (.long p5), (.int p6)] below meth c T' ls 4 28 ∧ T'.heap = h' ∧ Fr n0 ls ∧ Keep hh0 h' [b7] ∧ Exa Z h' b7 "com/example/tributary/tributary/Meter" ∧ Fld Z h' b7 "com/example/tributary/tributary/Meter" "samples" "Ljava/util/Deque;" (.ref dq) ∧ Fld Z h' b7 "com/example/tributary/tributary/Meter" "waiting" "Z" (.int 0) ∧ Fld Z h' b7 "com/example/tributary/tributary/Meter" "waitingSince" "J" (.long x) ∧ Fld Z h' b7 "com/example/tributary/tributary/Meter" "waited" "J" (.long (if fa = 0 then (0 : Int64) else 0 + (p3 - p2))) ∧ Go p e below T' (mkF m 82 #[.val (.long p1), .second, .val (.long p2), .second, .val (.long p3), .second, .val (.long p4), .second, .val (.long p5), .second, .val (.int p6), .val (.int fa), .val (.int fb), .val (.int fc), .val (.ref b7), .unset, .unset, .unset, .unset] []) s₁ F0 := by
    by_cases c : fb = 0
    · skip
      have C17 : Go p e below TS1 (mkF m 82 #[.val (.long p1), .second, .val (.long p2), .second, .val (.long p3), .second, .val (.long p4), .second, .val (.long p5), .second, .val (.int p6), .val (.int fa), .val (.int fb), .val (.int fc), .val (.ref b7), .unset, .unset, .unset, .unset] []) s₁ F0 := fun t k => CS1 t (by
        refine XS.iload LS1.here hx rfl (hb hby at_70) rfl ?_
        show Steps p.tables e below (TS1.setTop (mkF m 72 #[.val (.long p1), .second, .val (.long p2), .second, .val (.long p3), .second, .val (.long p4), .second, .val (.long p5), .second, .val (.int p6), .val (.int fa), .val (.int fb), .val (.int fc), .val (.ref b7), .unset, .unset, .unset, .unset] [(.int fb)])) _
        refine XS.ifYes LS1.here hx rfl (pc0 := 72) (pc' := 82) rfl (hb hby at_72) rfl ((if0 _ _).trans (teq c).1) (by decide) (by decide) ?_
        exact k)
      exact ⟨_, _, _, _, LS1, eS1, NS1, KS1, ES1, SM1, WT1, WS1, WD1, C17⟩
    · skip
      have C18 : Go p e below TS1 (mkF m 79 #[.val (.long p1), .second, .val (.long p2), .second, .val (.long p3), .second, .val (.long p4), .second, .val (.long p5), .second, .val (.int p6), .val (.int fa), .val (.int fb), .val (.int fc), .val (.ref b7), .unset, .unset, .unset, .unset] [(.long p4), (.ref b7)]) s₁ F0 := fun t k => CS1 t (by
        refine XS.iload LS1.here hx rfl (hb hby at_70) rfl ?_
        show Steps p.tables e below (TS1.setTop (mkF m 72 #[.val (.long p1), .second, .val (.long p2), .second, .val (.long p3), .second, .val (.long p4), .second, .val (.long p5), .second, .val (.int p6), .val (.int fa), .val (.int fb), .val (.int fc), .val (.ref b7), .unset, .unset, .unset, .unset] [(.int fb)])) _
        refine XS.ifNo LS1.here hx rfl (hb hby at_72) rfl ((if0 _ _).trans (feq c).1) ?_
        show Steps p.tables e below (TS1.setTop (mkF m 75 #[.val (.long p1), .second, .val (.long p2), .second, .val (.long p3), .second, .val (.long p4), .second, .val (.long p5), .second, .val (.int p6), .val (.int fa), .val (.int fb), .val (.int fc), .val (.ref b7), .unset, .unset, .unset, .unset] [])) _
        refine XS.aload LS1.here hx rfl (hb hby at_75) rfl rfl ?_
        show Steps p.tables e below (TS1.setTop (mkF m 77 #[.val (.long p1), .second, .val (.long p2), .second, .val (.long p3), .second, .val (.long p4), .second, .val (.long p5), .second, .val (.int p6), .val (.int fa), .val (.int fb), .val (.int fc), .val (.ref b7), .unset, .unset, .unset, .unset] [(.ref b7)])) _
        refine XS.lload LS1.here hx rfl (hb hby at_77) rfl ?_
        exact k)
      have Za : n0 ≤ hS1.size := Nat.le_trans gm (Nat.le_of_lt ES1.lt)
      obtain ⟨cq19, kq19, q19a, q19b, q19c⟩ := isOf hZ eS1 ES1
      obtain ⟨_, _, ⟨T19, L19, k19, n19⟩, -, X19, ⟨Lc19, hQ19, l19, y19, z19⟩, st19⟩ := LS1.virtualBack hx (y := (⟨"com/example/tributary/tributary/Meter", "busy", "(J)V"⟩ : MethodName)) (z := (⟨"com/example/tributary/tributary/Meter", "busy", "(J)V"⟩ : MethodName)) hown (mvT hZ (hw _ (List.mem_of_getElem? (i := 53) rfl))) (mvT hZ (hw _ (List.mem_of_getElem? (i := 54) rfl))) (notFace_of_selects (args := #[]) (mvT hZ (hw _ (List.mem_of_getElem? (i := 56) rfl)))) (mvT hZ (hw _ (List.mem_of_getElem? (i := 56) rfl))) (mvT hZ (hw _ (List.mem_of_getElem? (i := 55) rfl))) (by decide) (backOf (W := 0) (rm8n l Z a0 hw [] b7 p4 hS1 n0 Za WT1) hZ (hw _ (List.mem_of_getElem? (i := 57) rfl)) (hw _ (List.mem_of_getElem? (i := 2) rfl)) (by decide) (by decide)) q19a q19c (g := (mkF m 79 #[.val (.long p1), .second, .val (.long p2), .second, .val (.long p3), .second, .val (.long p4), .second, .val (.long p5), .second, .val (.int p6), .val (.int fa), .val (.int fb), .val (.int fc), .val (.ref b7), .unset, .unset, .unset, .unset] [(.long p4), (.ref b7)])) rfl (by rw [hml]; rfl) (Steps.refl _) (argsL := [(.long p4)]) (rest := []) (lenOf pd_8 rfl) rfl (by show 2 * 0 + _ ≤ _; exact Nat.le_of_eq rfl) (hb hby at_79) (fun _ _ => ⟨rfl, eS1, (by decide : 4 + 0 ≤ _), (by decide : 28 + 0 ≤ _)⟩)
      dsimp only [Pt.U, Pt.locs, Pt.cells, Pt.slots] at X19 l19 y19 z19 st19 hQ19
      subst l19 y19 z19
      obtain ⟨rfl, N19q, eh19⟩ := hQ19
      have C19 : Go p e below T19 (mkF m 82 #[.val (.long p1), .second, .val (.long p2), .second, .val (.long p3), .second, .val (.long p4), .second, .val (.long p5), .second, .val (.int p6), .val (.int fa), .val (.int fb), .val (.int fc), .val (.ref b7), .unset, .unset, .unset, .unset] []) s₁ F0 := fun t k => C18 t (st19.trans k)
      exact ⟨_, hS1, _, _, X19, eh19, Fr.app NS1 N19q, KS1, ES1, SM1, WT1, WS1, WD1, C19⟩
  obtain ⟨TS3, hS3, lS3, xS3, LS3, eS3, NS3, KS3, ES3, SM3, WT3, WS3, WD3, CS3⟩ : ∃ (T' : State) (h' : Heap) (ls : List Loc) (x : Int64), Stand p l e room_1 s m #[(.long p1), (.long p2), (.long p3), (.long p4), (.long p5), (.int p6)] below meth c T' ls 4 28 ∧ T'.heap = h' ∧ Fr n0 ls ∧ Keep hh0 h' [b7] ∧ Exa Z h' b7 "com/example/tributary/tributary/Meter" ∧ Fld Z h' b7 "com/example/tributary/tributary/Meter" "samples" "Ljava/util/Deque;" (.ref dq) ∧ Fld Z h' b7 "com/example/tributary/tributary/Meter" "waiting" "Z" (.int 0) ∧ Fld Z h' b7 "com/example/tributary/tributary/Meter" "waitingSince" "J" (.long x) ∧ Fld Z h' b7 "com/example/tributary/tributary/Meter" "waited" "J" (.long (if fc = 0 then (if fa = 0 then (0 : Int64) else 0 + (p3 - p2)) else (if fa = 0 then (0 : Int64) else 0 + (p3 - p2)) + (p3 - p4))) ∧ Go p e below T' (mkF m 101 #[.val (.long p1), .second, .val (.long p2), .second, .val (.long p3), .second, .val (.long p4), .second, .val (.long p5), .second, .val (.int p6), .val (.int fa), .val (.int fb), .val (.int fc), .val (.ref b7), .unset, .unset, .unset, .unset] []) s₁ F0 := by
    by_cases c : fc = 0
    · have q : (if fc = 0 then (if fa = 0 then (0 : Int64) else 0 + (p3 - p2)) else (if fa = 0 then (0 : Int64) else 0 + (p3 - p2)) + (p3 - p4)) = (if fa = 0 then (0 : Int64) else 0 + (p3 - p2)) := if_pos c
      have C20 : Go p e below TS2 (mkF m 101 #[.val (.long p1), .second, .val (.long p2), .second, .val (.long p3), .second, .val (.long p4), .second, .val (.long p5), .second, .val (.int p6), .val (.int fa), .val (.int fb), .val (.int fc), .val (.ref b7), .unset, .unset, .unset, .unset] []) s₁ F0 := fun t k => CS2 t (by
        refine XS.iload LS2.here hx rfl (hb hby at_82) rfl ?_
        show Steps p.tables e below (TS2.setTop (mkF m 84 #[.val (.long p1), .second, .val (.long p2), .second, .val (.long p3), .second, .val (.long p4), .second, .val (.long p5), .second, .val (.int p6), .val (.int fa), .val (.int fb), .val (.int fc), .val (.ref b7), .unset, .unset, .unset, .unset] [(.int fc)])) _
        refine XS.ifYes LS2.here hx rfl (pc0 := 84) (pc' := 101) rfl (hb hby at_84) rfl ((if0 _ _).trans (teq c).1) (by decide) (by decide) ?_
        exact k)
      rw [q]
      exact ⟨_, _, _, _, LS2, eS2, NS2, KS2, ES2, SM2, WT2, WS2, WD2, C20⟩
    · have q : (if fc = 0 then (if fa = 0 then (0 : Int64) else 0 + (p3 - p2)) else (if fa = 0 then (0 : Int64) else 0 + (p3 - p2)) + (p3 - p4)) = (if fa = 0 then (0 : Int64) else 0 + (p3 - p2)) + (p3 - p4) := if_neg c
      have C21 : Go p e below TS2 (mkF m 91 #[.val (.long p1), .second, .val (.long p2), .second, .val (.long p3), .second, .val (.long p4), .second, .val (.long p5), .second, .val (.int p6), .val (.int fa), .val (.int fb), .val (.int fc), .val (.ref b7), .unset, .unset, .unset, .unset] [(.long p4), (.ref b7)]) s₁ F0 := fun t k => CS2 t (by
        refine XS.iload LS2.here hx rfl (hb hby at_82) rfl ?_
        show Steps p.tables e below (TS2.setTop (mkF m 84 #[.val (.long p1), .second, .val (.long p2), .second, .val (.long p3), .second, .val (.long p4), .second, .val (.long p5), .second, .val (.int p6), .val (.int fa), .val (.int fb), .val (.int fc), .val (.ref b7), .unset, .unset, .unset, .unset] [(.int fc)])) _
        refine XS.ifNo LS2.here hx rfl (hb hby at_84) rfl ((if0 _ _).trans (feq c).1) ?_
        show Steps p.tables e below (TS2.setTop (mkF m 87 #[.val (.long p1), .second, .val (.long p2), .second, .val (.long p3), .second, .val (.long p4), .second, .val (.long p5), .second, .val (.int p6), .val (.int fa), .val (.int fb), .val (.int fc), .val (.ref b7), .unset, .unset, .unset, .unset] [])) _
        refine XS.aload LS2.here hx rfl (hb hby at_87) rfl rfl ?_
        show Steps p.tables e below (TS2.setTop (mkF m 89 #[.val (.long p1), .second, .val (.long p2), .second, .val (.long p3), .second, .val (.long p4), .second, .val (.long p5), .second, .val (.int p6), .val (.int fa), .val (.int fb), .val (.int fc), .val (.ref b7), .unset, .unset, .unset, .unset] [(.ref b7)])) _
        refine XS.lload LS2.here hx rfl (hb hby at_89) rfl ?_
        exact k)
      have Za : n0 ≤ hS2.size := Nat.le_trans gm (Nat.le_of_lt ES2.lt)
      obtain ⟨cq22, kq22, q22a, q22b, q22c⟩ := isOf hZ eS2 ES2
      obtain ⟨_, _, ⟨T22, L22, k22, n22⟩, -, X22, ⟨Lc22, hQ22, l22, y22, z22⟩, st22⟩ := LS2.virtualBack hx (y := (⟨"com/example/tributary/tributary/Meter", "idle", "(J)V"⟩ : MethodName)) (z := (⟨"com/example/tributary/tributary/Meter", "idle", "(J)V"⟩ : MethodName)) hown (mvT hZ (hw _ (List.mem_of_getElem? (i := 87) rfl))) (mvT hZ (hw _ (List.mem_of_getElem? (i := 88) rfl))) (notFace_of_selects (args := #[]) (mvT hZ (hw _ (List.mem_of_getElem? (i := 90) rfl)))) (mvT hZ (hw _ (List.mem_of_getElem? (i := 90) rfl))) (mvT hZ (hw _ (List.mem_of_getElem? (i := 89) rfl))) (by decide) (backOf (W := 0) (rm14 l Z a0 hw [] b7 dq p4 xS2 (if fa = 0 then (0 : Int64) else 0 + (p3 - p2)) hS2 n0 Za SM2 WT2 WS2 WD2 ES2 gm) hZ (hw _ (List.mem_of_getElem? (i := 91) rfl)) (hw _ (List.mem_of_getElem? (i := 2) rfl)) (by decide) (by decide)) q22a q22c (g := (mkF m 91 #[.val (.long p1), .second, .val (.long p2), .second, .val (.long p3), .second, .val (.long p4), .second, .val (.long p5), .second, .val (.int p6), .val (.int fa), .val (.int fb), .val (.int fc), .val (.ref b7), .unset, .unset, .unset, .unset] [(.long p4), (.ref b7)])) rfl (by rw [hml]; rfl) (Steps.refl _) (argsL := [(.long p4)]) (rest := []) (lenOf pd_14 rfl) rfl (by show 2 * 0 + _ ≤ _; exact Nat.le_of_eq rfl) (hb hby at_91) (fun _ _ => ⟨rfl, eS2, (by decide : 4 + 0 ≤ _), (by decide : 28 + 0 ≤ _)⟩)
      dsimp only [Pt.U, Pt.locs, Pt.cells, Pt.slots] at X22 l22 y22 z22 st22 hQ22
      subst l22 y22 z22
      obtain ⟨rfl, N22q, K22, E22, SM22, WT22, WS22, WD22⟩ := hQ22
      have C22 : Go p e below T22 (mkF m 94 #[.val (.long p1), .second, .val (.long p2), .second, .val (.long p3), .second, .val (.long p4), .second, .val (.long p5), .second, .val (.int p6), .val (.int fa), .val (.int fb), .val (.int fc), .val (.ref b7), .unset, .unset, .unset, .unset] []) s₁ F0 := fun t k => C21 t (st22.trans k)
      have N22 := Fr.app NS2 N22q
      have K22a := KS2.trans K22 (allS (Or.inl (List.mem_of_getElem? (i := 0) rfl)) all0)
      have C23 : Go p e below T22 (mkF m 98 #[.val (.long p1), .second, .val (.long p2), .second, .val (.long p3), .second, .val (.long p4), .second, .val (.long p5), .second, .val (.int p6), .val (.int fa), .val (.int fb), .val (.int fc), .val (.ref b7), .unset, .unset, .unset, .unset] [(.long p3), (.ref b7)]) s₁ F0 := fun t k => C22 t (by
        refine XS.aload X22.here hx rfl (hb hby at_94) rfl rfl ?_
        show Steps p.tables e below (T22.setTop (mkF m 96 #[.val (.long p1), .second, .val (.long p2), .second, .val (.long p3), .second, .val (.long p4), .second, .val (.long p5), .second, .val (.int p6), .val (.int fa), .val (.int fb), .val (.int fc), .val (.ref b7), .unset, .unset, .unset, .unset] [(.ref b7)])) _
        refine XS.lload X22.here hx rfl (hb hby at_96) rfl ?_
        exact k)
      have Zb : n0 ≤ T22.heap.size := Nat.le_trans gm (Nat.le_of_lt E22.lt)
      obtain ⟨cq24, kq24, q24a, q24b, q24c⟩ := isOf hZ rfl E22
      obtain ⟨_, _, ⟨T24, L24, k24, n24⟩, -, X24, ⟨Lc24, hQ24, l24, y24, z24⟩, st24⟩ := X22.virtualBack hx (y := (⟨"com/example/tributary/tributary/Meter", "busy", "(J)V"⟩ : MethodName)) (z := (⟨"com/example/tributary/tributary/Meter", "busy", "(J)V"⟩ : MethodName)) hown (mvT hZ (hw _ (List.mem_of_getElem? (i := 53) rfl))) (mvT hZ (hw _ (List.mem_of_getElem? (i := 54) rfl))) (notFace_of_selects (args := #[]) (mvT hZ (hw _ (List.mem_of_getElem? (i := 56) rfl)))) (mvT hZ (hw _ (List.mem_of_getElem? (i := 56) rfl))) (mvT hZ (hw _ (List.mem_of_getElem? (i := 55) rfl))) (by decide) (backOf (W := 0) (rm8 l Z a0 hw [] b7 dq p3 p4 (if fa = 0 then (0 : Int64) else 0 + (p3 - p2)) T22.heap n0 Zb SM22 WT22 WS22 WD22 E22 gm) hZ (hw _ (List.mem_of_getElem? (i := 57) rfl)) (hw _ (List.mem_of_getElem? (i := 2) rfl)) (by decide) (by decide)) q24a q24c (g := (mkF m 98 #[.val (.long p1), .second, .val (.long p2), .second, .val (.long p3), .second, .val (.long p4), .second, .val (.long p5), .second, .val (.int p6), .val (.int fa), .val (.int fb), .val (.int fc), .val (.ref b7), .unset, .unset, .unset, .unset] [(.long p3), (.ref b7)])) rfl (by rw [hml]; rfl) (Steps.refl _) (argsL := [(.long p3)]) (rest := []) (lenOf pd_8 rfl) rfl (by show 2 * 0 + _ ≤ _; exact Nat.le_of_eq rfl) (hb hby at_98) (fun _ _ => ⟨rfl, rfl, (by decide : 4 + 0 ≤ _), (by decide : 28 + 0 ≤ _)⟩)
      dsimp only [Pt.U, Pt.locs, Pt.cells, Pt.slots] at X24 l24 y24 z24 st24 hQ24
      subst l24 y24 z24
      obtain ⟨rfl, N24q, K24, E24, SM24, WT24, WS24, WD24⟩ := hQ24
      have C24 : Go p e below T24 (mkF m 101 #[.val (.long p1), .second, .val (.long p2), .second, .val (.long p3), .second, .val (.long p4), .second, .val (.long p5), .second, .val (.int p6), .val (.int fa), .val (.int fb), .val (.int fc), .val (.ref b7), .unset, .unset, .unset, .unset] []) s₁ F0 := fun t k => C23 t (st24.trans k)
      have N24 := Fr.app N22 N24q
      have K24a := K22a.trans K24 (allS (Or.inl (List.mem_of_getElem? (i := 0) rfl)) all0)
      rw [q]
      exact ⟨_, _, _, _, X24, rfl, N24, K24a, E24, SM24, WT24, WS24, WD24, C24⟩
  have C25 : Go p e below TS3 (mkF m 104 #[.val (.long p1), .second, .val (.long p2), .second, .val (.long p3), .second, .val (.long p4), .second, .val (.long p5), .second, .val (.int p6), .val (.int fa), .val (.int fb), .val (.int fc), .val (.ref b7), .val (.long (0 : Int64)), .second, .unset, .unset] []) s₁ F0 := fun t k => CS3 t (by
    refine XS.lconst LS3.here hx rfl (hb hby at_101) ?_
    show Steps p.tables e below (TS3.setTop (mkF m 102 #[.val (.long p1), .second, .val (.long p2), .second, .val (.long p3), .second, .val (.long p4), .second, .val (.long p5), .second, .val (.int p6), .val (.int fa), .val (.int fb), .val (.int fc), .val (.ref b7), .unset, .unset, .unset, .unset] [(.long (0 : Int64))])) _
    refine XS.lstore LS3.here hx rfl (hb hby at_102) rfl (l' := #[.val (.long p1), .second, .val (.long p2), .second, .val (.long p3), .second, .val (.long p4), .second, .val (.long p5), .second, .val (.int p6), .val (.int fa), .val (.int fb), .val (.int fc), .val (.ref b7), .val (.long (0 : Int64)), .second, .unset, .unset]) rfl ?_
    exact k)
  have CW1 : Go p e below TS3 (mkF m 118 #[.val (.long p1), .second, .val (.long p2), .second, .val (.long p3), .second, .val (.long p4), .second, .val (.long p5), .second, .val (.int p6), .val (.int fa), .val (.int fb), .val (.int fc), .val (.ref b7), .val (.long (if fa = 0 then (0 : Int64) else 0 + (p3 - p2))), .second, .unset, .unset] []) s₁ F0 := by
    by_cases c : fa = 0
    · have q : (if fa = 0 then (0 : Int64) else 0 + (p3 - p2)) = (0 : Int64) := if_pos c
      have C26 : Go p e below TS3 (mkF m 118 #[.val (.long p1), .second, .val (.long p2), .second, .val (.long p3), .second, .val (.long p4), .second, .val (.long p5), .second, .val (.int p6), .val (.int fa), .val (.int fb), .val (.int fc), .val (.ref b7), .val (.long (0 : Int64)), .second, .unset, .unset] []) s₁ F0 := fun t k => C25 t (by
        refine XS.iload LS3.here hx rfl (hb hby at_104) rfl ?_
        show Steps p.tables e below (TS3.setTop (mkF m 106 #[.val (.long p1), .second, .val (.long p2), .second, .val (.long p3), .second, .val (.long p4), .second, .val (.long p5), .second, .val (.int p6), .val (.int fa), .val (.int fb), .val (.int fc), .val (.ref b7), .val (.long (0 : Int64)), .second, .unset, .unset] [(.int fa)])) _
        refine XS.ifYes LS3.here hx rfl (pc0 := 106) (pc' := 118) rfl (hb hby at_106) rfl ((if0 _ _).trans (teq c).1) (by decide) (by decide) ?_
        exact k)
      rw [q]
      exact C26
    · have q : (if fa = 0 then (0 : Int64) else 0 + (p3 - p2)) = 0 + (p3 - p2) := if_neg c
      have C27 : Go p e below TS3 (mkF m 118 #[.val (.long p1), .second, .val (.long p2), .second, .val (.long p3), .second, .val (.long p4), .second, .val (.long p5), .second, .val (.int p6), .val (.int fa), .val (.int fb), .val (.int fc), .val (.ref b7), .val (.long ((0 : Int64) + (p3 - p2))), .second, .unset, .unset] []) s₁ F0 := fun t k => C25 t (by
        refine XS.iload LS3.here hx rfl (hb hby at_104) rfl ?_
        show Steps p.tables e below (TS3.setTop (mkF m 106 #[.val (.long p1), .second, .val (.long p2), .second, .val (.long p3), .second, .val (.long p4), .second, .val (.long p5), .second, .val (.int p6), .val (.int fa), .val (.int fb), .val (.int fc), .val (.ref b7), .val (.long (0 : Int64)), .second, .unset, .unset] [(.int fa)])) _
        refine XS.ifNo LS3.here hx rfl (hb hby at_106) rfl ((if0 _ _).trans (feq c).1) ?_
        show Steps p.tables e below (TS3.setTop (mkF m 109 #[.val (.long p1), .second, .val (.long p2), .second, .val (.long p3), .second, .val (.long p4), .second, .val (.long p5), .second, .val (.int p6), .val (.int fa), .val (.int fb), .val (.int fc), .val (.ref b7), .val (.long (0 : Int64)), .second, .unset, .unset] [])) _
        refine XS.lload LS3.here hx rfl (hb hby at_109) rfl ?_
        show Steps p.tables e below (TS3.setTop (mkF m 111 #[.val (.long p1), .second, .val (.long p2), .second, .val (.long p3), .second, .val (.long p4), .second, .val (.long p5), .second, .val (.int p6), .val (.int fa), .val (.int fb), .val (.int fc), .val (.ref b7), .val (.long (0 : Int64)), .second, .unset, .unset] [(.long (0 : Int64))])) _
        refine XS.lload LS3.here hx rfl (hb hby at_111) rfl ?_
        show Steps p.tables e below (TS3.setTop (mkF m 113 #[.val (.long p1), .second, .val (.long p2), .second, .val (.long p3), .second, .val (.long p4), .second, .val (.long p5), .second, .val (.int p6), .val (.int fa), .val (.int fb), .val (.int fc), .val (.ref b7), .val (.long (0 : Int64)), .second, .unset, .unset] [(.long p3), (.long (0 : Int64))])) _
        refine XS.lloadN LS3.here hx rfl (hb hby at_113) rfl ?_
        show Steps p.tables e below (TS3.setTop (mkF m 114 #[.val (.long p1), .second, .val (.long p2), .second, .val (.long p3), .second, .val (.long p4), .second, .val (.long p5), .second, .val (.int p6), .val (.int fa), .val (.int fb), .val (.int fc), .val (.ref b7), .val (.long (0 : Int64)), .second, .unset, .unset] [(.long p2), (.long p3), (.long (0 : Int64))])) _
        refine XS.lsub LS3.here hx rfl (hb hby at_114) rfl ?_
        show Steps p.tables e below (TS3.setTop (mkF m 115 #[.val (.long p1), .second, .val (.long p2), .second, .val (.long p3), .second, .val (.long p4), .second, .val (.long p5), .second, .val (.int p6), .val (.int fa), .val (.int fb), .val (.int fc), .val (.ref b7), .val (.long (0 : Int64)), .second, .unset, .unset] [(.long (p3 - p2)), (.long (0 : Int64))])) _
        refine XS.ladd LS3.here hx rfl (hb hby at_115) rfl ?_
        show Steps p.tables e below (TS3.setTop (mkF m 116 #[.val (.long p1), .second, .val (.long p2), .second, .val (.long p3), .second, .val (.long p4), .second, .val (.long p5), .second, .val (.int p6), .val (.int fa), .val (.int fb), .val (.int fc), .val (.ref b7), .val (.long (0 : Int64)), .second, .unset, .unset] [(.long ((0 : Int64) + (p3 - p2)))])) _
        refine XS.lstore LS3.here hx rfl (hb hby at_116) rfl (l' := #[.val (.long p1), .second, .val (.long p2), .second, .val (.long p3), .second, .val (.long p4), .second, .val (.long p5), .second, .val (.int p6), .val (.int fa), .val (.int fb), .val (.int fc), .val (.ref b7), .val (.long ((0 : Int64) + (p3 - p2))), .second, .unset, .unset]) rfl ?_
        exact k)
      rw [q]
      exact C27
  have CW2 : Go p e below TS3 (mkF m 133 #[.val (.long p1), .second, .val (.long p2), .second, .val (.long p3), .second, .val (.long p4), .second, .val (.long p5), .second, .val (.int p6), .val (.int fa), .val (.int fb), .val (.int fc), .val (.ref b7), .val (.long (if fc = 0 then (if fa = 0 then (0 : Int64) else 0 + (p3 - p2)) else (if fa = 0 then (0 : Int64) else 0 + (p3 - p2)) + (p3 - p4))), .second, .unset, .unset] []) s₁ F0 := by
    by_cases c : fc = 0
    · have q : (if fc = 0 then (if fa = 0 then (0 : Int64) else 0 + (p3 - p2)) else (if fa = 0 then (0 : Int64) else 0 + (p3 - p2)) + (p3 - p4)) = (if fa = 0 then (0 : Int64) else 0 + (p3 - p2)) := if_pos c
      have C28 : Go p e below TS3 (mkF m 133 #[.val (.long p1), .second, .val (.long p2), .second, .val (.long p3), .second, .val (.long p4), .second, .val (.long p5), .second, .val (.int p6), .val (.int fa), .val (.int fb), .val (.int fc), .val (.ref b7), .val (.long (if fa = 0 then (0 : Int64) else 0 + (p3 - p2))), .second, .unset, .unset] []) s₁ F0 := fun t k => CW1 t (by
        refine XS.iload LS3.here hx rfl (hb hby at_118) rfl ?_
        show Steps p.tables e below (TS3.setTop (mkF m 120 #[.val (.long p1), .second, .val (.long p2), .second, .val (.long p3), .second, .val (.long p4), .second, .val (.long p5), .second, .val (.int p6), .val (.int fa), .val (.int fb), .val (.int fc), .val (.ref b7), .val (.long (if fa = 0 then (0 : Int64) else 0 + (p3 - p2))), .second, .unset, .unset] [(.int fc)])) _
        refine XS.ifYes LS3.here hx rfl (pc0 := 120) (pc' := 133) rfl (hb hby at_120) rfl ((if0 _ _).trans (teq c).1) (by decide) (by decide) ?_
        exact k)
      rw [q]
      exact C28
    · have q : (if fc = 0 then (if fa = 0 then (0 : Int64) else 0 + (p3 - p2)) else (if fa = 0 then (0 : Int64) else 0 + (p3 - p2)) + (p3 - p4)) = (if fa = 0 then (0 : Int64) else 0 + (p3 - p2)) + (p3 - p4) := if_neg c
      have C29 : Go p e below TS3 (mkF m 133 #[.val (.long p1), .second, .val (.long p2), .second, .val (.long p3), .second, .val (.long p4), .second, .val (.long p5), .second, .val (.int p6), .val (.int fa), .val (.int fb), .val (.int fc), .val (.ref b7), .val (.long ((if fa = 0 then (0 : Int64) else 0 + (p3 - p2)) + (p3 - p4))), .second, .unset, .unset] []) s₁ F0 := fun t k => CW1 t (by
        refine XS.iload LS3.here hx rfl (hb hby at_118) rfl ?_
        show Steps p.tables e below (TS3.setTop (mkF m 120 #[.val (.long p1), .second, .val (.long p2), .second, .val (.long p3), .second, .val (.long p4), .second, .val (.long p5), .second, .val (.int p6), .val (.int fa), .val (.int fb), .val (.int fc), .val (.ref b7), .val (.long (if fa = 0 then (0 : Int64) else 0 + (p3 - p2))), .second, .unset, .unset] [(.int fc)])) _
        refine XS.ifNo LS3.here hx rfl (hb hby at_120) rfl ((if0 _ _).trans (feq c).1) ?_
        show Steps p.tables e below (TS3.setTop (mkF m 123 #[.val (.long p1), .second, .val (.long p2), .second, .val (.long p3), .second, .val (.long p4), .second, .val (.long p5), .second, .val (.int p6), .val (.int fa), .val (.int fb), .val (.int fc), .val (.ref b7), .val (.long (if fa = 0 then (0 : Int64) else 0 + (p3 - p2))), .second, .unset, .unset] [])) _
        refine XS.lload LS3.here hx rfl (hb hby at_123) rfl ?_
        show Steps p.tables e below (TS3.setTop (mkF m 125 #[.val (.long p1), .second, .val (.long p2), .second, .val (.long p3), .second, .val (.long p4), .second, .val (.long p5), .second, .val (.int p6), .val (.int fa), .val (.int fb), .val (.int fc), .val (.ref b7), .val (.long (if fa = 0 then (0 : Int64) else 0 + (p3 - p2))), .second, .unset, .unset] [(.long (if fa = 0 then (0 : Int64) else 0 + (p3 - p2)))])) _
        refine XS.lload LS3.here hx rfl (hb hby at_125) rfl ?_
        show Steps p.tables e below (TS3.setTop (mkF m 127 #[.val (.long p1), .second, .val (.long p2), .second, .val (.long p3), .second, .val (.long p4), .second, .val (.long p5), .second, .val (.int p6), .val (.int fa), .val (.int fb), .val (.int fc), .val (.ref b7), .val (.long (if fa = 0 then (0 : Int64) else 0 + (p3 - p2))), .second, .unset, .unset] [(.long p3), (.long (if fa = 0 then (0 : Int64) else 0 + (p3 - p2)))])) _
        refine XS.lload LS3.here hx rfl (hb hby at_127) rfl ?_
        show Steps p.tables e below (TS3.setTop (mkF m 129 #[.val (.long p1), .second, .val (.long p2), .second, .val (.long p3), .second, .val (.long p4), .second, .val (.long p5), .second, .val (.int p6), .val (.int fa), .val (.int fb), .val (.int fc), .val (.ref b7), .val (.long (if fa = 0 then (0 : Int64) else 0 + (p3 - p2))), .second, .unset, .unset] [(.long p4), (.long p3), (.long (if fa = 0 then (0 : Int64) else 0 + (p3 - p2)))])) _
        refine XS.lsub LS3.here hx rfl (hb hby at_129) rfl ?_
        show Steps p.tables e below (TS3.setTop (mkF m 130 #[.val (.long p1), .second, .val (.long p2), .second, .val (.long p3), .second, .val (.long p4), .second, .val (.long p5), .second, .val (.int p6), .val (.int fa), .val (.int fb), .val (.int fc), .val (.ref b7), .val (.long (if fa = 0 then (0 : Int64) else 0 + (p3 - p2))), .second, .unset, .unset] [(.long (p3 - p4)), (.long (if fa = 0 then (0 : Int64) else 0 + (p3 - p2)))])) _
        refine XS.ladd LS3.here hx rfl (hb hby at_130) rfl ?_
        show Steps p.tables e below (TS3.setTop (mkF m 131 #[.val (.long p1), .second, .val (.long p2), .second, .val (.long p3), .second, .val (.long p4), .second, .val (.long p5), .second, .val (.int p6), .val (.int fa), .val (.int fb), .val (.int fc), .val (.ref b7), .val (.long (if fa = 0 then (0 : Int64) else 0 + (p3 - p2))), .second, .unset, .unset] [(.long ((if fa = 0 then (0 : Int64) else 0 + (p3 - p2)) + (p3 - p4)))])) _
        refine XS.lstore LS3.here hx rfl (hb hby at_131) rfl (l' := #[.val (.long p1), .second, .val (.long p2), .second, .val (.long p3), .second, .val (.long p4), .second, .val (.long p5), .second, .val (.int p6), .val (.int fa), .val (.int fb), .val (.int fc), .val (.ref b7), .val (.long ((if fa = 0 then (0 : Int64) else 0 + (p3 - p2)) + (p3 - p4))), .second, .unset, .unset]) rfl ?_
        exact k)
      rw [q]
      exact C29
  have C30 : Go p e below TS3 (mkF m 146 #[.val (.long p1), .second, .val (.long p2), .second, .val (.long p3), .second, .val (.long p4), .second, .val (.long p5), .second, .val (.int p6), .val (.int fa), .val (.int fb), .val (.int fc), .val (.ref b7), .val (.long (if fc = 0 then (if fa = 0 then (0 : Int64) else 0 + (p3 - p2)) else (if fa = 0 then (0 : Int64) else 0 + (p3 - p2)) + (p3 - p4))), .second, .val (.long ((p5 - p1) - (if fc = 0 then (if fa = 0 then (0 : Int64) else 0 + (p3 - p2)) else (if fa = 0 then (0 : Int64) else 0 + (p3 - p2)) + (p3 - p4)))), .second] [(.long p5), (.ref b7)]) s₁ F0 := fun t k => CW2 t (by
    refine XS.lload LS3.here hx rfl (hb hby at_133) rfl ?_
    show Steps p.tables e below (TS3.setTop (mkF m 135 #[.val (.long p1), .second, .val (.long p2), .second, .val (.long p3), .second, .val (.long p4), .second, .val (.long p5), .second, .val (.int p6), .val (.int fa), .val (.int fb), .val (.int fc), .val (.ref b7), .val (.long (if fc = 0 then (if fa = 0 then (0 : Int64) else 0 + (p3 - p2)) else (if fa = 0 then (0 : Int64) else 0 + (p3 - p2)) + (p3 - p4))), .second, .unset, .unset] [(.long p5)])) _
    refine XS.lloadN LS3.here hx rfl (hb hby at_135) rfl ?_
    show Steps p.tables e below (TS3.setTop (mkF m 136 #[.val (.long p1), .second, .val (.long p2), .second, .val (.long p3), .second, .val (.long p4), .second, .val (.long p5), .second, .val (.int p6), .val (.int fa), .val (.int fb), .val (.int fc), .val (.ref b7), .val (.long (if fc = 0 then (if fa = 0 then (0 : Int64) else 0 + (p3 - p2)) else (if fa = 0 then (0 : Int64) else 0 + (p3 - p2)) + (p3 - p4))), .second, .unset, .unset] [(.long p1), (.long p5)])) _
    refine XS.lsub LS3.here hx rfl (hb hby at_136) rfl ?_
    show Steps p.tables e below (TS3.setTop (mkF m 137 #[.val (.long p1), .second, .val (.long p2), .second, .val (.long p3), .second, .val (.long p4), .second, .val (.long p5), .second, .val (.int p6), .val (.int fa), .val (.int fb), .val (.int fc), .val (.ref b7), .val (.long (if fc = 0 then (if fa = 0 then (0 : Int64) else 0 + (p3 - p2)) else (if fa = 0 then (0 : Int64) else 0 + (p3 - p2)) + (p3 - p4))), .second, .unset, .unset] [(.long (p5 - p1))])) _
    refine XS.lload LS3.here hx rfl (hb hby at_137) rfl ?_
    show Steps p.tables e below (TS3.setTop (mkF m 139 #[.val (.long p1), .second, .val (.long p2), .second, .val (.long p3), .second, .val (.long p4), .second, .val (.long p5), .second, .val (.int p6), .val (.int fa), .val (.int fb), .val (.int fc), .val (.ref b7), .val (.long (if fc = 0 then (if fa = 0 then (0 : Int64) else 0 + (p3 - p2)) else (if fa = 0 then (0 : Int64) else 0 + (p3 - p2)) + (p3 - p4))), .second, .unset, .unset] [(.long (if fc = 0 then (if fa = 0 then (0 : Int64) else 0 + (p3 - p2)) else (if fa = 0 then (0 : Int64) else 0 + (p3 - p2)) + (p3 - p4))), (.long (p5 - p1))])) _
    refine XS.lsub LS3.here hx rfl (hb hby at_139) rfl ?_
    show Steps p.tables e below (TS3.setTop (mkF m 140 #[.val (.long p1), .second, .val (.long p2), .second, .val (.long p3), .second, .val (.long p4), .second, .val (.long p5), .second, .val (.int p6), .val (.int fa), .val (.int fb), .val (.int fc), .val (.ref b7), .val (.long (if fc = 0 then (if fa = 0 then (0 : Int64) else 0 + (p3 - p2)) else (if fa = 0 then (0 : Int64) else 0 + (p3 - p2)) + (p3 - p4))), .second, .unset, .unset] [(.long ((p5 - p1) - (if fc = 0 then (if fa = 0 then (0 : Int64) else 0 + (p3 - p2)) else (if fa = 0 then (0 : Int64) else 0 + (p3 - p2)) + (p3 - p4))))])) _
    refine XS.lstore LS3.here hx rfl (hb hby at_140) rfl (l' := #[.val (.long p1), .second, .val (.long p2), .second, .val (.long p3), .second, .val (.long p4), .second, .val (.long p5), .second, .val (.int p6), .val (.int fa), .val (.int fb), .val (.int fc), .val (.ref b7), .val (.long (if fc = 0 then (if fa = 0 then (0 : Int64) else 0 + (p3 - p2)) else (if fa = 0 then (0 : Int64) else 0 + (p3 - p2)) + (p3 - p4))), .second, .val (.long ((p5 - p1) - (if fc = 0 then (if fa = 0 then (0 : Int64) else 0 + (p3 - p2)) else (if fa = 0 then (0 : Int64) else 0 + (p3 - p2)) + (p3 - p4)))), .second]) rfl ?_
    show Steps p.tables e below (TS3.setTop (mkF m 142 #[.val (.long p1), .second, .val (.long p2), .second, .val (.long p3), .second, .val (.long p4), .second, .val (.long p5), .second, .val (.int p6), .val (.int fa), .val (.int fb), .val (.int fc), .val (.ref b7), .val (.long (if fc = 0 then (if fa = 0 then (0 : Int64) else 0 + (p3 - p2)) else (if fa = 0 then (0 : Int64) else 0 + (p3 - p2)) + (p3 - p4))), .second, .val (.long ((p5 - p1) - (if fc = 0 then (if fa = 0 then (0 : Int64) else 0 + (p3 - p2)) else (if fa = 0 then (0 : Int64) else 0 + (p3 - p2)) + (p3 - p4)))), .second] [])) _
    refine XS.aload LS3.here hx rfl (hb hby at_142) rfl rfl ?_
    show Steps p.tables e below (TS3.setTop (mkF m 144 #[.val (.long p1), .second, .val (.long p2), .second, .val (.long p3), .second, .val (.long p4), .second, .val (.long p5), .second, .val (.int p6), .val (.int fa), .val (.int fb), .val (.int fc), .val (.ref b7), .val (.long (if fc = 0 then (if fa = 0 then (0 : Int64) else 0 + (p3 - p2)) else (if fa = 0 then (0 : Int64) else 0 + (p3 - p2)) + (p3 - p4))), .second, .val (.long ((p5 - p1) - (if fc = 0 then (if fa = 0 then (0 : Int64) else 0 + (p3 - p2)) else (if fa = 0 then (0 : Int64) else 0 + (p3 - p2)) + (p3 - p4)))), .second] [(.ref b7)])) _
    refine XS.lload LS3.here hx rfl (hb hby at_144) rfl ?_
    exact k)
  have Zc : n0 ≤ hS3.size := Nat.le_trans gm (Nat.le_of_lt ES3.lt)
  obtain ⟨cq31, kq31, q31a, q31b, q31c⟩ := isOf hZ eS3 ES3
  obtain ⟨_, _, ⟨T31, L31, k31, n31⟩, -, X31, ⟨Lc31, hQ31, l31, y31, z31⟩, st31⟩ := LS3.virtualBack hx (y := (⟨"com/example/tributary/tributary/Meter", "silence", "(J)J"⟩ : MethodName)) (z := (⟨"com/example/tributary/tributary/Meter", "silence", "(J)J"⟩ : MethodName)) hown (mvT hZ (hw _ (List.mem_of_getElem? (i := 60) rfl))) (mvT hZ (hw _ (List.mem_of_getElem? (i := 61) rfl))) (notFace_of_selects (args := #[]) (mvT hZ (hw _ (List.mem_of_getElem? (i := 63) rfl)))) (mvT hZ (hw _ (List.mem_of_getElem? (i := 63) rfl))) (mvT hZ (hw _ (List.mem_of_getElem? (i := 62) rfl))) (by decide) (backOf (W := 0) (rm9 l Z a0 hw [] b7 p5 (if fc = 0 then (if fa = 0 then (0 : Int64) else 0 + (p3 - p2)) else (if fa = 0 then (0 : Int64) else 0 + (p3 - p2)) + (p3 - p4)) p1 dq be ar ke ka hS3 n0 Zc WT3 WD3 SM3 ES3 (Eq0.keep KS3) (Fe0.keep KS3 (ninS n_dq nin0)) (Ft0.keep KS3 (ninS n_dq nin0)) (Ve0.keep KS3 (ninS n_be nin0)) (VA0.keep KS3 (ninS n_ar nin0)) (Ex0.keep KS3)) hZ (hw _ (List.mem_of_getElem? (i := 64) rfl)) (hw _ (List.mem_of_getElem? (i := 2) rfl)) (by decide) (by decide)) q31a q31c (g := (mkF m 146 #[.val (.long p1), .second, .val (.long p2), .second, .val (.long p3), .second, .val (.long p4), .second, .val (.long p5), .second, .val (.int p6), .val (.int fa), .val (.int fb), .val (.int fc), .val (.ref b7), .val (.long (if fc = 0 then (if fa = 0 then (0 : Int64) else 0 + (p3 - p2)) else (if fa = 0 then (0 : Int64) else 0 + (p3 - p2)) + (p3 - p4))), .second, .val (.long ((p5 - p1) - (if fc = 0 then (if fa = 0 then (0 : Int64) else 0 + (p3 - p2)) else (if fa = 0 then (0 : Int64) else 0 + (p3 - p2)) + (p3 - p4)))), .second] [(.long p5), (.ref b7)])) rfl (by rw [hml]; rfl) (Steps.refl _) (argsL := [(.long p5)]) (rest := []) (lenOf pd_9 rfl) rfl (by show 2 * 0 + _ ≤ _; exact Nat.le_of_eq rfl) (hb hby at_146) (fun _ _ => ⟨rfl, eS3, (by decide : 4 + 0 ≤ _), (by decide : 28 + 0 ≤ _)⟩)
  dsimp only [Pt.U, Pt.locs, Pt.cells, Pt.slots] at X31 l31 y31 z31 st31 hQ31
  subst l31 y31 z31
  obtain ⟨rfl, N31q, eh31⟩ := hQ31
  have C31 : Go p e below T31 (mkF m 149 #[.val (.long p1), .second, .val (.long p2), .second, .val (.long p3), .second, .val (.long p4), .second, .val (.long p5), .second, .val (.int p6), .val (.int fa), .val (.int fb), .val (.int fc), .val (.ref b7), .val (.long (if fc = 0 then (if fa = 0 then (0 : Int64) else 0 + (p3 - p2)) else (if fa = 0 then (0 : Int64) else 0 + (p3 - p2)) + (p3 - p4))), .second, .val (.long ((p5 - p1) - (if fc = 0 then (if fa = 0 then (0 : Int64) else 0 + (p3 - p2)) else (if fa = 0 then (0 : Int64) else 0 + (p3 - p2)) + (p3 - p4)))), .second] [(.long ((p5 - (if fc = 0 then (if fa = 0 then (0 : Int64) else 0 + (p3 - p2)) else (if fa = 0 then (0 : Int64) else 0 + (p3 - p2)) + (p3 - p4))) - p1))]) s₁ F0 := fun t k => C30 t (st31.trans k)
  have N31 := Fr.app NS3 N31q
  have C32 : Go p e below T31 (mkF m 160 #[.val (.long p1), .second, .val (.long p2), .second, .val (.long p3), .second, .val (.long p4), .second, .val (.long p5), .second, .val (.int p6), .val (.int fa), .val (.int fb), .val (.int fc), .val (.ref b7), .val (.long (if fc = 0 then (if fa = 0 then (0 : Int64) else 0 + (p3 - p2)) else (if fa = 0 then (0 : Int64) else 0 + (p3 - p2)) + (p3 - p4))), .second, .val (.long ((p5 - p1) - (if fc = 0 then (if fa = 0 then (0 : Int64) else 0 + (p3 - p2)) else (if fa = 0 then (0 : Int64) else 0 + (p3 - p2)) + (p3 - p4)))), .second] [(.int (1 : Int32))]) s₁ F0 := fun t k => C31 t (by
    refine XS.lload X31.here hx rfl (hb hby at_149) rfl ?_
    show Steps p.tables e below (T31.setTop (mkF m 151 #[.val (.long p1), .second, .val (.long p2), .second, .val (.long p3), .second, .val (.long p4), .second, .val (.long p5), .second, .val (.int p6), .val (.int fa), .val (.int fb), .val (.int fc), .val (.ref b7), .val (.long (if fc = 0 then (if fa = 0 then (0 : Int64) else 0 + (p3 - p2)) else (if fa = 0 then (0 : Int64) else 0 + (p3 - p2)) + (p3 - p4))), .second, .val (.long ((p5 - p1) - (if fc = 0 then (if fa = 0 then (0 : Int64) else 0 + (p3 - p2)) else (if fa = 0 then (0 : Int64) else 0 + (p3 - p2)) + (p3 - p4)))), .second] [(.long ((p5 - p1) - (if fc = 0 then (if fa = 0 then (0 : Int64) else 0 + (p3 - p2)) else (if fa = 0 then (0 : Int64) else 0 + (p3 - p2)) + (p3 - p4)))), (.long ((p5 - (if fc = 0 then (if fa = 0 then (0 : Int64) else 0 + (p3 - p2)) else (if fa = 0 then (0 : Int64) else 0 + (p3 - p2)) + (p3 - p4))) - p1))])) _
    refine XS.lcmp X31.here hx rfl (hb hby at_151) rfl ?_
    show Steps p.tables e below (T31.setTop (mkF m 152 #[.val (.long p1), .second, .val (.long p2), .second, .val (.long p3), .second, .val (.long p4), .second, .val (.long p5), .second, .val (.int p6), .val (.int fa), .val (.int fb), .val (.int fc), .val (.ref b7), .val (.long (if fc = 0 then (if fa = 0 then (0 : Int64) else 0 + (p3 - p2)) else (if fa = 0 then (0 : Int64) else 0 + (p3 - p2)) + (p3 - p4))), .second, .val (.long ((p5 - p1) - (if fc = 0 then (if fa = 0 then (0 : Int64) else 0 + (p3 - p2)) else (if fa = 0 then (0 : Int64) else 0 + (p3 - p2)) + (p3 - p4)))), .second] [(.int (lcmpW ((p5 - (if fc = 0 then (if fa = 0 then (0 : Int64) else 0 + (p3 - p2)) else (if fa = 0 then (0 : Int64) else 0 + (p3 - p2)) + (p3 - p4))) - p1) ((p5 - p1) - (if fc = 0 then (if fa = 0 then (0 : Int64) else 0 + (p3 - p2)) else (if fa = 0 then (0 : Int64) else 0 + (p3 - p2)) + (p3 - p4)))))])) _
    refine XS.ifNo X31.here hx rfl (hb hby at_152) rfl ((if0 _ _).trans (teq ((lw_eq _ _).mpr (own_sub p5 p1 (if fc = 0 then (if fa = 0 then (0 : Int64) else 0 + (p3 - p2)) else (if fa = 0 then (0 : Int64) else 0 + (p3 - p2)) + (p3 - p4))))).2) ?_
    show Steps p.tables e below (T31.setTop (mkF m 155 #[.val (.long p1), .second, .val (.long p2), .second, .val (.long p3), .second, .val (.long p4), .second, .val (.long p5), .second, .val (.int p6), .val (.int fa), .val (.int fb), .val (.int fc), .val (.ref b7), .val (.long (if fc = 0 then (if fa = 0 then (0 : Int64) else 0 + (p3 - p2)) else (if fa = 0 then (0 : Int64) else 0 + (p3 - p2)) + (p3 - p4))), .second, .val (.long ((p5 - p1) - (if fc = 0 then (if fa = 0 then (0 : Int64) else 0 + (p3 - p2)) else (if fa = 0 then (0 : Int64) else 0 + (p3 - p2)) + (p3 - p4)))), .second] [])) _
    refine XS.iconst X31.here hx rfl (hb hby at_155) ?_
    show Steps p.tables e below (T31.setTop (mkF m 156 #[.val (.long p1), .second, .val (.long p2), .second, .val (.long p3), .second, .val (.long p4), .second, .val (.long p5), .second, .val (.int p6), .val (.int fa), .val (.int fb), .val (.int fc), .val (.ref b7), .val (.long (if fc = 0 then (if fa = 0 then (0 : Int64) else 0 + (p3 - p2)) else (if fa = 0 then (0 : Int64) else 0 + (p3 - p2)) + (p3 - p4))), .second, .val (.long ((p5 - p1) - (if fc = 0 then (if fa = 0 then (0 : Int64) else 0 + (p3 - p2)) else (if fa = 0 then (0 : Int64) else 0 + (p3 - p2)) + (p3 - p4)))), .second] [(.int (1 : Int32))])) _
    refine XS.goto X31.here hx rfl (pc0 := 156) (pc' := 160) rfl (hb hby at_156) (by decide) (by decide) ?_
    exact k)
  obtain ⟨fs, hr, hrun, hended, hW, hsame⟩ := X31.leave (v := (some (.int (nar .boolean (1 : Int32))))) (fun h => by rw [Bd.returns] at h; cases h)
  refine ⟨_, _, pre0 _ (C32 _ ?_), hrun, hended, _, _, rfl, ?_, ⟨_, rfl⟩, hW, hsame.mono (by decide) (by decide)⟩
  · exact retN X31 hx (t := .boolean) Bd.returns (by simp) (hb hby at_160) hr
  · show Q0 Z p1 p2 p3 p4 p5 p6 h0 n0 _ T31.heap _
    exact ⟨rfl, N31⟩
set_option maxRecDepth 65536 in
set_option maxHeartbeats 40000000 in
theorem comes_1 {Post : Tables → Env → Array Value → State → Outcome → State → Prop} (hpost : ∀ tb e args s v u, (limb_1_1.after args s (.returned v) u = true ∧ limb_1_2.after args s (.returned v) u = true ∧ True) → FrameEnd s (.returned v) u (Jvm.fieldLocs frame_1_writes args s ++ Jvm.arrayLocs frame_1_arrays args s ++ Jvm.staticLocs frame_1_statics s) 16 128 → Post tb e args s (.returned v) u) :
    ArmFor flags0 classFile x code maxLocals ret World_1 tables_1 room_1 Calls_1 rest_1 Pre_1 Post := by
  intro l hfl _ _ p e ha hc hk s m args below hf hA hF happ hP
  obtain ⟨hcalls, hrest, hpre⟩ := hP
  obtain ⟨-, -, -, hnamed, -, -, -, hat⟩ := (Spec.applies_iff hf).mp happ
  obtain ⟨hg, hn⟩ := and_e (Cond.before_iff.mp (show (Jvm.Cond.and given_1 narrow_1).before args s = true from hpre))
  obtain ⟨h1, j0⟩ := and_e hg
  obtain ⟨i0, j1⟩ := and_e j0
  obtain ⟨i1, j2⟩ := and_e j1
  obtain ⟨i2, j3⟩ := and_e j2
  obtain ⟨i3, j4⟩ := and_e j3
  obtain ⟨i4, j5⟩ := and_e j4
  have i5 := j5
  obtain ⟨w0, w1, w2, w3, w4, w5, rfl⟩ : ∃ w0 w1 w2 w3 w4 w5 : Value, args = #[w0, w1, w2, w3, w4, w5] := by
    have hs : args.size = 6 := by simpa [Cond.value, given_1] using h1
    obtain ⟨L⟩ := args
    match L, hs with
    | [w0, w1, w2, w3, w4, w5], _ => exact ⟨w0, w1, w2, w3, w4, w5, rfl⟩
  have hw := fun d (hd : d ∈ tables_1) => atoms_spec (ws := Jvm.Cond.code x code maxLocals ret :: tables_1) hat d (List.mem_cons_of_mem _ hd)
  obtain ⟨v0, e0⟩ := isL_v i0
  obtain rfl : w0 = (.long v0) := Option.some.inj e0
  obtain ⟨v1, e1⟩ := isL_v i1
  obtain rfl : w1 = (.long v1) := Option.some.inj e1
  obtain ⟨v2, e2⟩ := isL_v i2
  obtain rfl : w2 = (.long v2) := Option.some.inj e2
  obtain ⟨v3, e3⟩ := isL_v i3
  obtain rfl : w3 = (.long v3) := Option.some.inj e3
  obtain ⟨v4, e4⟩ := isL_v i4
  obtain rfl : w4 = (.long v4) := Option.some.inj e4
  obtain ⟨v5, e5⟩ := is_v i5
  obtain rfl : w5 = (.int v5) := Option.some.inj e5
  obtain ⟨n, o, h1, h2, h3, _, L, rfl, ⟨rfl, N⟩, hq⟩ := rm0 l s _ hw tables_1 v0 v1 v2 v3 v4 v5 s.heap s.heap.size (Nat.le_refl _) p e ha hc hk s m _ below hf ((Spec.applies_iff_loose hf).mp happ).1 ⟨rfl, State.Warmed39.refl s, rfl⟩ trivial
  refine ⟨n, _, h1, h2, h3, hpost _ _ _ _ _ _ ⟨Cond.after_iff.mpr rfl, Cond.after_iff.mpr (eq_i res_at (Term.int_eval (1)) rfl), trivial⟩ ⟨hq.1, hq.2.1, (hq.2.2.sift fun y hy => Or.inr (N y hy)).mono (by decide) (by decide)⟩⟩
theorem main_1_1 : Claimed_1_1 := comes_1 fun _ _ _ _ _ _ h hF => ⟨h.1, hF⟩
theorem main_1_2 : Claimed_1_2 := comes_1 fun _ _ _ _ _ _ h hF => ⟨h.2.1, hF⟩
end Jvm.Pilot.@@N@@
namespace Jvm.Pilot.@@N@@
open Jvm Jvm.ClassFile Sem Op Lib Jvm.Free Jvm.Stand Jvm.Pilot.@@N@@.Jvm.D
/-! MADE BY PROGRAM (witnessworld.py) out of the Statement's table words and the real class files: 19 classes; the members and pool entries that the words name. The judged class is class 1, her method 1. -/
namespace start1
open Jvm.ClassFile
def u (s : String) : CpInfo := .utf8 (stringToUtf16 s)
/-- a pool by its gaps: so many unusable entries, then the entry; so many at the end -/
def gap : Nat → List CpInfo → List CpInfo
  | 0, r => r
  | n + 1, r => .unusable :: gap n r
def poolList (es : List (Nat × CpInfo)) (last : Nat) : List CpInfo := es.foldr (fun e r => gap e.1 (e.2 :: r)) (gap last [])
def pool (es : List (Nat × CpInfo)) (last : Nat) : Array CpInfo := ⟨poolList es last⟩
def fileOf (pool : Array CpInfo) (this : Nat) (attrs : Array Attribute := #[]) (ms : Array MethodInfo := #[]) (fl : Nat := 33) (sup : Nat := 0) (ifs : Array Nat := #[]) (fds : Array FieldInfo := #[]) : ClassFile where
  minorVersion := 0
  majorVersion := 65
  constantPool := pool
  accessFlags := fl
  thisClass := this
  superClass := sup
  interfaces := ifs
  fields := fds
  methods := ms
  attributes := attrs
def plain (name : String) (sup : Option ClassId) : Class where
  name := name
  kind := .ordinary
  loader := none
  accessFlags := 33
  super := sup
  interfaces := #[]
  cf := none
  fields := #[]
  methods := #[]
  instanceTypes := #[]
  staticTypes := #[]
  resolved := #[]
  callSites := []
  init := .initialized
  statics := none
  mirror := none

def pool0 : Array CpInfo := pool [(5, u "<init>"), (0, u "()V"), (1, .class_ 10), (1, u "java/lang/Object")] 113

def k0c0 : Code := { maxStack := 0, maxLocals := 1, code := object_method_1_code, exceptionTable := #[], attributes := #[] }
def k0m0 : Method := { name := "<init>", desc := "()V", sig := { parameters := [], returnType := none }, accessFlags := 1, code := some k0c0 }
/-- java/lang/Object -/
def k0 : Class := { plain "java/lang/Object" none with
  accessFlags := 33
  interfaces := #[]
  cf := some (fileOf pool0 8 #[] #[{ accessFlags := 1, nameIndex := 5, descriptorIndex := 6, attributes := #[] }] 33 0 #[] #[])
  fields := #[]
  methods := #[k0m0]
  instanceTypes := #[]
  staticTypes := #[]
  resolved := Array.replicate 124 none
  statics := none }

def pool1 : Array CpInfo := pool [(2, .class_ 4), (1, u "java/lang/Object"), (0, u "<init>"), (0, u "()V"), (0, .class_ 8), (0, u "com/example/tributary/tributary/Meter"), (0, .methodref 7 10), (0, .nameAndType 5 11), (0, u "(J)V"), (0, .methodref 7 13), (0, .nameAndType 14 11), (0, u "idle"), (0, .methodref 7 16), (0, .nameAndType 17 11), (0, u "busy"), (0, .methodref 7 19), (0, .nameAndType 20 21), (0, u "silence"), (0, u "(J)J"), (0, .class_ 23), (0, u "com/example/tributary/tributary/MeterBusyPinLaw"), (2, u "law"), (0, u "(JJJJJI)Z")] 3

def k1m0 : Method := { name := "<init>", desc := "()V", sig := { parameters := [], returnType := none }, accessFlags := 1, code := none }
def k1c1 : Code := { maxStack := 6, maxLocals := 19, code := code, exceptionTable := #[], attributes := #[] }
def k1m1 : Method := { name := "law", desc := "(JJJJJI)Z", sig := { parameters := [.long, .long, .long, .long, .long, .int], returnType := some .boolean }, accessFlags := 9, code := some k1c1 }
/-- com/example/tributary/tributary/MeterBusyPinLaw -/
def k1 : Class := { plain "com/example/tributary/tributary/MeterBusyPinLaw" (some 0) with
  accessFlags := 49
  interfaces := #[]
  cf := some (fileOf pool1 22 #[] #[{ accessFlags := 1, nameIndex := 5, descriptorIndex := 6, attributes := #[] }, { accessFlags := 9, nameIndex := 26, descriptorIndex := 27, attributes := #[] }] 49 2 #[] #[])
  fields := #[]
  methods := #[k1m0, k1m1]
  instanceTypes := #[]
  staticTypes := #[]
  resolved := Array.replicate 31 none
  statics := none }

def pool2 : Array CpInfo := pool [(1, .methodref 2 3), (0, .class_ 4), (0, .nameAndType 5 6), (0, u "java/lang/Object"), (0, u "<init>"), (0, u "()V"), (0, .class_ 8), (0, u "java/util/ArrayDeque"), (0, .methodref 7 3), (0, .fieldref 11 12), (0, .class_ 13), (0, .nameAndType 14 15), (0, u "com/example/tributary/tributary/Meter"), (0, u "samples"), (0, u "Ljava/util/Deque;"), (0, .fieldref 11 17), (0, .nameAndType 18 19), (0, u "start"), (0, u "J"), (0, .interfaceMethodref 21 22), (0, .class_ 23), (0, .nameAndType 24 25), (0, u "java/util/Deque"), (0, u "add"), (0, u "(Ljava/lang/Object;)Z"), (2, u "busy"), (0, u "(J)V"), (0, .methodref 11 31), (0, .nameAndType 32 33), (0, u "clock"), (0, u "(J)J"), (2, u "delivered"), (11, u "()Ljava/lang/Object;"), (0, .class_ 50), (0, u "[J"), (27, .interfaceMethodref 21 79), (0, .nameAndType 80 48), (0, u "peekLast"), (0, .fieldref 11 82), (0, .nameAndType 83 84), (0, u "waiting"), (0, u "Z"), (0, .fieldref 11 86), (0, .nameAndType 87 19), (0, u "waitingSince"), (0, .fieldref 11 89), (0, .nameAndType 90 19), (0, u "waited"), (3, u "WINDOW"), (9, u "silence"), (0, u "idle")] 2

def k2c0 : Code := { maxStack := 6, maxLocals := 3, code := prog_13_method_1_code, exceptionTable := #[], attributes := #[] }
def k2m0 : Method := { name := "<init>", desc := "(J)V", sig := { parameters := [.long], returnType := none }, accessFlags := 0, code := some k2c0 }
def k2c1 : Code := { maxStack := 4, maxLocals := 3, code := prog_13_method_4_code, exceptionTable := #[], attributes := #[] }
def k2m1 : Method := { name := "silence", desc := "(J)J", sig := { parameters := [.long], returnType := some .long }, accessFlags := 0, code := some k2c1 }
def k2c2 : Code := { maxStack := 3, maxLocals := 3, code := prog_13_method_5_code, exceptionTable := #[], attributes := #[] }
def k2m2 : Method := { name := "idle", desc := "(J)V", sig := { parameters := [.long], returnType := none }, accessFlags := 0, code := some k2c2 }
def k2c3 : Code := { maxStack := 7, maxLocals := 3, code := prog_13_method_6_code, exceptionTable := #[], attributes := #[] }
def k2m3 : Method := { name := "busy", desc := "(J)V", sig := { parameters := [.long], returnType := none }, accessFlags := 0, code := some k2c3 }
def k2c4 : Code := { maxStack := 4, maxLocals := 3, code := prog_13_method_7_code, exceptionTable := #[], attributes := #[] }
def k2m4 : Method := { name := "clock", desc := "(J)J", sig := { parameters := [.long], returnType := some .long }, accessFlags := 2, code := some k2c4 }
/-- com/example/tributary/tributary/Meter -/
def k2 : Class := { plain "com/example/tributary/tributary/Meter" (some 0) with
  accessFlags := 48
  interfaces := #[]
  cf := some (fileOf pool2 11 #[] #[{ accessFlags := 0, nameIndex := 5, descriptorIndex := 29, attributes := #[] }, { accessFlags := 0, nameIndex := 104, descriptorIndex := 33, attributes := #[] }, { accessFlags := 0, nameIndex := 105, descriptorIndex := 29, attributes := #[] }, { accessFlags := 0, nameIndex := 28, descriptorIndex := 29, attributes := #[] }, { accessFlags := 2, nameIndex := 32, descriptorIndex := 33, attributes := #[] }] 48 2 #[] #[{ accessFlags := 26, nameIndex := 94, descriptorIndex := 19, attributes := #[] }, { accessFlags := 18, nameIndex := 14, descriptorIndex := 15, attributes := #[] }, { accessFlags := 18, nameIndex := 18, descriptorIndex := 19, attributes := #[] }, { accessFlags := 2, nameIndex := 36, descriptorIndex := 19, attributes := #[] }, { accessFlags := 2, nameIndex := 90, descriptorIndex := 19, attributes := #[] }, { accessFlags := 2, nameIndex := 83, descriptorIndex := 84, attributes := #[] }, { accessFlags := 2, nameIndex := 87, descriptorIndex := 19, attributes := #[] }])
  fields := #[{ name := "WINDOW", type := .long, accessFlags := 26, slot := 0, constantValue := 0 }, { name := "samples", type := (.object "java/util/Deque"), accessFlags := 18, slot := 0, constantValue := 0 }, { name := "start", type := .long, accessFlags := 18, slot := 1, constantValue := 0 }, { name := "delivered", type := .long, accessFlags := 2, slot := 2, constantValue := 0 }, { name := "waited", type := .long, accessFlags := 2, slot := 3, constantValue := 0 }, { name := "waiting", type := .boolean, accessFlags := 2, slot := 4, constantValue := 0 }, { name := "waitingSince", type := .long, accessFlags := 2, slot := 5, constantValue := 0 }]
  methods := #[k2m0, k2m1, k2m2, k2m3, k2m4]
  instanceTypes := #[(.object "java/util/Deque"), .long, .long, .long, .boolean, .long]
  staticTypes := #[.long]
  resolved := Array.replicate 108 none
  statics := none }

def pool3 : Array CpInfo := pool [(8, .class_ 10), (1, u "java/lang/Iterable"), (24, .class_ 36), (0, u "java/lang/Object")] 25

/-- java/lang/Iterable -/
def k3 : Class := { plain "java/lang/Iterable" (some 0) with
  accessFlags := 1537
  interfaces := #[]
  cf := some (fileOf pool3 8 #[] #[] 1537 35 #[] #[])
  fields := #[]
  methods := #[]
  instanceTypes := #[]
  staticTypes := #[]
  resolved := Array.replicate 62 none
  statics := none }

def pool4 : Array CpInfo := pool [(10, .class_ 12), (1, u "java/util/Collection"), (47, .class_ 61), (0, u "java/lang/Object"), (0, .class_ 63), (0, u "java/lang/Iterable")] 51

/-- java/util/Collection -/
def k4 : Class := { plain "java/util/Collection" (some 0) with
  accessFlags := 1537
  interfaces := #[3]
  cf := some (fileOf pool4 10 #[] #[] 1537 60 #[62] #[])
  fields := #[]
  methods := #[]
  instanceTypes := #[]
  staticTypes := #[]
  resolved := Array.replicate 115 none
  statics := none }

def pool5 : Array CpInfo := pool [(1, .methodref 2 3), (0, .class_ 4), (0, .nameAndType 5 6), (0, u "java/lang/Object"), (0, u "<init>"), (0, u "()V"), (1, .class_ 10), (1, u "java/util/AbstractCollection"), (66, .class_ 78), (0, u "java/util/Collection")] 81

def k5c0 : Code := { maxStack := 1, maxLocals := 1, code := jdk_22_method_1_code, exceptionTable := #[], attributes := #[] }
def k5m0 : Method := { name := "<init>", desc := "()V", sig := { parameters := [], returnType := none }, accessFlags := 4, code := some k5c0 }
/-- java/util/AbstractCollection -/
def k5 : Class := { plain "java/util/AbstractCollection" (some 0) with
  accessFlags := 1057
  interfaces := #[4]
  cf := some (fileOf pool5 8 #[] #[{ accessFlags := 4, nameIndex := 5, descriptorIndex := 6, attributes := #[] }] 1057 2 #[77] #[])
  fields := #[]
  methods := #[k5m0]
  instanceTypes := #[]
  staticTypes := #[]
  resolved := Array.replicate 160 none
  statics := none }

def pool6 : Array CpInfo := pool [(1, .class_ 2), (0, u "java/util/Queue"), (0, .class_ 4), (0, u "java/lang/Object"), (0, .class_ 6), (0, u "java/util/Collection")] 14

/-- java/util/Queue -/
def k6 : Class := { plain "java/util/Queue" (some 0) with
  accessFlags := 1537
  interfaces := #[4]
  cf := some (fileOf pool6 1 #[] #[] 1537 3 #[5] #[])
  fields := #[]
  methods := #[]
  instanceTypes := #[]
  staticTypes := #[]
  resolved := Array.replicate 21 none
  statics := none }

def pool7 : Array CpInfo := pool [(8, .class_ 10), (1, u "java/util/SequencedCollection"), (15, .class_ 27), (0, u "java/lang/Object"), (0, .class_ 29), (0, u "java/util/Collection")] 27

/-- java/util/SequencedCollection -/
def k7 : Class := { plain "java/util/SequencedCollection" (some 0) with
  accessFlags := 1537
  interfaces := #[4]
  cf := some (fileOf pool7 8 #[] #[] 1537 26 #[28] #[])
  fields := #[]
  methods := #[]
  instanceTypes := #[]
  staticTypes := #[]
  resolved := Array.replicate 57 none
  statics := none }

def pool8 : Array CpInfo := pool [(8, .class_ 10), (1, u "java/util/Deque"), (2, .class_ 14), (0, u "java/lang/Object"), (0, .class_ 16), (0, u "java/util/Queue"), (0, .class_ 18), (0, u "java/util/SequencedCollection"), (6, u "(Ljava/lang/Object;)Z"), (3, u "()Ljava/lang/Object;"), (7, u "peekLast"), (2, u "add")] 29

def k8m0 : Method := { name := "peekLast", desc := "()Ljava/lang/Object;", sig := { parameters := [], returnType := some (.object "java/lang/Object") }, accessFlags := 1025, code := none }
def k8m1 : Method := { name := "add", desc := "(Ljava/lang/Object;)Z", sig := { parameters := [(.object "java/lang/Object")], returnType := some .boolean }, accessFlags := 1025, code := none }
/-- java/util/Deque -/
def k8 : Class := { plain "java/util/Deque" (some 0) with
  accessFlags := 1537
  interfaces := #[6, 7]
  cf := some (fileOf pool8 8 #[] #[{ accessFlags := 1025, nameIndex := 37, descriptorIndex := 29, attributes := #[] }, { accessFlags := 1025, nameIndex := 40, descriptorIndex := 25, attributes := #[] }] 1537 13 #[15, 17] #[])
  fields := #[]
  methods := #[k8m0, k8m1]
  instanceTypes := #[]
  staticTypes := #[]
  resolved := Array.replicate 70 none
  statics := none }

def pool9 : Array CpInfo := pool [(1, .class_ 2), (0, u "java/lang/Cloneable"), (0, .class_ 4), (0, u "java/lang/Object")] 2

/-- java/lang/Cloneable -/
def k9 : Class := { plain "java/lang/Cloneable" (some 0) with
  accessFlags := 1537
  interfaces := #[]
  cf := some (fileOf pool9 1 #[] #[] 1537 3 #[] #[])
  fields := #[]
  methods := #[]
  instanceTypes := #[]
  staticTypes := #[]
  resolved := Array.replicate 7 none
  statics := none }

def pool10 : Array CpInfo := pool [(1, .class_ 2), (0, u "java/io/Serializable"), (0, .class_ 4), (0, u "java/lang/Object")] 2

/-- java/io/Serializable -/
def k10 : Class := { plain "java/io/Serializable" (some 0) with
  accessFlags := 1537
  interfaces := #[]
  cf := some (fileOf pool10 1 #[] #[] 1537 3 #[] #[])
  fields := #[]
  methods := #[]
  instanceTypes := #[]
  staticTypes := #[]
  resolved := Array.replicate 7 none
  statics := none }

def pool11 : Array CpInfo := pool [(3, .fieldref 4 5), (0, .class_ 6), (0, .nameAndType 7 8), (0, u "java/util/ArrayDeque"), (0, u "elements"), (0, u "[Ljava/lang/Object;"), (4, u "(II)I"), (6, .fieldref 4 21), (0, .nameAndType 22 23), (0, u "tail"), (0, u "I"), (0, .fieldref 4 25), (0, .nameAndType 26 23), (0, u "head"), (12, u "<init>"), (2, .methodref 43 44), (0, .class_ 45), (0, .nameAndType 39 46), (0, u "java/util/AbstractCollection"), (0, u "()V"), (0, .class_ 48), (0, u "java/lang/Object"), (19, .methodref 4 69), (0, .nameAndType 70 13), (0, u "dec"), (3, .methodref 4 75), (0, .nameAndType 76 13), (0, u "inc"), (12, u "(Ljava/lang/Object;)V"), (0, .methodref 4 91), (0, .nameAndType 92 89), (0, u "addLast"), (3, u "()Ljava/lang/Object;"), (6, .methodref 4 104), (0, .nameAndType 105 106), (0, u "elementAt"), (0, u "([Ljava/lang/Object;I)Ljava/lang/Object;"), (3, u "(Ljava/lang/Object;)Z"), (20, .class_ 132), (0, u "java/util/ArrayDeque$DeqIterator"), (3, .class_ 137), (0, u "java/util/ArrayDeque$DescendingIterator"), (1, .class_ 140), (0, u "java/util/ArrayDeque$DeqSpliterator"), (137, .class_ 279), (0, u "java/util/Deque"), (0, .class_ 281), (0, u "java/lang/Cloneable"), (0, .class_ 283), (0, u "java/io/Serializable"), (0, u "MAX_ARRAY_SIZE"), (1, u "serialVersionUID"), (0, u "J"), (44, u "peekLast"), (3, u "add")] 101

def k11c0 : Code := { maxStack := 2, maxLocals := 1, code := jdk_21_method_3_code, exceptionTable := #[], attributes := #[] }
def k11m0 : Method := { name := "<init>", desc := "()V", sig := { parameters := [], returnType := none }, accessFlags := 1, code := some k11c0 }
def k11c1 : Code := { maxStack := 2, maxLocals := 2, code := jdk_21_method_6_code, exceptionTable := #[], attributes := #[] }
def k11m1 : Method := { name := "inc", desc := "(II)I", sig := { parameters := [.int, .int], returnType := some .int }, accessFlags := 24, code := some k11c1 }
def k11c2 : Code := { maxStack := 2, maxLocals := 2, code := jdk_21_method_7_code, exceptionTable := #[], attributes := #[] }
def k11m2 : Method := { name := "dec", desc := "(II)I", sig := { parameters := [.int, .int], returnType := some .int }, accessFlags := 24, code := some k11c2 }
def k11c3 : Code := { maxStack := 2, maxLocals := 2, code := jdk_21_method_10_code, exceptionTable := #[], attributes := #[] }
def k11m3 : Method := { name := "elementAt", desc := "([Ljava/lang/Object;I)Ljava/lang/Object;", sig := { parameters := [(.array (.object "java/lang/Object")), .int], returnType := some (.object "java/lang/Object") }, accessFlags := 24, code := some k11c3 }
def k11c4 : Code := { maxStack := 4, maxLocals := 3, code := jdk_21_method_13_code, exceptionTable := #[], attributes := #[] }
def k11m4 : Method := { name := "addLast", desc := "(Ljava/lang/Object;)V", sig := { parameters := [(.object "java/lang/Object")], returnType := none }, accessFlags := 1, code := some k11c4 }
def k11c5 : Code := { maxStack := 3, maxLocals := 2, code := jdk_21_method_25_code, exceptionTable := #[], attributes := #[] }
def k11m5 : Method := { name := "peekLast", desc := "()Ljava/lang/Object;", sig := { parameters := [], returnType := some (.object "java/lang/Object") }, accessFlags := 1, code := some k11c5 }
def k11c6 : Code := { maxStack := 2, maxLocals := 2, code := jdk_21_method_28_code, exceptionTable := #[], attributes := #[] }
def k11m6 : Method := { name := "add", desc := "(Ljava/lang/Object;)Z", sig := { parameters := [(.object "java/lang/Object")], returnType := some .boolean }, accessFlags := 1, code := some k11c6 }
/-- java/util/ArrayDeque -/
def k11 : Class := { plain "java/util/ArrayDeque" (some 5) with
  accessFlags := 33
  interfaces := #[8, 9, 10]
  cf := some (fileOf pool11 4 #[.nestMembers #[139, 136, 131]] #[{ accessFlags := 1, nameIndex := 39, descriptorIndex := 46, attributes := #[] }, { accessFlags := 24, nameIndex := 76, descriptorIndex := 13, attributes := #[] }, { accessFlags := 24, nameIndex := 70, descriptorIndex := 13, attributes := #[] }, { accessFlags := 24, nameIndex := 105, descriptorIndex := 106, attributes := #[] }, { accessFlags := 1, nameIndex := 92, descriptorIndex := 89, attributes := #[] }, { accessFlags := 1, nameIndex := 332, descriptorIndex := 96, attributes := #[] }, { accessFlags := 1, nameIndex := 336, descriptorIndex := 110, attributes := #[] }] 33 43 #[278, 280, 282] #[{ accessFlags := 128, nameIndex := 7, descriptorIndex := 8, attributes := #[] }, { accessFlags := 128, nameIndex := 26, descriptorIndex := 23, attributes := #[] }, { accessFlags := 128, nameIndex := 22, descriptorIndex := 23, attributes := #[] }, { accessFlags := 26, nameIndex := 284, descriptorIndex := 23, attributes := #[] }, { accessFlags := 26, nameIndex := 286, descriptorIndex := 287, attributes := #[] }])
  fields := #[{ name := "elements", type := (.array (.object "java/lang/Object")), accessFlags := 128, slot := 0, constantValue := 0 }, { name := "head", type := .int, accessFlags := 128, slot := 1, constantValue := 0 }, { name := "tail", type := .int, accessFlags := 128, slot := 2, constantValue := 0 }, { name := "MAX_ARRAY_SIZE", type := .int, accessFlags := 26, slot := 0, constantValue := 0 }, { name := "serialVersionUID", type := .long, accessFlags := 26, slot := 1, constantValue := 0 }]
  methods := #[k11m0, k11m1, k11m2, k11m3, k11m4, k11m5, k11m6]
  instanceTypes := #[(.array (.object "java/lang/Object")), .int, .int]
  staticTypes := #[.int, .long]
  resolved := Array.replicate 438 none
  statics := none }

/-- the primitive byte -/
def k12 : Class := { plain "byte" none with kind := .primitive 'B', accessFlags := 0x411 }
/-- [B -/
def k13 : Class := { plain "[B" (some 0) with kind := .array 12 .byte, interfaces := #[9, 10], accessFlags := 1041 }

/-- the primitive int -/
def k14 : Class := { plain "int" none with kind := .primitive 'I', accessFlags := 0x411 }
/-- [I -/
def k15 : Class := { plain "[I" (some 0) with kind := .array 14 .int, interfaces := #[9, 10], accessFlags := 1041 }

/-- the primitive long -/
def k16 : Class := { plain "long" none with kind := .primitive 'J', accessFlags := 0x411 }
/-- [J -/
def k17 : Class := { plain "[J" (some 0) with kind := .array 16 .long, interfaces := #[9, 10], accessFlags := 1041 }

/-- [Ljava/lang/Object; -/
def k18 : Class := { plain "[Ljava/lang/Object;" (some 0) with kind := .array 0 (.object "java/lang/Object"), interfaces := #[9, 10], accessFlags := 1041 }

def heap : Heap := #[]
def classes : Array Class := #[k0, k1, k2, k3, k4, k5, k6, k7, k8, k9, k10, k11, k12, k13, k14, k15, k16, k17, k18]
def interned : List (Array UInt16 × Addr) := []
def slotsUsed : Nat := 0
def theMethod : MethodId := ⟨1, 1⟩
def args0 : Array Value := #[.long 1, .long 2, .long 3, .long 4, .long 5, .int 5]
def aboutOver (below : List Frame) : State where
  vm := { classes := classes, interned := interned.toArray }
  heap := heap
  slotsUsed := slotsUsed
  threads := #[{ frames := .invoking theMethod args0 :: below }]
def below0 : List Frame := [.native { method := ⟨0, 0⟩, args := #[] }]
def about1 : State := aboutOver below0
def p0 : Program := .bare "" "" ""
def e0 : Env := launch0.env 0 0 0
theorem w_frames : about1.frames = Frame.invoking theMethod args0 :: below0 := rfl
set_option maxRecDepth 65536 in
theorem w_args : argsFit about1.vm theMethod args0 = true := by decide +kernel
set_option maxRecDepth 65536 in
theorem w_heap : heapFits about1 = true := by decide +kernel
set_option maxRecDepth 65536 in
theorem w_runnable : about1.curStatus? = some .runnable := by decide +kernel
set_option maxRecDepth 65536 in
theorem w_alone : about1.alone = true := by decide +kernel
set_option maxRecDepth 65536 in
theorem w_named : about1.methodNamed? x = some theMethod := by decide +kernel
set_option maxRecDepth 65536 in
theorem w_hears : about1.hears theMethod below0 = true := by decide +kernel
set_option maxRecDepth 65536 in
theorem w_ripe : about1.ripe theMethod args0 below0 = true := by decide +kernel
theorem w_running : about1.status = .running := rfl
set_option maxRecDepth 65536 in
theorem w_room : about1.hasRoom e0.platform room_1 = true :=
  launch0.hasRoom_least _ room_1 (by decide +kernel) (by decide +kernel) (by decide +kernel) (by decide +kernel) (by decide +kernel) (by decide +kernel)
theorem allAtoms_all (ts : List Jvm.Cond) (a : Array Jvm.Value) (st : Jvm.State) : (allAtoms ts).before a st = ts.all (fun c => c.before a st) := by
  induction ts with
  | nil => rfl
  | cons c t ih =>
    show (Jvm.Cond.and c (allAtoms t)).before a st = _
    rw [Jvm.Cond.before_and, ih, List.all_cons]
def words1 : List Jvm.Cond := Jvm.Cond.code x code maxLocals ret :: tables_1
/-- a 'code' word, met by the world's own term for the bytes: nothing is compared byte by byte -/
theorem code_word {y : MethodName} {bytes : ByteArray} {mx : Nat} {rt : Option FieldType} {a : Array Value} {s : State} {m : MethodId} {meth : Method} {c : Code} (h1 : s.methodNamed? y = some m) (h2 : s.vm.method? m = some meth) (h3 : meth.code = some c) (h4 : c.code = bytes)
    (h5 : (c.maxLocals == mx && c.exceptionTable.isEmpty && decide (c.maxStack ≤ mostOperands) && decide (meth.sig.returnType = rt) && !meth.locks && decide (parseMethodDescriptor y.desc = some meth.sig)) = true) : (Jvm.Cond.code y bytes mx rt).before a s = true := by
  simp only [Bool.and_eq_true, beq_iff_eq, Bool.not_eq_true', decide_eq_true_eq] at h5
  obtain ⟨⟨⟨⟨⟨g1, g2⟩, g3⟩, g4⟩, g5⟩, g6⟩ := h5
  simp [Cond.before, Cond.holds, Cond.value, h1, h2, h3, h4, g1, g2, g3, g4, g5, g6]
def isCode : Jvm.Cond → Bool
  | .code _ _ _ _ => true
  | _ => false
theorem all_split {L : List Jvm.Cond} {P : Jvm.Cond → Bool} (h1 : L.all (fun c => isCode c || P c) = true) (h2 : ∀ c ∈ L.filter isCode, P c = true) : L.all P = true := by
  refine List.all_eq_true.mpr fun c hc => ?_
  have h := List.all_eq_true.mp h1 c hc
  rcases Bool.eq_false_or_eq_true (isCode c) with hi | hi
  · exact h2 c (List.mem_filter.mpr ⟨hc, hi⟩)
  · simpa [hi] using h
set_option maxRecDepth 65536 in
theorem w_c0 : (Jvm.Cond.code x code maxLocals ret).before args0 about1 = true := code_word (m := ⟨1, 1⟩) (meth := k1m1) (c := k1c1) (by decide +kernel) rfl rfl rfl (by decide +kernel)
set_option maxRecDepth 65536 in
theorem w_c1 : (Jvm.Cond.code ({ cls := "com/example/tributary/tributary/Meter", name := "<init>", desc := "(J)V" } : Jvm.MethodName) prog_13_method_1_code (3 : Nat) (Option.none : Option Jvm.ClassFile.FieldType)).before args0 about1 = true := code_word (m := ⟨2, 0⟩) (meth := k2m0) (c := k2c0) (by decide +kernel) rfl rfl rfl (by decide +kernel)
set_option maxRecDepth 65536 in
theorem w_c2 : (Jvm.Cond.code ({ cls := "java/lang/Object", name := "<init>", desc := "()V" } : Jvm.MethodName) object_method_1_code (1 : Nat) (Option.none : Option Jvm.ClassFile.FieldType)).before args0 about1 = true := code_word (m := ⟨0, 0⟩) (meth := k0m0) (c := k0c0) (by decide +kernel) rfl rfl rfl (by decide +kernel)
set_option maxRecDepth 65536 in
theorem w_c3 : (Jvm.Cond.code ({ cls := "java/util/ArrayDeque", name := "<init>", desc := "()V" } : Jvm.MethodName) jdk_21_method_3_code (1 : Nat) (Option.none : Option Jvm.ClassFile.FieldType)).before args0 about1 = true := code_word (m := ⟨11, 0⟩) (meth := k11m0) (c := k11c0) (by decide +kernel) rfl rfl rfl (by decide +kernel)
set_option maxRecDepth 65536 in
theorem w_c4 : (Jvm.Cond.code ({ cls := "java/util/AbstractCollection", name := "<init>", desc := "()V" } : Jvm.MethodName) jdk_22_method_1_code (1 : Nat) (Option.none : Option Jvm.ClassFile.FieldType)).before args0 about1 = true := code_word (m := ⟨5, 0⟩) (meth := k5m0) (c := k5c0) (by decide +kernel) rfl rfl rfl (by decide +kernel)
set_option maxRecDepth 65536 in
theorem w_c5 : (Jvm.Cond.code ({ cls := "java/util/ArrayDeque", name := "add", desc := "(Ljava/lang/Object;)Z" } : Jvm.MethodName) jdk_21_method_28_code (2 : Nat) (Option.some Jvm.ClassFile.FieldType.boolean)).before args0 about1 = true := code_word (m := ⟨11, 6⟩) (meth := k11m6) (c := k11c6) (by decide +kernel) rfl rfl rfl (by decide +kernel)
set_option maxRecDepth 65536 in
theorem w_c6 : (Jvm.Cond.code ({ cls := "java/util/ArrayDeque", name := "addLast", desc := "(Ljava/lang/Object;)V" } : Jvm.MethodName) jdk_21_method_13_code (3 : Nat) (Option.none : Option Jvm.ClassFile.FieldType)).before args0 about1 = true := code_word (m := ⟨11, 4⟩) (meth := k11m4) (c := k11c4) (by decide +kernel) rfl rfl rfl (by decide +kernel)
set_option maxRecDepth 65536 in
theorem w_c7 : (Jvm.Cond.code ({ cls := "java/util/ArrayDeque", name := "inc", desc := "(II)I" } : Jvm.MethodName) jdk_21_method_6_code (2 : Nat) (Option.some Jvm.ClassFile.FieldType.int)).before args0 about1 = true := code_word (m := ⟨11, 1⟩) (meth := k11m1) (c := k11c1) (by decide +kernel) rfl rfl rfl (by decide +kernel)
set_option maxRecDepth 65536 in
theorem w_c8 : (Jvm.Cond.code ({ cls := "com/example/tributary/tributary/Meter", name := "busy", desc := "(J)V" } : Jvm.MethodName) prog_13_method_6_code (3 : Nat) (Option.none : Option Jvm.ClassFile.FieldType)).before args0 about1 = true := code_word (m := ⟨2, 3⟩) (meth := k2m3) (c := k2c3) (by decide +kernel) rfl rfl rfl (by decide +kernel)
set_option maxRecDepth 65536 in
theorem w_c9 : (Jvm.Cond.code ({ cls := "com/example/tributary/tributary/Meter", name := "silence", desc := "(J)J" } : Jvm.MethodName) prog_13_method_4_code (3 : Nat) (Option.some Jvm.ClassFile.FieldType.long)).before args0 about1 = true := code_word (m := ⟨2, 1⟩) (meth := k2m1) (c := k2c1) (by decide +kernel) rfl rfl rfl (by decide +kernel)
set_option maxRecDepth 65536 in
theorem w_c10 : (Jvm.Cond.code ({ cls := "com/example/tributary/tributary/Meter", name := "clock", desc := "(J)J" } : Jvm.MethodName) prog_13_method_7_code (3 : Nat) (Option.some Jvm.ClassFile.FieldType.long)).before args0 about1 = true := code_word (m := ⟨2, 4⟩) (meth := k2m4) (c := k2c4) (by decide +kernel) rfl rfl rfl (by decide +kernel)
set_option maxRecDepth 65536 in
theorem w_c11 : (Jvm.Cond.code ({ cls := "java/util/ArrayDeque", name := "peekLast", desc := "()Ljava/lang/Object;" } : Jvm.MethodName) jdk_21_method_25_code (2 : Nat) (Option.some (Jvm.ClassFile.FieldType.object "java/lang/Object"))).before args0 about1 = true := code_word (m := ⟨11, 5⟩) (meth := k11m5) (c := k11c5) (by decide +kernel) rfl rfl rfl (by decide +kernel)
set_option maxRecDepth 65536 in
theorem w_c12 : (Jvm.Cond.code ({ cls := "java/util/ArrayDeque", name := "dec", desc := "(II)I" } : Jvm.MethodName) jdk_21_method_7_code (2 : Nat) (Option.some Jvm.ClassFile.FieldType.int)).before args0 about1 = true := code_word (m := ⟨11, 2⟩) (meth := k11m2) (c := k11c2) (by decide +kernel) rfl rfl rfl (by decide +kernel)
set_option maxRecDepth 65536 in
theorem w_c13 : (Jvm.Cond.code ({ cls := "java/util/ArrayDeque", name := "elementAt", desc := "([Ljava/lang/Object;I)Ljava/lang/Object;" } : Jvm.MethodName) jdk_21_method_10_code (2 : Nat) (Option.some (Jvm.ClassFile.FieldType.object "java/lang/Object"))).before args0 about1 = true := code_word (m := ⟨11, 3⟩) (meth := k11m3) (c := k11c3) (by decide +kernel) rfl rfl rfl (by decide +kernel)
set_option maxRecDepth 65536 in
theorem w_c14 : (Jvm.Cond.code ({ cls := "com/example/tributary/tributary/Meter", name := "idle", desc := "(J)V" } : Jvm.MethodName) prog_13_method_5_code (3 : Nat) (Option.none : Option Jvm.ClassFile.FieldType)).before args0 about1 = true := code_word (m := ⟨2, 2⟩) (meth := k2m2) (c := k2c2) (by decide +kernel) rfl rfl rfl (by decide +kernel)
def codes1 : List Jvm.Cond := [Jvm.Cond.code x code maxLocals ret, Jvm.Cond.code ({ cls := "com/example/tributary/tributary/Meter", name := "<init>", desc := "(J)V" } : Jvm.MethodName) prog_13_method_1_code (3 : Nat) (Option.none : Option Jvm.ClassFile.FieldType), Jvm.Cond.code ({ cls := "java/lang/Object", name := "<init>", desc := "()V" } : Jvm.MethodName) object_method_1_code (1 : Nat) (Option.none : Option Jvm.ClassFile.FieldType), Jvm.Cond.code ({ cls := "java/util/ArrayDeque", name := "<init>", desc := "()V" } : Jvm.MethodName) jdk_21_method_3_code (1 : Nat) (Option.none : Option Jvm.ClassFile.FieldType), Jvm.Cond.code ({ cls := "java/util/AbstractCollection", name := "<init>", desc := "()V" } : Jvm.MethodName) jdk_22_method_1_code (1 : Nat) (Option.none : Option Jvm.ClassFile.FieldType), Jvm.Cond.code ({ cls := "java/util/ArrayDeque", name := "add", desc := "(Ljava/lang/Object;)Z" } : Jvm.MethodName) jdk_21_method_28_code (2 : Nat) (Option.some Jvm.ClassFile.FieldType.boolean), Jvm.Cond.code ({ cls := "java/util/ArrayDeque", name := "addLast", desc := "(Ljava/lang/Object;)V" } : Jvm.MethodName) jdk_21_method_13_code (3 : Nat) (Option.none : Option Jvm.ClassFile.FieldType), Jvm.Cond.code ({ cls := "java/util/ArrayDeque", name := "inc", desc := "(II)I" } : Jvm.MethodName) jdk_21_method_6_code (2 : Nat) (Option.some Jvm.ClassFile.FieldType.int), Jvm.Cond.code ({ cls := "com/example/tributary/tributary/Meter", name := "busy", desc := "(J)V" } : Jvm.MethodName) prog_13_method_6_code (3 : Nat) (Option.none : Option Jvm.ClassFile.FieldType), Jvm.Cond.code ({ cls := "com/example/tributary/tributary/Meter", name := "silence", desc := "(J)J" } : Jvm.MethodName) prog_13_method_4_code (3 : Nat) (Option.some Jvm.ClassFile.FieldType.long), Jvm.Cond.code ({ cls := "com/example/tributary/tributary/Meter", name := "clock", desc := "(J)J" } : Jvm.MethodName) prog_13_method_7_code (3 : Nat) (Option.some Jvm.ClassFile.FieldType.long), Jvm.Cond.code ({ cls := "java/util/ArrayDeque", name := "peekLast", desc := "()Ljava/lang/Object;" } : Jvm.MethodName) jdk_21_method_25_code (2 : Nat) (Option.some (Jvm.ClassFile.FieldType.object "java/lang/Object")), Jvm.Cond.code ({ cls := "java/util/ArrayDeque", name := "dec", desc := "(II)I" } : Jvm.MethodName) jdk_21_method_7_code (2 : Nat) (Option.some Jvm.ClassFile.FieldType.int), Jvm.Cond.code ({ cls := "java/util/ArrayDeque", name := "elementAt", desc := "([Ljava/lang/Object;I)Ljava/lang/Object;" } : Jvm.MethodName) jdk_21_method_10_code (2 : Nat) (Option.some (Jvm.ClassFile.FieldType.object "java/lang/Object")), Jvm.Cond.code ({ cls := "com/example/tributary/tributary/Meter", name := "idle", desc := "(J)V" } : Jvm.MethodName) prog_13_method_5_code (3 : Nat) (Option.none : Option Jvm.ClassFile.FieldType)]
set_option maxRecDepth 65536 in
theorem codes_eq : words1.filter isCode = codes1 := rfl
theorem w_codes : ∀ c ∈ words1.filter isCode, c.before args0 about1 = true := by
  rw [codes_eq]
  intro c hc
  simp only [codes1, List.mem_cons, List.not_mem_nil, or_false] at hc
  rcases hc with rfl | rfl | rfl | rfl | rfl | rfl | rfl | rfl | rfl | rfl | rfl | rfl | rfl | rfl | rfl
  · exact w_c0
  · exact w_c1
  · exact w_c2
  · exact w_c3
  · exact w_c4
  · exact w_c5
  · exact w_c6
  · exact w_c7
  · exact w_c8
  · exact w_c9
  · exact w_c10
  · exact w_c11
  · exact w_c12
  · exact w_c13
  · exact w_c14
set_option maxRecDepth 65536 in
theorem w_t1 : (words1.take 24).all (fun c => isCode c || c.before args0 about1) = true := by decide +kernel
set_option maxRecDepth 65536 in
theorem w_t2 : ((words1.drop 24).take 24).all (fun c => isCode c || c.before args0 about1) = true := by decide +kernel
set_option maxRecDepth 65536 in
theorem w_t3 : (((words1.drop 24).drop 24).take 24).all (fun c => isCode c || c.before args0 about1) = true := by decide +kernel
set_option maxRecDepth 65536 in
theorem w_t4 : (((words1.drop 24).drop 24).drop 24).all (fun c => isCode c || c.before args0 about1) = true := by decide +kernel
theorem w_tables : (allAtoms (Jvm.Cond.code x code maxLocals ret :: tables_1)).before args0 about1 = true := by
  rw [allAtoms_all]
  show words1.all (fun c => c.before args0 about1) = true
  refine all_split ?_ w_codes
  rw [← List.take_append_drop 24 words1, List.all_append, w_t1, ← List.take_append_drop 24 (words1.drop 24), List.all_append, w_t2, ← List.take_append_drop 24 ((words1.drop 24).drop 24), List.all_append, w_t3, w_t4]
  rfl
set_option maxRecDepth 65536 in
theorem w_case : (Jvm.Cond.and given_1 narrow_1).before args0 about1 = true := by decide +kernel
theorem w_applies : (headSpec (Jvm.Cond.code x code maxLocals ret :: tables_1) room_1).applies x e0.platform about1 = true :=
  (Spec.applies_iff w_frames).mpr ⟨w_running, w_runnable, w_alone, w_named, w_hears, w_ripe, w_room, w_tables⟩
theorem atStart : AtStart classFile x code maxLocals ret World_1 tables_1 room_1 Calls_1 rest_1 Pre_1 launch0 p0 e0 about1 theMethod args0 below0 :=
  ⟨lists_1, trivial, launch0.admits_env _ _ _, launch0.least_env, fairChoices_fair.cas, fairChoices_fair.clock, w_frames, w_args, w_heap, w_applies, trivial, trivial, w_case⟩
end start1
theorem witness_1 : WitnessClaimed_1 := ⟨start1.p0, start1.e0, start1.about1, start1.theMethod, start1.args0, start1.below0, start1.atStart⟩
end Jvm.Pilot.@@N@@
