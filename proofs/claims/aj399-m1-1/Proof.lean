import JvmDerived
import JvmDerived.Pilot.@@N@@Statement
import JvmDerived.Pilot.@@N@@Code
set_option linter.unusedVariables false
set_option linter.unusedSimpArgs false
namespace Jvm.RoadKit
open Sem ClassFile Op Lib Jvm.Stand Jvm.Free Jvm.LawKit
section New
variable {p : Program} {l : Launch} {e : Env} {R : Room} {s : State} {m : MethodId} {args : Array Value} {below : List Frame} {meth : Method} {c : Code} {T : State} {locs : List Loc} {cells slots : Nat}
theorem retI (X : Stand p l e R s m args below meth c T locs cells slots) (hx : p.tables.exec = Jvm.exec) {pc : Nat} {Ls : Array Slot} {z : Int32} {rest : List Value} (hret : meth.sig.returnType = some .int) (hd : decode c.code pc = .ok (.ireturn, 1)) {fs : List Frame}
    (hl : ∀ (f : JFrame) (acts : List Action), f.method = m → f.locked = none → f.entered = [] → (doReturn e (T.setTop f) acts (some (.int z))).1 = T.setFrames fs) : Steps p.tables e below (T.setTop (mkF m pc Ls (.int z :: rest))) (T.setFrames fs) := by
  have hm' : T.vm.method? m = some meth := X.method'
  have hn : narrow .int (.int z) = .int z := rfl
  show Steps p.tables e below (T.setTop { method := m, pc := pc, locals := Ls, stack := _ :: rest, locked := none }) _
  jvm_step X.here [X.here.top, hx, hd, hm', hret, hn]
  first | (intro acts; rw [hl _ acts rfl rfl rfl]) | rw [hl _ _ rfl rfl rfl]
  exact Steps.refl _
end New
end Jvm.RoadKit
namespace Jvm.Pilot.@@N@@
open Jvm Jvm.ClassFile Sem Op Lib Jvm.Free Jvm.Stand Jvm.LawKit Jvm.RoadKit Bundle Jvm.Pilot.@@N@@.Jvm.D
/-- whoever comes from the frame f (over T) comes from the frame f0 (over T0) -/
abbrev Go (p : Program) (e : Env) (below : List Frame) (T : State) (f : JFrame) (T0 : State) (f0 : JFrame) : Prop := ∀ t, Steps p.tables e below (T.setTop f) t → Steps p.tables e below (T0.setTop f0) t
def Nd (Z : State) (h : Heap) (x : Addr) (l r : Value) : Prop := Exa Z h x "com/example/rosewood/rosewood/Node" ∧ Fld Z h x "com/example/rosewood/rosewood/Node" "left" "Lcom/example/rosewood/rosewood/Node;" l ∧ Fld Z h x "com/example/rosewood/rosewood/Node" "right" "Lcom/example/rosewood/rosewood/Node;" r ∧ r.isRef = true
theorem Nd.lt {Z : State} {h : Heap} {x : Addr} {l r : Value} (F : Nd Z h x l r) : x < h.size := F.1.lt
theorem Nd.ext {Z : State} {h h' : Heap} {x : Addr} {l r : Value} (F : Nd Z h x l r) (E : Ext h h') : Nd Z h' x l r := ⟨F.1.ext E, F.2.1.ext E, F.2.2.1.ext E, F.2.2.2⟩
theorem Nd.keep {Z : State} {h h' : Heap} {x : Addr} {l r : Value} {ws : List Addr} (F : Nd Z h x l r) (K : Keep h h' ws) (q : x ∉ ws) : Nd Z h' x l r := ⟨F.1.keep K, F.2.1.keep K q, F.2.2.1.keep K q, F.2.2.2⟩
theorem Nd.other {Z : State} {h h' : Heap} {x a : Addr} {sl : Nat} {v l r : Value} (F : Nd Z h x l r) (W : Wr h h' a sl v) (q : x ≠ a) : Nd Z h' x l r := ⟨F.1.wr W, F.2.1.other W (Or.inl q), F.2.2.1.other W (Or.inl q), F.2.2.2⟩
def Rt (r : Value) (y : Addr) (t : Int32) : Prop := (¬ t = 0 → r = .ref y) ∧ (t = 0 → ¬ r = .ref y)
def own_is (r : Value) (y : Addr) : Int32 := if r = .ref y then 1 else 0
theorem own_is_rt {r : Value} {y : Addr} {t : Int32} (h : Rt r y t) (b : t = 0 ∨ t = 1) : own_is r y = t := by
  unfold own_is
  rcases b with rfl | rfl
  · rw [if_neg (h.2 rfl)]
  · rw [if_pos (h.1 (by decide))]
def own_ex (d lv fn t0 t1 t2 sd : Int32) : Int32 := if lv + 1 < d then (if lv = 0 then t0 else t1) else if fn = 0 then t2 else if 0 < sd then 1 else 0
theorem own_lv (x d : Int32) (hd : d = 1 ∨ d = 2 ∨ d = 3) : (x &&& 3) % d = 0 ∨ ((x &&& 3) % d = 1 ∧ ¬ d = 1) ∨ ((x &&& 3) % d = 2 ∧ d = 3) := by
  have q := c_and x 3 (by decide)
  have e3 : (3 : Int32).toInt = 3 := rfl
  have e0 : (0 : Int32).toInt = 0 := rfl
  have e1 : (1 : Int32).toInt = 1 := rfl
  have e2 : (2 : Int32).toInt = 2 := rfl
  rcases hd with rfl | rfl | rfl
  · have w := (c_irem (x &&& 3) 1 1 rfl).1 q.1
    left; apply Int32.toInt_inj.mp; omega
  · have w := (c_irem (x &&& 3) 2 2 rfl).1 q.1
    rcases (by omega : ((x &&& 3) % 2 : Int32).toInt = 0 ∨ ((x &&& 3) % 2 : Int32).toInt = 1) with z | z
    · left; apply Int32.toInt_inj.mp; omega
    · right; left; exact ⟨Int32.toInt_inj.mp (by omega), by decide⟩
  · have w := (c_irem (x &&& 3) 3 3 rfl).1 q.1
    rcases (by omega : ((x &&& 3) % 3 : Int32).toInt = 0 ∨ ((x &&& 3) % 3 : Int32).toInt = 1 ∨ ((x &&& 3) % 3 : Int32).toInt = 2) with z | z | z
    · left; apply Int32.toInt_inj.mp; omega
    · right; left; exact ⟨Int32.toInt_inj.mp (by omega), by decide⟩
    · right; right; exact ⟨Int32.toInt_inj.mp (by omega), rfl⟩
theorem own_d (x : Int32) : 1 + (x &&& 3) % 3 = 1 ∨ 1 + (x &&& 3) % 3 = 2 ∨ 1 + (x &&& 3) % 3 = 3 := by
  rcases own_lv x 3 (Or.inr (Or.inr rfl)) with z | ⟨z, -⟩ | ⟨z, -⟩ <;> rw [z] <;> decide
theorem d1_0 : decode prog_6_method_1_code 0 = .ok (.aload_n 0, 1) := by decide +kernel
theorem d1_1 : decode prog_6_method_1_code 1 = .ok (.invokespecial 1, 3) := by decide +kernel
theorem d1_4 : decode prog_6_method_1_code 4 = .ok (.aload_n 0, 1) := by decide +kernel
theorem d1_5 : decode prog_6_method_1_code 5 = .ok (.aload_n 1, 1) := by decide +kernel
theorem d1_6 : decode prog_6_method_1_code 6 = .ok (.putfield 7, 3) := by decide +kernel
theorem d1_9 : decode prog_6_method_1_code 9 = .ok (.aload_n 0, 1) := by decide +kernel
theorem d1_10 : decode prog_6_method_1_code 10 = .ok (.aload_n 2, 1) := by decide +kernel
theorem d1_11 : decode prog_6_method_1_code 11 = .ok (.putfield 13, 3) := by decide +kernel
theorem d1_14 : decode prog_6_method_1_code 14 = .ok (.aload_n 0, 1) := by decide +kernel
theorem d1_15 : decode prog_6_method_1_code 15 = .ok (.iload_n 3, 1) := by decide +kernel
theorem d1_16 : decode prog_6_method_1_code 16 = .ok (.putfield 16, 3) := by decide +kernel
theorem d1_19 : decode prog_6_method_1_code 19 = .ok (.return_, 1) := by decide +kernel
theorem pn_1 : plainName "com/example/rosewood/rosewood/Node" = true := by first | (simp [plainName, overriddenIn]; done) | decide +kernel
theorem pd_1 : parseMethodDescriptor "(Ljava/lang/Object;Ljava/lang/Object;Z)V" = some ⟨[(.object "java/lang/Object"), (.object "java/lang/Object"), .boolean], none⟩ := by decide +kernel
theorem ef_1 (m : MethodId) (x0 : Addr) (x3 : Int32) : entryFrame m #[(.ref x0), .null, .null, (.int x3)] 4 = mkF m 0 #[.val (.ref x0), .val .null, .val .null, .val (.int x3)] [] := by first | (simp [entryFrame, mkF, argsToLocals, Value.category]; done) | rfl
def Q1 (Z : State) (a1 : Addr) (u1 u2 u3 : Value) (h0 : Heap) (n0 : Nat) (v : Option Value) (h : Heap) (L : List Loc) : Prop := v = none ∧ Fr n0 L ∧ Keep h0 h [a1] ∧ Nd Z h a1 .null .null
set_option maxRecDepth 65536 in
set_option maxHeartbeats 40000000 in
theorem rm1 (l : Launch) (Z : State) (a0 : Array Value) (hw : ∀ d ∈ tables_1, d.before a0 Z = true) (ws : List Jvm.Cond) (a1 : Addr) (u1 u2 u3 : Value) (h0 : Heap) (n0 : Nat) (Z0 : n0 ≤ h0.size) (F_key : Fld Z h0 a1 "com/example/rosewood/rosewood/Node" "key" "Ljava/lang/Object;" u1) (F_value : Fld Z h0 a1 "com/example/rosewood/rosewood/Node" "value" "Ljava/lang/Object;" u2) (F_red : Fld Z h0 a1 "com/example/rosewood/rosewood/Node" "red" "Z" u3) (Nd0 : Nd Z h0 a1 .null .null) (g_a1 : n0 ≤ a1) :
    MetFree l (⟨"com/example/rosewood/rosewood/Node", "<init>", "(Ljava/lang/Object;Ljava/lang/Object;Z)V"⟩ : MethodName) (head1 (Jvm.Cond.code (⟨"com/example/rosewood/rosewood/Node", "<init>", "(Ljava/lang/Object;Ljava/lang/Object;Z)V"⟩ : MethodName) prog_6_method_1_code 4 none :: ws) ({ frames := 1, cells := 0, slots := 0, locals := 12 } : Room)) (fun a U => a = #[(.ref a1), .null, .null, (.int (0 : Int32))] ∧ Z.Warmed39 U.vm ∧ U.heap = h0) (fun _ _ _ _ _ => True) (fun _ U o U' => ∃ v L, o = .returned v ∧ Q1 Z a1 u1 u2 u3 h0 n0 v U'.heap L ∧ FrameEnd U o U' L ({ frames := 1, cells := 0, slots := 0, locals := 12 } : Room).cells ({ frames := 1, cells := 0, slots := 0, locals := 12 } : Room).slots) := by
  refine MetFree.of_bodySF (plainFor_of_name pn_1) hisR ?_
  intro p e s m args below meth c s₁ Bd hml0 hP hK
  obtain ⟨rfl, hZ, hh⟩ := hP
  have hx := Bd.exec
  have hby := Bd.bytes
  have hml : c.maxLocals = 4 := hml0
  have hown : s.vm.findClass "com/example/rosewood/rosewood/Node" = some m.cls := findClass_of_methodNamed Bd.named
  have hnm := (name_of_methodNamed Bd.named Bd.method).1
  have X0 : Stand p l e ({ frames := 1, cells := 0, slots := 0, locals := 12 } : Room) s m #[(.ref a1), .null, .null, (.int (0 : Int32))] below meth c s₁ [] 0 0 := Stand.of_body Bd
  have e0 : s₁.heap = h0 := by rw [← hh, Bd.state]; rfl
  have N0 := Fr.nil n0
  obtain ⟨F0, hF0⟩ : ∃ F0, F0 = entryFrame m #[(.ref a1), .null, .null, (.int (0 : Int32))] 4 := ⟨_, rfl⟩
  have C0 : Go p e below s₁ (mkF m 0 #[.val (.ref a1), .val .null, .val .null, .val (.int (0 : Int32))] []) s₁ F0 := fun t k => by rw [hF0]; exact castTop (ef_1 m a1 (0 : Int32)) k
  have pre0 : ∀ t, Steps p.tables e below (s₁.setTop F0) t → Steps p.tables e below (s₁.setTop (entryFrame m #[(.ref a1), .null, .null, (.int (0 : Int32))] 4)) t := fun t k => by rw [← hF0]; exact k
  obtain ⟨En0, Fl0, Fg0, -⟩ := Nd0
  have C1 : Go p e below s₁ (mkF m 1 #[.val (.ref a1), .val .null, .val .null, .val (.int (0 : Int32))] [(.ref a1)]) s₁ F0 := fun t k => C0 t (by
    refine XS.aloadN X0.here hx rfl (hb hby d1_0) rfl rfl ?_
    exact k)
  obtain ⟨T2, X2, e2, st2⟩ := initO X0 hx hZ hown (hw _ (List.mem_of_getElem? (i := 6) rfl)) (hw _ (List.mem_of_getElem? (i := 7) rfl)) (hw _ (List.mem_of_getElem? (i := 8) rfl)) e0 (g := (mkF m 1 #[.val (.ref a1), .val .null, .val .null, .val (.int (0 : Int32))] [(.ref a1)])) rfl (by rw [hml]; rfl) rfl (hb hby d1_1) (by decide) (W := 0) (by show 2 * 0 + _ ≤ _; exact Nat.le_of_eq rfl) (by decide)
  have C2 : Go p e below T2 (mkF m 4 #[.val (.ref a1), .val .null, .val .null, .val (.int (0 : Int32))] []) s₁ F0 := fun t k => C1 t (st2 t k)
  have C3 : Go p e below T2 (mkF m 6 #[.val (.ref a1), .val .null, .val .null, .val (.int (0 : Int32))] [.null, (.ref a1)]) s₁ F0 := fun t k => C2 t (by
    refine XS.aloadN X2.here hx rfl (hb hby d1_4) rfl rfl ?_
    show Steps p.tables e below (T2.setTop (mkF m 5 #[.val (.ref a1), .val .null, .val .null, .val (.int (0 : Int32))] [(.ref a1)])) _
    refine XS.aloadN X2.here hx rfl (hb hby d1_5) rfl rfl ?_
    exact k)
  obtain ⟨T4, h4, X4, e4, W4, st4⟩ := putF X2 hx hZ hown (host := "") (Or.inl (hw _ (List.mem_of_getElem? (i := 9) rfl))) Via.refl e2 F_key En0 (Or.inl (hw _ (List.mem_of_getElem? (i := 10) rfl))) (hw _ (List.mem_of_getElem? (i := 1) rfl)) (ty := (.object "java/lang/Object")) (by decide) rfl rfl (g := (mkF m 6 #[.val (.ref a1), .val .null, .val .null, .val (.int (0 : Int32))] [.null, (.ref a1)])) rfl rfl (hb hby d1_6)
  have C4 : Go p e below T4 (mkF m 9 #[.val (.ref a1), .val .null, .val .null, .val (.int (0 : Int32))] []) s₁ F0 := fun t k => C3 t (st4 t k)
  have En4 := En0.wr W4
  have Fl4 := Fl0.other W4 (Or.inr (slot_ne (Or.inl (hw _ (List.mem_of_getElem? (i := 20) rfl))) (Or.inl (hw _ (List.mem_of_getElem? (i := 10) rfl))) (by decide) (t := (.object "com/example/rosewood/rosewood/Node")) (t' := (.object "java/lang/Object")) (by decide) (by decide)))
  have Fg4 := Fg0.other W4 (Or.inr (slot_ne (Or.inl (hw _ (List.mem_of_getElem? (i := 22) rfl))) (Or.inl (hw _ (List.mem_of_getElem? (i := 10) rfl))) (by decide) (t := (.object "com/example/rosewood/rosewood/Node")) (t' := (.object "java/lang/Object")) (by decide) (by decide)))
  have N4 := Fr.snoc X4 N0 g_a1
  have K4 := Keep.wr (Keep.refl h0 [a1]) W4 (Or.inl (List.mem_of_getElem? (i := 0) rfl))
  have F_value_ := F_value.other W4 (Or.inr (slot_ne (Or.inl (hw _ (List.mem_of_getElem? (i := 12) rfl))) (Or.inl (hw _ (List.mem_of_getElem? (i := 10) rfl))) (by decide) (t := (.object "java/lang/Object")) (t' := (.object "java/lang/Object")) (by decide) (by decide)))
  have F_red0 := F_red.other W4 (Or.inr (slot_ne (Or.inl (hw _ (List.mem_of_getElem? (i := 14) rfl))) (Or.inl (hw _ (List.mem_of_getElem? (i := 10) rfl))) (by decide) (t := .boolean) (t' := (.object "java/lang/Object")) (by decide) (by decide)))
  have C5 : Go p e below T4 (mkF m 11 #[.val (.ref a1), .val .null, .val .null, .val (.int (0 : Int32))] [.null, (.ref a1)]) s₁ F0 := fun t k => C4 t (by
    refine XS.aloadN X4.here hx rfl (hb hby d1_9) rfl rfl ?_
    show Steps p.tables e below (T4.setTop (mkF m 10 #[.val (.ref a1), .val .null, .val .null, .val (.int (0 : Int32))] [(.ref a1)])) _
    refine XS.aloadN X4.here hx rfl (hb hby d1_10) rfl rfl ?_
    exact k)
  obtain ⟨T6, h6, X6, e6, W6, st6⟩ := putF X4 hx hZ hown (host := "") (Or.inl (hw _ (List.mem_of_getElem? (i := 11) rfl))) Via.refl e4 F_value_ En4 (Or.inl (hw _ (List.mem_of_getElem? (i := 12) rfl))) (hw _ (List.mem_of_getElem? (i := 1) rfl)) (ty := (.object "java/lang/Object")) (by decide) rfl rfl (g := (mkF m 11 #[.val (.ref a1), .val .null, .val .null, .val (.int (0 : Int32))] [.null, (.ref a1)])) rfl rfl (hb hby d1_11)
  have C6 : Go p e below T6 (mkF m 14 #[.val (.ref a1), .val .null, .val .null, .val (.int (0 : Int32))] []) s₁ F0 := fun t k => C5 t (st6 t k)
  have En6 := En4.wr W6
  have Fl6 := Fl4.other W6 (Or.inr (slot_ne (Or.inl (hw _ (List.mem_of_getElem? (i := 20) rfl))) (Or.inl (hw _ (List.mem_of_getElem? (i := 12) rfl))) (by decide) (t := (.object "com/example/rosewood/rosewood/Node")) (t' := (.object "java/lang/Object")) (by decide) (by decide)))
  have Fg6 := Fg4.other W6 (Or.inr (slot_ne (Or.inl (hw _ (List.mem_of_getElem? (i := 22) rfl))) (Or.inl (hw _ (List.mem_of_getElem? (i := 12) rfl))) (by decide) (t := (.object "com/example/rosewood/rosewood/Node")) (t' := (.object "java/lang/Object")) (by decide) (by decide)))
  have N6 := Fr.snoc X6 N4 g_a1
  have K6 := Keep.wr K4 W6 (Or.inl (List.mem_of_getElem? (i := 0) rfl))
  have F_red_ := F_red0.other W6 (Or.inr (slot_ne (Or.inl (hw _ (List.mem_of_getElem? (i := 14) rfl))) (Or.inl (hw _ (List.mem_of_getElem? (i := 12) rfl))) (by decide) (t := .boolean) (t' := (.object "java/lang/Object")) (by decide) (by decide)))
  have C7 : Go p e below T6 (mkF m 16 #[.val (.ref a1), .val .null, .val .null, .val (.int (0 : Int32))] [(.int (0 : Int32)), (.ref a1)]) s₁ F0 := fun t k => C6 t (by
    refine XS.aloadN X6.here hx rfl (hb hby d1_14) rfl rfl ?_
    show Steps p.tables e below (T6.setTop (mkF m 15 #[.val (.ref a1), .val .null, .val .null, .val (.int (0 : Int32))] [(.ref a1)])) _
    refine XS.iloadN X6.here hx rfl (hb hby d1_15) rfl ?_
    exact k)
  obtain ⟨T8, h8, X8, e8, W8, st8⟩ := putFN X6 hx hZ hown (hw _ (List.mem_of_getElem? (i := 13) rfl)) Via.refl e6 F_red_ En6 (Or.inl (hw _ (List.mem_of_getElem? (i := 14) rfl))) (hw _ (List.mem_of_getElem? (i := 1) rfl)) (ty := .boolean) (v' := (.int (0 : Int32))) (by decide) rfl rfl (g := (mkF m 16 #[.val (.ref a1), .val .null, .val .null, .val (.int (0 : Int32))] [(.int (0 : Int32)), (.ref a1)])) rfl rfl (hb hby d1_16)
  have C8 : Go p e below T8 (mkF m 19 #[.val (.ref a1), .val .null, .val .null, .val (.int (0 : Int32))] []) s₁ F0 := fun t k => C7 t (st8 t k)
  have En8 := En6.wr W8
  have Fl8 := Fl6.other W8 (Or.inr (slot_ne (Or.inl (hw _ (List.mem_of_getElem? (i := 20) rfl))) (Or.inl (hw _ (List.mem_of_getElem? (i := 14) rfl))) (by decide) (t := (.object "com/example/rosewood/rosewood/Node")) (t' := .boolean) (by decide) (by decide)))
  have Fg8 := Fg6.other W8 (Or.inr (slot_ne (Or.inl (hw _ (List.mem_of_getElem? (i := 22) rfl))) (Or.inl (hw _ (List.mem_of_getElem? (i := 14) rfl))) (by decide) (t := (.object "com/example/rosewood/rosewood/Node")) (t' := .boolean) (by decide) (by decide)))
  have N8 := Fr.snoc X8 N6 g_a1
  have K8 := Keep.wr K6 W8 (Or.inl (List.mem_of_getElem? (i := 0) rfl))
  obtain ⟨fs, hr, hrun, hended, hW, hsame⟩ := X8.leave (v := none) (fun _ => rfl)
  refine ⟨_, _, pre0 _ (C8 _ ?_), hrun, hended, _, _, rfl, ?_, ⟨_, rfl⟩, hW, hsame.mono (by decide) (by decide)⟩
  · exact X8.returnOut hx Bd.returns (hb hby d1_19) hr
  · show Q1 Z a1 u1 u2 u3 h0 n0 _ T8.heap _
    rw [e8]
    exact ⟨rfl, N8, K8, En8, Fl8, Fg8, rfl⟩
theorem d3_0 : decode method_2_code 0 = .ok (.iload_n 2, 1) := by decide +kernel
theorem d3_1 : decode method_2_code 1 = .ok (.ifCond .eq 25, 3) := by decide +kernel
theorem d3_4 : decode method_2_code 4 = .ok (.aload_n 0, 1) := by decide +kernel
theorem d3_5 : decode method_2_code 5 = .ok (.aload_n 1, 1) := by decide +kernel
theorem d3_6 : decode method_2_code 6 = .ok (.putfield 7, 3) := by decide +kernel
theorem d3_9 : decode method_2_code 9 = .ok (.aload_n 0, 1) := by decide +kernel
theorem d3_10 : decode method_2_code 10 = .ok (.iload_n 3, 1) := by decide +kernel
theorem d3_11 : decode method_2_code 11 = .ok (.ifCond .eq 8, 3) := by decide +kernel
theorem d3_14 : decode method_2_code 14 = .ok (.aload 4, 2) := by decide +kernel
theorem d3_16 : decode method_2_code 16 = .ok (.goto 4, 3) := by decide +kernel
theorem d3_19 : decode method_2_code 19 = .ok (.aconst_null, 1) := by decide +kernel
theorem d3_20 : decode method_2_code 20 = .ok (.putfield 13, 3) := by decide +kernel
theorem d3_23 : decode method_2_code 23 = .ok (.goto 22, 3) := by decide +kernel
theorem d3_26 : decode method_2_code 26 = .ok (.aload_n 0, 1) := by decide +kernel
theorem d3_27 : decode method_2_code 27 = .ok (.aload_n 1, 1) := by decide +kernel
theorem d3_28 : decode method_2_code 28 = .ok (.putfield 13, 3) := by decide +kernel
theorem d3_31 : decode method_2_code 31 = .ok (.aload_n 0, 1) := by decide +kernel
theorem d3_32 : decode method_2_code 32 = .ok (.iload_n 3, 1) := by decide +kernel
theorem d3_33 : decode method_2_code 33 = .ok (.ifCond .eq 8, 3) := by decide +kernel
theorem d3_36 : decode method_2_code 36 = .ok (.aload 4, 2) := by decide +kernel
theorem d3_38 : decode method_2_code 38 = .ok (.goto 4, 3) := by decide +kernel
theorem d3_41 : decode method_2_code 41 = .ok (.aconst_null, 1) := by decide +kernel
theorem d3_42 : decode method_2_code 42 = .ok (.putfield 7, 3) := by decide +kernel
theorem d3_45 : decode method_2_code 45 = .ok (.return_, 1) := by decide +kernel
theorem pn_3 : plainName "com/example/rosewood/rosewood/DescentTurnsRightPinLaw" = true := by first | (simp [plainName, overriddenIn]; done) | decide +kernel
theorem pd_3 : parseMethodDescriptor "(Lcom/example/rosewood/rosewood/Node;Lcom/example/rosewood/rosewood/Node;ZZLcom/example/rosewood/rosewood/Node;)V" = some ⟨[(.object "com/example/rosewood/rosewood/Node"), (.object "com/example/rosewood/rosewood/Node"), .boolean, .boolean, (.object "com/example/rosewood/rosewood/Node")], none⟩ := by decide +kernel
theorem ef_3 (m : MethodId) (x0 : Addr) (x1 : Addr) (x2 : Int32) (x3 : Int32) (x4 : Addr) : entryFrame m #[(.ref x0), (.ref x1), (.int x2), (.int x3), (.ref x4)] 5 = mkF m 0 #[.val (.ref x0), .val (.ref x1), .val (.int x2), .val (.int x3), .val (.ref x4)] [] := by first | (simp [entryFrame, mkF, argsToLocals, Value.category]; done) | rfl
def Q3 (Z : State) (a1 a2 : Addr) (p3 p4 : Int32) (a5 : Addr) (l0 r0 : Value) (h0 : Heap) (n0 : Nat) (v : Option Value) (h : Heap) (L : List Loc) : Prop := ∃ l r, v = none ∧ Fr n0 L ∧ Keep h0 h [a1] ∧ Nd Z h a1 l r ∧ Rt r a2 p3
set_option maxRecDepth 65536 in
set_option maxHeartbeats 40000000 in
theorem rm3 (l : Launch) (Z : State) (a0 : Array Value) (hw : ∀ d ∈ tables_1, d.before a0 Z = true) (ws : List Jvm.Cond) (a1 a2 : Addr) (p3 p4 : Int32) (a5 : Addr) (l0 r0 : Value) (h0 : Heap) (n0 : Nat) (Z0 : n0 ≤ h0.size) (Nd0 : Nd Z h0 a1 l0 r0) (g_a1 : n0 ≤ a1) (ne : a5 ≠ a2) :
    MetFree l (⟨"com/example/rosewood/rosewood/DescentTurnsRightPinLaw", "link", "(Lcom/example/rosewood/rosewood/Node;Lcom/example/rosewood/rosewood/Node;ZZLcom/example/rosewood/rosewood/Node;)V"⟩ : MethodName) (head1 (Jvm.Cond.code (⟨"com/example/rosewood/rosewood/DescentTurnsRightPinLaw", "link", "(Lcom/example/rosewood/rosewood/Node;Lcom/example/rosewood/rosewood/Node;ZZLcom/example/rosewood/rosewood/Node;)V"⟩ : MethodName) method_2_code 5 none :: ws) ({ frames := 0, cells := 0, slots := 0, locals := 0 } : Room)) (fun a U => a = #[(.ref a1), (.ref a2), (.int p3), (.int p4), (.ref a5)] ∧ Z.Warmed39 U.vm ∧ U.heap = h0) (fun _ _ _ _ _ => True) (fun _ U o U' => ∃ v L, o = .returned v ∧ Q3 Z a1 a2 p3 p4 a5 l0 r0 h0 n0 v U'.heap L ∧ FrameEnd U o U' L ({ frames := 0, cells := 0, slots := 0, locals := 0 } : Room).cells ({ frames := 0, cells := 0, slots := 0, locals := 0 } : Room).slots) := by
  refine MetFree.of_bodySF (plainFor_of_name pn_3) hisR ?_
  intro p e s m args below meth c s₁ Bd hml0 hP hK
  obtain ⟨rfl, hZ, hh⟩ := hP
  have hx := Bd.exec
  have hby := Bd.bytes
  have hml : c.maxLocals = 5 := hml0
  have hown : s.vm.findClass "com/example/rosewood/rosewood/DescentTurnsRightPinLaw" = some m.cls := findClass_of_methodNamed Bd.named
  have hnm := (name_of_methodNamed Bd.named Bd.method).1
  have X0 : Stand p l e ({ frames := 0, cells := 0, slots := 0, locals := 0 } : Room) s m #[(.ref a1), (.ref a2), (.int p3), (.int p4), (.ref a5)] below meth c s₁ [] 0 0 := Stand.of_body Bd
  have e0 : s₁.heap = h0 := by rw [← hh, Bd.state]; rfl
  have N0 := Fr.nil n0
  obtain ⟨F0, hF0⟩ : ∃ F0, F0 = entryFrame m #[(.ref a1), (.ref a2), (.int p3), (.int p4), (.ref a5)] 5 := ⟨_, rfl⟩
  have C0 : Go p e below s₁ (mkF m 0 #[.val (.ref a1), .val (.ref a2), .val (.int p3), .val (.int p4), .val (.ref a5)] []) s₁ F0 := fun t k => by rw [hF0]; exact castTop (ef_3 m a1 a2 p3 p4 a5) k
  have pre0 : ∀ t, Steps p.tables e below (s₁.setTop F0) t → Steps p.tables e below (s₁.setTop (entryFrame m #[(.ref a1), (.ref a2), (.int p3), (.int p4), (.ref a5)] 5)) t := fun t k => by rw [← hF0]; exact k
  obtain ⟨En0, Fl0, Fg0, -⟩ := Nd0
  obtain ⟨TJ, hJ, lJ, lv, rv, XJ, eJ, NJ, KJ, NdJ, RJ, CJ⟩ : ∃ (T' : State) (h' : Heap) (ls : List Loc) (la ra : Value), Stand p l e ({ frames := 0, cells := 0, slots := 0, locals := 0 } : Room) s m #[(.ref a1), (.ref a2), (.int p3), (.int p4), (.ref a5)] below meth c T' ls 0 0 ∧ T'.heap = h' ∧ Fr n0 ls ∧ Keep h0 h' [a1] ∧ Nd Z h' a1 la ra ∧ Rt ra a2 p3 ∧ Go p e below T' (mkF m 45 #[.val (.ref a1), .val (.ref a2), .val (.int p3), .val (.int p4), .val (.ref a5)] []) s₁ F0 := by
    by_cases c : p3 = 0
    · by_cases c4 : p4 = 0
      · skip
        have C1 : Go p e below s₁ (mkF m 28 #[.val (.ref a1), .val (.ref a2), .val (.int p3), .val (.int p4), .val (.ref a5)] [(.ref a2), (.ref a1)]) s₁ F0 := fun t k => C0 t (by
          refine XS.iloadN X0.here hx rfl (hb hby d3_0) rfl ?_
          show Steps p.tables e below (s₁.setTop (mkF m 1 #[.val (.ref a1), .val (.ref a2), .val (.int p3), .val (.int p4), .val (.ref a5)] [(.int p3)])) _
          refine XS.ifYes X0.here hx rfl (pc0 := 1) (pc' := 26) rfl (hb hby d3_1) rfl ((if0 _ _).trans (teq c).1) (by decide) (by decide) ?_
          show Steps p.tables e below (s₁.setTop (mkF m 26 #[.val (.ref a1), .val (.ref a2), .val (.int p3), .val (.int p4), .val (.ref a5)] [])) _
          refine XS.aloadN X0.here hx rfl (hb hby d3_26) rfl rfl ?_
          show Steps p.tables e below (s₁.setTop (mkF m 27 #[.val (.ref a1), .val (.ref a2), .val (.int p3), .val (.int p4), .val (.ref a5)] [(.ref a1)])) _
          refine XS.aloadN X0.here hx rfl (hb hby d3_27) rfl rfl ?_
          exact k)
        obtain ⟨T2, h2, X2, e2, W2, st2⟩ := putF X0 hx hZ hown (host := "") (Or.inl (hw _ (List.mem_of_getElem? (i := 19) rfl))) Via.refl e0 Fl0 En0 (Or.inl (hw _ (List.mem_of_getElem? (i := 20) rfl))) (hw _ (List.mem_of_getElem? (i := 1) rfl)) (ty := (.object "com/example/rosewood/rosewood/Node")) (by decide) rfl rfl (g := (mkF m 28 #[.val (.ref a1), .val (.ref a2), .val (.int p3), .val (.int p4), .val (.ref a5)] [(.ref a2), (.ref a1)])) rfl rfl (hb hby d3_28)
        have C2 : Go p e below T2 (mkF m 31 #[.val (.ref a1), .val (.ref a2), .val (.int p3), .val (.int p4), .val (.ref a5)] []) s₁ F0 := fun t k => C1 t (st2 t k)
        have En2 := En0.wr W2
        have Fl2 := Fl0.same W2
        have Fg2 := Fg0.other W2 (Or.inr (slot_ne (Or.inl (hw _ (List.mem_of_getElem? (i := 22) rfl))) (Or.inl (hw _ (List.mem_of_getElem? (i := 20) rfl))) (by decide) (t := (.object "com/example/rosewood/rosewood/Node")) (t' := (.object "com/example/rosewood/rosewood/Node")) (by decide) (by decide)))
        have N2 := Fr.snoc X2 N0 g_a1
        have K2 := (Keep.refl h0 [a1]).wr W2 (Or.inl (List.mem_of_getElem? (i := 0) rfl))
        have C3 : Go p e below T2 (mkF m 42 #[.val (.ref a1), .val (.ref a2), .val (.int p3), .val (.int p4), .val (.ref a5)] [.null, (.ref a1)]) s₁ F0 := fun t k => C2 t (by
          refine XS.aloadN X2.here hx rfl (hb hby d3_31) rfl rfl ?_
          show Steps p.tables e below (T2.setTop (mkF m 32 #[.val (.ref a1), .val (.ref a2), .val (.int p3), .val (.int p4), .val (.ref a5)] [(.ref a1)])) _
          refine XS.iloadN X2.here hx rfl (hb hby d3_32) rfl ?_
          show Steps p.tables e below (T2.setTop (mkF m 33 #[.val (.ref a1), .val (.ref a2), .val (.int p3), .val (.int p4), .val (.ref a5)] [(.int p4), (.ref a1)])) _
          refine XS.ifYes X2.here hx rfl (pc0 := 33) (pc' := 41) rfl (hb hby d3_33) rfl ((if0 _ _).trans (teq c4).1) (by decide) (by decide) ?_
          show Steps p.tables e below (T2.setTop (mkF m 41 #[.val (.ref a1), .val (.ref a2), .val (.int p3), .val (.int p4), .val (.ref a5)] [(.ref a1)])) _
          refine XS.aconstNull X2.here hx rfl (hb hby d3_41) ?_
          exact k)
        obtain ⟨T4, h4, X4, e4, W4, st4⟩ := putF X2 hx hZ hown (host := "") (Or.inl (hw _ (List.mem_of_getElem? (i := 21) rfl))) Via.refl e2 Fg2 En2 (Or.inl (hw _ (List.mem_of_getElem? (i := 22) rfl))) (hw _ (List.mem_of_getElem? (i := 1) rfl)) (ty := (.object "com/example/rosewood/rosewood/Node")) (by decide) rfl rfl (g := (mkF m 42 #[.val (.ref a1), .val (.ref a2), .val (.int p3), .val (.int p4), .val (.ref a5)] [.null, (.ref a1)])) rfl rfl (hb hby d3_42)
        have C4 : Go p e below T4 (mkF m 45 #[.val (.ref a1), .val (.ref a2), .val (.int p3), .val (.int p4), .val (.ref a5)] []) s₁ F0 := fun t k => C3 t (st4 t k)
        have En4 := En2.wr W4
        have Fl4 := Fl2.other W4 (Or.inr (slot_ne (Or.inl (hw _ (List.mem_of_getElem? (i := 20) rfl))) (Or.inl (hw _ (List.mem_of_getElem? (i := 22) rfl))) (by decide) (t := (.object "com/example/rosewood/rosewood/Node")) (t' := (.object "com/example/rosewood/rosewood/Node")) (by decide) (by decide)))
        have Fg4 := Fg2.same W4
        have N4 := Fr.snoc X4 N2 g_a1
        have K4 := K2.wr W4 (Or.inl (List.mem_of_getElem? (i := 0) rfl))
        exact ⟨_, _, _, _, _, X4, e4, N4, K4, ⟨En4, Fl4, Fg4, rfl⟩, ⟨fun z => absurd c z, fun _ => nofun⟩, C4⟩
      · skip
        have C5 : Go p e below s₁ (mkF m 28 #[.val (.ref a1), .val (.ref a2), .val (.int p3), .val (.int p4), .val (.ref a5)] [(.ref a2), (.ref a1)]) s₁ F0 := fun t k => C0 t (by
          refine XS.iloadN X0.here hx rfl (hb hby d3_0) rfl ?_
          show Steps p.tables e below (s₁.setTop (mkF m 1 #[.val (.ref a1), .val (.ref a2), .val (.int p3), .val (.int p4), .val (.ref a5)] [(.int p3)])) _
          refine XS.ifYes X0.here hx rfl (pc0 := 1) (pc' := 26) rfl (hb hby d3_1) rfl ((if0 _ _).trans (teq c).1) (by decide) (by decide) ?_
          show Steps p.tables e below (s₁.setTop (mkF m 26 #[.val (.ref a1), .val (.ref a2), .val (.int p3), .val (.int p4), .val (.ref a5)] [])) _
          refine XS.aloadN X0.here hx rfl (hb hby d3_26) rfl rfl ?_
          show Steps p.tables e below (s₁.setTop (mkF m 27 #[.val (.ref a1), .val (.ref a2), .val (.int p3), .val (.int p4), .val (.ref a5)] [(.ref a1)])) _
          refine XS.aloadN X0.here hx rfl (hb hby d3_27) rfl rfl ?_
          exact k)
        obtain ⟨T6, h6, X6, e6, W6, st6⟩ := putF X0 hx hZ hown (host := "") (Or.inl (hw _ (List.mem_of_getElem? (i := 19) rfl))) Via.refl e0 Fl0 En0 (Or.inl (hw _ (List.mem_of_getElem? (i := 20) rfl))) (hw _ (List.mem_of_getElem? (i := 1) rfl)) (ty := (.object "com/example/rosewood/rosewood/Node")) (by decide) rfl rfl (g := (mkF m 28 #[.val (.ref a1), .val (.ref a2), .val (.int p3), .val (.int p4), .val (.ref a5)] [(.ref a2), (.ref a1)])) rfl rfl (hb hby d3_28)
        have C6 : Go p e below T6 (mkF m 31 #[.val (.ref a1), .val (.ref a2), .val (.int p3), .val (.int p4), .val (.ref a5)] []) s₁ F0 := fun t k => C5 t (st6 t k)
        have En6 := En0.wr W6
        have Fl6 := Fl0.same W6
        have Fg6 := Fg0.other W6 (Or.inr (slot_ne (Or.inl (hw _ (List.mem_of_getElem? (i := 22) rfl))) (Or.inl (hw _ (List.mem_of_getElem? (i := 20) rfl))) (by decide) (t := (.object "com/example/rosewood/rosewood/Node")) (t' := (.object "com/example/rosewood/rosewood/Node")) (by decide) (by decide)))
        have N6 := Fr.snoc X6 N0 g_a1
        have K6 := (Keep.refl h0 [a1]).wr W6 (Or.inl (List.mem_of_getElem? (i := 0) rfl))
        have C7 : Go p e below T6 (mkF m 42 #[.val (.ref a1), .val (.ref a2), .val (.int p3), .val (.int p4), .val (.ref a5)] [(.ref a5), (.ref a1)]) s₁ F0 := fun t k => C6 t (by
          refine XS.aloadN X6.here hx rfl (hb hby d3_31) rfl rfl ?_
          show Steps p.tables e below (T6.setTop (mkF m 32 #[.val (.ref a1), .val (.ref a2), .val (.int p3), .val (.int p4), .val (.ref a5)] [(.ref a1)])) _
          refine XS.iloadN X6.here hx rfl (hb hby d3_32) rfl ?_
          show Steps p.tables e below (T6.setTop (mkF m 33 #[.val (.ref a1), .val (.ref a2), .val (.int p3), .val (.int p4), .val (.ref a5)] [(.int p4), (.ref a1)])) _
          refine XS.ifNo X6.here hx rfl (hb hby d3_33) rfl ((if0 _ _).trans (feq c4).1) ?_
          show Steps p.tables e below (T6.setTop (mkF m 36 #[.val (.ref a1), .val (.ref a2), .val (.int p3), .val (.int p4), .val (.ref a5)] [(.ref a1)])) _
          refine XS.aload X6.here hx rfl (hb hby d3_36) rfl rfl ?_
          show Steps p.tables e below (T6.setTop (mkF m 38 #[.val (.ref a1), .val (.ref a2), .val (.int p3), .val (.int p4), .val (.ref a5)] [(.ref a5), (.ref a1)])) _
          refine XS.goto X6.here hx rfl (pc0 := 38) (pc' := 42) rfl (hb hby d3_38) (by decide) (by decide) ?_
          exact k)
        obtain ⟨T8, h8, X8, e8, W8, st8⟩ := putF X6 hx hZ hown (host := "") (Or.inl (hw _ (List.mem_of_getElem? (i := 21) rfl))) Via.refl e6 Fg6 En6 (Or.inl (hw _ (List.mem_of_getElem? (i := 22) rfl))) (hw _ (List.mem_of_getElem? (i := 1) rfl)) (ty := (.object "com/example/rosewood/rosewood/Node")) (by decide) rfl rfl (g := (mkF m 42 #[.val (.ref a1), .val (.ref a2), .val (.int p3), .val (.int p4), .val (.ref a5)] [(.ref a5), (.ref a1)])) rfl rfl (hb hby d3_42)
        have C8 : Go p e below T8 (mkF m 45 #[.val (.ref a1), .val (.ref a2), .val (.int p3), .val (.int p4), .val (.ref a5)] []) s₁ F0 := fun t k => C7 t (st8 t k)
        have En8 := En6.wr W8
        have Fl8 := Fl6.other W8 (Or.inr (slot_ne (Or.inl (hw _ (List.mem_of_getElem? (i := 20) rfl))) (Or.inl (hw _ (List.mem_of_getElem? (i := 22) rfl))) (by decide) (t := (.object "com/example/rosewood/rosewood/Node")) (t' := (.object "com/example/rosewood/rosewood/Node")) (by decide) (by decide)))
        have Fg8 := Fg6.same W8
        have N8 := Fr.snoc X8 N6 g_a1
        have K8 := K6.wr W8 (Or.inl (List.mem_of_getElem? (i := 0) rfl))
        exact ⟨_, _, _, _, _, X8, e8, N8, K8, ⟨En8, Fl8, Fg8, rfl⟩, ⟨fun z => absurd c z, fun _ z => ne (Value.ref.inj z)⟩, C8⟩
    · by_cases c4 : p4 = 0
      · skip
        have C9 : Go p e below s₁ (mkF m 6 #[.val (.ref a1), .val (.ref a2), .val (.int p3), .val (.int p4), .val (.ref a5)] [(.ref a2), (.ref a1)]) s₁ F0 := fun t k => C0 t (by
          refine XS.iloadN X0.here hx rfl (hb hby d3_0) rfl ?_
          show Steps p.tables e below (s₁.setTop (mkF m 1 #[.val (.ref a1), .val (.ref a2), .val (.int p3), .val (.int p4), .val (.ref a5)] [(.int p3)])) _
          refine XS.ifNo X0.here hx rfl (hb hby d3_1) rfl ((if0 _ _).trans (feq c).1) ?_
          show Steps p.tables e below (s₁.setTop (mkF m 4 #[.val (.ref a1), .val (.ref a2), .val (.int p3), .val (.int p4), .val (.ref a5)] [])) _
          refine XS.aloadN X0.here hx rfl (hb hby d3_4) rfl rfl ?_
          show Steps p.tables e below (s₁.setTop (mkF m 5 #[.val (.ref a1), .val (.ref a2), .val (.int p3), .val (.int p4), .val (.ref a5)] [(.ref a1)])) _
          refine XS.aloadN X0.here hx rfl (hb hby d3_5) rfl rfl ?_
          exact k)
        obtain ⟨T10, h10, X10, e10, W10, st10⟩ := putF X0 hx hZ hown (host := "") (Or.inl (hw _ (List.mem_of_getElem? (i := 21) rfl))) Via.refl e0 Fg0 En0 (Or.inl (hw _ (List.mem_of_getElem? (i := 22) rfl))) (hw _ (List.mem_of_getElem? (i := 1) rfl)) (ty := (.object "com/example/rosewood/rosewood/Node")) (by decide) rfl rfl (g := (mkF m 6 #[.val (.ref a1), .val (.ref a2), .val (.int p3), .val (.int p4), .val (.ref a5)] [(.ref a2), (.ref a1)])) rfl rfl (hb hby d3_6)
        have C10 : Go p e below T10 (mkF m 9 #[.val (.ref a1), .val (.ref a2), .val (.int p3), .val (.int p4), .val (.ref a5)] []) s₁ F0 := fun t k => C9 t (st10 t k)
        have En10 := En0.wr W10
        have Fl10 := Fl0.other W10 (Or.inr (slot_ne (Or.inl (hw _ (List.mem_of_getElem? (i := 20) rfl))) (Or.inl (hw _ (List.mem_of_getElem? (i := 22) rfl))) (by decide) (t := (.object "com/example/rosewood/rosewood/Node")) (t' := (.object "com/example/rosewood/rosewood/Node")) (by decide) (by decide)))
        have Fg10 := Fg0.same W10
        have N10 := Fr.snoc X10 N0 g_a1
        have K10 := (Keep.refl h0 [a1]).wr W10 (Or.inl (List.mem_of_getElem? (i := 0) rfl))
        have C11 : Go p e below T10 (mkF m 20 #[.val (.ref a1), .val (.ref a2), .val (.int p3), .val (.int p4), .val (.ref a5)] [.null, (.ref a1)]) s₁ F0 := fun t k => C10 t (by
          refine XS.aloadN X10.here hx rfl (hb hby d3_9) rfl rfl ?_
          show Steps p.tables e below (T10.setTop (mkF m 10 #[.val (.ref a1), .val (.ref a2), .val (.int p3), .val (.int p4), .val (.ref a5)] [(.ref a1)])) _
          refine XS.iloadN X10.here hx rfl (hb hby d3_10) rfl ?_
          show Steps p.tables e below (T10.setTop (mkF m 11 #[.val (.ref a1), .val (.ref a2), .val (.int p3), .val (.int p4), .val (.ref a5)] [(.int p4), (.ref a1)])) _
          refine XS.ifYes X10.here hx rfl (pc0 := 11) (pc' := 19) rfl (hb hby d3_11) rfl ((if0 _ _).trans (teq c4).1) (by decide) (by decide) ?_
          show Steps p.tables e below (T10.setTop (mkF m 19 #[.val (.ref a1), .val (.ref a2), .val (.int p3), .val (.int p4), .val (.ref a5)] [(.ref a1)])) _
          refine XS.aconstNull X10.here hx rfl (hb hby d3_19) ?_
          exact k)
        obtain ⟨T12, h12, X12, e12, W12, st12⟩ := putF X10 hx hZ hown (host := "") (Or.inl (hw _ (List.mem_of_getElem? (i := 19) rfl))) Via.refl e10 Fl10 En10 (Or.inl (hw _ (List.mem_of_getElem? (i := 20) rfl))) (hw _ (List.mem_of_getElem? (i := 1) rfl)) (ty := (.object "com/example/rosewood/rosewood/Node")) (by decide) rfl rfl (g := (mkF m 20 #[.val (.ref a1), .val (.ref a2), .val (.int p3), .val (.int p4), .val (.ref a5)] [.null, (.ref a1)])) rfl rfl (hb hby d3_20)
        have C12 : Go p e below T12 (mkF m 23 #[.val (.ref a1), .val (.ref a2), .val (.int p3), .val (.int p4), .val (.ref a5)] []) s₁ F0 := fun t k => C11 t (st12 t k)
        have En12 := En10.wr W12
        have Fl12 := Fl10.same W12
        have Fg12 := Fg10.other W12 (Or.inr (slot_ne (Or.inl (hw _ (List.mem_of_getElem? (i := 22) rfl))) (Or.inl (hw _ (List.mem_of_getElem? (i := 20) rfl))) (by decide) (t := (.object "com/example/rosewood/rosewood/Node")) (t' := (.object "com/example/rosewood/rosewood/Node")) (by decide) (by decide)))
        have N12 := Fr.snoc X12 N10 g_a1
        have K12 := K10.wr W12 (Or.inl (List.mem_of_getElem? (i := 0) rfl))
        have C13 : Go p e below T12 (mkF m 45 #[.val (.ref a1), .val (.ref a2), .val (.int p3), .val (.int p4), .val (.ref a5)] []) s₁ F0 := fun t k => C12 t (by
          refine XS.goto X12.here hx rfl (pc0 := 23) (pc' := 45) rfl (hb hby d3_23) (by decide) (by decide) ?_
          exact k)
        exact ⟨_, _, _, _, _, X12, e12, N12, K12, ⟨En12, Fl12, Fg12, rfl⟩, ⟨fun _ => rfl, fun z => absurd z c⟩, C13⟩
      · skip
        have C14 : Go p e below s₁ (mkF m 6 #[.val (.ref a1), .val (.ref a2), .val (.int p3), .val (.int p4), .val (.ref a5)] [(.ref a2), (.ref a1)]) s₁ F0 := fun t k => C0 t (by
          refine XS.iloadN X0.here hx rfl (hb hby d3_0) rfl ?_
          show Steps p.tables e below (s₁.setTop (mkF m 1 #[.val (.ref a1), .val (.ref a2), .val (.int p3), .val (.int p4), .val (.ref a5)] [(.int p3)])) _
          refine XS.ifNo X0.here hx rfl (hb hby d3_1) rfl ((if0 _ _).trans (feq c).1) ?_
          show Steps p.tables e below (s₁.setTop (mkF m 4 #[.val (.ref a1), .val (.ref a2), .val (.int p3), .val (.int p4), .val (.ref a5)] [])) _
          refine XS.aloadN X0.here hx rfl (hb hby d3_4) rfl rfl ?_
          show Steps p.tables e below (s₁.setTop (mkF m 5 #[.val (.ref a1), .val (.ref a2), .val (.int p3), .val (.int p4), .val (.ref a5)] [(.ref a1)])) _
          refine XS.aloadN X0.here hx rfl (hb hby d3_5) rfl rfl ?_
          exact k)
        obtain ⟨T15, h15, X15, e15, W15, st15⟩ := putF X0 hx hZ hown (host := "") (Or.inl (hw _ (List.mem_of_getElem? (i := 21) rfl))) Via.refl e0 Fg0 En0 (Or.inl (hw _ (List.mem_of_getElem? (i := 22) rfl))) (hw _ (List.mem_of_getElem? (i := 1) rfl)) (ty := (.object "com/example/rosewood/rosewood/Node")) (by decide) rfl rfl (g := (mkF m 6 #[.val (.ref a1), .val (.ref a2), .val (.int p3), .val (.int p4), .val (.ref a5)] [(.ref a2), (.ref a1)])) rfl rfl (hb hby d3_6)
        have C15 : Go p e below T15 (mkF m 9 #[.val (.ref a1), .val (.ref a2), .val (.int p3), .val (.int p4), .val (.ref a5)] []) s₁ F0 := fun t k => C14 t (st15 t k)
        have En15 := En0.wr W15
        have Fl15 := Fl0.other W15 (Or.inr (slot_ne (Or.inl (hw _ (List.mem_of_getElem? (i := 20) rfl))) (Or.inl (hw _ (List.mem_of_getElem? (i := 22) rfl))) (by decide) (t := (.object "com/example/rosewood/rosewood/Node")) (t' := (.object "com/example/rosewood/rosewood/Node")) (by decide) (by decide)))
        have Fg15 := Fg0.same W15
        have N15 := Fr.snoc X15 N0 g_a1
        have K15 := (Keep.refl h0 [a1]).wr W15 (Or.inl (List.mem_of_getElem? (i := 0) rfl))
        have C16 : Go p e below T15 (mkF m 20 #[.val (.ref a1), .val (.ref a2), .val (.int p3), .val (.int p4), .val (.ref a5)] [(.ref a5), (.ref a1)]) s₁ F0 := fun t k => C15 t (by
          refine XS.aloadN X15.here hx rfl (hb hby d3_9) rfl rfl ?_
          show Steps p.tables e below (T15.setTop (mkF m 10 #[.val (.ref a1), .val (.ref a2), .val (.int p3), .val (.int p4), .val (.ref a5)] [(.ref a1)])) _
          refine XS.iloadN X15.here hx rfl (hb hby d3_10) rfl ?_
          show Steps p.tables e below (T15.setTop (mkF m 11 #[.val (.ref a1), .val (.ref a2), .val (.int p3), .val (.int p4), .val (.ref a5)] [(.int p4), (.ref a1)])) _
          refine XS.ifNo X15.here hx rfl (hb hby d3_11) rfl ((if0 _ _).trans (feq c4).1) ?_
          show Steps p.tables e below (T15.setTop (mkF m 14 #[.val (.ref a1), .val (.ref a2), .val (.int p3), .val (.int p4), .val (.ref a5)] [(.ref a1)])) _
          refine XS.aload X15.here hx rfl (hb hby d3_14) rfl rfl ?_
          show Steps p.tables e below (T15.setTop (mkF m 16 #[.val (.ref a1), .val (.ref a2), .val (.int p3), .val (.int p4), .val (.ref a5)] [(.ref a5), (.ref a1)])) _
          refine XS.goto X15.here hx rfl (pc0 := 16) (pc' := 20) rfl (hb hby d3_16) (by decide) (by decide) ?_
          exact k)
        obtain ⟨T17, h17, X17, e17, W17, st17⟩ := putF X15 hx hZ hown (host := "") (Or.inl (hw _ (List.mem_of_getElem? (i := 19) rfl))) Via.refl e15 Fl15 En15 (Or.inl (hw _ (List.mem_of_getElem? (i := 20) rfl))) (hw _ (List.mem_of_getElem? (i := 1) rfl)) (ty := (.object "com/example/rosewood/rosewood/Node")) (by decide) rfl rfl (g := (mkF m 20 #[.val (.ref a1), .val (.ref a2), .val (.int p3), .val (.int p4), .val (.ref a5)] [(.ref a5), (.ref a1)])) rfl rfl (hb hby d3_20)
        have C17 : Go p e below T17 (mkF m 23 #[.val (.ref a1), .val (.ref a2), .val (.int p3), .val (.int p4), .val (.ref a5)] []) s₁ F0 := fun t k => C16 t (st17 t k)
        have En17 := En15.wr W17
        have Fl17 := Fl15.same W17
        have Fg17 := Fg15.other W17 (Or.inr (slot_ne (Or.inl (hw _ (List.mem_of_getElem? (i := 22) rfl))) (Or.inl (hw _ (List.mem_of_getElem? (i := 20) rfl))) (by decide) (t := (.object "com/example/rosewood/rosewood/Node")) (t' := (.object "com/example/rosewood/rosewood/Node")) (by decide) (by decide)))
        have N17 := Fr.snoc X17 N15 g_a1
        have K17 := K15.wr W17 (Or.inl (List.mem_of_getElem? (i := 0) rfl))
        have C18 : Go p e below T17 (mkF m 45 #[.val (.ref a1), .val (.ref a2), .val (.int p3), .val (.int p4), .val (.ref a5)] []) s₁ F0 := fun t k => C17 t (by
          refine XS.goto X17.here hx rfl (pc0 := 23) (pc' := 45) rfl (hb hby d3_23) (by decide) (by decide) ?_
          exact k)
        exact ⟨_, _, _, _, _, X17, e17, N17, K17, ⟨En17, Fl17, Fg17, rfl⟩, ⟨fun _ => rfl, fun z => absurd z c⟩, C18⟩
  obtain ⟨fs, hr, hrun, hended, hW, hsame⟩ := XJ.leave (v := none) (fun _ => rfl)
  refine ⟨_, _, pre0 _ (CJ _ ?_), hrun, hended, _, _, rfl, ?_, ⟨_, rfl⟩, hW, hsame.mono (by decide) (by decide)⟩
  · exact XJ.returnOut hx Bd.returns (hb hby d3_45) hr
  · show Q3 Z a1 a2 p3 p4 a5 l0 r0 h0 n0 _ TJ.heap _
    rw [eJ]
    exact ⟨_, _, rfl, NJ, KJ, NdJ, RJ⟩
theorem d4_0 : decode prog_3_method_1_code 0 = .ok (.aload_n 0, 1) := by decide +kernel
theorem d4_1 : decode prog_3_method_1_code 1 = .ok (.invokespecial 1, 3) := by decide +kernel
theorem d4_4 : decode prog_3_method_1_code 4 = .ok (.aload_n 0, 1) := by decide +kernel
theorem d4_5 : decode prog_3_method_1_code 5 = .ok (.bipush 64, 2) := by decide +kernel
theorem d4_7 : decode prog_3_method_1_code 7 = .ok (.anewarray 9, 3) := by decide +kernel
theorem d4_10 : decode prog_3_method_1_code 10 = .ok (.putfield 11, 3) := by decide +kernel
theorem d4_13 : decode prog_3_method_1_code 13 = .ok (.return_, 1) := by decide +kernel
theorem pn_4 : plainName "com/example/rosewood/rosewood/Descent" = true := by first | (simp [plainName, overriddenIn]; done) | decide +kernel
theorem pd_4 : parseMethodDescriptor "()V" = some ⟨[], none⟩ := by decide +kernel
theorem ef_4 (m : MethodId) (x0 : Addr) : entryFrame m #[(.ref x0)] 1 = mkF m 0 #[.val (.ref x0)] [] := by first | (simp [entryFrame, mkF, argsToLocals, Value.category]; done) | rfl
def Q4 (Z : State) (a1 : Addr) (u1 : Value) (h0 : Heap) (n0 : Nat) (v : Option Value) (h : Heap) (L : List Loc) : Prop := ∃ (b : Addr) (k : ClassId), v = none ∧ Fr n0 L ∧ Keep h0 h [a1] ∧ h0.size ≤ b ∧ Exa Z h a1 "com/example/rosewood/rosewood/Descent" ∧ Fld Z h a1 "com/example/rosewood/rosewood/Descent" "path" "[Lcom/example/rosewood/rosewood/Node;" (.ref b) ∧ Fld Z h a1 "com/example/rosewood/rosewood/Descent" "depth" "I" (.int 0) ∧ Fld Z h a1 "com/example/rosewood/rosewood/Descent" "found" "Lcom/example/rosewood/rosewood/Node;" .null ∧ Fld Z h a1 "com/example/rosewood/rosewood/Descent" "side" "I" (.int 0) ∧ Arv Z h b k (.object "com/example/rosewood/rosewood/Node") 64 [] .null ∧ Ovr Z k "com/example/rosewood/rosewood/Node"
set_option maxRecDepth 65536 in
set_option maxHeartbeats 40000000 in
theorem rm4 (l : Launch) (Z : State) (a0 : Array Value) (hw : ∀ d ∈ tables_1, d.before a0 Z = true) (ws : List Jvm.Cond) (a1 : Addr) (u1 : Value) (h0 : Heap) (n0 : Nat) (Z0 : n0 ≤ h0.size) (F_path : Fld Z h0 a1 "com/example/rosewood/rosewood/Descent" "path" "[Lcom/example/rosewood/rosewood/Node;" u1) (F_depth : Fld Z h0 a1 "com/example/rosewood/rosewood/Descent" "depth" "I" (.int 0)) (F_found : Fld Z h0 a1 "com/example/rosewood/rosewood/Descent" "found" "Lcom/example/rosewood/rosewood/Node;" .null) (F_side : Fld Z h0 a1 "com/example/rosewood/rosewood/Descent" "side" "I" (.int 0)) (E_a1 : Exa Z h0 a1 "com/example/rosewood/rosewood/Descent") (g_a1 : n0 ≤ a1) :
    MetFree l (⟨"com/example/rosewood/rosewood/Descent", "<init>", "()V"⟩ : MethodName) (head1 (Jvm.Cond.code (⟨"com/example/rosewood/rosewood/Descent", "<init>", "()V"⟩ : MethodName) prog_3_method_1_code 1 none :: ws) ({ frames := 1, cells := 1, slots := 64, locals := 12 } : Room)) (fun a U => a = #[(.ref a1)] ∧ Z.Warmed39 U.vm ∧ U.heap = h0) (fun _ _ _ _ _ => True) (fun _ U o U' => ∃ v L, o = .returned v ∧ Q4 Z a1 u1 h0 n0 v U'.heap L ∧ FrameEnd U o U' L ({ frames := 1, cells := 1, slots := 64, locals := 12 } : Room).cells ({ frames := 1, cells := 1, slots := 64, locals := 12 } : Room).slots) := by
  refine MetFree.of_bodySF (plainFor_of_name pn_4) hisR ?_
  intro p e s m args below meth c s₁ Bd hml0 hP hK
  obtain ⟨rfl, hZ, hh⟩ := hP
  have hx := Bd.exec
  have hby := Bd.bytes
  have hml : c.maxLocals = 1 := hml0
  have hown : s.vm.findClass "com/example/rosewood/rosewood/Descent" = some m.cls := findClass_of_methodNamed Bd.named
  have hnm := (name_of_methodNamed Bd.named Bd.method).1
  have X0 : Stand p l e ({ frames := 1, cells := 1, slots := 64, locals := 12 } : Room) s m #[(.ref a1)] below meth c s₁ [] 0 0 := Stand.of_body Bd
  have e0 : s₁.heap = h0 := by rw [← hh, Bd.state]; rfl
  have N0 := Fr.nil n0
  obtain ⟨F0, hF0⟩ : ∃ F0, F0 = entryFrame m #[(.ref a1)] 1 := ⟨_, rfl⟩
  have C0 : Go p e below s₁ (mkF m 0 #[.val (.ref a1)] []) s₁ F0 := fun t k => by rw [hF0]; exact castTop (ef_4 m a1) k
  have pre0 : ∀ t, Steps p.tables e below (s₁.setTop F0) t → Steps p.tables e below (s₁.setTop (entryFrame m #[(.ref a1)] 1)) t := fun t k => by rw [← hF0]; exact k
  have C1 : Go p e below s₁ (mkF m 1 #[.val (.ref a1)] [(.ref a1)]) s₁ F0 := fun t k => C0 t (by
    refine XS.aloadN X0.here hx rfl (hb hby d4_0) rfl rfl ?_
    exact k)
  obtain ⟨T2, X2, e2, st2⟩ := initO X0 hx hZ hown (hw _ (List.mem_of_getElem? (i := 29) rfl)) (hw _ (List.mem_of_getElem? (i := 7) rfl)) (hw _ (List.mem_of_getElem? (i := 8) rfl)) e0 (g := (mkF m 1 #[.val (.ref a1)] [(.ref a1)])) rfl (by rw [hml]; rfl) rfl (hb hby d4_1) (by decide) (W := 0) (by show 2 * 0 + _ ≤ _; exact Nat.le_of_eq rfl) (by decide)
  have C2 : Go p e below T2 (mkF m 4 #[.val (.ref a1)] []) s₁ F0 := fun t k => C1 t (st2 t k)
  have C3 : Go p e below T2 (mkF m 7 #[.val (.ref a1)] [(.int (64 : Int32)), (.ref a1)]) s₁ F0 := fun t k => C2 t (by
    refine XS.aloadN X2.here hx rfl (hb hby d4_4) rfl rfl ?_
    show Steps p.tables e below (T2.setTop (mkF m 5 #[.val (.ref a1)] [(.ref a1)])) _
    refine XS.bipush X2.here hx rfl (hb hby d4_5) ?_
    exact k)
  obtain ⟨T4, h4, k4, X4, e4, E4, A4, O4, st4⟩ := newR X2 hx hZ hown (hw _ (List.mem_of_getElem? (i := 30) rfl)) (hw _ (List.mem_of_getElem? (i := 31) rfl)) e2 (g := (mkF m 7 #[.val (.ref a1)] [(.int (64 : Int32)), (.ref a1)])) rfl (hb hby d4_7) rfl (by decide) (cap := 64) (by decide) (by decide) (by decide) (by decide)
  obtain ⟨b4, g4⟩ : ∃ z, z = h0.size := ⟨_, rfl⟩
  rw [← g4] at A4 st4
  have C4 : Go p e below T4 (mkF m 10 #[.val (.ref a1)] [(.ref b4), (.ref a1)]) s₁ F0 := fun t k => C3 t (st4 t k)
  have V4 : Arv Z h4 b4 k4 (.object "com/example/rosewood/rosewood/Node") 64 [] .null := Arv.new A4 (by decide)
  have ne : a1 ≠ b4 := Nat.ne_of_lt (Nat.lt_of_lt_of_le E_a1.lt (Nat.le_of_eq g4.symm))
  obtain ⟨T5, h5, X5, e5, W5, st5⟩ := putF X4 hx hZ hown (host := "") (Or.inl (hw _ (List.mem_of_getElem? (i := 32) rfl))) Via.refl e4 (F_path.ext E4) (E_a1.ext E4) (Or.inr ⟨(hw _ (List.mem_of_getElem? (i := 33) rfl)), rfl, hnm⟩) (hw _ (List.mem_of_getElem? (i := 24) rfl)) (ty := (.array (.object "com/example/rosewood/rosewood/Node"))) (by decide) rfl rfl (g := (mkF m 10 #[.val (.ref a1)] [(.ref b4), (.ref a1)])) rfl rfl (hb hby d4_10)
  have C5 : Go p e below T5 (mkF m 13 #[.val (.ref a1)] []) s₁ F0 := fun t k => C4 t (st5 t k)
  have N5 := Fr.snoc X5 N0 g_a1
  have K5 := ((Keep.refl h0 [a1]).ext E4).wr W5 (Or.inl (List.mem_of_getElem? (i := 0) rfl))
  obtain ⟨fs, hr, hrun, hended, hW, hsame⟩ := X5.leave (v := none) (fun _ => rfl)
  refine ⟨_, _, pre0 _ (C5 _ ?_), hrun, hended, _, _, rfl, ?_, ⟨_, rfl⟩, hW, hsame.mono (by decide) (by decide)⟩
  · exact X5.returnOut hx Bd.returns (hb hby d4_13) hr
  · show Q4 Z a1 u1 h0 n0 _ T5.heap _
    rw [e5]
    exact ⟨b4, k4, rfl, N5, K5, Nat.le_of_eq g4.symm, (E_a1.ext E4).wr W5, (F_path.ext E4).same W5, (F_depth.ext E4).other W5 (Or.inr (slot_ne (Or.inl (hw _ (List.mem_of_getElem? (i := 37) rfl))) (Or.inr (hw _ (List.mem_of_getElem? (i := 33) rfl))) (by decide) (t := .int) (t' := (.array (.object "com/example/rosewood/rosewood/Node"))) (by decide) (by decide))), (F_found.ext E4).other W5 (Or.inr (slot_ne (Or.inl (hw _ (List.mem_of_getElem? (i := 39) rfl))) (Or.inr (hw _ (List.mem_of_getElem? (i := 33) rfl))) (by decide) (t := (.object "com/example/rosewood/rosewood/Node")) (t' := (.array (.object "com/example/rosewood/rosewood/Node"))) (by decide) (by decide))), (F_side.ext E4).other W5 (Or.inr (slot_ne (Or.inl (hw _ (List.mem_of_getElem? (i := 41) rfl))) (Or.inr (hw _ (List.mem_of_getElem? (i := 33) rfl))) (by decide) (t := .int) (t' := (.array (.object "com/example/rosewood/rosewood/Node"))) (by decide) (by decide))), V4.other W5 ne.symm, O4⟩
theorem d5_0 : decode prog_3_method_6_code 0 = .ok (.iload_n 1, 1) := by decide +kernel
theorem d5_1 : decode prog_3_method_6_code 1 = .ok (.iconst 1, 1) := by decide +kernel
theorem d5_2 : decode prog_3_method_6_code 2 = .ok (.iadd, 1) := by decide +kernel
theorem d5_3 : decode prog_3_method_6_code 3 = .ok (.aload_n 0, 1) := by decide +kernel
theorem d5_4 : decode prog_3_method_6_code 4 = .ok (.getfield 19, 3) := by decide +kernel
theorem d5_7 : decode prog_3_method_6_code 7 = .ok (.if_icmp .ge 14, 3) := by decide +kernel
theorem d5_10 : decode prog_3_method_6_code 10 = .ok (.aload_n 0, 1) := by decide +kernel
theorem d5_11 : decode prog_3_method_6_code 11 = .ok (.getfield 11, 3) := by decide +kernel
theorem d5_14 : decode prog_3_method_6_code 14 = .ok (.iload_n 1, 1) := by decide +kernel
theorem d5_15 : decode prog_3_method_6_code 15 = .ok (.iconst 1, 1) := by decide +kernel
theorem d5_16 : decode prog_3_method_6_code 16 = .ok (.iadd, 1) := by decide +kernel
theorem d5_17 : decode prog_3_method_6_code 17 = .ok (.aaload, 1) := by decide +kernel
theorem d5_18 : decode prog_3_method_6_code 18 = .ok (.goto 7, 3) := by decide +kernel
theorem d5_21 : decode prog_3_method_6_code 21 = .ok (.aload_n 0, 1) := by decide +kernel
theorem d5_22 : decode prog_3_method_6_code 22 = .ok (.getfield 23, 3) := by decide +kernel
theorem d5_25 : decode prog_3_method_6_code 25 = .ok (.astore_n 2, 1) := by decide +kernel
theorem d5_26 : decode prog_3_method_6_code 26 = .ok (.aload_n 2, 1) := by decide +kernel
theorem d5_27 : decode prog_3_method_6_code 27 = .ok (.ifnonnull 18, 3) := by decide +kernel
theorem d5_30 : decode prog_3_method_6_code 30 = .ok (.aload_n 0, 1) := by decide +kernel
theorem d5_31 : decode prog_3_method_6_code 31 = .ok (.getfield 31, 3) := by decide +kernel
theorem d5_34 : decode prog_3_method_6_code 34 = .ok (.ifCond .le 7, 3) := by decide +kernel
theorem d5_37 : decode prog_3_method_6_code 37 = .ok (.iconst 1, 1) := by decide +kernel
theorem d5_38 : decode prog_3_method_6_code 38 = .ok (.goto 25, 3) := by decide +kernel
theorem d5_41 : decode prog_3_method_6_code 41 = .ok (.iconst 0, 1) := by decide +kernel
theorem d5_42 : decode prog_3_method_6_code 42 = .ok (.goto 21, 3) := by decide +kernel
theorem d5_45 : decode prog_3_method_6_code 45 = .ok (.aload_n 0, 1) := by decide +kernel
theorem d5_46 : decode prog_3_method_6_code 46 = .ok (.getfield 11, 3) := by decide +kernel
theorem d5_49 : decode prog_3_method_6_code 49 = .ok (.iload_n 1, 1) := by decide +kernel
theorem d5_50 : decode prog_3_method_6_code 50 = .ok (.aaload, 1) := by decide +kernel
theorem d5_51 : decode prog_3_method_6_code 51 = .ok (.getfield 38, 3) := by decide +kernel
theorem d5_54 : decode prog_3_method_6_code 54 = .ok (.aload_n 2, 1) := by decide +kernel
theorem d5_55 : decode prog_3_method_6_code 55 = .ok (.if_acmp .ne 7, 3) := by decide +kernel
theorem d5_58 : decode prog_3_method_6_code 58 = .ok (.iconst 1, 1) := by decide +kernel
theorem d5_59 : decode prog_3_method_6_code 59 = .ok (.goto 4, 3) := by decide +kernel
theorem d5_62 : decode prog_3_method_6_code 62 = .ok (.iconst 0, 1) := by decide +kernel
theorem d5_63 : decode prog_3_method_6_code 63 = .ok (.ireturn, 1) := by decide +kernel
theorem pn_5 : plainName "com/example/rosewood/rosewood/Descent" = true := by first | (simp [plainName, overriddenIn]; done) | decide +kernel
theorem pd_5 : parseMethodDescriptor "(I)Z" = some ⟨[.int], some .boolean⟩ := by decide +kernel
theorem ef_5 (m : MethodId) (x0 : Addr) (x1 : Int32) : entryFrame m #[(.ref x0), (.int x1)] 3 = mkF m 0 #[.val (.ref x0), .val (.int x1), .unset] [] := by first | (simp [entryFrame, mkF, argsToLocals, Value.category]; done) | rfl
def Q5 (Z : State) (a1 : Addr) (p2 d : Int32) (b m0 m1 m2 x y : Addr) (k : ClassId) (fv lx rx : Value) (h0 : Heap) (n0 : Nat) (v : Option Value) (h : Heap) (L : List Loc) : Prop := v = some (.int (own_is rx y)) ∧ Fr n0 L ∧ h = h0
set_option maxRecDepth 65536 in
set_option maxHeartbeats 40000000 in
theorem rm5 (l : Launch) (Z : State) (a0 : Array Value) (hw : ∀ d ∈ tables_1, d.before a0 Z = true) (ws : List Jvm.Cond) (a1 : Addr) (p2 d : Int32) (b m0 m1 m2 x y : Addr) (k : ClassId) (fv lx rx : Value) (h0 : Heap) (n0 : Nat) (Z0 : n0 ≤ h0.size) (Fp : Fld Z h0 a1 "com/example/rosewood/rosewood/Descent" "path" "[Lcom/example/rosewood/rosewood/Node;" (.ref b)) (Fd : Fld Z h0 a1 "com/example/rosewood/rosewood/Descent" "depth" "I" (.int d)) (Ff : Fld Z h0 a1 "com/example/rosewood/rosewood/Descent" "found" "Lcom/example/rosewood/rosewood/Node;" fv) (V0 : Arv Z h0 b k (.object "com/example/rosewood/rosewood/Node") 64 ([.ref m0, .ref m1, .ref m2] : List Value) .null) (hp0 : ¬ p2 < 0) (hp1 : p2 < 64) (hxx : ([.ref m0, .ref m1, .ref m2] : List Value).getD p2.toNatClampNeg .null = .ref x) (Ndx : Nd Z h0 x lx rx) (hrr : rx = .null ∨ ∃ z, rx = .ref z) (hsel : ((p2 + 1) < d ∧ ¬ (p2 + 1) < 0 ∧ (p2 + 1) < 64 ∧ ([.ref m0, .ref m1, .ref m2] : List Value).getD (p2 + 1).toNatClampNeg .null = .ref y) ∨ (¬ (p2 + 1) < d ∧ fv = .ref y)) :
    MetFree l (⟨"com/example/rosewood/rosewood/Descent", "turnsRight", "(I)Z"⟩ : MethodName) (head1 (Jvm.Cond.code (⟨"com/example/rosewood/rosewood/Descent", "turnsRight", "(I)Z"⟩ : MethodName) prog_3_method_6_code 3 (some .boolean) :: ws) ({ frames := 0, cells := 0, slots := 0, locals := 0 } : Room)) (fun a U => a = #[(.ref a1), (.int p2)] ∧ Z.Warmed39 U.vm ∧ U.heap = h0) (fun _ _ _ _ _ => True) (fun _ U o U' => ∃ v L, o = .returned v ∧ Q5 Z a1 p2 d b m0 m1 m2 x y k fv lx rx h0 n0 v U'.heap L ∧ FrameEnd U o U' L ({ frames := 0, cells := 0, slots := 0, locals := 0 } : Room).cells ({ frames := 0, cells := 0, slots := 0, locals := 0 } : Room).slots) := by
  refine MetFree.of_bodySF (plainFor_of_name pn_5) hisR ?_
  intro p e s m args below meth c s₁ Bd hml0 hP hK
  obtain ⟨rfl, hZ, hh⟩ := hP
  have hx := Bd.exec
  have hby := Bd.bytes
  have hml : c.maxLocals = 3 := hml0
  have hown : s.vm.findClass "com/example/rosewood/rosewood/Descent" = some m.cls := findClass_of_methodNamed Bd.named
  have hnm := (name_of_methodNamed Bd.named Bd.method).1
  have X0 : Stand p l e ({ frames := 0, cells := 0, slots := 0, locals := 0 } : Room) s m #[(.ref a1), (.int p2)] below meth c s₁ [] 0 0 := Stand.of_body Bd
  have e0 : s₁.heap = h0 := by rw [← hh, Bd.state]; rfl
  have N0 := Fr.nil n0
  obtain ⟨F0, hF0⟩ : ∃ F0, F0 = entryFrame m #[(.ref a1), (.int p2)] 3 := ⟨_, rfl⟩
  have C0 : Go p e below s₁ (mkF m 0 #[.val (.ref a1), .val (.int p2), .unset] []) s₁ F0 := fun t k => by rw [hF0]; exact castTop (ef_5 m a1 p2) k
  have pre0 : ∀ t, Steps p.tables e below (s₁.setTop F0) t → Steps p.tables e below (s₁.setTop (entryFrame m #[(.ref a1), (.int p2)] 3)) t := fun t k => by rw [← hF0]; exact k
  obtain ⟨cl0, Ar0, q0, S0, M0, H0, G0⟩ := V0
  have C1 : Go p e below s₁ (mkF m 4 #[.val (.ref a1), .val (.int p2), .unset] [(.ref a1), (.int (p2 + (1 : Int32)))]) s₁ F0 := fun t k => C0 t (by
    refine XS.iloadN X0.here hx rfl (hb hby d5_0) rfl ?_
    show Steps p.tables e below (s₁.setTop (mkF m 1 #[.val (.ref a1), .val (.int p2), .unset] [(.int p2)])) _
    refine XS.iconst X0.here hx rfl (hb hby d5_1) ?_
    show Steps p.tables e below (s₁.setTop (mkF m 2 #[.val (.ref a1), .val (.int p2), .unset] [(.int (1 : Int32)), (.int p2)])) _
    refine XS.iadd X0.here hx rfl (hb hby d5_2) rfl ?_
    show Steps p.tables e below (s₁.setTop (mkF m 3 #[.val (.ref a1), .val (.int p2), .unset] [(.int (p2 + (1 : Int32)))])) _
    refine XS.aloadN X0.here hx rfl (hb hby d5_3) rfl rfl ?_
    exact k)
  obtain ⟨T2, X2, e2, st2⟩ := getF X0 hx hZ hown (host := "") (Or.inl (hw _ (List.mem_of_getElem? (i := 47) rfl))) Via.refl e0 Fd (g := (mkF m 4 #[.val (.ref a1), .val (.int p2), .unset] [(.ref a1), (.int (p2 + (1 : Int32)))])) rfl rfl (hb hby d5_4)
  have C2 : Go p e below T2 (mkF m 7 #[.val (.ref a1), .val (.int p2), .unset] [(.int d), (.int (p2 + (1 : Int32)))]) s₁ F0 := fun t k => C1 t (st2 t k)
  obtain ⟨T26, X26, e26, C26⟩ : ∃ T', Stand p l e ({ frames := 0, cells := 0, slots := 0, locals := 0 } : Room) s m #[(.ref a1), (.int p2)] below meth c T' [] 0 0 ∧ T'.heap = h0 ∧ Go p e below T' (mkF m 26 #[.val (.ref a1), .val (.int p2), .val (.ref y)] []) s₁ F0 := by
    rcases hsel with ⟨c, c0, c1, hat⟩ | ⟨c, rfl⟩
    · have hin := inb_of S0 ⟨c0, c1⟩
      have hat' := H0.at hin hat
      have C3 : Go p e below T2 (mkF m 11 #[.val (.ref a1), .val (.int p2), .unset] [(.ref a1)]) s₁ F0 := fun t k => C2 t (by
        refine XS.icmpNo X2.here hx rfl (hb hby d5_7) rfl (tlt c).2.1 ?_
        show Steps p.tables e below (T2.setTop (mkF m 10 #[.val (.ref a1), .val (.int p2), .unset] [])) _
        refine XS.aloadN X2.here hx rfl (hb hby d5_10) rfl rfl ?_
        exact k)
      obtain ⟨T4, X4, e4, st4⟩ := getF X2 hx hZ hown (host := "") (Or.inl (hw _ (List.mem_of_getElem? (i := 32) rfl))) Via.refl e2 Fp (g := (mkF m 11 #[.val (.ref a1), .val (.int p2), .unset] [(.ref a1)])) rfl rfl (hb hby d5_11)
      have C4 : Go p e below T4 (mkF m 14 #[.val (.ref a1), .val (.int p2), .unset] [(.ref b)]) s₁ F0 := fun t k => C3 t (st4 t k)
      have C5 : Go p e below T4 (mkF m 26 #[.val (.ref a1), .val (.int p2), .val (.ref y)] []) s₁ F0 := fun t k => C4 t (by
        refine XS.iloadN X4.here hx rfl (hb hby d5_14) rfl ?_
        show Steps p.tables e below (T4.setTop (mkF m 15 #[.val (.ref a1), .val (.int p2), .unset] [(.int p2), (.ref b)])) _
        refine XS.iconst X4.here hx rfl (hb hby d5_15) ?_
        show Steps p.tables e below (T4.setTop (mkF m 16 #[.val (.ref a1), .val (.int p2), .unset] [(.int (1 : Int32)), (.int p2), (.ref b)])) _
        refine XS.iadd X4.here hx rfl (hb hby d5_16) rfl ?_
        show Steps p.tables e below (T4.setTop (mkF m 17 #[.val (.ref a1), .val (.int p2), .unset] [(.int (p2 + (1 : Int32))), (.ref b)])) _
        refine X4.aaload hx (j := (p2 + (1 : Int32))) (v := (.ref y)) (by rw [e4]; exact Ar0.1) (State.isArrayOf_alike hZ.alike Ar0.2.1) rfl Ar0.2.2 hin hat' (g := (mkF m 17 #[.val (.ref a1), .val (.int p2), .unset] [(.int (p2 + (1 : Int32))), (.ref b)])) rfl rfl (hb hby d5_17) _ ?_
        show Steps p.tables e below (T4.setTop (mkF m 18 #[.val (.ref a1), .val (.int p2), .unset] [(.ref y)])) _
        refine XS.goto X4.here hx rfl (pc0 := 18) (pc' := 25) rfl (hb hby d5_18) (by decide) (by decide) ?_
        show Steps p.tables e below (T4.setTop (mkF m 25 #[.val (.ref a1), .val (.int p2), .unset] [(.ref y)])) _
        refine XS.astoreN X4.here hx rfl (hb hby d5_25) rfl rfl (l' := #[.val (.ref a1), .val (.int p2), .val (.ref y)]) rfl ?_
        exact k)
      exact ⟨_, X4, e4, C5⟩
    · skip
      have C6 : Go p e below T2 (mkF m 22 #[.val (.ref a1), .val (.int p2), .unset] [(.ref a1)]) s₁ F0 := fun t k => C2 t (by
        refine XS.icmpYes X2.here hx rfl (pc0 := 7) (pc' := 21) rfl (hb hby d5_7) rfl (flt c).2.1 (by decide) (by decide) ?_
        show Steps p.tables e below (T2.setTop (mkF m 21 #[.val (.ref a1), .val (.int p2), .unset] [])) _
        refine XS.aloadN X2.here hx rfl (hb hby d5_21) rfl rfl ?_
        exact k)
      obtain ⟨T7, X7, e7, st7⟩ := getF X2 hx hZ hown (host := "") (Or.inl (hw _ (List.mem_of_getElem? (i := 48) rfl))) Via.refl e2 Ff (g := (mkF m 22 #[.val (.ref a1), .val (.int p2), .unset] [(.ref a1)])) rfl rfl (hb hby d5_22)
      have C7 : Go p e below T7 (mkF m 25 #[.val (.ref a1), .val (.int p2), .unset] [(.ref y)]) s₁ F0 := fun t k => C6 t (st7 t k)
      have C8 : Go p e below T7 (mkF m 26 #[.val (.ref a1), .val (.int p2), .val (.ref y)] []) s₁ F0 := fun t k => C7 t (by
        refine XS.astoreN X7.here hx rfl (hb hby d5_25) rfl rfl (l' := #[.val (.ref a1), .val (.int p2), .val (.ref y)]) rfl ?_
        exact k)
      exact ⟨_, X7, e7, C8⟩
  have hin := inb_of S0 ⟨hp0, hp1⟩
  have hat := H0.at hin hxx
  have C9 : Go p e below T26 (mkF m 46 #[.val (.ref a1), .val (.int p2), .val (.ref y)] [(.ref a1)]) s₁ F0 := fun t k => C26 t (by
    refine XS.aloadN X26.here hx rfl (hb hby d5_26) rfl rfl ?_
    show Steps p.tables e below (T26.setTop (mkF m 27 #[.val (.ref a1), .val (.int p2), .val (.ref y)] [(.ref y)])) _
    refine XS.ifnonnullYes X26.here hx rfl (pc0 := 27) (pc' := 45) rfl (hb hby d5_27) rfl (by decide) (by decide) ?_
    show Steps p.tables e below (T26.setTop (mkF m 45 #[.val (.ref a1), .val (.int p2), .val (.ref y)] [])) _
    refine XS.aloadN X26.here hx rfl (hb hby d5_45) rfl rfl ?_
    exact k)
  obtain ⟨T10, X10, e10, st10⟩ := getF X26 hx hZ hown (host := "") (Or.inl (hw _ (List.mem_of_getElem? (i := 32) rfl))) Via.refl e26 Fp (g := (mkF m 46 #[.val (.ref a1), .val (.int p2), .val (.ref y)] [(.ref a1)])) rfl rfl (hb hby d5_46)
  have C10 : Go p e below T10 (mkF m 49 #[.val (.ref a1), .val (.int p2), .val (.ref y)] [(.ref b)]) s₁ F0 := fun t k => C9 t (st10 t k)
  have C11 : Go p e below T10 (mkF m 51 #[.val (.ref a1), .val (.int p2), .val (.ref y)] [(.ref x)]) s₁ F0 := fun t k => C10 t (by
    refine XS.iloadN X10.here hx rfl (hb hby d5_49) rfl ?_
    show Steps p.tables e below (T10.setTop (mkF m 50 #[.val (.ref a1), .val (.int p2), .val (.ref y)] [(.int p2), (.ref b)])) _
    refine X10.aaload hx (j := p2) (v := (.ref x)) (by rw [e10]; exact Ar0.1) (State.isArrayOf_alike hZ.alike Ar0.2.1) rfl Ar0.2.2 hin hat (g := (mkF m 50 #[.val (.ref a1), .val (.int p2), .val (.ref y)] [(.int p2), (.ref b)])) rfl rfl (hb hby d5_50) _ ?_
    exact k)
  obtain ⟨T63, X63, e63, C63⟩ : ∃ T', Stand p l e ({ frames := 0, cells := 0, slots := 0, locals := 0 } : Room) s m #[(.ref a1), (.int p2)] below meth c T' [] 0 0 ∧ T'.heap = h0 ∧ Go p e below T' (mkF m 63 #[.val (.ref a1), .val (.int p2), .val (.ref y)] [(.int (own_is rx y))]) s₁ F0 := by
    rcases hrr with rfl | ⟨z, rfl⟩
    · have q : own_is .null y = 0 := if_neg nofun
      obtain ⟨T12, X12, e12, st12⟩ := getF X10 hx hZ hown (host := "") (Or.inl (hw _ (List.mem_of_getElem? (i := 49) rfl))) Via.refl e10 Ndx.2.2.1 (g := (mkF m 51 #[.val (.ref a1), .val (.int p2), .val (.ref y)] [(.ref x)])) rfl rfl (hb hby d5_51)
      have C12 : Go p e below T12 (mkF m 54 #[.val (.ref a1), .val (.int p2), .val (.ref y)] [.null]) s₁ F0 := fun t k => C11 t (st12 t k)
      have C13 : Go p e below T12 (mkF m 63 #[.val (.ref a1), .val (.int p2), .val (.ref y)] [(.int (0 : Int32))]) s₁ F0 := fun t k => C12 t (by
        refine XS.aloadN X12.here hx rfl (hb hby d5_54) rfl rfl ?_
        show Steps p.tables e below (T12.setTop (mkF m 55 #[.val (.ref a1), .val (.int p2), .val (.ref y)] [(.ref y), .null])) _
        refine Jvm.RoadKit.acmp (g := (mkF m 55 #[.val (.ref a1), .val (.int p2), .val (.ref y)] [(.ref y), .null])) X12 hx rfl rfl rfl (pc0 := 55) (pc' := 62) (same := false) rfl (hb hby d5_55) rfl (decide_eq_false nofun) (by decide) (by decide) ?_
        show Steps p.tables e below (T12.setTop (mkF m 62 #[.val (.ref a1), .val (.int p2), .val (.ref y)] [])) _
        refine XS.iconst X12.here hx rfl (hb hby d5_62) ?_
        exact k)
      rw [q]
      exact ⟨_, X12, e12, C13⟩
    · by_cases c : z = y
      · have q : own_is (.ref z) y = 1 := if_pos (congrArg Value.ref c)
        obtain ⟨T14, X14, e14, st14⟩ := getF X10 hx hZ hown (host := "") (Or.inl (hw _ (List.mem_of_getElem? (i := 49) rfl))) Via.refl e10 Ndx.2.2.1 (g := (mkF m 51 #[.val (.ref a1), .val (.int p2), .val (.ref y)] [(.ref x)])) rfl rfl (hb hby d5_51)
        have C14 : Go p e below T14 (mkF m 54 #[.val (.ref a1), .val (.int p2), .val (.ref y)] [(.ref z)]) s₁ F0 := fun t k => C11 t (st14 t k)
        have C15 : Go p e below T14 (mkF m 63 #[.val (.ref a1), .val (.int p2), .val (.ref y)] [(.int (1 : Int32))]) s₁ F0 := fun t k => C14 t (by
          refine XS.aloadN X14.here hx rfl (hb hby d5_54) rfl rfl ?_
          show Steps p.tables e below (T14.setTop (mkF m 55 #[.val (.ref a1), .val (.int p2), .val (.ref y)] [(.ref y), (.ref z)])) _
          refine Jvm.RoadKit.acmp (g := (mkF m 55 #[.val (.ref a1), .val (.int p2), .val (.ref y)] [(.ref y), (.ref z)])) X14 hx rfl rfl rfl (pc0 := 55) (pc' := 58) (same := true) rfl (hb hby d5_55) rfl (decide_eq_true (congrArg Value.ref c)) (by decide) (by decide) ?_
          show Steps p.tables e below (T14.setTop (mkF m 58 #[.val (.ref a1), .val (.int p2), .val (.ref y)] [])) _
          refine XS.iconst X14.here hx rfl (hb hby d5_58) ?_
          show Steps p.tables e below (T14.setTop (mkF m 59 #[.val (.ref a1), .val (.int p2), .val (.ref y)] [(.int (1 : Int32))])) _
          refine XS.goto X14.here hx rfl (pc0 := 59) (pc' := 63) rfl (hb hby d5_59) (by decide) (by decide) ?_
          exact k)
        rw [q]
        exact ⟨_, X14, e14, C15⟩
      · have q : own_is (.ref z) y = 0 := if_neg fun w => c (Value.ref.inj w)
        obtain ⟨T16, X16, e16, st16⟩ := getF X10 hx hZ hown (host := "") (Or.inl (hw _ (List.mem_of_getElem? (i := 49) rfl))) Via.refl e10 Ndx.2.2.1 (g := (mkF m 51 #[.val (.ref a1), .val (.int p2), .val (.ref y)] [(.ref x)])) rfl rfl (hb hby d5_51)
        have C16 : Go p e below T16 (mkF m 54 #[.val (.ref a1), .val (.int p2), .val (.ref y)] [(.ref z)]) s₁ F0 := fun t k => C11 t (st16 t k)
        have C17 : Go p e below T16 (mkF m 63 #[.val (.ref a1), .val (.int p2), .val (.ref y)] [(.int (0 : Int32))]) s₁ F0 := fun t k => C16 t (by
          refine XS.aloadN X16.here hx rfl (hb hby d5_54) rfl rfl ?_
          show Steps p.tables e below (T16.setTop (mkF m 55 #[.val (.ref a1), .val (.int p2), .val (.ref y)] [(.ref y), (.ref z)])) _
          refine Jvm.RoadKit.acmp (g := (mkF m 55 #[.val (.ref a1), .val (.int p2), .val (.ref y)] [(.ref y), (.ref z)])) X16 hx rfl rfl rfl (pc0 := 55) (pc' := 62) (same := false) rfl (hb hby d5_55) rfl (decide_eq_false fun w => c (Value.ref.inj w)) (by decide) (by decide) ?_
          show Steps p.tables e below (T16.setTop (mkF m 62 #[.val (.ref a1), .val (.int p2), .val (.ref y)] [])) _
          refine XS.iconst X16.here hx rfl (hb hby d5_62) ?_
          exact k)
        rw [q]
        exact ⟨_, X16, e16, C17⟩
  obtain ⟨fs, hr, hrun, hended, hW, hsame⟩ := X63.leave (v := (some (.int (nar .boolean (own_is rx y))))) (fun h => by rw [Bd.returns] at h; cases h)
  refine ⟨_, _, pre0 _ (C63 _ ?_), hrun, hended, _, _, rfl, ?_, ⟨_, rfl⟩, hW, hsame.mono (by decide) (by decide)⟩
  · exact retN X63 hx (t := .boolean) Bd.returns (by simp) (hb hby d5_63) hr
  · show Q5 Z a1 p2 d b m0 m1 m2 x y k fv lx rx h0 n0 _ T63.heap _
    rw [e63]
    exact ⟨congrArg (fun z => some (Value.int z)) (by unfold own_is; split <;> rfl), N0, rfl⟩
def Q5n (Z : State) (a1 : Addr) (p2 d sd : Int32) (h0 : Heap) (n0 : Nat) (v : Option Value) (h : Heap) (L : List Loc) : Prop := v = some (.int (if 0 < sd then 1 else 0)) ∧ Fr n0 L ∧ h = h0
set_option maxRecDepth 65536 in
set_option maxHeartbeats 40000000 in
theorem rm5n (l : Launch) (Z : State) (a0 : Array Value) (hw : ∀ d ∈ tables_1, d.before a0 Z = true) (ws : List Jvm.Cond) (a1 : Addr) (p2 d sd : Int32) (h0 : Heap) (n0 : Nat) (Z0 : n0 ≤ h0.size) (Fd : Fld Z h0 a1 "com/example/rosewood/rosewood/Descent" "depth" "I" (.int d)) (Ff : Fld Z h0 a1 "com/example/rosewood/rosewood/Descent" "found" "Lcom/example/rosewood/rosewood/Node;" .null) (Fs : Fld Z h0 a1 "com/example/rosewood/rosewood/Descent" "side" "I" (.int sd)) (hcc : ¬ (p2 + 1) < d) :
    MetFree l (⟨"com/example/rosewood/rosewood/Descent", "turnsRight", "(I)Z"⟩ : MethodName) (head1 (Jvm.Cond.code (⟨"com/example/rosewood/rosewood/Descent", "turnsRight", "(I)Z"⟩ : MethodName) prog_3_method_6_code 3 (some .boolean) :: ws) ({ frames := 0, cells := 0, slots := 0, locals := 0 } : Room)) (fun a U => a = #[(.ref a1), (.int p2)] ∧ Z.Warmed39 U.vm ∧ U.heap = h0) (fun _ _ _ _ _ => True) (fun _ U o U' => ∃ v L, o = .returned v ∧ Q5n Z a1 p2 d sd h0 n0 v U'.heap L ∧ FrameEnd U o U' L ({ frames := 0, cells := 0, slots := 0, locals := 0 } : Room).cells ({ frames := 0, cells := 0, slots := 0, locals := 0 } : Room).slots) := by
  refine MetFree.of_bodySF (plainFor_of_name pn_5) hisR ?_
  intro p e s m args below meth c s₁ Bd hml0 hP hK
  obtain ⟨rfl, hZ, hh⟩ := hP
  have hx := Bd.exec
  have hby := Bd.bytes
  have hml : c.maxLocals = 3 := hml0
  have hown : s.vm.findClass "com/example/rosewood/rosewood/Descent" = some m.cls := findClass_of_methodNamed Bd.named
  have hnm := (name_of_methodNamed Bd.named Bd.method).1
  have X0 : Stand p l e ({ frames := 0, cells := 0, slots := 0, locals := 0 } : Room) s m #[(.ref a1), (.int p2)] below meth c s₁ [] 0 0 := Stand.of_body Bd
  have e0 : s₁.heap = h0 := by rw [← hh, Bd.state]; rfl
  have N0 := Fr.nil n0
  obtain ⟨F0, hF0⟩ : ∃ F0, F0 = entryFrame m #[(.ref a1), (.int p2)] 3 := ⟨_, rfl⟩
  have C0 : Go p e below s₁ (mkF m 0 #[.val (.ref a1), .val (.int p2), .unset] []) s₁ F0 := fun t k => by rw [hF0]; exact castTop (ef_5 m a1 p2) k
  have pre0 : ∀ t, Steps p.tables e below (s₁.setTop F0) t → Steps p.tables e below (s₁.setTop (entryFrame m #[(.ref a1), (.int p2)] 3)) t := fun t k => by rw [← hF0]; exact k
  have C1 : Go p e below s₁ (mkF m 4 #[.val (.ref a1), .val (.int p2), .unset] [(.ref a1), (.int (p2 + (1 : Int32)))]) s₁ F0 := fun t k => C0 t (by
    refine XS.iloadN X0.here hx rfl (hb hby d5_0) rfl ?_
    show Steps p.tables e below (s₁.setTop (mkF m 1 #[.val (.ref a1), .val (.int p2), .unset] [(.int p2)])) _
    refine XS.iconst X0.here hx rfl (hb hby d5_1) ?_
    show Steps p.tables e below (s₁.setTop (mkF m 2 #[.val (.ref a1), .val (.int p2), .unset] [(.int (1 : Int32)), (.int p2)])) _
    refine XS.iadd X0.here hx rfl (hb hby d5_2) rfl ?_
    show Steps p.tables e below (s₁.setTop (mkF m 3 #[.val (.ref a1), .val (.int p2), .unset] [(.int (p2 + (1 : Int32)))])) _
    refine XS.aloadN X0.here hx rfl (hb hby d5_3) rfl rfl ?_
    exact k)
  obtain ⟨T2, X2, e2, st2⟩ := getF X0 hx hZ hown (host := "") (Or.inl (hw _ (List.mem_of_getElem? (i := 47) rfl))) Via.refl e0 Fd (g := (mkF m 4 #[.val (.ref a1), .val (.int p2), .unset] [(.ref a1), (.int (p2 + (1 : Int32)))])) rfl rfl (hb hby d5_4)
  have C2 : Go p e below T2 (mkF m 7 #[.val (.ref a1), .val (.int p2), .unset] [(.int d), (.int (p2 + (1 : Int32)))]) s₁ F0 := fun t k => C1 t (st2 t k)
  have C3 : Go p e below T2 (mkF m 22 #[.val (.ref a1), .val (.int p2), .unset] [(.ref a1)]) s₁ F0 := fun t k => C2 t (by
    refine XS.icmpYes X2.here hx rfl (pc0 := 7) (pc' := 21) rfl (hb hby d5_7) rfl (flt hcc).2.1 (by decide) (by decide) ?_
    show Steps p.tables e below (T2.setTop (mkF m 21 #[.val (.ref a1), .val (.int p2), .unset] [])) _
    refine XS.aloadN X2.here hx rfl (hb hby d5_21) rfl rfl ?_
    exact k)
  obtain ⟨T4, X4, e4, st4⟩ := getF X2 hx hZ hown (host := "") (Or.inl (hw _ (List.mem_of_getElem? (i := 48) rfl))) Via.refl e2 Ff (g := (mkF m 22 #[.val (.ref a1), .val (.int p2), .unset] [(.ref a1)])) rfl rfl (hb hby d5_22)
  have C4 : Go p e below T4 (mkF m 25 #[.val (.ref a1), .val (.int p2), .unset] [.null]) s₁ F0 := fun t k => C3 t (st4 t k)
  have C5 : Go p e below T4 (mkF m 31 #[.val (.ref a1), .val (.int p2), .val .null] [(.ref a1)]) s₁ F0 := fun t k => C4 t (by
    refine XS.astoreN X4.here hx rfl (hb hby d5_25) rfl rfl (l' := #[.val (.ref a1), .val (.int p2), .val .null]) rfl ?_
    show Steps p.tables e below (T4.setTop (mkF m 26 #[.val (.ref a1), .val (.int p2), .val .null] [])) _
    refine XS.aloadN X4.here hx rfl (hb hby d5_26) rfl rfl ?_
    show Steps p.tables e below (T4.setTop (mkF m 27 #[.val (.ref a1), .val (.int p2), .val .null] [.null])) _
    refine XS.ifnonnullNo X4.here hx rfl (hb hby d5_27) rfl ?_
    show Steps p.tables e below (T4.setTop (mkF m 30 #[.val (.ref a1), .val (.int p2), .val .null] [])) _
    refine XS.aloadN X4.here hx rfl (hb hby d5_30) rfl rfl ?_
    exact k)
  obtain ⟨T6, X6, e6, st6⟩ := getF X4 hx hZ hown (host := "") (Or.inl (hw _ (List.mem_of_getElem? (i := 50) rfl))) Via.refl e4 Fs (g := (mkF m 31 #[.val (.ref a1), .val (.int p2), .val .null] [(.ref a1)])) rfl rfl (hb hby d5_31)
  have C6 : Go p e below T6 (mkF m 34 #[.val (.ref a1), .val (.int p2), .val .null] [(.int sd)]) s₁ F0 := fun t k => C5 t (st6 t k)
  have C63 : Go p e below T6 (mkF m 63 #[.val (.ref a1), .val (.int p2), .val .null] [(.int (if 0 < sd then 1 else 0))]) s₁ F0 := by
    by_cases g : 0 < sd
    · have q : (if 0 < sd then (1 : Int32) else 0) = 1 := if_pos g
      have C7 : Go p e below T6 (mkF m 63 #[.val (.ref a1), .val (.int p2), .val .null] [(.int (1 : Int32))]) s₁ F0 := fun t k => C6 t (by
        refine XS.ifNo X6.here hx rfl (hb hby d5_34) rfl ((if0 _ _).trans (tlt g).2.2.2) ?_
        show Steps p.tables e below (T6.setTop (mkF m 37 #[.val (.ref a1), .val (.int p2), .val .null] [])) _
        refine XS.iconst X6.here hx rfl (hb hby d5_37) ?_
        show Steps p.tables e below (T6.setTop (mkF m 38 #[.val (.ref a1), .val (.int p2), .val .null] [(.int (1 : Int32))])) _
        refine XS.goto X6.here hx rfl (pc0 := 38) (pc' := 63) rfl (hb hby d5_38) (by decide) (by decide) ?_
        exact k)
      rw [q]
      exact C7
    · have q : (if 0 < sd then (1 : Int32) else 0) = 0 := if_neg g
      have C8 : Go p e below T6 (mkF m 63 #[.val (.ref a1), .val (.int p2), .val .null] [(.int (0 : Int32))]) s₁ F0 := fun t k => C6 t (by
        refine XS.ifYes X6.here hx rfl (pc0 := 34) (pc' := 41) rfl (hb hby d5_34) rfl ((if0 _ _).trans (flt g).2.2.2) (by decide) (by decide) ?_
        show Steps p.tables e below (T6.setTop (mkF m 41 #[.val (.ref a1), .val (.int p2), .val .null] [])) _
        refine XS.iconst X6.here hx rfl (hb hby d5_41) ?_
        show Steps p.tables e below (T6.setTop (mkF m 42 #[.val (.ref a1), .val (.int p2), .val .null] [(.int (0 : Int32))])) _
        refine XS.goto X6.here hx rfl (pc0 := 42) (pc' := 63) rfl (hb hby d5_42) (by decide) (by decide) ?_
        exact k)
      rw [q]
      exact C8
  obtain ⟨fs, hr, hrun, hended, hW, hsame⟩ := X6.leave (v := (some (.int (nar .boolean (if 0 < sd then 1 else 0))))) (fun h => by rw [Bd.returns] at h; cases h)
  refine ⟨_, _, pre0 _ (C63 _ ?_), hrun, hended, _, _, rfl, ?_, ⟨_, rfl⟩, hW, hsame.mono (by decide) (by decide)⟩
  · exact retN X6 hx (t := .boolean) Bd.returns (by simp) (hb hby d5_63) hr
  · show Q5n Z a1 p2 d sd h0 n0 _ T6.heap _
    rw [e6]
    exact ⟨congrArg (fun z => some (Value.int z)) (by split <;> rfl), N0, rfl⟩
theorem pn_0 : plainName "com/example/rosewood/rosewood/DescentTurnsRightPinLaw" = true := by first | (simp [plainName, overriddenIn]; done) | decide +kernel
theorem pd_0 : parseMethodDescriptor "(III)Z" = some ⟨[.int, .int, .int], some .boolean⟩ := by decide +kernel
theorem ef_0 (m : MethodId) (x0 : Int32) (x1 : Int32) (x2 : Int32) : entryFrame m #[(.int x0), (.int x1), (.int x2)] maxLocals = mkF m 0 #[.val (.int x0), .val (.int x1), .val (.int x2), .unset, .unset, .unset, .unset, .unset, .unset, .unset, .unset, .unset, .unset, .unset, .unset, .unset, .unset, .unset, .unset, .unset] [] := by first | (simp [entryFrame, mkF, argsToLocals, Value.category, maxLocals]; done) | rfl
def Q0 (Z : State) (p1 p2 p3 : Int32) (h0 : Heap) (n0 : Nat) (v : Option Value) (h : Heap) (L : List Loc) : Prop := v = some (.int 1) ∧ Fr n0 L
set_option maxRecDepth 65536 in
set_option maxHeartbeats 40000000 in
theorem rm0 (l : Launch) (Z : State) (a0 : Array Value) (hw : ∀ d ∈ tables_1, d.before a0 Z = true) (ws : List Jvm.Cond) (p1 p2 p3 : Int32) (h0 : Heap) (n0 : Nat) (Z0 : n0 ≤ h0.size)  :
    MetFree l x (head1 (Jvm.Cond.code x code maxLocals ret :: ws) room_1) (fun a U => a = #[(.int p1), (.int p2), (.int p3)] ∧ Z.Warmed39 U.vm ∧ U.heap = h0) (fun _ _ _ _ _ => True) (fun _ U o U' => ∃ v L, o = .returned v ∧ Q0 Z p1 p2 p3 h0 n0 v U'.heap L ∧ FrameEnd U o U' L room_1.cells room_1.slots) := by
  refine MetFree.of_bodySF (plainFor_of_name pn_0) hisR ?_
  intro p e s m args below meth c s₁ Bd hml0 hP hK
  obtain ⟨rfl, hZ, hh⟩ := hP
  have hx := Bd.exec
  have hby := Bd.bytes
  have hml : c.maxLocals = 20 := hml0
  have hown : s.vm.findClass "com/example/rosewood/rosewood/DescentTurnsRightPinLaw" = some m.cls := findClass_of_methodNamed Bd.named
  have hnm := (name_of_methodNamed Bd.named Bd.method).1
  have X0 : Stand p l e room_1 s m #[(.int p1), (.int p2), (.int p3)] below meth c s₁ [] 0 0 := Stand.of_body Bd
  have e0 : s₁.heap = h0 := by rw [← hh, Bd.state]; rfl
  have N0 := Fr.nil n0
  obtain ⟨F0, hF0⟩ : ∃ F0, F0 = entryFrame m #[(.int p1), (.int p2), (.int p3)] maxLocals := ⟨_, rfl⟩
  have C0 : Go p e below s₁ (mkF m 0 #[.val (.int p1), .val (.int p2), .val (.int p3), .unset, .unset, .unset, .unset, .unset, .unset, .unset, .unset, .unset, .unset, .unset, .unset, .unset, .unset, .unset, .unset, .unset] []) s₁ F0 := fun t k => by rw [hF0]; exact castTop (ef_0 m p1 p2 p3) k
  have pre0 : ∀ t, Steps p.tables e below (s₁.setTop F0) t → Steps p.tables e below (s₁.setTop (entryFrame m #[(.int p1), (.int p2), (.int p3)] maxLocals)) t := fun t k => by rw [← hF0]; exact k
  have C1 : Go p e below s₁ (mkF m 8 #[.val (.int p1), .val (.int p2), .val (.int p3), .val (.int ((1 : Int32) + ((p2 &&& (3 : Int32)) % (3 : Int32)))), .unset, .unset, .unset, .unset, .unset, .unset, .unset, .unset, .unset, .unset, .unset, .unset, .unset, .unset, .unset, .unset] []) s₁ F0 := fun t k => C0 t (by
    refine XS.iconst X0.here hx rfl (hb hby at_0) ?_
    show Steps p.tables e below (s₁.setTop (mkF m 1 #[.val (.int p1), .val (.int p2), .val (.int p3), .unset, .unset, .unset, .unset, .unset, .unset, .unset, .unset, .unset, .unset, .unset, .unset, .unset, .unset, .unset, .unset, .unset] [(.int (1 : Int32))])) _
    refine XS.iloadN X0.here hx rfl (hb hby at_1) rfl ?_
    show Steps p.tables e below (s₁.setTop (mkF m 2 #[.val (.int p1), .val (.int p2), .val (.int p3), .unset, .unset, .unset, .unset, .unset, .unset, .unset, .unset, .unset, .unset, .unset, .unset, .unset, .unset, .unset, .unset, .unset] [(.int p2), (.int (1 : Int32))])) _
    refine XS.iconst X0.here hx rfl (hb hby at_2) ?_
    show Steps p.tables e below (s₁.setTop (mkF m 3 #[.val (.int p1), .val (.int p2), .val (.int p3), .unset, .unset, .unset, .unset, .unset, .unset, .unset, .unset, .unset, .unset, .unset, .unset, .unset, .unset, .unset, .unset, .unset] [(.int (3 : Int32)), (.int p2), (.int (1 : Int32))])) _
    refine XS.iand X0.here hx rfl (hb hby at_3) rfl ?_
    show Steps p.tables e below (s₁.setTop (mkF m 4 #[.val (.int p1), .val (.int p2), .val (.int p3), .unset, .unset, .unset, .unset, .unset, .unset, .unset, .unset, .unset, .unset, .unset, .unset, .unset, .unset, .unset, .unset, .unset] [(.int (p2 &&& (3 : Int32))), (.int (1 : Int32))])) _
    refine XS.iconst X0.here hx rfl (hb hby at_4) ?_
    show Steps p.tables e below (s₁.setTop (mkF m 5 #[.val (.int p1), .val (.int p2), .val (.int p3), .unset, .unset, .unset, .unset, .unset, .unset, .unset, .unset, .unset, .unset, .unset, .unset, .unset, .unset, .unset, .unset, .unset] [(.int (3 : Int32)), (.int (p2 &&& (3 : Int32))), (.int (1 : Int32))])) _
    refine iremM (g := (mkF m 5 #[.val (.int p1), .val (.int p2), .val (.int p3), .unset, .unset, .unset, .unset, .unset, .unset, .unset, .unset, .unset, .unset, .unset, .unset, .unset, .unset, .unset, .unset, .unset] [(.int (3 : Int32)), (.int (p2 &&& (3 : Int32))), (.int (1 : Int32))])) X0 hx rfl (hb hby at_5) rfl (by decide) ?_
    show Steps p.tables e below (s₁.setTop (mkF m 6 #[.val (.int p1), .val (.int p2), .val (.int p3), .unset, .unset, .unset, .unset, .unset, .unset, .unset, .unset, .unset, .unset, .unset, .unset, .unset, .unset, .unset, .unset, .unset] [(.int ((p2 &&& (3 : Int32)) % (3 : Int32))), (.int (1 : Int32))])) _
    refine XS.iadd X0.here hx rfl (hb hby at_6) rfl ?_
    show Steps p.tables e below (s₁.setTop (mkF m 7 #[.val (.int p1), .val (.int p2), .val (.int p3), .unset, .unset, .unset, .unset, .unset, .unset, .unset, .unset, .unset, .unset, .unset, .unset, .unset, .unset, .unset, .unset, .unset] [(.int ((1 : Int32) + ((p2 &&& (3 : Int32)) % (3 : Int32))))])) _
    refine XS.istoreN X0.here hx rfl (hb hby at_7) rfl (l' := #[.val (.int p1), .val (.int p2), .val (.int p3), .val (.int ((1 : Int32) + ((p2 &&& (3 : Int32)) % (3 : Int32)))), .unset, .unset, .unset, .unset, .unset, .unset, .unset, .unset, .unset, .unset, .unset, .unset, .unset, .unset, .unset, .unset]) rfl ?_
    exact k)
  obtain ⟨d, hd, CD⟩ : ∃ d : Int32, (d = 1 ∨ d = 2 ∨ d = 3) ∧ Go p e below s₁ (mkF m 8 #[.val (.int p1), .val (.int p2), .val (.int p3), .val (.int d), .unset, .unset, .unset, .unset, .unset, .unset, .unset, .unset, .unset, .unset, .unset, .unset, .unset, .unset, .unset, .unset] []) s₁ F0 := ⟨_, own_d p2, C1⟩
  have dnz : d ≠ 0 := by rcases hd with rfl | rfl | rfl <;> decide
  have C2 : Go p e below s₁ (mkF m 17 #[.val (.int p1), .val (.int p2), .val (.int p3), .val (.int d), .val (.int ((((p2.toUInt32 >>> ((2 : Int32) &&& 31).toUInt32).toInt32) &&& (3 : Int32)) % d)), .unset, .unset, .unset, .unset, .unset, .unset, .unset, .unset, .unset, .unset, .unset, .unset, .unset, .unset, .unset] []) s₁ F0 := fun t k => CD t (by
    refine XS.iloadN X0.here hx rfl (hb hby at_8) rfl ?_
    show Steps p.tables e below (s₁.setTop (mkF m 9 #[.val (.int p1), .val (.int p2), .val (.int p3), .val (.int d), .unset, .unset, .unset, .unset, .unset, .unset, .unset, .unset, .unset, .unset, .unset, .unset, .unset, .unset, .unset, .unset] [(.int p2)])) _
    refine XS.iconst X0.here hx rfl (hb hby at_9) ?_
    show Steps p.tables e below (s₁.setTop (mkF m 10 #[.val (.int p1), .val (.int p2), .val (.int p3), .val (.int d), .unset, .unset, .unset, .unset, .unset, .unset, .unset, .unset, .unset, .unset, .unset, .unset, .unset, .unset, .unset, .unset] [(.int (2 : Int32)), (.int p2)])) _
    refine XS.iushr X0.here hx rfl (hb hby at_10) rfl ?_
    show Steps p.tables e below (s₁.setTop (mkF m 11 #[.val (.int p1), .val (.int p2), .val (.int p3), .val (.int d), .unset, .unset, .unset, .unset, .unset, .unset, .unset, .unset, .unset, .unset, .unset, .unset, .unset, .unset, .unset, .unset] [(.int ((p2.toUInt32 >>> ((2 : Int32) &&& 31).toUInt32).toInt32))])) _
    refine XS.iconst X0.here hx rfl (hb hby at_11) ?_
    show Steps p.tables e below (s₁.setTop (mkF m 12 #[.val (.int p1), .val (.int p2), .val (.int p3), .val (.int d), .unset, .unset, .unset, .unset, .unset, .unset, .unset, .unset, .unset, .unset, .unset, .unset, .unset, .unset, .unset, .unset] [(.int (3 : Int32)), (.int ((p2.toUInt32 >>> ((2 : Int32) &&& 31).toUInt32).toInt32))])) _
    refine XS.iand X0.here hx rfl (hb hby at_12) rfl ?_
    show Steps p.tables e below (s₁.setTop (mkF m 13 #[.val (.int p1), .val (.int p2), .val (.int p3), .val (.int d), .unset, .unset, .unset, .unset, .unset, .unset, .unset, .unset, .unset, .unset, .unset, .unset, .unset, .unset, .unset, .unset] [(.int (((p2.toUInt32 >>> ((2 : Int32) &&& 31).toUInt32).toInt32) &&& (3 : Int32)))])) _
    refine XS.iloadN X0.here hx rfl (hb hby at_13) rfl ?_
    show Steps p.tables e below (s₁.setTop (mkF m 14 #[.val (.int p1), .val (.int p2), .val (.int p3), .val (.int d), .unset, .unset, .unset, .unset, .unset, .unset, .unset, .unset, .unset, .unset, .unset, .unset, .unset, .unset, .unset, .unset] [(.int d), (.int (((p2.toUInt32 >>> ((2 : Int32) &&& 31).toUInt32).toInt32) &&& (3 : Int32)))])) _
    refine iremM (g := (mkF m 14 #[.val (.int p1), .val (.int p2), .val (.int p3), .val (.int d), .unset, .unset, .unset, .unset, .unset, .unset, .unset, .unset, .unset, .unset, .unset, .unset, .unset, .unset, .unset, .unset] [(.int d), (.int (((p2.toUInt32 >>> ((2 : Int32) &&& 31).toUInt32).toInt32) &&& (3 : Int32)))])) X0 hx rfl (hb hby at_14) rfl dnz ?_
    show Steps p.tables e below (s₁.setTop (mkF m 15 #[.val (.int p1), .val (.int p2), .val (.int p3), .val (.int d), .unset, .unset, .unset, .unset, .unset, .unset, .unset, .unset, .unset, .unset, .unset, .unset, .unset, .unset, .unset, .unset] [(.int ((((p2.toUInt32 >>> ((2 : Int32) &&& 31).toUInt32).toInt32) &&& (3 : Int32)) % d))])) _
    refine XS.istore X0.here hx rfl (hb hby at_15) rfl (l' := #[.val (.int p1), .val (.int p2), .val (.int p3), .val (.int d), .val (.int ((((p2.toUInt32 >>> ((2 : Int32) &&& 31).toUInt32).toInt32) &&& (3 : Int32)) % d)), .unset, .unset, .unset, .unset, .unset, .unset, .unset, .unset, .unset, .unset, .unset, .unset, .unset, .unset, .unset]) rfl ?_
    exact k)
  obtain ⟨lv, hlv, CL⟩ : ∃ lv : Int32, (lv = 0 ∨ (lv = 1 ∧ ¬ d = 1) ∨ (lv = 2 ∧ d = 3)) ∧ Go p e below s₁ (mkF m 17 #[.val (.int p1), .val (.int p2), .val (.int p3), .val (.int d), .val (.int lv), .unset, .unset, .unset, .unset, .unset, .unset, .unset, .unset, .unset, .unset, .unset, .unset, .unset, .unset, .unset] []) s₁ F0 := ⟨_, own_lv _ d hd, C2⟩
  have C3 : Go p e below s₁ (mkF m 22 #[.val (.int p1), .val (.int p2), .val (.int p3), .val (.int d), .val (.int lv), .unset, .unset, .unset, .unset, .unset, .unset, .unset, .unset, .unset, .unset, .unset, .unset, .unset, .unset, .unset] [(.int (((p2.toUInt32 >>> ((4 : Int32) &&& 31).toUInt32).toInt32) &&& (1 : Int32)))]) s₁ F0 := fun t k => CL t (by
    refine XS.iloadN X0.here hx rfl (hb hby at_17) rfl ?_
    show Steps p.tables e below (s₁.setTop (mkF m 18 #[.val (.int p1), .val (.int p2), .val (.int p3), .val (.int d), .val (.int lv), .unset, .unset, .unset, .unset, .unset, .unset, .unset, .unset, .unset, .unset, .unset, .unset, .unset, .unset, .unset] [(.int p2)])) _
    refine XS.iconst X0.here hx rfl (hb hby at_18) ?_
    show Steps p.tables e below (s₁.setTop (mkF m 19 #[.val (.int p1), .val (.int p2), .val (.int p3), .val (.int d), .val (.int lv), .unset, .unset, .unset, .unset, .unset, .unset, .unset, .unset, .unset, .unset, .unset, .unset, .unset, .unset, .unset] [(.int (4 : Int32)), (.int p2)])) _
    refine XS.iushr X0.here hx rfl (hb hby at_19) rfl ?_
    show Steps p.tables e below (s₁.setTop (mkF m 20 #[.val (.int p1), .val (.int p2), .val (.int p3), .val (.int d), .val (.int lv), .unset, .unset, .unset, .unset, .unset, .unset, .unset, .unset, .unset, .unset, .unset, .unset, .unset, .unset, .unset] [(.int ((p2.toUInt32 >>> ((4 : Int32) &&& 31).toUInt32).toInt32))])) _
    refine XS.iconst X0.here hx rfl (hb hby at_20) ?_
    show Steps p.tables e below (s₁.setTop (mkF m 21 #[.val (.int p1), .val (.int p2), .val (.int p3), .val (.int d), .val (.int lv), .unset, .unset, .unset, .unset, .unset, .unset, .unset, .unset, .unset, .unset, .unset, .unset, .unset, .unset, .unset] [(.int (1 : Int32)), (.int ((p2.toUInt32 >>> ((4 : Int32) &&& 31).toUInt32).toInt32))])) _
    refine XS.iand X0.here hx rfl (hb hby at_21) rfl ?_
    exact k)
  obtain ⟨fn, hfn, CF5⟩ : ∃ fn : Int32, (fn = 0 ∨ fn = 1) ∧ Go p e below s₁ (mkF m 32 #[.val (.int p1), .val (.int p2), .val (.int p3), .val (.int d), .val (.int lv), .val (.int fn), .unset, .unset, .unset, .unset, .unset, .unset, .unset, .unset, .unset, .unset, .unset, .unset, .unset, .unset] []) s₁ F0 := by
    by_cases c : (((p2.toUInt32 >>> ((4 : Int32) &&& 31).toUInt32).toInt32) &&& (1 : Int32)) = 0
    · skip
      have C4 : Go p e below s₁ (mkF m 32 #[.val (.int p1), .val (.int p2), .val (.int p3), .val (.int d), .val (.int lv), .val (.int (0 : Int32)), .unset, .unset, .unset, .unset, .unset, .unset, .unset, .unset, .unset, .unset, .unset, .unset, .unset, .unset] []) s₁ F0 := fun t k => C3 t (by
        refine XS.ifYes X0.here hx rfl (pc0 := 22) (pc' := 29) rfl (hb hby at_22) rfl ((if0 _ _).trans (teq c).1) (by decide) (by decide) ?_
        show Steps p.tables e below (s₁.setTop (mkF m 29 #[.val (.int p1), .val (.int p2), .val (.int p3), .val (.int d), .val (.int lv), .unset, .unset, .unset, .unset, .unset, .unset, .unset, .unset, .unset, .unset, .unset, .unset, .unset, .unset, .unset] [])) _
        refine XS.iconst X0.here hx rfl (hb hby at_29) ?_
        show Steps p.tables e below (s₁.setTop (mkF m 30 #[.val (.int p1), .val (.int p2), .val (.int p3), .val (.int d), .val (.int lv), .unset, .unset, .unset, .unset, .unset, .unset, .unset, .unset, .unset, .unset, .unset, .unset, .unset, .unset, .unset] [(.int (0 : Int32))])) _
        refine XS.istore X0.here hx rfl (hb hby at_30) rfl (l' := #[.val (.int p1), .val (.int p2), .val (.int p3), .val (.int d), .val (.int lv), .val (.int (0 : Int32)), .unset, .unset, .unset, .unset, .unset, .unset, .unset, .unset, .unset, .unset, .unset, .unset, .unset, .unset]) rfl ?_
        exact k)
      exact ⟨_, Or.inl rfl, C4⟩
    · skip
      have C5 : Go p e below s₁ (mkF m 32 #[.val (.int p1), .val (.int p2), .val (.int p3), .val (.int d), .val (.int lv), .val (.int (1 : Int32)), .unset, .unset, .unset, .unset, .unset, .unset, .unset, .unset, .unset, .unset, .unset, .unset, .unset, .unset] []) s₁ F0 := fun t k => C3 t (by
        refine XS.ifNo X0.here hx rfl (hb hby at_22) rfl ((if0 _ _).trans (feq c).1) ?_
        show Steps p.tables e below (s₁.setTop (mkF m 25 #[.val (.int p1), .val (.int p2), .val (.int p3), .val (.int d), .val (.int lv), .unset, .unset, .unset, .unset, .unset, .unset, .unset, .unset, .unset, .unset, .unset, .unset, .unset, .unset, .unset] [])) _
        refine XS.iconst X0.here hx rfl (hb hby at_25) ?_
        show Steps p.tables e below (s₁.setTop (mkF m 26 #[.val (.int p1), .val (.int p2), .val (.int p3), .val (.int d), .val (.int lv), .unset, .unset, .unset, .unset, .unset, .unset, .unset, .unset, .unset, .unset, .unset, .unset, .unset, .unset, .unset] [(.int (1 : Int32))])) _
        refine XS.goto X0.here hx rfl (pc0 := 26) (pc' := 30) rfl (hb hby at_26) (by decide) (by decide) ?_
        show Steps p.tables e below (s₁.setTop (mkF m 30 #[.val (.int p1), .val (.int p2), .val (.int p3), .val (.int d), .val (.int lv), .unset, .unset, .unset, .unset, .unset, .unset, .unset, .unset, .unset, .unset, .unset, .unset, .unset, .unset, .unset] [(.int (1 : Int32))])) _
        refine XS.istore X0.here hx rfl (hb hby at_30) rfl (l' := #[.val (.int p1), .val (.int p2), .val (.int p3), .val (.int d), .val (.int lv), .val (.int (1 : Int32)), .unset, .unset, .unset, .unset, .unset, .unset, .unset, .unset, .unset, .unset, .unset, .unset, .unset, .unset]) rfl ?_
        exact k)
      exact ⟨_, Or.inr rfl, C5⟩
  have C6 : Go p e below s₁ (mkF m 37 #[.val (.int p1), .val (.int p2), .val (.int p3), .val (.int d), .val (.int lv), .val (.int fn), .unset, .unset, .unset, .unset, .unset, .unset, .unset, .unset, .unset, .unset, .unset, .unset, .unset, .unset] [(.int (((p2.toUInt32 >>> ((5 : Int32) &&& 31).toUInt32).toInt32) &&& (1 : Int32)))]) s₁ F0 := fun t k => CF5 t (by
    refine XS.iloadN X0.here hx rfl (hb hby at_32) rfl ?_
    show Steps p.tables e below (s₁.setTop (mkF m 33 #[.val (.int p1), .val (.int p2), .val (.int p3), .val (.int d), .val (.int lv), .val (.int fn), .unset, .unset, .unset, .unset, .unset, .unset, .unset, .unset, .unset, .unset, .unset, .unset, .unset, .unset] [(.int p2)])) _
    refine XS.iconst X0.here hx rfl (hb hby at_33) ?_
    show Steps p.tables e below (s₁.setTop (mkF m 34 #[.val (.int p1), .val (.int p2), .val (.int p3), .val (.int d), .val (.int lv), .val (.int fn), .unset, .unset, .unset, .unset, .unset, .unset, .unset, .unset, .unset, .unset, .unset, .unset, .unset, .unset] [(.int (5 : Int32)), (.int p2)])) _
    refine XS.iushr X0.here hx rfl (hb hby at_34) rfl ?_
    show Steps p.tables e below (s₁.setTop (mkF m 35 #[.val (.int p1), .val (.int p2), .val (.int p3), .val (.int d), .val (.int lv), .val (.int fn), .unset, .unset, .unset, .unset, .unset, .unset, .unset, .unset, .unset, .unset, .unset, .unset, .unset, .unset] [(.int ((p2.toUInt32 >>> ((5 : Int32) &&& 31).toUInt32).toInt32))])) _
    refine XS.iconst X0.here hx rfl (hb hby at_35) ?_
    show Steps p.tables e below (s₁.setTop (mkF m 36 #[.val (.int p1), .val (.int p2), .val (.int p3), .val (.int d), .val (.int lv), .val (.int fn), .unset, .unset, .unset, .unset, .unset, .unset, .unset, .unset, .unset, .unset, .unset, .unset, .unset, .unset] [(.int (1 : Int32)), (.int ((p2.toUInt32 >>> ((5 : Int32) &&& 31).toUInt32).toInt32))])) _
    refine XS.iand X0.here hx rfl (hb hby at_36) rfl ?_
    exact k)
  obtain ⟨sb0, hsb0, CF6⟩ : ∃ sb0 : Int32, (sb0 = 0 ∨ sb0 = 1) ∧ Go p e below s₁ (mkF m 47 #[.val (.int p1), .val (.int p2), .val (.int p3), .val (.int d), .val (.int lv), .val (.int fn), .val (.int sb0), .unset, .unset, .unset, .unset, .unset, .unset, .unset, .unset, .unset, .unset, .unset, .unset, .unset] []) s₁ F0 := by
    by_cases c : (((p2.toUInt32 >>> ((5 : Int32) &&& 31).toUInt32).toInt32) &&& (1 : Int32)) = 0
    · skip
      have C7 : Go p e below s₁ (mkF m 47 #[.val (.int p1), .val (.int p2), .val (.int p3), .val (.int d), .val (.int lv), .val (.int fn), .val (.int (0 : Int32)), .unset, .unset, .unset, .unset, .unset, .unset, .unset, .unset, .unset, .unset, .unset, .unset, .unset] []) s₁ F0 := fun t k => C6 t (by
        refine XS.ifYes X0.here hx rfl (pc0 := 37) (pc' := 44) rfl (hb hby at_37) rfl ((if0 _ _).trans (teq c).1) (by decide) (by decide) ?_
        show Steps p.tables e below (s₁.setTop (mkF m 44 #[.val (.int p1), .val (.int p2), .val (.int p3), .val (.int d), .val (.int lv), .val (.int fn), .unset, .unset, .unset, .unset, .unset, .unset, .unset, .unset, .unset, .unset, .unset, .unset, .unset, .unset] [])) _
        refine XS.iconst X0.here hx rfl (hb hby at_44) ?_
        show Steps p.tables e below (s₁.setTop (mkF m 45 #[.val (.int p1), .val (.int p2), .val (.int p3), .val (.int d), .val (.int lv), .val (.int fn), .unset, .unset, .unset, .unset, .unset, .unset, .unset, .unset, .unset, .unset, .unset, .unset, .unset, .unset] [(.int (0 : Int32))])) _
        refine XS.istore X0.here hx rfl (hb hby at_45) rfl (l' := #[.val (.int p1), .val (.int p2), .val (.int p3), .val (.int d), .val (.int lv), .val (.int fn), .val (.int (0 : Int32)), .unset, .unset, .unset, .unset, .unset, .unset, .unset, .unset, .unset, .unset, .unset, .unset, .unset]) rfl ?_
        exact k)
      exact ⟨_, Or.inl rfl, C7⟩
    · skip
      have C8 : Go p e below s₁ (mkF m 47 #[.val (.int p1), .val (.int p2), .val (.int p3), .val (.int d), .val (.int lv), .val (.int fn), .val (.int (1 : Int32)), .unset, .unset, .unset, .unset, .unset, .unset, .unset, .unset, .unset, .unset, .unset, .unset, .unset] []) s₁ F0 := fun t k => C6 t (by
        refine XS.ifNo X0.here hx rfl (hb hby at_37) rfl ((if0 _ _).trans (feq c).1) ?_
        show Steps p.tables e below (s₁.setTop (mkF m 40 #[.val (.int p1), .val (.int p2), .val (.int p3), .val (.int d), .val (.int lv), .val (.int fn), .unset, .unset, .unset, .unset, .unset, .unset, .unset, .unset, .unset, .unset, .unset, .unset, .unset, .unset] [])) _
        refine XS.iconst X0.here hx rfl (hb hby at_40) ?_
        show Steps p.tables e below (s₁.setTop (mkF m 41 #[.val (.int p1), .val (.int p2), .val (.int p3), .val (.int d), .val (.int lv), .val (.int fn), .unset, .unset, .unset, .unset, .unset, .unset, .unset, .unset, .unset, .unset, .unset, .unset, .unset, .unset] [(.int (1 : Int32))])) _
        refine XS.goto X0.here hx rfl (pc0 := 41) (pc' := 45) rfl (hb hby at_41) (by decide) (by decide) ?_
        show Steps p.tables e below (s₁.setTop (mkF m 45 #[.val (.int p1), .val (.int p2), .val (.int p3), .val (.int d), .val (.int lv), .val (.int fn), .unset, .unset, .unset, .unset, .unset, .unset, .unset, .unset, .unset, .unset, .unset, .unset, .unset, .unset] [(.int (1 : Int32))])) _
        refine XS.istore X0.here hx rfl (hb hby at_45) rfl (l' := #[.val (.int p1), .val (.int p2), .val (.int p3), .val (.int d), .val (.int lv), .val (.int fn), .val (.int (1 : Int32)), .unset, .unset, .unset, .unset, .unset, .unset, .unset, .unset, .unset, .unset, .unset, .unset, .unset]) rfl ?_
        exact k)
      exact ⟨_, Or.inr rfl, C8⟩
  have C9 : Go p e below s₁ (mkF m 53 #[.val (.int p1), .val (.int p2), .val (.int p3), .val (.int d), .val (.int lv), .val (.int fn), .val (.int sb0), .unset, .unset, .unset, .unset, .unset, .unset, .unset, .unset, .unset, .unset, .unset, .unset, .unset] [(.int (((p2.toUInt32 >>> ((6 : Int32) &&& 31).toUInt32).toInt32) &&& (1 : Int32)))]) s₁ F0 := fun t k => CF6 t (by
    refine XS.iloadN X0.here hx rfl (hb hby at_47) rfl ?_
    show Steps p.tables e below (s₁.setTop (mkF m 48 #[.val (.int p1), .val (.int p2), .val (.int p3), .val (.int d), .val (.int lv), .val (.int fn), .val (.int sb0), .unset, .unset, .unset, .unset, .unset, .unset, .unset, .unset, .unset, .unset, .unset, .unset, .unset] [(.int p2)])) _
    refine XS.bipush X0.here hx rfl (hb hby at_48) ?_
    show Steps p.tables e below (s₁.setTop (mkF m 50 #[.val (.int p1), .val (.int p2), .val (.int p3), .val (.int d), .val (.int lv), .val (.int fn), .val (.int sb0), .unset, .unset, .unset, .unset, .unset, .unset, .unset, .unset, .unset, .unset, .unset, .unset, .unset] [(.int (6 : Int32)), (.int p2)])) _
    refine XS.iushr X0.here hx rfl (hb hby at_50) rfl ?_
    show Steps p.tables e below (s₁.setTop (mkF m 51 #[.val (.int p1), .val (.int p2), .val (.int p3), .val (.int d), .val (.int lv), .val (.int fn), .val (.int sb0), .unset, .unset, .unset, .unset, .unset, .unset, .unset, .unset, .unset, .unset, .unset, .unset, .unset] [(.int ((p2.toUInt32 >>> ((6 : Int32) &&& 31).toUInt32).toInt32))])) _
    refine XS.iconst X0.here hx rfl (hb hby at_51) ?_
    show Steps p.tables e below (s₁.setTop (mkF m 52 #[.val (.int p1), .val (.int p2), .val (.int p3), .val (.int d), .val (.int lv), .val (.int fn), .val (.int sb0), .unset, .unset, .unset, .unset, .unset, .unset, .unset, .unset, .unset, .unset, .unset, .unset, .unset] [(.int (1 : Int32)), (.int ((p2.toUInt32 >>> ((6 : Int32) &&& 31).toUInt32).toInt32))])) _
    refine XS.iand X0.here hx rfl (hb hby at_52) rfl ?_
    exact k)
  obtain ⟨sb1, hsb1, CF7⟩ : ∃ sb1 : Int32, (sb1 = 0 ∨ sb1 = 1) ∧ Go p e below s₁ (mkF m 63 #[.val (.int p1), .val (.int p2), .val (.int p3), .val (.int d), .val (.int lv), .val (.int fn), .val (.int sb0), .val (.int sb1), .unset, .unset, .unset, .unset, .unset, .unset, .unset, .unset, .unset, .unset, .unset, .unset] []) s₁ F0 := by
    by_cases c : (((p2.toUInt32 >>> ((6 : Int32) &&& 31).toUInt32).toInt32) &&& (1 : Int32)) = 0
    · skip
      have C10 : Go p e below s₁ (mkF m 63 #[.val (.int p1), .val (.int p2), .val (.int p3), .val (.int d), .val (.int lv), .val (.int fn), .val (.int sb0), .val (.int (0 : Int32)), .unset, .unset, .unset, .unset, .unset, .unset, .unset, .unset, .unset, .unset, .unset, .unset] []) s₁ F0 := fun t k => C9 t (by
        refine XS.ifYes X0.here hx rfl (pc0 := 53) (pc' := 60) rfl (hb hby at_53) rfl ((if0 _ _).trans (teq c).1) (by decide) (by decide) ?_
        show Steps p.tables e below (s₁.setTop (mkF m 60 #[.val (.int p1), .val (.int p2), .val (.int p3), .val (.int d), .val (.int lv), .val (.int fn), .val (.int sb0), .unset, .unset, .unset, .unset, .unset, .unset, .unset, .unset, .unset, .unset, .unset, .unset, .unset] [])) _
        refine XS.iconst X0.here hx rfl (hb hby at_60) ?_
        show Steps p.tables e below (s₁.setTop (mkF m 61 #[.val (.int p1), .val (.int p2), .val (.int p3), .val (.int d), .val (.int lv), .val (.int fn), .val (.int sb0), .unset, .unset, .unset, .unset, .unset, .unset, .unset, .unset, .unset, .unset, .unset, .unset, .unset] [(.int (0 : Int32))])) _
        refine XS.istore X0.here hx rfl (hb hby at_61) rfl (l' := #[.val (.int p1), .val (.int p2), .val (.int p3), .val (.int d), .val (.int lv), .val (.int fn), .val (.int sb0), .val (.int (0 : Int32)), .unset, .unset, .unset, .unset, .unset, .unset, .unset, .unset, .unset, .unset, .unset, .unset]) rfl ?_
        exact k)
      exact ⟨_, Or.inl rfl, C10⟩
    · skip
      have C11 : Go p e below s₁ (mkF m 63 #[.val (.int p1), .val (.int p2), .val (.int p3), .val (.int d), .val (.int lv), .val (.int fn), .val (.int sb0), .val (.int (1 : Int32)), .unset, .unset, .unset, .unset, .unset, .unset, .unset, .unset, .unset, .unset, .unset, .unset] []) s₁ F0 := fun t k => C9 t (by
        refine XS.ifNo X0.here hx rfl (hb hby at_53) rfl ((if0 _ _).trans (feq c).1) ?_
        show Steps p.tables e below (s₁.setTop (mkF m 56 #[.val (.int p1), .val (.int p2), .val (.int p3), .val (.int d), .val (.int lv), .val (.int fn), .val (.int sb0), .unset, .unset, .unset, .unset, .unset, .unset, .unset, .unset, .unset, .unset, .unset, .unset, .unset] [])) _
        refine XS.iconst X0.here hx rfl (hb hby at_56) ?_
        show Steps p.tables e below (s₁.setTop (mkF m 57 #[.val (.int p1), .val (.int p2), .val (.int p3), .val (.int d), .val (.int lv), .val (.int fn), .val (.int sb0), .unset, .unset, .unset, .unset, .unset, .unset, .unset, .unset, .unset, .unset, .unset, .unset, .unset] [(.int (1 : Int32))])) _
        refine XS.goto X0.here hx rfl (pc0 := 57) (pc' := 61) rfl (hb hby at_57) (by decide) (by decide) ?_
        show Steps p.tables e below (s₁.setTop (mkF m 61 #[.val (.int p1), .val (.int p2), .val (.int p3), .val (.int d), .val (.int lv), .val (.int fn), .val (.int sb0), .unset, .unset, .unset, .unset, .unset, .unset, .unset, .unset, .unset, .unset, .unset, .unset, .unset] [(.int (1 : Int32))])) _
        refine XS.istore X0.here hx rfl (hb hby at_61) rfl (l' := #[.val (.int p1), .val (.int p2), .val (.int p3), .val (.int d), .val (.int lv), .val (.int fn), .val (.int sb0), .val (.int (1 : Int32)), .unset, .unset, .unset, .unset, .unset, .unset, .unset, .unset, .unset, .unset, .unset, .unset]) rfl ?_
        exact k)
      exact ⟨_, Or.inr rfl, C11⟩
  have C12 : Go p e below s₁ (mkF m 69 #[.val (.int p1), .val (.int p2), .val (.int p3), .val (.int d), .val (.int lv), .val (.int fn), .val (.int sb0), .val (.int sb1), .unset, .unset, .unset, .unset, .unset, .unset, .unset, .unset, .unset, .unset, .unset, .unset] [(.int (((p2.toUInt32 >>> ((7 : Int32) &&& 31).toUInt32).toInt32) &&& (1 : Int32)))]) s₁ F0 := fun t k => CF7 t (by
    refine XS.iloadN X0.here hx rfl (hb hby at_63) rfl ?_
    show Steps p.tables e below (s₁.setTop (mkF m 64 #[.val (.int p1), .val (.int p2), .val (.int p3), .val (.int d), .val (.int lv), .val (.int fn), .val (.int sb0), .val (.int sb1), .unset, .unset, .unset, .unset, .unset, .unset, .unset, .unset, .unset, .unset, .unset, .unset] [(.int p2)])) _
    refine XS.bipush X0.here hx rfl (hb hby at_64) ?_
    show Steps p.tables e below (s₁.setTop (mkF m 66 #[.val (.int p1), .val (.int p2), .val (.int p3), .val (.int d), .val (.int lv), .val (.int fn), .val (.int sb0), .val (.int sb1), .unset, .unset, .unset, .unset, .unset, .unset, .unset, .unset, .unset, .unset, .unset, .unset] [(.int (7 : Int32)), (.int p2)])) _
    refine XS.iushr X0.here hx rfl (hb hby at_66) rfl ?_
    show Steps p.tables e below (s₁.setTop (mkF m 67 #[.val (.int p1), .val (.int p2), .val (.int p3), .val (.int d), .val (.int lv), .val (.int fn), .val (.int sb0), .val (.int sb1), .unset, .unset, .unset, .unset, .unset, .unset, .unset, .unset, .unset, .unset, .unset, .unset] [(.int ((p2.toUInt32 >>> ((7 : Int32) &&& 31).toUInt32).toInt32))])) _
    refine XS.iconst X0.here hx rfl (hb hby at_67) ?_
    show Steps p.tables e below (s₁.setTop (mkF m 68 #[.val (.int p1), .val (.int p2), .val (.int p3), .val (.int d), .val (.int lv), .val (.int fn), .val (.int sb0), .val (.int sb1), .unset, .unset, .unset, .unset, .unset, .unset, .unset, .unset, .unset, .unset, .unset, .unset] [(.int (1 : Int32)), (.int ((p2.toUInt32 >>> ((7 : Int32) &&& 31).toUInt32).toInt32))])) _
    refine XS.iand X0.here hx rfl (hb hby at_68) rfl ?_
    exact k)
  obtain ⟨sb2, hsb2, CF8⟩ : ∃ sb2 : Int32, (sb2 = 0 ∨ sb2 = 1) ∧ Go p e below s₁ (mkF m 79 #[.val (.int p1), .val (.int p2), .val (.int p3), .val (.int d), .val (.int lv), .val (.int fn), .val (.int sb0), .val (.int sb1), .val (.int sb2), .unset, .unset, .unset, .unset, .unset, .unset, .unset, .unset, .unset, .unset, .unset] []) s₁ F0 := by
    by_cases c : (((p2.toUInt32 >>> ((7 : Int32) &&& 31).toUInt32).toInt32) &&& (1 : Int32)) = 0
    · skip
      have C13 : Go p e below s₁ (mkF m 79 #[.val (.int p1), .val (.int p2), .val (.int p3), .val (.int d), .val (.int lv), .val (.int fn), .val (.int sb0), .val (.int sb1), .val (.int (0 : Int32)), .unset, .unset, .unset, .unset, .unset, .unset, .unset, .unset, .unset, .unset, .unset] []) s₁ F0 := fun t k => C12 t (by
        refine XS.ifYes X0.here hx rfl (pc0 := 69) (pc' := 76) rfl (hb hby at_69) rfl ((if0 _ _).trans (teq c).1) (by decide) (by decide) ?_
        show Steps p.tables e below (s₁.setTop (mkF m 76 #[.val (.int p1), .val (.int p2), .val (.int p3), .val (.int d), .val (.int lv), .val (.int fn), .val (.int sb0), .val (.int sb1), .unset, .unset, .unset, .unset, .unset, .unset, .unset, .unset, .unset, .unset, .unset, .unset] [])) _
        refine XS.iconst X0.here hx rfl (hb hby at_76) ?_
        show Steps p.tables e below (s₁.setTop (mkF m 77 #[.val (.int p1), .val (.int p2), .val (.int p3), .val (.int d), .val (.int lv), .val (.int fn), .val (.int sb0), .val (.int sb1), .unset, .unset, .unset, .unset, .unset, .unset, .unset, .unset, .unset, .unset, .unset, .unset] [(.int (0 : Int32))])) _
        refine XS.istore X0.here hx rfl (hb hby at_77) rfl (l' := #[.val (.int p1), .val (.int p2), .val (.int p3), .val (.int d), .val (.int lv), .val (.int fn), .val (.int sb0), .val (.int sb1), .val (.int (0 : Int32)), .unset, .unset, .unset, .unset, .unset, .unset, .unset, .unset, .unset, .unset, .unset]) rfl ?_
        exact k)
      exact ⟨_, Or.inl rfl, C13⟩
    · skip
      have C14 : Go p e below s₁ (mkF m 79 #[.val (.int p1), .val (.int p2), .val (.int p3), .val (.int d), .val (.int lv), .val (.int fn), .val (.int sb0), .val (.int sb1), .val (.int (1 : Int32)), .unset, .unset, .unset, .unset, .unset, .unset, .unset, .unset, .unset, .unset, .unset] []) s₁ F0 := fun t k => C12 t (by
        refine XS.ifNo X0.here hx rfl (hb hby at_69) rfl ((if0 _ _).trans (feq c).1) ?_
        show Steps p.tables e below (s₁.setTop (mkF m 72 #[.val (.int p1), .val (.int p2), .val (.int p3), .val (.int d), .val (.int lv), .val (.int fn), .val (.int sb0), .val (.int sb1), .unset, .unset, .unset, .unset, .unset, .unset, .unset, .unset, .unset, .unset, .unset, .unset] [])) _
        refine XS.iconst X0.here hx rfl (hb hby at_72) ?_
        show Steps p.tables e below (s₁.setTop (mkF m 73 #[.val (.int p1), .val (.int p2), .val (.int p3), .val (.int d), .val (.int lv), .val (.int fn), .val (.int sb0), .val (.int sb1), .unset, .unset, .unset, .unset, .unset, .unset, .unset, .unset, .unset, .unset, .unset, .unset] [(.int (1 : Int32))])) _
        refine XS.goto X0.here hx rfl (pc0 := 73) (pc' := 77) rfl (hb hby at_73) (by decide) (by decide) ?_
        show Steps p.tables e below (s₁.setTop (mkF m 77 #[.val (.int p1), .val (.int p2), .val (.int p3), .val (.int d), .val (.int lv), .val (.int fn), .val (.int sb0), .val (.int sb1), .unset, .unset, .unset, .unset, .unset, .unset, .unset, .unset, .unset, .unset, .unset, .unset] [(.int (1 : Int32))])) _
        refine XS.istore X0.here hx rfl (hb hby at_77) rfl (l' := #[.val (.int p1), .val (.int p2), .val (.int p3), .val (.int d), .val (.int lv), .val (.int fn), .val (.int sb0), .val (.int sb1), .val (.int (1 : Int32)), .unset, .unset, .unset, .unset, .unset, .unset, .unset, .unset, .unset, .unset, .unset]) rfl ?_
        exact k)
      exact ⟨_, Or.inr rfl, C14⟩
  have C15 : Go p e below s₁ (mkF m 82 #[.val (.int p1), .val (.int p2), .val (.int p3), .val (.int d), .val (.int lv), .val (.int fn), .val (.int sb0), .val (.int sb1), .val (.int sb2), .unset, .unset, .unset, .unset, .unset, .unset, .unset, .unset, .unset, .unset, .unset] [(.int (p1 &&& (1 : Int32)))]) s₁ F0 := fun t k => CF8 t (by
    refine XS.iloadN X0.here hx rfl (hb hby at_79) rfl ?_
    show Steps p.tables e below (s₁.setTop (mkF m 80 #[.val (.int p1), .val (.int p2), .val (.int p3), .val (.int d), .val (.int lv), .val (.int fn), .val (.int sb0), .val (.int sb1), .val (.int sb2), .unset, .unset, .unset, .unset, .unset, .unset, .unset, .unset, .unset, .unset, .unset] [(.int p1)])) _
    refine XS.iconst X0.here hx rfl (hb hby at_80) ?_
    show Steps p.tables e below (s₁.setTop (mkF m 81 #[.val (.int p1), .val (.int p2), .val (.int p3), .val (.int d), .val (.int lv), .val (.int fn), .val (.int sb0), .val (.int sb1), .val (.int sb2), .unset, .unset, .unset, .unset, .unset, .unset, .unset, .unset, .unset, .unset, .unset] [(.int (1 : Int32)), (.int p1)])) _
    refine XS.iand X0.here hx rfl (hb hby at_81) rfl ?_
    exact k)
  obtain ⟨t0, ht0, CF9⟩ : ∃ t0 : Int32, (t0 = 0 ∨ t0 = 1) ∧ Go p e below s₁ (mkF m 92 #[.val (.int p1), .val (.int p2), .val (.int p3), .val (.int d), .val (.int lv), .val (.int fn), .val (.int sb0), .val (.int sb1), .val (.int sb2), .val (.int t0), .unset, .unset, .unset, .unset, .unset, .unset, .unset, .unset, .unset, .unset] []) s₁ F0 := by
    by_cases c : (p1 &&& (1 : Int32)) = 0
    · skip
      have C16 : Go p e below s₁ (mkF m 92 #[.val (.int p1), .val (.int p2), .val (.int p3), .val (.int d), .val (.int lv), .val (.int fn), .val (.int sb0), .val (.int sb1), .val (.int sb2), .val (.int (0 : Int32)), .unset, .unset, .unset, .unset, .unset, .unset, .unset, .unset, .unset, .unset] []) s₁ F0 := fun t k => C15 t (by
        refine XS.ifYes X0.here hx rfl (pc0 := 82) (pc' := 89) rfl (hb hby at_82) rfl ((if0 _ _).trans (teq c).1) (by decide) (by decide) ?_
        show Steps p.tables e below (s₁.setTop (mkF m 89 #[.val (.int p1), .val (.int p2), .val (.int p3), .val (.int d), .val (.int lv), .val (.int fn), .val (.int sb0), .val (.int sb1), .val (.int sb2), .unset, .unset, .unset, .unset, .unset, .unset, .unset, .unset, .unset, .unset, .unset] [])) _
        refine XS.iconst X0.here hx rfl (hb hby at_89) ?_
        show Steps p.tables e below (s₁.setTop (mkF m 90 #[.val (.int p1), .val (.int p2), .val (.int p3), .val (.int d), .val (.int lv), .val (.int fn), .val (.int sb0), .val (.int sb1), .val (.int sb2), .unset, .unset, .unset, .unset, .unset, .unset, .unset, .unset, .unset, .unset, .unset] [(.int (0 : Int32))])) _
        refine XS.istore X0.here hx rfl (hb hby at_90) rfl (l' := #[.val (.int p1), .val (.int p2), .val (.int p3), .val (.int d), .val (.int lv), .val (.int fn), .val (.int sb0), .val (.int sb1), .val (.int sb2), .val (.int (0 : Int32)), .unset, .unset, .unset, .unset, .unset, .unset, .unset, .unset, .unset, .unset]) rfl ?_
        exact k)
      exact ⟨_, Or.inl rfl, C16⟩
    · skip
      have C17 : Go p e below s₁ (mkF m 92 #[.val (.int p1), .val (.int p2), .val (.int p3), .val (.int d), .val (.int lv), .val (.int fn), .val (.int sb0), .val (.int sb1), .val (.int sb2), .val (.int (1 : Int32)), .unset, .unset, .unset, .unset, .unset, .unset, .unset, .unset, .unset, .unset] []) s₁ F0 := fun t k => C15 t (by
        refine XS.ifNo X0.here hx rfl (hb hby at_82) rfl ((if0 _ _).trans (feq c).1) ?_
        show Steps p.tables e below (s₁.setTop (mkF m 85 #[.val (.int p1), .val (.int p2), .val (.int p3), .val (.int d), .val (.int lv), .val (.int fn), .val (.int sb0), .val (.int sb1), .val (.int sb2), .unset, .unset, .unset, .unset, .unset, .unset, .unset, .unset, .unset, .unset, .unset] [])) _
        refine XS.iconst X0.here hx rfl (hb hby at_85) ?_
        show Steps p.tables e below (s₁.setTop (mkF m 86 #[.val (.int p1), .val (.int p2), .val (.int p3), .val (.int d), .val (.int lv), .val (.int fn), .val (.int sb0), .val (.int sb1), .val (.int sb2), .unset, .unset, .unset, .unset, .unset, .unset, .unset, .unset, .unset, .unset, .unset] [(.int (1 : Int32))])) _
        refine XS.goto X0.here hx rfl (pc0 := 86) (pc' := 90) rfl (hb hby at_86) (by decide) (by decide) ?_
        show Steps p.tables e below (s₁.setTop (mkF m 90 #[.val (.int p1), .val (.int p2), .val (.int p3), .val (.int d), .val (.int lv), .val (.int fn), .val (.int sb0), .val (.int sb1), .val (.int sb2), .unset, .unset, .unset, .unset, .unset, .unset, .unset, .unset, .unset, .unset, .unset] [(.int (1 : Int32))])) _
        refine XS.istore X0.here hx rfl (hb hby at_90) rfl (l' := #[.val (.int p1), .val (.int p2), .val (.int p3), .val (.int d), .val (.int lv), .val (.int fn), .val (.int sb0), .val (.int sb1), .val (.int sb2), .val (.int (1 : Int32)), .unset, .unset, .unset, .unset, .unset, .unset, .unset, .unset, .unset, .unset]) rfl ?_
        exact k)
      exact ⟨_, Or.inr rfl, C17⟩
  have C18 : Go p e below s₁ (mkF m 97 #[.val (.int p1), .val (.int p2), .val (.int p3), .val (.int d), .val (.int lv), .val (.int fn), .val (.int sb0), .val (.int sb1), .val (.int sb2), .val (.int t0), .unset, .unset, .unset, .unset, .unset, .unset, .unset, .unset, .unset, .unset] [(.int (((p1.toUInt32 >>> ((1 : Int32) &&& 31).toUInt32).toInt32) &&& (1 : Int32)))]) s₁ F0 := fun t k => CF9 t (by
    refine XS.iloadN X0.here hx rfl (hb hby at_92) rfl ?_
    show Steps p.tables e below (s₁.setTop (mkF m 93 #[.val (.int p1), .val (.int p2), .val (.int p3), .val (.int d), .val (.int lv), .val (.int fn), .val (.int sb0), .val (.int sb1), .val (.int sb2), .val (.int t0), .unset, .unset, .unset, .unset, .unset, .unset, .unset, .unset, .unset, .unset] [(.int p1)])) _
    refine XS.iconst X0.here hx rfl (hb hby at_93) ?_
    show Steps p.tables e below (s₁.setTop (mkF m 94 #[.val (.int p1), .val (.int p2), .val (.int p3), .val (.int d), .val (.int lv), .val (.int fn), .val (.int sb0), .val (.int sb1), .val (.int sb2), .val (.int t0), .unset, .unset, .unset, .unset, .unset, .unset, .unset, .unset, .unset, .unset] [(.int (1 : Int32)), (.int p1)])) _
    refine XS.iushr X0.here hx rfl (hb hby at_94) rfl ?_
    show Steps p.tables e below (s₁.setTop (mkF m 95 #[.val (.int p1), .val (.int p2), .val (.int p3), .val (.int d), .val (.int lv), .val (.int fn), .val (.int sb0), .val (.int sb1), .val (.int sb2), .val (.int t0), .unset, .unset, .unset, .unset, .unset, .unset, .unset, .unset, .unset, .unset] [(.int ((p1.toUInt32 >>> ((1 : Int32) &&& 31).toUInt32).toInt32))])) _
    refine XS.iconst X0.here hx rfl (hb hby at_95) ?_
    show Steps p.tables e below (s₁.setTop (mkF m 96 #[.val (.int p1), .val (.int p2), .val (.int p3), .val (.int d), .val (.int lv), .val (.int fn), .val (.int sb0), .val (.int sb1), .val (.int sb2), .val (.int t0), .unset, .unset, .unset, .unset, .unset, .unset, .unset, .unset, .unset, .unset] [(.int (1 : Int32)), (.int ((p1.toUInt32 >>> ((1 : Int32) &&& 31).toUInt32).toInt32))])) _
    refine XS.iand X0.here hx rfl (hb hby at_96) rfl ?_
    exact k)
  obtain ⟨t1, ht1, CF10⟩ : ∃ t1 : Int32, (t1 = 0 ∨ t1 = 1) ∧ Go p e below s₁ (mkF m 107 #[.val (.int p1), .val (.int p2), .val (.int p3), .val (.int d), .val (.int lv), .val (.int fn), .val (.int sb0), .val (.int sb1), .val (.int sb2), .val (.int t0), .val (.int t1), .unset, .unset, .unset, .unset, .unset, .unset, .unset, .unset, .unset] []) s₁ F0 := by
    by_cases c : (((p1.toUInt32 >>> ((1 : Int32) &&& 31).toUInt32).toInt32) &&& (1 : Int32)) = 0
    · skip
      have C19 : Go p e below s₁ (mkF m 107 #[.val (.int p1), .val (.int p2), .val (.int p3), .val (.int d), .val (.int lv), .val (.int fn), .val (.int sb0), .val (.int sb1), .val (.int sb2), .val (.int t0), .val (.int (0 : Int32)), .unset, .unset, .unset, .unset, .unset, .unset, .unset, .unset, .unset] []) s₁ F0 := fun t k => C18 t (by
        refine XS.ifYes X0.here hx rfl (pc0 := 97) (pc' := 104) rfl (hb hby at_97) rfl ((if0 _ _).trans (teq c).1) (by decide) (by decide) ?_
        show Steps p.tables e below (s₁.setTop (mkF m 104 #[.val (.int p1), .val (.int p2), .val (.int p3), .val (.int d), .val (.int lv), .val (.int fn), .val (.int sb0), .val (.int sb1), .val (.int sb2), .val (.int t0), .unset, .unset, .unset, .unset, .unset, .unset, .unset, .unset, .unset, .unset] [])) _
        refine XS.iconst X0.here hx rfl (hb hby at_104) ?_
        show Steps p.tables e below (s₁.setTop (mkF m 105 #[.val (.int p1), .val (.int p2), .val (.int p3), .val (.int d), .val (.int lv), .val (.int fn), .val (.int sb0), .val (.int sb1), .val (.int sb2), .val (.int t0), .unset, .unset, .unset, .unset, .unset, .unset, .unset, .unset, .unset, .unset] [(.int (0 : Int32))])) _
        refine XS.istore X0.here hx rfl (hb hby at_105) rfl (l' := #[.val (.int p1), .val (.int p2), .val (.int p3), .val (.int d), .val (.int lv), .val (.int fn), .val (.int sb0), .val (.int sb1), .val (.int sb2), .val (.int t0), .val (.int (0 : Int32)), .unset, .unset, .unset, .unset, .unset, .unset, .unset, .unset, .unset]) rfl ?_
        exact k)
      exact ⟨_, Or.inl rfl, C19⟩
    · skip
      have C20 : Go p e below s₁ (mkF m 107 #[.val (.int p1), .val (.int p2), .val (.int p3), .val (.int d), .val (.int lv), .val (.int fn), .val (.int sb0), .val (.int sb1), .val (.int sb2), .val (.int t0), .val (.int (1 : Int32)), .unset, .unset, .unset, .unset, .unset, .unset, .unset, .unset, .unset] []) s₁ F0 := fun t k => C18 t (by
        refine XS.ifNo X0.here hx rfl (hb hby at_97) rfl ((if0 _ _).trans (feq c).1) ?_
        show Steps p.tables e below (s₁.setTop (mkF m 100 #[.val (.int p1), .val (.int p2), .val (.int p3), .val (.int d), .val (.int lv), .val (.int fn), .val (.int sb0), .val (.int sb1), .val (.int sb2), .val (.int t0), .unset, .unset, .unset, .unset, .unset, .unset, .unset, .unset, .unset, .unset] [])) _
        refine XS.iconst X0.here hx rfl (hb hby at_100) ?_
        show Steps p.tables e below (s₁.setTop (mkF m 101 #[.val (.int p1), .val (.int p2), .val (.int p3), .val (.int d), .val (.int lv), .val (.int fn), .val (.int sb0), .val (.int sb1), .val (.int sb2), .val (.int t0), .unset, .unset, .unset, .unset, .unset, .unset, .unset, .unset, .unset, .unset] [(.int (1 : Int32))])) _
        refine XS.goto X0.here hx rfl (pc0 := 101) (pc' := 105) rfl (hb hby at_101) (by decide) (by decide) ?_
        show Steps p.tables e below (s₁.setTop (mkF m 105 #[.val (.int p1), .val (.int p2), .val (.int p3), .val (.int d), .val (.int lv), .val (.int fn), .val (.int sb0), .val (.int sb1), .val (.int sb2), .val (.int t0), .unset, .unset, .unset, .unset, .unset, .unset, .unset, .unset, .unset, .unset] [(.int (1 : Int32))])) _
        refine XS.istore X0.here hx rfl (hb hby at_105) rfl (l' := #[.val (.int p1), .val (.int p2), .val (.int p3), .val (.int d), .val (.int lv), .val (.int fn), .val (.int sb0), .val (.int sb1), .val (.int sb2), .val (.int t0), .val (.int (1 : Int32)), .unset, .unset, .unset, .unset, .unset, .unset, .unset, .unset, .unset]) rfl ?_
        exact k)
      exact ⟨_, Or.inr rfl, C20⟩
  have C21 : Go p e below s₁ (mkF m 112 #[.val (.int p1), .val (.int p2), .val (.int p3), .val (.int d), .val (.int lv), .val (.int fn), .val (.int sb0), .val (.int sb1), .val (.int sb2), .val (.int t0), .val (.int t1), .unset, .unset, .unset, .unset, .unset, .unset, .unset, .unset, .unset] [(.int (((p1.toUInt32 >>> ((2 : Int32) &&& 31).toUInt32).toInt32) &&& (1 : Int32)))]) s₁ F0 := fun t k => CF10 t (by
    refine XS.iloadN X0.here hx rfl (hb hby at_107) rfl ?_
    show Steps p.tables e below (s₁.setTop (mkF m 108 #[.val (.int p1), .val (.int p2), .val (.int p3), .val (.int d), .val (.int lv), .val (.int fn), .val (.int sb0), .val (.int sb1), .val (.int sb2), .val (.int t0), .val (.int t1), .unset, .unset, .unset, .unset, .unset, .unset, .unset, .unset, .unset] [(.int p1)])) _
    refine XS.iconst X0.here hx rfl (hb hby at_108) ?_
    show Steps p.tables e below (s₁.setTop (mkF m 109 #[.val (.int p1), .val (.int p2), .val (.int p3), .val (.int d), .val (.int lv), .val (.int fn), .val (.int sb0), .val (.int sb1), .val (.int sb2), .val (.int t0), .val (.int t1), .unset, .unset, .unset, .unset, .unset, .unset, .unset, .unset, .unset] [(.int (2 : Int32)), (.int p1)])) _
    refine XS.iushr X0.here hx rfl (hb hby at_109) rfl ?_
    show Steps p.tables e below (s₁.setTop (mkF m 110 #[.val (.int p1), .val (.int p2), .val (.int p3), .val (.int d), .val (.int lv), .val (.int fn), .val (.int sb0), .val (.int sb1), .val (.int sb2), .val (.int t0), .val (.int t1), .unset, .unset, .unset, .unset, .unset, .unset, .unset, .unset, .unset] [(.int ((p1.toUInt32 >>> ((2 : Int32) &&& 31).toUInt32).toInt32))])) _
    refine XS.iconst X0.here hx rfl (hb hby at_110) ?_
    show Steps p.tables e below (s₁.setTop (mkF m 111 #[.val (.int p1), .val (.int p2), .val (.int p3), .val (.int d), .val (.int lv), .val (.int fn), .val (.int sb0), .val (.int sb1), .val (.int sb2), .val (.int t0), .val (.int t1), .unset, .unset, .unset, .unset, .unset, .unset, .unset, .unset, .unset] [(.int (1 : Int32)), (.int ((p1.toUInt32 >>> ((2 : Int32) &&& 31).toUInt32).toInt32))])) _
    refine XS.iand X0.here hx rfl (hb hby at_111) rfl ?_
    exact k)
  obtain ⟨t2, ht2, CF11⟩ : ∃ t2 : Int32, (t2 = 0 ∨ t2 = 1) ∧ Go p e below s₁ (mkF m 122 #[.val (.int p1), .val (.int p2), .val (.int p3), .val (.int d), .val (.int lv), .val (.int fn), .val (.int sb0), .val (.int sb1), .val (.int sb2), .val (.int t0), .val (.int t1), .val (.int t2), .unset, .unset, .unset, .unset, .unset, .unset, .unset, .unset] []) s₁ F0 := by
    by_cases c : (((p1.toUInt32 >>> ((2 : Int32) &&& 31).toUInt32).toInt32) &&& (1 : Int32)) = 0
    · skip
      have C22 : Go p e below s₁ (mkF m 122 #[.val (.int p1), .val (.int p2), .val (.int p3), .val (.int d), .val (.int lv), .val (.int fn), .val (.int sb0), .val (.int sb1), .val (.int sb2), .val (.int t0), .val (.int t1), .val (.int (0 : Int32)), .unset, .unset, .unset, .unset, .unset, .unset, .unset, .unset] []) s₁ F0 := fun t k => C21 t (by
        refine XS.ifYes X0.here hx rfl (pc0 := 112) (pc' := 119) rfl (hb hby at_112) rfl ((if0 _ _).trans (teq c).1) (by decide) (by decide) ?_
        show Steps p.tables e below (s₁.setTop (mkF m 119 #[.val (.int p1), .val (.int p2), .val (.int p3), .val (.int d), .val (.int lv), .val (.int fn), .val (.int sb0), .val (.int sb1), .val (.int sb2), .val (.int t0), .val (.int t1), .unset, .unset, .unset, .unset, .unset, .unset, .unset, .unset, .unset] [])) _
        refine XS.iconst X0.here hx rfl (hb hby at_119) ?_
        show Steps p.tables e below (s₁.setTop (mkF m 120 #[.val (.int p1), .val (.int p2), .val (.int p3), .val (.int d), .val (.int lv), .val (.int fn), .val (.int sb0), .val (.int sb1), .val (.int sb2), .val (.int t0), .val (.int t1), .unset, .unset, .unset, .unset, .unset, .unset, .unset, .unset, .unset] [(.int (0 : Int32))])) _
        refine XS.istore X0.here hx rfl (hb hby at_120) rfl (l' := #[.val (.int p1), .val (.int p2), .val (.int p3), .val (.int d), .val (.int lv), .val (.int fn), .val (.int sb0), .val (.int sb1), .val (.int sb2), .val (.int t0), .val (.int t1), .val (.int (0 : Int32)), .unset, .unset, .unset, .unset, .unset, .unset, .unset, .unset]) rfl ?_
        exact k)
      exact ⟨_, Or.inl rfl, C22⟩
    · skip
      have C23 : Go p e below s₁ (mkF m 122 #[.val (.int p1), .val (.int p2), .val (.int p3), .val (.int d), .val (.int lv), .val (.int fn), .val (.int sb0), .val (.int sb1), .val (.int sb2), .val (.int t0), .val (.int t1), .val (.int (1 : Int32)), .unset, .unset, .unset, .unset, .unset, .unset, .unset, .unset] []) s₁ F0 := fun t k => C21 t (by
        refine XS.ifNo X0.here hx rfl (hb hby at_112) rfl ((if0 _ _).trans (feq c).1) ?_
        show Steps p.tables e below (s₁.setTop (mkF m 115 #[.val (.int p1), .val (.int p2), .val (.int p3), .val (.int d), .val (.int lv), .val (.int fn), .val (.int sb0), .val (.int sb1), .val (.int sb2), .val (.int t0), .val (.int t1), .unset, .unset, .unset, .unset, .unset, .unset, .unset, .unset, .unset] [])) _
        refine XS.iconst X0.here hx rfl (hb hby at_115) ?_
        show Steps p.tables e below (s₁.setTop (mkF m 116 #[.val (.int p1), .val (.int p2), .val (.int p3), .val (.int d), .val (.int lv), .val (.int fn), .val (.int sb0), .val (.int sb1), .val (.int sb2), .val (.int t0), .val (.int t1), .unset, .unset, .unset, .unset, .unset, .unset, .unset, .unset, .unset] [(.int (1 : Int32))])) _
        refine XS.goto X0.here hx rfl (pc0 := 116) (pc' := 120) rfl (hb hby at_116) (by decide) (by decide) ?_
        show Steps p.tables e below (s₁.setTop (mkF m 120 #[.val (.int p1), .val (.int p2), .val (.int p3), .val (.int d), .val (.int lv), .val (.int fn), .val (.int sb0), .val (.int sb1), .val (.int sb2), .val (.int t0), .val (.int t1), .unset, .unset, .unset, .unset, .unset, .unset, .unset, .unset, .unset] [(.int (1 : Int32))])) _
        refine XS.istore X0.here hx rfl (hb hby at_120) rfl (l' := #[.val (.int p1), .val (.int p2), .val (.int p3), .val (.int d), .val (.int lv), .val (.int fn), .val (.int sb0), .val (.int sb1), .val (.int sb2), .val (.int t0), .val (.int t1), .val (.int (1 : Int32)), .unset, .unset, .unset, .unset, .unset, .unset, .unset, .unset]) rfl ?_
        exact k)
      exact ⟨_, Or.inr rfl, C23⟩
  obtain ⟨T24, h24, X24, e24, E24, A24, D24, -, st24⟩ := newO X0 hx hZ hown (hw _ (List.mem_of_getElem? (i := 0) rfl)) (hw _ (List.mem_of_getElem? (i := 1) rfl)) (hw _ (List.mem_of_getElem? (i := 2) rfl)) e0 (g := (mkF m 122 #[.val (.int p1), .val (.int p2), .val (.int p3), .val (.int d), .val (.int lv), .val (.int fn), .val (.int sb0), .val (.int sb1), .val (.int sb2), .val (.int t0), .val (.int t1), .val (.int t2), .unset, .unset, .unset, .unset, .unset, .unset, .unset, .unset] [])) rfl (hb hby at_122) (by decide) (by decide)
  obtain ⟨b24, g24⟩ : ∃ z, z = h0.size := ⟨_, rfl⟩
  rw [← g24] at A24 D24 st24
  have C24 : Go p e below T24 (mkF m 125 #[.val (.int p1), .val (.int p2), .val (.int p3), .val (.int d), .val (.int lv), .val (.int fn), .val (.int sb0), .val (.int sb1), .val (.int sb2), .val (.int t0), .val (.int t1), .val (.int t2), .unset, .unset, .unset, .unset, .unset, .unset, .unset, .unset] [(.ref b24)]) s₁ F0 := fun t k => CF11 t (st24 t k)
  have gx24 : n0 ≤ b24 := Nat.le_trans Z0 (Nat.le_of_eq g24.symm)
  have Zx24 : n0 ≤ h24.size := Nat.le_trans Z0 E24.1
  have F_key24 : Fld Z h24 b24 "com/example/rosewood/rosewood/Node" "key" "Ljava/lang/Object;" .null := D24 (Or.inl (hw _ (List.mem_of_getElem? (i := 10) rfl))) (ty := (.object "java/lang/Object")) (by decide)
  have F_value24 : Fld Z h24 b24 "com/example/rosewood/rosewood/Node" "value" "Ljava/lang/Object;" .null := D24 (Or.inl (hw _ (List.mem_of_getElem? (i := 12) rfl))) (ty := (.object "java/lang/Object")) (by decide)
  have F_red24 : Fld Z h24 b24 "com/example/rosewood/rosewood/Node" "red" "Z" (.int (0 : Int32)) := D24 (Or.inl (hw _ (List.mem_of_getElem? (i := 14) rfl))) (ty := .boolean) (by decide)
  have F_left24 : Fld Z h24 b24 "com/example/rosewood/rosewood/Node" "left" "Lcom/example/rosewood/rosewood/Node;" .null := D24 (Or.inl (hw _ (List.mem_of_getElem? (i := 20) rfl))) (ty := (.object "com/example/rosewood/rosewood/Node")) (by decide)
  have F_right24 : Fld Z h24 b24 "com/example/rosewood/rosewood/Node" "right" "Lcom/example/rosewood/rosewood/Node;" .null := D24 (Or.inl (hw _ (List.mem_of_getElem? (i := 22) rfl))) (ty := (.object "com/example/rosewood/rosewood/Node")) (by decide)
  have C25 : Go p e below T24 (mkF m 129 #[.val (.int p1), .val (.int p2), .val (.int p3), .val (.int d), .val (.int lv), .val (.int fn), .val (.int sb0), .val (.int sb1), .val (.int sb2), .val (.int t0), .val (.int t1), .val (.int t2), .unset, .unset, .unset, .unset, .unset, .unset, .unset, .unset] [(.int (0 : Int32)), .null, .null, (.ref b24), (.ref b24)]) s₁ F0 := fun t k => C24 t (by
    refine XS.dup X24.here hx rfl (hb hby at_125) rfl rfl ?_
    show Steps p.tables e below (T24.setTop (mkF m 126 #[.val (.int p1), .val (.int p2), .val (.int p3), .val (.int d), .val (.int lv), .val (.int fn), .val (.int sb0), .val (.int sb1), .val (.int sb2), .val (.int t0), .val (.int t1), .val (.int t2), .unset, .unset, .unset, .unset, .unset, .unset, .unset, .unset] [(.ref b24), (.ref b24)])) _
    refine XS.aconstNull X24.here hx rfl (hb hby at_126) ?_
    show Steps p.tables e below (T24.setTop (mkF m 127 #[.val (.int p1), .val (.int p2), .val (.int p3), .val (.int d), .val (.int lv), .val (.int fn), .val (.int sb0), .val (.int sb1), .val (.int sb2), .val (.int t0), .val (.int t1), .val (.int t2), .unset, .unset, .unset, .unset, .unset, .unset, .unset, .unset] [.null, (.ref b24), (.ref b24)])) _
    refine XS.aconstNull X24.here hx rfl (hb hby at_127) ?_
    show Steps p.tables e below (T24.setTop (mkF m 128 #[.val (.int p1), .val (.int p2), .val (.int p3), .val (.int d), .val (.int lv), .val (.int fn), .val (.int sb0), .val (.int sb1), .val (.int sb2), .val (.int t0), .val (.int t1), .val (.int t2), .unset, .unset, .unset, .unset, .unset, .unset, .unset, .unset] [.null, .null, (.ref b24), (.ref b24)])) _
    refine XS.iconst X24.here hx rfl (hb hby at_128) ?_
    exact k)
  obtain ⟨_, _, ⟨T26, L26, k26, n26⟩, -, X26, ⟨Lc26, hQ26, l26, y26, z26⟩, st26⟩ := X24.specialBack hx (y := (⟨"com/example/rosewood/rosewood/Node", "<init>", "(Ljava/lang/Object;Ljava/lang/Object;Z)V"⟩ : MethodName)) rfl hown (mvT hZ (hw _ (List.mem_of_getElem? (i := 3) rfl))) (mvT hZ (hw _ (List.mem_of_getElem? (i := 4) rfl))) (mvT hZ (hw _ (List.mem_of_getElem? (i := 5) rfl))) (by decide) (backOf (W := 1) (rm1 l Z a0 hw [] b24 .null .null (.int 0) h24 n0 Zx24 F_key24 F_value24 F_red24 ⟨A24, F_left24, F_right24, rfl⟩ gx24) hZ (hw _ (List.mem_of_getElem? (i := 5) rfl)) (hw _ (List.mem_of_getElem? (i := 2) rfl)) (by decide) (by decide)) (g := (mkF m 129 #[.val (.int p1), .val (.int p2), .val (.int p3), .val (.int d), .val (.int lv), .val (.int fn), .val (.int sb0), .val (.int sb1), .val (.int sb2), .val (.int t0), .val (.int t1), .val (.int t2), .unset, .unset, .unset, .unset, .unset, .unset, .unset, .unset] [(.int (0 : Int32)), .null, .null, (.ref b24), (.ref b24)])) rfl (by rw [hml]; rfl) (Steps.refl _) (a := b24) (argsL := [.null, .null, (.int (0 : Int32))]) (rest := [(.ref b24)]) (lenOf pd_1 rfl) rfl (by show 2 * 0 + _ ≤ _; exact Nat.le_of_eq rfl) (hb hby at_129) (fun _ _ => ⟨rfl, e24, (by decide : 1 + 0 ≤ _), (by decide : 5 + 0 ≤ _)⟩)
  dsimp only [Pt.U, Pt.locs, Pt.cells, Pt.slots] at X26 l26 y26 z26 st26 hQ26
  subst l26 y26 z26
  obtain ⟨rfl, N26q, K26, Nd26⟩ := hQ26
  have C26 : Go p e below T26 (mkF m 132 #[.val (.int p1), .val (.int p2), .val (.int p3), .val (.int d), .val (.int lv), .val (.int fn), .val (.int sb0), .val (.int sb1), .val (.int sb2), .val (.int t0), .val (.int t1), .val (.int t2), .unset, .unset, .unset, .unset, .unset, .unset, .unset, .unset] [(.ref b24)]) s₁ F0 := fun t k => C25 t (st26.trans k)
  have N26 := Fr.app N0 N26q
  have Zx26 : n0 ≤ T26.heap.size := Nat.le_trans Zx24 K26.1
  have C27 : Go p e below T26 (mkF m 134 #[.val (.int p1), .val (.int p2), .val (.int p3), .val (.int d), .val (.int lv), .val (.int fn), .val (.int sb0), .val (.int sb1), .val (.int sb2), .val (.int t0), .val (.int t1), .val (.int t2), .val (.ref b24), .unset, .unset, .unset, .unset, .unset, .unset, .unset] []) s₁ F0 := fun t k => C26 t (by
    refine XS.astore X26.here hx rfl (hb hby at_132) rfl rfl (l' := #[.val (.int p1), .val (.int p2), .val (.int p3), .val (.int d), .val (.int lv), .val (.int fn), .val (.int sb0), .val (.int sb1), .val (.int sb2), .val (.int t0), .val (.int t1), .val (.int t2), .val (.ref b24), .unset, .unset, .unset, .unset, .unset, .unset, .unset]) rfl ?_
    exact k)
  obtain ⟨T28, h28, X28, e28, E28, A28, D28, -, st28⟩ := newO X26 hx hZ hown (hw _ (List.mem_of_getElem? (i := 0) rfl)) (hw _ (List.mem_of_getElem? (i := 1) rfl)) (hw _ (List.mem_of_getElem? (i := 2) rfl)) rfl (g := (mkF m 134 #[.val (.int p1), .val (.int p2), .val (.int p3), .val (.int d), .val (.int lv), .val (.int fn), .val (.int sb0), .val (.int sb1), .val (.int sb2), .val (.int t0), .val (.int t1), .val (.int t2), .val (.ref b24), .unset, .unset, .unset, .unset, .unset, .unset, .unset] [])) rfl (hb hby at_134) (by decide) (by decide)
  obtain ⟨b28, g28⟩ : ∃ z, z = T26.heap.size := ⟨_, rfl⟩
  rw [← g28] at A28 D28 st28
  have C28 : Go p e below T28 (mkF m 137 #[.val (.int p1), .val (.int p2), .val (.int p3), .val (.int d), .val (.int lv), .val (.int fn), .val (.int sb0), .val (.int sb1), .val (.int sb2), .val (.int t0), .val (.int t1), .val (.int t2), .val (.ref b24), .unset, .unset, .unset, .unset, .unset, .unset, .unset] [(.ref b28)]) s₁ F0 := fun t k => C27 t (st28 t k)
  have gx28 : n0 ≤ b28 := Nat.le_trans Zx26 (Nat.le_of_eq g28.symm)
  have Zx28 : n0 ≤ h28.size := Nat.le_trans Zx26 E28.1
  have F_key28 : Fld Z h28 b28 "com/example/rosewood/rosewood/Node" "key" "Ljava/lang/Object;" .null := D28 (Or.inl (hw _ (List.mem_of_getElem? (i := 10) rfl))) (ty := (.object "java/lang/Object")) (by decide)
  have F_value28 : Fld Z h28 b28 "com/example/rosewood/rosewood/Node" "value" "Ljava/lang/Object;" .null := D28 (Or.inl (hw _ (List.mem_of_getElem? (i := 12) rfl))) (ty := (.object "java/lang/Object")) (by decide)
  have F_red28 : Fld Z h28 b28 "com/example/rosewood/rosewood/Node" "red" "Z" (.int (0 : Int32)) := D28 (Or.inl (hw _ (List.mem_of_getElem? (i := 14) rfl))) (ty := .boolean) (by decide)
  have F_left28 : Fld Z h28 b28 "com/example/rosewood/rosewood/Node" "left" "Lcom/example/rosewood/rosewood/Node;" .null := D28 (Or.inl (hw _ (List.mem_of_getElem? (i := 20) rfl))) (ty := (.object "com/example/rosewood/rosewood/Node")) (by decide)
  have F_right28 : Fld Z h28 b28 "com/example/rosewood/rosewood/Node" "right" "Lcom/example/rosewood/rosewood/Node;" .null := D28 (Or.inl (hw _ (List.mem_of_getElem? (i := 22) rfl))) (ty := (.object "com/example/rosewood/rosewood/Node")) (by decide)
  have ne_b24_b28 : b24 ≠ b28 := Nat.ne_of_lt (Nat.lt_of_lt_of_le Nd26.lt (Nat.le_of_eq g28.symm))
  have C29 : Go p e below T28 (mkF m 141 #[.val (.int p1), .val (.int p2), .val (.int p3), .val (.int d), .val (.int lv), .val (.int fn), .val (.int sb0), .val (.int sb1), .val (.int sb2), .val (.int t0), .val (.int t1), .val (.int t2), .val (.ref b24), .unset, .unset, .unset, .unset, .unset, .unset, .unset] [(.int (0 : Int32)), .null, .null, (.ref b28), (.ref b28)]) s₁ F0 := fun t k => C28 t (by
    refine XS.dup X28.here hx rfl (hb hby at_137) rfl rfl ?_
    show Steps p.tables e below (T28.setTop (mkF m 138 #[.val (.int p1), .val (.int p2), .val (.int p3), .val (.int d), .val (.int lv), .val (.int fn), .val (.int sb0), .val (.int sb1), .val (.int sb2), .val (.int t0), .val (.int t1), .val (.int t2), .val (.ref b24), .unset, .unset, .unset, .unset, .unset, .unset, .unset] [(.ref b28), (.ref b28)])) _
    refine XS.aconstNull X28.here hx rfl (hb hby at_138) ?_
    show Steps p.tables e below (T28.setTop (mkF m 139 #[.val (.int p1), .val (.int p2), .val (.int p3), .val (.int d), .val (.int lv), .val (.int fn), .val (.int sb0), .val (.int sb1), .val (.int sb2), .val (.int t0), .val (.int t1), .val (.int t2), .val (.ref b24), .unset, .unset, .unset, .unset, .unset, .unset, .unset] [.null, (.ref b28), (.ref b28)])) _
    refine XS.aconstNull X28.here hx rfl (hb hby at_139) ?_
    show Steps p.tables e below (T28.setTop (mkF m 140 #[.val (.int p1), .val (.int p2), .val (.int p3), .val (.int d), .val (.int lv), .val (.int fn), .val (.int sb0), .val (.int sb1), .val (.int sb2), .val (.int t0), .val (.int t1), .val (.int t2), .val (.ref b24), .unset, .unset, .unset, .unset, .unset, .unset, .unset] [.null, .null, (.ref b28), (.ref b28)])) _
    refine XS.iconst X28.here hx rfl (hb hby at_140) ?_
    exact k)
  obtain ⟨_, _, ⟨T30, L30, k30, n30⟩, -, X30, ⟨Lc30, hQ30, l30, y30, z30⟩, st30⟩ := X28.specialBack hx (y := (⟨"com/example/rosewood/rosewood/Node", "<init>", "(Ljava/lang/Object;Ljava/lang/Object;Z)V"⟩ : MethodName)) rfl hown (mvT hZ (hw _ (List.mem_of_getElem? (i := 3) rfl))) (mvT hZ (hw _ (List.mem_of_getElem? (i := 4) rfl))) (mvT hZ (hw _ (List.mem_of_getElem? (i := 5) rfl))) (by decide) (backOf (W := 1) (rm1 l Z a0 hw [] b28 .null .null (.int 0) h28 n0 Zx28 F_key28 F_value28 F_red28 ⟨A28, F_left28, F_right28, rfl⟩ gx28) hZ (hw _ (List.mem_of_getElem? (i := 5) rfl)) (hw _ (List.mem_of_getElem? (i := 2) rfl)) (by decide) (by decide)) (g := (mkF m 141 #[.val (.int p1), .val (.int p2), .val (.int p3), .val (.int d), .val (.int lv), .val (.int fn), .val (.int sb0), .val (.int sb1), .val (.int sb2), .val (.int t0), .val (.int t1), .val (.int t2), .val (.ref b24), .unset, .unset, .unset, .unset, .unset, .unset, .unset] [(.int (0 : Int32)), .null, .null, (.ref b28), (.ref b28)])) rfl (by rw [hml]; rfl) (Steps.refl _) (a := b28) (argsL := [.null, .null, (.int (0 : Int32))]) (rest := [(.ref b28)]) (lenOf pd_1 rfl) rfl (by show 2 * 0 + _ ≤ _; exact Nat.le_of_eq rfl) (hb hby at_141) (fun _ _ => ⟨rfl, e28, (by decide : 2 + 0 ≤ _), (by decide : 10 + 0 ≤ _)⟩)
  dsimp only [Pt.U, Pt.locs, Pt.cells, Pt.slots] at X30 l30 y30 z30 st30 hQ30
  subst l30 y30 z30
  obtain ⟨rfl, N30q, K30, Nd30⟩ := hQ30
  have C30 : Go p e below T30 (mkF m 144 #[.val (.int p1), .val (.int p2), .val (.int p3), .val (.int d), .val (.int lv), .val (.int fn), .val (.int sb0), .val (.int sb1), .val (.int sb2), .val (.int t0), .val (.int t1), .val (.int t2), .val (.ref b24), .unset, .unset, .unset, .unset, .unset, .unset, .unset] [(.ref b28)]) s₁ F0 := fun t k => C29 t (st30.trans k)
  have N30 := Fr.app N26 N30q
  have Zx30 : n0 ≤ T30.heap.size := Nat.le_trans Zx28 K30.1
  have Nd30_b24 := (Nd26.ext E28).keep K30 (ninS ne_b24_b28 nin0)
  have C31 : Go p e below T30 (mkF m 146 #[.val (.int p1), .val (.int p2), .val (.int p3), .val (.int d), .val (.int lv), .val (.int fn), .val (.int sb0), .val (.int sb1), .val (.int sb2), .val (.int t0), .val (.int t1), .val (.int t2), .val (.ref b24), .val (.ref b28), .unset, .unset, .unset, .unset, .unset, .unset] []) s₁ F0 := fun t k => C30 t (by
    refine XS.astore X30.here hx rfl (hb hby at_144) rfl rfl (l' := #[.val (.int p1), .val (.int p2), .val (.int p3), .val (.int d), .val (.int lv), .val (.int fn), .val (.int sb0), .val (.int sb1), .val (.int sb2), .val (.int t0), .val (.int t1), .val (.int t2), .val (.ref b24), .val (.ref b28), .unset, .unset, .unset, .unset, .unset, .unset]) rfl ?_
    exact k)
  obtain ⟨T32, h32, X32, e32, E32, A32, D32, -, st32⟩ := newO X30 hx hZ hown (hw _ (List.mem_of_getElem? (i := 0) rfl)) (hw _ (List.mem_of_getElem? (i := 1) rfl)) (hw _ (List.mem_of_getElem? (i := 2) rfl)) rfl (g := (mkF m 146 #[.val (.int p1), .val (.int p2), .val (.int p3), .val (.int d), .val (.int lv), .val (.int fn), .val (.int sb0), .val (.int sb1), .val (.int sb2), .val (.int t0), .val (.int t1), .val (.int t2), .val (.ref b24), .val (.ref b28), .unset, .unset, .unset, .unset, .unset, .unset] [])) rfl (hb hby at_146) (by decide) (by decide)
  obtain ⟨b32, g32⟩ : ∃ z, z = T30.heap.size := ⟨_, rfl⟩
  rw [← g32] at A32 D32 st32
  have C32 : Go p e below T32 (mkF m 149 #[.val (.int p1), .val (.int p2), .val (.int p3), .val (.int d), .val (.int lv), .val (.int fn), .val (.int sb0), .val (.int sb1), .val (.int sb2), .val (.int t0), .val (.int t1), .val (.int t2), .val (.ref b24), .val (.ref b28), .unset, .unset, .unset, .unset, .unset, .unset] [(.ref b32)]) s₁ F0 := fun t k => C31 t (st32 t k)
  have gx32 : n0 ≤ b32 := Nat.le_trans Zx30 (Nat.le_of_eq g32.symm)
  have Zx32 : n0 ≤ h32.size := Nat.le_trans Zx30 E32.1
  have F_key32 : Fld Z h32 b32 "com/example/rosewood/rosewood/Node" "key" "Ljava/lang/Object;" .null := D32 (Or.inl (hw _ (List.mem_of_getElem? (i := 10) rfl))) (ty := (.object "java/lang/Object")) (by decide)
  have F_value32 : Fld Z h32 b32 "com/example/rosewood/rosewood/Node" "value" "Ljava/lang/Object;" .null := D32 (Or.inl (hw _ (List.mem_of_getElem? (i := 12) rfl))) (ty := (.object "java/lang/Object")) (by decide)
  have F_red32 : Fld Z h32 b32 "com/example/rosewood/rosewood/Node" "red" "Z" (.int (0 : Int32)) := D32 (Or.inl (hw _ (List.mem_of_getElem? (i := 14) rfl))) (ty := .boolean) (by decide)
  have F_left32 : Fld Z h32 b32 "com/example/rosewood/rosewood/Node" "left" "Lcom/example/rosewood/rosewood/Node;" .null := D32 (Or.inl (hw _ (List.mem_of_getElem? (i := 20) rfl))) (ty := (.object "com/example/rosewood/rosewood/Node")) (by decide)
  have F_right32 : Fld Z h32 b32 "com/example/rosewood/rosewood/Node" "right" "Lcom/example/rosewood/rosewood/Node;" .null := D32 (Or.inl (hw _ (List.mem_of_getElem? (i := 22) rfl))) (ty := (.object "com/example/rosewood/rosewood/Node")) (by decide)
  have ne_b24_b32 : b24 ≠ b32 := Nat.ne_of_lt (Nat.lt_of_lt_of_le Nd30_b24.lt (Nat.le_of_eq g32.symm))
  have ne_b28_b32 : b28 ≠ b32 := Nat.ne_of_lt (Nat.lt_of_lt_of_le Nd30.lt (Nat.le_of_eq g32.symm))
  have C33 : Go p e below T32 (mkF m 153 #[.val (.int p1), .val (.int p2), .val (.int p3), .val (.int d), .val (.int lv), .val (.int fn), .val (.int sb0), .val (.int sb1), .val (.int sb2), .val (.int t0), .val (.int t1), .val (.int t2), .val (.ref b24), .val (.ref b28), .unset, .unset, .unset, .unset, .unset, .unset] [(.int (0 : Int32)), .null, .null, (.ref b32), (.ref b32)]) s₁ F0 := fun t k => C32 t (by
    refine XS.dup X32.here hx rfl (hb hby at_149) rfl rfl ?_
    show Steps p.tables e below (T32.setTop (mkF m 150 #[.val (.int p1), .val (.int p2), .val (.int p3), .val (.int d), .val (.int lv), .val (.int fn), .val (.int sb0), .val (.int sb1), .val (.int sb2), .val (.int t0), .val (.int t1), .val (.int t2), .val (.ref b24), .val (.ref b28), .unset, .unset, .unset, .unset, .unset, .unset] [(.ref b32), (.ref b32)])) _
    refine XS.aconstNull X32.here hx rfl (hb hby at_150) ?_
    show Steps p.tables e below (T32.setTop (mkF m 151 #[.val (.int p1), .val (.int p2), .val (.int p3), .val (.int d), .val (.int lv), .val (.int fn), .val (.int sb0), .val (.int sb1), .val (.int sb2), .val (.int t0), .val (.int t1), .val (.int t2), .val (.ref b24), .val (.ref b28), .unset, .unset, .unset, .unset, .unset, .unset] [.null, (.ref b32), (.ref b32)])) _
    refine XS.aconstNull X32.here hx rfl (hb hby at_151) ?_
    show Steps p.tables e below (T32.setTop (mkF m 152 #[.val (.int p1), .val (.int p2), .val (.int p3), .val (.int d), .val (.int lv), .val (.int fn), .val (.int sb0), .val (.int sb1), .val (.int sb2), .val (.int t0), .val (.int t1), .val (.int t2), .val (.ref b24), .val (.ref b28), .unset, .unset, .unset, .unset, .unset, .unset] [.null, .null, (.ref b32), (.ref b32)])) _
    refine XS.iconst X32.here hx rfl (hb hby at_152) ?_
    exact k)
  obtain ⟨_, _, ⟨T34, L34, k34, n34⟩, -, X34, ⟨Lc34, hQ34, l34, y34, z34⟩, st34⟩ := X32.specialBack hx (y := (⟨"com/example/rosewood/rosewood/Node", "<init>", "(Ljava/lang/Object;Ljava/lang/Object;Z)V"⟩ : MethodName)) rfl hown (mvT hZ (hw _ (List.mem_of_getElem? (i := 3) rfl))) (mvT hZ (hw _ (List.mem_of_getElem? (i := 4) rfl))) (mvT hZ (hw _ (List.mem_of_getElem? (i := 5) rfl))) (by decide) (backOf (W := 1) (rm1 l Z a0 hw [] b32 .null .null (.int 0) h32 n0 Zx32 F_key32 F_value32 F_red32 ⟨A32, F_left32, F_right32, rfl⟩ gx32) hZ (hw _ (List.mem_of_getElem? (i := 5) rfl)) (hw _ (List.mem_of_getElem? (i := 2) rfl)) (by decide) (by decide)) (g := (mkF m 153 #[.val (.int p1), .val (.int p2), .val (.int p3), .val (.int d), .val (.int lv), .val (.int fn), .val (.int sb0), .val (.int sb1), .val (.int sb2), .val (.int t0), .val (.int t1), .val (.int t2), .val (.ref b24), .val (.ref b28), .unset, .unset, .unset, .unset, .unset, .unset] [(.int (0 : Int32)), .null, .null, (.ref b32), (.ref b32)])) rfl (by rw [hml]; rfl) (Steps.refl _) (a := b32) (argsL := [.null, .null, (.int (0 : Int32))]) (rest := [(.ref b32)]) (lenOf pd_1 rfl) rfl (by show 2 * 0 + _ ≤ _; exact Nat.le_of_eq rfl) (hb hby at_153) (fun _ _ => ⟨rfl, e32, (by decide : 3 + 0 ≤ _), (by decide : 15 + 0 ≤ _)⟩)
  dsimp only [Pt.U, Pt.locs, Pt.cells, Pt.slots] at X34 l34 y34 z34 st34 hQ34
  subst l34 y34 z34
  obtain ⟨rfl, N34q, K34, Nd34⟩ := hQ34
  have C34 : Go p e below T34 (mkF m 156 #[.val (.int p1), .val (.int p2), .val (.int p3), .val (.int d), .val (.int lv), .val (.int fn), .val (.int sb0), .val (.int sb1), .val (.int sb2), .val (.int t0), .val (.int t1), .val (.int t2), .val (.ref b24), .val (.ref b28), .unset, .unset, .unset, .unset, .unset, .unset] [(.ref b32)]) s₁ F0 := fun t k => C33 t (st34.trans k)
  have N34 := Fr.app N30 N34q
  have Zx34 : n0 ≤ T34.heap.size := Nat.le_trans Zx32 K34.1
  have Nd34_b24 := (Nd30_b24.ext E32).keep K34 (ninS ne_b24_b32 nin0)
  have Nd34_b28 := (Nd30.ext E32).keep K34 (ninS ne_b28_b32 nin0)
  have C35 : Go p e below T34 (mkF m 158 #[.val (.int p1), .val (.int p2), .val (.int p3), .val (.int d), .val (.int lv), .val (.int fn), .val (.int sb0), .val (.int sb1), .val (.int sb2), .val (.int t0), .val (.int t1), .val (.int t2), .val (.ref b24), .val (.ref b28), .val (.ref b32), .unset, .unset, .unset, .unset, .unset] []) s₁ F0 := fun t k => C34 t (by
    refine XS.astore X34.here hx rfl (hb hby at_156) rfl rfl (l' := #[.val (.int p1), .val (.int p2), .val (.int p3), .val (.int d), .val (.int lv), .val (.int fn), .val (.int sb0), .val (.int sb1), .val (.int sb2), .val (.int t0), .val (.int t1), .val (.int t2), .val (.ref b24), .val (.ref b28), .val (.ref b32), .unset, .unset, .unset, .unset, .unset]) rfl ?_
    exact k)
  obtain ⟨T36, h36, X36, e36, E36, A36, D36, -, st36⟩ := newO X34 hx hZ hown (hw _ (List.mem_of_getElem? (i := 0) rfl)) (hw _ (List.mem_of_getElem? (i := 1) rfl)) (hw _ (List.mem_of_getElem? (i := 2) rfl)) rfl (g := (mkF m 158 #[.val (.int p1), .val (.int p2), .val (.int p3), .val (.int d), .val (.int lv), .val (.int fn), .val (.int sb0), .val (.int sb1), .val (.int sb2), .val (.int t0), .val (.int t1), .val (.int t2), .val (.ref b24), .val (.ref b28), .val (.ref b32), .unset, .unset, .unset, .unset, .unset] [])) rfl (hb hby at_158) (by decide) (by decide)
  obtain ⟨b36, g36⟩ : ∃ z, z = T34.heap.size := ⟨_, rfl⟩
  rw [← g36] at A36 D36 st36
  have C36 : Go p e below T36 (mkF m 161 #[.val (.int p1), .val (.int p2), .val (.int p3), .val (.int d), .val (.int lv), .val (.int fn), .val (.int sb0), .val (.int sb1), .val (.int sb2), .val (.int t0), .val (.int t1), .val (.int t2), .val (.ref b24), .val (.ref b28), .val (.ref b32), .unset, .unset, .unset, .unset, .unset] [(.ref b36)]) s₁ F0 := fun t k => C35 t (st36 t k)
  have gx36 : n0 ≤ b36 := Nat.le_trans Zx34 (Nat.le_of_eq g36.symm)
  have Zx36 : n0 ≤ h36.size := Nat.le_trans Zx34 E36.1
  have F_key36 : Fld Z h36 b36 "com/example/rosewood/rosewood/Node" "key" "Ljava/lang/Object;" .null := D36 (Or.inl (hw _ (List.mem_of_getElem? (i := 10) rfl))) (ty := (.object "java/lang/Object")) (by decide)
  have F_value36 : Fld Z h36 b36 "com/example/rosewood/rosewood/Node" "value" "Ljava/lang/Object;" .null := D36 (Or.inl (hw _ (List.mem_of_getElem? (i := 12) rfl))) (ty := (.object "java/lang/Object")) (by decide)
  have F_red36 : Fld Z h36 b36 "com/example/rosewood/rosewood/Node" "red" "Z" (.int (0 : Int32)) := D36 (Or.inl (hw _ (List.mem_of_getElem? (i := 14) rfl))) (ty := .boolean) (by decide)
  have F_left36 : Fld Z h36 b36 "com/example/rosewood/rosewood/Node" "left" "Lcom/example/rosewood/rosewood/Node;" .null := D36 (Or.inl (hw _ (List.mem_of_getElem? (i := 20) rfl))) (ty := (.object "com/example/rosewood/rosewood/Node")) (by decide)
  have F_right36 : Fld Z h36 b36 "com/example/rosewood/rosewood/Node" "right" "Lcom/example/rosewood/rosewood/Node;" .null := D36 (Or.inl (hw _ (List.mem_of_getElem? (i := 22) rfl))) (ty := (.object "com/example/rosewood/rosewood/Node")) (by decide)
  have ne_b24_b36 : b24 ≠ b36 := Nat.ne_of_lt (Nat.lt_of_lt_of_le Nd34_b24.lt (Nat.le_of_eq g36.symm))
  have ne_b28_b36 : b28 ≠ b36 := Nat.ne_of_lt (Nat.lt_of_lt_of_le Nd34_b28.lt (Nat.le_of_eq g36.symm))
  have ne_b32_b36 : b32 ≠ b36 := Nat.ne_of_lt (Nat.lt_of_lt_of_le Nd34.lt (Nat.le_of_eq g36.symm))
  have C37 : Go p e below T36 (mkF m 165 #[.val (.int p1), .val (.int p2), .val (.int p3), .val (.int d), .val (.int lv), .val (.int fn), .val (.int sb0), .val (.int sb1), .val (.int sb2), .val (.int t0), .val (.int t1), .val (.int t2), .val (.ref b24), .val (.ref b28), .val (.ref b32), .unset, .unset, .unset, .unset, .unset] [(.int (0 : Int32)), .null, .null, (.ref b36), (.ref b36)]) s₁ F0 := fun t k => C36 t (by
    refine XS.dup X36.here hx rfl (hb hby at_161) rfl rfl ?_
    show Steps p.tables e below (T36.setTop (mkF m 162 #[.val (.int p1), .val (.int p2), .val (.int p3), .val (.int d), .val (.int lv), .val (.int fn), .val (.int sb0), .val (.int sb1), .val (.int sb2), .val (.int t0), .val (.int t1), .val (.int t2), .val (.ref b24), .val (.ref b28), .val (.ref b32), .unset, .unset, .unset, .unset, .unset] [(.ref b36), (.ref b36)])) _
    refine XS.aconstNull X36.here hx rfl (hb hby at_162) ?_
    show Steps p.tables e below (T36.setTop (mkF m 163 #[.val (.int p1), .val (.int p2), .val (.int p3), .val (.int d), .val (.int lv), .val (.int fn), .val (.int sb0), .val (.int sb1), .val (.int sb2), .val (.int t0), .val (.int t1), .val (.int t2), .val (.ref b24), .val (.ref b28), .val (.ref b32), .unset, .unset, .unset, .unset, .unset] [.null, (.ref b36), (.ref b36)])) _
    refine XS.aconstNull X36.here hx rfl (hb hby at_163) ?_
    show Steps p.tables e below (T36.setTop (mkF m 164 #[.val (.int p1), .val (.int p2), .val (.int p3), .val (.int d), .val (.int lv), .val (.int fn), .val (.int sb0), .val (.int sb1), .val (.int sb2), .val (.int t0), .val (.int t1), .val (.int t2), .val (.ref b24), .val (.ref b28), .val (.ref b32), .unset, .unset, .unset, .unset, .unset] [.null, .null, (.ref b36), (.ref b36)])) _
    refine XS.iconst X36.here hx rfl (hb hby at_164) ?_
    exact k)
  obtain ⟨_, _, ⟨T38, L38, k38, n38⟩, -, X38, ⟨Lc38, hQ38, l38, y38, z38⟩, st38⟩ := X36.specialBack hx (y := (⟨"com/example/rosewood/rosewood/Node", "<init>", "(Ljava/lang/Object;Ljava/lang/Object;Z)V"⟩ : MethodName)) rfl hown (mvT hZ (hw _ (List.mem_of_getElem? (i := 3) rfl))) (mvT hZ (hw _ (List.mem_of_getElem? (i := 4) rfl))) (mvT hZ (hw _ (List.mem_of_getElem? (i := 5) rfl))) (by decide) (backOf (W := 1) (rm1 l Z a0 hw [] b36 .null .null (.int 0) h36 n0 Zx36 F_key36 F_value36 F_red36 ⟨A36, F_left36, F_right36, rfl⟩ gx36) hZ (hw _ (List.mem_of_getElem? (i := 5) rfl)) (hw _ (List.mem_of_getElem? (i := 2) rfl)) (by decide) (by decide)) (g := (mkF m 165 #[.val (.int p1), .val (.int p2), .val (.int p3), .val (.int d), .val (.int lv), .val (.int fn), .val (.int sb0), .val (.int sb1), .val (.int sb2), .val (.int t0), .val (.int t1), .val (.int t2), .val (.ref b24), .val (.ref b28), .val (.ref b32), .unset, .unset, .unset, .unset, .unset] [(.int (0 : Int32)), .null, .null, (.ref b36), (.ref b36)])) rfl (by rw [hml]; rfl) (Steps.refl _) (a := b36) (argsL := [.null, .null, (.int (0 : Int32))]) (rest := [(.ref b36)]) (lenOf pd_1 rfl) rfl (by show 2 * 0 + _ ≤ _; exact Nat.le_of_eq rfl) (hb hby at_165) (fun _ _ => ⟨rfl, e36, (by decide : 4 + 0 ≤ _), (by decide : 20 + 0 ≤ _)⟩)
  dsimp only [Pt.U, Pt.locs, Pt.cells, Pt.slots] at X38 l38 y38 z38 st38 hQ38
  subst l38 y38 z38
  obtain ⟨rfl, N38q, K38, Nd38⟩ := hQ38
  have C38 : Go p e below T38 (mkF m 168 #[.val (.int p1), .val (.int p2), .val (.int p3), .val (.int d), .val (.int lv), .val (.int fn), .val (.int sb0), .val (.int sb1), .val (.int sb2), .val (.int t0), .val (.int t1), .val (.int t2), .val (.ref b24), .val (.ref b28), .val (.ref b32), .unset, .unset, .unset, .unset, .unset] [(.ref b36)]) s₁ F0 := fun t k => C37 t (st38.trans k)
  have N38 := Fr.app N34 N38q
  have Zx38 : n0 ≤ T38.heap.size := Nat.le_trans Zx36 K38.1
  have Nd38_b24 := (Nd34_b24.ext E36).keep K38 (ninS ne_b24_b36 nin0)
  have Nd38_b28 := (Nd34_b28.ext E36).keep K38 (ninS ne_b28_b36 nin0)
  have Nd38_b32 := (Nd34.ext E36).keep K38 (ninS ne_b32_b36 nin0)
  have C39 : Go p e below T38 (mkF m 170 #[.val (.int p1), .val (.int p2), .val (.int p3), .val (.int d), .val (.int lv), .val (.int fn), .val (.int sb0), .val (.int sb1), .val (.int sb2), .val (.int t0), .val (.int t1), .val (.int t2), .val (.ref b24), .val (.ref b28), .val (.ref b32), .val (.ref b36), .unset, .unset, .unset, .unset] []) s₁ F0 := fun t k => C38 t (by
    refine XS.astore X38.here hx rfl (hb hby at_168) rfl rfl (l' := #[.val (.int p1), .val (.int p2), .val (.int p3), .val (.int d), .val (.int lv), .val (.int fn), .val (.int sb0), .val (.int sb1), .val (.int sb2), .val (.int t0), .val (.int t1), .val (.int t2), .val (.ref b24), .val (.ref b28), .val (.ref b32), .val (.ref b36), .unset, .unset, .unset, .unset]) rfl ?_
    exact k)
  obtain ⟨T40, h40, X40, e40, E40, A40, D40, -, st40⟩ := newO X38 hx hZ hown (hw _ (List.mem_of_getElem? (i := 0) rfl)) (hw _ (List.mem_of_getElem? (i := 1) rfl)) (hw _ (List.mem_of_getElem? (i := 2) rfl)) rfl (g := (mkF m 170 #[.val (.int p1), .val (.int p2), .val (.int p3), .val (.int d), .val (.int lv), .val (.int fn), .val (.int sb0), .val (.int sb1), .val (.int sb2), .val (.int t0), .val (.int t1), .val (.int t2), .val (.ref b24), .val (.ref b28), .val (.ref b32), .val (.ref b36), .unset, .unset, .unset, .unset] [])) rfl (hb hby at_170) (by decide) (by decide)
  obtain ⟨b40, g40⟩ : ∃ z, z = T38.heap.size := ⟨_, rfl⟩
  rw [← g40] at A40 D40 st40
  have C40 : Go p e below T40 (mkF m 173 #[.val (.int p1), .val (.int p2), .val (.int p3), .val (.int d), .val (.int lv), .val (.int fn), .val (.int sb0), .val (.int sb1), .val (.int sb2), .val (.int t0), .val (.int t1), .val (.int t2), .val (.ref b24), .val (.ref b28), .val (.ref b32), .val (.ref b36), .unset, .unset, .unset, .unset] [(.ref b40)]) s₁ F0 := fun t k => C39 t (st40 t k)
  have gx40 : n0 ≤ b40 := Nat.le_trans Zx38 (Nat.le_of_eq g40.symm)
  have Zx40 : n0 ≤ h40.size := Nat.le_trans Zx38 E40.1
  have F_key40 : Fld Z h40 b40 "com/example/rosewood/rosewood/Node" "key" "Ljava/lang/Object;" .null := D40 (Or.inl (hw _ (List.mem_of_getElem? (i := 10) rfl))) (ty := (.object "java/lang/Object")) (by decide)
  have F_value40 : Fld Z h40 b40 "com/example/rosewood/rosewood/Node" "value" "Ljava/lang/Object;" .null := D40 (Or.inl (hw _ (List.mem_of_getElem? (i := 12) rfl))) (ty := (.object "java/lang/Object")) (by decide)
  have F_red40 : Fld Z h40 b40 "com/example/rosewood/rosewood/Node" "red" "Z" (.int (0 : Int32)) := D40 (Or.inl (hw _ (List.mem_of_getElem? (i := 14) rfl))) (ty := .boolean) (by decide)
  have F_left40 : Fld Z h40 b40 "com/example/rosewood/rosewood/Node" "left" "Lcom/example/rosewood/rosewood/Node;" .null := D40 (Or.inl (hw _ (List.mem_of_getElem? (i := 20) rfl))) (ty := (.object "com/example/rosewood/rosewood/Node")) (by decide)
  have F_right40 : Fld Z h40 b40 "com/example/rosewood/rosewood/Node" "right" "Lcom/example/rosewood/rosewood/Node;" .null := D40 (Or.inl (hw _ (List.mem_of_getElem? (i := 22) rfl))) (ty := (.object "com/example/rosewood/rosewood/Node")) (by decide)
  have ne_b24_b40 : b24 ≠ b40 := Nat.ne_of_lt (Nat.lt_of_lt_of_le Nd38_b24.lt (Nat.le_of_eq g40.symm))
  have ne_b28_b40 : b28 ≠ b40 := Nat.ne_of_lt (Nat.lt_of_lt_of_le Nd38_b28.lt (Nat.le_of_eq g40.symm))
  have ne_b32_b40 : b32 ≠ b40 := Nat.ne_of_lt (Nat.lt_of_lt_of_le Nd38_b32.lt (Nat.le_of_eq g40.symm))
  have ne_b36_b40 : b36 ≠ b40 := Nat.ne_of_lt (Nat.lt_of_lt_of_le Nd38.lt (Nat.le_of_eq g40.symm))
  have C41 : Go p e below T40 (mkF m 177 #[.val (.int p1), .val (.int p2), .val (.int p3), .val (.int d), .val (.int lv), .val (.int fn), .val (.int sb0), .val (.int sb1), .val (.int sb2), .val (.int t0), .val (.int t1), .val (.int t2), .val (.ref b24), .val (.ref b28), .val (.ref b32), .val (.ref b36), .unset, .unset, .unset, .unset] [(.int (0 : Int32)), .null, .null, (.ref b40), (.ref b40)]) s₁ F0 := fun t k => C40 t (by
    refine XS.dup X40.here hx rfl (hb hby at_173) rfl rfl ?_
    show Steps p.tables e below (T40.setTop (mkF m 174 #[.val (.int p1), .val (.int p2), .val (.int p3), .val (.int d), .val (.int lv), .val (.int fn), .val (.int sb0), .val (.int sb1), .val (.int sb2), .val (.int t0), .val (.int t1), .val (.int t2), .val (.ref b24), .val (.ref b28), .val (.ref b32), .val (.ref b36), .unset, .unset, .unset, .unset] [(.ref b40), (.ref b40)])) _
    refine XS.aconstNull X40.here hx rfl (hb hby at_174) ?_
    show Steps p.tables e below (T40.setTop (mkF m 175 #[.val (.int p1), .val (.int p2), .val (.int p3), .val (.int d), .val (.int lv), .val (.int fn), .val (.int sb0), .val (.int sb1), .val (.int sb2), .val (.int t0), .val (.int t1), .val (.int t2), .val (.ref b24), .val (.ref b28), .val (.ref b32), .val (.ref b36), .unset, .unset, .unset, .unset] [.null, (.ref b40), (.ref b40)])) _
    refine XS.aconstNull X40.here hx rfl (hb hby at_175) ?_
    show Steps p.tables e below (T40.setTop (mkF m 176 #[.val (.int p1), .val (.int p2), .val (.int p3), .val (.int d), .val (.int lv), .val (.int fn), .val (.int sb0), .val (.int sb1), .val (.int sb2), .val (.int t0), .val (.int t1), .val (.int t2), .val (.ref b24), .val (.ref b28), .val (.ref b32), .val (.ref b36), .unset, .unset, .unset, .unset] [.null, .null, (.ref b40), (.ref b40)])) _
    refine XS.iconst X40.here hx rfl (hb hby at_176) ?_
    exact k)
  obtain ⟨_, _, ⟨T42, L42, k42, n42⟩, -, X42, ⟨Lc42, hQ42, l42, y42, z42⟩, st42⟩ := X40.specialBack hx (y := (⟨"com/example/rosewood/rosewood/Node", "<init>", "(Ljava/lang/Object;Ljava/lang/Object;Z)V"⟩ : MethodName)) rfl hown (mvT hZ (hw _ (List.mem_of_getElem? (i := 3) rfl))) (mvT hZ (hw _ (List.mem_of_getElem? (i := 4) rfl))) (mvT hZ (hw _ (List.mem_of_getElem? (i := 5) rfl))) (by decide) (backOf (W := 1) (rm1 l Z a0 hw [] b40 .null .null (.int 0) h40 n0 Zx40 F_key40 F_value40 F_red40 ⟨A40, F_left40, F_right40, rfl⟩ gx40) hZ (hw _ (List.mem_of_getElem? (i := 5) rfl)) (hw _ (List.mem_of_getElem? (i := 2) rfl)) (by decide) (by decide)) (g := (mkF m 177 #[.val (.int p1), .val (.int p2), .val (.int p3), .val (.int d), .val (.int lv), .val (.int fn), .val (.int sb0), .val (.int sb1), .val (.int sb2), .val (.int t0), .val (.int t1), .val (.int t2), .val (.ref b24), .val (.ref b28), .val (.ref b32), .val (.ref b36), .unset, .unset, .unset, .unset] [(.int (0 : Int32)), .null, .null, (.ref b40), (.ref b40)])) rfl (by rw [hml]; rfl) (Steps.refl _) (a := b40) (argsL := [.null, .null, (.int (0 : Int32))]) (rest := [(.ref b40)]) (lenOf pd_1 rfl) rfl (by show 2 * 0 + _ ≤ _; exact Nat.le_of_eq rfl) (hb hby at_177) (fun _ _ => ⟨rfl, e40, (by decide : 5 + 0 ≤ _), (by decide : 25 + 0 ≤ _)⟩)
  dsimp only [Pt.U, Pt.locs, Pt.cells, Pt.slots] at X42 l42 y42 z42 st42 hQ42
  subst l42 y42 z42
  obtain ⟨rfl, N42q, K42, Nd42⟩ := hQ42
  have C42 : Go p e below T42 (mkF m 180 #[.val (.int p1), .val (.int p2), .val (.int p3), .val (.int d), .val (.int lv), .val (.int fn), .val (.int sb0), .val (.int sb1), .val (.int sb2), .val (.int t0), .val (.int t1), .val (.int t2), .val (.ref b24), .val (.ref b28), .val (.ref b32), .val (.ref b36), .unset, .unset, .unset, .unset] [(.ref b40)]) s₁ F0 := fun t k => C41 t (st42.trans k)
  have N42 := Fr.app N38 N42q
  have Zx42 : n0 ≤ T42.heap.size := Nat.le_trans Zx40 K42.1
  have Nd42_b24 := (Nd38_b24.ext E40).keep K42 (ninS ne_b24_b40 nin0)
  have Nd42_b28 := (Nd38_b28.ext E40).keep K42 (ninS ne_b28_b40 nin0)
  have Nd42_b32 := (Nd38_b32.ext E40).keep K42 (ninS ne_b32_b40 nin0)
  have Nd42_b36 := (Nd38.ext E40).keep K42 (ninS ne_b36_b40 nin0)
  have C43 : Go p e below T42 (mkF m 182 #[.val (.int p1), .val (.int p2), .val (.int p3), .val (.int d), .val (.int lv), .val (.int fn), .val (.int sb0), .val (.int sb1), .val (.int sb2), .val (.int t0), .val (.int t1), .val (.int t2), .val (.ref b24), .val (.ref b28), .val (.ref b32), .val (.ref b36), .val (.ref b40), .unset, .unset, .unset] []) s₁ F0 := fun t k => C42 t (by
    refine XS.astore X42.here hx rfl (hb hby at_180) rfl rfl (l' := #[.val (.int p1), .val (.int p2), .val (.int p3), .val (.int d), .val (.int lv), .val (.int fn), .val (.int sb0), .val (.int sb1), .val (.int sb2), .val (.int t0), .val (.int t1), .val (.int t2), .val (.ref b24), .val (.ref b28), .val (.ref b32), .val (.ref b36), .val (.ref b40), .unset, .unset, .unset]) rfl ?_
    exact k)
  obtain ⟨hh0, ee0⟩ : ∃ z, z = T42.heap := ⟨_, rfl⟩
  have eT0 : T42.heap = hh0 := ee0.symm
  have A0 : Nd Z hh0 b24 .null .null := by rw [ee0]; exact Nd42_b24
  have A1 : Nd Z hh0 b28 .null .null := by rw [ee0]; exact Nd42_b28
  have A2 : Nd Z hh0 b32 .null .null := by rw [ee0]; exact Nd42_b32
  have LS0 : Stand p l e room_1 s m #[(.int p1), (.int p2), (.int p3)] below meth c T42 _ 5 25 := X42
  have NS0 := N42
  obtain ⟨TS1, hS1, lS1, la1, ra1, LS1, eS1, NS1, B1, B1_1, B1_2, RR1, CS1⟩ : ∃ (T' : State) (h' : Heap) (ls : List Loc) (la ra : Value), Stand p l e room_1 s m #[(.int p1), (.int p2), (.int p3)] below meth c T' ls 5 25 ∧ T'.heap = h' ∧ Fr n0 ls ∧ Nd Z h' b24 la ra ∧ Nd Z h' b28 .null .null ∧ Nd Z h' b32 .null .null ∧ (¬ d < 2 → Rt ra b28 t0) ∧ Go p e below T' (mkF m 200 #[.val (.int p1), .val (.int p2), .val (.int p3), .val (.int d), .val (.int lv), .val (.int fn), .val (.int sb0), .val (.int sb1), .val (.int sb2), .val (.int t0), .val (.int t1), .val (.int t2), .val (.ref b24), .val (.ref b28), .val (.ref b32), .val (.ref b36), .val (.ref b40), .unset, .unset, .unset] []) s₁ F0 := by
    by_cases c : d < 2
    · skip
      have C44 : Go p e below T42 (mkF m 200 #[.val (.int p1), .val (.int p2), .val (.int p3), .val (.int d), .val (.int lv), .val (.int fn), .val (.int sb0), .val (.int sb1), .val (.int sb2), .val (.int t0), .val (.int t1), .val (.int t2), .val (.ref b24), .val (.ref b28), .val (.ref b32), .val (.ref b36), .val (.ref b40), .unset, .unset, .unset] []) s₁ F0 := fun t k => C43 t (by
        refine XS.iloadN LS0.here hx rfl (hb hby at_182) rfl ?_
        show Steps p.tables e below (T42.setTop (mkF m 183 #[.val (.int p1), .val (.int p2), .val (.int p3), .val (.int d), .val (.int lv), .val (.int fn), .val (.int sb0), .val (.int sb1), .val (.int sb2), .val (.int t0), .val (.int t1), .val (.int t2), .val (.ref b24), .val (.ref b28), .val (.ref b32), .val (.ref b36), .val (.ref b40), .unset, .unset, .unset] [(.int d)])) _
        refine XS.iconst LS0.here hx rfl (hb hby at_183) ?_
        show Steps p.tables e below (T42.setTop (mkF m 184 #[.val (.int p1), .val (.int p2), .val (.int p3), .val (.int d), .val (.int lv), .val (.int fn), .val (.int sb0), .val (.int sb1), .val (.int sb2), .val (.int t0), .val (.int t1), .val (.int t2), .val (.ref b24), .val (.ref b28), .val (.ref b32), .val (.ref b36), .val (.ref b40), .unset, .unset, .unset] [(.int (2 : Int32)), (.int d)])) _
        refine XS.icmpYes LS0.here hx rfl (pc0 := 184) (pc' := 200) rfl (hb hby at_184) rfl (tlt c).1 (by decide) (by decide) ?_
        exact k)
      exact ⟨_, _, _, _, _, LS0, eT0, NS0, A0, A1, A2, fun z => absurd c z, C44⟩
    · skip
      have C45 : Go p e below T42 (mkF m 197 #[.val (.int p1), .val (.int p2), .val (.int p3), .val (.int d), .val (.int lv), .val (.int fn), .val (.int sb0), .val (.int sb1), .val (.int sb2), .val (.int t0), .val (.int t1), .val (.int t2), .val (.ref b24), .val (.ref b28), .val (.ref b32), .val (.ref b36), .val (.ref b40), .unset, .unset, .unset] [(.ref b40), (.int sb0), (.int t0), (.ref b28), (.ref b24)]) s₁ F0 := fun t k => C43 t (by
        refine XS.iloadN LS0.here hx rfl (hb hby at_182) rfl ?_
        show Steps p.tables e below (T42.setTop (mkF m 183 #[.val (.int p1), .val (.int p2), .val (.int p3), .val (.int d), .val (.int lv), .val (.int fn), .val (.int sb0), .val (.int sb1), .val (.int sb2), .val (.int t0), .val (.int t1), .val (.int t2), .val (.ref b24), .val (.ref b28), .val (.ref b32), .val (.ref b36), .val (.ref b40), .unset, .unset, .unset] [(.int d)])) _
        refine XS.iconst LS0.here hx rfl (hb hby at_183) ?_
        show Steps p.tables e below (T42.setTop (mkF m 184 #[.val (.int p1), .val (.int p2), .val (.int p3), .val (.int d), .val (.int lv), .val (.int fn), .val (.int sb0), .val (.int sb1), .val (.int sb2), .val (.int t0), .val (.int t1), .val (.int t2), .val (.ref b24), .val (.ref b28), .val (.ref b32), .val (.ref b36), .val (.ref b40), .unset, .unset, .unset] [(.int (2 : Int32)), (.int d)])) _
        refine XS.icmpNo LS0.here hx rfl (hb hby at_184) rfl (flt c).1 ?_
        show Steps p.tables e below (T42.setTop (mkF m 187 #[.val (.int p1), .val (.int p2), .val (.int p3), .val (.int d), .val (.int lv), .val (.int fn), .val (.int sb0), .val (.int sb1), .val (.int sb2), .val (.int t0), .val (.int t1), .val (.int t2), .val (.ref b24), .val (.ref b28), .val (.ref b32), .val (.ref b36), .val (.ref b40), .unset, .unset, .unset] [])) _
        refine XS.aload LS0.here hx rfl (hb hby at_187) rfl rfl ?_
        show Steps p.tables e below (T42.setTop (mkF m 189 #[.val (.int p1), .val (.int p2), .val (.int p3), .val (.int d), .val (.int lv), .val (.int fn), .val (.int sb0), .val (.int sb1), .val (.int sb2), .val (.int t0), .val (.int t1), .val (.int t2), .val (.ref b24), .val (.ref b28), .val (.ref b32), .val (.ref b36), .val (.ref b40), .unset, .unset, .unset] [(.ref b24)])) _
        refine XS.aload LS0.here hx rfl (hb hby at_189) rfl rfl ?_
        show Steps p.tables e below (T42.setTop (mkF m 191 #[.val (.int p1), .val (.int p2), .val (.int p3), .val (.int d), .val (.int lv), .val (.int fn), .val (.int sb0), .val (.int sb1), .val (.int sb2), .val (.int t0), .val (.int t1), .val (.int t2), .val (.ref b24), .val (.ref b28), .val (.ref b32), .val (.ref b36), .val (.ref b40), .unset, .unset, .unset] [(.ref b28), (.ref b24)])) _
        refine XS.iload LS0.here hx rfl (hb hby at_191) rfl ?_
        show Steps p.tables e below (T42.setTop (mkF m 193 #[.val (.int p1), .val (.int p2), .val (.int p3), .val (.int d), .val (.int lv), .val (.int fn), .val (.int sb0), .val (.int sb1), .val (.int sb2), .val (.int t0), .val (.int t1), .val (.int t2), .val (.ref b24), .val (.ref b28), .val (.ref b32), .val (.ref b36), .val (.ref b40), .unset, .unset, .unset] [(.int t0), (.ref b28), (.ref b24)])) _
        refine XS.iload LS0.here hx rfl (hb hby at_193) rfl ?_
        show Steps p.tables e below (T42.setTop (mkF m 195 #[.val (.int p1), .val (.int p2), .val (.int p3), .val (.int d), .val (.int lv), .val (.int fn), .val (.int sb0), .val (.int sb1), .val (.int sb2), .val (.int t0), .val (.int t1), .val (.int t2), .val (.ref b24), .val (.ref b28), .val (.ref b32), .val (.ref b36), .val (.ref b40), .unset, .unset, .unset] [(.int sb0), (.int t0), (.ref b28), (.ref b24)])) _
        refine XS.aload LS0.here hx rfl (hb hby at_195) rfl rfl ?_
        exact k)
      have Zq : n0 ≤ hh0.size := Nat.le_trans gx24 (Nat.le_of_lt A0.lt)
      obtain ⟨_, _, ⟨T46, L46, k46, n46⟩, -, X46, ⟨Lc46, hQ46, l46, y46, z46⟩, st46⟩ := Jvm.LawKit.callS LS0 hx (y := (⟨"com/example/rosewood/rosewood/DescentTurnsRightPinLaw", "link", "(Lcom/example/rosewood/rosewood/Node;Lcom/example/rosewood/rosewood/Node;ZZLcom/example/rosewood/rosewood/Node;)V"⟩ : MethodName)) hown (mvT hZ (hw _ (List.mem_of_getElem? (i := 15) rfl))) (mvT hZ (hw _ (List.mem_of_getElem? (i := 16) rfl))) (mvT hZ (hw _ (List.mem_of_getElem? (i := 17) rfl))) (mvT hZ (hw _ (List.mem_of_getElem? (i := 18) rfl))) (by decide) (backOf (W := 0) (rm3 l Z a0 hw [] b24 b28 t0 sb0 b40 _ _ hh0 n0 Zq A0 gx24 ne_b28_b40.symm) hZ (hw _ (List.mem_of_getElem? (i := 18) rfl)) (hw _ (List.mem_of_getElem? (i := 17) rfl)) (by decide) (by decide)) (g := (mkF m 197 #[.val (.int p1), .val (.int p2), .val (.int p3), .val (.int d), .val (.int lv), .val (.int fn), .val (.int sb0), .val (.int sb1), .val (.int sb2), .val (.int t0), .val (.int t1), .val (.int t2), .val (.ref b24), .val (.ref b28), .val (.ref b32), .val (.ref b36), .val (.ref b40), .unset, .unset, .unset] [(.ref b40), (.int sb0), (.int t0), (.ref b28), (.ref b24)])) rfl (by rw [hml]; rfl) (argsL := [(.ref b24), (.ref b28), (.int t0), (.int sb0), (.ref b40)]) (rest := []) (lenOf pd_3 rfl) rfl (by show 2 * 0 + _ ≤ _; exact Nat.le_of_eq rfl) (hb hby at_197) (fun _ _ => ⟨rfl, eT0, (by decide : 5 + 0 ≤ _), (by decide : 25 + 0 ≤ _)⟩)
      dsimp only [Pt.U, Pt.locs, Pt.cells, Pt.slots] at X46 l46 y46 z46 st46 hQ46
      subst l46 y46 z46
      obtain ⟨lx, rx, rfl, N46q, K46, Nx, Rx⟩ := hQ46
      have C46 : Go p e below T46 (mkF m 200 #[.val (.int p1), .val (.int p2), .val (.int p3), .val (.int d), .val (.int lv), .val (.int fn), .val (.int sb0), .val (.int sb1), .val (.int sb2), .val (.int t0), .val (.int t1), .val (.int t2), .val (.ref b24), .val (.ref b28), .val (.ref b32), .val (.ref b36), .val (.ref b40), .unset, .unset, .unset] []) s₁ F0 := fun t k => C45 t (st46 t k)
      exact ⟨_, _, _, _, _, X46, rfl, Fr.app NS0 N46q, Nx, (A1.keep K46 (ninS ne_b24_b28.symm nin0)), (A2.keep K46 (ninS ne_b24_b32.symm nin0)), fun _ => Rx, C46⟩
  obtain ⟨TS2, hS2, lS2, la2, ra2, LS2, eS2, NS2, B2, B2_0, B2_2, RR2, CS2⟩ : ∃ (T' : State) (h' : Heap) (ls : List Loc) (la ra : Value), Stand p l e room_1 s m #[(.int p1), (.int p2), (.int p3)] below meth c T' ls 5 25 ∧ T'.heap = h' ∧ Fr n0 ls ∧ Nd Z h' b28 la ra ∧ Nd Z h' b24 la1 ra1 ∧ Nd Z h' b32 .null .null ∧ (¬ d < 3 → Rt ra b32 t1) ∧ Go p e below T' (mkF m 218 #[.val (.int p1), .val (.int p2), .val (.int p3), .val (.int d), .val (.int lv), .val (.int fn), .val (.int sb0), .val (.int sb1), .val (.int sb2), .val (.int t0), .val (.int t1), .val (.int t2), .val (.ref b24), .val (.ref b28), .val (.ref b32), .val (.ref b36), .val (.ref b40), .unset, .unset, .unset] []) s₁ F0 := by
    by_cases c : d < 3
    · skip
      have C47 : Go p e below TS1 (mkF m 218 #[.val (.int p1), .val (.int p2), .val (.int p3), .val (.int d), .val (.int lv), .val (.int fn), .val (.int sb0), .val (.int sb1), .val (.int sb2), .val (.int t0), .val (.int t1), .val (.int t2), .val (.ref b24), .val (.ref b28), .val (.ref b32), .val (.ref b36), .val (.ref b40), .unset, .unset, .unset] []) s₁ F0 := fun t k => CS1 t (by
        refine XS.iloadN LS1.here hx rfl (hb hby at_200) rfl ?_
        show Steps p.tables e below (TS1.setTop (mkF m 201 #[.val (.int p1), .val (.int p2), .val (.int p3), .val (.int d), .val (.int lv), .val (.int fn), .val (.int sb0), .val (.int sb1), .val (.int sb2), .val (.int t0), .val (.int t1), .val (.int t2), .val (.ref b24), .val (.ref b28), .val (.ref b32), .val (.ref b36), .val (.ref b40), .unset, .unset, .unset] [(.int d)])) _
        refine XS.iconst LS1.here hx rfl (hb hby at_201) ?_
        show Steps p.tables e below (TS1.setTop (mkF m 202 #[.val (.int p1), .val (.int p2), .val (.int p3), .val (.int d), .val (.int lv), .val (.int fn), .val (.int sb0), .val (.int sb1), .val (.int sb2), .val (.int t0), .val (.int t1), .val (.int t2), .val (.ref b24), .val (.ref b28), .val (.ref b32), .val (.ref b36), .val (.ref b40), .unset, .unset, .unset] [(.int (3 : Int32)), (.int d)])) _
        refine XS.icmpYes LS1.here hx rfl (pc0 := 202) (pc' := 218) rfl (hb hby at_202) rfl (tlt c).1 (by decide) (by decide) ?_
        exact k)
      exact ⟨_, _, _, _, _, LS1, eS1, NS1, B1_1, B1, B1_2, fun z => absurd c z, C47⟩
    · skip
      have C48 : Go p e below TS1 (mkF m 215 #[.val (.int p1), .val (.int p2), .val (.int p3), .val (.int d), .val (.int lv), .val (.int fn), .val (.int sb0), .val (.int sb1), .val (.int sb2), .val (.int t0), .val (.int t1), .val (.int t2), .val (.ref b24), .val (.ref b28), .val (.ref b32), .val (.ref b36), .val (.ref b40), .unset, .unset, .unset] [(.ref b40), (.int sb1), (.int t1), (.ref b32), (.ref b28)]) s₁ F0 := fun t k => CS1 t (by
        refine XS.iloadN LS1.here hx rfl (hb hby at_200) rfl ?_
        show Steps p.tables e below (TS1.setTop (mkF m 201 #[.val (.int p1), .val (.int p2), .val (.int p3), .val (.int d), .val (.int lv), .val (.int fn), .val (.int sb0), .val (.int sb1), .val (.int sb2), .val (.int t0), .val (.int t1), .val (.int t2), .val (.ref b24), .val (.ref b28), .val (.ref b32), .val (.ref b36), .val (.ref b40), .unset, .unset, .unset] [(.int d)])) _
        refine XS.iconst LS1.here hx rfl (hb hby at_201) ?_
        show Steps p.tables e below (TS1.setTop (mkF m 202 #[.val (.int p1), .val (.int p2), .val (.int p3), .val (.int d), .val (.int lv), .val (.int fn), .val (.int sb0), .val (.int sb1), .val (.int sb2), .val (.int t0), .val (.int t1), .val (.int t2), .val (.ref b24), .val (.ref b28), .val (.ref b32), .val (.ref b36), .val (.ref b40), .unset, .unset, .unset] [(.int (3 : Int32)), (.int d)])) _
        refine XS.icmpNo LS1.here hx rfl (hb hby at_202) rfl (flt c).1 ?_
        show Steps p.tables e below (TS1.setTop (mkF m 205 #[.val (.int p1), .val (.int p2), .val (.int p3), .val (.int d), .val (.int lv), .val (.int fn), .val (.int sb0), .val (.int sb1), .val (.int sb2), .val (.int t0), .val (.int t1), .val (.int t2), .val (.ref b24), .val (.ref b28), .val (.ref b32), .val (.ref b36), .val (.ref b40), .unset, .unset, .unset] [])) _
        refine XS.aload LS1.here hx rfl (hb hby at_205) rfl rfl ?_
        show Steps p.tables e below (TS1.setTop (mkF m 207 #[.val (.int p1), .val (.int p2), .val (.int p3), .val (.int d), .val (.int lv), .val (.int fn), .val (.int sb0), .val (.int sb1), .val (.int sb2), .val (.int t0), .val (.int t1), .val (.int t2), .val (.ref b24), .val (.ref b28), .val (.ref b32), .val (.ref b36), .val (.ref b40), .unset, .unset, .unset] [(.ref b28)])) _
        refine XS.aload LS1.here hx rfl (hb hby at_207) rfl rfl ?_
        show Steps p.tables e below (TS1.setTop (mkF m 209 #[.val (.int p1), .val (.int p2), .val (.int p3), .val (.int d), .val (.int lv), .val (.int fn), .val (.int sb0), .val (.int sb1), .val (.int sb2), .val (.int t0), .val (.int t1), .val (.int t2), .val (.ref b24), .val (.ref b28), .val (.ref b32), .val (.ref b36), .val (.ref b40), .unset, .unset, .unset] [(.ref b32), (.ref b28)])) _
        refine XS.iload LS1.here hx rfl (hb hby at_209) rfl ?_
        show Steps p.tables e below (TS1.setTop (mkF m 211 #[.val (.int p1), .val (.int p2), .val (.int p3), .val (.int d), .val (.int lv), .val (.int fn), .val (.int sb0), .val (.int sb1), .val (.int sb2), .val (.int t0), .val (.int t1), .val (.int t2), .val (.ref b24), .val (.ref b28), .val (.ref b32), .val (.ref b36), .val (.ref b40), .unset, .unset, .unset] [(.int t1), (.ref b32), (.ref b28)])) _
        refine XS.iload LS1.here hx rfl (hb hby at_211) rfl ?_
        show Steps p.tables e below (TS1.setTop (mkF m 213 #[.val (.int p1), .val (.int p2), .val (.int p3), .val (.int d), .val (.int lv), .val (.int fn), .val (.int sb0), .val (.int sb1), .val (.int sb2), .val (.int t0), .val (.int t1), .val (.int t2), .val (.ref b24), .val (.ref b28), .val (.ref b32), .val (.ref b36), .val (.ref b40), .unset, .unset, .unset] [(.int sb1), (.int t1), (.ref b32), (.ref b28)])) _
        refine XS.aload LS1.here hx rfl (hb hby at_213) rfl rfl ?_
        exact k)
      have Zq : n0 ≤ hS1.size := Nat.le_trans gx28 (Nat.le_of_lt B1_1.lt)
      obtain ⟨_, _, ⟨T49, L49, k49, n49⟩, -, X49, ⟨Lc49, hQ49, l49, y49, z49⟩, st49⟩ := Jvm.LawKit.callS LS1 hx (y := (⟨"com/example/rosewood/rosewood/DescentTurnsRightPinLaw", "link", "(Lcom/example/rosewood/rosewood/Node;Lcom/example/rosewood/rosewood/Node;ZZLcom/example/rosewood/rosewood/Node;)V"⟩ : MethodName)) hown (mvT hZ (hw _ (List.mem_of_getElem? (i := 15) rfl))) (mvT hZ (hw _ (List.mem_of_getElem? (i := 16) rfl))) (mvT hZ (hw _ (List.mem_of_getElem? (i := 17) rfl))) (mvT hZ (hw _ (List.mem_of_getElem? (i := 18) rfl))) (by decide) (backOf (W := 0) (rm3 l Z a0 hw [] b28 b32 t1 sb1 b40 _ _ hS1 n0 Zq B1_1 gx28 ne_b32_b40.symm) hZ (hw _ (List.mem_of_getElem? (i := 18) rfl)) (hw _ (List.mem_of_getElem? (i := 17) rfl)) (by decide) (by decide)) (g := (mkF m 215 #[.val (.int p1), .val (.int p2), .val (.int p3), .val (.int d), .val (.int lv), .val (.int fn), .val (.int sb0), .val (.int sb1), .val (.int sb2), .val (.int t0), .val (.int t1), .val (.int t2), .val (.ref b24), .val (.ref b28), .val (.ref b32), .val (.ref b36), .val (.ref b40), .unset, .unset, .unset] [(.ref b40), (.int sb1), (.int t1), (.ref b32), (.ref b28)])) rfl (by rw [hml]; rfl) (argsL := [(.ref b28), (.ref b32), (.int t1), (.int sb1), (.ref b40)]) (rest := []) (lenOf pd_3 rfl) rfl (by show 2 * 0 + _ ≤ _; exact Nat.le_of_eq rfl) (hb hby at_215) (fun _ _ => ⟨rfl, eS1, (by decide : 5 + 0 ≤ _), (by decide : 25 + 0 ≤ _)⟩)
      dsimp only [Pt.U, Pt.locs, Pt.cells, Pt.slots] at X49 l49 y49 z49 st49 hQ49
      subst l49 y49 z49
      obtain ⟨lx, rx, rfl, N49q, K49, Nx, Rx⟩ := hQ49
      have C49 : Go p e below T49 (mkF m 218 #[.val (.int p1), .val (.int p2), .val (.int p3), .val (.int d), .val (.int lv), .val (.int fn), .val (.int sb0), .val (.int sb1), .val (.int sb2), .val (.int t0), .val (.int t1), .val (.int t2), .val (.ref b24), .val (.ref b28), .val (.ref b32), .val (.ref b36), .val (.ref b40), .unset, .unset, .unset] []) s₁ F0 := fun t k => C48 t (st49 t k)
      exact ⟨_, _, _, _, _, X49, rfl, Fr.app NS1 N49q, Nx, (B1.keep K49 (ninS ne_b24_b28 nin0)), (B1_2.keep K49 (ninS ne_b28_b32.symm nin0)), fun _ => Rx, C49⟩
  obtain ⟨lst, lz, rz, hlst, Bl, gl, CJ⟩ : ∃ (lst : Addr) (lz rz : Value), ((d = 1 ∧ lst = b24) ∨ (d = 2 ∧ lst = b28) ∨ (d = 3 ∧ lst = b32)) ∧ Nd Z hS2 lst lz rz ∧ n0 ≤ lst ∧ Go p e below TS2 (mkF m 242 #[.val (.int p1), .val (.int p2), .val (.int p3), .val (.int d), .val (.int lv), .val (.int fn), .val (.int sb0), .val (.int sb1), .val (.int sb2), .val (.int t0), .val (.int t1), .val (.int t2), .val (.ref b24), .val (.ref b28), .val (.ref b32), .val (.ref b36), .val (.ref b40), .val (.ref lst), .unset, .unset] []) s₁ F0 := by
    rcases hd with c | c | c
    · skip
      have C50 : Go p e below TS2 (mkF m 242 #[.val (.int p1), .val (.int p2), .val (.int p3), .val (.int d), .val (.int lv), .val (.int fn), .val (.int sb0), .val (.int sb1), .val (.int sb2), .val (.int t0), .val (.int t1), .val (.int t2), .val (.ref b24), .val (.ref b28), .val (.ref b32), .val (.ref b36), .val (.ref b40), .val (.ref b24), .unset, .unset] []) s₁ F0 := fun t k => CS2 t (by
        refine XS.iloadN LS2.here hx rfl (hb hby at_218) rfl ?_
        show Steps p.tables e below (TS2.setTop (mkF m 219 #[.val (.int p1), .val (.int p2), .val (.int p3), .val (.int d), .val (.int lv), .val (.int fn), .val (.int sb0), .val (.int sb1), .val (.int sb2), .val (.int t0), .val (.int t1), .val (.int t2), .val (.ref b24), .val (.ref b28), .val (.ref b32), .val (.ref b36), .val (.ref b40), .unset, .unset, .unset] [(.int d)])) _
        refine XS.iconst LS2.here hx rfl (hb hby at_219) ?_
        show Steps p.tables e below (TS2.setTop (mkF m 220 #[.val (.int p1), .val (.int p2), .val (.int p3), .val (.int d), .val (.int lv), .val (.int fn), .val (.int sb0), .val (.int sb1), .val (.int sb2), .val (.int t0), .val (.int t1), .val (.int t2), .val (.ref b24), .val (.ref b28), .val (.ref b32), .val (.ref b36), .val (.ref b40), .unset, .unset, .unset] [(.int (1 : Int32)), (.int d)])) _
        refine XS.icmpNo LS2.here hx rfl (hb hby at_220) rfl (teq c).2 ?_
        show Steps p.tables e below (TS2.setTop (mkF m 223 #[.val (.int p1), .val (.int p2), .val (.int p3), .val (.int d), .val (.int lv), .val (.int fn), .val (.int sb0), .val (.int sb1), .val (.int sb2), .val (.int t0), .val (.int t1), .val (.int t2), .val (.ref b24), .val (.ref b28), .val (.ref b32), .val (.ref b36), .val (.ref b40), .unset, .unset, .unset] [])) _
        refine XS.aload LS2.here hx rfl (hb hby at_223) rfl rfl ?_
        show Steps p.tables e below (TS2.setTop (mkF m 225 #[.val (.int p1), .val (.int p2), .val (.int p3), .val (.int d), .val (.int lv), .val (.int fn), .val (.int sb0), .val (.int sb1), .val (.int sb2), .val (.int t0), .val (.int t1), .val (.int t2), .val (.ref b24), .val (.ref b28), .val (.ref b32), .val (.ref b36), .val (.ref b40), .unset, .unset, .unset] [(.ref b24)])) _
        refine XS.goto LS2.here hx rfl (pc0 := 225) (pc' := 240) rfl (hb hby at_225) (by decide) (by decide) ?_
        show Steps p.tables e below (TS2.setTop (mkF m 240 #[.val (.int p1), .val (.int p2), .val (.int p3), .val (.int d), .val (.int lv), .val (.int fn), .val (.int sb0), .val (.int sb1), .val (.int sb2), .val (.int t0), .val (.int t1), .val (.int t2), .val (.ref b24), .val (.ref b28), .val (.ref b32), .val (.ref b36), .val (.ref b40), .unset, .unset, .unset] [(.ref b24)])) _
        refine XS.astore LS2.here hx rfl (hb hby at_240) rfl rfl (l' := #[.val (.int p1), .val (.int p2), .val (.int p3), .val (.int d), .val (.int lv), .val (.int fn), .val (.int sb0), .val (.int sb1), .val (.int sb2), .val (.int t0), .val (.int t1), .val (.int t2), .val (.ref b24), .val (.ref b28), .val (.ref b32), .val (.ref b36), .val (.ref b40), .val (.ref b24), .unset, .unset]) rfl ?_
        exact k)
      exact ⟨_, _, _, Or.inl ⟨c, rfl⟩, B2_0, gx24, C50⟩
    · skip
      have C51 : Go p e below TS2 (mkF m 242 #[.val (.int p1), .val (.int p2), .val (.int p3), .val (.int d), .val (.int lv), .val (.int fn), .val (.int sb0), .val (.int sb1), .val (.int sb2), .val (.int t0), .val (.int t1), .val (.int t2), .val (.ref b24), .val (.ref b28), .val (.ref b32), .val (.ref b36), .val (.ref b40), .val (.ref b28), .unset, .unset] []) s₁ F0 := fun t k => CS2 t (by
        refine XS.iloadN LS2.here hx rfl (hb hby at_218) rfl ?_
        show Steps p.tables e below (TS2.setTop (mkF m 219 #[.val (.int p1), .val (.int p2), .val (.int p3), .val (.int d), .val (.int lv), .val (.int fn), .val (.int sb0), .val (.int sb1), .val (.int sb2), .val (.int t0), .val (.int t1), .val (.int t2), .val (.ref b24), .val (.ref b28), .val (.ref b32), .val (.ref b36), .val (.ref b40), .unset, .unset, .unset] [(.int d)])) _
        refine XS.iconst LS2.here hx rfl (hb hby at_219) ?_
        show Steps p.tables e below (TS2.setTop (mkF m 220 #[.val (.int p1), .val (.int p2), .val (.int p3), .val (.int d), .val (.int lv), .val (.int fn), .val (.int sb0), .val (.int sb1), .val (.int sb2), .val (.int t0), .val (.int t1), .val (.int t2), .val (.ref b24), .val (.ref b28), .val (.ref b32), .val (.ref b36), .val (.ref b40), .unset, .unset, .unset] [(.int (1 : Int32)), (.int d)])) _
        refine XS.icmpYes LS2.here hx rfl (pc0 := 220) (pc' := 228) rfl (hb hby at_220) rfl (feq (fun z => absurd (c.symm.trans z) (by decide))).2 (by decide) (by decide) ?_
        show Steps p.tables e below (TS2.setTop (mkF m 228 #[.val (.int p1), .val (.int p2), .val (.int p3), .val (.int d), .val (.int lv), .val (.int fn), .val (.int sb0), .val (.int sb1), .val (.int sb2), .val (.int t0), .val (.int t1), .val (.int t2), .val (.ref b24), .val (.ref b28), .val (.ref b32), .val (.ref b36), .val (.ref b40), .unset, .unset, .unset] [])) _
        refine XS.iloadN LS2.here hx rfl (hb hby at_228) rfl ?_
        show Steps p.tables e below (TS2.setTop (mkF m 229 #[.val (.int p1), .val (.int p2), .val (.int p3), .val (.int d), .val (.int lv), .val (.int fn), .val (.int sb0), .val (.int sb1), .val (.int sb2), .val (.int t0), .val (.int t1), .val (.int t2), .val (.ref b24), .val (.ref b28), .val (.ref b32), .val (.ref b36), .val (.ref b40), .unset, .unset, .unset] [(.int d)])) _
        refine XS.iconst LS2.here hx rfl (hb hby at_229) ?_
        show Steps p.tables e below (TS2.setTop (mkF m 230 #[.val (.int p1), .val (.int p2), .val (.int p3), .val (.int d), .val (.int lv), .val (.int fn), .val (.int sb0), .val (.int sb1), .val (.int sb2), .val (.int t0), .val (.int t1), .val (.int t2), .val (.ref b24), .val (.ref b28), .val (.ref b32), .val (.ref b36), .val (.ref b40), .unset, .unset, .unset] [(.int (2 : Int32)), (.int d)])) _
        refine XS.icmpNo LS2.here hx rfl (hb hby at_230) rfl (teq c).2 ?_
        show Steps p.tables e below (TS2.setTop (mkF m 233 #[.val (.int p1), .val (.int p2), .val (.int p3), .val (.int d), .val (.int lv), .val (.int fn), .val (.int sb0), .val (.int sb1), .val (.int sb2), .val (.int t0), .val (.int t1), .val (.int t2), .val (.ref b24), .val (.ref b28), .val (.ref b32), .val (.ref b36), .val (.ref b40), .unset, .unset, .unset] [])) _
        refine XS.aload LS2.here hx rfl (hb hby at_233) rfl rfl ?_
        show Steps p.tables e below (TS2.setTop (mkF m 235 #[.val (.int p1), .val (.int p2), .val (.int p3), .val (.int d), .val (.int lv), .val (.int fn), .val (.int sb0), .val (.int sb1), .val (.int sb2), .val (.int t0), .val (.int t1), .val (.int t2), .val (.ref b24), .val (.ref b28), .val (.ref b32), .val (.ref b36), .val (.ref b40), .unset, .unset, .unset] [(.ref b28)])) _
        refine XS.goto LS2.here hx rfl (pc0 := 235) (pc' := 240) rfl (hb hby at_235) (by decide) (by decide) ?_
        show Steps p.tables e below (TS2.setTop (mkF m 240 #[.val (.int p1), .val (.int p2), .val (.int p3), .val (.int d), .val (.int lv), .val (.int fn), .val (.int sb0), .val (.int sb1), .val (.int sb2), .val (.int t0), .val (.int t1), .val (.int t2), .val (.ref b24), .val (.ref b28), .val (.ref b32), .val (.ref b36), .val (.ref b40), .unset, .unset, .unset] [(.ref b28)])) _
        refine XS.astore LS2.here hx rfl (hb hby at_240) rfl rfl (l' := #[.val (.int p1), .val (.int p2), .val (.int p3), .val (.int d), .val (.int lv), .val (.int fn), .val (.int sb0), .val (.int sb1), .val (.int sb2), .val (.int t0), .val (.int t1), .val (.int t2), .val (.ref b24), .val (.ref b28), .val (.ref b32), .val (.ref b36), .val (.ref b40), .val (.ref b28), .unset, .unset]) rfl ?_
        exact k)
      exact ⟨_, _, _, Or.inr (Or.inl ⟨c, rfl⟩), B2, gx28, C51⟩
    · skip
      have C52 : Go p e below TS2 (mkF m 242 #[.val (.int p1), .val (.int p2), .val (.int p3), .val (.int d), .val (.int lv), .val (.int fn), .val (.int sb0), .val (.int sb1), .val (.int sb2), .val (.int t0), .val (.int t1), .val (.int t2), .val (.ref b24), .val (.ref b28), .val (.ref b32), .val (.ref b36), .val (.ref b40), .val (.ref b32), .unset, .unset] []) s₁ F0 := fun t k => CS2 t (by
        refine XS.iloadN LS2.here hx rfl (hb hby at_218) rfl ?_
        show Steps p.tables e below (TS2.setTop (mkF m 219 #[.val (.int p1), .val (.int p2), .val (.int p3), .val (.int d), .val (.int lv), .val (.int fn), .val (.int sb0), .val (.int sb1), .val (.int sb2), .val (.int t0), .val (.int t1), .val (.int t2), .val (.ref b24), .val (.ref b28), .val (.ref b32), .val (.ref b36), .val (.ref b40), .unset, .unset, .unset] [(.int d)])) _
        refine XS.iconst LS2.here hx rfl (hb hby at_219) ?_
        show Steps p.tables e below (TS2.setTop (mkF m 220 #[.val (.int p1), .val (.int p2), .val (.int p3), .val (.int d), .val (.int lv), .val (.int fn), .val (.int sb0), .val (.int sb1), .val (.int sb2), .val (.int t0), .val (.int t1), .val (.int t2), .val (.ref b24), .val (.ref b28), .val (.ref b32), .val (.ref b36), .val (.ref b40), .unset, .unset, .unset] [(.int (1 : Int32)), (.int d)])) _
        refine XS.icmpYes LS2.here hx rfl (pc0 := 220) (pc' := 228) rfl (hb hby at_220) rfl (feq (fun z => absurd (c.symm.trans z) (by decide))).2 (by decide) (by decide) ?_
        show Steps p.tables e below (TS2.setTop (mkF m 228 #[.val (.int p1), .val (.int p2), .val (.int p3), .val (.int d), .val (.int lv), .val (.int fn), .val (.int sb0), .val (.int sb1), .val (.int sb2), .val (.int t0), .val (.int t1), .val (.int t2), .val (.ref b24), .val (.ref b28), .val (.ref b32), .val (.ref b36), .val (.ref b40), .unset, .unset, .unset] [])) _
        refine XS.iloadN LS2.here hx rfl (hb hby at_228) rfl ?_
        show Steps p.tables e below (TS2.setTop (mkF m 229 #[.val (.int p1), .val (.int p2), .val (.int p3), .val (.int d), .val (.int lv), .val (.int fn), .val (.int sb0), .val (.int sb1), .val (.int sb2), .val (.int t0), .val (.int t1), .val (.int t2), .val (.ref b24), .val (.ref b28), .val (.ref b32), .val (.ref b36), .val (.ref b40), .unset, .unset, .unset] [(.int d)])) _
        refine XS.iconst LS2.here hx rfl (hb hby at_229) ?_
        show Steps p.tables e below (TS2.setTop (mkF m 230 #[.val (.int p1), .val (.int p2), .val (.int p3), .val (.int d), .val (.int lv), .val (.int fn), .val (.int sb0), .val (.int sb1), .val (.int sb2), .val (.int t0), .val (.int t1), .val (.int t2), .val (.ref b24), .val (.ref b28), .val (.ref b32), .val (.ref b36), .val (.ref b40), .unset, .unset, .unset] [(.int (2 : Int32)), (.int d)])) _
        refine XS.icmpYes LS2.here hx rfl (pc0 := 230) (pc' := 238) rfl (hb hby at_230) rfl (feq (fun z => absurd (c.symm.trans z) (by decide))).2 (by decide) (by decide) ?_
        show Steps p.tables e below (TS2.setTop (mkF m 238 #[.val (.int p1), .val (.int p2), .val (.int p3), .val (.int d), .val (.int lv), .val (.int fn), .val (.int sb0), .val (.int sb1), .val (.int sb2), .val (.int t0), .val (.int t1), .val (.int t2), .val (.ref b24), .val (.ref b28), .val (.ref b32), .val (.ref b36), .val (.ref b40), .unset, .unset, .unset] [])) _
        refine XS.aload LS2.here hx rfl (hb hby at_238) rfl rfl ?_
        show Steps p.tables e below (TS2.setTop (mkF m 240 #[.val (.int p1), .val (.int p2), .val (.int p3), .val (.int d), .val (.int lv), .val (.int fn), .val (.int sb0), .val (.int sb1), .val (.int sb2), .val (.int t0), .val (.int t1), .val (.int t2), .val (.ref b24), .val (.ref b28), .val (.ref b32), .val (.ref b36), .val (.ref b40), .unset, .unset, .unset] [(.ref b32)])) _
        refine XS.astore LS2.here hx rfl (hb hby at_240) rfl rfl (l' := #[.val (.int p1), .val (.int p2), .val (.int p3), .val (.int d), .val (.int lv), .val (.int fn), .val (.int sb0), .val (.int sb1), .val (.int sb2), .val (.int t0), .val (.int t1), .val (.int t2), .val (.ref b24), .val (.ref b28), .val (.ref b32), .val (.ref b36), .val (.ref b40), .val (.ref b32), .unset, .unset]) rfl ?_
        exact k)
      exact ⟨_, _, _, Or.inr (Or.inr ⟨c, rfl⟩), B2_2, gx32, C52⟩
  obtain ⟨TS4, hS4, lS4, lw, rw', LS4, eS4, NS4, KS4, Bw, RW, CS4⟩ : ∃ (T' : State) (h' : Heap) (ls : List Loc) (la ra : Value), Stand p l e room_1 s m #[(.int p1), (.int p2), (.int p3)] below meth c T' ls 5 25 ∧ T'.heap = h' ∧ Fr n0 ls ∧ Keep hS2 h' [lst] ∧ Nd Z h' lst la ra ∧ (fn = 0 → Rt ra b36 t2) ∧ Go p e below T' (mkF m 314 #[.val (.int p1), .val (.int p2), .val (.int p3), .val (.int d), .val (.int lv), .val (.int fn), .val (.int sb0), .val (.int sb1), .val (.int sb2), .val (.int t0), .val (.int t1), .val (.int t2), .val (.ref b24), .val (.ref b28), .val (.ref b32), .val (.ref b36), .val (.ref b40), .val (.ref lst), .unset, .unset] []) s₁ F0 := by
    by_cases c : fn = 0
    · skip
      have C53 : Go p e below TS2 (mkF m 311 #[.val (.int p1), .val (.int p2), .val (.int p3), .val (.int d), .val (.int lv), .val (.int fn), .val (.int sb0), .val (.int sb1), .val (.int sb2), .val (.int t0), .val (.int t1), .val (.int t2), .val (.ref b24), .val (.ref b28), .val (.ref b32), .val (.ref b36), .val (.ref b40), .val (.ref lst), .unset, .unset] [(.ref b40), (.int sb2), (.int t2), (.ref b36), (.ref lst)]) s₁ F0 := fun t k => CJ t (by
        refine XS.iload LS2.here hx rfl (hb hby at_242) rfl ?_
        show Steps p.tables e below (TS2.setTop (mkF m 244 #[.val (.int p1), .val (.int p2), .val (.int p3), .val (.int d), .val (.int lv), .val (.int fn), .val (.int sb0), .val (.int sb1), .val (.int sb2), .val (.int t0), .val (.int t1), .val (.int t2), .val (.ref b24), .val (.ref b28), .val (.ref b32), .val (.ref b36), .val (.ref b40), .val (.ref lst), .unset, .unset] [(.int fn)])) _
        refine XS.ifYes LS2.here hx rfl (pc0 := 244) (pc' := 301) rfl (hb hby at_244) rfl ((if0 _ _).trans (teq c).1) (by decide) (by decide) ?_
        show Steps p.tables e below (TS2.setTop (mkF m 301 #[.val (.int p1), .val (.int p2), .val (.int p3), .val (.int d), .val (.int lv), .val (.int fn), .val (.int sb0), .val (.int sb1), .val (.int sb2), .val (.int t0), .val (.int t1), .val (.int t2), .val (.ref b24), .val (.ref b28), .val (.ref b32), .val (.ref b36), .val (.ref b40), .val (.ref lst), .unset, .unset] [])) _
        refine XS.aload LS2.here hx rfl (hb hby at_301) rfl rfl ?_
        show Steps p.tables e below (TS2.setTop (mkF m 303 #[.val (.int p1), .val (.int p2), .val (.int p3), .val (.int d), .val (.int lv), .val (.int fn), .val (.int sb0), .val (.int sb1), .val (.int sb2), .val (.int t0), .val (.int t1), .val (.int t2), .val (.ref b24), .val (.ref b28), .val (.ref b32), .val (.ref b36), .val (.ref b40), .val (.ref lst), .unset, .unset] [(.ref lst)])) _
        refine XS.aload LS2.here hx rfl (hb hby at_303) rfl rfl ?_
        show Steps p.tables e below (TS2.setTop (mkF m 305 #[.val (.int p1), .val (.int p2), .val (.int p3), .val (.int d), .val (.int lv), .val (.int fn), .val (.int sb0), .val (.int sb1), .val (.int sb2), .val (.int t0), .val (.int t1), .val (.int t2), .val (.ref b24), .val (.ref b28), .val (.ref b32), .val (.ref b36), .val (.ref b40), .val (.ref lst), .unset, .unset] [(.ref b36), (.ref lst)])) _
        refine XS.iload LS2.here hx rfl (hb hby at_305) rfl ?_
        show Steps p.tables e below (TS2.setTop (mkF m 307 #[.val (.int p1), .val (.int p2), .val (.int p3), .val (.int d), .val (.int lv), .val (.int fn), .val (.int sb0), .val (.int sb1), .val (.int sb2), .val (.int t0), .val (.int t1), .val (.int t2), .val (.ref b24), .val (.ref b28), .val (.ref b32), .val (.ref b36), .val (.ref b40), .val (.ref lst), .unset, .unset] [(.int t2), (.ref b36), (.ref lst)])) _
        refine XS.iload LS2.here hx rfl (hb hby at_307) rfl ?_
        show Steps p.tables e below (TS2.setTop (mkF m 309 #[.val (.int p1), .val (.int p2), .val (.int p3), .val (.int d), .val (.int lv), .val (.int fn), .val (.int sb0), .val (.int sb1), .val (.int sb2), .val (.int t0), .val (.int t1), .val (.int t2), .val (.ref b24), .val (.ref b28), .val (.ref b32), .val (.ref b36), .val (.ref b40), .val (.ref lst), .unset, .unset] [(.int sb2), (.int t2), (.ref b36), (.ref lst)])) _
        refine XS.aload LS2.here hx rfl (hb hby at_309) rfl rfl ?_
        exact k)
      have Zq : n0 ≤ hS2.size := Nat.le_trans gl (Nat.le_of_lt Bl.lt)
      obtain ⟨_, _, ⟨T54, L54, k54, n54⟩, -, X54, ⟨Lc54, hQ54, l54, y54, z54⟩, st54⟩ := Jvm.LawKit.callS LS2 hx (y := (⟨"com/example/rosewood/rosewood/DescentTurnsRightPinLaw", "link", "(Lcom/example/rosewood/rosewood/Node;Lcom/example/rosewood/rosewood/Node;ZZLcom/example/rosewood/rosewood/Node;)V"⟩ : MethodName)) hown (mvT hZ (hw _ (List.mem_of_getElem? (i := 15) rfl))) (mvT hZ (hw _ (List.mem_of_getElem? (i := 16) rfl))) (mvT hZ (hw _ (List.mem_of_getElem? (i := 17) rfl))) (mvT hZ (hw _ (List.mem_of_getElem? (i := 18) rfl))) (by decide) (backOf (W := 0) (rm3 l Z a0 hw [] lst b36 t2 sb2 b40 _ _ hS2 n0 Zq Bl gl ne_b36_b40.symm) hZ (hw _ (List.mem_of_getElem? (i := 18) rfl)) (hw _ (List.mem_of_getElem? (i := 17) rfl)) (by decide) (by decide)) (g := (mkF m 311 #[.val (.int p1), .val (.int p2), .val (.int p3), .val (.int d), .val (.int lv), .val (.int fn), .val (.int sb0), .val (.int sb1), .val (.int sb2), .val (.int t0), .val (.int t1), .val (.int t2), .val (.ref b24), .val (.ref b28), .val (.ref b32), .val (.ref b36), .val (.ref b40), .val (.ref lst), .unset, .unset] [(.ref b40), (.int sb2), (.int t2), (.ref b36), (.ref lst)])) rfl (by rw [hml]; rfl) (argsL := [(.ref lst), (.ref b36), (.int t2), (.int sb2), (.ref b40)]) (rest := []) (lenOf pd_3 rfl) rfl (by show 2 * 0 + _ ≤ _; exact Nat.le_of_eq rfl) (hb hby at_311) (fun _ _ => ⟨rfl, eS2, (by decide : 5 + 0 ≤ _), (by decide : 25 + 0 ≤ _)⟩)
      dsimp only [Pt.U, Pt.locs, Pt.cells, Pt.slots] at X54 l54 y54 z54 st54 hQ54
      subst l54 y54 z54
      obtain ⟨lx, rx, rfl, N54q, K54, Nx, Rx⟩ := hQ54
      have C54 : Go p e below T54 (mkF m 314 #[.val (.int p1), .val (.int p2), .val (.int p3), .val (.int d), .val (.int lv), .val (.int fn), .val (.int sb0), .val (.int sb1), .val (.int sb2), .val (.int t0), .val (.int t1), .val (.int t2), .val (.ref b24), .val (.ref b28), .val (.ref b32), .val (.ref b36), .val (.ref b40), .val (.ref lst), .unset, .unset] []) s₁ F0 := fun t k => C53 t (st54 t k)
      exact ⟨_, _, _, _, _, X54, rfl, Fr.app NS2 N54q, K54, Nx, fun _ => Rx, C54⟩
    · obtain ⟨En0, Fl0, Fg0, -⟩ := Bl
      by_cases c2 : 0 < p3
      · by_cases c3 : sb2 = 0
        · skip
          have C55 : Go p e below TS2 (mkF m 254 #[.val (.int p1), .val (.int p2), .val (.int p3), .val (.int d), .val (.int lv), .val (.int fn), .val (.int sb0), .val (.int sb1), .val (.int sb2), .val (.int t0), .val (.int t1), .val (.int t2), .val (.ref b24), .val (.ref b28), .val (.ref b32), .val (.ref b36), .val (.ref b40), .val (.ref lst), .unset, .unset] [.null, (.ref lst)]) s₁ F0 := fun t k => CJ t (by
            refine XS.iload LS2.here hx rfl (hb hby at_242) rfl ?_
            show Steps p.tables e below (TS2.setTop (mkF m 244 #[.val (.int p1), .val (.int p2), .val (.int p3), .val (.int d), .val (.int lv), .val (.int fn), .val (.int sb0), .val (.int sb1), .val (.int sb2), .val (.int t0), .val (.int t1), .val (.int t2), .val (.ref b24), .val (.ref b28), .val (.ref b32), .val (.ref b36), .val (.ref b40), .val (.ref lst), .unset, .unset] [(.int fn)])) _
            refine XS.ifNo LS2.here hx rfl (hb hby at_244) rfl ((if0 _ _).trans (feq c).1) ?_
            show Steps p.tables e below (TS2.setTop (mkF m 247 #[.val (.int p1), .val (.int p2), .val (.int p3), .val (.int d), .val (.int lv), .val (.int fn), .val (.int sb0), .val (.int sb1), .val (.int sb2), .val (.int t0), .val (.int t1), .val (.int t2), .val (.ref b24), .val (.ref b28), .val (.ref b32), .val (.ref b36), .val (.ref b40), .val (.ref lst), .unset, .unset] [])) _
            refine XS.iloadN LS2.here hx rfl (hb hby at_247) rfl ?_
            show Steps p.tables e below (TS2.setTop (mkF m 248 #[.val (.int p1), .val (.int p2), .val (.int p3), .val (.int d), .val (.int lv), .val (.int fn), .val (.int sb0), .val (.int sb1), .val (.int sb2), .val (.int t0), .val (.int t1), .val (.int t2), .val (.ref b24), .val (.ref b28), .val (.ref b32), .val (.ref b36), .val (.ref b40), .val (.ref lst), .unset, .unset] [(.int p3)])) _
            refine XS.ifNo LS2.here hx rfl (hb hby at_248) rfl ((if0 _ _).trans (tlt c2).2.2.2) ?_
            show Steps p.tables e below (TS2.setTop (mkF m 251 #[.val (.int p1), .val (.int p2), .val (.int p3), .val (.int d), .val (.int lv), .val (.int fn), .val (.int sb0), .val (.int sb1), .val (.int sb2), .val (.int t0), .val (.int t1), .val (.int t2), .val (.ref b24), .val (.ref b28), .val (.ref b32), .val (.ref b36), .val (.ref b40), .val (.ref lst), .unset, .unset] [])) _
            refine XS.aload LS2.here hx rfl (hb hby at_251) rfl rfl ?_
            show Steps p.tables e below (TS2.setTop (mkF m 253 #[.val (.int p1), .val (.int p2), .val (.int p3), .val (.int d), .val (.int lv), .val (.int fn), .val (.int sb0), .val (.int sb1), .val (.int sb2), .val (.int t0), .val (.int t1), .val (.int t2), .val (.ref b24), .val (.ref b28), .val (.ref b32), .val (.ref b36), .val (.ref b40), .val (.ref lst), .unset, .unset] [(.ref lst)])) _
            refine XS.aconstNull LS2.here hx rfl (hb hby at_253) ?_
            exact k)
          obtain ⟨T56, h56, X56, e56, W56, st56⟩ := putF LS2 hx hZ hown (host := "") (Or.inl (hw _ (List.mem_of_getElem? (i := 21) rfl))) Via.refl eS2 Fg0 En0 (Or.inl (hw _ (List.mem_of_getElem? (i := 22) rfl))) (hw _ (List.mem_of_getElem? (i := 1) rfl)) (ty := (.object "com/example/rosewood/rosewood/Node")) (by decide) rfl rfl (g := (mkF m 254 #[.val (.int p1), .val (.int p2), .val (.int p3), .val (.int d), .val (.int lv), .val (.int fn), .val (.int sb0), .val (.int sb1), .val (.int sb2), .val (.int t0), .val (.int t1), .val (.int t2), .val (.ref b24), .val (.ref b28), .val (.ref b32), .val (.ref b36), .val (.ref b40), .val (.ref lst), .unset, .unset] [.null, (.ref lst)])) rfl rfl (hb hby at_254)
          have C56 : Go p e below T56 (mkF m 257 #[.val (.int p1), .val (.int p2), .val (.int p3), .val (.int d), .val (.int lv), .val (.int fn), .val (.int sb0), .val (.int sb1), .val (.int sb2), .val (.int t0), .val (.int t1), .val (.int t2), .val (.ref b24), .val (.ref b28), .val (.ref b32), .val (.ref b36), .val (.ref b40), .val (.ref lst), .unset, .unset] []) s₁ F0 := fun t k => C55 t (st56 t k)
          have En56 := En0.wr W56
          have Fl56 := Fl0.other W56 (Or.inr (slot_ne (Or.inl (hw _ (List.mem_of_getElem? (i := 20) rfl))) (Or.inl (hw _ (List.mem_of_getElem? (i := 22) rfl))) (by decide) (t := (.object "com/example/rosewood/rosewood/Node")) (t' := (.object "com/example/rosewood/rosewood/Node")) (by decide) (by decide)))
          have Fg56 := Fg0.same W56
          have N56 := Fr.snoc X56 NS2 gl
          have K56 := (Keep.refl hS2 [lst]).wr W56 (Or.inl (List.mem_of_getElem? (i := 0) rfl))
          have C57 : Go p e below T56 (mkF m 270 #[.val (.int p1), .val (.int p2), .val (.int p3), .val (.int d), .val (.int lv), .val (.int fn), .val (.int sb0), .val (.int sb1), .val (.int sb2), .val (.int t0), .val (.int t1), .val (.int t2), .val (.ref b24), .val (.ref b28), .val (.ref b32), .val (.ref b36), .val (.ref b40), .val (.ref lst), .unset, .unset] [.null, (.ref lst)]) s₁ F0 := fun t k => C56 t (by
            refine XS.aload X56.here hx rfl (hb hby at_257) rfl rfl ?_
            show Steps p.tables e below (T56.setTop (mkF m 259 #[.val (.int p1), .val (.int p2), .val (.int p3), .val (.int d), .val (.int lv), .val (.int fn), .val (.int sb0), .val (.int sb1), .val (.int sb2), .val (.int t0), .val (.int t1), .val (.int t2), .val (.ref b24), .val (.ref b28), .val (.ref b32), .val (.ref b36), .val (.ref b40), .val (.ref lst), .unset, .unset] [(.ref lst)])) _
            refine XS.iload X56.here hx rfl (hb hby at_259) rfl ?_
            show Steps p.tables e below (T56.setTop (mkF m 261 #[.val (.int p1), .val (.int p2), .val (.int p3), .val (.int d), .val (.int lv), .val (.int fn), .val (.int sb0), .val (.int sb1), .val (.int sb2), .val (.int t0), .val (.int t1), .val (.int t2), .val (.ref b24), .val (.ref b28), .val (.ref b32), .val (.ref b36), .val (.ref b40), .val (.ref lst), .unset, .unset] [(.int sb2), (.ref lst)])) _
            refine XS.ifYes X56.here hx rfl (pc0 := 261) (pc' := 269) rfl (hb hby at_261) rfl ((if0 _ _).trans (teq c3).1) (by decide) (by decide) ?_
            show Steps p.tables e below (T56.setTop (mkF m 269 #[.val (.int p1), .val (.int p2), .val (.int p3), .val (.int d), .val (.int lv), .val (.int fn), .val (.int sb0), .val (.int sb1), .val (.int sb2), .val (.int t0), .val (.int t1), .val (.int t2), .val (.ref b24), .val (.ref b28), .val (.ref b32), .val (.ref b36), .val (.ref b40), .val (.ref lst), .unset, .unset] [(.ref lst)])) _
            refine XS.aconstNull X56.here hx rfl (hb hby at_269) ?_
            exact k)
          obtain ⟨T58, h58, X58, e58, W58, st58⟩ := putF X56 hx hZ hown (host := "") (Or.inl (hw _ (List.mem_of_getElem? (i := 19) rfl))) Via.refl e56 Fl56 En56 (Or.inl (hw _ (List.mem_of_getElem? (i := 20) rfl))) (hw _ (List.mem_of_getElem? (i := 1) rfl)) (ty := (.object "com/example/rosewood/rosewood/Node")) (by decide) rfl rfl (g := (mkF m 270 #[.val (.int p1), .val (.int p2), .val (.int p3), .val (.int d), .val (.int lv), .val (.int fn), .val (.int sb0), .val (.int sb1), .val (.int sb2), .val (.int t0), .val (.int t1), .val (.int t2), .val (.ref b24), .val (.ref b28), .val (.ref b32), .val (.ref b36), .val (.ref b40), .val (.ref lst), .unset, .unset] [.null, (.ref lst)])) rfl rfl (hb hby at_270)
          have C58 : Go p e below T58 (mkF m 273 #[.val (.int p1), .val (.int p2), .val (.int p3), .val (.int d), .val (.int lv), .val (.int fn), .val (.int sb0), .val (.int sb1), .val (.int sb2), .val (.int t0), .val (.int t1), .val (.int t2), .val (.ref b24), .val (.ref b28), .val (.ref b32), .val (.ref b36), .val (.ref b40), .val (.ref lst), .unset, .unset] []) s₁ F0 := fun t k => C57 t (st58 t k)
          have En58 := En56.wr W58
          have Fl58 := Fl56.same W58
          have Fg58 := Fg56.other W58 (Or.inr (slot_ne (Or.inl (hw _ (List.mem_of_getElem? (i := 22) rfl))) (Or.inl (hw _ (List.mem_of_getElem? (i := 20) rfl))) (by decide) (t := (.object "com/example/rosewood/rosewood/Node")) (t' := (.object "com/example/rosewood/rosewood/Node")) (by decide) (by decide)))
          have N58 := Fr.snoc X58 N56 gl
          have K58 := K56.wr W58 (Or.inl (List.mem_of_getElem? (i := 0) rfl))
          have C59 : Go p e below T58 (mkF m 314 #[.val (.int p1), .val (.int p2), .val (.int p3), .val (.int d), .val (.int lv), .val (.int fn), .val (.int sb0), .val (.int sb1), .val (.int sb2), .val (.int t0), .val (.int t1), .val (.int t2), .val (.ref b24), .val (.ref b28), .val (.ref b32), .val (.ref b36), .val (.ref b40), .val (.ref lst), .unset, .unset] []) s₁ F0 := fun t k => C58 t (by
            refine XS.goto X58.here hx rfl (pc0 := 273) (pc' := 314) rfl (hb hby at_273) (by decide) (by decide) ?_
            exact k)
          exact ⟨_, _, _, _, _, X58, e58, N58, K58, ⟨En58, Fl58, Fg58, rfl⟩, fun z => absurd z c, C59⟩
        · skip
          have C60 : Go p e below TS2 (mkF m 254 #[.val (.int p1), .val (.int p2), .val (.int p3), .val (.int d), .val (.int lv), .val (.int fn), .val (.int sb0), .val (.int sb1), .val (.int sb2), .val (.int t0), .val (.int t1), .val (.int t2), .val (.ref b24), .val (.ref b28), .val (.ref b32), .val (.ref b36), .val (.ref b40), .val (.ref lst), .unset, .unset] [.null, (.ref lst)]) s₁ F0 := fun t k => CJ t (by
            refine XS.iload LS2.here hx rfl (hb hby at_242) rfl ?_
            show Steps p.tables e below (TS2.setTop (mkF m 244 #[.val (.int p1), .val (.int p2), .val (.int p3), .val (.int d), .val (.int lv), .val (.int fn), .val (.int sb0), .val (.int sb1), .val (.int sb2), .val (.int t0), .val (.int t1), .val (.int t2), .val (.ref b24), .val (.ref b28), .val (.ref b32), .val (.ref b36), .val (.ref b40), .val (.ref lst), .unset, .unset] [(.int fn)])) _
            refine XS.ifNo LS2.here hx rfl (hb hby at_244) rfl ((if0 _ _).trans (feq c).1) ?_
            show Steps p.tables e below (TS2.setTop (mkF m 247 #[.val (.int p1), .val (.int p2), .val (.int p3), .val (.int d), .val (.int lv), .val (.int fn), .val (.int sb0), .val (.int sb1), .val (.int sb2), .val (.int t0), .val (.int t1), .val (.int t2), .val (.ref b24), .val (.ref b28), .val (.ref b32), .val (.ref b36), .val (.ref b40), .val (.ref lst), .unset, .unset] [])) _
            refine XS.iloadN LS2.here hx rfl (hb hby at_247) rfl ?_
            show Steps p.tables e below (TS2.setTop (mkF m 248 #[.val (.int p1), .val (.int p2), .val (.int p3), .val (.int d), .val (.int lv), .val (.int fn), .val (.int sb0), .val (.int sb1), .val (.int sb2), .val (.int t0), .val (.int t1), .val (.int t2), .val (.ref b24), .val (.ref b28), .val (.ref b32), .val (.ref b36), .val (.ref b40), .val (.ref lst), .unset, .unset] [(.int p3)])) _
            refine XS.ifNo LS2.here hx rfl (hb hby at_248) rfl ((if0 _ _).trans (tlt c2).2.2.2) ?_
            show Steps p.tables e below (TS2.setTop (mkF m 251 #[.val (.int p1), .val (.int p2), .val (.int p3), .val (.int d), .val (.int lv), .val (.int fn), .val (.int sb0), .val (.int sb1), .val (.int sb2), .val (.int t0), .val (.int t1), .val (.int t2), .val (.ref b24), .val (.ref b28), .val (.ref b32), .val (.ref b36), .val (.ref b40), .val (.ref lst), .unset, .unset] [])) _
            refine XS.aload LS2.here hx rfl (hb hby at_251) rfl rfl ?_
            show Steps p.tables e below (TS2.setTop (mkF m 253 #[.val (.int p1), .val (.int p2), .val (.int p3), .val (.int d), .val (.int lv), .val (.int fn), .val (.int sb0), .val (.int sb1), .val (.int sb2), .val (.int t0), .val (.int t1), .val (.int t2), .val (.ref b24), .val (.ref b28), .val (.ref b32), .val (.ref b36), .val (.ref b40), .val (.ref lst), .unset, .unset] [(.ref lst)])) _
            refine XS.aconstNull LS2.here hx rfl (hb hby at_253) ?_
            exact k)
          obtain ⟨T61, h61, X61, e61, W61, st61⟩ := putF LS2 hx hZ hown (host := "") (Or.inl (hw _ (List.mem_of_getElem? (i := 21) rfl))) Via.refl eS2 Fg0 En0 (Or.inl (hw _ (List.mem_of_getElem? (i := 22) rfl))) (hw _ (List.mem_of_getElem? (i := 1) rfl)) (ty := (.object "com/example/rosewood/rosewood/Node")) (by decide) rfl rfl (g := (mkF m 254 #[.val (.int p1), .val (.int p2), .val (.int p3), .val (.int d), .val (.int lv), .val (.int fn), .val (.int sb0), .val (.int sb1), .val (.int sb2), .val (.int t0), .val (.int t1), .val (.int t2), .val (.ref b24), .val (.ref b28), .val (.ref b32), .val (.ref b36), .val (.ref b40), .val (.ref lst), .unset, .unset] [.null, (.ref lst)])) rfl rfl (hb hby at_254)
          have C61 : Go p e below T61 (mkF m 257 #[.val (.int p1), .val (.int p2), .val (.int p3), .val (.int d), .val (.int lv), .val (.int fn), .val (.int sb0), .val (.int sb1), .val (.int sb2), .val (.int t0), .val (.int t1), .val (.int t2), .val (.ref b24), .val (.ref b28), .val (.ref b32), .val (.ref b36), .val (.ref b40), .val (.ref lst), .unset, .unset] []) s₁ F0 := fun t k => C60 t (st61 t k)
          have En61 := En0.wr W61
          have Fl61 := Fl0.other W61 (Or.inr (slot_ne (Or.inl (hw _ (List.mem_of_getElem? (i := 20) rfl))) (Or.inl (hw _ (List.mem_of_getElem? (i := 22) rfl))) (by decide) (t := (.object "com/example/rosewood/rosewood/Node")) (t' := (.object "com/example/rosewood/rosewood/Node")) (by decide) (by decide)))
          have Fg61 := Fg0.same W61
          have N61 := Fr.snoc X61 NS2 gl
          have K61 := (Keep.refl hS2 [lst]).wr W61 (Or.inl (List.mem_of_getElem? (i := 0) rfl))
          have C62 : Go p e below T61 (mkF m 270 #[.val (.int p1), .val (.int p2), .val (.int p3), .val (.int d), .val (.int lv), .val (.int fn), .val (.int sb0), .val (.int sb1), .val (.int sb2), .val (.int t0), .val (.int t1), .val (.int t2), .val (.ref b24), .val (.ref b28), .val (.ref b32), .val (.ref b36), .val (.ref b40), .val (.ref lst), .unset, .unset] [(.ref b40), (.ref lst)]) s₁ F0 := fun t k => C61 t (by
            refine XS.aload X61.here hx rfl (hb hby at_257) rfl rfl ?_
            show Steps p.tables e below (T61.setTop (mkF m 259 #[.val (.int p1), .val (.int p2), .val (.int p3), .val (.int d), .val (.int lv), .val (.int fn), .val (.int sb0), .val (.int sb1), .val (.int sb2), .val (.int t0), .val (.int t1), .val (.int t2), .val (.ref b24), .val (.ref b28), .val (.ref b32), .val (.ref b36), .val (.ref b40), .val (.ref lst), .unset, .unset] [(.ref lst)])) _
            refine XS.iload X61.here hx rfl (hb hby at_259) rfl ?_
            show Steps p.tables e below (T61.setTop (mkF m 261 #[.val (.int p1), .val (.int p2), .val (.int p3), .val (.int d), .val (.int lv), .val (.int fn), .val (.int sb0), .val (.int sb1), .val (.int sb2), .val (.int t0), .val (.int t1), .val (.int t2), .val (.ref b24), .val (.ref b28), .val (.ref b32), .val (.ref b36), .val (.ref b40), .val (.ref lst), .unset, .unset] [(.int sb2), (.ref lst)])) _
            refine XS.ifNo X61.here hx rfl (hb hby at_261) rfl ((if0 _ _).trans (feq c3).1) ?_
            show Steps p.tables e below (T61.setTop (mkF m 264 #[.val (.int p1), .val (.int p2), .val (.int p3), .val (.int d), .val (.int lv), .val (.int fn), .val (.int sb0), .val (.int sb1), .val (.int sb2), .val (.int t0), .val (.int t1), .val (.int t2), .val (.ref b24), .val (.ref b28), .val (.ref b32), .val (.ref b36), .val (.ref b40), .val (.ref lst), .unset, .unset] [(.ref lst)])) _
            refine XS.aload X61.here hx rfl (hb hby at_264) rfl rfl ?_
            show Steps p.tables e below (T61.setTop (mkF m 266 #[.val (.int p1), .val (.int p2), .val (.int p3), .val (.int d), .val (.int lv), .val (.int fn), .val (.int sb0), .val (.int sb1), .val (.int sb2), .val (.int t0), .val (.int t1), .val (.int t2), .val (.ref b24), .val (.ref b28), .val (.ref b32), .val (.ref b36), .val (.ref b40), .val (.ref lst), .unset, .unset] [(.ref b40), (.ref lst)])) _
            refine XS.goto X61.here hx rfl (pc0 := 266) (pc' := 270) rfl (hb hby at_266) (by decide) (by decide) ?_
            exact k)
          obtain ⟨T63, h63, X63, e63, W63, st63⟩ := putF X61 hx hZ hown (host := "") (Or.inl (hw _ (List.mem_of_getElem? (i := 19) rfl))) Via.refl e61 Fl61 En61 (Or.inl (hw _ (List.mem_of_getElem? (i := 20) rfl))) (hw _ (List.mem_of_getElem? (i := 1) rfl)) (ty := (.object "com/example/rosewood/rosewood/Node")) (by decide) rfl rfl (g := (mkF m 270 #[.val (.int p1), .val (.int p2), .val (.int p3), .val (.int d), .val (.int lv), .val (.int fn), .val (.int sb0), .val (.int sb1), .val (.int sb2), .val (.int t0), .val (.int t1), .val (.int t2), .val (.ref b24), .val (.ref b28), .val (.ref b32), .val (.ref b36), .val (.ref b40), .val (.ref lst), .unset, .unset] [(.ref b40), (.ref lst)])) rfl rfl (hb hby at_270)
          have C63 : Go p e below T63 (mkF m 273 #[.val (.int p1), .val (.int p2), .val (.int p3), .val (.int d), .val (.int lv), .val (.int fn), .val (.int sb0), .val (.int sb1), .val (.int sb2), .val (.int t0), .val (.int t1), .val (.int t2), .val (.ref b24), .val (.ref b28), .val (.ref b32), .val (.ref b36), .val (.ref b40), .val (.ref lst), .unset, .unset] []) s₁ F0 := fun t k => C62 t (st63 t k)
          have En63 := En61.wr W63
          have Fl63 := Fl61.same W63
          have Fg63 := Fg61.other W63 (Or.inr (slot_ne (Or.inl (hw _ (List.mem_of_getElem? (i := 22) rfl))) (Or.inl (hw _ (List.mem_of_getElem? (i := 20) rfl))) (by decide) (t := (.object "com/example/rosewood/rosewood/Node")) (t' := (.object "com/example/rosewood/rosewood/Node")) (by decide) (by decide)))
          have N63 := Fr.snoc X63 N61 gl
          have K63 := K61.wr W63 (Or.inl (List.mem_of_getElem? (i := 0) rfl))
          have C64 : Go p e below T63 (mkF m 314 #[.val (.int p1), .val (.int p2), .val (.int p3), .val (.int d), .val (.int lv), .val (.int fn), .val (.int sb0), .val (.int sb1), .val (.int sb2), .val (.int t0), .val (.int t1), .val (.int t2), .val (.ref b24), .val (.ref b28), .val (.ref b32), .val (.ref b36), .val (.ref b40), .val (.ref lst), .unset, .unset] []) s₁ F0 := fun t k => C63 t (by
            refine XS.goto X63.here hx rfl (pc0 := 273) (pc' := 314) rfl (hb hby at_273) (by decide) (by decide) ?_
            exact k)
          exact ⟨_, _, _, _, _, X63, e63, N63, K63, ⟨En63, Fl63, Fg63, rfl⟩, fun z => absurd z c, C64⟩
      · by_cases c3 : sb2 = 0
        · skip
          have C65 : Go p e below TS2 (mkF m 279 #[.val (.int p1), .val (.int p2), .val (.int p3), .val (.int d), .val (.int lv), .val (.int fn), .val (.int sb0), .val (.int sb1), .val (.int sb2), .val (.int t0), .val (.int t1), .val (.int t2), .val (.ref b24), .val (.ref b28), .val (.ref b32), .val (.ref b36), .val (.ref b40), .val (.ref lst), .unset, .unset] [.null, (.ref lst)]) s₁ F0 := fun t k => CJ t (by
            refine XS.iload LS2.here hx rfl (hb hby at_242) rfl ?_
            show Steps p.tables e below (TS2.setTop (mkF m 244 #[.val (.int p1), .val (.int p2), .val (.int p3), .val (.int d), .val (.int lv), .val (.int fn), .val (.int sb0), .val (.int sb1), .val (.int sb2), .val (.int t0), .val (.int t1), .val (.int t2), .val (.ref b24), .val (.ref b28), .val (.ref b32), .val (.ref b36), .val (.ref b40), .val (.ref lst), .unset, .unset] [(.int fn)])) _
            refine XS.ifNo LS2.here hx rfl (hb hby at_244) rfl ((if0 _ _).trans (feq c).1) ?_
            show Steps p.tables e below (TS2.setTop (mkF m 247 #[.val (.int p1), .val (.int p2), .val (.int p3), .val (.int d), .val (.int lv), .val (.int fn), .val (.int sb0), .val (.int sb1), .val (.int sb2), .val (.int t0), .val (.int t1), .val (.int t2), .val (.ref b24), .val (.ref b28), .val (.ref b32), .val (.ref b36), .val (.ref b40), .val (.ref lst), .unset, .unset] [])) _
            refine XS.iloadN LS2.here hx rfl (hb hby at_247) rfl ?_
            show Steps p.tables e below (TS2.setTop (mkF m 248 #[.val (.int p1), .val (.int p2), .val (.int p3), .val (.int d), .val (.int lv), .val (.int fn), .val (.int sb0), .val (.int sb1), .val (.int sb2), .val (.int t0), .val (.int t1), .val (.int t2), .val (.ref b24), .val (.ref b28), .val (.ref b32), .val (.ref b36), .val (.ref b40), .val (.ref lst), .unset, .unset] [(.int p3)])) _
            refine XS.ifYes LS2.here hx rfl (pc0 := 248) (pc' := 276) rfl (hb hby at_248) rfl ((if0 _ _).trans (flt c2).2.2.2) (by decide) (by decide) ?_
            show Steps p.tables e below (TS2.setTop (mkF m 276 #[.val (.int p1), .val (.int p2), .val (.int p3), .val (.int d), .val (.int lv), .val (.int fn), .val (.int sb0), .val (.int sb1), .val (.int sb2), .val (.int t0), .val (.int t1), .val (.int t2), .val (.ref b24), .val (.ref b28), .val (.ref b32), .val (.ref b36), .val (.ref b40), .val (.ref lst), .unset, .unset] [])) _
            refine XS.aload LS2.here hx rfl (hb hby at_276) rfl rfl ?_
            show Steps p.tables e below (TS2.setTop (mkF m 278 #[.val (.int p1), .val (.int p2), .val (.int p3), .val (.int d), .val (.int lv), .val (.int fn), .val (.int sb0), .val (.int sb1), .val (.int sb2), .val (.int t0), .val (.int t1), .val (.int t2), .val (.ref b24), .val (.ref b28), .val (.ref b32), .val (.ref b36), .val (.ref b40), .val (.ref lst), .unset, .unset] [(.ref lst)])) _
            refine XS.aconstNull LS2.here hx rfl (hb hby at_278) ?_
            exact k)
          obtain ⟨T66, h66, X66, e66, W66, st66⟩ := putF LS2 hx hZ hown (host := "") (Or.inl (hw _ (List.mem_of_getElem? (i := 19) rfl))) Via.refl eS2 Fl0 En0 (Or.inl (hw _ (List.mem_of_getElem? (i := 20) rfl))) (hw _ (List.mem_of_getElem? (i := 1) rfl)) (ty := (.object "com/example/rosewood/rosewood/Node")) (by decide) rfl rfl (g := (mkF m 279 #[.val (.int p1), .val (.int p2), .val (.int p3), .val (.int d), .val (.int lv), .val (.int fn), .val (.int sb0), .val (.int sb1), .val (.int sb2), .val (.int t0), .val (.int t1), .val (.int t2), .val (.ref b24), .val (.ref b28), .val (.ref b32), .val (.ref b36), .val (.ref b40), .val (.ref lst), .unset, .unset] [.null, (.ref lst)])) rfl rfl (hb hby at_279)
          have C66 : Go p e below T66 (mkF m 282 #[.val (.int p1), .val (.int p2), .val (.int p3), .val (.int d), .val (.int lv), .val (.int fn), .val (.int sb0), .val (.int sb1), .val (.int sb2), .val (.int t0), .val (.int t1), .val (.int t2), .val (.ref b24), .val (.ref b28), .val (.ref b32), .val (.ref b36), .val (.ref b40), .val (.ref lst), .unset, .unset] []) s₁ F0 := fun t k => C65 t (st66 t k)
          have En66 := En0.wr W66
          have Fl66 := Fl0.same W66
          have Fg66 := Fg0.other W66 (Or.inr (slot_ne (Or.inl (hw _ (List.mem_of_getElem? (i := 22) rfl))) (Or.inl (hw _ (List.mem_of_getElem? (i := 20) rfl))) (by decide) (t := (.object "com/example/rosewood/rosewood/Node")) (t' := (.object "com/example/rosewood/rosewood/Node")) (by decide) (by decide)))
          have N66 := Fr.snoc X66 NS2 gl
          have K66 := (Keep.refl hS2 [lst]).wr W66 (Or.inl (List.mem_of_getElem? (i := 0) rfl))
          have C67 : Go p e below T66 (mkF m 295 #[.val (.int p1), .val (.int p2), .val (.int p3), .val (.int d), .val (.int lv), .val (.int fn), .val (.int sb0), .val (.int sb1), .val (.int sb2), .val (.int t0), .val (.int t1), .val (.int t2), .val (.ref b24), .val (.ref b28), .val (.ref b32), .val (.ref b36), .val (.ref b40), .val (.ref lst), .unset, .unset] [.null, (.ref lst)]) s₁ F0 := fun t k => C66 t (by
            refine XS.aload X66.here hx rfl (hb hby at_282) rfl rfl ?_
            show Steps p.tables e below (T66.setTop (mkF m 284 #[.val (.int p1), .val (.int p2), .val (.int p3), .val (.int d), .val (.int lv), .val (.int fn), .val (.int sb0), .val (.int sb1), .val (.int sb2), .val (.int t0), .val (.int t1), .val (.int t2), .val (.ref b24), .val (.ref b28), .val (.ref b32), .val (.ref b36), .val (.ref b40), .val (.ref lst), .unset, .unset] [(.ref lst)])) _
            refine XS.iload X66.here hx rfl (hb hby at_284) rfl ?_
            show Steps p.tables e below (T66.setTop (mkF m 286 #[.val (.int p1), .val (.int p2), .val (.int p3), .val (.int d), .val (.int lv), .val (.int fn), .val (.int sb0), .val (.int sb1), .val (.int sb2), .val (.int t0), .val (.int t1), .val (.int t2), .val (.ref b24), .val (.ref b28), .val (.ref b32), .val (.ref b36), .val (.ref b40), .val (.ref lst), .unset, .unset] [(.int sb2), (.ref lst)])) _
            refine XS.ifYes X66.here hx rfl (pc0 := 286) (pc' := 294) rfl (hb hby at_286) rfl ((if0 _ _).trans (teq c3).1) (by decide) (by decide) ?_
            show Steps p.tables e below (T66.setTop (mkF m 294 #[.val (.int p1), .val (.int p2), .val (.int p3), .val (.int d), .val (.int lv), .val (.int fn), .val (.int sb0), .val (.int sb1), .val (.int sb2), .val (.int t0), .val (.int t1), .val (.int t2), .val (.ref b24), .val (.ref b28), .val (.ref b32), .val (.ref b36), .val (.ref b40), .val (.ref lst), .unset, .unset] [(.ref lst)])) _
            refine XS.aconstNull X66.here hx rfl (hb hby at_294) ?_
            exact k)
          obtain ⟨T68, h68, X68, e68, W68, st68⟩ := putF X66 hx hZ hown (host := "") (Or.inl (hw _ (List.mem_of_getElem? (i := 21) rfl))) Via.refl e66 Fg66 En66 (Or.inl (hw _ (List.mem_of_getElem? (i := 22) rfl))) (hw _ (List.mem_of_getElem? (i := 1) rfl)) (ty := (.object "com/example/rosewood/rosewood/Node")) (by decide) rfl rfl (g := (mkF m 295 #[.val (.int p1), .val (.int p2), .val (.int p3), .val (.int d), .val (.int lv), .val (.int fn), .val (.int sb0), .val (.int sb1), .val (.int sb2), .val (.int t0), .val (.int t1), .val (.int t2), .val (.ref b24), .val (.ref b28), .val (.ref b32), .val (.ref b36), .val (.ref b40), .val (.ref lst), .unset, .unset] [.null, (.ref lst)])) rfl rfl (hb hby at_295)
          have C68 : Go p e below T68 (mkF m 298 #[.val (.int p1), .val (.int p2), .val (.int p3), .val (.int d), .val (.int lv), .val (.int fn), .val (.int sb0), .val (.int sb1), .val (.int sb2), .val (.int t0), .val (.int t1), .val (.int t2), .val (.ref b24), .val (.ref b28), .val (.ref b32), .val (.ref b36), .val (.ref b40), .val (.ref lst), .unset, .unset] []) s₁ F0 := fun t k => C67 t (st68 t k)
          have En68 := En66.wr W68
          have Fl68 := Fl66.other W68 (Or.inr (slot_ne (Or.inl (hw _ (List.mem_of_getElem? (i := 20) rfl))) (Or.inl (hw _ (List.mem_of_getElem? (i := 22) rfl))) (by decide) (t := (.object "com/example/rosewood/rosewood/Node")) (t' := (.object "com/example/rosewood/rosewood/Node")) (by decide) (by decide)))
          have Fg68 := Fg66.same W68
          have N68 := Fr.snoc X68 N66 gl
          have K68 := K66.wr W68 (Or.inl (List.mem_of_getElem? (i := 0) rfl))
          have C69 : Go p e below T68 (mkF m 314 #[.val (.int p1), .val (.int p2), .val (.int p3), .val (.int d), .val (.int lv), .val (.int fn), .val (.int sb0), .val (.int sb1), .val (.int sb2), .val (.int t0), .val (.int t1), .val (.int t2), .val (.ref b24), .val (.ref b28), .val (.ref b32), .val (.ref b36), .val (.ref b40), .val (.ref lst), .unset, .unset] []) s₁ F0 := fun t k => C68 t (by
            refine XS.goto X68.here hx rfl (pc0 := 298) (pc' := 314) rfl (hb hby at_298) (by decide) (by decide) ?_
            exact k)
          exact ⟨_, _, _, _, _, X68, e68, N68, K68, ⟨En68, Fl68, Fg68, rfl⟩, fun z => absurd z c, C69⟩
        · skip
          have C70 : Go p e below TS2 (mkF m 279 #[.val (.int p1), .val (.int p2), .val (.int p3), .val (.int d), .val (.int lv), .val (.int fn), .val (.int sb0), .val (.int sb1), .val (.int sb2), .val (.int t0), .val (.int t1), .val (.int t2), .val (.ref b24), .val (.ref b28), .val (.ref b32), .val (.ref b36), .val (.ref b40), .val (.ref lst), .unset, .unset] [.null, (.ref lst)]) s₁ F0 := fun t k => CJ t (by
            refine XS.iload LS2.here hx rfl (hb hby at_242) rfl ?_
            show Steps p.tables e below (TS2.setTop (mkF m 244 #[.val (.int p1), .val (.int p2), .val (.int p3), .val (.int d), .val (.int lv), .val (.int fn), .val (.int sb0), .val (.int sb1), .val (.int sb2), .val (.int t0), .val (.int t1), .val (.int t2), .val (.ref b24), .val (.ref b28), .val (.ref b32), .val (.ref b36), .val (.ref b40), .val (.ref lst), .unset, .unset] [(.int fn)])) _
            refine XS.ifNo LS2.here hx rfl (hb hby at_244) rfl ((if0 _ _).trans (feq c).1) ?_
            show Steps p.tables e below (TS2.setTop (mkF m 247 #[.val (.int p1), .val (.int p2), .val (.int p3), .val (.int d), .val (.int lv), .val (.int fn), .val (.int sb0), .val (.int sb1), .val (.int sb2), .val (.int t0), .val (.int t1), .val (.int t2), .val (.ref b24), .val (.ref b28), .val (.ref b32), .val (.ref b36), .val (.ref b40), .val (.ref lst), .unset, .unset] [])) _
            refine XS.iloadN LS2.here hx rfl (hb hby at_247) rfl ?_
            show Steps p.tables e below (TS2.setTop (mkF m 248 #[.val (.int p1), .val (.int p2), .val (.int p3), .val (.int d), .val (.int lv), .val (.int fn), .val (.int sb0), .val (.int sb1), .val (.int sb2), .val (.int t0), .val (.int t1), .val (.int t2), .val (.ref b24), .val (.ref b28), .val (.ref b32), .val (.ref b36), .val (.ref b40), .val (.ref lst), .unset, .unset] [(.int p3)])) _
            refine XS.ifYes LS2.here hx rfl (pc0 := 248) (pc' := 276) rfl (hb hby at_248) rfl ((if0 _ _).trans (flt c2).2.2.2) (by decide) (by decide) ?_
            show Steps p.tables e below (TS2.setTop (mkF m 276 #[.val (.int p1), .val (.int p2), .val (.int p3), .val (.int d), .val (.int lv), .val (.int fn), .val (.int sb0), .val (.int sb1), .val (.int sb2), .val (.int t0), .val (.int t1), .val (.int t2), .val (.ref b24), .val (.ref b28), .val (.ref b32), .val (.ref b36), .val (.ref b40), .val (.ref lst), .unset, .unset] [])) _
            refine XS.aload LS2.here hx rfl (hb hby at_276) rfl rfl ?_
            show Steps p.tables e below (TS2.setTop (mkF m 278 #[.val (.int p1), .val (.int p2), .val (.int p3), .val (.int d), .val (.int lv), .val (.int fn), .val (.int sb0), .val (.int sb1), .val (.int sb2), .val (.int t0), .val (.int t1), .val (.int t2), .val (.ref b24), .val (.ref b28), .val (.ref b32), .val (.ref b36), .val (.ref b40), .val (.ref lst), .unset, .unset] [(.ref lst)])) _
            refine XS.aconstNull LS2.here hx rfl (hb hby at_278) ?_
            exact k)
          obtain ⟨T71, h71, X71, e71, W71, st71⟩ := putF LS2 hx hZ hown (host := "") (Or.inl (hw _ (List.mem_of_getElem? (i := 19) rfl))) Via.refl eS2 Fl0 En0 (Or.inl (hw _ (List.mem_of_getElem? (i := 20) rfl))) (hw _ (List.mem_of_getElem? (i := 1) rfl)) (ty := (.object "com/example/rosewood/rosewood/Node")) (by decide) rfl rfl (g := (mkF m 279 #[.val (.int p1), .val (.int p2), .val (.int p3), .val (.int d), .val (.int lv), .val (.int fn), .val (.int sb0), .val (.int sb1), .val (.int sb2), .val (.int t0), .val (.int t1), .val (.int t2), .val (.ref b24), .val (.ref b28), .val (.ref b32), .val (.ref b36), .val (.ref b40), .val (.ref lst), .unset, .unset] [.null, (.ref lst)])) rfl rfl (hb hby at_279)
          have C71 : Go p e below T71 (mkF m 282 #[.val (.int p1), .val (.int p2), .val (.int p3), .val (.int d), .val (.int lv), .val (.int fn), .val (.int sb0), .val (.int sb1), .val (.int sb2), .val (.int t0), .val (.int t1), .val (.int t2), .val (.ref b24), .val (.ref b28), .val (.ref b32), .val (.ref b36), .val (.ref b40), .val (.ref lst), .unset, .unset] []) s₁ F0 := fun t k => C70 t (st71 t k)
          have En71 := En0.wr W71
          have Fl71 := Fl0.same W71
          have Fg71 := Fg0.other W71 (Or.inr (slot_ne (Or.inl (hw _ (List.mem_of_getElem? (i := 22) rfl))) (Or.inl (hw _ (List.mem_of_getElem? (i := 20) rfl))) (by decide) (t := (.object "com/example/rosewood/rosewood/Node")) (t' := (.object "com/example/rosewood/rosewood/Node")) (by decide) (by decide)))
          have N71 := Fr.snoc X71 NS2 gl
          have K71 := (Keep.refl hS2 [lst]).wr W71 (Or.inl (List.mem_of_getElem? (i := 0) rfl))
          have C72 : Go p e below T71 (mkF m 295 #[.val (.int p1), .val (.int p2), .val (.int p3), .val (.int d), .val (.int lv), .val (.int fn), .val (.int sb0), .val (.int sb1), .val (.int sb2), .val (.int t0), .val (.int t1), .val (.int t2), .val (.ref b24), .val (.ref b28), .val (.ref b32), .val (.ref b36), .val (.ref b40), .val (.ref lst), .unset, .unset] [(.ref b40), (.ref lst)]) s₁ F0 := fun t k => C71 t (by
            refine XS.aload X71.here hx rfl (hb hby at_282) rfl rfl ?_
            show Steps p.tables e below (T71.setTop (mkF m 284 #[.val (.int p1), .val (.int p2), .val (.int p3), .val (.int d), .val (.int lv), .val (.int fn), .val (.int sb0), .val (.int sb1), .val (.int sb2), .val (.int t0), .val (.int t1), .val (.int t2), .val (.ref b24), .val (.ref b28), .val (.ref b32), .val (.ref b36), .val (.ref b40), .val (.ref lst), .unset, .unset] [(.ref lst)])) _
            refine XS.iload X71.here hx rfl (hb hby at_284) rfl ?_
            show Steps p.tables e below (T71.setTop (mkF m 286 #[.val (.int p1), .val (.int p2), .val (.int p3), .val (.int d), .val (.int lv), .val (.int fn), .val (.int sb0), .val (.int sb1), .val (.int sb2), .val (.int t0), .val (.int t1), .val (.int t2), .val (.ref b24), .val (.ref b28), .val (.ref b32), .val (.ref b36), .val (.ref b40), .val (.ref lst), .unset, .unset] [(.int sb2), (.ref lst)])) _
            refine XS.ifNo X71.here hx rfl (hb hby at_286) rfl ((if0 _ _).trans (feq c3).1) ?_
            show Steps p.tables e below (T71.setTop (mkF m 289 #[.val (.int p1), .val (.int p2), .val (.int p3), .val (.int d), .val (.int lv), .val (.int fn), .val (.int sb0), .val (.int sb1), .val (.int sb2), .val (.int t0), .val (.int t1), .val (.int t2), .val (.ref b24), .val (.ref b28), .val (.ref b32), .val (.ref b36), .val (.ref b40), .val (.ref lst), .unset, .unset] [(.ref lst)])) _
            refine XS.aload X71.here hx rfl (hb hby at_289) rfl rfl ?_
            show Steps p.tables e below (T71.setTop (mkF m 291 #[.val (.int p1), .val (.int p2), .val (.int p3), .val (.int d), .val (.int lv), .val (.int fn), .val (.int sb0), .val (.int sb1), .val (.int sb2), .val (.int t0), .val (.int t1), .val (.int t2), .val (.ref b24), .val (.ref b28), .val (.ref b32), .val (.ref b36), .val (.ref b40), .val (.ref lst), .unset, .unset] [(.ref b40), (.ref lst)])) _
            refine XS.goto X71.here hx rfl (pc0 := 291) (pc' := 295) rfl (hb hby at_291) (by decide) (by decide) ?_
            exact k)
          obtain ⟨T73, h73, X73, e73, W73, st73⟩ := putF X71 hx hZ hown (host := "") (Or.inl (hw _ (List.mem_of_getElem? (i := 21) rfl))) Via.refl e71 Fg71 En71 (Or.inl (hw _ (List.mem_of_getElem? (i := 22) rfl))) (hw _ (List.mem_of_getElem? (i := 1) rfl)) (ty := (.object "com/example/rosewood/rosewood/Node")) (by decide) rfl rfl (g := (mkF m 295 #[.val (.int p1), .val (.int p2), .val (.int p3), .val (.int d), .val (.int lv), .val (.int fn), .val (.int sb0), .val (.int sb1), .val (.int sb2), .val (.int t0), .val (.int t1), .val (.int t2), .val (.ref b24), .val (.ref b28), .val (.ref b32), .val (.ref b36), .val (.ref b40), .val (.ref lst), .unset, .unset] [(.ref b40), (.ref lst)])) rfl rfl (hb hby at_295)
          have C73 : Go p e below T73 (mkF m 298 #[.val (.int p1), .val (.int p2), .val (.int p3), .val (.int d), .val (.int lv), .val (.int fn), .val (.int sb0), .val (.int sb1), .val (.int sb2), .val (.int t0), .val (.int t1), .val (.int t2), .val (.ref b24), .val (.ref b28), .val (.ref b32), .val (.ref b36), .val (.ref b40), .val (.ref lst), .unset, .unset] []) s₁ F0 := fun t k => C72 t (st73 t k)
          have En73 := En71.wr W73
          have Fl73 := Fl71.other W73 (Or.inr (slot_ne (Or.inl (hw _ (List.mem_of_getElem? (i := 20) rfl))) (Or.inl (hw _ (List.mem_of_getElem? (i := 22) rfl))) (by decide) (t := (.object "com/example/rosewood/rosewood/Node")) (t' := (.object "com/example/rosewood/rosewood/Node")) (by decide) (by decide)))
          have Fg73 := Fg71.same W73
          have N73 := Fr.snoc X73 N71 gl
          have K73 := K71.wr W73 (Or.inl (List.mem_of_getElem? (i := 0) rfl))
          have C74 : Go p e below T73 (mkF m 314 #[.val (.int p1), .val (.int p2), .val (.int p3), .val (.int d), .val (.int lv), .val (.int fn), .val (.int sb0), .val (.int sb1), .val (.int sb2), .val (.int t0), .val (.int t1), .val (.int t2), .val (.ref b24), .val (.ref b28), .val (.ref b32), .val (.ref b36), .val (.ref b40), .val (.ref lst), .unset, .unset] []) s₁ F0 := fun t k => C73 t (by
            refine XS.goto X73.here hx rfl (pc0 := 298) (pc' := 314) rfl (hb hby at_298) (by decide) (by decide) ?_
            exact k)
          exact ⟨_, _, _, _, _, X73, e73, N73, K73, ⟨En73, Fl73, Fg73, rfl⟩, fun z => absurd z c, C74⟩
  obtain ⟨l0, r0, l1, r1, l2, r2, D0, D1, D2, G0, G1, G2⟩ : ∃ l0 r0 l1 r1 l2 r2, Nd Z hS4 b24 l0 r0 ∧ Nd Z hS4 b28 l1 r1 ∧ Nd Z hS4 b32 l2 r2 ∧ ((¬ d = 1 → Rt r0 b28 t0) ∧ (d = 1 → fn = 0 → Rt r0 b36 t2)) ∧ ((d = 3 → Rt r1 b32 t1) ∧ (d = 2 → fn = 0 → Rt r1 b36 t2)) ∧ (d = 3 → fn = 0 → Rt r2 b36 t2) := by
    rcases hlst with ⟨c, rfl⟩ | ⟨c, rfl⟩ | ⟨c, rfl⟩
    · exact ⟨_, _, _, _, _, _, Bw, B2.keep KS4 (ninS ne_b24_b28.symm nin0), B2_2.keep KS4 (ninS ne_b24_b32.symm nin0), ⟨fun z => absurd c z, fun _ => RW⟩, ⟨fun z => absurd (c.symm.trans z) (by decide), fun z => absurd (c.symm.trans z) (by decide)⟩, fun z => absurd (c.symm.trans z) (by decide)⟩
    · exact ⟨_, _, _, _, _, _, B2_0.keep KS4 (ninS ne_b24_b28 nin0), Bw, B2_2.keep KS4 (ninS ne_b28_b32.symm nin0), ⟨fun _ => RR1 (by rw [c]; decide), fun z => absurd (c.symm.trans z) (by decide)⟩, ⟨fun z => absurd (c.symm.trans z) (by decide), fun _ => RW⟩, fun z => absurd (c.symm.trans z) (by decide)⟩
    · exact ⟨_, _, _, _, _, _, B2_0.keep KS4 (ninS ne_b24_b32 nin0), B2.keep KS4 (ninS ne_b28_b32 nin0), Bw, ⟨fun _ => RR1 (by rw [c]; decide), fun z => absurd (c.symm.trans z) (by decide)⟩, ⟨fun _ => RR2 (by rw [c]; decide), fun z => absurd (c.symm.trans z) (by decide)⟩, fun _ => RW⟩
  have Z4 : n0 ≤ hS4.size := Nat.le_trans gx24 (Nat.le_of_lt D0.lt)
  obtain ⟨T75, h75, X75, e75, E75, A75, D75, -, st75⟩ := newO LS4 hx hZ hown (hw _ (List.mem_of_getElem? (i := 23) rfl)) (hw _ (List.mem_of_getElem? (i := 24) rfl)) (hw _ (List.mem_of_getElem? (i := 25) rfl)) eS4 (g := (mkF m 314 #[.val (.int p1), .val (.int p2), .val (.int p3), .val (.int d), .val (.int lv), .val (.int fn), .val (.int sb0), .val (.int sb1), .val (.int sb2), .val (.int t0), .val (.int t1), .val (.int t2), .val (.ref b24), .val (.ref b28), .val (.ref b32), .val (.ref b36), .val (.ref b40), .val (.ref lst), .unset, .unset] [])) rfl (hb hby at_314) (by decide) (by decide)
  obtain ⟨b75, g75⟩ : ∃ z, z = hS4.size := ⟨_, rfl⟩
  rw [← g75] at A75 D75 st75
  have C75 : Go p e below T75 (mkF m 317 #[.val (.int p1), .val (.int p2), .val (.int p3), .val (.int d), .val (.int lv), .val (.int fn), .val (.int sb0), .val (.int sb1), .val (.int sb2), .val (.int t0), .val (.int t1), .val (.int t2), .val (.ref b24), .val (.ref b28), .val (.ref b32), .val (.ref b36), .val (.ref b40), .val (.ref lst), .unset, .unset] [(.ref b75)]) s₁ F0 := fun t k => CS4 t (st75 t k)
  have gd : n0 ≤ b75 := Nat.le_trans Z4 (Nat.le_of_eq g75.symm)
  have Zd : n0 ≤ h75.size := Nat.le_trans Z4 E75.1
  have nd0 : b24 ≠ b75 := Nat.ne_of_lt (Nat.lt_of_lt_of_le D0.lt (Nat.le_of_eq g75.symm))
  have nd1 : b28 ≠ b75 := Nat.ne_of_lt (Nat.lt_of_lt_of_le D1.lt (Nat.le_of_eq g75.symm))
  have nd2 : b32 ≠ b75 := Nat.ne_of_lt (Nat.lt_of_lt_of_le D2.lt (Nat.le_of_eq g75.symm))
  have Fd_path : Fld Z h75 b75 "com/example/rosewood/rosewood/Descent" "path" "[Lcom/example/rosewood/rosewood/Node;" .null := D75 (Or.inr (hw _ (List.mem_of_getElem? (i := 33) rfl))) (ty := (.array (.object "com/example/rosewood/rosewood/Node"))) (by decide)
  have Fd_depth : Fld Z h75 b75 "com/example/rosewood/rosewood/Descent" "depth" "I" (.int (0 : Int32)) := D75 (Or.inl (hw _ (List.mem_of_getElem? (i := 37) rfl))) (ty := .int) (by decide)
  have Fd_found : Fld Z h75 b75 "com/example/rosewood/rosewood/Descent" "found" "Lcom/example/rosewood/rosewood/Node;" .null := D75 (Or.inl (hw _ (List.mem_of_getElem? (i := 39) rfl))) (ty := (.object "com/example/rosewood/rosewood/Node")) (by decide)
  have Fd_side : Fld Z h75 b75 "com/example/rosewood/rosewood/Descent" "side" "I" (.int (0 : Int32)) := D75 (Or.inl (hw _ (List.mem_of_getElem? (i := 41) rfl))) (ty := .int) (by decide)
  have C76 : Go p e below T75 (mkF m 318 #[.val (.int p1), .val (.int p2), .val (.int p3), .val (.int d), .val (.int lv), .val (.int fn), .val (.int sb0), .val (.int sb1), .val (.int sb2), .val (.int t0), .val (.int t1), .val (.int t2), .val (.ref b24), .val (.ref b28), .val (.ref b32), .val (.ref b36), .val (.ref b40), .val (.ref lst), .unset, .unset] [(.ref b75), (.ref b75)]) s₁ F0 := fun t k => C75 t (by
    refine XS.dup X75.here hx rfl (hb hby at_317) rfl rfl ?_
    exact k)
  obtain ⟨_, _, ⟨T77, L77, k77, n77⟩, -, X77, ⟨Lc77, hQ77, l77, y77, z77⟩, st77⟩ := X75.specialBack hx (y := (⟨"com/example/rosewood/rosewood/Descent", "<init>", "()V"⟩ : MethodName)) rfl hown (mvT hZ (hw _ (List.mem_of_getElem? (i := 26) rfl))) (mvT hZ (hw _ (List.mem_of_getElem? (i := 27) rfl))) (mvT hZ (hw _ (List.mem_of_getElem? (i := 28) rfl))) (by decide) (backOf (W := 1) (rm4 l Z a0 hw [] b75 .null h75 n0 Zd Fd_path Fd_depth Fd_found Fd_side A75 gd) hZ (hw _ (List.mem_of_getElem? (i := 28) rfl)) (hw _ (List.mem_of_getElem? (i := 25) rfl)) (by decide) (by decide)) (g := (mkF m 318 #[.val (.int p1), .val (.int p2), .val (.int p3), .val (.int d), .val (.int lv), .val (.int fn), .val (.int sb0), .val (.int sb1), .val (.int sb2), .val (.int t0), .val (.int t1), .val (.int t2), .val (.ref b24), .val (.ref b28), .val (.ref b32), .val (.ref b36), .val (.ref b40), .val (.ref lst), .unset, .unset] [(.ref b75), (.ref b75)])) rfl (by rw [hml]; rfl) (Steps.refl _) (a := b75) (argsL := []) (rest := [(.ref b75)]) (lenOf pd_4 rfl) rfl (by show 2 * 0 + _ ≤ _; exact Nat.le_of_eq rfl) (hb hby at_318) (fun _ _ => ⟨rfl, e75, (by decide : 6 + 1 ≤ _), (by decide : 29 + 64 ≤ _)⟩)
  dsimp only [Pt.U, Pt.locs, Pt.cells, Pt.slots] at X77 l77 y77 z77 st77 hQ77
  subst l77 y77 z77
  obtain ⟨pb, kp, rfl, N77q, K77, spb, Ed77, Fp77, Fdp77, Ffo77, Fsi77, Vp77, Op⟩ := hQ77
  have C77 : Go p e below T77 (mkF m 321 #[.val (.int p1), .val (.int p2), .val (.int p3), .val (.int d), .val (.int lv), .val (.int fn), .val (.int sb0), .val (.int sb1), .val (.int sb2), .val (.int t0), .val (.int t1), .val (.int t2), .val (.ref b24), .val (.ref b28), .val (.ref b32), .val (.ref b36), .val (.ref b40), .val (.ref lst), .unset, .unset] [(.ref b75)]) s₁ F0 := fun t k => C76 t (st77.trans k)
  have N77 := Fr.app NS4 N77q
  have gpb : n0 ≤ pb := Nat.le_trans Zd spb
  have npd : pb ≠ b75 := fun z => Nat.lt_irrefl _ (Nat.lt_of_lt_of_le (z ▸ A75.lt) spb)
  have np0 : b24 ≠ pb := Nat.ne_of_lt (Nat.lt_of_lt_of_le (D0.ext E75).lt spb)
  have D0_77 := (D0.ext E75).keep K77 (ninS nd0 nin0)
  have np1 : b28 ≠ pb := Nat.ne_of_lt (Nat.lt_of_lt_of_le (D1.ext E75).lt spb)
  have D1_77 := (D1.ext E75).keep K77 (ninS nd1 nin0)
  have np2 : b32 ≠ pb := Nat.ne_of_lt (Nat.lt_of_lt_of_le (D2.ext E75).lt spb)
  have D2_77 := (D2.ext E75).keep K77 (ninS nd2 nin0)
  have Vq77 : Arv Z T77.heap pb kp (.object "com/example/rosewood/rosewood/Node") 64 [.null, .null, .null] .null := Vp77.pad (pad_rep [] _ 3)
  have C78 : Go p e below T77 (mkF m 325 #[.val (.int p1), .val (.int p2), .val (.int p3), .val (.int d), .val (.int lv), .val (.int fn), .val (.int sb0), .val (.int sb1), .val (.int sb2), .val (.int t0), .val (.int t1), .val (.int t2), .val (.ref b24), .val (.ref b28), .val (.ref b32), .val (.ref b36), .val (.ref b40), .val (.ref lst), .val (.ref b75), .unset] [(.ref b75)]) s₁ F0 := fun t k => C77 t (by
    refine XS.astore X77.here hx rfl (hb hby at_321) rfl rfl (l' := #[.val (.int p1), .val (.int p2), .val (.int p3), .val (.int d), .val (.int lv), .val (.int fn), .val (.int sb0), .val (.int sb1), .val (.int sb2), .val (.int t0), .val (.int t1), .val (.int t2), .val (.ref b24), .val (.ref b28), .val (.ref b32), .val (.ref b36), .val (.ref b40), .val (.ref lst), .val (.ref b75), .unset]) rfl ?_
    show Steps p.tables e below (T77.setTop (mkF m 323 #[.val (.int p1), .val (.int p2), .val (.int p3), .val (.int d), .val (.int lv), .val (.int fn), .val (.int sb0), .val (.int sb1), .val (.int sb2), .val (.int t0), .val (.int t1), .val (.int t2), .val (.ref b24), .val (.ref b28), .val (.ref b32), .val (.ref b36), .val (.ref b40), .val (.ref lst), .val (.ref b75), .unset] [])) _
    refine XS.aload X77.here hx rfl (hb hby at_323) rfl rfl ?_
    exact k)
  obtain ⟨T79, X79, e79, st79⟩ := getF X77 hx hZ hown (host := "") (Or.inl (hw _ (List.mem_of_getElem? (i := 34) rfl))) Via.refl rfl Fp77 (g := (mkF m 325 #[.val (.int p1), .val (.int p2), .val (.int p3), .val (.int d), .val (.int lv), .val (.int fn), .val (.int sb0), .val (.int sb1), .val (.int sb2), .val (.int t0), .val (.int t1), .val (.int t2), .val (.ref b24), .val (.ref b28), .val (.ref b32), .val (.ref b36), .val (.ref b40), .val (.ref lst), .val (.ref b75), .unset] [(.ref b75)])) rfl rfl (hb hby at_325)
  have C79 : Go p e below T79 (mkF m 328 #[.val (.int p1), .val (.int p2), .val (.int p3), .val (.int d), .val (.int lv), .val (.int fn), .val (.int sb0), .val (.int sb1), .val (.int sb2), .val (.int t0), .val (.int t1), .val (.int t2), .val (.ref b24), .val (.ref b28), .val (.ref b32), .val (.ref b36), .val (.ref b40), .val (.ref lst), .val (.ref b75), .unset] [(.ref pb)]) s₁ F0 := fun t k => C78 t (st79 t k)
  have C80 : Go p e below T79 (mkF m 331 #[.val (.int p1), .val (.int p2), .val (.int p3), .val (.int d), .val (.int lv), .val (.int fn), .val (.int sb0), .val (.int sb1), .val (.int sb2), .val (.int t0), .val (.int t1), .val (.int t2), .val (.ref b24), .val (.ref b28), .val (.ref b32), .val (.ref b36), .val (.ref b40), .val (.ref lst), .val (.ref b75), .unset] [(.ref b24), (.int (0 : Int32)), (.ref pb)]) s₁ F0 := fun t k => C79 t (by
    refine XS.iconst X79.here hx rfl (hb hby at_328) ?_
    show Steps p.tables e below (T79.setTop (mkF m 329 #[.val (.int p1), .val (.int p2), .val (.int p3), .val (.int d), .val (.int lv), .val (.int fn), .val (.int sb0), .val (.int sb1), .val (.int sb2), .val (.int t0), .val (.int t1), .val (.int t2), .val (.ref b24), .val (.ref b28), .val (.ref b32), .val (.ref b36), .val (.ref b40), .val (.ref lst), .val (.ref b75), .unset] [(.int (0 : Int32)), (.ref pb)])) _
    refine XS.aload X79.here hx rfl (hb hby at_329) rfl rfl ?_
    exact k)
  obtain ⟨cz0, Az0, qz0, Sz0, Mz0, Hz0, Gz0⟩ := Vq77
  obtain ⟨T81, h81, X81, e81, W81, st81⟩ := stR X79 hx hZ e79 Az0 (j := (0 : Int32)) (inb_of Sz0 ⟨by decide, by decide⟩) rfl (Sto.ofV Az0 qz0 Op (Ins.self D0_77.1)) (g := (mkF m 331 #[.val (.int p1), .val (.int p2), .val (.int p3), .val (.int d), .val (.int lv), .val (.int fn), .val (.int sb0), .val (.int sb1), .val (.int sb2), .val (.int t0), .val (.int t1), .val (.int t2), .val (.ref b24), .val (.ref b28), .val (.ref b32), .val (.ref b36), .val (.ref b40), .val (.ref lst), .val (.ref b75), .unset] [(.ref b24), (.int (0 : Int32)), (.ref pb)])) rfl rfl (hb hby at_331)
  have C81 : Go p e below T81 (mkF m 332 #[.val (.int p1), .val (.int p2), .val (.int p3), .val (.int d), .val (.int lv), .val (.int fn), .val (.int sb0), .val (.int sb1), .val (.int sb2), .val (.int t0), .val (.int t1), .val (.int t2), .val (.ref b24), .val (.ref b28), .val (.ref b32), .val (.ref b36), .val (.ref b40), .val (.ref lst), .val (.ref b75), .unset] []) s₁ F0 := fun t k => C80 t (st81 t k)
  have Vq81 : Arv Z h81 pb kp (.object "com/example/rosewood/rosewood/Node") 64 [.ref b24, .null, .null] .null := Arv.set Az0 qz0 Sz0 Mz0 Hz0 Gz0 rfl W81 0 rfl (Nat.le_of_ble_eq_true rfl)
  have N81 := Fr.snoc X81 N77 gpb
  have D0_81 := D0_77.other W81 np0
  have D1_81 := D1_77.other W81 np1
  have D2_81 := D2_77.other W81 np2
  have Fp81 := Fp77.other W81 (Or.inl npd.symm)
  have Fdp81 := Fdp77.other W81 (Or.inl npd.symm)
  have Ffo81 := Ffo77.other W81 (Or.inl npd.symm)
  have Fsi81 := Fsi77.other W81 (Or.inl npd.symm)
  have Ed81 := Ed77.wr W81
  have C82 : Go p e below T81 (mkF m 334 #[.val (.int p1), .val (.int p2), .val (.int p3), .val (.int d), .val (.int lv), .val (.int fn), .val (.int sb0), .val (.int sb1), .val (.int sb2), .val (.int t0), .val (.int t1), .val (.int t2), .val (.ref b24), .val (.ref b28), .val (.ref b32), .val (.ref b36), .val (.ref b40), .val (.ref lst), .val (.ref b75), .unset] [(.ref b75)]) s₁ F0 := fun t k => C81 t (by
    refine XS.aload X81.here hx rfl (hb hby at_332) rfl rfl ?_
    exact k)
  obtain ⟨T83, X83, e83, st83⟩ := getF X81 hx hZ hown (host := "") (Or.inl (hw _ (List.mem_of_getElem? (i := 34) rfl))) Via.refl e81 Fp81 (g := (mkF m 334 #[.val (.int p1), .val (.int p2), .val (.int p3), .val (.int d), .val (.int lv), .val (.int fn), .val (.int sb0), .val (.int sb1), .val (.int sb2), .val (.int t0), .val (.int t1), .val (.int t2), .val (.ref b24), .val (.ref b28), .val (.ref b32), .val (.ref b36), .val (.ref b40), .val (.ref lst), .val (.ref b75), .unset] [(.ref b75)])) rfl rfl (hb hby at_334)
  have C83 : Go p e below T83 (mkF m 337 #[.val (.int p1), .val (.int p2), .val (.int p3), .val (.int d), .val (.int lv), .val (.int fn), .val (.int sb0), .val (.int sb1), .val (.int sb2), .val (.int t0), .val (.int t1), .val (.int t2), .val (.ref b24), .val (.ref b28), .val (.ref b32), .val (.ref b36), .val (.ref b40), .val (.ref lst), .val (.ref b75), .unset] [(.ref pb)]) s₁ F0 := fun t k => C82 t (st83 t k)
  have C84 : Go p e below T83 (mkF m 340 #[.val (.int p1), .val (.int p2), .val (.int p3), .val (.int d), .val (.int lv), .val (.int fn), .val (.int sb0), .val (.int sb1), .val (.int sb2), .val (.int t0), .val (.int t1), .val (.int t2), .val (.ref b24), .val (.ref b28), .val (.ref b32), .val (.ref b36), .val (.ref b40), .val (.ref lst), .val (.ref b75), .unset] [(.ref b28), (.int (1 : Int32)), (.ref pb)]) s₁ F0 := fun t k => C83 t (by
    refine XS.iconst X83.here hx rfl (hb hby at_337) ?_
    show Steps p.tables e below (T83.setTop (mkF m 338 #[.val (.int p1), .val (.int p2), .val (.int p3), .val (.int d), .val (.int lv), .val (.int fn), .val (.int sb0), .val (.int sb1), .val (.int sb2), .val (.int t0), .val (.int t1), .val (.int t2), .val (.ref b24), .val (.ref b28), .val (.ref b32), .val (.ref b36), .val (.ref b40), .val (.ref lst), .val (.ref b75), .unset] [(.int (1 : Int32)), (.ref pb)])) _
    refine XS.aload X83.here hx rfl (hb hby at_338) rfl rfl ?_
    exact k)
  obtain ⟨cz1, Az1, qz1, Sz1, Mz1, Hz1, Gz1⟩ := Vq81
  obtain ⟨T85, h85, X85, e85, W85, st85⟩ := stR X83 hx hZ e83 Az1 (j := (1 : Int32)) (inb_of Sz1 ⟨by decide, by decide⟩) rfl (Sto.ofV Az1 qz1 Op (Ins.self D1_81.1)) (g := (mkF m 340 #[.val (.int p1), .val (.int p2), .val (.int p3), .val (.int d), .val (.int lv), .val (.int fn), .val (.int sb0), .val (.int sb1), .val (.int sb2), .val (.int t0), .val (.int t1), .val (.int t2), .val (.ref b24), .val (.ref b28), .val (.ref b32), .val (.ref b36), .val (.ref b40), .val (.ref lst), .val (.ref b75), .unset] [(.ref b28), (.int (1 : Int32)), (.ref pb)])) rfl rfl (hb hby at_340)
  have C85 : Go p e below T85 (mkF m 341 #[.val (.int p1), .val (.int p2), .val (.int p3), .val (.int d), .val (.int lv), .val (.int fn), .val (.int sb0), .val (.int sb1), .val (.int sb2), .val (.int t0), .val (.int t1), .val (.int t2), .val (.ref b24), .val (.ref b28), .val (.ref b32), .val (.ref b36), .val (.ref b40), .val (.ref lst), .val (.ref b75), .unset] []) s₁ F0 := fun t k => C84 t (st85 t k)
  have Vq85 : Arv Z h85 pb kp (.object "com/example/rosewood/rosewood/Node") 64 [.ref b24, .ref b28, .null] .null := Arv.set Az1 qz1 Sz1 Mz1 Hz1 Gz1 rfl W85 1 rfl (Nat.le_of_ble_eq_true rfl)
  have N85 := Fr.snoc X85 N81 gpb
  have D0_85 := D0_81.other W85 np0
  have D1_85 := D1_81.other W85 np1
  have D2_85 := D2_81.other W85 np2
  have Fp85 := Fp81.other W85 (Or.inl npd.symm)
  have Fdp85 := Fdp81.other W85 (Or.inl npd.symm)
  have Ffo85 := Ffo81.other W85 (Or.inl npd.symm)
  have Fsi85 := Fsi81.other W85 (Or.inl npd.symm)
  have Ed85 := Ed81.wr W85
  have C86 : Go p e below T85 (mkF m 343 #[.val (.int p1), .val (.int p2), .val (.int p3), .val (.int d), .val (.int lv), .val (.int fn), .val (.int sb0), .val (.int sb1), .val (.int sb2), .val (.int t0), .val (.int t1), .val (.int t2), .val (.ref b24), .val (.ref b28), .val (.ref b32), .val (.ref b36), .val (.ref b40), .val (.ref lst), .val (.ref b75), .unset] [(.ref b75)]) s₁ F0 := fun t k => C85 t (by
    refine XS.aload X85.here hx rfl (hb hby at_341) rfl rfl ?_
    exact k)
  obtain ⟨T87, X87, e87, st87⟩ := getF X85 hx hZ hown (host := "") (Or.inl (hw _ (List.mem_of_getElem? (i := 34) rfl))) Via.refl e85 Fp85 (g := (mkF m 343 #[.val (.int p1), .val (.int p2), .val (.int p3), .val (.int d), .val (.int lv), .val (.int fn), .val (.int sb0), .val (.int sb1), .val (.int sb2), .val (.int t0), .val (.int t1), .val (.int t2), .val (.ref b24), .val (.ref b28), .val (.ref b32), .val (.ref b36), .val (.ref b40), .val (.ref lst), .val (.ref b75), .unset] [(.ref b75)])) rfl rfl (hb hby at_343)
  have C87 : Go p e below T87 (mkF m 346 #[.val (.int p1), .val (.int p2), .val (.int p3), .val (.int d), .val (.int lv), .val (.int fn), .val (.int sb0), .val (.int sb1), .val (.int sb2), .val (.int t0), .val (.int t1), .val (.int t2), .val (.ref b24), .val (.ref b28), .val (.ref b32), .val (.ref b36), .val (.ref b40), .val (.ref lst), .val (.ref b75), .unset] [(.ref pb)]) s₁ F0 := fun t k => C86 t (st87 t k)
  have C88 : Go p e below T87 (mkF m 349 #[.val (.int p1), .val (.int p2), .val (.int p3), .val (.int d), .val (.int lv), .val (.int fn), .val (.int sb0), .val (.int sb1), .val (.int sb2), .val (.int t0), .val (.int t1), .val (.int t2), .val (.ref b24), .val (.ref b28), .val (.ref b32), .val (.ref b36), .val (.ref b40), .val (.ref lst), .val (.ref b75), .unset] [(.ref b32), (.int (2 : Int32)), (.ref pb)]) s₁ F0 := fun t k => C87 t (by
    refine XS.iconst X87.here hx rfl (hb hby at_346) ?_
    show Steps p.tables e below (T87.setTop (mkF m 347 #[.val (.int p1), .val (.int p2), .val (.int p3), .val (.int d), .val (.int lv), .val (.int fn), .val (.int sb0), .val (.int sb1), .val (.int sb2), .val (.int t0), .val (.int t1), .val (.int t2), .val (.ref b24), .val (.ref b28), .val (.ref b32), .val (.ref b36), .val (.ref b40), .val (.ref lst), .val (.ref b75), .unset] [(.int (2 : Int32)), (.ref pb)])) _
    refine XS.aload X87.here hx rfl (hb hby at_347) rfl rfl ?_
    exact k)
  obtain ⟨cz2, Az2, qz2, Sz2, Mz2, Hz2, Gz2⟩ := Vq85
  obtain ⟨T89, h89, X89, e89, W89, st89⟩ := stR X87 hx hZ e87 Az2 (j := (2 : Int32)) (inb_of Sz2 ⟨by decide, by decide⟩) rfl (Sto.ofV Az2 qz2 Op (Ins.self D2_85.1)) (g := (mkF m 349 #[.val (.int p1), .val (.int p2), .val (.int p3), .val (.int d), .val (.int lv), .val (.int fn), .val (.int sb0), .val (.int sb1), .val (.int sb2), .val (.int t0), .val (.int t1), .val (.int t2), .val (.ref b24), .val (.ref b28), .val (.ref b32), .val (.ref b36), .val (.ref b40), .val (.ref lst), .val (.ref b75), .unset] [(.ref b32), (.int (2 : Int32)), (.ref pb)])) rfl rfl (hb hby at_349)
  have C89 : Go p e below T89 (mkF m 350 #[.val (.int p1), .val (.int p2), .val (.int p3), .val (.int d), .val (.int lv), .val (.int fn), .val (.int sb0), .val (.int sb1), .val (.int sb2), .val (.int t0), .val (.int t1), .val (.int t2), .val (.ref b24), .val (.ref b28), .val (.ref b32), .val (.ref b36), .val (.ref b40), .val (.ref lst), .val (.ref b75), .unset] []) s₁ F0 := fun t k => C88 t (st89 t k)
  have Vq89 : Arv Z h89 pb kp (.object "com/example/rosewood/rosewood/Node") 64 [.ref b24, .ref b28, .ref b32] .null := Arv.set Az2 qz2 Sz2 Mz2 Hz2 Gz2 rfl W89 2 rfl (Nat.le_of_ble_eq_true rfl)
  have N89 := Fr.snoc X89 N85 gpb
  have D0_89 := D0_85.other W89 np0
  have D1_89 := D1_85.other W89 np1
  have D2_89 := D2_85.other W89 np2
  have Fp89 := Fp85.other W89 (Or.inl npd.symm)
  have Fdp89 := Fdp85.other W89 (Or.inl npd.symm)
  have Ffo89 := Ffo85.other W89 (Or.inl npd.symm)
  have Fsi89 := Fsi85.other W89 (Or.inl npd.symm)
  have Ed89 := Ed85.wr W89
  have C90 : Go p e below T89 (mkF m 353 #[.val (.int p1), .val (.int p2), .val (.int p3), .val (.int d), .val (.int lv), .val (.int fn), .val (.int sb0), .val (.int sb1), .val (.int sb2), .val (.int t0), .val (.int t1), .val (.int t2), .val (.ref b24), .val (.ref b28), .val (.ref b32), .val (.ref b36), .val (.ref b40), .val (.ref lst), .val (.ref b75), .unset] [(.int d), (.ref b75)]) s₁ F0 := fun t k => C89 t (by
    refine XS.aload X89.here hx rfl (hb hby at_350) rfl rfl ?_
    show Steps p.tables e below (T89.setTop (mkF m 352 #[.val (.int p1), .val (.int p2), .val (.int p3), .val (.int d), .val (.int lv), .val (.int fn), .val (.int sb0), .val (.int sb1), .val (.int sb2), .val (.int t0), .val (.int t1), .val (.int t2), .val (.ref b24), .val (.ref b28), .val (.ref b32), .val (.ref b36), .val (.ref b40), .val (.ref lst), .val (.ref b75), .unset] [(.ref b75)])) _
    refine XS.iloadN X89.here hx rfl (hb hby at_352) rfl ?_
    exact k)
  obtain ⟨T91, h91, X91, e91, W91, st91⟩ := putF X89 hx hZ hown (host := "") (Or.inl (hw _ (List.mem_of_getElem? (i := 36) rfl))) Via.refl e89 Fdp89 Ed89 (Or.inl (hw _ (List.mem_of_getElem? (i := 37) rfl))) (hw _ (List.mem_of_getElem? (i := 24) rfl)) (ty := .int) (by decide) rfl rfl (g := (mkF m 353 #[.val (.int p1), .val (.int p2), .val (.int p3), .val (.int d), .val (.int lv), .val (.int fn), .val (.int sb0), .val (.int sb1), .val (.int sb2), .val (.int t0), .val (.int t1), .val (.int t2), .val (.ref b24), .val (.ref b28), .val (.ref b32), .val (.ref b36), .val (.ref b40), .val (.ref lst), .val (.ref b75), .unset] [(.int d), (.ref b75)])) rfl rfl (hb hby at_353)
  have C91 : Go p e below T91 (mkF m 356 #[.val (.int p1), .val (.int p2), .val (.int p3), .val (.int d), .val (.int lv), .val (.int fn), .val (.int sb0), .val (.int sb1), .val (.int sb2), .val (.int t0), .val (.int t1), .val (.int t2), .val (.ref b24), .val (.ref b28), .val (.ref b32), .val (.ref b36), .val (.ref b40), .val (.ref lst), .val (.ref b75), .unset] []) s₁ F0 := fun t k => C90 t (st91 t k)
  have Fp91 := Fp89.other W91 (Or.inr (slot_ne (Or.inr (hw _ (List.mem_of_getElem? (i := 33) rfl))) (Or.inl (hw _ (List.mem_of_getElem? (i := 37) rfl))) (by decide) (t := (.array (.object "com/example/rosewood/rosewood/Node"))) (t' := .int) (by decide) (by decide)))
  have Fdp91 := Fdp89.same W91
  have Ffo91 := Ffo89.other W91 (Or.inr (slot_ne (Or.inl (hw _ (List.mem_of_getElem? (i := 39) rfl))) (Or.inl (hw _ (List.mem_of_getElem? (i := 37) rfl))) (by decide) (t := (.object "com/example/rosewood/rosewood/Node")) (t' := .int) (by decide) (by decide)))
  have Fsi91 := Fsi89.other W91 (Or.inr (slot_ne (Or.inl (hw _ (List.mem_of_getElem? (i := 41) rfl))) (Or.inl (hw _ (List.mem_of_getElem? (i := 37) rfl))) (by decide) (t := .int) (t' := .int) (by decide) (by decide)))
  have D0_91 := D0_89.other W91 nd0
  have D1_91 := D1_89.other W91 nd1
  have D2_91 := D2_89.other W91 nd2
  have Ed91 := Ed89.wr W91
  have Vq91 := Vq89.other W91 npd
  have N91 := Fr.snoc X91 N89 gd
  have LS5 : Stand p l e room_1 s m #[(.int p1), (.int p2), (.int p3)] below meth c T91 _ 7 93 := X91
  obtain ⟨TS6, hS6, lS6, fv, LS6, eS6, NS6, hfv, D0_s, D1_s, D2_s, Ed_s, Vq_s, Fp_s, Fdp_s, Ffo_s, Fsi_s, CS6⟩ : ∃ (T' : State) (h' : Heap) (ls : List Loc) (fv : Value), Stand p l e room_1 s m #[(.int p1), (.int p2), (.int p3)] below meth c T' ls 7 93 ∧ T'.heap = h' ∧ Fr n0 ls ∧ ((fn = 0 ∧ fv = .ref b36) ∨ (¬ fn = 0 ∧ fv = .null)) ∧ Nd Z h' b24 l0 r0 ∧ Nd Z h' b28 l1 r1 ∧ Nd Z h' b32 l2 r2 ∧ Exa Z h' b75 "com/example/rosewood/rosewood/Descent" ∧ Arv Z h' pb kp (.object "com/example/rosewood/rosewood/Node") 64 [.ref b24, .ref b28, .ref b32] .null ∧ Fld Z h' b75 "com/example/rosewood/rosewood/Descent" "path" "[Lcom/example/rosewood/rosewood/Node;" (.ref pb) ∧ Fld Z h' b75 "com/example/rosewood/rosewood/Descent" "depth" "I" (.int d) ∧ Fld Z h' b75 "com/example/rosewood/rosewood/Descent" "found" "Lcom/example/rosewood/rosewood/Node;" fv ∧ Fld Z h' b75 "com/example/rosewood/rosewood/Descent" "side" "I" (.int 0) ∧ Go p e below T' (mkF m 372 #[.val (.int p1), .val (.int p2), .val (.int p3), .val (.int d), .val (.int lv), .val (.int fn), .val (.int sb0), .val (.int sb1), .val (.int sb2), .val (.int t0), .val (.int t1), .val (.int t2), .val (.ref b24), .val (.ref b28), .val (.ref b32), .val (.ref b36), .val (.ref b40), .val (.ref lst), .val (.ref b75), .unset] []) s₁ F0 := by
    by_cases c : fn = 0
    · skip
      have C92 : Go p e below T91 (mkF m 369 #[.val (.int p1), .val (.int p2), .val (.int p3), .val (.int d), .val (.int lv), .val (.int fn), .val (.int sb0), .val (.int sb1), .val (.int sb2), .val (.int t0), .val (.int t1), .val (.int t2), .val (.ref b24), .val (.ref b28), .val (.ref b32), .val (.ref b36), .val (.ref b40), .val (.ref lst), .val (.ref b75), .unset] [(.ref b36), (.ref b75)]) s₁ F0 := fun t k => C91 t (by
        refine XS.aload LS5.here hx rfl (hb hby at_356) rfl rfl ?_
        show Steps p.tables e below (T91.setTop (mkF m 358 #[.val (.int p1), .val (.int p2), .val (.int p3), .val (.int d), .val (.int lv), .val (.int fn), .val (.int sb0), .val (.int sb1), .val (.int sb2), .val (.int t0), .val (.int t1), .val (.int t2), .val (.ref b24), .val (.ref b28), .val (.ref b32), .val (.ref b36), .val (.ref b40), .val (.ref lst), .val (.ref b75), .unset] [(.ref b75)])) _
        refine XS.iload LS5.here hx rfl (hb hby at_358) rfl ?_
        show Steps p.tables e below (T91.setTop (mkF m 360 #[.val (.int p1), .val (.int p2), .val (.int p3), .val (.int d), .val (.int lv), .val (.int fn), .val (.int sb0), .val (.int sb1), .val (.int sb2), .val (.int t0), .val (.int t1), .val (.int t2), .val (.ref b24), .val (.ref b28), .val (.ref b32), .val (.ref b36), .val (.ref b40), .val (.ref lst), .val (.ref b75), .unset] [(.int fn), (.ref b75)])) _
        refine XS.ifYes LS5.here hx rfl (pc0 := 360) (pc' := 367) rfl (hb hby at_360) rfl ((if0 _ _).trans (teq c).1) (by decide) (by decide) ?_
        show Steps p.tables e below (T91.setTop (mkF m 367 #[.val (.int p1), .val (.int p2), .val (.int p3), .val (.int d), .val (.int lv), .val (.int fn), .val (.int sb0), .val (.int sb1), .val (.int sb2), .val (.int t0), .val (.int t1), .val (.int t2), .val (.ref b24), .val (.ref b28), .val (.ref b32), .val (.ref b36), .val (.ref b40), .val (.ref lst), .val (.ref b75), .unset] [(.ref b75)])) _
        refine XS.aload LS5.here hx rfl (hb hby at_367) rfl rfl ?_
        exact k)
      obtain ⟨T93, h93, X93, e93, W93, st93⟩ := putF LS5 hx hZ hown (host := "") (Or.inl (hw _ (List.mem_of_getElem? (i := 38) rfl))) Via.refl e91 Ffo91 Ed91 (Or.inl (hw _ (List.mem_of_getElem? (i := 39) rfl))) (hw _ (List.mem_of_getElem? (i := 24) rfl)) (ty := (.object "com/example/rosewood/rosewood/Node")) (by decide) rfl rfl (g := (mkF m 369 #[.val (.int p1), .val (.int p2), .val (.int p3), .val (.int d), .val (.int lv), .val (.int fn), .val (.int sb0), .val (.int sb1), .val (.int sb2), .val (.int t0), .val (.int t1), .val (.int t2), .val (.ref b24), .val (.ref b28), .val (.ref b32), .val (.ref b36), .val (.ref b40), .val (.ref lst), .val (.ref b75), .unset] [(.ref b36), (.ref b75)])) rfl rfl (hb hby at_369)
      have C93 : Go p e below T93 (mkF m 372 #[.val (.int p1), .val (.int p2), .val (.int p3), .val (.int d), .val (.int lv), .val (.int fn), .val (.int sb0), .val (.int sb1), .val (.int sb2), .val (.int t0), .val (.int t1), .val (.int t2), .val (.ref b24), .val (.ref b28), .val (.ref b32), .val (.ref b36), .val (.ref b40), .val (.ref lst), .val (.ref b75), .unset] []) s₁ F0 := fun t k => C92 t (st93 t k)
      have Fp93 := Fp91.other W93 (Or.inr (slot_ne (Or.inr (hw _ (List.mem_of_getElem? (i := 33) rfl))) (Or.inl (hw _ (List.mem_of_getElem? (i := 39) rfl))) (by decide) (t := (.array (.object "com/example/rosewood/rosewood/Node"))) (t' := (.object "com/example/rosewood/rosewood/Node")) (by decide) (by decide)))
      have Fdp93 := Fdp91.other W93 (Or.inr (slot_ne (Or.inl (hw _ (List.mem_of_getElem? (i := 37) rfl))) (Or.inl (hw _ (List.mem_of_getElem? (i := 39) rfl))) (by decide) (t := .int) (t' := (.object "com/example/rosewood/rosewood/Node")) (by decide) (by decide)))
      have Ffo93 := Ffo91.same W93
      have Fsi93 := Fsi91.other W93 (Or.inr (slot_ne (Or.inl (hw _ (List.mem_of_getElem? (i := 41) rfl))) (Or.inl (hw _ (List.mem_of_getElem? (i := 39) rfl))) (by decide) (t := .int) (t' := (.object "com/example/rosewood/rosewood/Node")) (by decide) (by decide)))
      have D0_93 := D0_91.other W93 nd0
      have D1_93 := D1_91.other W93 nd1
      have D2_93 := D2_91.other W93 nd2
      have Ed93 := Ed91.wr W93
      have Vq93 := Vq91.other W93 npd
      have N93 := Fr.snoc X93 N91 gd
      exact ⟨_, _, _, _, X93, e93, N93, Or.inl ⟨c, rfl⟩, D0_93, D1_93, D2_93, Ed93, Vq93, Fp93, Fdp93, Ffo93, Fsi93, C93⟩
    · skip
      have C94 : Go p e below T91 (mkF m 369 #[.val (.int p1), .val (.int p2), .val (.int p3), .val (.int d), .val (.int lv), .val (.int fn), .val (.int sb0), .val (.int sb1), .val (.int sb2), .val (.int t0), .val (.int t1), .val (.int t2), .val (.ref b24), .val (.ref b28), .val (.ref b32), .val (.ref b36), .val (.ref b40), .val (.ref lst), .val (.ref b75), .unset] [.null, (.ref b75)]) s₁ F0 := fun t k => C91 t (by
        refine XS.aload LS5.here hx rfl (hb hby at_356) rfl rfl ?_
        show Steps p.tables e below (T91.setTop (mkF m 358 #[.val (.int p1), .val (.int p2), .val (.int p3), .val (.int d), .val (.int lv), .val (.int fn), .val (.int sb0), .val (.int sb1), .val (.int sb2), .val (.int t0), .val (.int t1), .val (.int t2), .val (.ref b24), .val (.ref b28), .val (.ref b32), .val (.ref b36), .val (.ref b40), .val (.ref lst), .val (.ref b75), .unset] [(.ref b75)])) _
        refine XS.iload LS5.here hx rfl (hb hby at_358) rfl ?_
        show Steps p.tables e below (T91.setTop (mkF m 360 #[.val (.int p1), .val (.int p2), .val (.int p3), .val (.int d), .val (.int lv), .val (.int fn), .val (.int sb0), .val (.int sb1), .val (.int sb2), .val (.int t0), .val (.int t1), .val (.int t2), .val (.ref b24), .val (.ref b28), .val (.ref b32), .val (.ref b36), .val (.ref b40), .val (.ref lst), .val (.ref b75), .unset] [(.int fn), (.ref b75)])) _
        refine XS.ifNo LS5.here hx rfl (hb hby at_360) rfl ((if0 _ _).trans (feq c).1) ?_
        show Steps p.tables e below (T91.setTop (mkF m 363 #[.val (.int p1), .val (.int p2), .val (.int p3), .val (.int d), .val (.int lv), .val (.int fn), .val (.int sb0), .val (.int sb1), .val (.int sb2), .val (.int t0), .val (.int t1), .val (.int t2), .val (.ref b24), .val (.ref b28), .val (.ref b32), .val (.ref b36), .val (.ref b40), .val (.ref lst), .val (.ref b75), .unset] [(.ref b75)])) _
        refine XS.aconstNull LS5.here hx rfl (hb hby at_363) ?_
        show Steps p.tables e below (T91.setTop (mkF m 364 #[.val (.int p1), .val (.int p2), .val (.int p3), .val (.int d), .val (.int lv), .val (.int fn), .val (.int sb0), .val (.int sb1), .val (.int sb2), .val (.int t0), .val (.int t1), .val (.int t2), .val (.ref b24), .val (.ref b28), .val (.ref b32), .val (.ref b36), .val (.ref b40), .val (.ref lst), .val (.ref b75), .unset] [.null, (.ref b75)])) _
        refine XS.goto LS5.here hx rfl (pc0 := 364) (pc' := 369) rfl (hb hby at_364) (by decide) (by decide) ?_
        exact k)
      obtain ⟨T95, h95, X95, e95, W95, st95⟩ := putF LS5 hx hZ hown (host := "") (Or.inl (hw _ (List.mem_of_getElem? (i := 38) rfl))) Via.refl e91 Ffo91 Ed91 (Or.inl (hw _ (List.mem_of_getElem? (i := 39) rfl))) (hw _ (List.mem_of_getElem? (i := 24) rfl)) (ty := (.object "com/example/rosewood/rosewood/Node")) (by decide) rfl rfl (g := (mkF m 369 #[.val (.int p1), .val (.int p2), .val (.int p3), .val (.int d), .val (.int lv), .val (.int fn), .val (.int sb0), .val (.int sb1), .val (.int sb2), .val (.int t0), .val (.int t1), .val (.int t2), .val (.ref b24), .val (.ref b28), .val (.ref b32), .val (.ref b36), .val (.ref b40), .val (.ref lst), .val (.ref b75), .unset] [.null, (.ref b75)])) rfl rfl (hb hby at_369)
      have C95 : Go p e below T95 (mkF m 372 #[.val (.int p1), .val (.int p2), .val (.int p3), .val (.int d), .val (.int lv), .val (.int fn), .val (.int sb0), .val (.int sb1), .val (.int sb2), .val (.int t0), .val (.int t1), .val (.int t2), .val (.ref b24), .val (.ref b28), .val (.ref b32), .val (.ref b36), .val (.ref b40), .val (.ref lst), .val (.ref b75), .unset] []) s₁ F0 := fun t k => C94 t (st95 t k)
      have Fp95 := Fp91.other W95 (Or.inr (slot_ne (Or.inr (hw _ (List.mem_of_getElem? (i := 33) rfl))) (Or.inl (hw _ (List.mem_of_getElem? (i := 39) rfl))) (by decide) (t := (.array (.object "com/example/rosewood/rosewood/Node"))) (t' := (.object "com/example/rosewood/rosewood/Node")) (by decide) (by decide)))
      have Fdp95 := Fdp91.other W95 (Or.inr (slot_ne (Or.inl (hw _ (List.mem_of_getElem? (i := 37) rfl))) (Or.inl (hw _ (List.mem_of_getElem? (i := 39) rfl))) (by decide) (t := .int) (t' := (.object "com/example/rosewood/rosewood/Node")) (by decide) (by decide)))
      have Ffo95 := Ffo91.same W95
      have Fsi95 := Fsi91.other W95 (Or.inr (slot_ne (Or.inl (hw _ (List.mem_of_getElem? (i := 41) rfl))) (Or.inl (hw _ (List.mem_of_getElem? (i := 39) rfl))) (by decide) (t := .int) (t' := (.object "com/example/rosewood/rosewood/Node")) (by decide) (by decide)))
      have D0_95 := D0_91.other W95 nd0
      have D1_95 := D1_91.other W95 nd1
      have D2_95 := D2_91.other W95 nd2
      have Ed95 := Ed91.wr W95
      have Vq95 := Vq91.other W95 npd
      have N95 := Fr.snoc X95 N91 gd
      exact ⟨_, _, _, _, X95, e95, N95, Or.inr ⟨c, rfl⟩, D0_95, D1_95, D2_95, Ed95, Vq95, Fp95, Fdp95, Ffo95, Fsi95, C95⟩
  have C96 : Go p e below TS6 (mkF m 375 #[.val (.int p1), .val (.int p2), .val (.int p3), .val (.int d), .val (.int lv), .val (.int fn), .val (.int sb0), .val (.int sb1), .val (.int sb2), .val (.int t0), .val (.int t1), .val (.int t2), .val (.ref b24), .val (.ref b28), .val (.ref b32), .val (.ref b36), .val (.ref b40), .val (.ref lst), .val (.ref b75), .unset] [(.int p3), (.ref b75)]) s₁ F0 := fun t k => CS6 t (by
    refine XS.aload LS6.here hx rfl (hb hby at_372) rfl rfl ?_
    show Steps p.tables e below (TS6.setTop (mkF m 374 #[.val (.int p1), .val (.int p2), .val (.int p3), .val (.int d), .val (.int lv), .val (.int fn), .val (.int sb0), .val (.int sb1), .val (.int sb2), .val (.int t0), .val (.int t1), .val (.int t2), .val (.ref b24), .val (.ref b28), .val (.ref b32), .val (.ref b36), .val (.ref b40), .val (.ref lst), .val (.ref b75), .unset] [(.ref b75)])) _
    refine XS.iloadN LS6.here hx rfl (hb hby at_374) rfl ?_
    exact k)
  have D0_900 := D0_s
  have D1_900 := D1_s
  have D2_900 := D2_s
  have Ed900 := Ed_s
  have Vq900 := Vq_s
  have Fp900 := Fp_s
  have Fdp900 := Fdp_s
  have Ffo900 := Ffo_s
  have Fsi900 := Fsi_s
  have N900 := NS6
  obtain ⟨T901, h901, X901, e901, W901, st901⟩ := putF LS6 hx hZ hown (host := "") (Or.inl (hw _ (List.mem_of_getElem? (i := 40) rfl))) Via.refl eS6 Fsi900 Ed900 (Or.inl (hw _ (List.mem_of_getElem? (i := 41) rfl))) (hw _ (List.mem_of_getElem? (i := 24) rfl)) (ty := .int) (by decide) rfl rfl (g := (mkF m 375 #[.val (.int p1), .val (.int p2), .val (.int p3), .val (.int d), .val (.int lv), .val (.int fn), .val (.int sb0), .val (.int sb1), .val (.int sb2), .val (.int t0), .val (.int t1), .val (.int t2), .val (.ref b24), .val (.ref b28), .val (.ref b32), .val (.ref b36), .val (.ref b40), .val (.ref lst), .val (.ref b75), .unset] [(.int p3), (.ref b75)])) rfl rfl (hb hby at_375)
  have C901 : Go p e below T901 (mkF m 378 #[.val (.int p1), .val (.int p2), .val (.int p3), .val (.int d), .val (.int lv), .val (.int fn), .val (.int sb0), .val (.int sb1), .val (.int sb2), .val (.int t0), .val (.int t1), .val (.int t2), .val (.ref b24), .val (.ref b28), .val (.ref b32), .val (.ref b36), .val (.ref b40), .val (.ref lst), .val (.ref b75), .unset] []) s₁ F0 := fun t k => C96 t (st901 t k)
  have Fp901 := Fp900.other W901 (Or.inr (slot_ne (Or.inr (hw _ (List.mem_of_getElem? (i := 33) rfl))) (Or.inl (hw _ (List.mem_of_getElem? (i := 41) rfl))) (by decide) (t := (.array (.object "com/example/rosewood/rosewood/Node"))) (t' := .int) (by decide) (by decide)))
  have Fdp901 := Fdp900.other W901 (Or.inr (slot_ne (Or.inl (hw _ (List.mem_of_getElem? (i := 37) rfl))) (Or.inl (hw _ (List.mem_of_getElem? (i := 41) rfl))) (by decide) (t := .int) (t' := .int) (by decide) (by decide)))
  have Ffo901 := Ffo900.other W901 (Or.inr (slot_ne (Or.inl (hw _ (List.mem_of_getElem? (i := 39) rfl))) (Or.inl (hw _ (List.mem_of_getElem? (i := 41) rfl))) (by decide) (t := (.object "com/example/rosewood/rosewood/Node")) (t' := .int) (by decide) (by decide)))
  have Fsi901 := Fsi900.same W901
  have D0_901 := D0_900.other W901 nd0
  have D1_901 := D1_900.other W901 nd1
  have D2_901 := D2_900.other W901 nd2
  have Ed901 := Ed900.wr W901
  have Vq901 := Vq900.other W901 npd
  have N901 := Fr.snoc X901 N900 gd
  have LS7 : Stand p l e room_1 s m #[(.int p1), (.int p2), (.int p3)] below meth c T901 _ 7 93 := X901
  have CX : Go p e below T901 (mkF m 424 #[.val (.int p1), .val (.int p2), .val (.int p3), .val (.int d), .val (.int lv), .val (.int fn), .val (.int sb0), .val (.int sb1), .val (.int sb2), .val (.int t0), .val (.int t1), .val (.int t2), .val (.ref b24), .val (.ref b28), .val (.ref b32), .val (.ref b36), .val (.ref b40), .val (.ref lst), .val (.ref b75), .val (.int (own_ex d lv fn t0 t1 t2 p3))] []) s₁ F0 := by
    by_cases c : lv + 1 < d
    · by_cases c2 : lv = 0
      · have q : (own_ex d lv fn t0 t1 t2 p3) = t0 := (if_pos c).trans (if_pos c2)
        have C902 : Go p e below T901 (mkF m 424 #[.val (.int p1), .val (.int p2), .val (.int p3), .val (.int d), .val (.int lv), .val (.int fn), .val (.int sb0), .val (.int sb1), .val (.int sb2), .val (.int t0), .val (.int t1), .val (.int t2), .val (.ref b24), .val (.ref b28), .val (.ref b32), .val (.ref b36), .val (.ref b40), .val (.ref lst), .val (.ref b75), .val (.int t0)] []) s₁ F0 := fun t k => C901 t (by
          refine XS.iload LS7.here hx rfl (hb hby at_378) rfl ?_
          show Steps p.tables e below (T901.setTop (mkF m 380 #[.val (.int p1), .val (.int p2), .val (.int p3), .val (.int d), .val (.int lv), .val (.int fn), .val (.int sb0), .val (.int sb1), .val (.int sb2), .val (.int t0), .val (.int t1), .val (.int t2), .val (.ref b24), .val (.ref b28), .val (.ref b32), .val (.ref b36), .val (.ref b40), .val (.ref lst), .val (.ref b75), .unset] [(.int lv)])) _
          refine XS.iconst LS7.here hx rfl (hb hby at_380) ?_
          show Steps p.tables e below (T901.setTop (mkF m 381 #[.val (.int p1), .val (.int p2), .val (.int p3), .val (.int d), .val (.int lv), .val (.int fn), .val (.int sb0), .val (.int sb1), .val (.int sb2), .val (.int t0), .val (.int t1), .val (.int t2), .val (.ref b24), .val (.ref b28), .val (.ref b32), .val (.ref b36), .val (.ref b40), .val (.ref lst), .val (.ref b75), .unset] [(.int (1 : Int32)), (.int lv)])) _
          refine XS.iadd LS7.here hx rfl (hb hby at_381) rfl ?_
          show Steps p.tables e below (T901.setTop (mkF m 382 #[.val (.int p1), .val (.int p2), .val (.int p3), .val (.int d), .val (.int lv), .val (.int fn), .val (.int sb0), .val (.int sb1), .val (.int sb2), .val (.int t0), .val (.int t1), .val (.int t2), .val (.ref b24), .val (.ref b28), .val (.ref b32), .val (.ref b36), .val (.ref b40), .val (.ref lst), .val (.ref b75), .unset] [(.int (lv + (1 : Int32)))])) _
          refine XS.iloadN LS7.here hx rfl (hb hby at_382) rfl ?_
          show Steps p.tables e below (T901.setTop (mkF m 383 #[.val (.int p1), .val (.int p2), .val (.int p3), .val (.int d), .val (.int lv), .val (.int fn), .val (.int sb0), .val (.int sb1), .val (.int sb2), .val (.int t0), .val (.int t1), .val (.int t2), .val (.ref b24), .val (.ref b28), .val (.ref b32), .val (.ref b36), .val (.ref b40), .val (.ref lst), .val (.ref b75), .unset] [(.int d), (.int (lv + (1 : Int32)))])) _
          refine XS.icmpNo LS7.here hx rfl (hb hby at_383) rfl (tlt c).2.1 ?_
          show Steps p.tables e below (T901.setTop (mkF m 386 #[.val (.int p1), .val (.int p2), .val (.int p3), .val (.int d), .val (.int lv), .val (.int fn), .val (.int sb0), .val (.int sb1), .val (.int sb2), .val (.int t0), .val (.int t1), .val (.int t2), .val (.ref b24), .val (.ref b28), .val (.ref b32), .val (.ref b36), .val (.ref b40), .val (.ref lst), .val (.ref b75), .unset] [])) _
          refine XS.iload LS7.here hx rfl (hb hby at_386) rfl ?_
          show Steps p.tables e below (T901.setTop (mkF m 388 #[.val (.int p1), .val (.int p2), .val (.int p3), .val (.int d), .val (.int lv), .val (.int fn), .val (.int sb0), .val (.int sb1), .val (.int sb2), .val (.int t0), .val (.int t1), .val (.int t2), .val (.ref b24), .val (.ref b28), .val (.ref b32), .val (.ref b36), .val (.ref b40), .val (.ref lst), .val (.ref b75), .unset] [(.int lv)])) _
          refine XS.ifNo LS7.here hx rfl (hb hby at_388) rfl ((if0 _ _).trans (teq c2).2) ?_
          show Steps p.tables e below (T901.setTop (mkF m 391 #[.val (.int p1), .val (.int p2), .val (.int p3), .val (.int d), .val (.int lv), .val (.int fn), .val (.int sb0), .val (.int sb1), .val (.int sb2), .val (.int t0), .val (.int t1), .val (.int t2), .val (.ref b24), .val (.ref b28), .val (.ref b32), .val (.ref b36), .val (.ref b40), .val (.ref lst), .val (.ref b75), .unset] [])) _
          refine XS.iload LS7.here hx rfl (hb hby at_391) rfl ?_
          show Steps p.tables e below (T901.setTop (mkF m 393 #[.val (.int p1), .val (.int p2), .val (.int p3), .val (.int d), .val (.int lv), .val (.int fn), .val (.int sb0), .val (.int sb1), .val (.int sb2), .val (.int t0), .val (.int t1), .val (.int t2), .val (.ref b24), .val (.ref b28), .val (.ref b32), .val (.ref b36), .val (.ref b40), .val (.ref lst), .val (.ref b75), .unset] [(.int t0)])) _
          refine XS.goto LS7.here hx rfl (pc0 := 393) (pc' := 398) rfl (hb hby at_393) (by decide) (by decide) ?_
          show Steps p.tables e below (T901.setTop (mkF m 398 #[.val (.int p1), .val (.int p2), .val (.int p3), .val (.int d), .val (.int lv), .val (.int fn), .val (.int sb0), .val (.int sb1), .val (.int sb2), .val (.int t0), .val (.int t1), .val (.int t2), .val (.ref b24), .val (.ref b28), .val (.ref b32), .val (.ref b36), .val (.ref b40), .val (.ref lst), .val (.ref b75), .unset] [(.int t0)])) _
          refine XS.istore LS7.here hx rfl (hb hby at_398) rfl (l' := #[.val (.int p1), .val (.int p2), .val (.int p3), .val (.int d), .val (.int lv), .val (.int fn), .val (.int sb0), .val (.int sb1), .val (.int sb2), .val (.int t0), .val (.int t1), .val (.int t2), .val (.ref b24), .val (.ref b28), .val (.ref b32), .val (.ref b36), .val (.ref b40), .val (.ref lst), .val (.ref b75), .val (.int t0)]) rfl ?_
          show Steps p.tables e below (T901.setTop (mkF m 400 #[.val (.int p1), .val (.int p2), .val (.int p3), .val (.int d), .val (.int lv), .val (.int fn), .val (.int sb0), .val (.int sb1), .val (.int sb2), .val (.int t0), .val (.int t1), .val (.int t2), .val (.ref b24), .val (.ref b28), .val (.ref b32), .val (.ref b36), .val (.ref b40), .val (.ref lst), .val (.ref b75), .val (.int t0)] [])) _
          refine XS.goto LS7.here hx rfl (pc0 := 400) (pc' := 424) rfl (hb hby at_400) (by decide) (by decide) ?_
          exact k)
        rw [q]
        exact C902
      · have q : (own_ex d lv fn t0 t1 t2 p3) = t1 := (if_pos c).trans (if_neg c2)
        have C903 : Go p e below T901 (mkF m 424 #[.val (.int p1), .val (.int p2), .val (.int p3), .val (.int d), .val (.int lv), .val (.int fn), .val (.int sb0), .val (.int sb1), .val (.int sb2), .val (.int t0), .val (.int t1), .val (.int t2), .val (.ref b24), .val (.ref b28), .val (.ref b32), .val (.ref b36), .val (.ref b40), .val (.ref lst), .val (.ref b75), .val (.int t1)] []) s₁ F0 := fun t k => C901 t (by
          refine XS.iload LS7.here hx rfl (hb hby at_378) rfl ?_
          show Steps p.tables e below (T901.setTop (mkF m 380 #[.val (.int p1), .val (.int p2), .val (.int p3), .val (.int d), .val (.int lv), .val (.int fn), .val (.int sb0), .val (.int sb1), .val (.int sb2), .val (.int t0), .val (.int t1), .val (.int t2), .val (.ref b24), .val (.ref b28), .val (.ref b32), .val (.ref b36), .val (.ref b40), .val (.ref lst), .val (.ref b75), .unset] [(.int lv)])) _
          refine XS.iconst LS7.here hx rfl (hb hby at_380) ?_
          show Steps p.tables e below (T901.setTop (mkF m 381 #[.val (.int p1), .val (.int p2), .val (.int p3), .val (.int d), .val (.int lv), .val (.int fn), .val (.int sb0), .val (.int sb1), .val (.int sb2), .val (.int t0), .val (.int t1), .val (.int t2), .val (.ref b24), .val (.ref b28), .val (.ref b32), .val (.ref b36), .val (.ref b40), .val (.ref lst), .val (.ref b75), .unset] [(.int (1 : Int32)), (.int lv)])) _
          refine XS.iadd LS7.here hx rfl (hb hby at_381) rfl ?_
          show Steps p.tables e below (T901.setTop (mkF m 382 #[.val (.int p1), .val (.int p2), .val (.int p3), .val (.int d), .val (.int lv), .val (.int fn), .val (.int sb0), .val (.int sb1), .val (.int sb2), .val (.int t0), .val (.int t1), .val (.int t2), .val (.ref b24), .val (.ref b28), .val (.ref b32), .val (.ref b36), .val (.ref b40), .val (.ref lst), .val (.ref b75), .unset] [(.int (lv + (1 : Int32)))])) _
          refine XS.iloadN LS7.here hx rfl (hb hby at_382) rfl ?_
          show Steps p.tables e below (T901.setTop (mkF m 383 #[.val (.int p1), .val (.int p2), .val (.int p3), .val (.int d), .val (.int lv), .val (.int fn), .val (.int sb0), .val (.int sb1), .val (.int sb2), .val (.int t0), .val (.int t1), .val (.int t2), .val (.ref b24), .val (.ref b28), .val (.ref b32), .val (.ref b36), .val (.ref b40), .val (.ref lst), .val (.ref b75), .unset] [(.int d), (.int (lv + (1 : Int32)))])) _
          refine XS.icmpNo LS7.here hx rfl (hb hby at_383) rfl (tlt c).2.1 ?_
          show Steps p.tables e below (T901.setTop (mkF m 386 #[.val (.int p1), .val (.int p2), .val (.int p3), .val (.int d), .val (.int lv), .val (.int fn), .val (.int sb0), .val (.int sb1), .val (.int sb2), .val (.int t0), .val (.int t1), .val (.int t2), .val (.ref b24), .val (.ref b28), .val (.ref b32), .val (.ref b36), .val (.ref b40), .val (.ref lst), .val (.ref b75), .unset] [])) _
          refine XS.iload LS7.here hx rfl (hb hby at_386) rfl ?_
          show Steps p.tables e below (T901.setTop (mkF m 388 #[.val (.int p1), .val (.int p2), .val (.int p3), .val (.int d), .val (.int lv), .val (.int fn), .val (.int sb0), .val (.int sb1), .val (.int sb2), .val (.int t0), .val (.int t1), .val (.int t2), .val (.ref b24), .val (.ref b28), .val (.ref b32), .val (.ref b36), .val (.ref b40), .val (.ref lst), .val (.ref b75), .unset] [(.int lv)])) _
          refine XS.ifYes LS7.here hx rfl (pc0 := 388) (pc' := 396) rfl (hb hby at_388) rfl ((if0 _ _).trans (feq c2).2) (by decide) (by decide) ?_
          show Steps p.tables e below (T901.setTop (mkF m 396 #[.val (.int p1), .val (.int p2), .val (.int p3), .val (.int d), .val (.int lv), .val (.int fn), .val (.int sb0), .val (.int sb1), .val (.int sb2), .val (.int t0), .val (.int t1), .val (.int t2), .val (.ref b24), .val (.ref b28), .val (.ref b32), .val (.ref b36), .val (.ref b40), .val (.ref lst), .val (.ref b75), .unset] [])) _
          refine XS.iload LS7.here hx rfl (hb hby at_396) rfl ?_
          show Steps p.tables e below (T901.setTop (mkF m 398 #[.val (.int p1), .val (.int p2), .val (.int p3), .val (.int d), .val (.int lv), .val (.int fn), .val (.int sb0), .val (.int sb1), .val (.int sb2), .val (.int t0), .val (.int t1), .val (.int t2), .val (.ref b24), .val (.ref b28), .val (.ref b32), .val (.ref b36), .val (.ref b40), .val (.ref lst), .val (.ref b75), .unset] [(.int t1)])) _
          refine XS.istore LS7.here hx rfl (hb hby at_398) rfl (l' := #[.val (.int p1), .val (.int p2), .val (.int p3), .val (.int d), .val (.int lv), .val (.int fn), .val (.int sb0), .val (.int sb1), .val (.int sb2), .val (.int t0), .val (.int t1), .val (.int t2), .val (.ref b24), .val (.ref b28), .val (.ref b32), .val (.ref b36), .val (.ref b40), .val (.ref lst), .val (.ref b75), .val (.int t1)]) rfl ?_
          show Steps p.tables e below (T901.setTop (mkF m 400 #[.val (.int p1), .val (.int p2), .val (.int p3), .val (.int d), .val (.int lv), .val (.int fn), .val (.int sb0), .val (.int sb1), .val (.int sb2), .val (.int t0), .val (.int t1), .val (.int t2), .val (.ref b24), .val (.ref b28), .val (.ref b32), .val (.ref b36), .val (.ref b40), .val (.ref lst), .val (.ref b75), .val (.int t1)] [])) _
          refine XS.goto LS7.here hx rfl (pc0 := 400) (pc' := 424) rfl (hb hby at_400) (by decide) (by decide) ?_
          exact k)
        rw [q]
        exact C903
    · by_cases c2 : fn = 0
      · have q : (own_ex d lv fn t0 t1 t2 p3) = t2 := (if_neg c).trans (if_pos c2)
        have C904 : Go p e below T901 (mkF m 424 #[.val (.int p1), .val (.int p2), .val (.int p3), .val (.int d), .val (.int lv), .val (.int fn), .val (.int sb0), .val (.int sb1), .val (.int sb2), .val (.int t0), .val (.int t1), .val (.int t2), .val (.ref b24), .val (.ref b28), .val (.ref b32), .val (.ref b36), .val (.ref b40), .val (.ref lst), .val (.ref b75), .val (.int t2)] []) s₁ F0 := fun t k => C901 t (by
          refine XS.iload LS7.here hx rfl (hb hby at_378) rfl ?_
          show Steps p.tables e below (T901.setTop (mkF m 380 #[.val (.int p1), .val (.int p2), .val (.int p3), .val (.int d), .val (.int lv), .val (.int fn), .val (.int sb0), .val (.int sb1), .val (.int sb2), .val (.int t0), .val (.int t1), .val (.int t2), .val (.ref b24), .val (.ref b28), .val (.ref b32), .val (.ref b36), .val (.ref b40), .val (.ref lst), .val (.ref b75), .unset] [(.int lv)])) _
          refine XS.iconst LS7.here hx rfl (hb hby at_380) ?_
          show Steps p.tables e below (T901.setTop (mkF m 381 #[.val (.int p1), .val (.int p2), .val (.int p3), .val (.int d), .val (.int lv), .val (.int fn), .val (.int sb0), .val (.int sb1), .val (.int sb2), .val (.int t0), .val (.int t1), .val (.int t2), .val (.ref b24), .val (.ref b28), .val (.ref b32), .val (.ref b36), .val (.ref b40), .val (.ref lst), .val (.ref b75), .unset] [(.int (1 : Int32)), (.int lv)])) _
          refine XS.iadd LS7.here hx rfl (hb hby at_381) rfl ?_
          show Steps p.tables e below (T901.setTop (mkF m 382 #[.val (.int p1), .val (.int p2), .val (.int p3), .val (.int d), .val (.int lv), .val (.int fn), .val (.int sb0), .val (.int sb1), .val (.int sb2), .val (.int t0), .val (.int t1), .val (.int t2), .val (.ref b24), .val (.ref b28), .val (.ref b32), .val (.ref b36), .val (.ref b40), .val (.ref lst), .val (.ref b75), .unset] [(.int (lv + (1 : Int32)))])) _
          refine XS.iloadN LS7.here hx rfl (hb hby at_382) rfl ?_
          show Steps p.tables e below (T901.setTop (mkF m 383 #[.val (.int p1), .val (.int p2), .val (.int p3), .val (.int d), .val (.int lv), .val (.int fn), .val (.int sb0), .val (.int sb1), .val (.int sb2), .val (.int t0), .val (.int t1), .val (.int t2), .val (.ref b24), .val (.ref b28), .val (.ref b32), .val (.ref b36), .val (.ref b40), .val (.ref lst), .val (.ref b75), .unset] [(.int d), (.int (lv + (1 : Int32)))])) _
          refine XS.icmpYes LS7.here hx rfl (pc0 := 383) (pc' := 403) rfl (hb hby at_383) rfl (flt c).2.1 (by decide) (by decide) ?_
          show Steps p.tables e below (T901.setTop (mkF m 403 #[.val (.int p1), .val (.int p2), .val (.int p3), .val (.int d), .val (.int lv), .val (.int fn), .val (.int sb0), .val (.int sb1), .val (.int sb2), .val (.int t0), .val (.int t1), .val (.int t2), .val (.ref b24), .val (.ref b28), .val (.ref b32), .val (.ref b36), .val (.ref b40), .val (.ref lst), .val (.ref b75), .unset] [])) _
          refine XS.iload LS7.here hx rfl (hb hby at_403) rfl ?_
          show Steps p.tables e below (T901.setTop (mkF m 405 #[.val (.int p1), .val (.int p2), .val (.int p3), .val (.int d), .val (.int lv), .val (.int fn), .val (.int sb0), .val (.int sb1), .val (.int sb2), .val (.int t0), .val (.int t1), .val (.int t2), .val (.ref b24), .val (.ref b28), .val (.ref b32), .val (.ref b36), .val (.ref b40), .val (.ref lst), .val (.ref b75), .unset] [(.int fn)])) _
          refine XS.ifYes LS7.here hx rfl (pc0 := 405) (pc' := 420) rfl (hb hby at_405) rfl ((if0 _ _).trans (teq c2).1) (by decide) (by decide) ?_
          show Steps p.tables e below (T901.setTop (mkF m 420 #[.val (.int p1), .val (.int p2), .val (.int p3), .val (.int d), .val (.int lv), .val (.int fn), .val (.int sb0), .val (.int sb1), .val (.int sb2), .val (.int t0), .val (.int t1), .val (.int t2), .val (.ref b24), .val (.ref b28), .val (.ref b32), .val (.ref b36), .val (.ref b40), .val (.ref lst), .val (.ref b75), .unset] [])) _
          refine XS.iload LS7.here hx rfl (hb hby at_420) rfl ?_
          show Steps p.tables e below (T901.setTop (mkF m 422 #[.val (.int p1), .val (.int p2), .val (.int p3), .val (.int d), .val (.int lv), .val (.int fn), .val (.int sb0), .val (.int sb1), .val (.int sb2), .val (.int t0), .val (.int t1), .val (.int t2), .val (.ref b24), .val (.ref b28), .val (.ref b32), .val (.ref b36), .val (.ref b40), .val (.ref lst), .val (.ref b75), .unset] [(.int t2)])) _
          refine XS.istore LS7.here hx rfl (hb hby at_422) rfl (l' := #[.val (.int p1), .val (.int p2), .val (.int p3), .val (.int d), .val (.int lv), .val (.int fn), .val (.int sb0), .val (.int sb1), .val (.int sb2), .val (.int t0), .val (.int t1), .val (.int t2), .val (.ref b24), .val (.ref b28), .val (.ref b32), .val (.ref b36), .val (.ref b40), .val (.ref lst), .val (.ref b75), .val (.int t2)]) rfl ?_
          exact k)
        rw [q]
        exact C904
      · by_cases c3 : 0 < p3
        · have q : (own_ex d lv fn t0 t1 t2 p3) = 1 := (if_neg c).trans ((if_neg c2).trans (if_pos c3))
          have C905 : Go p e below T901 (mkF m 424 #[.val (.int p1), .val (.int p2), .val (.int p3), .val (.int d), .val (.int lv), .val (.int fn), .val (.int sb0), .val (.int sb1), .val (.int sb2), .val (.int t0), .val (.int t1), .val (.int t2), .val (.ref b24), .val (.ref b28), .val (.ref b32), .val (.ref b36), .val (.ref b40), .val (.ref lst), .val (.ref b75), .val (.int (1 : Int32))] []) s₁ F0 := fun t k => C901 t (by
            refine XS.iload LS7.here hx rfl (hb hby at_378) rfl ?_
            show Steps p.tables e below (T901.setTop (mkF m 380 #[.val (.int p1), .val (.int p2), .val (.int p3), .val (.int d), .val (.int lv), .val (.int fn), .val (.int sb0), .val (.int sb1), .val (.int sb2), .val (.int t0), .val (.int t1), .val (.int t2), .val (.ref b24), .val (.ref b28), .val (.ref b32), .val (.ref b36), .val (.ref b40), .val (.ref lst), .val (.ref b75), .unset] [(.int lv)])) _
            refine XS.iconst LS7.here hx rfl (hb hby at_380) ?_
            show Steps p.tables e below (T901.setTop (mkF m 381 #[.val (.int p1), .val (.int p2), .val (.int p3), .val (.int d), .val (.int lv), .val (.int fn), .val (.int sb0), .val (.int sb1), .val (.int sb2), .val (.int t0), .val (.int t1), .val (.int t2), .val (.ref b24), .val (.ref b28), .val (.ref b32), .val (.ref b36), .val (.ref b40), .val (.ref lst), .val (.ref b75), .unset] [(.int (1 : Int32)), (.int lv)])) _
            refine XS.iadd LS7.here hx rfl (hb hby at_381) rfl ?_
            show Steps p.tables e below (T901.setTop (mkF m 382 #[.val (.int p1), .val (.int p2), .val (.int p3), .val (.int d), .val (.int lv), .val (.int fn), .val (.int sb0), .val (.int sb1), .val (.int sb2), .val (.int t0), .val (.int t1), .val (.int t2), .val (.ref b24), .val (.ref b28), .val (.ref b32), .val (.ref b36), .val (.ref b40), .val (.ref lst), .val (.ref b75), .unset] [(.int (lv + (1 : Int32)))])) _
            refine XS.iloadN LS7.here hx rfl (hb hby at_382) rfl ?_
            show Steps p.tables e below (T901.setTop (mkF m 383 #[.val (.int p1), .val (.int p2), .val (.int p3), .val (.int d), .val (.int lv), .val (.int fn), .val (.int sb0), .val (.int sb1), .val (.int sb2), .val (.int t0), .val (.int t1), .val (.int t2), .val (.ref b24), .val (.ref b28), .val (.ref b32), .val (.ref b36), .val (.ref b40), .val (.ref lst), .val (.ref b75), .unset] [(.int d), (.int (lv + (1 : Int32)))])) _
            refine XS.icmpYes LS7.here hx rfl (pc0 := 383) (pc' := 403) rfl (hb hby at_383) rfl (flt c).2.1 (by decide) (by decide) ?_
            show Steps p.tables e below (T901.setTop (mkF m 403 #[.val (.int p1), .val (.int p2), .val (.int p3), .val (.int d), .val (.int lv), .val (.int fn), .val (.int sb0), .val (.int sb1), .val (.int sb2), .val (.int t0), .val (.int t1), .val (.int t2), .val (.ref b24), .val (.ref b28), .val (.ref b32), .val (.ref b36), .val (.ref b40), .val (.ref lst), .val (.ref b75), .unset] [])) _
            refine XS.iload LS7.here hx rfl (hb hby at_403) rfl ?_
            show Steps p.tables e below (T901.setTop (mkF m 405 #[.val (.int p1), .val (.int p2), .val (.int p3), .val (.int d), .val (.int lv), .val (.int fn), .val (.int sb0), .val (.int sb1), .val (.int sb2), .val (.int t0), .val (.int t1), .val (.int t2), .val (.ref b24), .val (.ref b28), .val (.ref b32), .val (.ref b36), .val (.ref b40), .val (.ref lst), .val (.ref b75), .unset] [(.int fn)])) _
            refine XS.ifNo LS7.here hx rfl (hb hby at_405) rfl ((if0 _ _).trans (feq c2).1) ?_
            show Steps p.tables e below (T901.setTop (mkF m 408 #[.val (.int p1), .val (.int p2), .val (.int p3), .val (.int d), .val (.int lv), .val (.int fn), .val (.int sb0), .val (.int sb1), .val (.int sb2), .val (.int t0), .val (.int t1), .val (.int t2), .val (.ref b24), .val (.ref b28), .val (.ref b32), .val (.ref b36), .val (.ref b40), .val (.ref lst), .val (.ref b75), .unset] [])) _
            refine XS.iloadN LS7.here hx rfl (hb hby at_408) rfl ?_
            show Steps p.tables e below (T901.setTop (mkF m 409 #[.val (.int p1), .val (.int p2), .val (.int p3), .val (.int d), .val (.int lv), .val (.int fn), .val (.int sb0), .val (.int sb1), .val (.int sb2), .val (.int t0), .val (.int t1), .val (.int t2), .val (.ref b24), .val (.ref b28), .val (.ref b32), .val (.ref b36), .val (.ref b40), .val (.ref lst), .val (.ref b75), .unset] [(.int p3)])) _
            refine XS.ifNo LS7.here hx rfl (hb hby at_409) rfl ((if0 _ _).trans (tlt c3).2.2.2) ?_
            show Steps p.tables e below (T901.setTop (mkF m 412 #[.val (.int p1), .val (.int p2), .val (.int p3), .val (.int d), .val (.int lv), .val (.int fn), .val (.int sb0), .val (.int sb1), .val (.int sb2), .val (.int t0), .val (.int t1), .val (.int t2), .val (.ref b24), .val (.ref b28), .val (.ref b32), .val (.ref b36), .val (.ref b40), .val (.ref lst), .val (.ref b75), .unset] [])) _
            refine XS.iconst LS7.here hx rfl (hb hby at_412) ?_
            show Steps p.tables e below (T901.setTop (mkF m 413 #[.val (.int p1), .val (.int p2), .val (.int p3), .val (.int d), .val (.int lv), .val (.int fn), .val (.int sb0), .val (.int sb1), .val (.int sb2), .val (.int t0), .val (.int t1), .val (.int t2), .val (.ref b24), .val (.ref b28), .val (.ref b32), .val (.ref b36), .val (.ref b40), .val (.ref lst), .val (.ref b75), .unset] [(.int (1 : Int32))])) _
            refine XS.goto LS7.here hx rfl (pc0 := 413) (pc' := 422) rfl (hb hby at_413) (by decide) (by decide) ?_
            show Steps p.tables e below (T901.setTop (mkF m 422 #[.val (.int p1), .val (.int p2), .val (.int p3), .val (.int d), .val (.int lv), .val (.int fn), .val (.int sb0), .val (.int sb1), .val (.int sb2), .val (.int t0), .val (.int t1), .val (.int t2), .val (.ref b24), .val (.ref b28), .val (.ref b32), .val (.ref b36), .val (.ref b40), .val (.ref lst), .val (.ref b75), .unset] [(.int (1 : Int32))])) _
            refine XS.istore LS7.here hx rfl (hb hby at_422) rfl (l' := #[.val (.int p1), .val (.int p2), .val (.int p3), .val (.int d), .val (.int lv), .val (.int fn), .val (.int sb0), .val (.int sb1), .val (.int sb2), .val (.int t0), .val (.int t1), .val (.int t2), .val (.ref b24), .val (.ref b28), .val (.ref b32), .val (.ref b36), .val (.ref b40), .val (.ref lst), .val (.ref b75), .val (.int (1 : Int32))]) rfl ?_
            exact k)
          rw [q]
          exact C905
        · have q : (own_ex d lv fn t0 t1 t2 p3) = 0 := (if_neg c).trans ((if_neg c2).trans (if_neg c3))
          have C906 : Go p e below T901 (mkF m 424 #[.val (.int p1), .val (.int p2), .val (.int p3), .val (.int d), .val (.int lv), .val (.int fn), .val (.int sb0), .val (.int sb1), .val (.int sb2), .val (.int t0), .val (.int t1), .val (.int t2), .val (.ref b24), .val (.ref b28), .val (.ref b32), .val (.ref b36), .val (.ref b40), .val (.ref lst), .val (.ref b75), .val (.int (0 : Int32))] []) s₁ F0 := fun t k => C901 t (by
            refine XS.iload LS7.here hx rfl (hb hby at_378) rfl ?_
            show Steps p.tables e below (T901.setTop (mkF m 380 #[.val (.int p1), .val (.int p2), .val (.int p3), .val (.int d), .val (.int lv), .val (.int fn), .val (.int sb0), .val (.int sb1), .val (.int sb2), .val (.int t0), .val (.int t1), .val (.int t2), .val (.ref b24), .val (.ref b28), .val (.ref b32), .val (.ref b36), .val (.ref b40), .val (.ref lst), .val (.ref b75), .unset] [(.int lv)])) _
            refine XS.iconst LS7.here hx rfl (hb hby at_380) ?_
            show Steps p.tables e below (T901.setTop (mkF m 381 #[.val (.int p1), .val (.int p2), .val (.int p3), .val (.int d), .val (.int lv), .val (.int fn), .val (.int sb0), .val (.int sb1), .val (.int sb2), .val (.int t0), .val (.int t1), .val (.int t2), .val (.ref b24), .val (.ref b28), .val (.ref b32), .val (.ref b36), .val (.ref b40), .val (.ref lst), .val (.ref b75), .unset] [(.int (1 : Int32)), (.int lv)])) _
            refine XS.iadd LS7.here hx rfl (hb hby at_381) rfl ?_
            show Steps p.tables e below (T901.setTop (mkF m 382 #[.val (.int p1), .val (.int p2), .val (.int p3), .val (.int d), .val (.int lv), .val (.int fn), .val (.int sb0), .val (.int sb1), .val (.int sb2), .val (.int t0), .val (.int t1), .val (.int t2), .val (.ref b24), .val (.ref b28), .val (.ref b32), .val (.ref b36), .val (.ref b40), .val (.ref lst), .val (.ref b75), .unset] [(.int (lv + (1 : Int32)))])) _
            refine XS.iloadN LS7.here hx rfl (hb hby at_382) rfl ?_
            show Steps p.tables e below (T901.setTop (mkF m 383 #[.val (.int p1), .val (.int p2), .val (.int p3), .val (.int d), .val (.int lv), .val (.int fn), .val (.int sb0), .val (.int sb1), .val (.int sb2), .val (.int t0), .val (.int t1), .val (.int t2), .val (.ref b24), .val (.ref b28), .val (.ref b32), .val (.ref b36), .val (.ref b40), .val (.ref lst), .val (.ref b75), .unset] [(.int d), (.int (lv + (1 : Int32)))])) _
            refine XS.icmpYes LS7.here hx rfl (pc0 := 383) (pc' := 403) rfl (hb hby at_383) rfl (flt c).2.1 (by decide) (by decide) ?_
            show Steps p.tables e below (T901.setTop (mkF m 403 #[.val (.int p1), .val (.int p2), .val (.int p3), .val (.int d), .val (.int lv), .val (.int fn), .val (.int sb0), .val (.int sb1), .val (.int sb2), .val (.int t0), .val (.int t1), .val (.int t2), .val (.ref b24), .val (.ref b28), .val (.ref b32), .val (.ref b36), .val (.ref b40), .val (.ref lst), .val (.ref b75), .unset] [])) _
            refine XS.iload LS7.here hx rfl (hb hby at_403) rfl ?_
            show Steps p.tables e below (T901.setTop (mkF m 405 #[.val (.int p1), .val (.int p2), .val (.int p3), .val (.int d), .val (.int lv), .val (.int fn), .val (.int sb0), .val (.int sb1), .val (.int sb2), .val (.int t0), .val (.int t1), .val (.int t2), .val (.ref b24), .val (.ref b28), .val (.ref b32), .val (.ref b36), .val (.ref b40), .val (.ref lst), .val (.ref b75), .unset] [(.int fn)])) _
            refine XS.ifNo LS7.here hx rfl (hb hby at_405) rfl ((if0 _ _).trans (feq c2).1) ?_
            show Steps p.tables e below (T901.setTop (mkF m 408 #[.val (.int p1), .val (.int p2), .val (.int p3), .val (.int d), .val (.int lv), .val (.int fn), .val (.int sb0), .val (.int sb1), .val (.int sb2), .val (.int t0), .val (.int t1), .val (.int t2), .val (.ref b24), .val (.ref b28), .val (.ref b32), .val (.ref b36), .val (.ref b40), .val (.ref lst), .val (.ref b75), .unset] [])) _
            refine XS.iloadN LS7.here hx rfl (hb hby at_408) rfl ?_
            show Steps p.tables e below (T901.setTop (mkF m 409 #[.val (.int p1), .val (.int p2), .val (.int p3), .val (.int d), .val (.int lv), .val (.int fn), .val (.int sb0), .val (.int sb1), .val (.int sb2), .val (.int t0), .val (.int t1), .val (.int t2), .val (.ref b24), .val (.ref b28), .val (.ref b32), .val (.ref b36), .val (.ref b40), .val (.ref lst), .val (.ref b75), .unset] [(.int p3)])) _
            refine XS.ifYes LS7.here hx rfl (pc0 := 409) (pc' := 416) rfl (hb hby at_409) rfl ((if0 _ _).trans (flt c3).2.2.2) (by decide) (by decide) ?_
            show Steps p.tables e below (T901.setTop (mkF m 416 #[.val (.int p1), .val (.int p2), .val (.int p3), .val (.int d), .val (.int lv), .val (.int fn), .val (.int sb0), .val (.int sb1), .val (.int sb2), .val (.int t0), .val (.int t1), .val (.int t2), .val (.ref b24), .val (.ref b28), .val (.ref b32), .val (.ref b36), .val (.ref b40), .val (.ref lst), .val (.ref b75), .unset] [])) _
            refine XS.iconst LS7.here hx rfl (hb hby at_416) ?_
            show Steps p.tables e below (T901.setTop (mkF m 417 #[.val (.int p1), .val (.int p2), .val (.int p3), .val (.int d), .val (.int lv), .val (.int fn), .val (.int sb0), .val (.int sb1), .val (.int sb2), .val (.int t0), .val (.int t1), .val (.int t2), .val (.ref b24), .val (.ref b28), .val (.ref b32), .val (.ref b36), .val (.ref b40), .val (.ref lst), .val (.ref b75), .unset] [(.int (0 : Int32))])) _
            refine XS.goto LS7.here hx rfl (pc0 := 417) (pc' := 422) rfl (hb hby at_417) (by decide) (by decide) ?_
            show Steps p.tables e below (T901.setTop (mkF m 422 #[.val (.int p1), .val (.int p2), .val (.int p3), .val (.int d), .val (.int lv), .val (.int fn), .val (.int sb0), .val (.int sb1), .val (.int sb2), .val (.int t0), .val (.int t1), .val (.int t2), .val (.ref b24), .val (.ref b28), .val (.ref b32), .val (.ref b36), .val (.ref b40), .val (.ref lst), .val (.ref b75), .unset] [(.int (0 : Int32))])) _
            refine XS.istore LS7.here hx rfl (hb hby at_422) rfl (l' := #[.val (.int p1), .val (.int p2), .val (.int p3), .val (.int d), .val (.int lv), .val (.int fn), .val (.int sb0), .val (.int sb1), .val (.int sb2), .val (.int t0), .val (.int t1), .val (.int t2), .val (.ref b24), .val (.ref b28), .val (.ref b32), .val (.ref b36), .val (.ref b40), .val (.ref lst), .val (.ref b75), .val (.int (0 : Int32))]) rfl ?_
            exact k)
          rw [q]
          exact C906
  have C907 : Go p e below T901 (mkF m 428 #[.val (.int p1), .val (.int p2), .val (.int p3), .val (.int d), .val (.int lv), .val (.int fn), .val (.int sb0), .val (.int sb1), .val (.int sb2), .val (.int t0), .val (.int t1), .val (.int t2), .val (.ref b24), .val (.ref b28), .val (.ref b32), .val (.ref b36), .val (.ref b40), .val (.ref lst), .val (.ref b75), .val (.int (own_ex d lv fn t0 t1 t2 p3))] [(.int lv), (.ref b75)]) s₁ F0 := fun t k => CX t (by
    refine XS.aload LS7.here hx rfl (hb hby at_424) rfl rfl ?_
    show Steps p.tables e below (T901.setTop (mkF m 426 #[.val (.int p1), .val (.int p2), .val (.int p3), .val (.int d), .val (.int lv), .val (.int fn), .val (.int sb0), .val (.int sb1), .val (.int sb2), .val (.int t0), .val (.int t1), .val (.int t2), .val (.ref b24), .val (.ref b28), .val (.ref b32), .val (.ref b36), .val (.ref b40), .val (.ref lst), .val (.ref b75), .val (.int (own_ex d lv fn t0 t1 t2 p3))] [(.ref b75)])) _
    refine XS.iload LS7.here hx rfl (hb hby at_426) rfl ?_
    exact k)
  have Z8 : n0 ≤ h901.size := Nat.le_trans gd (Nat.le_of_lt Ed901.lt)
  have hr0 := ref_cases D0_901.2.2.2
  have hr1 := ref_cases D1_901.2.2.2
  have hr2 := ref_cases D2_901.2.2.2
  obtain ⟨TS9, lS9, LS9, NS9, CS9⟩ : ∃ (T' : State) (ls : List Loc), Stand p l e room_1 s m #[(.int p1), (.int p2), (.int p3)] below meth c T' ls 7 93 ∧ Fr n0 ls ∧ Go p e below T' (mkF m 431 #[.val (.int p1), .val (.int p2), .val (.int p3), .val (.int d), .val (.int lv), .val (.int fn), .val (.int sb0), .val (.int sb1), .val (.int sb2), .val (.int t0), .val (.int t1), .val (.int t2), .val (.ref b24), .val (.ref b28), .val (.ref b32), .val (.ref b36), .val (.ref b40), .val (.ref lst), .val (.ref b75), .val (.int (own_ex d lv fn t0 t1 t2 p3))] [(.int (own_ex d lv fn t0 t1 t2 p3))]) s₁ F0 := by
    by_cases c : lv + 1 < d
    · rcases hlv with cl | ⟨cl, cd⟩ | ⟨cl, cd⟩
      · have nd1 : ¬ d = 1 := fun z => by rw [cl, z] at c; exact absurd c (by decide)
        have q : own_is r0 b28 = (own_ex d lv fn t0 t1 t2 p3) := (own_is_rt (G0.1 nd1) ht0).trans ((if_pos c).trans (if_pos cl)).symm
        obtain ⟨cq908, kq908, q908a, q908b, q908c⟩ := isOf hZ e901 Ed901
        obtain ⟨_, _, ⟨T908, L908, k908, n908⟩, -, X908, ⟨Lc908, hQ908, l908, y908, z908⟩, st908⟩ := LS7.virtualBack hx (y := (⟨"com/example/rosewood/rosewood/Descent", "turnsRight", "(I)Z"⟩ : MethodName)) (z := (⟨"com/example/rosewood/rosewood/Descent", "turnsRight", "(I)Z"⟩ : MethodName)) hown (mvT hZ (hw _ (List.mem_of_getElem? (i := 42) rfl))) (mvT hZ (hw _ (List.mem_of_getElem? (i := 43) rfl))) (notFace_of_selects (args := #[]) (mvT hZ (hw _ (List.mem_of_getElem? (i := 45) rfl)))) (mvT hZ (hw _ (List.mem_of_getElem? (i := 45) rfl))) (mvT hZ (hw _ (List.mem_of_getElem? (i := 44) rfl))) (by decide) (backOf (W := 0) (rm5 l Z a0 hw [] b75 lv d pb b24 b28 b32 b24 b28 kp fv l0 r0 h901 n0 Z8 Fp901 Fdp901 Ffo901 Vq901 (by rw [cl]; decide) (by rw [cl]; decide) (by rw [cl]; rfl) D0_901 hr0 (Or.inl ⟨c, by rw [cl]; decide, by rw [cl]; decide, by rw [cl]; rfl⟩)) hZ (hw _ (List.mem_of_getElem? (i := 46) rfl)) (hw _ (List.mem_of_getElem? (i := 25) rfl)) (by decide) (by decide)) q908a q908c (g := (mkF m 428 #[.val (.int p1), .val (.int p2), .val (.int p3), .val (.int d), .val (.int lv), .val (.int fn), .val (.int sb0), .val (.int sb1), .val (.int sb2), .val (.int t0), .val (.int t1), .val (.int t2), .val (.ref b24), .val (.ref b28), .val (.ref b32), .val (.ref b36), .val (.ref b40), .val (.ref lst), .val (.ref b75), .val (.int (own_ex d lv fn t0 t1 t2 p3))] [(.int lv), (.ref b75)])) rfl (by rw [hml]; rfl) (Steps.refl _) (argsL := [(.int lv)]) (rest := []) (lenOf pd_5 rfl) rfl (by show 2 * 0 + _ ≤ _; exact Nat.le_of_eq rfl) (hb hby at_428) (fun _ _ => ⟨rfl, e901, (by decide : 7 + 0 ≤ _), (by decide : 93 + 0 ≤ _)⟩)
        dsimp only [Pt.U, Pt.locs, Pt.cells, Pt.slots] at X908 l908 y908 z908 st908 hQ908
        subst l908 y908 z908
        obtain ⟨rfl, N908q, eh908⟩ := hQ908
        have C908 : Go p e below T908 (mkF m 431 #[.val (.int p1), .val (.int p2), .val (.int p3), .val (.int d), .val (.int lv), .val (.int fn), .val (.int sb0), .val (.int sb1), .val (.int sb2), .val (.int t0), .val (.int t1), .val (.int t2), .val (.ref b24), .val (.ref b28), .val (.ref b32), .val (.ref b36), .val (.ref b40), .val (.ref lst), .val (.ref b75), .val (.int (own_ex d lv fn t0 t1 t2 p3))] [(.int (own_is r0 b28))]) s₁ F0 := fun t k => C907 t (st908.trans k)
        have zz := C908
        rw [q] at zz
        exact ⟨_, _, X908, Fr.app N901 N908q, zz⟩
      · have d3 : d = 3 := by
          rcases hd with z | z | z
          · exact absurd z cd
          · rw [cl, z] at c; exact absurd c (by decide)
          · exact z
        have q : own_is r1 b32 = (own_ex d lv fn t0 t1 t2 p3) := (own_is_rt (G1.1 d3) ht1).trans ((if_pos c).trans (if_neg (by rw [cl]; decide))).symm
        obtain ⟨cq909, kq909, q909a, q909b, q909c⟩ := isOf hZ e901 Ed901
        obtain ⟨_, _, ⟨T909, L909, k909, n909⟩, -, X909, ⟨Lc909, hQ909, l909, y909, z909⟩, st909⟩ := LS7.virtualBack hx (y := (⟨"com/example/rosewood/rosewood/Descent", "turnsRight", "(I)Z"⟩ : MethodName)) (z := (⟨"com/example/rosewood/rosewood/Descent", "turnsRight", "(I)Z"⟩ : MethodName)) hown (mvT hZ (hw _ (List.mem_of_getElem? (i := 42) rfl))) (mvT hZ (hw _ (List.mem_of_getElem? (i := 43) rfl))) (notFace_of_selects (args := #[]) (mvT hZ (hw _ (List.mem_of_getElem? (i := 45) rfl)))) (mvT hZ (hw _ (List.mem_of_getElem? (i := 45) rfl))) (mvT hZ (hw _ (List.mem_of_getElem? (i := 44) rfl))) (by decide) (backOf (W := 0) (rm5 l Z a0 hw [] b75 lv d pb b24 b28 b32 b28 b32 kp fv l1 r1 h901 n0 Z8 Fp901 Fdp901 Ffo901 Vq901 (by rw [cl]; decide) (by rw [cl]; decide) (by rw [cl]; rfl) D1_901 hr1 (Or.inl ⟨c, by rw [cl]; decide, by rw [cl]; decide, by rw [cl]; rfl⟩)) hZ (hw _ (List.mem_of_getElem? (i := 46) rfl)) (hw _ (List.mem_of_getElem? (i := 25) rfl)) (by decide) (by decide)) q909a q909c (g := (mkF m 428 #[.val (.int p1), .val (.int p2), .val (.int p3), .val (.int d), .val (.int lv), .val (.int fn), .val (.int sb0), .val (.int sb1), .val (.int sb2), .val (.int t0), .val (.int t1), .val (.int t2), .val (.ref b24), .val (.ref b28), .val (.ref b32), .val (.ref b36), .val (.ref b40), .val (.ref lst), .val (.ref b75), .val (.int (own_ex d lv fn t0 t1 t2 p3))] [(.int lv), (.ref b75)])) rfl (by rw [hml]; rfl) (Steps.refl _) (argsL := [(.int lv)]) (rest := []) (lenOf pd_5 rfl) rfl (by show 2 * 0 + _ ≤ _; exact Nat.le_of_eq rfl) (hb hby at_428) (fun _ _ => ⟨rfl, e901, (by decide : 7 + 0 ≤ _), (by decide : 93 + 0 ≤ _)⟩)
        dsimp only [Pt.U, Pt.locs, Pt.cells, Pt.slots] at X909 l909 y909 z909 st909 hQ909
        subst l909 y909 z909
        obtain ⟨rfl, N909q, eh909⟩ := hQ909
        have C909 : Go p e below T909 (mkF m 431 #[.val (.int p1), .val (.int p2), .val (.int p3), .val (.int d), .val (.int lv), .val (.int fn), .val (.int sb0), .val (.int sb1), .val (.int sb2), .val (.int t0), .val (.int t1), .val (.int t2), .val (.ref b24), .val (.ref b28), .val (.ref b32), .val (.ref b36), .val (.ref b40), .val (.ref lst), .val (.ref b75), .val (.int (own_ex d lv fn t0 t1 t2 p3))] [(.int (own_is r1 b32))]) s₁ F0 := fun t k => C907 t (st909.trans k)
        have zz := C909
        rw [q] at zz
        exact ⟨_, _, X909, Fr.app N901 N909q, zz⟩
      · rw [cl, cd] at c; exact absurd c (by decide)
    · rcases hfv with ⟨cf, ef⟩ | ⟨cf, ef⟩
      · rcases hlv with cl | ⟨cl, cd⟩ | ⟨cl, cd⟩
        · have d1 : d = 1 := by
            rcases hd with z | z | z
            · exact z
            · rw [cl, z] at c; exact absurd (by decide) c
            · rw [cl, z] at c; exact absurd (by decide) c
          have q : own_is r0 b36 = (own_ex d lv fn t0 t1 t2 p3) := (own_is_rt (G0.2 d1 cf) ht2).trans ((if_neg c).trans (if_pos cf)).symm
          obtain ⟨cq910, kq910, q910a, q910b, q910c⟩ := isOf hZ e901 Ed901
          obtain ⟨_, _, ⟨T910, L910, k910, n910⟩, -, X910, ⟨Lc910, hQ910, l910, y910, z910⟩, st910⟩ := LS7.virtualBack hx (y := (⟨"com/example/rosewood/rosewood/Descent", "turnsRight", "(I)Z"⟩ : MethodName)) (z := (⟨"com/example/rosewood/rosewood/Descent", "turnsRight", "(I)Z"⟩ : MethodName)) hown (mvT hZ (hw _ (List.mem_of_getElem? (i := 42) rfl))) (mvT hZ (hw _ (List.mem_of_getElem? (i := 43) rfl))) (notFace_of_selects (args := #[]) (mvT hZ (hw _ (List.mem_of_getElem? (i := 45) rfl)))) (mvT hZ (hw _ (List.mem_of_getElem? (i := 45) rfl))) (mvT hZ (hw _ (List.mem_of_getElem? (i := 44) rfl))) (by decide) (backOf (W := 0) (rm5 l Z a0 hw [] b75 lv d pb b24 b28 b32 b24 b36 kp fv l0 r0 h901 n0 Z8 Fp901 Fdp901 Ffo901 Vq901 (by rw [cl]; decide) (by rw [cl]; decide) (by rw [cl]; rfl) D0_901 hr0 (Or.inr ⟨c, ef⟩)) hZ (hw _ (List.mem_of_getElem? (i := 46) rfl)) (hw _ (List.mem_of_getElem? (i := 25) rfl)) (by decide) (by decide)) q910a q910c (g := (mkF m 428 #[.val (.int p1), .val (.int p2), .val (.int p3), .val (.int d), .val (.int lv), .val (.int fn), .val (.int sb0), .val (.int sb1), .val (.int sb2), .val (.int t0), .val (.int t1), .val (.int t2), .val (.ref b24), .val (.ref b28), .val (.ref b32), .val (.ref b36), .val (.ref b40), .val (.ref lst), .val (.ref b75), .val (.int (own_ex d lv fn t0 t1 t2 p3))] [(.int lv), (.ref b75)])) rfl (by rw [hml]; rfl) (Steps.refl _) (argsL := [(.int lv)]) (rest := []) (lenOf pd_5 rfl) rfl (by show 2 * 0 + _ ≤ _; exact Nat.le_of_eq rfl) (hb hby at_428) (fun _ _ => ⟨rfl, e901, (by decide : 7 + 0 ≤ _), (by decide : 93 + 0 ≤ _)⟩)
          dsimp only [Pt.U, Pt.locs, Pt.cells, Pt.slots] at X910 l910 y910 z910 st910 hQ910
          subst l910 y910 z910
          obtain ⟨rfl, N910q, eh910⟩ := hQ910
          have C910 : Go p e below T910 (mkF m 431 #[.val (.int p1), .val (.int p2), .val (.int p3), .val (.int d), .val (.int lv), .val (.int fn), .val (.int sb0), .val (.int sb1), .val (.int sb2), .val (.int t0), .val (.int t1), .val (.int t2), .val (.ref b24), .val (.ref b28), .val (.ref b32), .val (.ref b36), .val (.ref b40), .val (.ref lst), .val (.ref b75), .val (.int (own_ex d lv fn t0 t1 t2 p3))] [(.int (own_is r0 b36))]) s₁ F0 := fun t k => C907 t (st910.trans k)
          have zz := C910
          rw [q] at zz
          exact ⟨_, _, X910, Fr.app N901 N910q, zz⟩
        · have d2 : d = 2 := by
            rcases hd with z | z | z
            · exact absurd z cd
            · exact z
            · rw [cl, z] at c; exact absurd (by decide) c
          have q : own_is r1 b36 = (own_ex d lv fn t0 t1 t2 p3) := (own_is_rt (G1.2 d2 cf) ht2).trans ((if_neg c).trans (if_pos cf)).symm
          obtain ⟨cq911, kq911, q911a, q911b, q911c⟩ := isOf hZ e901 Ed901
          obtain ⟨_, _, ⟨T911, L911, k911, n911⟩, -, X911, ⟨Lc911, hQ911, l911, y911, z911⟩, st911⟩ := LS7.virtualBack hx (y := (⟨"com/example/rosewood/rosewood/Descent", "turnsRight", "(I)Z"⟩ : MethodName)) (z := (⟨"com/example/rosewood/rosewood/Descent", "turnsRight", "(I)Z"⟩ : MethodName)) hown (mvT hZ (hw _ (List.mem_of_getElem? (i := 42) rfl))) (mvT hZ (hw _ (List.mem_of_getElem? (i := 43) rfl))) (notFace_of_selects (args := #[]) (mvT hZ (hw _ (List.mem_of_getElem? (i := 45) rfl)))) (mvT hZ (hw _ (List.mem_of_getElem? (i := 45) rfl))) (mvT hZ (hw _ (List.mem_of_getElem? (i := 44) rfl))) (by decide) (backOf (W := 0) (rm5 l Z a0 hw [] b75 lv d pb b24 b28 b32 b28 b36 kp fv l1 r1 h901 n0 Z8 Fp901 Fdp901 Ffo901 Vq901 (by rw [cl]; decide) (by rw [cl]; decide) (by rw [cl]; rfl) D1_901 hr1 (Or.inr ⟨c, ef⟩)) hZ (hw _ (List.mem_of_getElem? (i := 46) rfl)) (hw _ (List.mem_of_getElem? (i := 25) rfl)) (by decide) (by decide)) q911a q911c (g := (mkF m 428 #[.val (.int p1), .val (.int p2), .val (.int p3), .val (.int d), .val (.int lv), .val (.int fn), .val (.int sb0), .val (.int sb1), .val (.int sb2), .val (.int t0), .val (.int t1), .val (.int t2), .val (.ref b24), .val (.ref b28), .val (.ref b32), .val (.ref b36), .val (.ref b40), .val (.ref lst), .val (.ref b75), .val (.int (own_ex d lv fn t0 t1 t2 p3))] [(.int lv), (.ref b75)])) rfl (by rw [hml]; rfl) (Steps.refl _) (argsL := [(.int lv)]) (rest := []) (lenOf pd_5 rfl) rfl (by show 2 * 0 + _ ≤ _; exact Nat.le_of_eq rfl) (hb hby at_428) (fun _ _ => ⟨rfl, e901, (by decide : 7 + 0 ≤ _), (by decide : 93 + 0 ≤ _)⟩)
          dsimp only [Pt.U, Pt.locs, Pt.cells, Pt.slots] at X911 l911 y911 z911 st911 hQ911
          subst l911 y911 z911
          obtain ⟨rfl, N911q, eh911⟩ := hQ911
          have C911 : Go p e below T911 (mkF m 431 #[.val (.int p1), .val (.int p2), .val (.int p3), .val (.int d), .val (.int lv), .val (.int fn), .val (.int sb0), .val (.int sb1), .val (.int sb2), .val (.int t0), .val (.int t1), .val (.int t2), .val (.ref b24), .val (.ref b28), .val (.ref b32), .val (.ref b36), .val (.ref b40), .val (.ref lst), .val (.ref b75), .val (.int (own_ex d lv fn t0 t1 t2 p3))] [(.int (own_is r1 b36))]) s₁ F0 := fun t k => C907 t (st911.trans k)
          have zz := C911
          rw [q] at zz
          exact ⟨_, _, X911, Fr.app N901 N911q, zz⟩
        · skip
          have q : own_is r2 b36 = (own_ex d lv fn t0 t1 t2 p3) := (own_is_rt (G2 cd cf) ht2).trans ((if_neg c).trans (if_pos cf)).symm
          obtain ⟨cq912, kq912, q912a, q912b, q912c⟩ := isOf hZ e901 Ed901
          obtain ⟨_, _, ⟨T912, L912, k912, n912⟩, -, X912, ⟨Lc912, hQ912, l912, y912, z912⟩, st912⟩ := LS7.virtualBack hx (y := (⟨"com/example/rosewood/rosewood/Descent", "turnsRight", "(I)Z"⟩ : MethodName)) (z := (⟨"com/example/rosewood/rosewood/Descent", "turnsRight", "(I)Z"⟩ : MethodName)) hown (mvT hZ (hw _ (List.mem_of_getElem? (i := 42) rfl))) (mvT hZ (hw _ (List.mem_of_getElem? (i := 43) rfl))) (notFace_of_selects (args := #[]) (mvT hZ (hw _ (List.mem_of_getElem? (i := 45) rfl)))) (mvT hZ (hw _ (List.mem_of_getElem? (i := 45) rfl))) (mvT hZ (hw _ (List.mem_of_getElem? (i := 44) rfl))) (by decide) (backOf (W := 0) (rm5 l Z a0 hw [] b75 lv d pb b24 b28 b32 b32 b36 kp fv l2 r2 h901 n0 Z8 Fp901 Fdp901 Ffo901 Vq901 (by rw [cl]; decide) (by rw [cl]; decide) (by rw [cl]; rfl) D2_901 hr2 (Or.inr ⟨c, ef⟩)) hZ (hw _ (List.mem_of_getElem? (i := 46) rfl)) (hw _ (List.mem_of_getElem? (i := 25) rfl)) (by decide) (by decide)) q912a q912c (g := (mkF m 428 #[.val (.int p1), .val (.int p2), .val (.int p3), .val (.int d), .val (.int lv), .val (.int fn), .val (.int sb0), .val (.int sb1), .val (.int sb2), .val (.int t0), .val (.int t1), .val (.int t2), .val (.ref b24), .val (.ref b28), .val (.ref b32), .val (.ref b36), .val (.ref b40), .val (.ref lst), .val (.ref b75), .val (.int (own_ex d lv fn t0 t1 t2 p3))] [(.int lv), (.ref b75)])) rfl (by rw [hml]; rfl) (Steps.refl _) (argsL := [(.int lv)]) (rest := []) (lenOf pd_5 rfl) rfl (by show 2 * 0 + _ ≤ _; exact Nat.le_of_eq rfl) (hb hby at_428) (fun _ _ => ⟨rfl, e901, (by decide : 7 + 0 ≤ _), (by decide : 93 + 0 ≤ _)⟩)
          dsimp only [Pt.U, Pt.locs, Pt.cells, Pt.slots] at X912 l912 y912 z912 st912 hQ912
          subst l912 y912 z912
          obtain ⟨rfl, N912q, eh912⟩ := hQ912
          have C912 : Go p e below T912 (mkF m 431 #[.val (.int p1), .val (.int p2), .val (.int p3), .val (.int d), .val (.int lv), .val (.int fn), .val (.int sb0), .val (.int sb1), .val (.int sb2), .val (.int t0), .val (.int t1), .val (.int t2), .val (.ref b24), .val (.ref b28), .val (.ref b32), .val (.ref b36), .val (.ref b40), .val (.ref lst), .val (.ref b75), .val (.int (own_ex d lv fn t0 t1 t2 p3))] [(.int (own_is r2 b36))]) s₁ F0 := fun t k => C907 t (st912.trans k)
          have zz := C912
          rw [q] at zz
          exact ⟨_, _, X912, Fr.app N901 N912q, zz⟩
      · have q : (if 0 < p3 then (1 : Int32) else 0) = (own_ex d lv fn t0 t1 t2 p3) := ((if_neg c).trans (if_neg cf)).symm
        obtain ⟨cq913, kq913, q913a, q913b, q913c⟩ := isOf hZ e901 Ed901
        obtain ⟨_, _, ⟨T913, L913, k913, n913⟩, -, X913, ⟨Lc913, hQ913, l913, y913, z913⟩, st913⟩ := LS7.virtualBack hx (y := (⟨"com/example/rosewood/rosewood/Descent", "turnsRight", "(I)Z"⟩ : MethodName)) (z := (⟨"com/example/rosewood/rosewood/Descent", "turnsRight", "(I)Z"⟩ : MethodName)) hown (mvT hZ (hw _ (List.mem_of_getElem? (i := 42) rfl))) (mvT hZ (hw _ (List.mem_of_getElem? (i := 43) rfl))) (notFace_of_selects (args := #[]) (mvT hZ (hw _ (List.mem_of_getElem? (i := 45) rfl)))) (mvT hZ (hw _ (List.mem_of_getElem? (i := 45) rfl))) (mvT hZ (hw _ (List.mem_of_getElem? (i := 44) rfl))) (by decide) (backOf (W := 0) (rm5n l Z a0 hw [] b75 lv d p3 h901 n0 Z8 Fdp901 (ef ▸ Ffo901) Fsi901 c) hZ (hw _ (List.mem_of_getElem? (i := 46) rfl)) (hw _ (List.mem_of_getElem? (i := 25) rfl)) (by decide) (by decide)) q913a q913c (g := (mkF m 428 #[.val (.int p1), .val (.int p2), .val (.int p3), .val (.int d), .val (.int lv), .val (.int fn), .val (.int sb0), .val (.int sb1), .val (.int sb2), .val (.int t0), .val (.int t1), .val (.int t2), .val (.ref b24), .val (.ref b28), .val (.ref b32), .val (.ref b36), .val (.ref b40), .val (.ref lst), .val (.ref b75), .val (.int (own_ex d lv fn t0 t1 t2 p3))] [(.int lv), (.ref b75)])) rfl (by rw [hml]; rfl) (Steps.refl _) (argsL := [(.int lv)]) (rest := []) (lenOf pd_5 rfl) rfl (by show 2 * 0 + _ ≤ _; exact Nat.le_of_eq rfl) (hb hby at_428) (fun _ _ => ⟨rfl, e901, (by decide : 7 + 0 ≤ _), (by decide : 93 + 0 ≤ _)⟩)
        dsimp only [Pt.U, Pt.locs, Pt.cells, Pt.slots] at X913 l913 y913 z913 st913 hQ913
        subst l913 y913 z913
        obtain ⟨rfl, N913q, eh913⟩ := hQ913
        have C913 : Go p e below T913 (mkF m 431 #[.val (.int p1), .val (.int p2), .val (.int p3), .val (.int d), .val (.int lv), .val (.int fn), .val (.int sb0), .val (.int sb1), .val (.int sb2), .val (.int t0), .val (.int t1), .val (.int t2), .val (.ref b24), .val (.ref b28), .val (.ref b32), .val (.ref b36), .val (.ref b40), .val (.ref lst), .val (.ref b75), .val (.int (own_ex d lv fn t0 t1 t2 p3))] [(.int (if 0 < p3 then (1 : Int32) else 0))]) s₁ F0 := fun t k => C907 t (st913.trans k)
        have zz := C913
        rw [q] at zz
        exact ⟨_, _, X913, Fr.app N901 N913q, zz⟩
  have C914 : Go p e below TS9 (mkF m 441 #[.val (.int p1), .val (.int p2), .val (.int p3), .val (.int d), .val (.int lv), .val (.int fn), .val (.int sb0), .val (.int sb1), .val (.int sb2), .val (.int t0), .val (.int t1), .val (.int t2), .val (.ref b24), .val (.ref b28), .val (.ref b32), .val (.ref b36), .val (.ref b40), .val (.ref lst), .val (.ref b75), .val (.int (own_ex d lv fn t0 t1 t2 p3))] [(.int (1 : Int32))]) s₁ F0 := fun t k => CS9 t (by
    refine XS.iload LS9.here hx rfl (hb hby at_431) rfl ?_
    show Steps p.tables e below (TS9.setTop (mkF m 433 #[.val (.int p1), .val (.int p2), .val (.int p3), .val (.int d), .val (.int lv), .val (.int fn), .val (.int sb0), .val (.int sb1), .val (.int sb2), .val (.int t0), .val (.int t1), .val (.int t2), .val (.ref b24), .val (.ref b28), .val (.ref b32), .val (.ref b36), .val (.ref b40), .val (.ref lst), .val (.ref b75), .val (.int (own_ex d lv fn t0 t1 t2 p3))] [(.int (own_ex d lv fn t0 t1 t2 p3)), (.int (own_ex d lv fn t0 t1 t2 p3))])) _
    refine XS.icmpNo LS9.here hx rfl (hb hby at_433) rfl (teq rfl).2 ?_
    show Steps p.tables e below (TS9.setTop (mkF m 436 #[.val (.int p1), .val (.int p2), .val (.int p3), .val (.int d), .val (.int lv), .val (.int fn), .val (.int sb0), .val (.int sb1), .val (.int sb2), .val (.int t0), .val (.int t1), .val (.int t2), .val (.ref b24), .val (.ref b28), .val (.ref b32), .val (.ref b36), .val (.ref b40), .val (.ref lst), .val (.ref b75), .val (.int (own_ex d lv fn t0 t1 t2 p3))] [])) _
    refine XS.iconst LS9.here hx rfl (hb hby at_436) ?_
    show Steps p.tables e below (TS9.setTop (mkF m 437 #[.val (.int p1), .val (.int p2), .val (.int p3), .val (.int d), .val (.int lv), .val (.int fn), .val (.int sb0), .val (.int sb1), .val (.int sb2), .val (.int t0), .val (.int t1), .val (.int t2), .val (.ref b24), .val (.ref b28), .val (.ref b32), .val (.ref b36), .val (.ref b40), .val (.ref lst), .val (.ref b75), .val (.int (own_ex d lv fn t0 t1 t2 p3))] [(.int (1 : Int32))])) _
    refine XS.goto LS9.here hx rfl (pc0 := 437) (pc' := 441) rfl (hb hby at_437) (by decide) (by decide) ?_
    exact k)
  obtain ⟨fs, hr, hrun, hended, hW, hsame⟩ := LS9.leave (v := (some (.int (nar .boolean (1 : Int32))))) (fun h => by rw [Bd.returns] at h; cases h)
  refine ⟨_, _, pre0 _ (C914 _ ?_), hrun, hended, _, _, rfl, ?_, ⟨_, rfl⟩, hW, hsame.mono (by decide) (by decide)⟩
  · exact retN LS9 hx (t := .boolean) Bd.returns (by simp) (hb hby at_441) hr
  · show Q0 Z p1 p2 p3 h0 n0 _ TS9.heap _
    exact ⟨rfl, NS9⟩
set_option maxRecDepth 65536 in
set_option maxHeartbeats 40000000 in
theorem comes_1 {Post : Tables → Env → Array Value → State → Outcome → State → Prop} (hpost : ∀ tb e args s v u, (limb_1_1.after args s (.returned v) u = true ∧ limb_1_2.after args s (.returned v) u = true ∧ True) → FrameEnd s (.returned v) u (Jvm.fieldLocs frame_1_writes args s ++ Jvm.arrayLocs frame_1_arrays args s ++ Jvm.staticLocs frame_1_statics s) 24 256 → Post tb e args s (.returned v) u) :
    ArmFor flags0 classFile x code maxLocals ret World_1 tables_1 room_1 Calls_1 rest_1 Pre_1 Post := by
  intro l hfl _ _ p e ha hc hk s m args below hf hA hF happ hP
  obtain ⟨hcalls, hrest, hpre⟩ := hP
  obtain ⟨-, -, -, hnamed, -, -, -, hat⟩ := (Spec.applies_iff hf).mp happ
  obtain ⟨hg, hn⟩ := and_e (Cond.before_iff.mp (show (Jvm.Cond.and given_1 narrow_1).before args s = true from hpre))
  obtain ⟨h1, j0⟩ := and_e hg
  obtain ⟨i0, j1⟩ := and_e j0
  obtain ⟨i1, j2⟩ := and_e j1
  have i2 := j2
  obtain ⟨w0, w1, w2, rfl⟩ : ∃ w0 w1 w2 : Value, args = #[w0, w1, w2] := by
    have hs : args.size = 3 := by simpa [Cond.value, given_1] using h1
    obtain ⟨L⟩ := args
    match L, hs with
    | [w0, w1, w2], _ => exact ⟨w0, w1, w2, rfl⟩
  have hw := fun d (hd : d ∈ tables_1) => atoms_spec (ws := Jvm.Cond.code x code maxLocals ret :: tables_1) hat d (List.mem_cons_of_mem _ hd)
  obtain ⟨v0, e0⟩ := is_v i0
  obtain rfl : w0 = (.int v0) := Option.some.inj e0
  obtain ⟨v1, e1⟩ := is_v i1
  obtain rfl : w1 = (.int v1) := Option.some.inj e1
  obtain ⟨v2, e2⟩ := is_v i2
  obtain rfl : w2 = (.int v2) := Option.some.inj e2
  obtain ⟨n, o, h1, h2, h3, _, L, rfl, ⟨rfl, N⟩, hq⟩ := rm0 l s _ hw tables_1 v0 v1 v2 s.heap s.heap.size (Nat.le_refl _) p e ha hc hk s m _ below hf ((Spec.applies_iff_loose hf).mp happ).1 ⟨rfl, State.Warmed39.refl s, rfl⟩ trivial
  refine ⟨n, _, h1, h2, h3, hpost _ _ _ _ _ _ ⟨Cond.after_iff.mpr rfl, Cond.after_iff.mpr (eq_i res_at (Term.int_eval (1)) rfl), trivial⟩ ⟨hq.1, hq.2.1, (hq.2.2.sift fun y hy => Or.inr (N y hy)).mono (by decide) (by decide)⟩⟩
theorem main_1_1 : Claimed_1_1 := comes_1 fun _ _ _ _ _ _ h hF => ⟨h.1, hF⟩
theorem main_1_2 : Claimed_1_2 := comes_1 fun _ _ _ _ _ _ h hF => ⟨h.2.1, hF⟩
end Jvm.Pilot.@@N@@
namespace Jvm.Pilot.@@N@@
open Jvm Jvm.ClassFile Sem Op Lib Jvm.Free Jvm.Stand Jvm.Pilot.@@N@@.Jvm.D
/-! MADE BY PROGRAM (witnessworld.py) out of the Statement's table words and the real class files: 12 classes; the members and pool entries that the words name. The judged class is class 1, her method 2. -/
namespace start1
open Jvm.ClassFile
def u (s : String) : CpInfo := .utf8 (stringToUtf16 s)
/-- a pool by its gaps: so many unusable entries, then the entry; so many at the end -/
def gap : Nat → List CpInfo → List CpInfo
  | 0, r => r
  | n + 1, r => .unusable :: gap n r
def poolList (es : List (Nat × CpInfo)) (last : Nat) : List CpInfo := es.foldr (fun e r => gap e.1 (e.2 :: r)) (gap last [])
def pool (es : List (Nat × CpInfo)) (last : Nat) : Array CpInfo := ⟨poolList es last⟩
def fileOf (pool : Array CpInfo) (this : Nat) (attrs : Array Attribute := #[]) (ms : Array MethodInfo := #[]) (fl : Nat := 33) (sup : Nat := 0) (ifs : Array Nat := #[]) (fds : Array FieldInfo := #[]) : ClassFile where
  minorVersion := 0
  majorVersion := 65
  constantPool := pool
  accessFlags := fl
  thisClass := this
  superClass := sup
  interfaces := ifs
  fields := fds
  methods := ms
  attributes := attrs
def plain (name : String) (sup : Option ClassId) : Class where
  name := name
  kind := .ordinary
  loader := none
  accessFlags := 33
  super := sup
  interfaces := #[]
  cf := none
  fields := #[]
  methods := #[]
  instanceTypes := #[]
  staticTypes := #[]
  resolved := #[]
  callSites := []
  init := .initialized
  statics := none
  mirror := none

def pool0 : Array CpInfo := pool [(5, u "<init>"), (0, u "()V"), (1, .class_ 10), (1, u "java/lang/Object")] 113

def k0c0 : Code := { maxStack := 0, maxLocals := 1, code := object_method_1_code, exceptionTable := #[], attributes := #[] }
def k0m0 : Method := { name := "<init>", desc := "()V", sig := { parameters := [], returnType := none }, accessFlags := 1, code := some k0c0 }
/-- java/lang/Object -/
def k0 : Class := { plain "java/lang/Object" none with
  accessFlags := 33
  interfaces := #[]
  cf := some (fileOf pool0 8 #[] #[{ accessFlags := 1, nameIndex := 5, descriptorIndex := 6, attributes := #[] }] 33 0 #[] #[])
  fields := #[]
  methods := #[k0m0]
  instanceTypes := #[]
  staticTypes := #[]
  resolved := Array.replicate 124 none
  statics := none }

def pool1 : Array CpInfo := pool [(2, .class_ 4), (0, .nameAndType 5 6), (0, u "java/lang/Object"), (0, u "<init>"), (0, u "()V"), (0, .fieldref 8 9), (0, .class_ 10), (0, .nameAndType 11 12), (0, u "com/example/rosewood/rosewood/Node"), (0, u "right"), (0, u "Lcom/example/rosewood/rosewood/Node;"), (0, .fieldref 8 14), (0, .nameAndType 15 12), (0, u "left"), (0, .methodref 8 17), (0, .nameAndType 5 18), (0, u "(Ljava/lang/Object;Ljava/lang/Object;Z)V"), (0, .methodref 20 21), (0, .class_ 22), (0, .nameAndType 23 24), (0, u "com/example/rosewood/rosewood/DescentTurnsRightPinLaw"), (0, u "link"), (0, u "(Lcom/example/rosewood/rosewood/Node;Lcom/example/rosewood/rosewood/Node;ZZLcom/example/rosewood/rosewood/Node;)V"), (0, .class_ 26), (0, u "com/example/rosewood/rosewood/Descent"), (0, .methodref 25 3), (0, .fieldref 25 29), (0, .nameAndType 30 31), (0, u "path"), (0, u "[Lcom/example/rosewood/rosewood/Node;"), (0, .fieldref 25 33), (0, .nameAndType 34 35), (0, u "depth"), (0, u "I"), (0, .fieldref 25 37), (0, .nameAndType 38 12), (0, u "found"), (0, .fieldref 25 40), (0, .nameAndType 41 35), (0, u "side"), (0, .methodref 25 43), (0, .nameAndType 44 45), (0, u "turnsRight"), (0, u "(I)Z"), (5, u "law"), (0, u "(III)Z")] 2

def k1m0 : Method := { name := "<init>", desc := "()V", sig := { parameters := [], returnType := none }, accessFlags := 1, code := none }
def k1c1 : Code := { maxStack := 2, maxLocals := 5, code := method_2_code, exceptionTable := #[], attributes := #[] }
def k1m1 : Method := { name := "link", desc := "(Lcom/example/rosewood/rosewood/Node;Lcom/example/rosewood/rosewood/Node;ZZLcom/example/rosewood/rosewood/Node;)V", sig := { parameters := [(.object "com/example/rosewood/rosewood/Node"), (.object "com/example/rosewood/rosewood/Node"), .boolean, .boolean, (.object "com/example/rosewood/rosewood/Node")], returnType := none }, accessFlags := 10, code := some k1c1 }
def k1c2 : Code := { maxStack := 5, maxLocals := 20, code := code, exceptionTable := #[], attributes := #[] }
def k1m2 : Method := { name := "law", desc := "(III)Z", sig := { parameters := [.int, .int, .int], returnType := some .boolean }, accessFlags := 9, code := some k1c2 }
/-- com/example/rosewood/rosewood/DescentTurnsRightPinLaw -/
def k1 : Class := { plain "com/example/rosewood/rosewood/DescentTurnsRightPinLaw" (some 0) with
  accessFlags := 49
  interfaces := #[]
  cf := some (fileOf pool1 20 #[] #[{ accessFlags := 1, nameIndex := 5, descriptorIndex := 6, attributes := #[] }, { accessFlags := 10, nameIndex := 23, descriptorIndex := 24, attributes := #[] }, { accessFlags := 9, nameIndex := 51, descriptorIndex := 52, attributes := #[] }] 49 2 #[] #[])
  fields := #[]
  methods := #[k1m0, k1m1, k1m2]
  instanceTypes := #[]
  staticTypes := #[]
  resolved := Array.replicate 55 none
  statics := none }

def pool2 : Array CpInfo := pool [(23, .class_ 25), (1, u "java/util/Map$Entry"), (6, .class_ 34), (1, u "java/util/Map"), (34, .class_ 70), (0, u "java/lang/Object")] 107

/-- java/util/Map$Entry -/
def k2 : Class := { plain "java/util/Map$Entry" (some 0) with
  accessFlags := 1537
  interfaces := #[]
  cf := some (fileOf pool2 23 #[.nestHost 32] #[] 1537 69 #[] #[])
  fields := #[]
  methods := #[]
  instanceTypes := #[]
  staticTypes := #[]
  resolved := Array.replicate 178 none
  statics := none }

def pool3 : Array CpInfo := pool [(1, .class_ 2), (0, u "java/io/Serializable"), (0, .class_ 4), (0, u "java/lang/Object")] 2

/-- java/io/Serializable -/
def k3 : Class := { plain "java/io/Serializable" (some 0) with
  accessFlags := 1537
  interfaces := #[]
  cf := some (fileOf pool3 1 #[] #[] 1537 3 #[] #[])
  fields := #[]
  methods := #[]
  instanceTypes := #[]
  staticTypes := #[]
  resolved := Array.replicate 7 none
  statics := none }

def pool4 : Array CpInfo := pool [(1, .methodref 2 3), (0, .class_ 4), (0, .nameAndType 5 6), (0, u "java/lang/Object"), (0, u "<init>"), (0, u "()V"), (0, .fieldref 8 9), (0, .class_ 10), (0, .nameAndType 11 12), (0, u "com/example/rosewood/rosewood/Node"), (0, u "key"), (0, u "Ljava/lang/Object;"), (0, .fieldref 8 14), (0, .nameAndType 15 12), (0, u "value"), (0, .fieldref 8 17), (0, .nameAndType 18 19), (0, u "red"), (0, u "Z"), (2, u "left"), (0, u "Lcom/example/rosewood/rosewood/Node;"), (2, u "right"), (0, .class_ 28), (0, u "java/util/Map$Entry"), (47, u "OPEN_TREE"), (0, u "Ljava/lang/ThreadLocal;"), (33, .class_ 112), (0, u "java/io/Serializable"), (0, u "MAX_HEIGHT"), (0, u "I"), (2, u "serialVersionUID"), (0, u "J"), (7, u "(Ljava/lang/Object;Ljava/lang/Object;Z)V")] 51

def k4c0 : Code := { maxStack := 2, maxLocals := 4, code := prog_6_method_1_code, exceptionTable := #[], attributes := #[] }
def k4m0 : Method := { name := "<init>", desc := "(Ljava/lang/Object;Ljava/lang/Object;Z)V", sig := { parameters := [(.object "java/lang/Object"), (.object "java/lang/Object"), .boolean], returnType := none }, accessFlags := 0, code := some k4c0 }
/-- com/example/rosewood/rosewood/Node -/
def k4 : Class := { plain "com/example/rosewood/rosewood/Node" (some 0) with
  accessFlags := 48
  interfaces := #[2, 3]
  cf := some (fileOf pool4 8 #[] #[{ accessFlags := 0, nameIndex := 5, descriptorIndex := 126, attributes := #[] }] 48 2 #[27, 111] #[{ accessFlags := 24, nameIndex := 113, descriptorIndex := 114, attributes := #[] }, { accessFlags := 26, nameIndex := 117, descriptorIndex := 118, attributes := #[] }, { accessFlags := 26, nameIndex := 76, descriptorIndex := 77, attributes := #[] }, { accessFlags := 0, nameIndex := 11, descriptorIndex := 12, attributes := #[] }, { accessFlags := 0, nameIndex := 15, descriptorIndex := 12, attributes := #[] }, { accessFlags := 0, nameIndex := 22, descriptorIndex := 23, attributes := #[] }, { accessFlags := 0, nameIndex := 26, descriptorIndex := 23, attributes := #[] }, { accessFlags := 0, nameIndex := 18, descriptorIndex := 19, attributes := #[] }])
  fields := #[{ name := "MAX_HEIGHT", type := .int, accessFlags := 24, slot := 0, constantValue := 0 }, { name := "serialVersionUID", type := .long, accessFlags := 26, slot := 1, constantValue := 0 }, { name := "OPEN_TREE", type := (.object "java/lang/ThreadLocal"), accessFlags := 26, slot := 2, constantValue := 0 }, { name := "key", type := (.object "java/lang/Object"), accessFlags := 0, slot := 0, constantValue := 0 }, { name := "value", type := (.object "java/lang/Object"), accessFlags := 0, slot := 1, constantValue := 0 }, { name := "left", type := (.object "com/example/rosewood/rosewood/Node"), accessFlags := 0, slot := 2, constantValue := 0 }, { name := "right", type := (.object "com/example/rosewood/rosewood/Node"), accessFlags := 0, slot := 3, constantValue := 0 }, { name := "red", type := .boolean, accessFlags := 0, slot := 4, constantValue := 0 }]
  methods := #[k4m0]
  instanceTypes := #[(.object "java/lang/Object"), (.object "java/lang/Object"), (.object "com/example/rosewood/rosewood/Node"), (.object "com/example/rosewood/rosewood/Node"), .boolean]
  staticTypes := #[.int, .long, (.object "java/lang/ThreadLocal")]
  resolved := Array.replicate 178 none
  statics := none }

def pool5 : Array CpInfo := pool [(1, .methodref 2 3), (0, .class_ 4), (0, .nameAndType 5 6), (0, u "java/lang/Object"), (0, u "<init>"), (0, u "()V"), (0, .class_ 8), (0, u "com/example/rosewood/rosewood/Descent"), (0, .class_ 10), (0, u "com/example/rosewood/rosewood/Node"), (0, .fieldref 7 12), (0, .nameAndType 13 14), (0, u "path"), (0, u "[Lcom/example/rosewood/rosewood/Node;"), (4, .fieldref 7 20), (0, .nameAndType 21 22), (0, u "depth"), (0, u "I"), (0, .fieldref 7 24), (0, .nameAndType 25 26), (0, u "found"), (0, u "Lcom/example/rosewood/rosewood/Node;"), (4, .fieldref 7 32), (0, .nameAndType 33 22), (0, u "side"), (4, .fieldref 9 39), (0, .nameAndType 40 26), (0, u "right"), (3, u "MAX_PATH"), (13, u "turnsRight"), (0, u "(I)Z")] 4

def k5c0 : Code := { maxStack := 2, maxLocals := 1, code := prog_3_method_1_code, exceptionTable := #[], attributes := #[] }
def k5m0 : Method := { name := "<init>", desc := "()V", sig := { parameters := [], returnType := none }, accessFlags := 0, code := some k5c0 }
def k5c1 : Code := { maxStack := 3, maxLocals := 3, code := prog_3_method_6_code, exceptionTable := #[], attributes := #[] }
def k5m1 : Method := { name := "turnsRight", desc := "(I)Z", sig := { parameters := [.int], returnType := some .boolean }, accessFlags := 0, code := some k5c1 }
/-- com/example/rosewood/rosewood/Descent -/
def k5 : Class := { plain "com/example/rosewood/rosewood/Descent" (some 0) with
  accessFlags := 48
  interfaces := #[]
  cf := some (fileOf pool5 7 #[] #[{ accessFlags := 0, nameIndex := 5, descriptorIndex := 6, attributes := #[] }, { accessFlags := 0, nameIndex := 58, descriptorIndex := 59, attributes := #[] }] 48 2 #[] #[{ accessFlags := 26, nameIndex := 44, descriptorIndex := 22, attributes := #[] }, { accessFlags := 16, nameIndex := 13, descriptorIndex := 14, attributes := #[] }, { accessFlags := 0, nameIndex := 21, descriptorIndex := 22, attributes := #[] }, { accessFlags := 0, nameIndex := 25, descriptorIndex := 26, attributes := #[] }, { accessFlags := 0, nameIndex := 33, descriptorIndex := 22, attributes := #[] }])
  fields := #[{ name := "MAX_PATH", type := .int, accessFlags := 26, slot := 0, constantValue := 0 }, { name := "path", type := (.array (.object "com/example/rosewood/rosewood/Node")), accessFlags := 16, slot := 0, constantValue := 0 }, { name := "depth", type := .int, accessFlags := 0, slot := 1, constantValue := 0 }, { name := "found", type := (.object "com/example/rosewood/rosewood/Node"), accessFlags := 0, slot := 2, constantValue := 0 }, { name := "side", type := .int, accessFlags := 0, slot := 3, constantValue := 0 }]
  methods := #[k5m0, k5m1]
  instanceTypes := #[(.array (.object "com/example/rosewood/rosewood/Node")), .int, (.object "com/example/rosewood/rosewood/Node"), .int]
  staticTypes := #[.int]
  resolved := Array.replicate 64 none
  statics := none }

def pool6 : Array CpInfo := pool [(1, u "java/lang/Cloneable"), (0, .class_ 1), (0, u "java/lang/Object"), (0, .class_ 3)] 3

/-- java/lang/Cloneable -/
def k6 : Class := { plain "java/lang/Cloneable" (some 0) with
  accessFlags := 1537
  interfaces := #[]
  cf := some (fileOf pool6 2 #[] #[] 1537 4 #[] #[])
  fields := #[]
  methods := #[]
  instanceTypes := #[]
  staticTypes := #[]
  resolved := Array.replicate 8 none
  statics := none }

/-- the primitive byte -/
def k7 : Class := { plain "byte" none with kind := .primitive 'B', accessFlags := 0x411 }
/-- [B -/
def k8 : Class := { plain "[B" (some 0) with kind := .array 7 .byte, interfaces := #[6, 3], accessFlags := 1041 }

/-- the primitive int -/
def k9 : Class := { plain "int" none with kind := .primitive 'I', accessFlags := 0x411 }
/-- [I -/
def k10 : Class := { plain "[I" (some 0) with kind := .array 9 .int, interfaces := #[6, 3], accessFlags := 1041 }

/-- [Lcom/example/rosewood/rosewood/Node; -/
def k11 : Class := { plain "[Lcom/example/rosewood/rosewood/Node;" (some 0) with kind := .array 4 (.object "com/example/rosewood/rosewood/Node"), interfaces := #[6, 3], accessFlags := 1041 }

def heap : Heap := #[]
def classes : Array Class := #[k0, k1, k2, k3, k4, k5, k6, k7, k8, k9, k10, k11]
def interned : List (Array UInt16 × Addr) := []
def slotsUsed : Nat := 0
def theMethod : MethodId := ⟨1, 2⟩
def args0 : Array Value := #[.int 5, .int 6, .int 1]
def aboutOver (below : List Frame) : State where
  vm := { classes := classes, interned := interned.toArray }
  heap := heap
  slotsUsed := slotsUsed
  threads := #[{ frames := .invoking theMethod args0 :: below }]
def below0 : List Frame := [.native { method := ⟨0, 0⟩, args := #[] }]
def about1 : State := aboutOver below0
def p0 : Program := .bare "" "" ""
def e0 : Env := launch0.env 0 0 0
theorem w_frames : about1.frames = Frame.invoking theMethod args0 :: below0 := rfl
set_option maxRecDepth 65536 in
theorem w_args : argsFit about1.vm theMethod args0 = true := by decide +kernel
set_option maxRecDepth 65536 in
theorem w_heap : heapFits about1 = true := by decide +kernel
set_option maxRecDepth 65536 in
theorem w_runnable : about1.curStatus? = some .runnable := by decide +kernel
set_option maxRecDepth 65536 in
theorem w_alone : about1.alone = true := by decide +kernel
set_option maxRecDepth 65536 in
theorem w_named : about1.methodNamed? x = some theMethod := by decide +kernel
set_option maxRecDepth 65536 in
theorem w_hears : about1.hears theMethod below0 = true := by decide +kernel
set_option maxRecDepth 65536 in
theorem w_ripe : about1.ripe theMethod args0 below0 = true := by decide +kernel
theorem w_running : about1.status = .running := rfl
set_option maxRecDepth 65536 in
theorem w_room : about1.hasRoom e0.platform room_1 = true :=
  launch0.hasRoom_least _ room_1 (by decide +kernel) (by decide +kernel) (by decide +kernel) (by decide +kernel) (by decide +kernel) (by decide +kernel)
theorem allAtoms_all (ts : List Jvm.Cond) (a : Array Jvm.Value) (st : Jvm.State) : (allAtoms ts).before a st = ts.all (fun c => c.before a st) := by
  induction ts with
  | nil => rfl
  | cons c t ih =>
    show (Jvm.Cond.and c (allAtoms t)).before a st = _
    rw [Jvm.Cond.before_and, ih, List.all_cons]
def words1 : List Jvm.Cond := Jvm.Cond.code x code maxLocals ret :: tables_1
/-- a 'code' word, met by the world's own term for the bytes: nothing is compared byte by byte -/
theorem code_word {y : MethodName} {bytes : ByteArray} {mx : Nat} {rt : Option FieldType} {a : Array Value} {s : State} {m : MethodId} {meth : Method} {c : Code} (h1 : s.methodNamed? y = some m) (h2 : s.vm.method? m = some meth) (h3 : meth.code = some c) (h4 : c.code = bytes)
    (h5 : (c.maxLocals == mx && c.exceptionTable.isEmpty && decide (c.maxStack ≤ mostOperands) && decide (meth.sig.returnType = rt) && !meth.locks && decide (parseMethodDescriptor y.desc = some meth.sig)) = true) : (Jvm.Cond.code y bytes mx rt).before a s = true := by
  simp only [Bool.and_eq_true, beq_iff_eq, Bool.not_eq_true', decide_eq_true_eq] at h5
  obtain ⟨⟨⟨⟨⟨g1, g2⟩, g3⟩, g4⟩, g5⟩, g6⟩ := h5
  simp [Cond.before, Cond.holds, Cond.value, h1, h2, h3, h4, g1, g2, g3, g4, g5, g6]
def isCode : Jvm.Cond → Bool
  | .code _ _ _ _ => true
  | _ => false
theorem all_split {L : List Jvm.Cond} {P : Jvm.Cond → Bool} (h1 : L.all (fun c => isCode c || P c) = true) (h2 : ∀ c ∈ L.filter isCode, P c = true) : L.all P = true := by
  refine List.all_eq_true.mpr fun c hc => ?_
  have h := List.all_eq_true.mp h1 c hc
  rcases Bool.eq_false_or_eq_true (isCode c) with hi | hi
  · exact h2 c (List.mem_filter.mpr ⟨hc, hi⟩)
  · simpa [hi] using h
set_option maxRecDepth 65536 in
theorem w_c0 : (Jvm.Cond.code x code maxLocals ret).before args0 about1 = true := code_word (m := ⟨1, 2⟩) (meth := k1m2) (c := k1c2) (by decide +kernel) rfl rfl rfl (by decide +kernel)
set_option maxRecDepth 65536 in
theorem w_c1 : (Jvm.Cond.code ({ cls := "com/example/rosewood/rosewood/Node", name := "<init>", desc := "(Ljava/lang/Object;Ljava/lang/Object;Z)V" } : Jvm.MethodName) prog_6_method_1_code (4 : Nat) (Option.none : Option Jvm.ClassFile.FieldType)).before args0 about1 = true := code_word (m := ⟨4, 0⟩) (meth := k4m0) (c := k4c0) (by decide +kernel) rfl rfl rfl (by decide +kernel)
set_option maxRecDepth 65536 in
theorem w_c2 : (Jvm.Cond.code ({ cls := "java/lang/Object", name := "<init>", desc := "()V" } : Jvm.MethodName) object_method_1_code (1 : Nat) (Option.none : Option Jvm.ClassFile.FieldType)).before args0 about1 = true := code_word (m := ⟨0, 0⟩) (meth := k0m0) (c := k0c0) (by decide +kernel) rfl rfl rfl (by decide +kernel)
set_option maxRecDepth 65536 in
theorem w_c3 : (Jvm.Cond.code ({ cls := "com/example/rosewood/rosewood/DescentTurnsRightPinLaw", name := "link", desc := "(Lcom/example/rosewood/rosewood/Node;Lcom/example/rosewood/rosewood/Node;ZZLcom/example/rosewood/rosewood/Node;)V" } : Jvm.MethodName) method_2_code (5 : Nat) (Option.none : Option Jvm.ClassFile.FieldType)).before args0 about1 = true := code_word (m := ⟨1, 1⟩) (meth := k1m1) (c := k1c1) (by decide +kernel) rfl rfl rfl (by decide +kernel)
set_option maxRecDepth 65536 in
theorem w_c4 : (Jvm.Cond.code ({ cls := "com/example/rosewood/rosewood/Descent", name := "<init>", desc := "()V" } : Jvm.MethodName) prog_3_method_1_code (1 : Nat) (Option.none : Option Jvm.ClassFile.FieldType)).before args0 about1 = true := code_word (m := ⟨5, 0⟩) (meth := k5m0) (c := k5c0) (by decide +kernel) rfl rfl rfl (by decide +kernel)
set_option maxRecDepth 65536 in
theorem w_c5 : (Jvm.Cond.code ({ cls := "com/example/rosewood/rosewood/Descent", name := "turnsRight", desc := "(I)Z" } : Jvm.MethodName) prog_3_method_6_code (3 : Nat) (Option.some Jvm.ClassFile.FieldType.boolean)).before args0 about1 = true := code_word (m := ⟨5, 1⟩) (meth := k5m1) (c := k5c1) (by decide +kernel) rfl rfl rfl (by decide +kernel)
def codes1 : List Jvm.Cond := [Jvm.Cond.code x code maxLocals ret, Jvm.Cond.code ({ cls := "com/example/rosewood/rosewood/Node", name := "<init>", desc := "(Ljava/lang/Object;Ljava/lang/Object;Z)V" } : Jvm.MethodName) prog_6_method_1_code (4 : Nat) (Option.none : Option Jvm.ClassFile.FieldType), Jvm.Cond.code ({ cls := "java/lang/Object", name := "<init>", desc := "()V" } : Jvm.MethodName) object_method_1_code (1 : Nat) (Option.none : Option Jvm.ClassFile.FieldType), Jvm.Cond.code ({ cls := "com/example/rosewood/rosewood/DescentTurnsRightPinLaw", name := "link", desc := "(Lcom/example/rosewood/rosewood/Node;Lcom/example/rosewood/rosewood/Node;ZZLcom/example/rosewood/rosewood/Node;)V" } : Jvm.MethodName) method_2_code (5 : Nat) (Option.none : Option Jvm.ClassFile.FieldType), Jvm.Cond.code ({ cls := "com/example/rosewood/rosewood/Descent", name := "<init>", desc := "()V" } : Jvm.MethodName) prog_3_method_1_code (1 : Nat) (Option.none : Option Jvm.ClassFile.FieldType), Jvm.Cond.code ({ cls := "com/example/rosewood/rosewood/Descent", name := "turnsRight", desc := "(I)Z" } : Jvm.MethodName) prog_3_method_6_code (3 : Nat) (Option.some Jvm.ClassFile.FieldType.boolean)]
set_option maxRecDepth 65536 in
theorem codes_eq : words1.filter isCode = codes1 := rfl
theorem w_codes : ∀ c ∈ words1.filter isCode, c.before args0 about1 = true := by
  rw [codes_eq]
  intro c hc
  simp only [codes1, List.mem_cons, List.not_mem_nil, or_false] at hc
  rcases hc with rfl | rfl | rfl | rfl | rfl | rfl
  · exact w_c0
  · exact w_c1
  · exact w_c2
  · exact w_c3
  · exact w_c4
  · exact w_c5
set_option maxRecDepth 65536 in
theorem w_t1 : (words1.take 24).all (fun c => isCode c || c.before args0 about1) = true := by decide +kernel
set_option maxRecDepth 65536 in
theorem w_t2 : ((words1.drop 24).take 24).all (fun c => isCode c || c.before args0 about1) = true := by decide +kernel
set_option maxRecDepth 65536 in
theorem w_t3 : ((words1.drop 24).drop 24).all (fun c => isCode c || c.before args0 about1) = true := by decide +kernel
theorem w_tables : (allAtoms (Jvm.Cond.code x code maxLocals ret :: tables_1)).before args0 about1 = true := by
  rw [allAtoms_all]
  show words1.all (fun c => c.before args0 about1) = true
  refine all_split ?_ w_codes
  rw [← List.take_append_drop 24 words1, List.all_append, w_t1, ← List.take_append_drop 24 (words1.drop 24), List.all_append, w_t2, w_t3]
  rfl
set_option maxRecDepth 65536 in
theorem w_case : (Jvm.Cond.and given_1 narrow_1).before args0 about1 = true := by decide +kernel
theorem w_applies : (headSpec (Jvm.Cond.code x code maxLocals ret :: tables_1) room_1).applies x e0.platform about1 = true :=
  (Spec.applies_iff w_frames).mpr ⟨w_running, w_runnable, w_alone, w_named, w_hears, w_ripe, w_room, w_tables⟩
theorem atStart : AtStart classFile x code maxLocals ret World_1 tables_1 room_1 Calls_1 rest_1 Pre_1 launch0 p0 e0 about1 theMethod args0 below0 :=
  ⟨lists_1, trivial, launch0.admits_env _ _ _, launch0.least_env, fairChoices_fair.cas, fairChoices_fair.clock, w_frames, w_args, w_heap, w_applies, trivial, trivial, w_case⟩
end start1
theorem witness_1 : WitnessClaimed_1 := ⟨start1.p0, start1.e0, start1.about1, start1.theMethod, start1.args0, start1.below0, start1.atStart⟩
end Jvm.Pilot.@@N@@
