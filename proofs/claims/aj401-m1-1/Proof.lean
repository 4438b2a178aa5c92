import JvmDerived
import JvmDerived.Pilot.@@N@@Statement
import JvmDerived.Pilot.@@N@@Code
set_option linter.unusedVariables false
set_option linter.unusedSimpArgs false
namespace Jvm.RoadKit
open Sem ClassFile Op Lib Jvm.Stand Jvm.Free Jvm.LawKit
section New
variable {p : Program} {l : Launch} {e : Env} {R : Room} {s : State} {m : MethodId} {args : Array Value} {below : List Frame} {meth : Method} {c : Code} {T : State} {locs : List Loc} {cells slots : Nat}
theorem retI (X : Stand p l e R s m args below meth c T locs cells slots) (hx : p.tables.exec = Jvm.exec) {pc : Nat} {Ls : Array Slot} {z : Int32} {rest : List Value} (hret : meth.sig.returnType = some .int) (hd : decode c.code pc = .ok (.ireturn, 1)) {fs : List Frame}
    (hl : ∀ (f : JFrame) (acts : List Action), f.method = m → f.locked = none → f.entered = [] → (doReturn e (T.setTop f) acts (some (.int z))).1 = T.setFrames fs) : Steps p.tables e below (T.setTop (mkF m pc Ls (.int z :: rest))) (T.setFrames fs) := by
  have hm' : T.vm.method? m = some meth := X.method'
  have hn : narrow .int (.int z) = .int z := rfl
  show Steps p.tables e below (T.setTop { method := m, pc := pc, locals := Ls, stack := _ :: rest, locked := none }) _
  jvm_step X.here [X.here.top, hx, hd, hm', hret, hn]
  first | (intro acts; rw [hl _ acts rfl rfl rfl]) | rw [hl _ _ rfl rfl rfl]
  exact Steps.refl _
end New
end Jvm.RoadKit
namespace Jvm.Pilot.@@N@@
open Jvm Jvm.ClassFile Sem Op Lib Jvm.Free Jvm.Stand Jvm.LawKit Jvm.RoadKit Bundle Jvm.Pilot.@@N@@.Jvm.D
/-- whoever comes from the frame f (over T) comes from the frame f0 (over T0) -/
abbrev Go (p : Program) (e : Env) (below : List Frame) (T : State) (f : JFrame) (T0 : State) (f0 : JFrame) : Prop := ∀ t, Steps p.tables e below (T.setTop f) t → Steps p.tables e below (T0.setTop f0) t
def own_cap (c : Int32) : Int32 := if ¬ c < 65 ∧ ¬ 90 < c then 1 else 0
def own_exp (c : Int32) : Int32 := if (c >>> ((5 : Int32) &&& 31)) = 2 ∧ ¬ (c &&& 31) < 1 ∧ ¬ 26 < (c &&& 31) then 1 else 0
theorem own_nar (c : Int32) : nar .boolean (own_cap c) = own_cap c := by unfold own_cap; split <;> rfl
theorem own_law (c : Int32) (h : 0 ≤ c.toInt) : own_cap c = own_exp c := by
  have q1 := c_ishr c 5 5 (by decide)
  have q2 := c_mask c 31 5 (by decide) (by decide)
  have e1 : (1 : Int32).toInt = 1 := rfl
  have e2 : (2 : Int32).toInt = 2 := rfl
  have e3 : (26 : Int32).toInt = 26 := rfl
  have e4 : (65 : Int32).toInt = 65 := rfl
  have e5 : (90 : Int32).toInt = 90 := rfl
  unfold own_cap own_exp
  have : (¬ c < 65 ∧ ¬ 90 < c) ↔ ((c >>> ((5 : Int32) &&& 31)) = 2 ∧ ¬ (c &&& 31) < 1 ∧ ¬ 26 < (c &&& 31)) := by
    rw [← Int32.toInt_inj]
    simp only [Int32.lt_iff_toInt_lt, q1, q2, e1, e2, e3, e4, e5]
    omega
  by_cases a : (¬ c < 65 ∧ ¬ 90 < c)
  · rw [if_pos a, if_pos (this.mp a)]
  · rw [if_neg a, if_neg (fun z => a (this.mpr z))]
theorem d1_0 : decode prog_1_method_5_code 0 = .ok (.iload_n 0, 1) := by decide +kernel
theorem d1_1 : decode prog_1_method_5_code 1 = .ok (.bipush 65, 2) := by decide +kernel
theorem d1_3 : decode prog_1_method_5_code 3 = .ok (.if_icmp .lt 13, 3) := by decide +kernel
theorem d1_6 : decode prog_1_method_5_code 6 = .ok (.iload_n 0, 1) := by decide +kernel
theorem d1_7 : decode prog_1_method_5_code 7 = .ok (.bipush 90, 2) := by decide +kernel
theorem d1_9 : decode prog_1_method_5_code 9 = .ok (.if_icmp .gt 7, 3) := by decide +kernel
theorem d1_12 : decode prog_1_method_5_code 12 = .ok (.iconst 1, 1) := by decide +kernel
theorem d1_13 : decode prog_1_method_5_code 13 = .ok (.goto 4, 3) := by decide +kernel
theorem d1_16 : decode prog_1_method_5_code 16 = .ok (.iconst 0, 1) := by decide +kernel
theorem d1_17 : decode prog_1_method_5_code 17 = .ok (.ireturn, 1) := by decide +kernel
theorem pn_1 : plainName "com/example/iskar/iskar/Ascii" = true := by first | (simp [plainName, overriddenIn]; done) | decide +kernel
theorem pd_1 : parseMethodDescriptor "(C)Z" = some ⟨[.char], some .boolean⟩ := by decide +kernel
theorem ef_1 (m : MethodId) (x0 : Int32) : entryFrame m #[(.int x0)] 1 = mkF m 0 #[.val (.int x0)] [] := by first | (simp [entryFrame, mkF, argsToLocals, Value.category]; done) | rfl
def Q1 (Z : State) (p1 : Int32) (h0 : Heap) (n0 : Nat) (v : Option Value) (h : Heap) (L : List Loc) : Prop := v = some (.int (own_cap p1)) ∧ Fr n0 L ∧ h = h0
set_option maxRecDepth 65536 in
set_option maxHeartbeats 40000000 in
theorem rm1 (l : Launch) (Z : State) (a0 : Array Value) (hw : ∀ d ∈ tables_1, d.before a0 Z = true) (ws : List Jvm.Cond) (p1 : Int32) (h0 : Heap) (n0 : Nat) (Z0 : n0 ≤ h0.size)  :
    MetFree l (⟨"com/example/iskar/iskar/Ascii", "isCapitalLetter", "(C)Z"⟩ : MethodName) (head1 (Jvm.Cond.code (⟨"com/example/iskar/iskar/Ascii", "isCapitalLetter", "(C)Z"⟩ : MethodName) prog_1_method_5_code 1 (some .boolean) :: ws) ({ frames := 0, cells := 0, slots := 0, locals := 0 } : Room)) (fun a U => a = #[(.int p1)] ∧ Z.Warmed39 U.vm ∧ U.heap = h0) (fun _ _ _ _ _ => True) (fun _ U o U' => ∃ v L, o = .returned v ∧ Q1 Z p1 h0 n0 v U'.heap L ∧ FrameEnd U o U' L ({ frames := 0, cells := 0, slots := 0, locals := 0 } : Room).cells ({ frames := 0, cells := 0, slots := 0, locals := 0 } : Room).slots) := by
  refine MetFree.of_bodySF (plainFor_of_name pn_1) hisR ?_
  intro p e s m args below meth c s₁ Bd hml0 hP hK
  obtain ⟨rfl, hZ, hh⟩ := hP
  have hx := Bd.exec
  have hby := Bd.bytes
  have hml : c.maxLocals = 1 := hml0
  have hown : s.vm.findClass "com/example/iskar/iskar/Ascii" = some m.cls := findClass_of_methodNamed Bd.named
  have hnm := (name_of_methodNamed Bd.named Bd.method).1
  have X0 : Stand p l e ({ frames := 0, cells := 0, slots := 0, locals := 0 } : Room) s m #[(.int p1)] below meth c s₁ [] 0 0 := Stand.of_body Bd
  have e0 : s₁.heap = h0 := by rw [← hh, Bd.state]; rfl
  have N0 := Fr.nil n0
  obtain ⟨F0, hF0⟩ : ∃ F0, F0 = entryFrame m #[(.int p1)] 1 := ⟨_, rfl⟩
  have C0 : Go p e below s₁ (mkF m 0 #[.val (.int p1)] []) s₁ F0 := fun t k => by rw [hF0]; exact castTop (ef_1 m p1) k
  have pre0 : ∀ t, Steps p.tables e below (s₁.setTop F0) t → Steps p.tables e below (s₁.setTop (entryFrame m #[(.int p1)] 1)) t := fun t k => by rw [← hF0]; exact k
  have CJ : Go p e below s₁ (mkF m 17 #[.val (.int p1)] [(.int (own_cap p1))]) s₁ F0 := by
    by_cases c1 : p1 < 65
    · have q : own_cap p1 = 0 := if_neg fun z => z.1 c1
      have C1 : Go p e below s₁ (mkF m 17 #[.val (.int p1)] [(.int (0 : Int32))]) s₁ F0 := fun t k => C0 t (by
        refine XS.iloadN X0.here hx rfl (hb hby d1_0) rfl ?_
        show Steps p.tables e below (s₁.setTop (mkF m 1 #[.val (.int p1)] [(.int p1)])) _
        refine XS.bipush X0.here hx rfl (hb hby d1_1) ?_
        show Steps p.tables e below (s₁.setTop (mkF m 3 #[.val (.int p1)] [(.int (65 : Int32)), (.int p1)])) _
        refine XS.icmpYes X0.here hx rfl (pc0 := 3) (pc' := 16) rfl (hb hby d1_3) rfl (tlt c1).1 (by decide) (by decide) ?_
        show Steps p.tables e below (s₁.setTop (mkF m 16 #[.val (.int p1)] [])) _
        refine XS.iconst X0.here hx rfl (hb hby d1_16) ?_
        exact k)
      rw [q]
      exact C1
    · by_cases c2 : 90 < p1
      · have q : own_cap p1 = 0 := if_neg fun z => z.2 c2
        have C2 : Go p e below s₁ (mkF m 17 #[.val (.int p1)] [(.int (0 : Int32))]) s₁ F0 := fun t k => C0 t (by
          refine XS.iloadN X0.here hx rfl (hb hby d1_0) rfl ?_
          show Steps p.tables e below (s₁.setTop (mkF m 1 #[.val (.int p1)] [(.int p1)])) _
          refine XS.bipush X0.here hx rfl (hb hby d1_1) ?_
          show Steps p.tables e below (s₁.setTop (mkF m 3 #[.val (.int p1)] [(.int (65 : Int32)), (.int p1)])) _
          refine XS.icmpNo X0.here hx rfl (hb hby d1_3) rfl (flt c1).1 ?_
          show Steps p.tables e below (s₁.setTop (mkF m 6 #[.val (.int p1)] [])) _
          refine XS.iloadN X0.here hx rfl (hb hby d1_6) rfl ?_
          show Steps p.tables e below (s₁.setTop (mkF m 7 #[.val (.int p1)] [(.int p1)])) _
          refine XS.bipush X0.here hx rfl (hb hby d1_7) ?_
          show Steps p.tables e below (s₁.setTop (mkF m 9 #[.val (.int p1)] [(.int (90 : Int32)), (.int p1)])) _
          refine XS.icmpYes X0.here hx rfl (pc0 := 9) (pc' := 16) rfl (hb hby d1_9) rfl (tlt c2).2.2.1 (by decide) (by decide) ?_
          show Steps p.tables e below (s₁.setTop (mkF m 16 #[.val (.int p1)] [])) _
          refine XS.iconst X0.here hx rfl (hb hby d1_16) ?_
          exact k)
        rw [q]
        exact C2
      · have q : own_cap p1 = 1 := if_pos ⟨c1, c2⟩
        have C3 : Go p e below s₁ (mkF m 17 #[.val (.int p1)] [(.int (1 : Int32))]) s₁ F0 := fun t k => C0 t (by
          refine XS.iloadN X0.here hx rfl (hb hby d1_0) rfl ?_
          show Steps p.tables e below (s₁.setTop (mkF m 1 #[.val (.int p1)] [(.int p1)])) _
          refine XS.bipush X0.here hx rfl (hb hby d1_1) ?_
          show Steps p.tables e below (s₁.setTop (mkF m 3 #[.val (.int p1)] [(.int (65 : Int32)), (.int p1)])) _
          refine XS.icmpNo X0.here hx rfl (hb hby d1_3) rfl (flt c1).1 ?_
          show Steps p.tables e below (s₁.setTop (mkF m 6 #[.val (.int p1)] [])) _
          refine XS.iloadN X0.here hx rfl (hb hby d1_6) rfl ?_
          show Steps p.tables e below (s₁.setTop (mkF m 7 #[.val (.int p1)] [(.int p1)])) _
          refine XS.bipush X0.here hx rfl (hb hby d1_7) ?_
          show Steps p.tables e below (s₁.setTop (mkF m 9 #[.val (.int p1)] [(.int (90 : Int32)), (.int p1)])) _
          refine XS.icmpNo X0.here hx rfl (hb hby d1_9) rfl (flt c2).2.2.1 ?_
          show Steps p.tables e below (s₁.setTop (mkF m 12 #[.val (.int p1)] [])) _
          refine XS.iconst X0.here hx rfl (hb hby d1_12) ?_
          show Steps p.tables e below (s₁.setTop (mkF m 13 #[.val (.int p1)] [(.int (1 : Int32))])) _
          refine XS.goto X0.here hx rfl (pc0 := 13) (pc' := 17) rfl (hb hby d1_13) (by decide) (by decide) ?_
          exact k)
        rw [q]
        exact C3
  obtain ⟨fs, hr, hrun, hended, hW, hsame⟩ := X0.leave (v := (some (.int (nar .boolean (own_cap p1))))) (fun h => by rw [Bd.returns] at h; cases h)
  refine ⟨_, _, pre0 _ (CJ _ ?_), hrun, hended, _, _, rfl, ?_, ⟨_, rfl⟩, hW, hsame.mono (by decide) (by decide)⟩
  · exact retN X0 hx (t := .boolean) Bd.returns (by simp) (hb hby d1_17) hr
  · show Q1 Z p1 h0 n0 _ s₁.heap _
    rw [e0]
    exact ⟨congrArg (fun z => some (Value.int z)) (own_nar p1), N0, rfl⟩
theorem pn_0 : plainName "com/example/iskar/iskar/AsciiIsCapitalLetterPinLaw" = true := by first | (simp [plainName, overriddenIn]; done) | decide +kernel
theorem pd_0 : parseMethodDescriptor "(I)Z" = some ⟨[.int], some .boolean⟩ := by decide +kernel
theorem ef_0 (m : MethodId) (x0 : Int32) : entryFrame m #[(.int x0)] maxLocals = mkF m 0 #[.val (.int x0), .unset, .unset, .unset, .unset] [] := by first | (simp [entryFrame, mkF, argsToLocals, Value.category, maxLocals]; done) | rfl
def Q0 (Z : State) (p1 : Int32) (h0 : Heap) (n0 : Nat) (v : Option Value) (h : Heap) (L : List Loc) : Prop := v = some (.int 1) ∧ Fr n0 L
set_option maxRecDepth 65536 in
set_option maxHeartbeats 40000000 in
theorem rm0 (l : Launch) (Z : State) (a0 : Array Value) (hw : ∀ d ∈ tables_1, d.before a0 Z = true) (ws : List Jvm.Cond) (p1 : Int32) (h0 : Heap) (n0 : Nat) (Z0 : n0 ≤ h0.size)  :
    MetFree l x (head1 (Jvm.Cond.code x code maxLocals ret :: ws) room_1) (fun a U => a = #[(.int p1)] ∧ Z.Warmed39 U.vm ∧ U.heap = h0) (fun _ _ _ _ _ => True) (fun _ U o U' => ∃ v L, o = .returned v ∧ Q0 Z p1 h0 n0 v U'.heap L ∧ FrameEnd U o U' L room_1.cells room_1.slots) := by
  refine MetFree.of_bodySF (plainFor_of_name pn_0) hisR ?_
  intro p e s m args below meth c s₁ Bd hml0 hP hK
  obtain ⟨rfl, hZ, hh⟩ := hP
  have hx := Bd.exec
  have hby := Bd.bytes
  have hml : c.maxLocals = 5 := hml0
  have hown : s.vm.findClass "com/example/iskar/iskar/AsciiIsCapitalLetterPinLaw" = some m.cls := findClass_of_methodNamed Bd.named
  have hnm := (name_of_methodNamed Bd.named Bd.method).1
  have X0 : Stand p l e room_1 s m #[(.int p1)] below meth c s₁ [] 0 0 := Stand.of_body Bd
  have e0 : s₁.heap = h0 := by rw [← hh, Bd.state]; rfl
  have N0 := Fr.nil n0
  obtain ⟨F0, hF0⟩ : ∃ F0, F0 = entryFrame m #[(.int p1)] maxLocals := ⟨_, rfl⟩
  have C0 : Go p e below s₁ (mkF m 0 #[.val (.int p1), .unset, .unset, .unset, .unset] []) s₁ F0 := fun t k => by rw [hF0]; exact castTop (ef_0 m p1) k
  have pre0 : ∀ t, Steps p.tables e below (s₁.setTop F0) t → Steps p.tables e below (s₁.setTop (entryFrame m #[(.int p1)] maxLocals)) t := fun t k => by rw [← hF0]; exact k
  have C1 : Go p e below s₁ (mkF m 6 #[.val (.int p1), .val (.int ((p1 &&& (65535 : Int32)).toUInt32.toUInt16.toUInt32.toInt32)), .unset, .unset, .unset] []) s₁ F0 := fun t k => C0 t (by
    refine XS.iloadN X0.here hx rfl (hb hby at_0) rfl ?_
    show Steps p.tables e below (s₁.setTop (mkF m 1 #[.val (.int p1), .unset, .unset, .unset, .unset] [(.int p1)])) _
    refine X0.ldcInt hx hown (mvT hZ (hw _ (List.mem_of_getElem? (i := 0) rfl))) (g := (mkF m 1 #[.val (.int p1), .unset, .unset, .unset, .unset] [(.int p1)])) rfl (hb hby at_1) _ ?_
    show Steps p.tables e below (s₁.setTop (mkF m 3 #[.val (.int p1), .unset, .unset, .unset, .unset] [(.int (65535 : Int32)), (.int p1)])) _
    refine XS.iand X0.here hx rfl (hb hby at_3) rfl ?_
    show Steps p.tables e below (s₁.setTop (mkF m 4 #[.val (.int p1), .unset, .unset, .unset, .unset] [(.int (p1 &&& (65535 : Int32)))])) _
    refine XS.i2c X0.here hx rfl (hb hby at_4) rfl ?_
    show Steps p.tables e below (s₁.setTop (mkF m 5 #[.val (.int p1), .unset, .unset, .unset, .unset] [(.int ((p1 &&& (65535 : Int32)).toUInt32.toUInt16.toUInt32.toInt32))])) _
    refine XS.istoreN X0.here hx rfl (hb hby at_5) rfl (l' := #[.val (.int p1), .val (.int ((p1 &&& (65535 : Int32)).toUInt32.toUInt16.toUInt32.toInt32)), .unset, .unset, .unset]) rfl ?_
    exact k)
  obtain ⟨ch, hch, CJ⟩ : ∃ ch : Int32, 0 ≤ ch.toInt ∧ Go p e below s₁ (mkF m 6 #[.val (.int p1), .val (.int ch), .unset, .unset, .unset] []) s₁ F0 := ⟨_, (c_i2c _).2.1, C1⟩
  have C2 : Go p e below s₁ (mkF m 15 #[.val (.int p1), .val (.int ch), .val (.int (ch >>> ((5 : Int32) &&& 31))), .val (.int (ch &&& (31 : Int32))), .unset] []) s₁ F0 := fun t k => CJ t (by
    refine XS.iloadN X0.here hx rfl (hb hby at_6) rfl ?_
    show Steps p.tables e below (s₁.setTop (mkF m 7 #[.val (.int p1), .val (.int ch), .unset, .unset, .unset] [(.int ch)])) _
    refine XS.iconst X0.here hx rfl (hb hby at_7) ?_
    show Steps p.tables e below (s₁.setTop (mkF m 8 #[.val (.int p1), .val (.int ch), .unset, .unset, .unset] [(.int (5 : Int32)), (.int ch)])) _
    refine XS.ishr X0.here hx rfl (hb hby at_8) rfl ?_
    show Steps p.tables e below (s₁.setTop (mkF m 9 #[.val (.int p1), .val (.int ch), .unset, .unset, .unset] [(.int (ch >>> ((5 : Int32) &&& 31)))])) _
    refine XS.istoreN X0.here hx rfl (hb hby at_9) rfl (l' := #[.val (.int p1), .val (.int ch), .val (.int (ch >>> ((5 : Int32) &&& 31))), .unset, .unset]) rfl ?_
    show Steps p.tables e below (s₁.setTop (mkF m 10 #[.val (.int p1), .val (.int ch), .val (.int (ch >>> ((5 : Int32) &&& 31))), .unset, .unset] [])) _
    refine XS.iloadN X0.here hx rfl (hb hby at_10) rfl ?_
    show Steps p.tables e below (s₁.setTop (mkF m 11 #[.val (.int p1), .val (.int ch), .val (.int (ch >>> ((5 : Int32) &&& 31))), .unset, .unset] [(.int ch)])) _
    refine XS.bipush X0.here hx rfl (hb hby at_11) ?_
    show Steps p.tables e below (s₁.setTop (mkF m 13 #[.val (.int p1), .val (.int ch), .val (.int (ch >>> ((5 : Int32) &&& 31))), .unset, .unset] [(.int (31 : Int32)), (.int ch)])) _
    refine XS.iand X0.here hx rfl (hb hby at_13) rfl ?_
    show Steps p.tables e below (s₁.setTop (mkF m 14 #[.val (.int p1), .val (.int ch), .val (.int (ch >>> ((5 : Int32) &&& 31))), .unset, .unset] [(.int (ch &&& (31 : Int32)))])) _
    refine XS.istoreN X0.here hx rfl (hb hby at_14) rfl (l' := #[.val (.int p1), .val (.int ch), .val (.int (ch >>> ((5 : Int32) &&& 31))), .val (.int (ch &&& (31 : Int32))), .unset]) rfl ?_
    exact k)
  have CK : Go p e below s₁ (mkF m 36 #[.val (.int p1), .val (.int ch), .val (.int (ch >>> ((5 : Int32) &&& 31))), .val (.int (ch &&& (31 : Int32))), .unset] [(.int (own_exp ch))]) s₁ F0 := by
    by_cases c1 : (ch >>> ((5 : Int32) &&& 31)) = 2
    · by_cases c2 : (ch &&& 31) < 1
      · have q : own_exp ch = 0 := if_neg fun z => z.2.1 c2
        have C3 : Go p e below s₁ (mkF m 36 #[.val (.int p1), .val (.int ch), .val (.int (ch >>> ((5 : Int32) &&& 31))), .val (.int (ch &&& (31 : Int32))), .unset] [(.int (0 : Int32))]) s₁ F0 := fun t k => C2 t (by
          refine XS.iloadN X0.here hx rfl (hb hby at_15) rfl ?_
          show Steps p.tables e below (s₁.setTop (mkF m 16 #[.val (.int p1), .val (.int ch), .val (.int (ch >>> ((5 : Int32) &&& 31))), .val (.int (ch &&& (31 : Int32))), .unset] [(.int (ch >>> ((5 : Int32) &&& 31)))])) _
          refine XS.iconst X0.here hx rfl (hb hby at_16) ?_
          show Steps p.tables e below (s₁.setTop (mkF m 17 #[.val (.int p1), .val (.int ch), .val (.int (ch >>> ((5 : Int32) &&& 31))), .val (.int (ch &&& (31 : Int32))), .unset] [(.int (2 : Int32)), (.int (ch >>> ((5 : Int32) &&& 31)))])) _
          refine XS.icmpNo X0.here hx rfl (hb hby at_17) rfl (teq c1).2 ?_
          show Steps p.tables e below (s₁.setTop (mkF m 20 #[.val (.int p1), .val (.int ch), .val (.int (ch >>> ((5 : Int32) &&& 31))), .val (.int (ch &&& (31 : Int32))), .unset] [])) _
          refine XS.iloadN X0.here hx rfl (hb hby at_20) rfl ?_
          show Steps p.tables e below (s₁.setTop (mkF m 21 #[.val (.int p1), .val (.int ch), .val (.int (ch >>> ((5 : Int32) &&& 31))), .val (.int (ch &&& (31 : Int32))), .unset] [(.int (ch &&& (31 : Int32)))])) _
          refine XS.iconst X0.here hx rfl (hb hby at_21) ?_
          show Steps p.tables e below (s₁.setTop (mkF m 22 #[.val (.int p1), .val (.int ch), .val (.int (ch >>> ((5 : Int32) &&& 31))), .val (.int (ch &&& (31 : Int32))), .unset] [(.int (1 : Int32)), (.int (ch &&& (31 : Int32)))])) _
          refine XS.icmpYes X0.here hx rfl (pc0 := 22) (pc' := 35) rfl (hb hby at_22) rfl (tlt c2).1 (by decide) (by decide) ?_
          show Steps p.tables e below (s₁.setTop (mkF m 35 #[.val (.int p1), .val (.int ch), .val (.int (ch >>> ((5 : Int32) &&& 31))), .val (.int (ch &&& (31 : Int32))), .unset] [])) _
          refine XS.iconst X0.here hx rfl (hb hby at_35) ?_
          exact k)
        rw [q]
        exact C3
      · by_cases c3 : 26 < (ch &&& 31)
        · have q : own_exp ch = 0 := if_neg fun z => z.2.2 c3
          have C4 : Go p e below s₁ (mkF m 36 #[.val (.int p1), .val (.int ch), .val (.int (ch >>> ((5 : Int32) &&& 31))), .val (.int (ch &&& (31 : Int32))), .unset] [(.int (0 : Int32))]) s₁ F0 := fun t k => C2 t (by
            refine XS.iloadN X0.here hx rfl (hb hby at_15) rfl ?_
            show Steps p.tables e below (s₁.setTop (mkF m 16 #[.val (.int p1), .val (.int ch), .val (.int (ch >>> ((5 : Int32) &&& 31))), .val (.int (ch &&& (31 : Int32))), .unset] [(.int (ch >>> ((5 : Int32) &&& 31)))])) _
            refine XS.iconst X0.here hx rfl (hb hby at_16) ?_
            show Steps p.tables e below (s₁.setTop (mkF m 17 #[.val (.int p1), .val (.int ch), .val (.int (ch >>> ((5 : Int32) &&& 31))), .val (.int (ch &&& (31 : Int32))), .unset] [(.int (2 : Int32)), (.int (ch >>> ((5 : Int32) &&& 31)))])) _
            refine XS.icmpNo X0.here hx rfl (hb hby at_17) rfl (teq c1).2 ?_
            show Steps p.tables e below (s₁.setTop (mkF m 20 #[.val (.int p1), .val (.int ch), .val (.int (ch >>> ((5 : Int32) &&& 31))), .val (.int (ch &&& (31 : Int32))), .unset] [])) _
            refine XS.iloadN X0.here hx rfl (hb hby at_20) rfl ?_
            show Steps p.tables e below (s₁.setTop (mkF m 21 #[.val (.int p1), .val (.int ch), .val (.int (ch >>> ((5 : Int32) &&& 31))), .val (.int (ch &&& (31 : Int32))), .unset] [(.int (ch &&& (31 : Int32)))])) _
            refine XS.iconst X0.here hx rfl (hb hby at_21) ?_
            show Steps p.tables e below (s₁.setTop (mkF m 22 #[.val (.int p1), .val (.int ch), .val (.int (ch >>> ((5 : Int32) &&& 31))), .val (.int (ch &&& (31 : Int32))), .unset] [(.int (1 : Int32)), (.int (ch &&& (31 : Int32)))])) _
            refine XS.icmpNo X0.here hx rfl (hb hby at_22) rfl (flt c2).1 ?_
            show Steps p.tables e below (s₁.setTop (mkF m 25 #[.val (.int p1), .val (.int ch), .val (.int (ch >>> ((5 : Int32) &&& 31))), .val (.int (ch &&& (31 : Int32))), .unset] [])) _
            refine XS.iloadN X0.here hx rfl (hb hby at_25) rfl ?_
            show Steps p.tables e below (s₁.setTop (mkF m 26 #[.val (.int p1), .val (.int ch), .val (.int (ch >>> ((5 : Int32) &&& 31))), .val (.int (ch &&& (31 : Int32))), .unset] [(.int (ch &&& (31 : Int32)))])) _
            refine XS.bipush X0.here hx rfl (hb hby at_26) ?_
            show Steps p.tables e below (s₁.setTop (mkF m 28 #[.val (.int p1), .val (.int ch), .val (.int (ch >>> ((5 : Int32) &&& 31))), .val (.int (ch &&& (31 : Int32))), .unset] [(.int (26 : Int32)), (.int (ch &&& (31 : Int32)))])) _
            refine XS.icmpYes X0.here hx rfl (pc0 := 28) (pc' := 35) rfl (hb hby at_28) rfl (tlt c3).2.2.1 (by decide) (by decide) ?_
            show Steps p.tables e below (s₁.setTop (mkF m 35 #[.val (.int p1), .val (.int ch), .val (.int (ch >>> ((5 : Int32) &&& 31))), .val (.int (ch &&& (31 : Int32))), .unset] [])) _
            refine XS.iconst X0.here hx rfl (hb hby at_35) ?_
            exact k)
          rw [q]
          exact C4
        · have q : own_exp ch = 1 := if_pos ⟨c1, c2, c3⟩
          have C5 : Go p e below s₁ (mkF m 36 #[.val (.int p1), .val (.int ch), .val (.int (ch >>> ((5 : Int32) &&& 31))), .val (.int (ch &&& (31 : Int32))), .unset] [(.int (1 : Int32))]) s₁ F0 := fun t k => C2 t (by
            refine XS.iloadN X0.here hx rfl (hb hby at_15) rfl ?_
            show Steps p.tables e below (s₁.setTop (mkF m 16 #[.val (.int p1), .val (.int ch), .val (.int (ch >>> ((5 : Int32) &&& 31))), .val (.int (ch &&& (31 : Int32))), .unset] [(.int (ch >>> ((5 : Int32) &&& 31)))])) _
            refine XS.iconst X0.here hx rfl (hb hby at_16) ?_
            show Steps p.tables e below (s₁.setTop (mkF m 17 #[.val (.int p1), .val (.int ch), .val (.int (ch >>> ((5 : Int32) &&& 31))), .val (.int (ch &&& (31 : Int32))), .unset] [(.int (2 : Int32)), (.int (ch >>> ((5 : Int32) &&& 31)))])) _
            refine XS.icmpNo X0.here hx rfl (hb hby at_17) rfl (teq c1).2 ?_
            show Steps p.tables e below (s₁.setTop (mkF m 20 #[.val (.int p1), .val (.int ch), .val (.int (ch >>> ((5 : Int32) &&& 31))), .val (.int (ch &&& (31 : Int32))), .unset] [])) _
            refine XS.iloadN X0.here hx rfl (hb hby at_20) rfl ?_
            show Steps p.tables e below (s₁.setTop (mkF m 21 #[.val (.int p1), .val (.int ch), .val (.int (ch >>> ((5 : Int32) &&& 31))), .val (.int (ch &&& (31 : Int32))), .unset] [(.int (ch &&& (31 : Int32)))])) _
            refine XS.iconst X0.here hx rfl (hb hby at_21) ?_
            show Steps p.tables e below (s₁.setTop (mkF m 22 #[.val (.int p1), .val (.int ch), .val (.int (ch >>> ((5 : Int32) &&& 31))), .val (.int (ch &&& (31 : Int32))), .unset] [(.int (1 : Int32)), (.int (ch &&& (31 : Int32)))])) _
            refine XS.icmpNo X0.here hx rfl (hb hby at_22) rfl (flt c2).1 ?_
            show Steps p.tables e below (s₁.setTop (mkF m 25 #[.val (.int p1), .val (.int ch), .val (.int (ch >>> ((5 : Int32) &&& 31))), .val (.int (ch &&& (31 : Int32))), .unset] [])) _
            refine XS.iloadN X0.here hx rfl (hb hby at_25) rfl ?_
            show Steps p.tables e below (s₁.setTop (mkF m 26 #[.val (.int p1), .val (.int ch), .val (.int (ch >>> ((5 : Int32) &&& 31))), .val (.int (ch &&& (31 : Int32))), .unset] [(.int (ch &&& (31 : Int32)))])) _
            refine XS.bipush X0.here hx rfl (hb hby at_26) ?_
            show Steps p.tables e below (s₁.setTop (mkF m 28 #[.val (.int p1), .val (.int ch), .val (.int (ch >>> ((5 : Int32) &&& 31))), .val (.int (ch &&& (31 : Int32))), .unset] [(.int (26 : Int32)), (.int (ch &&& (31 : Int32)))])) _
            refine XS.icmpNo X0.here hx rfl (hb hby at_28) rfl (flt c3).2.2.1 ?_
            show Steps p.tables e below (s₁.setTop (mkF m 31 #[.val (.int p1), .val (.int ch), .val (.int (ch >>> ((5 : Int32) &&& 31))), .val (.int (ch &&& (31 : Int32))), .unset] [])) _
            refine XS.iconst X0.here hx rfl (hb hby at_31) ?_
            show Steps p.tables e below (s₁.setTop (mkF m 32 #[.val (.int p1), .val (.int ch), .val (.int (ch >>> ((5 : Int32) &&& 31))), .val (.int (ch &&& (31 : Int32))), .unset] [(.int (1 : Int32))])) _
            refine XS.goto X0.here hx rfl (pc0 := 32) (pc' := 36) rfl (hb hby at_32) (by decide) (by decide) ?_
            exact k)
          rw [q]
          exact C5
    · have q : own_exp ch = 0 := if_neg fun z => c1 z.1
      have C6 : Go p e below s₁ (mkF m 36 #[.val (.int p1), .val (.int ch), .val (.int (ch >>> ((5 : Int32) &&& 31))), .val (.int (ch &&& (31 : Int32))), .unset] [(.int (0 : Int32))]) s₁ F0 := fun t k => C2 t (by
        refine XS.iloadN X0.here hx rfl (hb hby at_15) rfl ?_
        show Steps p.tables e below (s₁.setTop (mkF m 16 #[.val (.int p1), .val (.int ch), .val (.int (ch >>> ((5 : Int32) &&& 31))), .val (.int (ch &&& (31 : Int32))), .unset] [(.int (ch >>> ((5 : Int32) &&& 31)))])) _
        refine XS.iconst X0.here hx rfl (hb hby at_16) ?_
        show Steps p.tables e below (s₁.setTop (mkF m 17 #[.val (.int p1), .val (.int ch), .val (.int (ch >>> ((5 : Int32) &&& 31))), .val (.int (ch &&& (31 : Int32))), .unset] [(.int (2 : Int32)), (.int (ch >>> ((5 : Int32) &&& 31)))])) _
        refine XS.icmpYes X0.here hx rfl (pc0 := 17) (pc' := 35) rfl (hb hby at_17) rfl (feq c1).2 (by decide) (by decide) ?_
        show Steps p.tables e below (s₁.setTop (mkF m 35 #[.val (.int p1), .val (.int ch), .val (.int (ch >>> ((5 : Int32) &&& 31))), .val (.int (ch &&& (31 : Int32))), .unset] [])) _
        refine XS.iconst X0.here hx rfl (hb hby at_35) ?_
        exact k)
      rw [q]
      exact C6
  have C7 : Go p e below s₁ (mkF m 39 #[.val (.int p1), .val (.int ch), .val (.int (ch >>> ((5 : Int32) &&& 31))), .val (.int (ch &&& (31 : Int32))), .val (.int (own_exp ch))] [(.int ch)]) s₁ F0 := fun t k => CK t (by
    refine XS.istore X0.here hx rfl (hb hby at_36) rfl (l' := #[.val (.int p1), .val (.int ch), .val (.int (ch >>> ((5 : Int32) &&& 31))), .val (.int (ch &&& (31 : Int32))), .val (.int (own_exp ch))]) rfl ?_
    show Steps p.tables e below (s₁.setTop (mkF m 38 #[.val (.int p1), .val (.int ch), .val (.int (ch >>> ((5 : Int32) &&& 31))), .val (.int (ch &&& (31 : Int32))), .val (.int (own_exp ch))] [])) _
    refine XS.iloadN X0.here hx rfl (hb hby at_38) rfl ?_
    exact k)
  obtain ⟨_, _, ⟨T8, L8, k8, n8⟩, -, X8, ⟨Lc8, hQ8, l8, y8, z8⟩, st8⟩ := Jvm.LawKit.callS X0 hx (y := (⟨"com/example/iskar/iskar/Ascii", "isCapitalLetter", "(C)Z"⟩ : MethodName)) hown (mvT hZ (hw _ (List.mem_of_getElem? (i := 1) rfl))) (mvT hZ (hw _ (List.mem_of_getElem? (i := 2) rfl))) (mvT hZ (hw _ (List.mem_of_getElem? (i := 3) rfl))) (mvT hZ (hw _ (List.mem_of_getElem? (i := 4) rfl))) (by decide) (backOf (W := 0) (rm1 l Z a0 hw [] ch h0 n0 Z0) hZ (hw _ (List.mem_of_getElem? (i := 4) rfl)) (hw _ (List.mem_of_getElem? (i := 3) rfl)) (by decide) (by decide)) (g := (mkF m 39 #[.val (.int p1), .val (.int ch), .val (.int (ch >>> ((5 : Int32) &&& 31))), .val (.int (ch &&& (31 : Int32))), .val (.int (own_exp ch))] [(.int ch)])) rfl (by rw [hml]; rfl) (argsL := [(.int ch)]) (rest := []) (lenOf pd_1 rfl) rfl (by show 2 * 0 + _ ≤ _; exact Nat.le_of_eq rfl) (hb hby at_39) (fun _ _ => ⟨rfl, e0, (by decide : 0 + 0 ≤ _), (by decide : 0 + 0 ≤ _)⟩)
  dsimp only [Pt.U, Pt.locs, Pt.cells, Pt.slots] at X8 l8 y8 z8 st8 hQ8
  subst l8 y8 z8
  obtain ⟨rfl, N8q, eh8⟩ := hQ8
  have C8 : Go p e below T8 (mkF m 42 #[.val (.int p1), .val (.int ch), .val (.int (ch >>> ((5 : Int32) &&& 31))), .val (.int (ch &&& (31 : Int32))), .val (.int (own_exp ch))] [(.int (own_cap ch))]) s₁ F0 := fun t k => C7 t (st8 t k)
  have N8 := Fr.app N0 N8q
  have C9 : Go p e below T8 (mkF m 52 #[.val (.int p1), .val (.int ch), .val (.int (ch >>> ((5 : Int32) &&& 31))), .val (.int (ch &&& (31 : Int32))), .val (.int (own_exp ch))] [(.int (1 : Int32))]) s₁ F0 := fun t k => C8 t (by
    refine XS.iload X8.here hx rfl (hb hby at_42) rfl ?_
    show Steps p.tables e below (T8.setTop (mkF m 44 #[.val (.int p1), .val (.int ch), .val (.int (ch >>> ((5 : Int32) &&& 31))), .val (.int (ch &&& (31 : Int32))), .val (.int (own_exp ch))] [(.int (own_exp ch)), (.int (own_cap ch))])) _
    refine XS.icmpNo X8.here hx rfl (hb hby at_44) rfl (teq (own_law ch hch)).2 ?_
    show Steps p.tables e below (T8.setTop (mkF m 47 #[.val (.int p1), .val (.int ch), .val (.int (ch >>> ((5 : Int32) &&& 31))), .val (.int (ch &&& (31 : Int32))), .val (.int (own_exp ch))] [])) _
    refine XS.iconst X8.here hx rfl (hb hby at_47) ?_
    show Steps p.tables e below (T8.setTop (mkF m 48 #[.val (.int p1), .val (.int ch), .val (.int (ch >>> ((5 : Int32) &&& 31))), .val (.int (ch &&& (31 : Int32))), .val (.int (own_exp ch))] [(.int (1 : Int32))])) _
    refine XS.goto X8.here hx rfl (pc0 := 48) (pc' := 52) rfl (hb hby at_48) (by decide) (by decide) ?_
    exact k)
  obtain ⟨fs, hr, hrun, hended, hW, hsame⟩ := X8.leave (v := (some (.int (nar .boolean (1 : Int32))))) (fun h => by rw [Bd.returns] at h; cases h)
  refine ⟨_, _, pre0 _ (C9 _ ?_), hrun, hended, _, _, rfl, ?_, ⟨_, rfl⟩, hW, hsame.mono (by decide) (by decide)⟩
  · exact retN X8 hx (t := .boolean) Bd.returns (by simp) (hb hby at_52) hr
  · show Q0 Z p1 h0 n0 _ T8.heap _
    exact ⟨rfl, N8⟩
set_option maxRecDepth 65536 in
set_option maxHeartbeats 40000000 in
theorem comes_1 {Post : Tables → Env → Array Value → State → Outcome → State → Prop} (hpost : ∀ tb e args s v u, (limb_1_1.after args s (.returned v) u = true ∧ limb_1_2.after args s (.returned v) u = true ∧ True) → FrameEnd s (.returned v) u (Jvm.fieldLocs frame_1_writes args s ++ Jvm.arrayLocs frame_1_arrays args s ++ Jvm.staticLocs frame_1_statics s) 0 0 → Post tb e args s (.returned v) u) :
    ArmFor flags0 classFile x code maxLocals ret World_1 tables_1 room_1 Calls_1 rest_1 Pre_1 Post := by
  intro l hfl _ _ p e ha hc hk s m args below hf hA hF happ hP
  obtain ⟨hcalls, hrest, hpre⟩ := hP
  obtain ⟨-, -, -, hnamed, -, -, -, hat⟩ := (Spec.applies_iff hf).mp happ
  obtain ⟨hg, hn⟩ := and_e (Cond.before_iff.mp (show (Jvm.Cond.and given_1 narrow_1).before args s = true from hpre))
  obtain ⟨h1, j0⟩ := and_e hg
  have i0 := j0
  obtain ⟨w0, rfl⟩ : ∃ w0 : Value, args = #[w0] := by
    have hs : args.size = 1 := by simpa [Cond.value, given_1] using h1
    obtain ⟨L⟩ := args
    match L, hs with
    | [w0], _ => exact ⟨w0, rfl⟩
  have hw := fun d (hd : d ∈ tables_1) => atoms_spec (ws := Jvm.Cond.code x code maxLocals ret :: tables_1) hat d (List.mem_cons_of_mem _ hd)
  obtain ⟨v0, e0⟩ := is_v i0
  obtain rfl : w0 = (.int v0) := Option.some.inj e0
  obtain ⟨n, o, h1, h2, h3, _, L, rfl, ⟨rfl, N⟩, hq⟩ := rm0 l s _ hw tables_1 v0 s.heap s.heap.size (Nat.le_refl _) p e ha hc hk s m _ below hf ((Spec.applies_iff_loose hf).mp happ).1 ⟨rfl, State.Warmed39.refl s, rfl⟩ trivial
  refine ⟨n, _, h1, h2, h3, hpost _ _ _ _ _ _ ⟨Cond.after_iff.mpr rfl, Cond.after_iff.mpr (eq_i res_at (Term.int_eval (1)) rfl), trivial⟩ ⟨hq.1, hq.2.1, (hq.2.2.sift fun y hy => Or.inr (N y hy)).mono (by decide) (by decide)⟩⟩
theorem main_1_1 : Claimed_1_1 := comes_1 fun _ _ _ _ _ _ h hF => ⟨h.1, hF⟩
theorem main_1_2 : Claimed_1_2 := comes_1 fun _ _ _ _ _ _ h hF => ⟨h.2.1, hF⟩
end Jvm.Pilot.@@N@@
namespace Jvm.Pilot.@@N@@
open Jvm Jvm.ClassFile Sem Op Lib Jvm.Free Jvm.Stand Jvm.Pilot.@@N@@.Jvm.D
/-! MADE BY PROGRAM (witnessworld.py) out of the Statement's table words and the real class files: 9 classes; the members and pool entries that the words name. The judged class is class 1, her method 1. -/
namespace start1
open Jvm.ClassFile
def u (s : String) : CpInfo := .utf8 (stringToUtf16 s)
/-- a pool by its gaps: so many unusable entries, then the entry; so many at the end -/
def gap : Nat → List CpInfo → List CpInfo
  | 0, r => r
  | n + 1, r => .unusable :: gap n r
def poolList (es : List (Nat × CpInfo)) (last : Nat) : List CpInfo := es.foldr (fun e r => gap e.1 (e.2 :: r)) (gap last [])
def pool (es : List (Nat × CpInfo)) (last : Nat) : Array CpInfo := ⟨poolList es last⟩
def fileOf (pool : Array CpInfo) (this : Nat) (attrs : Array Attribute := #[]) (ms : Array MethodInfo := #[]) (fl : Nat := 33) (sup : Nat := 0) (ifs : Array Nat := #[]) (fds : Array FieldInfo := #[]) : ClassFile where
  minorVersion := 0
  majorVersion := 65
  constantPool := pool
  accessFlags := fl
  thisClass := this
  superClass := sup
  interfaces := ifs
  fields := fds
  methods := ms
  attributes := attrs
def plain (name : String) (sup : Option ClassId) : Class where
  name := name
  kind := .ordinary
  loader := none
  accessFlags := 33
  super := sup
  interfaces := #[]
  cf := none
  fields := #[]
  methods := #[]
  instanceTypes := #[]
  staticTypes := #[]
  resolved := #[]
  callSites := []
  init := .initialized
  statics := none
  mirror := none

def pool0 : Array CpInfo := pool [(5, u "<init>"), (0, u "()V"), (1, .class_ 10), (1, u "java/lang/Object")] 113

def k0m0 : Method := { name := "<init>", desc := "()V", sig := { parameters := [], returnType := none }, accessFlags := 1, code := none }
/-- java/lang/Object -/
def k0 : Class := { plain "java/lang/Object" none with
  accessFlags := 33
  interfaces := #[]
  cf := some (fileOf pool0 8 #[] #[{ accessFlags := 1, nameIndex := 5, descriptorIndex := 6, attributes := #[] }] 33 0 #[] #[])
  fields := #[]
  methods := #[k0m0]
  instanceTypes := #[]
  staticTypes := #[]
  resolved := Array.replicate 124 none
  statics := none }

def pool1 : Array CpInfo := pool [(2, .class_ 4), (1, u "java/lang/Object"), (0, u "<init>"), (0, u "()V"), (0, .integer 65535), (0, .methodref 9 10), (0, .class_ 11), (0, .nameAndType 12 13), (0, u "com/example/iskar/iskar/Ascii"), (0, u "isCapitalLetter"), (0, u "(C)Z"), (0, .class_ 15), (0, u "com/example/iskar/iskar/AsciiIsCapitalLetterPinLaw"), (2, u "law"), (0, u "(I)Z")] 3

def k1m0 : Method := { name := "<init>", desc := "()V", sig := { parameters := [], returnType := none }, accessFlags := 2, code := none }
def k1c1 : Code := { maxStack := 2, maxLocals := 5, code := code, exceptionTable := #[], attributes := #[] }
def k1m1 : Method := { name := "law", desc := "(I)Z", sig := { parameters := [.int], returnType := some .boolean }, accessFlags := 9, code := some k1c1 }
/-- com/example/iskar/iskar/AsciiIsCapitalLetterPinLaw -/
def k1 : Class := { plain "com/example/iskar/iskar/AsciiIsCapitalLetterPinLaw" (some 0) with
  accessFlags := 49
  interfaces := #[]
  cf := some (fileOf pool1 14 #[] #[{ accessFlags := 2, nameIndex := 5, descriptorIndex := 6, attributes := #[] }, { accessFlags := 9, nameIndex := 18, descriptorIndex := 19, attributes := #[] }] 49 2 #[] #[])
  fields := #[]
  methods := #[k1m0, k1m1]
  instanceTypes := #[]
  staticTypes := #[]
  resolved := Array.replicate 23 none
  statics := none }

def pool2 : Array CpInfo := pool [(2, .class_ 4), (1, u "java/lang/Object"), (0, u "<init>"), (0, u "()V"), (7, .class_ 16), (1, u "com/example/iskar/iskar/Ascii"), (9, u "(C)Z"), (4, u "isCapitalLetter")] 2

def k2m0 : Method := { name := "<init>", desc := "()V", sig := { parameters := [], returnType := none }, accessFlags := 2, code := none }
def k2c1 : Code := { maxStack := 2, maxLocals := 1, code := prog_1_method_5_code, exceptionTable := #[], attributes := #[] }
def k2m1 : Method := { name := "isCapitalLetter", desc := "(C)Z", sig := { parameters := [.char], returnType := some .boolean }, accessFlags := 9, code := some k2c1 }
/-- com/example/iskar/iskar/Ascii -/
def k2 : Class := { plain "com/example/iskar/iskar/Ascii" (some 0) with
  accessFlags := 49
  interfaces := #[]
  cf := some (fileOf pool2 14 #[] #[{ accessFlags := 2, nameIndex := 5, descriptorIndex := 6, attributes := #[] }, { accessFlags := 9, nameIndex := 31, descriptorIndex := 26, attributes := #[] }] 49 2 #[] #[])
  fields := #[]
  methods := #[k2m0, k2m1]
  instanceTypes := #[]
  staticTypes := #[]
  resolved := Array.replicate 34 none
  statics := none }

def pool3 : Array CpInfo := pool [(1, u "java/lang/Cloneable"), (0, .class_ 1), (0, u "java/lang/Object"), (0, .class_ 3)] 3

/-- java/lang/Cloneable -/
def k3 : Class := { plain "java/lang/Cloneable" (some 0) with
  accessFlags := 1537
  interfaces := #[]
  cf := some (fileOf pool3 2 #[] #[] 1537 4 #[] #[])
  fields := #[]
  methods := #[]
  instanceTypes := #[]
  staticTypes := #[]
  resolved := Array.replicate 8 none
  statics := none }

def pool4 : Array CpInfo := pool [(1, u "java/io/Serializable"), (0, .class_ 1), (0, u "java/lang/Object"), (0, .class_ 3)] 3

/-- java/io/Serializable -/
def k4 : Class := { plain "java/io/Serializable" (some 0) with
  accessFlags := 1537
  interfaces := #[]
  cf := some (fileOf pool4 2 #[] #[] 1537 4 #[] #[])
  fields := #[]
  methods := #[]
  instanceTypes := #[]
  staticTypes := #[]
  resolved := Array.replicate 8 none
  statics := none }

/-- the primitive byte -/
def k5 : Class := { plain "byte" none with kind := .primitive 'B', accessFlags := 0x411 }
/-- [B -/
def k6 : Class := { plain "[B" (some 0) with kind := .array 5 .byte, interfaces := #[3, 4], accessFlags := 1041 }

/-- the primitive int -/
def k7 : Class := { plain "int" none with kind := .primitive 'I', accessFlags := 0x411 }
/-- [I -/
def k8 : Class := { plain "[I" (some 0) with kind := .array 7 .int, interfaces := #[3, 4], accessFlags := 1041 }

def heap : Heap := #[]
def classes : Array Class := #[k0, k1, k2, k3, k4, k5, k6, k7, k8]
def interned : List (Array UInt16 × Addr) := []
def slotsUsed : Nat := 0
def theMethod : MethodId := ⟨1, 1⟩
def args0 : Array Value := #[.int 65]
def aboutOver (below : List Frame) : State where
  vm := { classes := classes, interned := interned.toArray }
  heap := heap
  slotsUsed := slotsUsed
  threads := #[{ frames := .invoking theMethod args0 :: below }]
def below0 : List Frame := [.native { method := ⟨0, 0⟩, args := #[] }]
def about1 : State := aboutOver below0
def p0 : Program := .bare "" "" ""
def e0 : Env := launch0.env 0 0 0
theorem w_frames : about1.frames = Frame.invoking theMethod args0 :: below0 := rfl
set_option maxRecDepth 65536 in
theorem w_args : argsFit about1.vm theMethod args0 = true := by decide +kernel
set_option maxRecDepth 65536 in
theorem w_heap : heapFits about1 = true := by decide +kernel
set_option maxRecDepth 65536 in
theorem w_runnable : about1.curStatus? = some .runnable := by decide +kernel
set_option maxRecDepth 65536 in
theorem w_alone : about1.alone = true := by decide +kernel
set_option maxRecDepth 65536 in
theorem w_named : about1.methodNamed? x = some theMethod := by decide +kernel
set_option maxRecDepth 65536 in
theorem w_hears : about1.hears theMethod below0 = true := by decide +kernel
set_option maxRecDepth 65536 in
theorem w_ripe : about1.ripe theMethod args0 below0 = true := by decide +kernel
theorem w_running : about1.status = .running := rfl
set_option maxRecDepth 65536 in
theorem w_room : about1.hasRoom e0.platform room_1 = true :=
  launch0.hasRoom_least _ room_1 (by decide +kernel) (by decide +kernel) (by decide +kernel) (by decide +kernel) (by decide +kernel) (by decide +kernel)
theorem allAtoms_all (ts : List Jvm.Cond) (a : Array Jvm.Value) (st : Jvm.State) : (allAtoms ts).before a st = ts.all (fun c => c.before a st) := by
  induction ts with
  | nil => rfl
  | cons c t ih =>
    show (Jvm.Cond.and c (allAtoms t)).before a st = _
    rw [Jvm.Cond.before_and, ih, List.all_cons]
def words1 : List Jvm.Cond := Jvm.Cond.code x code maxLocals ret :: tables_1
/-- a 'code' word, met by the world's own term for the bytes: nothing is compared byte by byte -/
theorem code_word {y : MethodName} {bytes : ByteArray} {mx : Nat} {rt : Option FieldType} {a : Array Value} {s : State} {m : MethodId} {meth : Method} {c : Code} (h1 : s.methodNamed? y = some m) (h2 : s.vm.method? m = some meth) (h3 : meth.code = some c) (h4 : c.code = bytes)
    (h5 : (c.maxLocals == mx && c.exceptionTable.isEmpty && decide (c.maxStack ≤ mostOperands) && decide (meth.sig.returnType = rt) && !meth.locks && decide (parseMethodDescriptor y.desc = some meth.sig)) = true) : (Jvm.Cond.code y bytes mx rt).before a s = true := by
  simp only [Bool.and_eq_true, beq_iff_eq, Bool.not_eq_true', decide_eq_true_eq] at h5
  obtain ⟨⟨⟨⟨⟨g1, g2⟩, g3⟩, g4⟩, g5⟩, g6⟩ := h5
  simp [Cond.before, Cond.holds, Cond.value, h1, h2, h3, h4, g1, g2, g3, g4, g5, g6]
def isCode : Jvm.Cond → Bool
  | .code _ _ _ _ => true
  | _ => false
theorem all_split {L : List Jvm.Cond} {P : Jvm.Cond → Bool} (h1 : L.all (fun c => isCode c || P c) = true) (h2 : ∀ c ∈ L.filter isCode, P c = true) : L.all P = true := by
  refine List.all_eq_true.mpr fun c hc => ?_
  have h := List.all_eq_true.mp h1 c hc
  rcases Bool.eq_false_or_eq_true (isCode c) with hi | hi
  · exact h2 c (List.mem_filter.mpr ⟨hc, hi⟩)
  · simpa [hi] using h
set_option maxRecDepth 65536 in
theorem w_c0 : (Jvm.Cond.code x code maxLocals ret).before args0 about1 = true := code_word (m := ⟨1, 1⟩) (meth := k1m1) (c := k1c1) (by decide +kernel) rfl rfl rfl (by decide +kernel)
set_option maxRecDepth 65536 in
theorem w_c1 : (Jvm.Cond.code ({ cls := "com/example/iskar/iskar/Ascii", name := "isCapitalLetter", desc := "(C)Z" } : Jvm.MethodName) prog_1_method_5_code (1 : Nat) (Option.some Jvm.ClassFile.FieldType.boolean)).before args0 about1 = true := code_word (m := ⟨2, 1⟩) (meth := k2m1) (c := k2c1) (by decide +kernel) rfl rfl rfl (by decide +kernel)
def codes1 : List Jvm.Cond := [Jvm.Cond.code x code maxLocals ret, Jvm.Cond.code ({ cls := "com/example/iskar/iskar/Ascii", name := "isCapitalLetter", desc := "(C)Z" } : Jvm.MethodName) prog_1_method_5_code (1 : Nat) (Option.some Jvm.ClassFile.FieldType.boolean)]
set_option maxRecDepth 65536 in
theorem codes_eq : words1.filter isCode = codes1 := rfl
theorem w_codes : ∀ c ∈ words1.filter isCode, c.before args0 about1 = true := by
  rw [codes_eq]
  intro c hc
  simp only [codes1, List.mem_cons, List.not_mem_nil, or_false] at hc
  rcases hc with rfl | rfl
  · exact w_c0
  · exact w_c1
set_option maxRecDepth 65536 in
theorem w_t1 : words1.all (fun c => isCode c || c.before args0 about1) = true := by decide +kernel
theorem w_tables : (allAtoms (Jvm.Cond.code x code maxLocals ret :: tables_1)).before args0 about1 = true := by
  rw [allAtoms_all]
  show words1.all (fun c => c.before args0 about1) = true
  refine all_split ?_ w_codes
  rw [w_t1]
set_option maxRecDepth 65536 in
theorem w_case : (Jvm.Cond.and given_1 narrow_1).before args0 about1 = true := by decide +kernel
theorem w_applies : (headSpec (Jvm.Cond.code x code maxLocals ret :: tables_1) room_1).applies x e0.platform about1 = true :=
  (Spec.applies_iff w_frames).mpr ⟨w_running, w_runnable, w_alone, w_named, w_hears, w_ripe, w_room, w_tables⟩
theorem atStart : AtStart classFile x code maxLocals ret World_1 tables_1 room_1 Calls_1 rest_1 Pre_1 launch0 p0 e0 about1 theMethod args0 below0 :=
  ⟨lists_1, trivial, launch0.admits_env _ _ _, launch0.least_env, fairChoices_fair.cas, fairChoices_fair.clock, w_frames, w_args, w_heap, w_applies, trivial, trivial, w_case⟩
end start1
theorem witness_1 : WitnessClaimed_1 := ⟨start1.p0, start1.e0, start1.about1, start1.theMethod, start1.args0, start1.below0, start1.atStart⟩
end Jvm.Pilot.@@N@@
