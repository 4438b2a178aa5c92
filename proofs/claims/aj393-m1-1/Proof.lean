import JvmDerived
import JvmDerived.Pilot.@@N@@Statement
import JvmDerived.Pilot.@@N@@Code
set_option linter.unusedVariables false
set_option linter.unusedSimpArgs false
namespace Jvm.RoadKit
open Sem ClassFile Op Lib Jvm.Stand Jvm.Free Jvm.LawKit
section New
variable {p : Program} {l : Launch} {e : Env} {R : Room} {s : State} {m : MethodId} {args : Array Value} {below : List Frame} {meth : Method} {c : Code} {T : State} {locs : List Loc} {cells slots : Nat}
theorem retI (X : Stand p l e R s m args below meth c T locs cells slots) (hx : p.tables.exec = Jvm.exec) {pc : Nat} {Ls : Array Slot} {z : Int32} {rest : List Value} (hret : meth.sig.returnType = some .int) (hd : decode c.code pc = .ok (.ireturn, 1)) {fs : List Frame}
    (hl : ∀ (f : JFrame) (acts : List Action), f.method = m → f.locked = none → f.entered = [] → (doReturn e (T.setTop f) acts (some (.int z))).1 = T.setFrames fs) : Steps p.tables e below (T.setTop (mkF m pc Ls (.int z :: rest))) (T.setFrames fs) := by
  have hm' : T.vm.method? m = some meth := X.method'
  have hn : narrow .int (.int z) = .int z := rfl
  show Steps p.tables e below (T.setTop { method := m, pc := pc, locals := Ls, stack := _ :: rest, locked := none }) _
  jvm_step X.here [X.here.top, hx, hd, hm', hret, hn]
  first | (intro acts; rw [hl _ acts rfl rfl rfl]) | rw [hl _ _ rfl rfl rfl]
  exact Steps.refl _
end New
end Jvm.RoadKit
namespace Jvm.Pilot.@@N@@
open Jvm Jvm.ClassFile Sem Op Lib Jvm.Free Jvm.Stand Jvm.LawKit Jvm.RoadKit Bundle Jvm.Pilot.@@N@@.Jvm.D
/-- whoever comes from the frame f (over T) comes from the frame f0 (over T0) -/
abbrev Go (p : Program) (e : Env) (below : List Frame) (T : State) (f : JFrame) (T0 : State) (f0 : JFrame) : Prop := ∀ t, Steps p.tables e below (T.setTop f) t → Steps p.tables e below (T0.setTop f0) t
/-- the literal's text, as the sheet's word has it -/
def own_lit : String := match (tables_1[4]? : Option Jvm.Cond) with
  | some (Jvm.Cond.stringLink _ _ t) => t
  | _ => ""
theorem own_text : (∀ c ∈ own_lit.toList, c.toNat < 256) ∧ own_lit.toList.map (fun c => Value.int (Jvm.Lit.byteI c.toNat.toUInt16)) = [Value.int 45, .int 46, .int 95, .int 126] := by decide +kernel
def own_enc (c : Int32) : Int32 := if ¬ c < 0 ∧ ¬ 255 < c then 1 else 0
def own_max (a b : Int32) : Int32 := if a < b then b else a
def own_min (a b : Int32) : Int32 := if b < a then b else a
def own_ix (x : Int32) : Int32 := if 45 = x then 0 else if 46 = x then 1 else if 95 = x then 2 else if 126 = x then 3 else -1
def own_sl (c : Int32) : Int32 := if ¬ c < 0 ∧ ¬ 255 < c then own_ix (c.toInt8.toInt32) else -1
def own_un (c : Int32) : Int32 := if ¬ c < 65 ∧ ¬ 90 < c then 1 else if ¬ c < 97 ∧ ¬ 122 < c then 1 else if ¬ c < 48 ∧ ¬ 57 < c then 1 else if own_sl c < 0 then 0 else 1
def own_ref (c : Int32) : Int32 := if ¬ c < 128 then 0 else if c = 45 ∨ c = 46 ∨ c = 95 ∨ c = 126 then 1 else if ¬ c < 48 ∧ ¬ 57 < c then 1 else if ¬ c < 65 ∧ ¬ 90 < c then 1 else if ¬ c < 97 ∧ ¬ 122 < c then 1 else 0
theorem own_enc_nar (c : Int32) : nar .boolean (own_enc c) = own_enc c := by unfold own_enc; split <;> rfl
theorem own_bool (P : Prop) [Decidable P] : (if P then (1 : Int32) else 0) = 0 ∨ (if P then (1 : Int32) else 0) = 1 := by by_cases h : P <;> simp [h]
theorem own_un_nar (c : Int32) : nar .boolean (own_un c) = own_un c := by unfold own_un; (repeat' split) <;> rfl
theorem own_ref_nar (c : Int32) : nar .boolean (own_ref c) = own_ref c := by unfold own_ref; (repeat' split) <;> rfl
theorem own_sl_neg (c : Int32) (h0 : 0 ≤ c.toInt) : own_sl c < 0 ↔ ¬ (c = 45 ∨ c = 46 ∨ c = 95 ∨ c = 126) := by
  have q := c_i2b c
  have e0 : (0 : Int32).toInt = 0 := rfl
  have e1 : (45 : Int32).toInt = 45 := rfl
  have e2 : (46 : Int32).toInt = 46 := rfl
  have e3 : (95 : Int32).toInt = 95 := rfl
  have e4 : (126 : Int32).toInt = 126 := rfl
  have e5 : (255 : Int32).toInt = 255 := rfl
  have em : (-1 : Int32) < 0 := by decide
  unfold own_sl own_ix
  simp only [← Int32.toInt_inj, Int32.lt_iff_toInt_lt (x := c), Int32.lt_iff_toInt_lt (y := c), e0, e1, e2, e3, e4, e5]
  by_cases a : ¬ c.toInt < 0 ∧ ¬ 255 < c.toInt
  · rw [if_pos a]
    by_cases h1 : 45 = (c.toInt8.toInt32).toInt
    · rw [if_pos h1]; constructor
      · intro z; exact absurd z (by decide)
      · intro z; exfalso; omega
    · rw [if_neg h1]
      by_cases h2 : 46 = (c.toInt8.toInt32).toInt
      · rw [if_pos h2]; constructor
        · intro z; exact absurd z (by decide)
        · intro z; exfalso; omega
      · rw [if_neg h2]
        by_cases h3 : 95 = (c.toInt8.toInt32).toInt
        · rw [if_pos h3]; constructor
          · intro z; exact absurd z (by decide)
          · intro z; exfalso; omega
        · rw [if_neg h3]
          by_cases h4 : 126 = (c.toInt8.toInt32).toInt
          · rw [if_pos h4]; constructor
            · intro z; exact absurd z (by decide)
            · intro z; exfalso; omega
          · rw [if_neg h4]; constructor
            · intro _; omega
            · intro _; exact em
  · rw [if_neg a]; constructor
    · intro _; omega
    · intro _; exact em
theorem own_law (c : Int32) (h0 : 0 ≤ c.toInt) : own_un c = own_ref c := by
  have q := own_sl_neg c h0
  have e : (if own_sl c < 0 then (0 : Int32) else 1) = if (c = 45 ∨ c = 46 ∨ c = 95 ∨ c = 126) then 1 else 0 := by
    by_cases z : (c = 45 ∨ c = 46 ∨ c = 95 ∨ c = 126)
    · rw [if_pos z, if_neg (fun w => q.mp w z)]
    · rw [if_neg z, if_pos (q.mpr z)]
  unfold own_un own_ref
  rw [e]
  have e1 : (45 : Int32).toInt = 45 := rfl
  have e2 : (46 : Int32).toInt = 46 := rfl
  have e3 : (95 : Int32).toInt = 95 := rfl
  have e4 : (126 : Int32).toInt = 126 := rfl
  have e5 : (128 : Int32).toInt = 128 := rfl
  have e6 : (48 : Int32).toInt = 48 := rfl
  have e7 : (57 : Int32).toInt = 57 := rfl
  have e8 : (65 : Int32).toInt = 65 := rfl
  have e9 : (90 : Int32).toInt = 90 := rfl
  have e10 : (97 : Int32).toInt = 97 := rfl
  have e11 : (122 : Int32).toInt = 122 := rfl
  simp only [← Int32.toInt_inj, Int32.lt_iff_toInt_lt, e1, e2, e3, e4, e5, e6, e7, e8, e9, e10, e11]
  (repeat' split) <;> first | rfl | (exfalso; omega)
theorem d6_0 : decode jdk_42_method_152_code 0 = .ok (.getstatic 38, 3) := by decide +kernel
theorem d6_3 : decode jdk_42_method_152_code 3 = .ok (.ifCond .eq 10, 3) := by decide +kernel
theorem d6_6 : decode jdk_42_method_152_code 6 = .ok (.aload_n 0, 1) := by decide +kernel
theorem d6_7 : decode jdk_42_method_152_code 7 = .ok (.getfield 15, 3) := by decide +kernel
theorem d6_10 : decode jdk_42_method_152_code 10 = .ok (.goto 4, 3) := by decide +kernel
theorem d6_13 : decode jdk_42_method_152_code 13 = .ok (.iconst 1, 1) := by decide +kernel
theorem d6_14 : decode jdk_42_method_152_code 14 = .ok (.ireturn, 1) := by decide +kernel
theorem pn_6 : plainName "java/lang/String" = true := by first | (simp [plainName, overriddenIn]; done) | decide +kernel
theorem pd_6 : parseMethodDescriptor "()B" = some ⟨[], some .byte⟩ := by decide +kernel
theorem ef_6 (m : MethodId) (x0 : Addr) : entryFrame m #[(.ref x0)] 1 = mkF m 0 #[.val (.ref x0)] [] := by first | (simp [entryFrame, mkF, argsToLocals, Value.category]; done) | rfl
def Q6 (Z : State) (a1 : Addr) (cs : Int32) (h0 : Heap) (n0 : Nat) (v : Option Value) (h : Heap) (L : List Loc) : Prop := v = some (.int 0) ∧ Fr n0 L ∧ h = h0
set_option maxRecDepth 65536 in
set_option maxHeartbeats 40000000 in
theorem rm6 (l : Launch) (Z : State) (a0 : Array Value) (hw : ∀ d ∈ tables_1, d.before a0 Z = true) (ws : List Jvm.Cond) (a1 : Addr) (cs : Int32) (h0 : Heap) (n0 : Nat) (Z0 : n0 ≤ h0.size) (SC : Sta Z h0 "java/lang/String" "COMPACT_STRINGS" "Z" (.int cs)) (hcs : ¬ cs = 0) (Fc : Fld Z h0 a1 "java/lang/String" "coder" "B" (.int 0)) :
    MetFree l (⟨"java/lang/String", "coder", "()B"⟩ : MethodName) (head1 (Jvm.Cond.code (⟨"java/lang/String", "coder", "()B"⟩ : MethodName) jdk_42_method_152_code 1 (some .byte) :: ws) ({ frames := 0, cells := 0, slots := 0, locals := 0 } : Room)) (fun a U => a = #[(.ref a1)] ∧ Z.Warmed39 U.vm ∧ U.heap = h0) (fun _ _ _ _ _ => True) (fun _ U o U' => ∃ v L, o = .returned v ∧ Q6 Z a1 cs h0 n0 v U'.heap L ∧ FrameEnd U o U' L ({ frames := 0, cells := 0, slots := 0, locals := 0 } : Room).cells ({ frames := 0, cells := 0, slots := 0, locals := 0 } : Room).slots) := by
  refine MetFree.of_bodySF (plainFor_of_name pn_6) hisR ?_
  intro p e s m args below meth c s₁ Bd hml0 hP hK
  obtain ⟨rfl, hZ, hh⟩ := hP
  have hx := Bd.exec
  have hby := Bd.bytes
  have hml : c.maxLocals = 1 := hml0
  have hown : s.vm.findClass "java/lang/String" = some m.cls := findClass_of_methodNamed Bd.named
  have hnm := (name_of_methodNamed Bd.named Bd.method).1
  have X0 : Stand p l e ({ frames := 0, cells := 0, slots := 0, locals := 0 } : Room) s m #[(.ref a1)] below meth c s₁ [] 0 0 := Stand.of_body Bd
  have e0 : s₁.heap = h0 := by rw [← hh, Bd.state]; rfl
  have N0 := Fr.nil n0
  obtain ⟨F0, hF0⟩ : ∃ F0, F0 = entryFrame m #[(.ref a1)] 1 := ⟨_, rfl⟩
  have C0 : Go p e below s₁ (mkF m 0 #[.val (.ref a1)] []) s₁ F0 := fun t k => by rw [hF0]; exact castTop (ef_6 m a1) k
  have pre0 : ∀ t, Steps p.tables e below (s₁.setTop F0) t → Steps p.tables e below (s₁.setTop (entryFrame m #[(.ref a1)] 1)) t := fun t k => by rw [← hF0]; exact k
  obtain ⟨T1, X1, e1, st1⟩ := getS2 X0 hx hZ hown (host := "") (Or.inl (hw _ (List.mem_of_getElem? (i := 27) rfl))) Via.refl e0 SC (g := (mkF m 0 #[.val (.ref a1)] [])) rfl (hb hby d6_0)
  have C1 : Go p e below T1 (mkF m 3 #[.val (.ref a1)] [(.int cs)]) s₁ F0 := fun t k => C0 t (st1 t k)
  have C2 : Go p e below T1 (mkF m 7 #[.val (.ref a1)] [(.ref a1)]) s₁ F0 := fun t k => C1 t (by
    refine XS.ifNo X1.here hx rfl (hb hby d6_3) rfl ((if0 _ _).trans (feq hcs).1) ?_
    show Steps p.tables e below (T1.setTop (mkF m 6 #[.val (.ref a1)] [])) _
    refine XS.aloadN X1.here hx rfl (hb hby d6_6) rfl rfl ?_
    exact k)
  obtain ⟨T3, X3, e3, st3⟩ := getF X1 hx hZ hown (host := "") (Or.inl (hw _ (List.mem_of_getElem? (i := 28) rfl))) Via.refl e1 Fc (g := (mkF m 7 #[.val (.ref a1)] [(.ref a1)])) rfl rfl (hb hby d6_7)
  have C3 : Go p e below T3 (mkF m 10 #[.val (.ref a1)] [(.int (0 : Int32))]) s₁ F0 := fun t k => C2 t (st3 t k)
  have C4 : Go p e below T3 (mkF m 14 #[.val (.ref a1)] [(.int (0 : Int32))]) s₁ F0 := fun t k => C3 t (by
    refine XS.goto X3.here hx rfl (pc0 := 10) (pc' := 14) rfl (hb hby d6_10) (by decide) (by decide) ?_
    exact k)
  obtain ⟨fs, hr, hrun, hended, hW, hsame⟩ := X3.leave (v := (some (.int (nar .byte (0 : Int32))))) (fun h => by rw [Bd.returns] at h; cases h)
  refine ⟨_, _, pre0 _ (C4 _ ?_), hrun, hended, _, _, rfl, ?_, ⟨_, rfl⟩, hW, hsame.mono (by decide) (by decide)⟩
  · exact retN X3 hx (t := .byte) Bd.returns (by simp) (hb hby d6_14) hr
  · show Q6 Z a1 cs h0 n0 _ T3.heap _
    rw [e3]
    exact ⟨rfl, N0, rfl⟩
theorem d4_0 : decode jdk_42_method_154_code 0 = .ok (.getstatic 38, 3) := by decide +kernel
theorem d4_3 : decode jdk_42_method_154_code 3 = .ok (.ifCond .eq 14, 3) := by decide +kernel
theorem d4_6 : decode jdk_42_method_154_code 6 = .ok (.aload_n 0, 1) := by decide +kernel
theorem d4_7 : decode jdk_42_method_154_code 7 = .ok (.getfield 15, 3) := by decide +kernel
theorem d4_10 : decode jdk_42_method_154_code 10 = .ok (.ifCond .ne 7, 3) := by decide +kernel
theorem d4_13 : decode jdk_42_method_154_code 13 = .ok (.iconst 1, 1) := by decide +kernel
theorem d4_14 : decode jdk_42_method_154_code 14 = .ok (.goto 4, 3) := by decide +kernel
theorem d4_17 : decode jdk_42_method_154_code 17 = .ok (.iconst 0, 1) := by decide +kernel
theorem d4_18 : decode jdk_42_method_154_code 18 = .ok (.ireturn, 1) := by decide +kernel
theorem pn_4 : plainName "java/lang/String" = true := by first | (simp [plainName, overriddenIn]; done) | decide +kernel
theorem pd_4 : parseMethodDescriptor "()Z" = some ⟨[], some .boolean⟩ := by decide +kernel
theorem ef_4 (m : MethodId) (x0 : Addr) : entryFrame m #[(.ref x0)] 1 = mkF m 0 #[.val (.ref x0)] [] := by first | (simp [entryFrame, mkF, argsToLocals, Value.category]; done) | rfl
def Q4 (Z : State) (a1 : Addr) (cs : Int32) (h0 : Heap) (n0 : Nat) (v : Option Value) (h : Heap) (L : List Loc) : Prop := v = some (.int 1) ∧ Fr n0 L ∧ h = h0
set_option maxRecDepth 65536 in
set_option maxHeartbeats 40000000 in
theorem rm4 (l : Launch) (Z : State) (a0 : Array Value) (hw : ∀ d ∈ tables_1, d.before a0 Z = true) (ws : List Jvm.Cond) (a1 : Addr) (cs : Int32) (h0 : Heap) (n0 : Nat) (Z0 : n0 ≤ h0.size) (SC : Sta Z h0 "java/lang/String" "COMPACT_STRINGS" "Z" (.int cs)) (hcs : ¬ cs = 0) (Fc : Fld Z h0 a1 "java/lang/String" "coder" "B" (.int 0)) :
    MetFree l (⟨"java/lang/String", "isLatin1", "()Z"⟩ : MethodName) (head1 (Jvm.Cond.code (⟨"java/lang/String", "isLatin1", "()Z"⟩ : MethodName) jdk_42_method_154_code 1 (some .boolean) :: ws) ({ frames := 0, cells := 0, slots := 0, locals := 0 } : Room)) (fun a U => a = #[(.ref a1)] ∧ Z.Warmed39 U.vm ∧ U.heap = h0) (fun _ _ _ _ _ => True) (fun _ U o U' => ∃ v L, o = .returned v ∧ Q4 Z a1 cs h0 n0 v U'.heap L ∧ FrameEnd U o U' L ({ frames := 0, cells := 0, slots := 0, locals := 0 } : Room).cells ({ frames := 0, cells := 0, slots := 0, locals := 0 } : Room).slots) := by
  refine MetFree.of_bodySF (plainFor_of_name pn_4) hisR ?_
  intro p e s m args below meth c s₁ Bd hml0 hP hK
  obtain ⟨rfl, hZ, hh⟩ := hP
  have hx := Bd.exec
  have hby := Bd.bytes
  have hml : c.maxLocals = 1 := hml0
  have hown : s.vm.findClass "java/lang/String" = some m.cls := findClass_of_methodNamed Bd.named
  have hnm := (name_of_methodNamed Bd.named Bd.method).1
  have X0 : Stand p l e ({ frames := 0, cells := 0, slots := 0, locals := 0 } : Room) s m #[(.ref a1)] below meth c s₁ [] 0 0 := Stand.of_body Bd
  have e0 : s₁.heap = h0 := by rw [← hh, Bd.state]; rfl
  have N0 := Fr.nil n0
  obtain ⟨F0, hF0⟩ : ∃ F0, F0 = entryFrame m #[(.ref a1)] 1 := ⟨_, rfl⟩
  have C0 : Go p e below s₁ (mkF m 0 #[.val (.ref a1)] []) s₁ F0 := fun t k => by rw [hF0]; exact castTop (ef_4 m a1) k
  have pre0 : ∀ t, Steps p.tables e below (s₁.setTop F0) t → Steps p.tables e below (s₁.setTop (entryFrame m #[(.ref a1)] 1)) t := fun t k => by rw [← hF0]; exact k
  obtain ⟨T1, X1, e1, st1⟩ := getS2 X0 hx hZ hown (host := "") (Or.inl (hw _ (List.mem_of_getElem? (i := 27) rfl))) Via.refl e0 SC (g := (mkF m 0 #[.val (.ref a1)] [])) rfl (hb hby d4_0)
  have C1 : Go p e below T1 (mkF m 3 #[.val (.ref a1)] [(.int cs)]) s₁ F0 := fun t k => C0 t (st1 t k)
  have C2 : Go p e below T1 (mkF m 7 #[.val (.ref a1)] [(.ref a1)]) s₁ F0 := fun t k => C1 t (by
    refine XS.ifNo X1.here hx rfl (hb hby d4_3) rfl ((if0 _ _).trans (feq hcs).1) ?_
    show Steps p.tables e below (T1.setTop (mkF m 6 #[.val (.ref a1)] [])) _
    refine XS.aloadN X1.here hx rfl (hb hby d4_6) rfl rfl ?_
    exact k)
  obtain ⟨T3, X3, e3, st3⟩ := getF X1 hx hZ hown (host := "") (Or.inl (hw _ (List.mem_of_getElem? (i := 28) rfl))) Via.refl e1 Fc (g := (mkF m 7 #[.val (.ref a1)] [(.ref a1)])) rfl rfl (hb hby d4_7)
  have C3 : Go p e below T3 (mkF m 10 #[.val (.ref a1)] [(.int (0 : Int32))]) s₁ F0 := fun t k => C2 t (st3 t k)
  have C4 : Go p e below T3 (mkF m 18 #[.val (.ref a1)] [(.int (1 : Int32))]) s₁ F0 := fun t k => C3 t (by
    refine XS.ifNo X3.here hx rfl (hb hby d4_10) rfl ((if0 _ _).trans (teq (rfl : (0 : Int32) = 0)).2) ?_
    show Steps p.tables e below (T3.setTop (mkF m 13 #[.val (.ref a1)] [])) _
    refine XS.iconst X3.here hx rfl (hb hby d4_13) ?_
    show Steps p.tables e below (T3.setTop (mkF m 14 #[.val (.ref a1)] [(.int (1 : Int32))])) _
    refine XS.goto X3.here hx rfl (pc0 := 14) (pc' := 18) rfl (hb hby d4_14) (by decide) (by decide) ?_
    exact k)
  obtain ⟨fs, hr, hrun, hended, hW, hsame⟩ := X3.leave (v := (some (.int (nar .boolean (1 : Int32))))) (fun h => by rw [Bd.returns] at h; cases h)
  refine ⟨_, _, pre0 _ (C4 _ ?_), hrun, hended, _, _, rfl, ?_, ⟨_, rfl⟩, hW, hsame.mono (by decide) (by decide)⟩
  · exact retN X3 hx (t := .boolean) Bd.returns (by simp) (hb hby d4_18) hr
  · show Q4 Z a1 cs h0 n0 _ T3.heap _
    rw [e3]
    exact ⟨rfl, N0, rfl⟩
theorem d5_0 : decode jdk_42_method_54_code 0 = .ok (.aload_n 0, 1) := by decide +kernel
theorem d5_1 : decode jdk_42_method_54_code 1 = .ok (.getfield 9, 3) := by decide +kernel
theorem d5_4 : decode jdk_42_method_54_code 4 = .ok (.arraylength, 1) := by decide +kernel
theorem d5_5 : decode jdk_42_method_54_code 5 = .ok (.aload_n 0, 1) := by decide +kernel
theorem d5_6 : decode jdk_42_method_54_code 6 = .ok (.invokevirtual 335, 3) := by decide +kernel
theorem d5_9 : decode jdk_42_method_54_code 9 = .ok (.ishr, 1) := by decide +kernel
theorem d5_10 : decode jdk_42_method_54_code 10 = .ok (.ireturn, 1) := by decide +kernel
theorem pn_5 : plainName "java/lang/String" = true := by first | (simp [plainName, overriddenIn]; done) | decide +kernel
theorem pd_5 : parseMethodDescriptor "()I" = some ⟨[], some .int⟩ := by decide +kernel
theorem ef_5 (m : MethodId) (x0 : Addr) : entryFrame m #[(.ref x0)] 1 = mkF m 0 #[.val (.ref x0)] [] := by first | (simp [entryFrame, mkF, argsToLocals, Value.category]; done) | rfl
def Q5 (Z : State) (a1 bv : Addr) (k0 : ClassId) (cs : Int32) (h0 : Heap) (n0 : Nat) (v : Option Value) (h : Heap) (L : List Loc) : Prop := v = some (.int 4) ∧ Fr n0 L ∧ h = h0
set_option maxRecDepth 65536 in
set_option maxHeartbeats 40000000 in
theorem rm5 (l : Launch) (Z : State) (a0 : Array Value) (hw : ∀ d ∈ tables_1, d.before a0 Z = true) (ws : List Jvm.Cond) (a1 bv : Addr) (k0 : ClassId) (cs : Int32) (h0 : Heap) (n0 : Nat) (Z0 : n0 ≤ h0.size) (SC : Sta Z h0 "java/lang/String" "COMPACT_STRINGS" "Z" (.int cs)) (hcs : ¬ cs = 0) (Fc : Fld Z h0 a1 "java/lang/String" "coder" "B" (.int 0)) (Fv : Fld Z h0 a1 "java/lang/String" "value" "[B" (.ref bv)) (V0 : Arv Z h0 bv k0 .byte 4 [.int 45, .int 46, .int 95, .int 126] (.int 0)) (Es : Exa Z h0 a1 "java/lang/String") :
    MetFree l (⟨"java/lang/String", "length", "()I"⟩ : MethodName) (head1 (Jvm.Cond.code (⟨"java/lang/String", "length", "()I"⟩ : MethodName) jdk_42_method_54_code 1 (some .int) :: ws) ({ frames := 1, cells := 0, slots := 0, locals := 13 } : Room)) (fun a U => a = #[(.ref a1)] ∧ Z.Warmed39 U.vm ∧ U.heap = h0) (fun _ _ _ _ _ => True) (fun _ U o U' => ∃ v L, o = .returned v ∧ Q5 Z a1 bv k0 cs h0 n0 v U'.heap L ∧ FrameEnd U o U' L ({ frames := 1, cells := 0, slots := 0, locals := 13 } : Room).cells ({ frames := 1, cells := 0, slots := 0, locals := 13 } : Room).slots) := by
  refine MetFree.of_bodySF (plainFor_of_name pn_5) hisR ?_
  intro p e s m args below meth c s₁ Bd hml0 hP hK
  obtain ⟨rfl, hZ, hh⟩ := hP
  have hx := Bd.exec
  have hby := Bd.bytes
  have hml : c.maxLocals = 1 := hml0
  have hown : s.vm.findClass "java/lang/String" = some m.cls := findClass_of_methodNamed Bd.named
  have hnm := (name_of_methodNamed Bd.named Bd.method).1
  have X0 : Stand p l e ({ frames := 1, cells := 0, slots := 0, locals := 13 } : Room) s m #[(.ref a1)] below meth c s₁ [] 0 0 := Stand.of_body Bd
  have e0 : s₁.heap = h0 := by rw [← hh, Bd.state]; rfl
  have N0 := Fr.nil n0
  obtain ⟨F0, hF0⟩ : ∃ F0, F0 = entryFrame m #[(.ref a1)] 1 := ⟨_, rfl⟩
  have C0 : Go p e below s₁ (mkF m 0 #[.val (.ref a1)] []) s₁ F0 := fun t k => by rw [hF0]; exact castTop (ef_5 m a1) k
  have pre0 : ∀ t, Steps p.tables e below (s₁.setTop F0) t → Steps p.tables e below (s₁.setTop (entryFrame m #[(.ref a1)] 1)) t := fun t k => by rw [← hF0]; exact k
  obtain ⟨cl0, Ar0, q0, S0, M0, H0, G0⟩ := V0
  have C1 : Go p e below s₁ (mkF m 1 #[.val (.ref a1)] [(.ref a1)]) s₁ F0 := fun t k => C0 t (by
    refine XS.aloadN X0.here hx rfl (hb hby d5_0) rfl rfl ?_
    exact k)
  obtain ⟨T2, X2, e2, st2⟩ := getF X0 hx hZ hown (host := "") (Or.inl (hw _ (List.mem_of_getElem? (i := 29) rfl))) Via.refl e0 Fv (g := (mkF m 1 #[.val (.ref a1)] [(.ref a1)])) rfl rfl (hb hby d5_1)
  have C2 : Go p e below T2 (mkF m 4 #[.val (.ref a1)] [(.ref bv)]) s₁ F0 := fun t k => C1 t (st2 t k)
  have C3 : Go p e below T2 (mkF m 6 #[.val (.ref a1)] [(.ref a1), (.int (4 : Int32))]) s₁ F0 := fun t k => C2 t (by
    refine X2.arraylength hx (by rw [e2]; exact Ar0.1) (State.isArrayOf_alike hZ.alike Ar0.2.1) (g := (mkF m 4 #[.val (.ref a1)] [(.ref bv)])) rfl rfl (hb hby d5_4) _ ?_
    rw [len_of S0 M0]
    show Steps p.tables e below (T2.setTop (mkF m 5 #[.val (.ref a1)] [(.int (4 : Int32))])) _
    refine XS.aloadN X2.here hx rfl (hb hby d5_5) rfl rfl ?_
    exact k)
  obtain ⟨cq4, kq4, q4a, q4b, q4c⟩ := isOf hZ e2 Es
  obtain ⟨_, _, ⟨T4, L4, k4, n4⟩, -, X4, ⟨Lc4, hQ4, l4, y4, z4⟩, st4⟩ := X2.virtualBack hx (y := (⟨"java/lang/String", "coder", "()B"⟩ : MethodName)) (z := (⟨"java/lang/String", "coder", "()B"⟩ : MethodName)) hown (mvT hZ (hw _ (List.mem_of_getElem? (i := 35) rfl))) (mvT hZ (hw _ (List.mem_of_getElem? (i := 36) rfl))) (notFace_of_selects (args := #[]) (mvT hZ (hw _ (List.mem_of_getElem? (i := 38) rfl)))) (mvT hZ (hw _ (List.mem_of_getElem? (i := 38) rfl))) (mvT hZ (hw _ (List.mem_of_getElem? (i := 37) rfl))) (by decide) (backOf (W := 1) (rm6 l Z a0 hw [] a1 cs h0 n0 Z0 SC hcs Fc) hZ (hw _ (List.mem_of_getElem? (i := 39) rfl)) (hw _ (List.mem_of_getElem? (i := 5) rfl)) (by decide) (by decide)) q4a q4c (g := (mkF m 6 #[.val (.ref a1)] [(.ref a1), (.int (4 : Int32))])) rfl (by rw [hml]; rfl) (Steps.refl _) (argsL := []) (rest := [(.int (4 : Int32))]) (lenOf pd_6 rfl) rfl (by show 2 * 0 + _ ≤ _; exact Nat.le_of_eq rfl) (hb hby d5_6) (fun _ _ => ⟨rfl, e2, (by decide : 0 + 0 ≤ _), (by decide : 0 + 0 ≤ _)⟩)
  dsimp only [Pt.U, Pt.locs, Pt.cells, Pt.slots] at X4 l4 y4 z4 st4 hQ4
  subst l4 y4 z4
  obtain ⟨rfl, N4q, eh4⟩ := hQ4
  have C4 : Go p e below T4 (mkF m 9 #[.val (.ref a1)] [(.int (0 : Int32)), (.int (4 : Int32))]) s₁ F0 := fun t k => C3 t (st4.trans k)
  have N4 := Fr.app N0 N4q
  have C5 : Go p e below T4 (mkF m 10 #[.val (.ref a1)] [(.int ((4 : Int32) >>> ((0 : Int32) &&& 31)))]) s₁ F0 := fun t k => C4 t (by
    refine XS.ishr X4.here hx rfl (hb hby d5_9) rfl ?_
    exact k)
  obtain ⟨fs, hr, hrun, hended, hW, hsame⟩ := X4.leave (v := (some (.int ((4 : Int32) >>> ((0 : Int32) &&& 31))))) (fun h => by rw [Bd.returns] at h; cases h)
  refine ⟨_, _, pre0 _ (C5 _ ?_), hrun, hended, _, _, rfl, ?_, ⟨_, rfl⟩, hW, hsame.mono (by decide) (by decide)⟩
  · exact retI X4 hx Bd.returns (hb hby d5_10) hr
  · show Q5 Z a1 bv k0 cs h0 n0 _ T4.heap _
    exact ⟨rfl, N4, eh4⟩
theorem d8_0 : decode jdk_43_method_4_code 0 = .ok (.iload_n 0, 1) := by decide +kernel
theorem d8_1 : decode jdk_43_method_4_code 1 = .ok (.ifCond .lt 14, 3) := by decide +kernel
theorem d8_4 : decode jdk_43_method_4_code 4 = .ok (.iload_n 0, 1) := by decide +kernel
theorem d8_5 : decode jdk_43_method_4_code 5 = .ok (.sipush 255, 3) := by decide +kernel
theorem d8_8 : decode jdk_43_method_4_code 8 = .ok (.if_icmp .gt 7, 3) := by decide +kernel
theorem d8_11 : decode jdk_43_method_4_code 11 = .ok (.iconst 1, 1) := by decide +kernel
theorem d8_12 : decode jdk_43_method_4_code 12 = .ok (.goto 4, 3) := by decide +kernel
theorem d8_15 : decode jdk_43_method_4_code 15 = .ok (.iconst 0, 1) := by decide +kernel
theorem d8_16 : decode jdk_43_method_4_code 16 = .ok (.ireturn, 1) := by decide +kernel
theorem pn_8 : plainName "java/lang/StringLatin1" = true := by first | (simp [plainName, overriddenIn]; done) | decide +kernel
theorem pd_8 : parseMethodDescriptor "(I)Z" = some ⟨[.int], some .boolean⟩ := by decide +kernel
theorem ef_8 (m : MethodId) (x0 : Int32) : entryFrame m #[(.int x0)] 1 = mkF m 0 #[.val (.int x0)] [] := by first | (simp [entryFrame, mkF, argsToLocals, Value.category]; done) | rfl
def Q8 (Z : State) (p1 : Int32) (h0 : Heap) (n0 : Nat) (v : Option Value) (h : Heap) (L : List Loc) : Prop := v = some (.int (own_enc p1)) ∧ Fr n0 L ∧ h = h0
set_option maxRecDepth 65536 in
set_option maxHeartbeats 40000000 in
theorem rm8 (l : Launch) (Z : State) (a0 : Array Value) (hw : ∀ d ∈ tables_1, d.before a0 Z = true) (ws : List Jvm.Cond) (p1 : Int32) (h0 : Heap) (n0 : Nat) (Z0 : n0 ≤ h0.size)  :
    MetFree l (⟨"java/lang/StringLatin1", "canEncode", "(I)Z"⟩ : MethodName) (head1 (Jvm.Cond.code (⟨"java/lang/StringLatin1", "canEncode", "(I)Z"⟩ : MethodName) jdk_43_method_4_code 1 (some .boolean) :: ws) ({ frames := 0, cells := 0, slots := 0, locals := 0 } : Room)) (fun a U => a = #[(.int p1)] ∧ Z.Warmed39 U.vm ∧ U.heap = h0) (fun _ _ _ _ _ => True) (fun _ U o U' => ∃ v L, o = .returned v ∧ Q8 Z p1 h0 n0 v U'.heap L ∧ FrameEnd U o U' L ({ frames := 0, cells := 0, slots := 0, locals := 0 } : Room).cells ({ frames := 0, cells := 0, slots := 0, locals := 0 } : Room).slots) := by
  refine MetFree.of_bodySF (plainFor_of_name pn_8) hisR ?_
  intro p e s m args below meth c s₁ Bd hml0 hP hK
  obtain ⟨rfl, hZ, hh⟩ := hP
  have hx := Bd.exec
  have hby := Bd.bytes
  have hml : c.maxLocals = 1 := hml0
  have hown : s.vm.findClass "java/lang/StringLatin1" = some m.cls := findClass_of_methodNamed Bd.named
  have hnm := (name_of_methodNamed Bd.named Bd.method).1
  have X0 : Stand p l e ({ frames := 0, cells := 0, slots := 0, locals := 0 } : Room) s m #[(.int p1)] below meth c s₁ [] 0 0 := Stand.of_body Bd
  have e0 : s₁.heap = h0 := by rw [← hh, Bd.state]; rfl
  have N0 := Fr.nil n0
  obtain ⟨F0, hF0⟩ : ∃ F0, F0 = entryFrame m #[(.int p1)] 1 := ⟨_, rfl⟩
  have C0 : Go p e below s₁ (mkF m 0 #[.val (.int p1)] []) s₁ F0 := fun t k => by rw [hF0]; exact castTop (ef_8 m p1) k
  have pre0 : ∀ t, Steps p.tables e below (s₁.setTop F0) t → Steps p.tables e below (s₁.setTop (entryFrame m #[(.int p1)] 1)) t := fun t k => by rw [← hF0]; exact k
  have CJ : Go p e below s₁ (mkF m 16 #[.val (.int p1)] [(.int (own_enc p1))]) s₁ F0 := by
    by_cases c1 : p1 < 0
    · have q : own_enc p1 = 0 := if_neg fun z => z.1 c1
      have C1 : Go p e below s₁ (mkF m 16 #[.val (.int p1)] [(.int (0 : Int32))]) s₁ F0 := fun t k => C0 t (by
        refine XS.iloadN X0.here hx rfl (hb hby d8_0) rfl ?_
        show Steps p.tables e below (s₁.setTop (mkF m 1 #[.val (.int p1)] [(.int p1)])) _
        refine XS.ifYes X0.here hx rfl (pc0 := 1) (pc' := 15) rfl (hb hby d8_1) rfl ((if0 _ _).trans (tlt c1).1) (by decide) (by decide) ?_
        show Steps p.tables e below (s₁.setTop (mkF m 15 #[.val (.int p1)] [])) _
        refine XS.iconst X0.here hx rfl (hb hby d8_15) ?_
        exact k)
      rw [q]
      exact C1
    · by_cases c2 : 255 < p1
      · have q : own_enc p1 = 0 := if_neg fun z => z.2 c2
        have C2 : Go p e below s₁ (mkF m 16 #[.val (.int p1)] [(.int (0 : Int32))]) s₁ F0 := fun t k => C0 t (by
          refine XS.iloadN X0.here hx rfl (hb hby d8_0) rfl ?_
          show Steps p.tables e below (s₁.setTop (mkF m 1 #[.val (.int p1)] [(.int p1)])) _
          refine XS.ifNo X0.here hx rfl (hb hby d8_1) rfl ((if0 _ _).trans (flt c1).1) ?_
          show Steps p.tables e below (s₁.setTop (mkF m 4 #[.val (.int p1)] [])) _
          refine XS.iloadN X0.here hx rfl (hb hby d8_4) rfl ?_
          show Steps p.tables e below (s₁.setTop (mkF m 5 #[.val (.int p1)] [(.int p1)])) _
          refine XS.sipush X0.here hx rfl (hb hby d8_5) ?_
          show Steps p.tables e below (s₁.setTop (mkF m 8 #[.val (.int p1)] [(.int (255 : Int32)), (.int p1)])) _
          refine XS.icmpYes X0.here hx rfl (pc0 := 8) (pc' := 15) rfl (hb hby d8_8) rfl (tlt c2).2.2.1 (by decide) (by decide) ?_
          show Steps p.tables e below (s₁.setTop (mkF m 15 #[.val (.int p1)] [])) _
          refine XS.iconst X0.here hx rfl (hb hby d8_15) ?_
          exact k)
        rw [q]
        exact C2
      · have q : own_enc p1 = 1 := if_pos ⟨c1, c2⟩
        have C3 : Go p e below s₁ (mkF m 16 #[.val (.int p1)] [(.int (1 : Int32))]) s₁ F0 := fun t k => C0 t (by
          refine XS.iloadN X0.here hx rfl (hb hby d8_0) rfl ?_
          show Steps p.tables e below (s₁.setTop (mkF m 1 #[.val (.int p1)] [(.int p1)])) _
          refine XS.ifNo X0.here hx rfl (hb hby d8_1) rfl ((if0 _ _).trans (flt c1).1) ?_
          show Steps p.tables e below (s₁.setTop (mkF m 4 #[.val (.int p1)] [])) _
          refine XS.iloadN X0.here hx rfl (hb hby d8_4) rfl ?_
          show Steps p.tables e below (s₁.setTop (mkF m 5 #[.val (.int p1)] [(.int p1)])) _
          refine XS.sipush X0.here hx rfl (hb hby d8_5) ?_
          show Steps p.tables e below (s₁.setTop (mkF m 8 #[.val (.int p1)] [(.int (255 : Int32)), (.int p1)])) _
          refine XS.icmpNo X0.here hx rfl (hb hby d8_8) rfl (flt c2).2.2.1 ?_
          show Steps p.tables e below (s₁.setTop (mkF m 11 #[.val (.int p1)] [])) _
          refine XS.iconst X0.here hx rfl (hb hby d8_11) ?_
          show Steps p.tables e below (s₁.setTop (mkF m 12 #[.val (.int p1)] [(.int (1 : Int32))])) _
          refine XS.goto X0.here hx rfl (pc0 := 12) (pc' := 16) rfl (hb hby d8_12) (by decide) (by decide) ?_
          exact k)
        rw [q]
        exact C3
  obtain ⟨fs, hr, hrun, hended, hW, hsame⟩ := X0.leave (v := (some (.int (nar .boolean (own_enc p1))))) (fun h => by rw [Bd.returns] at h; cases h)
  refine ⟨_, _, pre0 _ (CJ _ ?_), hrun, hended, _, _, rfl, ?_, ⟨_, rfl⟩, hW, hsame.mono (by decide) (by decide)⟩
  · exact retN X0 hx (t := .boolean) Bd.returns (by simp) (hb hby d8_16) hr
  · show Q8 Z p1 h0 n0 _ s₁.heap _
    rw [e0]
    exact ⟨congrArg (fun z => some (Value.int z)) (own_enc_nar p1), N0, rfl⟩
theorem d9_0 : decode jdk_29_method_65_code 0 = .ok (.iload_n 0, 1) := by decide +kernel
theorem d9_1 : decode jdk_29_method_65_code 1 = .ok (.iload_n 1, 1) := by decide +kernel
theorem d9_2 : decode jdk_29_method_65_code 2 = .ok (.if_icmp .lt 7, 3) := by decide +kernel
theorem d9_5 : decode jdk_29_method_65_code 5 = .ok (.iload_n 0, 1) := by decide +kernel
theorem d9_6 : decode jdk_29_method_65_code 6 = .ok (.goto 4, 3) := by decide +kernel
theorem d9_9 : decode jdk_29_method_65_code 9 = .ok (.iload_n 1, 1) := by decide +kernel
theorem d9_10 : decode jdk_29_method_65_code 10 = .ok (.ireturn, 1) := by decide +kernel
theorem pd_9 : parseMethodDescriptor "(II)I" = some ⟨[.int, .int], some .int⟩ := by decide +kernel
theorem ef_9 (m : MethodId) (x0 : Int32) (x1 : Int32) : entryFrame m #[(.int x0), (.int x1)] 2 = mkF m 0 #[.val (.int x0), .val (.int x1)] [] := by first | (simp [entryFrame, mkF, argsToLocals, Value.category]; done) | rfl
def Q9 (Z : State) (p1 p2 : Int32) (h0 : Heap) (n0 : Nat) (v : Option Value) (h : Heap) (L : List Loc) : Prop := v = some (.int (own_max p1 p2)) ∧ Fr n0 L ∧ h = h0
set_option maxRecDepth 65536 in
set_option maxHeartbeats 40000000 in
theorem rm9 (l : Launch) (Z : State) (a0 : Array Value) (hw : ∀ d ∈ tables_1, d.before a0 Z = true) (ws : List Jvm.Cond) (p1 p2 : Int32) (h0 : Heap) (n0 : Nat) (Z0 : n0 ≤ h0.size)  :
    MetFree l (⟨"java/lang/Math", "max", "(II)I"⟩ : MethodName) (head1 (Jvm.Cond.code (⟨"java/lang/Math", "max", "(II)I"⟩ : MethodName) jdk_29_method_65_code 2 (some .int) :: ws) ({ frames := 0, cells := 0, slots := 0, locals := 0 } : Room)) (fun a U => a = #[(.int p1), (.int p2)] ∧ Z.Warmed39 U.vm ∧ U.heap = h0) (fun _ _ _ _ _ => True) (fun _ U o U' => ∃ v L, o = .returned v ∧ Q9 Z p1 p2 h0 n0 v U'.heap L ∧ FrameEnd U o U' L ({ frames := 0, cells := 0, slots := 0, locals := 0 } : Room).cells ({ frames := 0, cells := 0, slots := 0, locals := 0 } : Room).slots) := by
  refine MetFree.of_bodySF (Jvm.Free.JP.mathPlain rfl (by decide +kernel)) hisR ?_
  intro p e s m args below meth c s₁ Bd hml0 hP hK
  obtain ⟨rfl, hZ, hh⟩ := hP
  have hx := Bd.exec
  have hby := Bd.bytes
  have hml : c.maxLocals = 2 := hml0
  have hown : s.vm.findClass "java/lang/Math" = some m.cls := findClass_of_methodNamed Bd.named
  have hnm := (name_of_methodNamed Bd.named Bd.method).1
  have X0 : Stand p l e ({ frames := 0, cells := 0, slots := 0, locals := 0 } : Room) s m #[(.int p1), (.int p2)] below meth c s₁ [] 0 0 := Stand.of_body Bd
  have e0 : s₁.heap = h0 := by rw [← hh, Bd.state]; rfl
  have N0 := Fr.nil n0
  obtain ⟨F0, hF0⟩ : ∃ F0, F0 = entryFrame m #[(.int p1), (.int p2)] 2 := ⟨_, rfl⟩
  have C0 : Go p e below s₁ (mkF m 0 #[.val (.int p1), .val (.int p2)] []) s₁ F0 := fun t k => by rw [hF0]; exact castTop (ef_9 m p1 p2) k
  have pre0 : ∀ t, Steps p.tables e below (s₁.setTop F0) t → Steps p.tables e below (s₁.setTop (entryFrame m #[(.int p1), (.int p2)] 2)) t := fun t k => by rw [← hF0]; exact k
  have C10 : Go p e below s₁ (mkF m 10 #[.val (.int p1), .val (.int p2)] [(.int (own_max p1 p2))]) s₁ F0 := by
    by_cases hc : p1 < p2
    · have q : own_max p1 p2 = p2 := if_pos hc
      have C1 : Go p e below s₁ (mkF m 10 #[.val (.int p1), .val (.int p2)] [(.int p2)]) s₁ F0 := fun t k => C0 t (by
        refine XS.iloadN X0.here hx rfl (hb hby d9_0) rfl ?_
        show Steps p.tables e below (s₁.setTop (mkF m 1 #[.val (.int p1), .val (.int p2)] [(.int p1)])) _
        refine XS.iloadN X0.here hx rfl (hb hby d9_1) rfl ?_
        show Steps p.tables e below (s₁.setTop (mkF m 2 #[.val (.int p1), .val (.int p2)] [(.int p2), (.int p1)])) _
        refine XS.icmpYes X0.here hx rfl (pc0 := 2) (pc' := 9) rfl (hb hby d9_2) rfl (tlt hc).1 (by decide) (by decide) ?_
        show Steps p.tables e below (s₁.setTop (mkF m 9 #[.val (.int p1), .val (.int p2)] [])) _
        refine XS.iloadN X0.here hx rfl (hb hby d9_9) rfl ?_
        exact k)
      rw [q]
      exact C1
    · have q : own_max p1 p2 = p1 := if_neg hc
      have C2 : Go p e below s₁ (mkF m 10 #[.val (.int p1), .val (.int p2)] [(.int p1)]) s₁ F0 := fun t k => C0 t (by
        refine XS.iloadN X0.here hx rfl (hb hby d9_0) rfl ?_
        show Steps p.tables e below (s₁.setTop (mkF m 1 #[.val (.int p1), .val (.int p2)] [(.int p1)])) _
        refine XS.iloadN X0.here hx rfl (hb hby d9_1) rfl ?_
        show Steps p.tables e below (s₁.setTop (mkF m 2 #[.val (.int p1), .val (.int p2)] [(.int p2), (.int p1)])) _
        refine XS.icmpNo X0.here hx rfl (hb hby d9_2) rfl (flt hc).1 ?_
        show Steps p.tables e below (s₁.setTop (mkF m 5 #[.val (.int p1), .val (.int p2)] [])) _
        refine XS.iloadN X0.here hx rfl (hb hby d9_5) rfl ?_
        show Steps p.tables e below (s₁.setTop (mkF m 6 #[.val (.int p1), .val (.int p2)] [(.int p1)])) _
        refine XS.goto X0.here hx rfl (pc0 := 6) (pc' := 10) rfl (hb hby d9_6) (by decide) (by decide) ?_
        exact k)
      rw [q]
      exact C2
  obtain ⟨fs, hr, hrun, hended, hW, hsame⟩ := X0.leave (v := (some (.int (own_max p1 p2)))) (fun h => by rw [Bd.returns] at h; cases h)
  refine ⟨_, _, pre0 _ (C10 _ ?_), hrun, hended, _, _, rfl, ?_, ⟨_, rfl⟩, hW, hsame.mono (by decide) (by decide)⟩
  · exact retI X0 hx Bd.returns (hb hby d9_10) hr
  · show Q9 Z p1 p2 h0 n0 _ s₁.heap _
    rw [e0]
    exact ⟨rfl, N0, rfl⟩
theorem d10_0 : decode jdk_29_method_69_code 0 = .ok (.iload_n 0, 1) := by decide +kernel
theorem d10_1 : decode jdk_29_method_69_code 1 = .ok (.iload_n 1, 1) := by decide +kernel
theorem d10_2 : decode jdk_29_method_69_code 2 = .ok (.if_icmp .gt 7, 3) := by decide +kernel
theorem d10_5 : decode jdk_29_method_69_code 5 = .ok (.iload_n 0, 1) := by decide +kernel
theorem d10_6 : decode jdk_29_method_69_code 6 = .ok (.goto 4, 3) := by decide +kernel
theorem d10_9 : decode jdk_29_method_69_code 9 = .ok (.iload_n 1, 1) := by decide +kernel
theorem d10_10 : decode jdk_29_method_69_code 10 = .ok (.ireturn, 1) := by decide +kernel
theorem pd_10 : parseMethodDescriptor "(II)I" = some ⟨[.int, .int], some .int⟩ := by decide +kernel
theorem ef_10 (m : MethodId) (x0 : Int32) (x1 : Int32) : entryFrame m #[(.int x0), (.int x1)] 2 = mkF m 0 #[.val (.int x0), .val (.int x1)] [] := by first | (simp [entryFrame, mkF, argsToLocals, Value.category]; done) | rfl
def Q10 (Z : State) (p1 p2 : Int32) (h0 : Heap) (n0 : Nat) (v : Option Value) (h : Heap) (L : List Loc) : Prop := v = some (.int (own_min p1 p2)) ∧ Fr n0 L ∧ h = h0
set_option maxRecDepth 65536 in
set_option maxHeartbeats 40000000 in
theorem rm10 (l : Launch) (Z : State) (a0 : Array Value) (hw : ∀ d ∈ tables_1, d.before a0 Z = true) (ws : List Jvm.Cond) (p1 p2 : Int32) (h0 : Heap) (n0 : Nat) (Z0 : n0 ≤ h0.size)  :
    MetFree l (⟨"java/lang/Math", "min", "(II)I"⟩ : MethodName) (head1 (Jvm.Cond.code (⟨"java/lang/Math", "min", "(II)I"⟩ : MethodName) jdk_29_method_69_code 2 (some .int) :: ws) ({ frames := 0, cells := 0, slots := 0, locals := 0 } : Room)) (fun a U => a = #[(.int p1), (.int p2)] ∧ Z.Warmed39 U.vm ∧ U.heap = h0) (fun _ _ _ _ _ => True) (fun _ U o U' => ∃ v L, o = .returned v ∧ Q10 Z p1 p2 h0 n0 v U'.heap L ∧ FrameEnd U o U' L ({ frames := 0, cells := 0, slots := 0, locals := 0 } : Room).cells ({ frames := 0, cells := 0, slots := 0, locals := 0 } : Room).slots) := by
  refine MetFree.of_bodySF (Jvm.Free.JP.mathPlain rfl (by decide +kernel)) hisR ?_
  intro p e s m args below meth c s₁ Bd hml0 hP hK
  obtain ⟨rfl, hZ, hh⟩ := hP
  have hx := Bd.exec
  have hby := Bd.bytes
  have hml : c.maxLocals = 2 := hml0
  have hown : s.vm.findClass "java/lang/Math" = some m.cls := findClass_of_methodNamed Bd.named
  have hnm := (name_of_methodNamed Bd.named Bd.method).1
  have X0 : Stand p l e ({ frames := 0, cells := 0, slots := 0, locals := 0 } : Room) s m #[(.int p1), (.int p2)] below meth c s₁ [] 0 0 := Stand.of_body Bd
  have e0 : s₁.heap = h0 := by rw [← hh, Bd.state]; rfl
  have N0 := Fr.nil n0
  obtain ⟨F0, hF0⟩ : ∃ F0, F0 = entryFrame m #[(.int p1), (.int p2)] 2 := ⟨_, rfl⟩
  have C0 : Go p e below s₁ (mkF m 0 #[.val (.int p1), .val (.int p2)] []) s₁ F0 := fun t k => by rw [hF0]; exact castTop (ef_10 m p1 p2) k
  have pre0 : ∀ t, Steps p.tables e below (s₁.setTop F0) t → Steps p.tables e below (s₁.setTop (entryFrame m #[(.int p1), (.int p2)] 2)) t := fun t k => by rw [← hF0]; exact k
  have C10 : Go p e below s₁ (mkF m 10 #[.val (.int p1), .val (.int p2)] [(.int (own_min p1 p2))]) s₁ F0 := by
    by_cases hc : p2 < p1
    · have q : own_min p1 p2 = p2 := if_pos hc
      have C1 : Go p e below s₁ (mkF m 10 #[.val (.int p1), .val (.int p2)] [(.int p2)]) s₁ F0 := fun t k => C0 t (by
        refine XS.iloadN X0.here hx rfl (hb hby d10_0) rfl ?_
        show Steps p.tables e below (s₁.setTop (mkF m 1 #[.val (.int p1), .val (.int p2)] [(.int p1)])) _
        refine XS.iloadN X0.here hx rfl (hb hby d10_1) rfl ?_
        show Steps p.tables e below (s₁.setTop (mkF m 2 #[.val (.int p1), .val (.int p2)] [(.int p2), (.int p1)])) _
        refine XS.icmpYes X0.here hx rfl (pc0 := 2) (pc' := 9) rfl (hb hby d10_2) rfl (tlt hc).2.2.1 (by decide) (by decide) ?_
        show Steps p.tables e below (s₁.setTop (mkF m 9 #[.val (.int p1), .val (.int p2)] [])) _
        refine XS.iloadN X0.here hx rfl (hb hby d10_9) rfl ?_
        exact k)
      rw [q]
      exact C1
    · have q : own_min p1 p2 = p1 := if_neg hc
      have C2 : Go p e below s₁ (mkF m 10 #[.val (.int p1), .val (.int p2)] [(.int p1)]) s₁ F0 := fun t k => C0 t (by
        refine XS.iloadN X0.here hx rfl (hb hby d10_0) rfl ?_
        show Steps p.tables e below (s₁.setTop (mkF m 1 #[.val (.int p1), .val (.int p2)] [(.int p1)])) _
        refine XS.iloadN X0.here hx rfl (hb hby d10_1) rfl ?_
        show Steps p.tables e below (s₁.setTop (mkF m 2 #[.val (.int p1), .val (.int p2)] [(.int p2), (.int p1)])) _
        refine XS.icmpNo X0.here hx rfl (hb hby d10_2) rfl (flt hc).2.2.1 ?_
        show Steps p.tables e below (s₁.setTop (mkF m 5 #[.val (.int p1), .val (.int p2)] [])) _
        refine XS.iloadN X0.here hx rfl (hb hby d10_5) rfl ?_
        show Steps p.tables e below (s₁.setTop (mkF m 6 #[.val (.int p1), .val (.int p2)] [(.int p1)])) _
        refine XS.goto X0.here hx rfl (pc0 := 6) (pc' := 10) rfl (hb hby d10_6) (by decide) (by decide) ?_
        exact k)
      rw [q]
      exact C2
  obtain ⟨fs, hr, hrun, hended, hW, hsame⟩ := X0.leave (v := (some (.int (own_min p1 p2)))) (fun h => by rw [Bd.returns] at h; cases h)
  refine ⟨_, _, pre0 _ (C10 _ ?_), hrun, hended, _, _, rfl, ?_, ⟨_, rfl⟩, hW, hsame.mono (by decide) (by decide)⟩
  · exact retI X0 hx Bd.returns (hb hby d10_10) hr
  · show Q10 Z p1 p2 h0 n0 _ s₁.heap _
    rw [e0]
    exact ⟨rfl, N0, rfl⟩
theorem d11_0 : decode jdk_43_method_23_code 0 = .ok (.iload_n 1, 1) := by decide +kernel
theorem d11_1 : decode jdk_43_method_23_code 1 = .ok (.i2b, 1) := by decide +kernel
theorem d11_2 : decode jdk_43_method_23_code 2 = .ok (.istore 4, 2) := by decide +kernel
theorem d11_4 : decode jdk_43_method_23_code 4 = .ok (.iload_n 2, 1) := by decide +kernel
theorem d11_5 : decode jdk_43_method_23_code 5 = .ok (.istore 5, 2) := by decide +kernel
theorem d11_7 : decode jdk_43_method_23_code 7 = .ok (.iload 5, 2) := by decide +kernel
theorem d11_9 : decode jdk_43_method_23_code 9 = .ok (.iload_n 3, 1) := by decide +kernel
theorem d11_10 : decode jdk_43_method_23_code 10 = .ok (.if_icmp .ge 21, 3) := by decide +kernel
theorem d11_13 : decode jdk_43_method_23_code 13 = .ok (.aload_n 0, 1) := by decide +kernel
theorem d11_14 : decode jdk_43_method_23_code 14 = .ok (.iload 5, 2) := by decide +kernel
theorem d11_16 : decode jdk_43_method_23_code 16 = .ok (.baload, 1) := by decide +kernel
theorem d11_17 : decode jdk_43_method_23_code 17 = .ok (.iload 4, 2) := by decide +kernel
theorem d11_19 : decode jdk_43_method_23_code 19 = .ok (.if_icmp .ne 6, 3) := by decide +kernel
theorem d11_22 : decode jdk_43_method_23_code 22 = .ok (.iload 5, 2) := by decide +kernel
theorem d11_24 : decode jdk_43_method_23_code 24 = .ok (.ireturn, 1) := by decide +kernel
theorem d11_25 : decode jdk_43_method_23_code 25 = .ok (.iinc 5 1, 3) := by decide +kernel
theorem d11_28 : decode jdk_43_method_23_code 28 = .ok (.goto (-21), 3) := by decide +kernel
theorem d11_31 : decode jdk_43_method_23_code 31 = .ok (.iconst (-1), 1) := by decide +kernel
theorem d11_32 : decode jdk_43_method_23_code 32 = .ok (.ireturn, 1) := by decide +kernel
theorem pn_11 : plainName "java/lang/StringLatin1" = true := by first | (simp [plainName, overriddenIn]; done) | decide +kernel
theorem pd_11 : parseMethodDescriptor "([BIII)I" = some ⟨[(.array .byte), .int, .int, .int], some .int⟩ := by decide +kernel
theorem ef_11 (m : MethodId) (x0 : Addr) (x1 : Int32) (x2 : Int32) (x3 : Int32) : entryFrame m #[(.ref x0), (.int x1), (.int x2), (.int x3)] 6 = mkF m 0 #[.val (.ref x0), .val (.int x1), .val (.int x2), .val (.int x3), .unset, .unset] [] := by first | (simp [entryFrame, mkF, argsToLocals, Value.category]; done) | rfl
def Q11 (Z : State) (bv : Addr) (k0 : ClassId) (p2 : Int32) (h0 : Heap) (n0 : Nat) (v : Option Value) (h : Heap) (L : List Loc) : Prop := v = some (.int (own_ix (p2.toInt8.toInt32))) ∧ Fr n0 L ∧ h = h0
set_option maxRecDepth 65536 in
set_option maxHeartbeats 40000000 in
theorem rm11 (l : Launch) (Z : State) (a0 : Array Value) (hw : ∀ d ∈ tables_1, d.before a0 Z = true) (ws : List Jvm.Cond) (bv : Addr) (k0 : ClassId) (p2 : Int32) (h0 : Heap) (n0 : Nat) (Z0 : n0 ≤ h0.size) (V0 : Arv Z h0 bv k0 .byte 4 [.int 45, .int 46, .int 95, .int 126] (.int 0)) :
    MetFree l (⟨"java/lang/StringLatin1", "indexOfChar", "([BIII)I"⟩ : MethodName) (head1 (Jvm.Cond.code (⟨"java/lang/StringLatin1", "indexOfChar", "([BIII)I"⟩ : MethodName) jdk_43_method_23_code 6 (some .int) :: ws) ({ frames := 0, cells := 0, slots := 0, locals := 0 } : Room)) (fun a U => a = #[(.ref bv), (.int p2), (.int (0 : Int32)), (.int (4 : Int32))] ∧ Z.Warmed39 U.vm ∧ U.heap = h0) (fun _ _ _ _ _ => True) (fun _ U o U' => ∃ v L, o = .returned v ∧ Q11 Z bv k0 p2 h0 n0 v U'.heap L ∧ FrameEnd U o U' L ({ frames := 0, cells := 0, slots := 0, locals := 0 } : Room).cells ({ frames := 0, cells := 0, slots := 0, locals := 0 } : Room).slots) := by
  refine MetFree.of_bodySF (plainFor_of_name pn_11) hisR ?_
  intro p e s m args below meth c s₁ Bd hml0 hP hK
  obtain ⟨rfl, hZ, hh⟩ := hP
  have hx := Bd.exec
  have hby := Bd.bytes
  have hml : c.maxLocals = 6 := hml0
  have hown : s.vm.findClass "java/lang/StringLatin1" = some m.cls := findClass_of_methodNamed Bd.named
  have hnm := (name_of_methodNamed Bd.named Bd.method).1
  have X0 : Stand p l e ({ frames := 0, cells := 0, slots := 0, locals := 0 } : Room) s m #[(.ref bv), (.int p2), (.int (0 : Int32)), (.int (4 : Int32))] below meth c s₁ [] 0 0 := Stand.of_body Bd
  have e0 : s₁.heap = h0 := by rw [← hh, Bd.state]; rfl
  have N0 := Fr.nil n0
  obtain ⟨F0, hF0⟩ : ∃ F0, F0 = entryFrame m #[(.ref bv), (.int p2), (.int (0 : Int32)), (.int (4 : Int32))] 6 := ⟨_, rfl⟩
  have C0 : Go p e below s₁ (mkF m 0 #[.val (.ref bv), .val (.int p2), .val (.int (0 : Int32)), .val (.int (4 : Int32)), .unset, .unset] []) s₁ F0 := fun t k => by rw [hF0]; exact castTop (ef_11 m bv p2 (0 : Int32) (4 : Int32)) k
  have pre0 : ∀ t, Steps p.tables e below (s₁.setTop F0) t → Steps p.tables e below (s₁.setTop (entryFrame m #[(.ref bv), (.int p2), (.int (0 : Int32)), (.int (4 : Int32))] 6)) t := fun t k => by rw [← hF0]; exact k
  obtain ⟨cl0, Ar0, q0, S0, M0, H0, G0⟩ := V0
  have C1 : Go p e below s₁ (mkF m 7 #[.val (.ref bv), .val (.int p2), .val (.int (0 : Int32)), .val (.int (4 : Int32)), .val (.int (p2.toInt8.toInt32)), .val (.int (0 : Int32))] []) s₁ F0 := fun t k => C0 t (by
    refine XS.iloadN X0.here hx rfl (hb hby d11_0) rfl ?_
    show Steps p.tables e below (s₁.setTop (mkF m 1 #[.val (.ref bv), .val (.int p2), .val (.int (0 : Int32)), .val (.int (4 : Int32)), .unset, .unset] [(.int p2)])) _
    refine XS.i2b X0.here hx rfl (hb hby d11_1) rfl ?_
    show Steps p.tables e below (s₁.setTop (mkF m 2 #[.val (.ref bv), .val (.int p2), .val (.int (0 : Int32)), .val (.int (4 : Int32)), .unset, .unset] [(.int (p2.toInt8.toInt32))])) _
    refine XS.istore X0.here hx rfl (hb hby d11_2) rfl (l' := #[.val (.ref bv), .val (.int p2), .val (.int (0 : Int32)), .val (.int (4 : Int32)), .val (.int (p2.toInt8.toInt32)), .unset]) rfl ?_
    show Steps p.tables e below (s₁.setTop (mkF m 4 #[.val (.ref bv), .val (.int p2), .val (.int (0 : Int32)), .val (.int (4 : Int32)), .val (.int (p2.toInt8.toInt32)), .unset] [])) _
    refine XS.iloadN X0.here hx rfl (hb hby d11_4) rfl ?_
    show Steps p.tables e below (s₁.setTop (mkF m 5 #[.val (.ref bv), .val (.int p2), .val (.int (0 : Int32)), .val (.int (4 : Int32)), .val (.int (p2.toInt8.toInt32)), .unset] [(.int (0 : Int32))])) _
    refine XS.istore X0.here hx rfl (hb hby d11_5) rfl (l' := #[.val (.ref bv), .val (.int p2), .val (.int (0 : Int32)), .val (.int (4 : Int32)), .val (.int (p2.toInt8.toInt32)), .val (.int (0 : Int32))]) rfl ?_
    exact k)
  have hin0 := inb_of (j := (0 : Int32)) S0 ⟨by decide, by decide⟩
  have hat0 : cl0.slots[(0 : Int32).toNatClampNeg]? = some (.int 45) := H0.at hin0 rfl
  have hin1 := inb_of (j := ((0 : Int32) + (1 : Int32))) S0 ⟨by decide, by decide⟩
  have hat1 : cl0.slots[((0 : Int32) + (1 : Int32)).toNatClampNeg]? = some (.int 46) := H0.at hin1 rfl
  have hin2 := inb_of (j := (((0 : Int32) + (1 : Int32)) + (1 : Int32))) S0 ⟨by decide, by decide⟩
  have hat2 : cl0.slots[(((0 : Int32) + (1 : Int32)) + (1 : Int32)).toNatClampNeg]? = some (.int 95) := H0.at hin2 rfl
  have hin3 := inb_of (j := ((((0 : Int32) + (1 : Int32)) + (1 : Int32)) + (1 : Int32))) S0 ⟨by decide, by decide⟩
  have hat3 : cl0.slots[((((0 : Int32) + (1 : Int32)) + (1 : Int32)) + (1 : Int32)).toNatClampNeg]? = some (.int 126) := H0.at hin3 rfl
  by_cases hk0 : (45 : Int32) = p2.toInt8.toInt32
  · have q : own_ix (p2.toInt8.toInt32) = 0 := if_pos hk0
    have C2 : Go p e below s₁ (mkF m 24 #[.val (.ref bv), .val (.int p2), .val (.int (0 : Int32)), .val (.int (4 : Int32)), .val (.int (p2.toInt8.toInt32)), .val (.int (0 : Int32))] [(.int (0 : Int32))]) s₁ F0 := fun t k => C1 t (by
      refine XS.iload X0.here hx rfl (hb hby d11_7) rfl ?_
      show Steps p.tables e below (s₁.setTop (mkF m 9 #[.val (.ref bv), .val (.int p2), .val (.int (0 : Int32)), .val (.int (4 : Int32)), .val (.int (p2.toInt8.toInt32)), .val (.int (0 : Int32))] [(.int (0 : Int32))])) _
      refine XS.iloadN X0.here hx rfl (hb hby d11_9) rfl ?_
      show Steps p.tables e below (s₁.setTop (mkF m 10 #[.val (.ref bv), .val (.int p2), .val (.int (0 : Int32)), .val (.int (4 : Int32)), .val (.int (p2.toInt8.toInt32)), .val (.int (0 : Int32))] [(.int (4 : Int32)), (.int (0 : Int32))])) _
      refine XS.icmpNo X0.here hx rfl (hb hby d11_10) rfl (tlt (by decide)).2.1 ?_
      show Steps p.tables e below (s₁.setTop (mkF m 13 #[.val (.ref bv), .val (.int p2), .val (.int (0 : Int32)), .val (.int (4 : Int32)), .val (.int (p2.toInt8.toInt32)), .val (.int (0 : Int32))] [])) _
      refine XS.aloadN X0.here hx rfl (hb hby d11_13) rfl rfl ?_
      show Steps p.tables e below (s₁.setTop (mkF m 14 #[.val (.ref bv), .val (.int p2), .val (.int (0 : Int32)), .val (.int (4 : Int32)), .val (.int (p2.toInt8.toInt32)), .val (.int (0 : Int32))] [(.ref bv)])) _
      refine XS.iload X0.here hx rfl (hb hby d11_14) rfl ?_
      show Steps p.tables e below (s₁.setTop (mkF m 16 #[.val (.ref bv), .val (.int p2), .val (.int (0 : Int32)), .val (.int (4 : Int32)), .val (.int (p2.toInt8.toInt32)), .val (.int (0 : Int32))] [(.int (0 : Int32)), (.ref bv)])) _
      refine X0.baloadBytes hx (j := (0 : Int32)) (v := (.int (45 : Int32))) (by rw [e0]; exact Ar0.1) (State.isArrayOf_alike hZ.alike Ar0.2.1) Ar0.2.2 hin0 hat0 (g := (mkF m 16 #[.val (.ref bv), .val (.int p2), .val (.int (0 : Int32)), .val (.int (4 : Int32)), .val (.int (p2.toInt8.toInt32)), .val (.int (0 : Int32))] [(.int (0 : Int32)), (.ref bv)])) rfl rfl (hb hby d11_16) _ ?_
      show Steps p.tables e below (s₁.setTop (mkF m 17 #[.val (.ref bv), .val (.int p2), .val (.int (0 : Int32)), .val (.int (4 : Int32)), .val (.int (p2.toInt8.toInt32)), .val (.int (0 : Int32))] [(.int (45 : Int32))])) _
      refine XS.iload X0.here hx rfl (hb hby d11_17) rfl ?_
      show Steps p.tables e below (s₁.setTop (mkF m 19 #[.val (.ref bv), .val (.int p2), .val (.int (0 : Int32)), .val (.int (4 : Int32)), .val (.int (p2.toInt8.toInt32)), .val (.int (0 : Int32))] [(.int (p2.toInt8.toInt32)), (.int (45 : Int32))])) _
      refine XS.icmpNo X0.here hx rfl (hb hby d11_19) rfl (teq hk0).2 ?_
      show Steps p.tables e below (s₁.setTop (mkF m 22 #[.val (.ref bv), .val (.int p2), .val (.int (0 : Int32)), .val (.int (4 : Int32)), .val (.int (p2.toInt8.toInt32)), .val (.int (0 : Int32))] [])) _
      refine XS.iload X0.here hx rfl (hb hby d11_22) rfl ?_
      exact k)
    obtain ⟨fs, hr, hrun, hended, hW, hsame⟩ := X0.leave (v := (some (.int (0 : Int32)))) (fun h => by rw [Bd.returns] at h; cases h)
    refine ⟨_, _, pre0 _ (C2 _ ?_), hrun, hended, _, _, rfl, ?_, ⟨_, rfl⟩, hW, hsame.mono (by decide) (by decide)⟩
    · exact retI X0 hx Bd.returns (hb hby d11_24) hr
    · show Q11 Z bv k0 p2 h0 n0 _ s₁.heap _
      rw [e0]
      exact ⟨congrArg (fun z => some (Value.int z)) q.symm, N0, rfl⟩
  · skip
    by_cases hk1 : (46 : Int32) = p2.toInt8.toInt32
    · have q : own_ix (p2.toInt8.toInt32) = 1 := (if_neg hk0).trans (if_pos hk1)
      have C3 : Go p e below s₁ (mkF m 24 #[.val (.ref bv), .val (.int p2), .val (.int (0 : Int32)), .val (.int (4 : Int32)), .val (.int (p2.toInt8.toInt32)), .val (.int ((0 : Int32) + (1 : Int32)))] [(.int ((0 : Int32) + (1 : Int32)))]) s₁ F0 := fun t k => C1 t (by
        refine XS.iload X0.here hx rfl (hb hby d11_7) rfl ?_
        show Steps p.tables e below (s₁.setTop (mkF m 9 #[.val (.ref bv), .val (.int p2), .val (.int (0 : Int32)), .val (.int (4 : Int32)), .val (.int (p2.toInt8.toInt32)), .val (.int (0 : Int32))] [(.int (0 : Int32))])) _
        refine XS.iloadN X0.here hx rfl (hb hby d11_9) rfl ?_
        show Steps p.tables e below (s₁.setTop (mkF m 10 #[.val (.ref bv), .val (.int p2), .val (.int (0 : Int32)), .val (.int (4 : Int32)), .val (.int (p2.toInt8.toInt32)), .val (.int (0 : Int32))] [(.int (4 : Int32)), (.int (0 : Int32))])) _
        refine XS.icmpNo X0.here hx rfl (hb hby d11_10) rfl (tlt (by decide)).2.1 ?_
        show Steps p.tables e below (s₁.setTop (mkF m 13 #[.val (.ref bv), .val (.int p2), .val (.int (0 : Int32)), .val (.int (4 : Int32)), .val (.int (p2.toInt8.toInt32)), .val (.int (0 : Int32))] [])) _
        refine XS.aloadN X0.here hx rfl (hb hby d11_13) rfl rfl ?_
        show Steps p.tables e below (s₁.setTop (mkF m 14 #[.val (.ref bv), .val (.int p2), .val (.int (0 : Int32)), .val (.int (4 : Int32)), .val (.int (p2.toInt8.toInt32)), .val (.int (0 : Int32))] [(.ref bv)])) _
        refine XS.iload X0.here hx rfl (hb hby d11_14) rfl ?_
        show Steps p.tables e below (s₁.setTop (mkF m 16 #[.val (.ref bv), .val (.int p2), .val (.int (0 : Int32)), .val (.int (4 : Int32)), .val (.int (p2.toInt8.toInt32)), .val (.int (0 : Int32))] [(.int (0 : Int32)), (.ref bv)])) _
        refine X0.baloadBytes hx (j := (0 : Int32)) (v := (.int (45 : Int32))) (by rw [e0]; exact Ar0.1) (State.isArrayOf_alike hZ.alike Ar0.2.1) Ar0.2.2 hin0 hat0 (g := (mkF m 16 #[.val (.ref bv), .val (.int p2), .val (.int (0 : Int32)), .val (.int (4 : Int32)), .val (.int (p2.toInt8.toInt32)), .val (.int (0 : Int32))] [(.int (0 : Int32)), (.ref bv)])) rfl rfl (hb hby d11_16) _ ?_
        show Steps p.tables e below (s₁.setTop (mkF m 17 #[.val (.ref bv), .val (.int p2), .val (.int (0 : Int32)), .val (.int (4 : Int32)), .val (.int (p2.toInt8.toInt32)), .val (.int (0 : Int32))] [(.int (45 : Int32))])) _
        refine XS.iload X0.here hx rfl (hb hby d11_17) rfl ?_
        show Steps p.tables e below (s₁.setTop (mkF m 19 #[.val (.ref bv), .val (.int p2), .val (.int (0 : Int32)), .val (.int (4 : Int32)), .val (.int (p2.toInt8.toInt32)), .val (.int (0 : Int32))] [(.int (p2.toInt8.toInt32)), (.int (45 : Int32))])) _
        refine XS.icmpYes X0.here hx rfl (pc0 := 19) (pc' := 25) rfl (hb hby d11_19) rfl (feq hk0).2 (by decide) (by decide) ?_
        show Steps p.tables e below (s₁.setTop (mkF m 25 #[.val (.ref bv), .val (.int p2), .val (.int (0 : Int32)), .val (.int (4 : Int32)), .val (.int (p2.toInt8.toInt32)), .val (.int (0 : Int32))] [])) _
        refine XS.iinc X0.here hx rfl (hb hby d11_25) rfl (l' := #[.val (.ref bv), .val (.int p2), .val (.int (0 : Int32)), .val (.int (4 : Int32)), .val (.int (p2.toInt8.toInt32)), .val (.int ((0 : Int32) + (1 : Int32)))]) rfl ?_
        show Steps p.tables e below (s₁.setTop (mkF m 28 #[.val (.ref bv), .val (.int p2), .val (.int (0 : Int32)), .val (.int (4 : Int32)), .val (.int (p2.toInt8.toInt32)), .val (.int ((0 : Int32) + (1 : Int32)))] [])) _
        refine XS.goto X0.here hx rfl (pc0 := 28) (pc' := 7) rfl (hb hby d11_28) (by decide) (by decide) ?_
        show Steps p.tables e below (s₁.setTop (mkF m 7 #[.val (.ref bv), .val (.int p2), .val (.int (0 : Int32)), .val (.int (4 : Int32)), .val (.int (p2.toInt8.toInt32)), .val (.int ((0 : Int32) + (1 : Int32)))] [])) _
        refine XS.iload X0.here hx rfl (hb hby d11_7) rfl ?_
        show Steps p.tables e below (s₁.setTop (mkF m 9 #[.val (.ref bv), .val (.int p2), .val (.int (0 : Int32)), .val (.int (4 : Int32)), .val (.int (p2.toInt8.toInt32)), .val (.int ((0 : Int32) + (1 : Int32)))] [(.int ((0 : Int32) + (1 : Int32)))])) _
        refine XS.iloadN X0.here hx rfl (hb hby d11_9) rfl ?_
        show Steps p.tables e below (s₁.setTop (mkF m 10 #[.val (.ref bv), .val (.int p2), .val (.int (0 : Int32)), .val (.int (4 : Int32)), .val (.int (p2.toInt8.toInt32)), .val (.int ((0 : Int32) + (1 : Int32)))] [(.int (4 : Int32)), (.int ((0 : Int32) + (1 : Int32)))])) _
        refine XS.icmpNo X0.here hx rfl (hb hby d11_10) rfl (tlt (by decide)).2.1 ?_
        show Steps p.tables e below (s₁.setTop (mkF m 13 #[.val (.ref bv), .val (.int p2), .val (.int (0 : Int32)), .val (.int (4 : Int32)), .val (.int (p2.toInt8.toInt32)), .val (.int ((0 : Int32) + (1 : Int32)))] [])) _
        refine XS.aloadN X0.here hx rfl (hb hby d11_13) rfl rfl ?_
        show Steps p.tables e below (s₁.setTop (mkF m 14 #[.val (.ref bv), .val (.int p2), .val (.int (0 : Int32)), .val (.int (4 : Int32)), .val (.int (p2.toInt8.toInt32)), .val (.int ((0 : Int32) + (1 : Int32)))] [(.ref bv)])) _
        refine XS.iload X0.here hx rfl (hb hby d11_14) rfl ?_
        show Steps p.tables e below (s₁.setTop (mkF m 16 #[.val (.ref bv), .val (.int p2), .val (.int (0 : Int32)), .val (.int (4 : Int32)), .val (.int (p2.toInt8.toInt32)), .val (.int ((0 : Int32) + (1 : Int32)))] [(.int ((0 : Int32) + (1 : Int32))), (.ref bv)])) _
        refine X0.baloadBytes hx (j := ((0 : Int32) + (1 : Int32))) (v := (.int (46 : Int32))) (by rw [e0]; exact Ar0.1) (State.isArrayOf_alike hZ.alike Ar0.2.1) Ar0.2.2 hin1 hat1 (g := (mkF m 16 #[.val (.ref bv), .val (.int p2), .val (.int (0 : Int32)), .val (.int (4 : Int32)), .val (.int (p2.toInt8.toInt32)), .val (.int ((0 : Int32) + (1 : Int32)))] [(.int ((0 : Int32) + (1 : Int32))), (.ref bv)])) rfl rfl (hb hby d11_16) _ ?_
        show Steps p.tables e below (s₁.setTop (mkF m 17 #[.val (.ref bv), .val (.int p2), .val (.int (0 : Int32)), .val (.int (4 : Int32)), .val (.int (p2.toInt8.toInt32)), .val (.int ((0 : Int32) + (1 : Int32)))] [(.int (46 : Int32))])) _
        refine XS.iload X0.here hx rfl (hb hby d11_17) rfl ?_
        show Steps p.tables e below (s₁.setTop (mkF m 19 #[.val (.ref bv), .val (.int p2), .val (.int (0 : Int32)), .val (.int (4 : Int32)), .val (.int (p2.toInt8.toInt32)), .val (.int ((0 : Int32) + (1 : Int32)))] [(.int (p2.toInt8.toInt32)), (.int (46 : Int32))])) _
        refine XS.icmpNo X0.here hx rfl (hb hby d11_19) rfl (teq hk1).2 ?_
        show Steps p.tables e below (s₁.setTop (mkF m 22 #[.val (.ref bv), .val (.int p2), .val (.int (0 : Int32)), .val (.int (4 : Int32)), .val (.int (p2.toInt8.toInt32)), .val (.int ((0 : Int32) + (1 : Int32)))] [])) _
        refine XS.iload X0.here hx rfl (hb hby d11_22) rfl ?_
        exact k)
      obtain ⟨fs, hr, hrun, hended, hW, hsame⟩ := X0.leave (v := (some (.int ((0 : Int32) + (1 : Int32))))) (fun h => by rw [Bd.returns] at h; cases h)
      refine ⟨_, _, pre0 _ (C3 _ ?_), hrun, hended, _, _, rfl, ?_, ⟨_, rfl⟩, hW, hsame.mono (by decide) (by decide)⟩
      · exact retI X0 hx Bd.returns (hb hby d11_24) hr
      · show Q11 Z bv k0 p2 h0 n0 _ s₁.heap _
        rw [e0]
        exact ⟨congrArg (fun z => some (Value.int z)) q.symm, N0, rfl⟩
    · skip
      by_cases hk2 : (95 : Int32) = p2.toInt8.toInt32
      · have q : own_ix (p2.toInt8.toInt32) = 2 := (if_neg hk0).trans ((if_neg hk1).trans (if_pos hk2))
        have C4 : Go p e below s₁ (mkF m 24 #[.val (.ref bv), .val (.int p2), .val (.int (0 : Int32)), .val (.int (4 : Int32)), .val (.int (p2.toInt8.toInt32)), .val (.int (((0 : Int32) + (1 : Int32)) + (1 : Int32)))] [(.int (((0 : Int32) + (1 : Int32)) + (1 : Int32)))]) s₁ F0 := fun t k => C1 t (by
          refine XS.iload X0.here hx rfl (hb hby d11_7) rfl ?_
          show Steps p.tables e below (s₁.setTop (mkF m 9 #[.val (.ref bv), .val (.int p2), .val (.int (0 : Int32)), .val (.int (4 : Int32)), .val (.int (p2.toInt8.toInt32)), .val (.int (0 : Int32))] [(.int (0 : Int32))])) _
          refine XS.iloadN X0.here hx rfl (hb hby d11_9) rfl ?_
          show Steps p.tables e below (s₁.setTop (mkF m 10 #[.val (.ref bv), .val (.int p2), .val (.int (0 : Int32)), .val (.int (4 : Int32)), .val (.int (p2.toInt8.toInt32)), .val (.int (0 : Int32))] [(.int (4 : Int32)), (.int (0 : Int32))])) _
          refine XS.icmpNo X0.here hx rfl (hb hby d11_10) rfl (tlt (by decide)).2.1 ?_
          show Steps p.tables e below (s₁.setTop (mkF m 13 #[.val (.ref bv), .val (.int p2), .val (.int (0 : Int32)), .val (.int (4 : Int32)), .val (.int (p2.toInt8.toInt32)), .val (.int (0 : Int32))] [])) _
          refine XS.aloadN X0.here hx rfl (hb hby d11_13) rfl rfl ?_
          show Steps p.tables e below (s₁.setTop (mkF m 14 #[.val (.ref bv), .val (.int p2), .val (.int (0 : Int32)), .val (.int (4 : Int32)), .val (.int (p2.toInt8.toInt32)), .val (.int (0 : Int32))] [(.ref bv)])) _
          refine XS.iload X0.here hx rfl (hb hby d11_14) rfl ?_
          show Steps p.tables e below (s₁.setTop (mkF m 16 #[.val (.ref bv), .val (.int p2), .val (.int (0 : Int32)), .val (.int (4 : Int32)), .val (.int (p2.toInt8.toInt32)), .val (.int (0 : Int32))] [(.int (0 : Int32)), (.ref bv)])) _
          refine X0.baloadBytes hx (j := (0 : Int32)) (v := (.int (45 : Int32))) (by rw [e0]; exact Ar0.1) (State.isArrayOf_alike hZ.alike Ar0.2.1) Ar0.2.2 hin0 hat0 (g := (mkF m 16 #[.val (.ref bv), .val (.int p2), .val (.int (0 : Int32)), .val (.int (4 : Int32)), .val (.int (p2.toInt8.toInt32)), .val (.int (0 : Int32))] [(.int (0 : Int32)), (.ref bv)])) rfl rfl (hb hby d11_16) _ ?_
          show Steps p.tables e below (s₁.setTop (mkF m 17 #[.val (.ref bv), .val (.int p2), .val (.int (0 : Int32)), .val (.int (4 : Int32)), .val (.int (p2.toInt8.toInt32)), .val (.int (0 : Int32))] [(.int (45 : Int32))])) _
          refine XS.iload X0.here hx rfl (hb hby d11_17) rfl ?_
          show Steps p.tables e below (s₁.setTop (mkF m 19 #[.val (.ref bv), .val (.int p2), .val (.int (0 : Int32)), .val (.int (4 : Int32)), .val (.int (p2.toInt8.toInt32)), .val (.int (0 : Int32))] [(.int (p2.toInt8.toInt32)), (.int (45 : Int32))])) _
          refine XS.icmpYes X0.here hx rfl (pc0 := 19) (pc' := 25) rfl (hb hby d11_19) rfl (feq hk0).2 (by decide) (by decide) ?_
          show Steps p.tables e below (s₁.setTop (mkF m 25 #[.val (.ref bv), .val (.int p2), .val (.int (0 : Int32)), .val (.int (4 : Int32)), .val (.int (p2.toInt8.toInt32)), .val (.int (0 : Int32))] [])) _
          refine XS.iinc X0.here hx rfl (hb hby d11_25) rfl (l' := #[.val (.ref bv), .val (.int p2), .val (.int (0 : Int32)), .val (.int (4 : Int32)), .val (.int (p2.toInt8.toInt32)), .val (.int ((0 : Int32) + (1 : Int32)))]) rfl ?_
          show Steps p.tables e below (s₁.setTop (mkF m 28 #[.val (.ref bv), .val (.int p2), .val (.int (0 : Int32)), .val (.int (4 : Int32)), .val (.int (p2.toInt8.toInt32)), .val (.int ((0 : Int32) + (1 : Int32)))] [])) _
          refine XS.goto X0.here hx rfl (pc0 := 28) (pc' := 7) rfl (hb hby d11_28) (by decide) (by decide) ?_
          show Steps p.tables e below (s₁.setTop (mkF m 7 #[.val (.ref bv), .val (.int p2), .val (.int (0 : Int32)), .val (.int (4 : Int32)), .val (.int (p2.toInt8.toInt32)), .val (.int ((0 : Int32) + (1 : Int32)))] [])) _
          refine XS.iload X0.here hx rfl (hb hby d11_7) rfl ?_
          show Steps p.tables e below (s₁.setTop (mkF m 9 #[.val (.ref bv), .val (.int p2), .val (.int (0 : Int32)), .val (.int (4 : Int32)), .val (.int (p2.toInt8.toInt32)), .val (.int ((0 : Int32) + (1 : Int32)))] [(.int ((0 : Int32) + (1 : Int32)))])) _
          refine XS.iloadN X0.here hx rfl (hb hby d11_9) rfl ?_
          show Steps p.tables e below (s₁.setTop (mkF m 10 #[.val (.ref bv), .val (.int p2), .val (.int (0 : Int32)), .val (.int (4 : Int32)), .val (.int (p2.toInt8.toInt32)), .val (.int ((0 : Int32) + (1 : Int32)))] [(.int (4 : Int32)), (.int ((0 : Int32) + (1 : Int32)))])) _
          refine XS.icmpNo X0.here hx rfl (hb hby d11_10) rfl (tlt (by decide)).2.1 ?_
          show Steps p.tables e below (s₁.setTop (mkF m 13 #[.val (.ref bv), .val (.int p2), .val (.int (0 : Int32)), .val (.int (4 : Int32)), .val (.int (p2.toInt8.toInt32)), .val (.int ((0 : Int32) + (1 : Int32)))] [])) _
          refine XS.aloadN X0.here hx rfl (hb hby d11_13) rfl rfl ?_
          show Steps p.tables e below (s₁.setTop (mkF m 14 #[.val (.ref bv), .val (.int p2), .val (.int (0 : Int32)), .val (.int (4 : Int32)), .val (.int (p2.toInt8.toInt32)), .val (.int ((0 : Int32) + (1 : Int32)))] [(.ref bv)])) _
          refine XS.iload X0.here hx rfl (hb hby d11_14) rfl ?_
          show Steps p.tables e below (s₁.setTop (mkF m 16 #[.val (.ref bv), .val (.int p2), .val (.int (0 : Int32)), .val (.int (4 : Int32)), .val (.int (p2.toInt8.toInt32)), .val (.int ((0 : Int32) + (1 : Int32)))] [(.int ((0 : Int32) + (1 : Int32))), (.ref bv)])) _
          refine X0.baloadBytes hx (j := ((0 : Int32) + (1 : Int32))) (v := (.int (46 : Int32))) (by rw [e0]; exact Ar0.1) (State.isArrayOf_alike hZ.alike Ar0.2.1) Ar0.2.2 hin1 hat1 (g := (mkF m 16 #[.val (.ref bv), .val (.int p2), .val (.int (0 : Int32)), .val (.int (4 : Int32)), .val (.int (p2.toInt8.toInt32)), .val (.int ((0 : Int32) + (1 : Int32)))] [(.int ((0 : Int32) + (1 : Int32))), (.ref bv)])) rfl rfl (hb hby d11_16) _ ?_
          show Steps p.tables e below (s₁.setTop (mkF m 17 #[.val (.ref bv), .val (.int p2), .val (.int (0 : Int32)), .val (.int (4 : Int32)), .val (.int (p2.toInt8.toInt32)), .val (.int ((0 : Int32) + (1 : Int32)))] [(.int (46 : Int32))])) _
          refine XS.iload X0.here hx rfl (hb hby d11_17) rfl ?_
          show Steps p.tables e below (s₁.setTop (mkF m 19 #[.val (.ref bv), .val (.int p2), .val (.int (0 : Int32)), .val (.int (4 : Int32)), .val (.int (p2.toInt8.toInt32)), .val (.int ((0 : Int32) + (1 : Int32)))] [(.int (p2.toInt8.toInt32)), (.int (46 : Int32))])) _
          refine XS.icmpYes X0.here hx rfl (pc0 := 19) (pc' := 25) rfl (hb hby d11_19) rfl (feq hk1).2 (by decide) (by decide) ?_
          show Steps p.tables e below (s₁.setTop (mkF m 25 #[.val (.ref bv), .val (.int p2), .val (.int (0 : Int32)), .val (.int (4 : Int32)), .val (.int (p2.toInt8.toInt32)), .val (.int ((0 : Int32) + (1 : Int32)))] [])) _
          refine XS.iinc X0.here hx rfl (hb hby d11_25) rfl (l' := #[.val (.ref bv), .val (.int p2), .val (.int (0 : Int32)), .val (.int (4 : Int32)), .val (.int (p2.toInt8.toInt32)), .val (.int (((0 : Int32) + (1 : Int32)) + (1 : Int32)))]) rfl ?_
          show Steps p.tables e below (s₁.setTop (mkF m 28 #[.val (.ref bv), .val (.int p2), .val (.int (0 : Int32)), .val (.int (4 : Int32)), .val (.int (p2.toInt8.toInt32)), .val (.int (((0 : Int32) + (1 : Int32)) + (1 : Int32)))] [])) _
          refine XS.goto X0.here hx rfl (pc0 := 28) (pc' := 7) rfl (hb hby d11_28) (by decide) (by decide) ?_
          show Steps p.tables e below (s₁.setTop (mkF m 7 #[.val (.ref bv), .val (.int p2), .val (.int (0 : Int32)), .val (.int (4 : Int32)), .val (.int (p2.toInt8.toInt32)), .val (.int (((0 : Int32) + (1 : Int32)) + (1 : Int32)))] [])) _
          refine XS.iload X0.here hx rfl (hb hby d11_7) rfl ?_
          show Steps p.tables e below (s₁.setTop (mkF m 9 #[.val (.ref bv), .val (.int p2), .val (.int (0 : Int32)), .val (.int (4 : Int32)), .val (.int (p2.toInt8.toInt32)), .val (.int (((0 : Int32) + (1 : Int32)) + (1 : Int32)))] [(.int (((0 : Int32) + (1 : Int32)) + (1 : Int32)))])) _
          refine XS.iloadN X0.here hx rfl (hb hby d11_9) rfl ?_
          show Steps p.tables e below (s₁.setTop (mkF m 10 #[.val (.ref bv), .val (.int p2), .val (.int (0 : Int32)), .val (.int (4 : Int32)), .val (.int (p2.toInt8.toInt32)), .val (.int (((0 : Int32) + (1 : Int32)) + (1 : Int32)))] [(.int (4 : Int32)), (.int (((0 : Int32) + (1 : Int32)) + (1 : Int32)))])) _
          refine XS.icmpNo X0.here hx rfl (hb hby d11_10) rfl (tlt (by decide)).2.1 ?_
          show Steps p.tables e below (s₁.setTop (mkF m 13 #[.val (.ref bv), .val (.int p2), .val (.int (0 : Int32)), .val (.int (4 : Int32)), .val (.int (p2.toInt8.toInt32)), .val (.int (((0 : Int32) + (1 : Int32)) + (1 : Int32)))] [])) _
          refine XS.aloadN X0.here hx rfl (hb hby d11_13) rfl rfl ?_
          show Steps p.tables e below (s₁.setTop (mkF m 14 #[.val (.ref bv), .val (.int p2), .val (.int (0 : Int32)), .val (.int (4 : Int32)), .val (.int (p2.toInt8.toInt32)), .val (.int (((0 : Int32) + (1 : Int32)) + (1 : Int32)))] [(.ref bv)])) _
          refine XS.iload X0.here hx rfl (hb hby d11_14) rfl ?_
          show Steps p.tables e below (s₁.setTop (mkF m 16 #[.val (.ref bv), .val (.int p2), .val (.int (0 : Int32)), .val (.int (4 : Int32)), .val (.int (p2.toInt8.toInt32)), .val (.int (((0 : Int32) + (1 : Int32)) + (1 : Int32)))] [(.int (((0 : Int32) + (1 : Int32)) + (1 : Int32))), (.ref bv)])) _
          refine X0.baloadBytes hx (j := (((0 : Int32) + (1 : Int32)) + (1 : Int32))) (v := (.int (95 : Int32))) (by rw [e0]; exact Ar0.1) (State.isArrayOf_alike hZ.alike Ar0.2.1) Ar0.2.2 hin2 hat2 (g := (mkF m 16 #[.val (.ref bv), .val (.int p2), .val (.int (0 : Int32)), .val (.int (4 : Int32)), .val (.int (p2.toInt8.toInt32)), .val (.int (((0 : Int32) + (1 : Int32)) + (1 : Int32)))] [(.int (((0 : Int32) + (1 : Int32)) + (1 : Int32))), (.ref bv)])) rfl rfl (hb hby d11_16) _ ?_
          show Steps p.tables e below (s₁.setTop (mkF m 17 #[.val (.ref bv), .val (.int p2), .val (.int (0 : Int32)), .val (.int (4 : Int32)), .val (.int (p2.toInt8.toInt32)), .val (.int (((0 : Int32) + (1 : Int32)) + (1 : Int32)))] [(.int (95 : Int32))])) _
          refine XS.iload X0.here hx rfl (hb hby d11_17) rfl ?_
          show Steps p.tables e below (s₁.setTop (mkF m 19 #[.val (.ref bv), .val (.int p2), .val (.int (0 : Int32)), .val (.int (4 : Int32)), .val (.int (p2.toInt8.toInt32)), .val (.int (((0 : Int32) + (1 : Int32)) + (1 : Int32)))] [(.int (p2.toInt8.toInt32)), (.int (95 : Int32))])) _
          refine XS.icmpNo X0.here hx rfl (hb hby d11_19) rfl (teq hk2).2 ?_
          show Steps p.tables e below (s₁.setTop (mkF m 22 #[.val (.ref bv), .val (.int p2), .val (.int (0 : Int32)), .val (.int (4 : Int32)), .val (.int (p2.toInt8.toInt32)), .val (.int (((0 : Int32) + (1 : Int32)) + (1 : Int32)))] [])) _
          refine XS.iload X0.here hx rfl (hb hby d11_22) rfl ?_
          exact k)
        obtain ⟨fs, hr, hrun, hended, hW, hsame⟩ := X0.leave (v := (some (.int (((0 : Int32) + (1 : Int32)) + (1 : Int32))))) (fun h => by rw [Bd.returns] at h; cases h)
        refine ⟨_, _, pre0 _ (C4 _ ?_), hrun, hended, _, _, rfl, ?_, ⟨_, rfl⟩, hW, hsame.mono (by decide) (by decide)⟩
        · exact retI X0 hx Bd.returns (hb hby d11_24) hr
        · show Q11 Z bv k0 p2 h0 n0 _ s₁.heap _
          rw [e0]
          exact ⟨congrArg (fun z => some (Value.int z)) q.symm, N0, rfl⟩
      · skip
        by_cases hk3 : (126 : Int32) = p2.toInt8.toInt32
        · have q : own_ix (p2.toInt8.toInt32) = 3 := (if_neg hk0).trans ((if_neg hk1).trans ((if_neg hk2).trans (if_pos hk3)))
          have C5 : Go p e below s₁ (mkF m 24 #[.val (.ref bv), .val (.int p2), .val (.int (0 : Int32)), .val (.int (4 : Int32)), .val (.int (p2.toInt8.toInt32)), .val (.int ((((0 : Int32) + (1 : Int32)) + (1 : Int32)) + (1 : Int32)))] [(.int ((((0 : Int32) + (1 : Int32)) + (1 : Int32)) + (1 : Int32)))]) s₁ F0 := fun t k => C1 t (by
            refine XS.iload X0.here hx rfl (hb hby d11_7) rfl ?_
            show Steps p.tables e below (s₁.setTop (mkF m 9 #[.val (.ref bv), .val (.int p2), .val (.int (0 : Int32)), .val (.int (4 : Int32)), .val (.int (p2.toInt8.toInt32)), .val (.int (0 : Int32))] [(.int (0 : Int32))])) _
            refine XS.iloadN X0.here hx rfl (hb hby d11_9) rfl ?_
            show Steps p.tables e below (s₁.setTop (mkF m 10 #[.val (.ref bv), .val (.int p2), .val (.int (0 : Int32)), .val (.int (4 : Int32)), .val (.int (p2.toInt8.toInt32)), .val (.int (0 : Int32))] [(.int (4 : Int32)), (.int (0 : Int32))])) _
            refine XS.icmpNo X0.here hx rfl (hb hby d11_10) rfl (tlt (by decide)).2.1 ?_
            show Steps p.tables e below (s₁.setTop (mkF m 13 #[.val (.ref bv), .val (.int p2), .val (.int (0 : Int32)), .val (.int (4 : Int32)), .val (.int (p2.toInt8.toInt32)), .val (.int (0 : Int32))] [])) _
            refine XS.aloadN X0.here hx rfl (hb hby d11_13) rfl rfl ?_
            show Steps p.tables e below (s₁.setTop (mkF m 14 #[.val (.ref bv), .val (.int p2), .val (.int (0 : Int32)), .val (.int (4 : Int32)), .val (.int (p2.toInt8.toInt32)), .val (.int (0 : Int32))] [(.ref bv)])) _
            refine XS.iload X0.here hx rfl (hb hby d11_14) rfl ?_
            show Steps p.tables e below (s₁.setTop (mkF m 16 #[.val (.ref bv), .val (.int p2), .val (.int (0 : Int32)), .val (.int (4 : Int32)), .val (.int (p2.toInt8.toInt32)), .val (.int (0 : Int32))] [(.int (0 : Int32)), (.ref bv)])) _
            refine X0.baloadBytes hx (j := (0 : Int32)) (v := (.int (45 : Int32))) (by rw [e0]; exact Ar0.1) (State.isArrayOf_alike hZ.alike Ar0.2.1) Ar0.2.2 hin0 hat0 (g := (mkF m 16 #[.val (.ref bv), .val (.int p2), .val (.int (0 : Int32)), .val (.int (4 : Int32)), .val (.int (p2.toInt8.toInt32)), .val (.int (0 : Int32))] [(.int (0 : Int32)), (.ref bv)])) rfl rfl (hb hby d11_16) _ ?_
            show Steps p.tables e below (s₁.setTop (mkF m 17 #[.val (.ref bv), .val (.int p2), .val (.int (0 : Int32)), .val (.int (4 : Int32)), .val (.int (p2.toInt8.toInt32)), .val (.int (0 : Int32))] [(.int (45 : Int32))])) _
            refine XS.iload X0.here hx rfl (hb hby d11_17) rfl ?_
            show Steps p.tables e below (s₁.setTop (mkF m 19 #[.val (.ref bv), .val (.int p2), .val (.int (0 : Int32)), .val (.int (4 : Int32)), .val (.int (p2.toInt8.toInt32)), .val (.int (0 : Int32))] [(.int (p2.toInt8.toInt32)), (.int (45 : Int32))])) _
            refine XS.icmpYes X0.here hx rfl (pc0 := 19) (pc' := 25) rfl (hb hby d11_19) rfl (feq hk0).2 (by decide) (by decide) ?_
            show Steps p.tables e below (s₁.setTop (mkF m 25 #[.val (.ref bv), .val (.int p2), .val (.int (0 : Int32)), .val (.int (4 : Int32)), .val (.int (p2.toInt8.toInt32)), .val (.int (0 : Int32))] [])) _
            refine XS.iinc X0.here hx rfl (hb hby d11_25) rfl (l' := #[.val (.ref bv), .val (.int p2), .val (.int (0 : Int32)), .val (.int (4 : Int32)), .val (.int (p2.toInt8.toInt32)), .val (.int ((0 : Int32) + (1 : Int32)))]) rfl ?_
            show Steps p.tables e below (s₁.setTop (mkF m 28 #[.val (.ref bv), .val (.int p2), .val (.int (0 : Int32)), .val (.int (4 : Int32)), .val (.int (p2.toInt8.toInt32)), .val (.int ((0 : Int32) + (1 : Int32)))] [])) _
            refine XS.goto X0.here hx rfl (pc0 := 28) (pc' := 7) rfl (hb hby d11_28) (by decide) (by decide) ?_
            show Steps p.tables e below (s₁.setTop (mkF m 7 #[.val (.ref bv), .val (.int p2), .val (.int (0 : Int32)), .val (.int (4 : Int32)), .val (.int (p2.toInt8.toInt32)), .val (.int ((0 : Int32) + (1 : Int32)))] [])) _
            refine XS.iload X0.here hx rfl (hb hby d11_7) rfl ?_
            show Steps p.tables e below (s₁.setTop (mkF m 9 #[.val (.ref bv), .val (.int p2), .val (.int (0 : Int32)), .val (.int (4 : Int32)), .val (.int (p2.toInt8.toInt32)), .val (.int ((0 : Int32) + (1 : Int32)))] [(.int ((0 : Int32) + (1 : Int32)))])) _
            refine XS.iloadN X0.here hx rfl (hb hby d11_9) rfl ?_
            show Steps p.tables e below (s₁.setTop (mkF m 10 #[.val (.ref bv), .val (.int p2), .val (.int (0 : Int32)), .val (.int (4 : Int32)), .val (.int (p2.toInt8.toInt32)), .val (.int ((0 : Int32) + (1 : Int32)))] [(.int (4 : Int32)), (.int ((0 : Int32) + (1 : Int32)))])) _
            refine XS.icmpNo X0.here hx rfl (hb hby d11_10) rfl (tlt (by decide)).2.1 ?_
            show Steps p.tables e below (s₁.setTop (mkF m 13 #[.val (.ref bv), .val (.int p2), .val (.int (0 : Int32)), .val (.int (4 : Int32)), .val (.int (p2.toInt8.toInt32)), .val (.int ((0 : Int32) + (1 : Int32)))] [])) _
            refine XS.aloadN X0.here hx rfl (hb hby d11_13) rfl rfl ?_
            show Steps p.tables e below (s₁.setTop (mkF m 14 #[.val (.ref bv), .val (.int p2), .val (.int (0 : Int32)), .val (.int (4 : Int32)), .val (.int (p2.toInt8.toInt32)), .val (.int ((0 : Int32) + (1 : Int32)))] [(.ref bv)])) _
            refine XS.iload X0.here hx rfl (hb hby d11_14) rfl ?_
            show Steps p.tables e below (s₁.setTop (mkF m 16 #[.val (.ref bv), .val (.int p2), .val (.int (0 : Int32)), .val (.int (4 : Int32)), .val (.int (p2.toInt8.toInt32)), .val (.int ((0 : Int32) + (1 : Int32)))] [(.int ((0 : Int32) + (1 : Int32))), (.ref bv)])) _
            refine X0.baloadBytes hx (j := ((0 : Int32) + (1 : Int32))) (v := (.int (46 : Int32))) (by rw [e0]; exact Ar0.1) (State.isArrayOf_alike hZ.alike Ar0.2.1) Ar0.2.2 hin1 hat1 (g := (mkF m 16 #[.val (.ref bv), .val (.int p2), .val (.int (0 : Int32)), .val (.int (4 : Int32)), .val (.int (p2.toInt8.toInt32)), .val (.int ((0 : Int32) + (1 : Int32)))] [(.int ((0 : Int32) + (1 : Int32))), (.ref bv)])) rfl rfl (hb hby d11_16) _ ?_
            show Steps p.tables e below (s₁.setTop (mkF m 17 #[.val (.ref bv), .val (.int p2), .val (.int (0 : Int32)), .val (.int (4 : Int32)), .val (.int (p2.toInt8.toInt32)), .val (.int ((0 : Int32) + (1 : Int32)))] [(.int (46 : Int32))])) _
            refine XS.iload X0.here hx rfl (hb hby d11_17) rfl ?_
            show Steps p.tables e below (s₁.setTop (mkF m 19 #[.val (.ref bv), .val (.int p2), .val (.int (0 : Int32)), .val (.int (4 : Int32)), .val (.int (p2.toInt8.toInt32)), .val (.int ((0 : Int32) + (1 : Int32)))] [(.int (p2.toInt8.toInt32)), (.int (46 : Int32))])) _
            refine XS.icmpYes X0.here hx rfl (pc0 := 19) (pc' := 25) rfl (hb hby d11_19) rfl (feq hk1).2 (by decide) (by decide) ?_
            show Steps p.tables e below (s₁.setTop (mkF m 25 #[.val (.ref bv), .val (.int p2), .val (.int (0 : Int32)), .val (.int (4 : Int32)), .val (.int (p2.toInt8.toInt32)), .val (.int ((0 : Int32) + (1 : Int32)))] [])) _
            refine XS.iinc X0.here hx rfl (hb hby d11_25) rfl (l' := #[.val (.ref bv), .val (.int p2), .val (.int (0 : Int32)), .val (.int (4 : Int32)), .val (.int (p2.toInt8.toInt32)), .val (.int (((0 : Int32) + (1 : Int32)) + (1 : Int32)))]) rfl ?_
            show Steps p.tables e below (s₁.setTop (mkF m 28 #[.val (.ref bv), .val (.int p2), .val (.int (0 : Int32)), .val (.int (4 : Int32)), .val (.int (p2.toInt8.toInt32)), .val (.int (((0 : Int32) + (1 : Int32)) + (1 : Int32)))] [])) _
            refine XS.goto X0.here hx rfl (pc0 := 28) (pc' := 7) rfl (hb hby d11_28) (by decide) (by decide) ?_
            show Steps p.tables e below (s₁.setTop (mkF m 7 #[.val (.ref bv), .val (.int p2), .val (.int (0 : Int32)), .val (.int (4 : Int32)), .val (.int (p2.toInt8.toInt32)), .val (.int (((0 : Int32) + (1 : Int32)) + (1 : Int32)))] [])) _
            refine XS.iload X0.here hx rfl (hb hby d11_7) rfl ?_
            show Steps p.tables e below (s₁.setTop (mkF m 9 #[.val (.ref bv), .val (.int p2), .val (.int (0 : Int32)), .val (.int (4 : Int32)), .val (.int (p2.toInt8.toInt32)), .val (.int (((0 : Int32) + (1 : Int32)) + (1 : Int32)))] [(.int (((0 : Int32) + (1 : Int32)) + (1 : Int32)))])) _
            refine XS.iloadN X0.here hx rfl (hb hby d11_9) rfl ?_
            show Steps p.tables e below (s₁.setTop (mkF m 10 #[.val (.ref bv), .val (.int p2), .val (.int (0 : Int32)), .val (.int (4 : Int32)), .val (.int (p2.toInt8.toInt32)), .val (.int (((0 : Int32) + (1 : Int32)) + (1 : Int32)))] [(.int (4 : Int32)), (.int (((0 : Int32) + (1 : Int32)) + (1 : Int32)))])) _
            refine XS.icmpNo X0.here hx rfl (hb hby d11_10) rfl (tlt (by decide)).2.1 ?_
            show Steps p.tables e below (s₁.setTop (mkF m 13 #[.val (.ref bv), .val (.int p2), .val (.int (0 : Int32)), .val (.int (4 : Int32)), .val (.int (p2.toInt8.toInt32)), .val (.int (((0 : Int32) + (1 : Int32)) + (1 : Int32)))] [])) _
            refine XS.aloadN X0.here hx rfl (hb hby d11_13) rfl rfl ?_
            show Steps p.tables e below (s₁.setTop (mkF m 14 #[.val (.ref bv), .val (.int p2), .val (.int (0 : Int32)), .val (.int (4 : Int32)), .val (.int (p2.toInt8.toInt32)), .val (.int (((0 : Int32) + (1 : Int32)) + (1 : Int32)))] [(.ref bv)])) _
            refine XS.iload X0.here hx rfl (hb hby d11_14) rfl ?_
            show Steps p.tables e below (s₁.setTop (mkF m 16 #[.val (.ref bv), .val (.int p2), .val (.int (0 : Int32)), .val (.int (4 : Int32)), .val (.int (p2.toInt8.toInt32)), .val (.int (((0 : Int32) + (1 : Int32)) + (1 : Int32)))] [(.int (((0 : Int32) + (1 : Int32)) + (1 : Int32))), (.ref bv)])) _
            refine X0.baloadBytes hx (j := (((0 : Int32) + (1 : Int32)) + (1 : Int32))) (v := (.int (95 : Int32))) (by rw [e0]; exact Ar0.1) (State.isArrayOf_alike hZ.alike Ar0.2.1) Ar0.2.2 hin2 hat2 (g := (mkF m 16 #[.val (.ref bv), .val (.int p2), .val (.int (0 : Int32)), .val (.int (4 : Int32)), .val (.int (p2.toInt8.toInt32)), .val (.int (((0 : Int32) + (1 : Int32)) + (1 : Int32)))] [(.int (((0 : Int32) + (1 : Int32)) + (1 : Int32))), (.ref bv)])) rfl rfl (hb hby d11_16) _ ?_
            show Steps p.tables e below (s₁.setTop (mkF m 17 #[.val (.ref bv), .val (.int p2), .val (.int (0 : Int32)), .val (.int (4 : Int32)), .val (.int (p2.toInt8.toInt32)), .val (.int (((0 : Int32) + (1 : Int32)) + (1 : Int32)))] [(.int (95 : Int32))])) _
            refine XS.iload X0.here hx rfl (hb hby d11_17) rfl ?_
            show Steps p.tables e below (s₁.setTop (mkF m 19 #[.val (.ref bv), .val (.int p2), .val (.int (0 : Int32)), .val (.int (4 : Int32)), .val (.int (p2.toInt8.toInt32)), .val (.int (((0 : Int32) + (1 : Int32)) + (1 : Int32)))] [(.int (p2.toInt8.toInt32)), (.int (95 : Int32))])) _
            refine XS.icmpYes X0.here hx rfl (pc0 := 19) (pc' := 25) rfl (hb hby d11_19) rfl (feq hk2).2 (by decide) (by decide) ?_
            show Steps p.tables e below (s₁.setTop (mkF m 25 #[.val (.ref bv), .val (.int p2), .val (.int (0 : Int32)), .val (.int (4 : Int32)), .val (.int (p2.toInt8.toInt32)), .val (.int (((0 : Int32) + (1 : Int32)) + (1 : Int32)))] [])) _
            refine XS.iinc X0.here hx rfl (hb hby d11_25) rfl (l' := #[.val (.ref bv), .val (.int p2), .val (.int (0 : Int32)), .val (.int (4 : Int32)), .val (.int (p2.toInt8.toInt32)), .val (.int ((((0 : Int32) + (1 : Int32)) + (1 : Int32)) + (1 : Int32)))]) rfl ?_
            show Steps p.tables e below (s₁.setTop (mkF m 28 #[.val (.ref bv), .val (.int p2), .val (.int (0 : Int32)), .val (.int (4 : Int32)), .val (.int (p2.toInt8.toInt32)), .val (.int ((((0 : Int32) + (1 : Int32)) + (1 : Int32)) + (1 : Int32)))] [])) _
            refine XS.goto X0.here hx rfl (pc0 := 28) (pc' := 7) rfl (hb hby d11_28) (by decide) (by decide) ?_
            show Steps p.tables e below (s₁.setTop (mkF m 7 #[.val (.ref bv), .val (.int p2), .val (.int (0 : Int32)), .val (.int (4 : Int32)), .val (.int (p2.toInt8.toInt32)), .val (.int ((((0 : Int32) + (1 : Int32)) + (1 : Int32)) + (1 : Int32)))] [])) _
            refine XS.iload X0.here hx rfl (hb hby d11_7) rfl ?_
            show Steps p.tables e below (s₁.setTop (mkF m 9 #[.val (.ref bv), .val (.int p2), .val (.int (0 : Int32)), .val (.int (4 : Int32)), .val (.int (p2.toInt8.toInt32)), .val (.int ((((0 : Int32) + (1 : Int32)) + (1 : Int32)) + (1 : Int32)))] [(.int ((((0 : Int32) + (1 : Int32)) + (1 : Int32)) + (1 : Int32)))])) _
            refine XS.iloadN X0.here hx rfl (hb hby d11_9) rfl ?_
            show Steps p.tables e below (s₁.setTop (mkF m 10 #[.val (.ref bv), .val (.int p2), .val (.int (0 : Int32)), .val (.int (4 : Int32)), .val (.int (p2.toInt8.toInt32)), .val (.int ((((0 : Int32) + (1 : Int32)) + (1 : Int32)) + (1 : Int32)))] [(.int (4 : Int32)), (.int ((((0 : Int32) + (1 : Int32)) + (1 : Int32)) + (1 : Int32)))])) _
            refine XS.icmpNo X0.here hx rfl (hb hby d11_10) rfl (tlt (by decide)).2.1 ?_
            show Steps p.tables e below (s₁.setTop (mkF m 13 #[.val (.ref bv), .val (.int p2), .val (.int (0 : Int32)), .val (.int (4 : Int32)), .val (.int (p2.toInt8.toInt32)), .val (.int ((((0 : Int32) + (1 : Int32)) + (1 : Int32)) + (1 : Int32)))] [])) _
            refine XS.aloadN X0.here hx rfl (hb hby d11_13) rfl rfl ?_
            show Steps p.tables e below (s₁.setTop (mkF m 14 #[.val (.ref bv), .val (.int p2), .val (.int (0 : Int32)), .val (.int (4 : Int32)), .val (.int (p2.toInt8.toInt32)), .val (.int ((((0 : Int32) + (1 : Int32)) + (1 : Int32)) + (1 : Int32)))] [(.ref bv)])) _
            refine XS.iload X0.here hx rfl (hb hby d11_14) rfl ?_
            show Steps p.tables e below (s₁.setTop (mkF m 16 #[.val (.ref bv), .val (.int p2), .val (.int (0 : Int32)), .val (.int (4 : Int32)), .val (.int (p2.toInt8.toInt32)), .val (.int ((((0 : Int32) + (1 : Int32)) + (1 : Int32)) + (1 : Int32)))] [(.int ((((0 : Int32) + (1 : Int32)) + (1 : Int32)) + (1 : Int32))), (.ref bv)])) _
            refine X0.baloadBytes hx (j := ((((0 : Int32) + (1 : Int32)) + (1 : Int32)) + (1 : Int32))) (v := (.int (126 : Int32))) (by rw [e0]; exact Ar0.1) (State.isArrayOf_alike hZ.alike Ar0.2.1) Ar0.2.2 hin3 hat3 (g := (mkF m 16 #[.val (.ref bv), .val (.int p2), .val (.int (0 : Int32)), .val (.int (4 : Int32)), .val (.int (p2.toInt8.toInt32)), .val (.int ((((0 : Int32) + (1 : Int32)) + (1 : Int32)) + (1 : Int32)))] [(.int ((((0 : Int32) + (1 : Int32)) + (1 : Int32)) + (1 : Int32))), (.ref bv)])) rfl rfl (hb hby d11_16) _ ?_
            show Steps p.tables e below (s₁.setTop (mkF m 17 #[.val (.ref bv), .val (.int p2), .val (.int (0 : Int32)), .val (.int (4 : Int32)), .val (.int (p2.toInt8.toInt32)), .val (.int ((((0 : Int32) + (1 : Int32)) + (1 : Int32)) + (1 : Int32)))] [(.int (126 : Int32))])) _
            refine XS.iload X0.here hx rfl (hb hby d11_17) rfl ?_
            show Steps p.tables e below (s₁.setTop (mkF m 19 #[.val (.ref bv), .val (.int p2), .val (.int (0 : Int32)), .val (.int (4 : Int32)), .val (.int (p2.toInt8.toInt32)), .val (.int ((((0 : Int32) + (1 : Int32)) + (1 : Int32)) + (1 : Int32)))] [(.int (p2.toInt8.toInt32)), (.int (126 : Int32))])) _
            refine XS.icmpNo X0.here hx rfl (hb hby d11_19) rfl (teq hk3).2 ?_
            show Steps p.tables e below (s₁.setTop (mkF m 22 #[.val (.ref bv), .val (.int p2), .val (.int (0 : Int32)), .val (.int (4 : Int32)), .val (.int (p2.toInt8.toInt32)), .val (.int ((((0 : Int32) + (1 : Int32)) + (1 : Int32)) + (1 : Int32)))] [])) _
            refine XS.iload X0.here hx rfl (hb hby d11_22) rfl ?_
            exact k)
          obtain ⟨fs, hr, hrun, hended, hW, hsame⟩ := X0.leave (v := (some (.int ((((0 : Int32) + (1 : Int32)) + (1 : Int32)) + (1 : Int32))))) (fun h => by rw [Bd.returns] at h; cases h)
          refine ⟨_, _, pre0 _ (C5 _ ?_), hrun, hended, _, _, rfl, ?_, ⟨_, rfl⟩, hW, hsame.mono (by decide) (by decide)⟩
          · exact retI X0 hx Bd.returns (hb hby d11_24) hr
          · show Q11 Z bv k0 p2 h0 n0 _ s₁.heap _
            rw [e0]
            exact ⟨congrArg (fun z => some (Value.int z)) q.symm, N0, rfl⟩
        · skip
          have q : own_ix (p2.toInt8.toInt32) = -1 := (if_neg hk0).trans ((if_neg hk1).trans ((if_neg hk2).trans (if_neg hk3)))
          have C6 : Go p e below s₁ (mkF m 32 #[.val (.ref bv), .val (.int p2), .val (.int (0 : Int32)), .val (.int (4 : Int32)), .val (.int (p2.toInt8.toInt32)), .val (.int (((((0 : Int32) + (1 : Int32)) + (1 : Int32)) + (1 : Int32)) + (1 : Int32)))] [(.int (-1 : Int32))]) s₁ F0 := fun t k => C1 t (by
            refine XS.iload X0.here hx rfl (hb hby d11_7) rfl ?_
            show Steps p.tables e below (s₁.setTop (mkF m 9 #[.val (.ref bv), .val (.int p2), .val (.int (0 : Int32)), .val (.int (4 : Int32)), .val (.int (p2.toInt8.toInt32)), .val (.int (0 : Int32))] [(.int (0 : Int32))])) _
            refine XS.iloadN X0.here hx rfl (hb hby d11_9) rfl ?_
            show Steps p.tables e below (s₁.setTop (mkF m 10 #[.val (.ref bv), .val (.int p2), .val (.int (0 : Int32)), .val (.int (4 : Int32)), .val (.int (p2.toInt8.toInt32)), .val (.int (0 : Int32))] [(.int (4 : Int32)), (.int (0 : Int32))])) _
            refine XS.icmpNo X0.here hx rfl (hb hby d11_10) rfl (tlt (by decide)).2.1 ?_
            show Steps p.tables e below (s₁.setTop (mkF m 13 #[.val (.ref bv), .val (.int p2), .val (.int (0 : Int32)), .val (.int (4 : Int32)), .val (.int (p2.toInt8.toInt32)), .val (.int (0 : Int32))] [])) _
            refine XS.aloadN X0.here hx rfl (hb hby d11_13) rfl rfl ?_
            show Steps p.tables e below (s₁.setTop (mkF m 14 #[.val (.ref bv), .val (.int p2), .val (.int (0 : Int32)), .val (.int (4 : Int32)), .val (.int (p2.toInt8.toInt32)), .val (.int (0 : Int32))] [(.ref bv)])) _
            refine XS.iload X0.here hx rfl (hb hby d11_14) rfl ?_
            show Steps p.tables e below (s₁.setTop (mkF m 16 #[.val (.ref bv), .val (.int p2), .val (.int (0 : Int32)), .val (.int (4 : Int32)), .val (.int (p2.toInt8.toInt32)), .val (.int (0 : Int32))] [(.int (0 : Int32)), (.ref bv)])) _
            refine X0.baloadBytes hx (j := (0 : Int32)) (v := (.int (45 : Int32))) (by rw [e0]; exact Ar0.1) (State.isArrayOf_alike hZ.alike Ar0.2.1) Ar0.2.2 hin0 hat0 (g := (mkF m 16 #[.val (.ref bv), .val (.int p2), .val (.int (0 : Int32)), .val (.int (4 : Int32)), .val (.int (p2.toInt8.toInt32)), .val (.int (0 : Int32))] [(.int (0 : Int32)), (.ref bv)])) rfl rfl (hb hby d11_16) _ ?_
            show Steps p.tables e below (s₁.setTop (mkF m 17 #[.val (.ref bv), .val (.int p2), .val (.int (0 : Int32)), .val (.int (4 : Int32)), .val (.int (p2.toInt8.toInt32)), .val (.int (0 : Int32))] [(.int (45 : Int32))])) _
            refine XS.iload X0.here hx rfl (hb hby d11_17) rfl ?_
            show Steps p.tables e below (s₁.setTop (mkF m 19 #[.val (.ref bv), .val (.int p2), .val (.int (0 : Int32)), .val (.int (4 : Int32)), .val (.int (p2.toInt8.toInt32)), .val (.int (0 : Int32))] [(.int (p2.toInt8.toInt32)), (.int (45 : Int32))])) _
            refine XS.icmpYes X0.here hx rfl (pc0 := 19) (pc' := 25) rfl (hb hby d11_19) rfl (feq hk0).2 (by decide) (by decide) ?_
            show Steps p.tables e below (s₁.setTop (mkF m 25 #[.val (.ref bv), .val (.int p2), .val (.int (0 : Int32)), .val (.int (4 : Int32)), .val (.int (p2.toInt8.toInt32)), .val (.int (0 : Int32))] [])) _
            refine XS.iinc X0.here hx rfl (hb hby d11_25) rfl (l' := #[.val (.ref bv), .val (.int p2), .val (.int (0 : Int32)), .val (.int (4 : Int32)), .val (.int (p2.toInt8.toInt32)), .val (.int ((0 : Int32) + (1 : Int32)))]) rfl ?_
            show Steps p.tables e below (s₁.setTop (mkF m 28 #[.val (.ref bv), .val (.int p2), .val (.int (0 : Int32)), .val (.int (4 : Int32)), .val (.int (p2.toInt8.toInt32)), .val (.int ((0 : Int32) + (1 : Int32)))] [])) _
            refine XS.goto X0.here hx rfl (pc0 := 28) (pc' := 7) rfl (hb hby d11_28) (by decide) (by decide) ?_
            show Steps p.tables e below (s₁.setTop (mkF m 7 #[.val (.ref bv), .val (.int p2), .val (.int (0 : Int32)), .val (.int (4 : Int32)), .val (.int (p2.toInt8.toInt32)), .val (.int ((0 : Int32) + (1 : Int32)))] [])) _
            refine XS.iload X0.here hx rfl (hb hby d11_7) rfl ?_
            show Steps p.tables e below (s₁.setTop (mkF m 9 #[.val (.ref bv), .val (.int p2), .val (.int (0 : Int32)), .val (.int (4 : Int32)), .val (.int (p2.toInt8.toInt32)), .val (.int ((0 : Int32) + (1 : Int32)))] [(.int ((0 : Int32) + (1 : Int32)))])) _
            refine XS.iloadN X0.here hx rfl (hb hby d11_9) rfl ?_
            show Steps p.tables e below (s₁.setTop (mkF m 10 #[.val (.ref bv), .val (.int p2), .val (.int (0 : Int32)), .val (.int (4 : Int32)), .val (.int (p2.toInt8.toInt32)), .val (.int ((0 : Int32) + (1 : Int32)))] [(.int (4 : Int32)), (.int ((0 : Int32) + (1 : Int32)))])) _
            refine XS.icmpNo X0.here hx rfl (hb hby d11_10) rfl (tlt (by decide)).2.1 ?_
            show Steps p.tables e below (s₁.setTop (mkF m 13 #[.val (.ref bv), .val (.int p2), .val (.int (0 : Int32)), .val (.int (4 : Int32)), .val (.int (p2.toInt8.toInt32)), .val (.int ((0 : Int32) + (1 : Int32)))] [])) _
            refine XS.aloadN X0.here hx rfl (hb hby d11_13) rfl rfl ?_
            show Steps p.tables e below (s₁.setTop (mkF m 14 #[.val (.ref bv), .val (.int p2), .val (.int (0 : Int32)), .val (.int (4 : Int32)), .val (.int (p2.toInt8.toInt32)), .val (.int ((0 : Int32) + (1 : Int32)))] [(.ref bv)])) _
            refine XS.iload X0.here hx rfl (hb hby d11_14) rfl ?_
            show Steps p.tables e below (s₁.setTop (mkF m 16 #[.val (.ref bv), .val (.int p2), .val (.int (0 : Int32)), .val (.int (4 : Int32)), .val (.int (p2.toInt8.toInt32)), .val (.int ((0 : Int32) + (1 : Int32)))] [(.int ((0 : Int32) + (1 : Int32))), (.ref bv)])) _
            refine X0.baloadBytes hx (j := ((0 : Int32) + (1 : Int32))) (v := (.int (46 : Int32))) (by rw [e0]; exact Ar0.1) (State.isArrayOf_alike hZ.alike Ar0.2.1) Ar0.2.2 hin1 hat1 (g := (mkF m 16 #[.val (.ref bv), .val (.int p2), .val (.int (0 : Int32)), .val (.int (4 : Int32)), .val (.int (p2.toInt8.toInt32)), .val (.int ((0 : Int32) + (1 : Int32)))] [(.int ((0 : Int32) + (1 : Int32))), (.ref bv)])) rfl rfl (hb hby d11_16) _ ?_
            show Steps p.tables e below (s₁.setTop (mkF m 17 #[.val (.ref bv), .val (.int p2), .val (.int (0 : Int32)), .val (.int (4 : Int32)), .val (.int (p2.toInt8.toInt32)), .val (.int ((0 : Int32) + (1 : Int32)))] [(.int (46 : Int32))])) _
            refine XS.iload X0.here hx rfl (hb hby d11_17) rfl ?_
            show Steps p.tables e below (s₁.setTop (mkF m 19 #[.val (.ref bv), .val (.int p2), .val (.int (0 : Int32)), .val (.int (4 : Int32)), .val (.int (p2.toInt8.toInt32)), .val (.int ((0 : Int32) + (1 : Int32)))] [(.int (p2.toInt8.toInt32)), (.int (46 : Int32))])) _
            refine XS.icmpYes X0.here hx rfl (pc0 := 19) (pc' := 25) rfl (hb hby d11_19) rfl (feq hk1).2 (by decide) (by decide) ?_
            show Steps p.tables e below (s₁.setTop (mkF m 25 #[.val (.ref bv), .val (.int p2), .val (.int (0 : Int32)), .val (.int (4 : Int32)), .val (.int (p2.toInt8.toInt32)), .val (.int ((0 : Int32) + (1 : Int32)))] [])) _
            refine XS.iinc X0.here hx rfl (hb hby d11_25) rfl (l' := #[.val (.ref bv), .val (.int p2), .val (.int (0 : Int32)), .val (.int (4 : Int32)), .val (.int (p2.toInt8.toInt32)), .val (.int (((0 : Int32) + (1 : Int32)) + (1 : Int32)))]) rfl ?_
            show Steps p.tables e below (s₁.setTop (mkF m 28 #[.val (.ref bv), .val (.int p2), .val (.int (0 : Int32)), .val (.int (4 : Int32)), .val (.int (p2.toInt8.toInt32)), .val (.int (((0 : Int32) + (1 : Int32)) + (1 : Int32)))] [])) _
            refine XS.goto X0.here hx rfl (pc0 := 28) (pc' := 7) rfl (hb hby d11_28) (by decide) (by decide) ?_
            show Steps p.tables e below (s₁.setTop (mkF m 7 #[.val (.ref bv), .val (.int p2), .val (.int (0 : Int32)), .val (.int (4 : Int32)), .val (.int (p2.toInt8.toInt32)), .val (.int (((0 : Int32) + (1 : Int32)) + (1 : Int32)))] [])) _
            refine XS.iload X0.here hx rfl (hb hby d11_7) rfl ?_
            show Steps p.tables e below (s₁.setTop (mkF m 9 #[.val (.ref bv), .val (.int p2), .val (.int (0 : Int32)), .val (.int (4 : Int32)), .val (.int (p2.toInt8.toInt32)), .val (.int (((0 : Int32) + (1 : Int32)) + (1 : Int32)))] [(.int (((0 : Int32) + (1 : Int32)) + (1 : Int32)))])) _
            refine XS.iloadN X0.here hx rfl (hb hby d11_9) rfl ?_
            show Steps p.tables e below (s₁.setTop (mkF m 10 #[.val (.ref bv), .val (.int p2), .val (.int (0 : Int32)), .val (.int (4 : Int32)), .val (.int (p2.toInt8.toInt32)), .val (.int (((0 : Int32) + (1 : Int32)) + (1 : Int32)))] [(.int (4 : Int32)), (.int (((0 : Int32) + (1 : Int32)) + (1 : Int32)))])) _
            refine XS.icmpNo X0.here hx rfl (hb hby d11_10) rfl (tlt (by decide)).2.1 ?_
            show Steps p.tables e below (s₁.setTop (mkF m 13 #[.val (.ref bv), .val (.int p2), .val (.int (0 : Int32)), .val (.int (4 : Int32)), .val (.int (p2.toInt8.toInt32)), .val (.int (((0 : Int32) + (1 : Int32)) + (1 : Int32)))] [])) _
            refine XS.aloadN X0.here hx rfl (hb hby d11_13) rfl rfl ?_
            show Steps p.tables e below (s₁.setTop (mkF m 14 #[.val (.ref bv), .val (.int p2), .val (.int (0 : Int32)), .val (.int (4 : Int32)), .val (.int (p2.toInt8.toInt32)), .val (.int (((0 : Int32) + (1 : Int32)) + (1 : Int32)))] [(.ref bv)])) _
            refine XS.iload X0.here hx rfl (hb hby d11_14) rfl ?_
            show Steps p.tables e below (s₁.setTop (mkF m 16 #[.val (.ref bv), .val (.int p2), .val (.int (0 : Int32)), .val (.int (4 : Int32)), .val (.int (p2.toInt8.toInt32)), .val (.int (((0 : Int32) + (1 : Int32)) + (1 : Int32)))] [(.int (((0 : Int32) + (1 : Int32)) + (1 : Int32))), (.ref bv)])) _
            refine X0.baloadBytes hx (j := (((0 : Int32) + (1 : Int32)) + (1 : Int32))) (v := (.int (95 : Int32))) (by rw [e0]; exact Ar0.1) (State.isArrayOf_alike hZ.alike Ar0.2.1) Ar0.2.2 hin2 hat2 (g := (mkF m 16 #[.val (.ref bv), .val (.int p2), .val (.int (0 : Int32)), .val (.int (4 : Int32)), .val (.int (p2.toInt8.toInt32)), .val (.int (((0 : Int32) + (1 : Int32)) + (1 : Int32)))] [(.int (((0 : Int32) + (1 : Int32)) + (1 : Int32))), (.ref bv)])) rfl rfl (hb hby d11_16) _ ?_
            show Steps p.tables e below (s₁.setTop (mkF m 17 #[.val (.ref bv), .val (.int p2), .val (.int (0 : Int32)), .val (.int (4 : Int32)), .val (.int (p2.toInt8.toInt32)), .val (.int (((0 : Int32) + (1 : Int32)) + (1 : Int32)))] [(.int (95 : Int32))])) _
            refine XS.iload X0.here hx rfl (hb hby d11_17) rfl ?_
            show Steps p.tables e below (s₁.setTop (mkF m 19 #[.val (.ref bv), .val (.int p2), .val (.int (0 : Int32)), .val (.int (4 : Int32)), .val (.int (p2.toInt8.toInt32)), .val (.int (((0 : Int32) + (1 : Int32)) + (1 : Int32)))] [(.int (p2.toInt8.toInt32)), (.int (95 : Int32))])) _
            refine XS.icmpYes X0.here hx rfl (pc0 := 19) (pc' := 25) rfl (hb hby d11_19) rfl (feq hk2).2 (by decide) (by decide) ?_
            show Steps p.tables e below (s₁.setTop (mkF m 25 #[.val (.ref bv), .val (.int p2), .val (.int (0 : Int32)), .val (.int (4 : Int32)), .val (.int (p2.toInt8.toInt32)), .val (.int (((0 : Int32) + (1 : Int32)) + (1 : Int32)))] [])) _
            refine XS.iinc X0.here hx rfl (hb hby d11_25) rfl (l' := #[.val (.ref bv), .val (.int p2), .val (.int (0 : Int32)), .val (.int (4 : Int32)), .val (.int (p2.toInt8.toInt32)), .val (.int ((((0 : Int32) + (1 : Int32)) + (1 : Int32)) + (1 : Int32)))]) rfl ?_
            show Steps p.tables e below (s₁.setTop (mkF m 28 #[.val (.ref bv), .val (.int p2), .val (.int (0 : Int32)), .val (.int (4 : Int32)), .val (.int (p2.toInt8.toInt32)), .val (.int ((((0 : Int32) + (1 : Int32)) + (1 : Int32)) + (1 : Int32)))] [])) _
            refine XS.goto X0.here hx rfl (pc0 := 28) (pc' := 7) rfl (hb hby d11_28) (by decide) (by decide) ?_
            show Steps p.tables e below (s₁.setTop (mkF m 7 #[.val (.ref bv), .val (.int p2), .val (.int (0 : Int32)), .val (.int (4 : Int32)), .val (.int (p2.toInt8.toInt32)), .val (.int ((((0 : Int32) + (1 : Int32)) + (1 : Int32)) + (1 : Int32)))] [])) _
            refine XS.iload X0.here hx rfl (hb hby d11_7) rfl ?_
            show Steps p.tables e below (s₁.setTop (mkF m 9 #[.val (.ref bv), .val (.int p2), .val (.int (0 : Int32)), .val (.int (4 : Int32)), .val (.int (p2.toInt8.toInt32)), .val (.int ((((0 : Int32) + (1 : Int32)) + (1 : Int32)) + (1 : Int32)))] [(.int ((((0 : Int32) + (1 : Int32)) + (1 : Int32)) + (1 : Int32)))])) _
            refine XS.iloadN X0.here hx rfl (hb hby d11_9) rfl ?_
            show Steps p.tables e below (s₁.setTop (mkF m 10 #[.val (.ref bv), .val (.int p2), .val (.int (0 : Int32)), .val (.int (4 : Int32)), .val (.int (p2.toInt8.toInt32)), .val (.int ((((0 : Int32) + (1 : Int32)) + (1 : Int32)) + (1 : Int32)))] [(.int (4 : Int32)), (.int ((((0 : Int32) + (1 : Int32)) + (1 : Int32)) + (1 : Int32)))])) _
            refine XS.icmpNo X0.here hx rfl (hb hby d11_10) rfl (tlt (by decide)).2.1 ?_
            show Steps p.tables e below (s₁.setTop (mkF m 13 #[.val (.ref bv), .val (.int p2), .val (.int (0 : Int32)), .val (.int (4 : Int32)), .val (.int (p2.toInt8.toInt32)), .val (.int ((((0 : Int32) + (1 : Int32)) + (1 : Int32)) + (1 : Int32)))] [])) _
            refine XS.aloadN X0.here hx rfl (hb hby d11_13) rfl rfl ?_
            show Steps p.tables e below (s₁.setTop (mkF m 14 #[.val (.ref bv), .val (.int p2), .val (.int (0 : Int32)), .val (.int (4 : Int32)), .val (.int (p2.toInt8.toInt32)), .val (.int ((((0 : Int32) + (1 : Int32)) + (1 : Int32)) + (1 : Int32)))] [(.ref bv)])) _
            refine XS.iload X0.here hx rfl (hb hby d11_14) rfl ?_
            show Steps p.tables e below (s₁.setTop (mkF m 16 #[.val (.ref bv), .val (.int p2), .val (.int (0 : Int32)), .val (.int (4 : Int32)), .val (.int (p2.toInt8.toInt32)), .val (.int ((((0 : Int32) + (1 : Int32)) + (1 : Int32)) + (1 : Int32)))] [(.int ((((0 : Int32) + (1 : Int32)) + (1 : Int32)) + (1 : Int32))), (.ref bv)])) _
            refine X0.baloadBytes hx (j := ((((0 : Int32) + (1 : Int32)) + (1 : Int32)) + (1 : Int32))) (v := (.int (126 : Int32))) (by rw [e0]; exact Ar0.1) (State.isArrayOf_alike hZ.alike Ar0.2.1) Ar0.2.2 hin3 hat3 (g := (mkF m 16 #[.val (.ref bv), .val (.int p2), .val (.int (0 : Int32)), .val (.int (4 : Int32)), .val (.int (p2.toInt8.toInt32)), .val (.int ((((0 : Int32) + (1 : Int32)) + (1 : Int32)) + (1 : Int32)))] [(.int ((((0 : Int32) + (1 : Int32)) + (1 : Int32)) + (1 : Int32))), (.ref bv)])) rfl rfl (hb hby d11_16) _ ?_
            show Steps p.tables e below (s₁.setTop (mkF m 17 #[.val (.ref bv), .val (.int p2), .val (.int (0 : Int32)), .val (.int (4 : Int32)), .val (.int (p2.toInt8.toInt32)), .val (.int ((((0 : Int32) + (1 : Int32)) + (1 : Int32)) + (1 : Int32)))] [(.int (126 : Int32))])) _
            refine XS.iload X0.here hx rfl (hb hby d11_17) rfl ?_
            show Steps p.tables e below (s₁.setTop (mkF m 19 #[.val (.ref bv), .val (.int p2), .val (.int (0 : Int32)), .val (.int (4 : Int32)), .val (.int (p2.toInt8.toInt32)), .val (.int ((((0 : Int32) + (1 : Int32)) + (1 : Int32)) + (1 : Int32)))] [(.int (p2.toInt8.toInt32)), (.int (126 : Int32))])) _
            refine XS.icmpYes X0.here hx rfl (pc0 := 19) (pc' := 25) rfl (hb hby d11_19) rfl (feq hk3).2 (by decide) (by decide) ?_
            show Steps p.tables e below (s₁.setTop (mkF m 25 #[.val (.ref bv), .val (.int p2), .val (.int (0 : Int32)), .val (.int (4 : Int32)), .val (.int (p2.toInt8.toInt32)), .val (.int ((((0 : Int32) + (1 : Int32)) + (1 : Int32)) + (1 : Int32)))] [])) _
            refine XS.iinc X0.here hx rfl (hb hby d11_25) rfl (l' := #[.val (.ref bv), .val (.int p2), .val (.int (0 : Int32)), .val (.int (4 : Int32)), .val (.int (p2.toInt8.toInt32)), .val (.int (((((0 : Int32) + (1 : Int32)) + (1 : Int32)) + (1 : Int32)) + (1 : Int32)))]) rfl ?_
            show Steps p.tables e below (s₁.setTop (mkF m 28 #[.val (.ref bv), .val (.int p2), .val (.int (0 : Int32)), .val (.int (4 : Int32)), .val (.int (p2.toInt8.toInt32)), .val (.int (((((0 : Int32) + (1 : Int32)) + (1 : Int32)) + (1 : Int32)) + (1 : Int32)))] [])) _
            refine XS.goto X0.here hx rfl (pc0 := 28) (pc' := 7) rfl (hb hby d11_28) (by decide) (by decide) ?_
            show Steps p.tables e below (s₁.setTop (mkF m 7 #[.val (.ref bv), .val (.int p2), .val (.int (0 : Int32)), .val (.int (4 : Int32)), .val (.int (p2.toInt8.toInt32)), .val (.int (((((0 : Int32) + (1 : Int32)) + (1 : Int32)) + (1 : Int32)) + (1 : Int32)))] [])) _
            refine XS.iload X0.here hx rfl (hb hby d11_7) rfl ?_
            show Steps p.tables e below (s₁.setTop (mkF m 9 #[.val (.ref bv), .val (.int p2), .val (.int (0 : Int32)), .val (.int (4 : Int32)), .val (.int (p2.toInt8.toInt32)), .val (.int (((((0 : Int32) + (1 : Int32)) + (1 : Int32)) + (1 : Int32)) + (1 : Int32)))] [(.int (((((0 : Int32) + (1 : Int32)) + (1 : Int32)) + (1 : Int32)) + (1 : Int32)))])) _
            refine XS.iloadN X0.here hx rfl (hb hby d11_9) rfl ?_
            show Steps p.tables e below (s₁.setTop (mkF m 10 #[.val (.ref bv), .val (.int p2), .val (.int (0 : Int32)), .val (.int (4 : Int32)), .val (.int (p2.toInt8.toInt32)), .val (.int (((((0 : Int32) + (1 : Int32)) + (1 : Int32)) + (1 : Int32)) + (1 : Int32)))] [(.int (4 : Int32)), (.int (((((0 : Int32) + (1 : Int32)) + (1 : Int32)) + (1 : Int32)) + (1 : Int32)))])) _
            refine XS.icmpYes X0.here hx rfl (pc0 := 10) (pc' := 31) rfl (hb hby d11_10) rfl (flt (by decide)).2.1 (by decide) (by decide) ?_
            show Steps p.tables e below (s₁.setTop (mkF m 31 #[.val (.ref bv), .val (.int p2), .val (.int (0 : Int32)), .val (.int (4 : Int32)), .val (.int (p2.toInt8.toInt32)), .val (.int (((((0 : Int32) + (1 : Int32)) + (1 : Int32)) + (1 : Int32)) + (1 : Int32)))] [])) _
            refine XS.iconst X0.here hx rfl (hb hby d11_31) ?_
            exact k)
          obtain ⟨fs, hr, hrun, hended, hW, hsame⟩ := X0.leave (v := (some (.int (-1 : Int32)))) (fun h => by rw [Bd.returns] at h; cases h)
          refine ⟨_, _, pre0 _ (C6 _ ?_), hrun, hended, _, _, rfl, ?_, ⟨_, rfl⟩, hW, hsame.mono (by decide) (by decide)⟩
          · exact retI X0 hx Bd.returns (hb hby d11_32) hr
          · show Q11 Z bv k0 p2 h0 n0 _ s₁.heap _
            rw [e0]
            exact ⟨congrArg (fun z => some (Value.int z)) q.symm, N0, rfl⟩
theorem d7_0 : decode jdk_43_method_22_code 0 = .ok (.iload_n 1, 1) := by decide +kernel
theorem d7_1 : decode jdk_43_method_22_code 1 = .ok (.invokestatic 88, 3) := by decide +kernel
theorem d7_4 : decode jdk_43_method_22_code 4 = .ok (.ifCond .ne 5, 3) := by decide +kernel
theorem d7_7 : decode jdk_43_method_22_code 7 = .ok (.iconst (-1), 1) := by decide +kernel
theorem d7_8 : decode jdk_43_method_22_code 8 = .ok (.ireturn, 1) := by decide +kernel
theorem d7_9 : decode jdk_43_method_22_code 9 = .ok (.iload_n 2, 1) := by decide +kernel
theorem d7_10 : decode jdk_43_method_22_code 10 = .ok (.iconst 0, 1) := by decide +kernel
theorem d7_11 : decode jdk_43_method_22_code 11 = .ok (.invokestatic 92, 3) := by decide +kernel
theorem d7_14 : decode jdk_43_method_22_code 14 = .ok (.istore_n 2, 1) := by decide +kernel
theorem d7_15 : decode jdk_43_method_22_code 15 = .ok (.iload_n 3, 1) := by decide +kernel
theorem d7_16 : decode jdk_43_method_22_code 16 = .ok (.aload_n 0, 1) := by decide +kernel
theorem d7_17 : decode jdk_43_method_22_code 17 = .ok (.arraylength, 1) := by decide +kernel
theorem d7_18 : decode jdk_43_method_22_code 18 = .ok (.invokestatic 38, 3) := by decide +kernel
theorem d7_21 : decode jdk_43_method_22_code 21 = .ok (.istore_n 3, 1) := by decide +kernel
theorem d7_22 : decode jdk_43_method_22_code 22 = .ok (.iload_n 2, 1) := by decide +kernel
theorem d7_23 : decode jdk_43_method_22_code 23 = .ok (.iload_n 3, 1) := by decide +kernel
theorem d7_24 : decode jdk_43_method_22_code 24 = .ok (.if_icmp .lt 5, 3) := by decide +kernel
theorem d7_27 : decode jdk_43_method_22_code 27 = .ok (.iconst (-1), 1) := by decide +kernel
theorem d7_28 : decode jdk_43_method_22_code 28 = .ok (.ireturn, 1) := by decide +kernel
theorem d7_29 : decode jdk_43_method_22_code 29 = .ok (.aload_n 0, 1) := by decide +kernel
theorem d7_30 : decode jdk_43_method_22_code 30 = .ok (.iload_n 1, 1) := by decide +kernel
theorem d7_31 : decode jdk_43_method_22_code 31 = .ok (.iload_n 2, 1) := by decide +kernel
theorem d7_32 : decode jdk_43_method_22_code 32 = .ok (.iload_n 3, 1) := by decide +kernel
theorem d7_33 : decode jdk_43_method_22_code 33 = .ok (.invokestatic 95, 3) := by decide +kernel
theorem d7_36 : decode jdk_43_method_22_code 36 = .ok (.ireturn, 1) := by decide +kernel
theorem pn_7 : plainName "java/lang/StringLatin1" = true := by first | (simp [plainName, overriddenIn]; done) | decide +kernel
theorem pd_7 : parseMethodDescriptor "([BIII)I" = some ⟨[(.array .byte), .int, .int, .int], some .int⟩ := by decide +kernel
theorem ef_7 (m : MethodId) (x0 : Addr) (x1 : Int32) (x2 : Int32) (x3 : Int32) : entryFrame m #[(.ref x0), (.int x1), (.int x2), (.int x3)] 4 = mkF m 0 #[.val (.ref x0), .val (.int x1), .val (.int x2), .val (.int x3)] [] := by first | (simp [entryFrame, mkF, argsToLocals, Value.category]; done) | rfl
def Q7 (Z : State) (bv : Addr) (k0 : ClassId) (p2 : Int32) (h0 : Heap) (n0 : Nat) (v : Option Value) (h : Heap) (L : List Loc) : Prop := v = some (.int (own_sl p2)) ∧ Fr n0 L ∧ h = h0
set_option maxRecDepth 65536 in
set_option maxHeartbeats 40000000 in
theorem rm7 (l : Launch) (Z : State) (a0 : Array Value) (hw : ∀ d ∈ tables_1, d.before a0 Z = true) (ws : List Jvm.Cond) (bv : Addr) (k0 : ClassId) (p2 : Int32) (h0 : Heap) (n0 : Nat) (Z0 : n0 ≤ h0.size) (V0 : Arv Z h0 bv k0 .byte 4 [.int 45, .int 46, .int 95, .int 126] (.int 0)) :
    MetFree l (⟨"java/lang/StringLatin1", "indexOf", "([BIII)I"⟩ : MethodName) (head1 (Jvm.Cond.code (⟨"java/lang/StringLatin1", "indexOf", "([BIII)I"⟩ : MethodName) jdk_43_method_22_code 4 (some .int) :: ws) ({ frames := 1, cells := 0, slots := 0, locals := 17 } : Room)) (fun a U => a = #[(.ref bv), (.int p2), (.int (0 : Int32)), (.int (4 : Int32))] ∧ Z.Warmed39 U.vm ∧ U.heap = h0) (fun _ _ _ _ _ => True) (fun _ U o U' => ∃ v L, o = .returned v ∧ Q7 Z bv k0 p2 h0 n0 v U'.heap L ∧ FrameEnd U o U' L ({ frames := 1, cells := 0, slots := 0, locals := 17 } : Room).cells ({ frames := 1, cells := 0, slots := 0, locals := 17 } : Room).slots) := by
  refine MetFree.of_bodySF (plainFor_of_name pn_7) hisR ?_
  intro p e s m args below meth c s₁ Bd hml0 hP hK
  obtain ⟨rfl, hZ, hh⟩ := hP
  have hx := Bd.exec
  have hby := Bd.bytes
  have hml : c.maxLocals = 4 := hml0
  have hown : s.vm.findClass "java/lang/StringLatin1" = some m.cls := findClass_of_methodNamed Bd.named
  have hnm := (name_of_methodNamed Bd.named Bd.method).1
  have X0 : Stand p l e ({ frames := 1, cells := 0, slots := 0, locals := 17 } : Room) s m #[(.ref bv), (.int p2), (.int (0 : Int32)), (.int (4 : Int32))] below meth c s₁ [] 0 0 := Stand.of_body Bd
  have e0 : s₁.heap = h0 := by rw [← hh, Bd.state]; rfl
  have N0 := Fr.nil n0
  obtain ⟨F0, hF0⟩ : ∃ F0, F0 = entryFrame m #[(.ref bv), (.int p2), (.int (0 : Int32)), (.int (4 : Int32))] 4 := ⟨_, rfl⟩
  have C0 : Go p e below s₁ (mkF m 0 #[.val (.ref bv), .val (.int p2), .val (.int (0 : Int32)), .val (.int (4 : Int32))] []) s₁ F0 := fun t k => by rw [hF0]; exact castTop (ef_7 m bv p2 (0 : Int32) (4 : Int32)) k
  have pre0 : ∀ t, Steps p.tables e below (s₁.setTop F0) t → Steps p.tables e below (s₁.setTop (entryFrame m #[(.ref bv), (.int p2), (.int (0 : Int32)), (.int (4 : Int32))] 4)) t := fun t k => by rw [← hF0]; exact k
  have C1 : Go p e below s₁ (mkF m 1 #[.val (.ref bv), .val (.int p2), .val (.int (0 : Int32)), .val (.int (4 : Int32))] [(.int p2)]) s₁ F0 := fun t k => C0 t (by
    refine XS.iloadN X0.here hx rfl (hb hby d7_0) rfl ?_
    exact k)
  obtain ⟨_, _, ⟨T2, L2, k2, n2⟩, -, X2, ⟨Lc2, hQ2, l2, y2, z2⟩, st2⟩ := Jvm.LawKit.callS X0 hx (y := (⟨"java/lang/StringLatin1", "canEncode", "(I)Z"⟩ : MethodName)) hown (mvT hZ (hw _ (List.mem_of_getElem? (i := 44) rfl))) (mvT hZ (hw _ (List.mem_of_getElem? (i := 45) rfl))) (mvT hZ (hw _ (List.mem_of_getElem? (i := 42) rfl))) (mvT hZ (hw _ (List.mem_of_getElem? (i := 46) rfl))) (by decide) (backOf (W := 0) (rm8 l Z a0 hw [] p2 h0 n0 Z0) hZ (hw _ (List.mem_of_getElem? (i := 46) rfl)) (hw _ (List.mem_of_getElem? (i := 42) rfl)) (by decide) (by decide)) (g := (mkF m 1 #[.val (.ref bv), .val (.int p2), .val (.int (0 : Int32)), .val (.int (4 : Int32))] [(.int p2)])) rfl (by rw [hml]; rfl) (argsL := [(.int p2)]) (rest := []) (lenOf pd_8 rfl) rfl (by show 2 * 0 + _ ≤ _; exact Nat.le_of_eq rfl) (hb hby d7_1) (fun _ _ => ⟨rfl, e0, (by decide : 0 + 0 ≤ _), (by decide : 0 + 0 ≤ _)⟩)
  dsimp only [Pt.U, Pt.locs, Pt.cells, Pt.slots] at X2 l2 y2 z2 st2 hQ2
  subst l2 y2 z2
  obtain ⟨rfl, N2q, eh2⟩ := hQ2
  have C2 : Go p e below T2 (mkF m 4 #[.val (.ref bv), .val (.int p2), .val (.int (0 : Int32)), .val (.int (4 : Int32))] [(.int (own_enc p2))]) s₁ F0 := fun t k => C1 t (st2 t k)
  have N2 := Fr.app N0 N2q
  by_cases hc : ¬ p2 < 0 ∧ ¬ 255 < p2
  · have q : own_enc p2 = 1 := if_pos hc
    have q2 : own_sl p2 = own_ix (p2.toInt8.toInt32) := if_pos hc
    have C3 : Go p e below T2 (mkF m 11 #[.val (.ref bv), .val (.int p2), .val (.int (0 : Int32)), .val (.int (4 : Int32))] [(.int (0 : Int32)), (.int (0 : Int32))]) s₁ F0 := fun t k => C2 t (by
      refine XS.ifYes X2.here hx rfl (pc0 := 4) (pc' := 9) rfl (hb hby d7_4) rfl ((if0 _ _).trans (feq (by rw [q]; decide)).2) (by decide) (by decide) ?_
      show Steps p.tables e below (T2.setTop (mkF m 9 #[.val (.ref bv), .val (.int p2), .val (.int (0 : Int32)), .val (.int (4 : Int32))] [])) _
      refine XS.iloadN X2.here hx rfl (hb hby d7_9) rfl ?_
      show Steps p.tables e below (T2.setTop (mkF m 10 #[.val (.ref bv), .val (.int p2), .val (.int (0 : Int32)), .val (.int (4 : Int32))] [(.int (0 : Int32))])) _
      refine XS.iconst X2.here hx rfl (hb hby d7_10) ?_
      exact k)
    obtain ⟨_, _, ⟨T4, L4, k4, n4⟩, -, X4, ⟨Lc4, hQ4, l4, y4, z4⟩, st4⟩ := Jvm.LawKit.callS X2 hx (y := (⟨"java/lang/Math", "max", "(II)I"⟩ : MethodName)) hown (mvT hZ (hw _ (List.mem_of_getElem? (i := 47) rfl))) (mvT hZ (hw _ (List.mem_of_getElem? (i := 48) rfl))) (mvT hZ (hw _ (List.mem_of_getElem? (i := 49) rfl))) (mvT hZ (hw _ (List.mem_of_getElem? (i := 50) rfl))) (by decide) (backOf (W := 0) (rm9 l Z a0 hw [] 0 0 h0 n0 Z0) hZ (hw _ (List.mem_of_getElem? (i := 50) rfl)) (hw _ (List.mem_of_getElem? (i := 49) rfl)) (by decide) (by decide)) (g := (mkF m 11 #[.val (.ref bv), .val (.int p2), .val (.int (0 : Int32)), .val (.int (4 : Int32))] [(.int (0 : Int32)), (.int (0 : Int32))])) rfl (by rw [hml]; rfl) (argsL := [(.int (0 : Int32)), (.int (0 : Int32))]) (rest := []) (lenOf pd_9 rfl) rfl (by show 2 * 0 + _ ≤ _; exact Nat.le_of_eq rfl) (hb hby d7_11) (fun _ _ => ⟨rfl, eh2, (by decide : 0 + 0 ≤ _), (by decide : 0 + 0 ≤ _)⟩)
    dsimp only [Pt.U, Pt.locs, Pt.cells, Pt.slots] at X4 l4 y4 z4 st4 hQ4
    subst l4 y4 z4
    obtain ⟨rfl, N4q, eh4⟩ := hQ4
    have C4 : Go p e below T4 (mkF m 14 #[.val (.ref bv), .val (.int p2), .val (.int (0 : Int32)), .val (.int (4 : Int32))] [(.int (0 : Int32))]) s₁ F0 := fun t k => C3 t (st4 t k)
    have N4 := Fr.app N2 N4q
    obtain ⟨cl0, Ar0, q0, S0, M0, H0, G0⟩ := id V0
    have C5 : Go p e below T4 (mkF m 18 #[.val (.ref bv), .val (.int p2), .val (.int (0 : Int32)), .val (.int (4 : Int32))] [(.int (4 : Int32)), (.int (4 : Int32))]) s₁ F0 := fun t k => C4 t (by
      refine XS.istoreN X4.here hx rfl (hb hby d7_14) rfl (l' := #[.val (.ref bv), .val (.int p2), .val (.int (0 : Int32)), .val (.int (4 : Int32))]) rfl ?_
      show Steps p.tables e below (T4.setTop (mkF m 15 #[.val (.ref bv), .val (.int p2), .val (.int (0 : Int32)), .val (.int (4 : Int32))] [])) _
      refine XS.iloadN X4.here hx rfl (hb hby d7_15) rfl ?_
      show Steps p.tables e below (T4.setTop (mkF m 16 #[.val (.ref bv), .val (.int p2), .val (.int (0 : Int32)), .val (.int (4 : Int32))] [(.int (4 : Int32))])) _
      refine XS.aloadN X4.here hx rfl (hb hby d7_16) rfl rfl ?_
      show Steps p.tables e below (T4.setTop (mkF m 17 #[.val (.ref bv), .val (.int p2), .val (.int (0 : Int32)), .val (.int (4 : Int32))] [(.ref bv), (.int (4 : Int32))])) _
      refine X4.arraylength hx (by rw [eh4]; exact Ar0.1) (State.isArrayOf_alike hZ.alike Ar0.2.1) (g := (mkF m 17 #[.val (.ref bv), .val (.int p2), .val (.int (0 : Int32)), .val (.int (4 : Int32))] [(.ref bv), (.int (4 : Int32))])) rfl rfl (hb hby d7_17) _ ?_
      rw [len_of S0 M0]
      exact k)
    obtain ⟨_, _, ⟨T6, L6, k6, n6⟩, -, X6, ⟨Lc6, hQ6, l6, y6, z6⟩, st6⟩ := Jvm.LawKit.callS X4 hx (y := (⟨"java/lang/Math", "min", "(II)I"⟩ : MethodName)) hown (mvT hZ (hw _ (List.mem_of_getElem? (i := 51) rfl))) (mvT hZ (hw _ (List.mem_of_getElem? (i := 52) rfl))) (mvT hZ (hw _ (List.mem_of_getElem? (i := 49) rfl))) (mvT hZ (hw _ (List.mem_of_getElem? (i := 53) rfl))) (by decide) (backOf (W := 0) (rm10 l Z a0 hw [] 4 4 h0 n0 Z0) hZ (hw _ (List.mem_of_getElem? (i := 53) rfl)) (hw _ (List.mem_of_getElem? (i := 49) rfl)) (by decide) (by decide)) (g := (mkF m 18 #[.val (.ref bv), .val (.int p2), .val (.int (0 : Int32)), .val (.int (4 : Int32))] [(.int (4 : Int32)), (.int (4 : Int32))])) rfl (by rw [hml]; rfl) (argsL := [(.int (4 : Int32)), (.int (4 : Int32))]) (rest := []) (lenOf pd_10 rfl) rfl (by show 2 * 0 + _ ≤ _; exact Nat.le_of_eq rfl) (hb hby d7_18) (fun _ _ => ⟨rfl, eh4, (by decide : 0 + 0 ≤ _), (by decide : 0 + 0 ≤ _)⟩)
    dsimp only [Pt.U, Pt.locs, Pt.cells, Pt.slots] at X6 l6 y6 z6 st6 hQ6
    subst l6 y6 z6
    obtain ⟨rfl, N6q, eh6⟩ := hQ6
    have C6 : Go p e below T6 (mkF m 21 #[.val (.ref bv), .val (.int p2), .val (.int (0 : Int32)), .val (.int (4 : Int32))] [(.int (4 : Int32))]) s₁ F0 := fun t k => C5 t (st6 t k)
    have N6 := Fr.app N4 N6q
    have C7 : Go p e below T6 (mkF m 33 #[.val (.ref bv), .val (.int p2), .val (.int (0 : Int32)), .val (.int (4 : Int32))] [(.int (4 : Int32)), (.int (0 : Int32)), (.int p2), (.ref bv)]) s₁ F0 := fun t k => C6 t (by
      refine XS.istoreN X6.here hx rfl (hb hby d7_21) rfl (l' := #[.val (.ref bv), .val (.int p2), .val (.int (0 : Int32)), .val (.int (4 : Int32))]) rfl ?_
      show Steps p.tables e below (T6.setTop (mkF m 22 #[.val (.ref bv), .val (.int p2), .val (.int (0 : Int32)), .val (.int (4 : Int32))] [])) _
      refine XS.iloadN X6.here hx rfl (hb hby d7_22) rfl ?_
      show Steps p.tables e below (T6.setTop (mkF m 23 #[.val (.ref bv), .val (.int p2), .val (.int (0 : Int32)), .val (.int (4 : Int32))] [(.int (0 : Int32))])) _
      refine XS.iloadN X6.here hx rfl (hb hby d7_23) rfl ?_
      show Steps p.tables e below (T6.setTop (mkF m 24 #[.val (.ref bv), .val (.int p2), .val (.int (0 : Int32)), .val (.int (4 : Int32))] [(.int (4 : Int32)), (.int (0 : Int32))])) _
      refine XS.icmpYes X6.here hx rfl (pc0 := 24) (pc' := 29) rfl (hb hby d7_24) rfl (tlt (by decide)).1 (by decide) (by decide) ?_
      show Steps p.tables e below (T6.setTop (mkF m 29 #[.val (.ref bv), .val (.int p2), .val (.int (0 : Int32)), .val (.int (4 : Int32))] [])) _
      refine XS.aloadN X6.here hx rfl (hb hby d7_29) rfl rfl ?_
      show Steps p.tables e below (T6.setTop (mkF m 30 #[.val (.ref bv), .val (.int p2), .val (.int (0 : Int32)), .val (.int (4 : Int32))] [(.ref bv)])) _
      refine XS.iloadN X6.here hx rfl (hb hby d7_30) rfl ?_
      show Steps p.tables e below (T6.setTop (mkF m 31 #[.val (.ref bv), .val (.int p2), .val (.int (0 : Int32)), .val (.int (4 : Int32))] [(.int p2), (.ref bv)])) _
      refine XS.iloadN X6.here hx rfl (hb hby d7_31) rfl ?_
      show Steps p.tables e below (T6.setTop (mkF m 32 #[.val (.ref bv), .val (.int p2), .val (.int (0 : Int32)), .val (.int (4 : Int32))] [(.int (0 : Int32)), (.int p2), (.ref bv)])) _
      refine XS.iloadN X6.here hx rfl (hb hby d7_32) rfl ?_
      exact k)
    obtain ⟨_, _, ⟨T8, L8, k8, n8⟩, -, X8, ⟨Lc8, hQ8, l8, y8, z8⟩, st8⟩ := Jvm.LawKit.callS X6 hx (y := (⟨"java/lang/StringLatin1", "indexOfChar", "([BIII)I"⟩ : MethodName)) hown (mvT hZ (hw _ (List.mem_of_getElem? (i := 54) rfl))) (mvT hZ (hw _ (List.mem_of_getElem? (i := 55) rfl))) (mvT hZ (hw _ (List.mem_of_getElem? (i := 42) rfl))) (mvT hZ (hw _ (List.mem_of_getElem? (i := 56) rfl))) (by decide) (backOf (W := 0) (rm11 l Z a0 hw [] bv k0 p2 h0 n0 Z0 V0) hZ (hw _ (List.mem_of_getElem? (i := 56) rfl)) (hw _ (List.mem_of_getElem? (i := 42) rfl)) (by decide) (by decide)) (g := (mkF m 33 #[.val (.ref bv), .val (.int p2), .val (.int (0 : Int32)), .val (.int (4 : Int32))] [(.int (4 : Int32)), (.int (0 : Int32)), (.int p2), (.ref bv)])) rfl (by rw [hml]; rfl) (argsL := [(.ref bv), (.int p2), (.int (0 : Int32)), (.int (4 : Int32))]) (rest := []) (lenOf pd_11 rfl) rfl (by show 2 * 0 + _ ≤ _; exact Nat.le_of_eq rfl) (hb hby d7_33) (fun _ _ => ⟨rfl, eh6, (by decide : 0 + 0 ≤ _), (by decide : 0 + 0 ≤ _)⟩)
    dsimp only [Pt.U, Pt.locs, Pt.cells, Pt.slots] at X8 l8 y8 z8 st8 hQ8
    subst l8 y8 z8
    obtain ⟨rfl, N8q, eh8⟩ := hQ8
    have C8 : Go p e below T8 (mkF m 36 #[.val (.ref bv), .val (.int p2), .val (.int (0 : Int32)), .val (.int (4 : Int32))] [(.int (own_ix (p2.toInt8.toInt32)))]) s₁ F0 := fun t k => C7 t (st8 t k)
    have N8 := Fr.app N6 N8q
    obtain ⟨fs, hr, hrun, hended, hW, hsame⟩ := X8.leave (v := (some (.int (own_ix (p2.toInt8.toInt32))))) (fun h => by rw [Bd.returns] at h; cases h)
    refine ⟨_, _, pre0 _ (C8 _ ?_), hrun, hended, _, _, rfl, ?_, ⟨_, rfl⟩, hW, hsame.mono (by decide) (by decide)⟩
    · exact retI X8 hx Bd.returns (hb hby d7_36) hr
    · show Q7 Z bv k0 p2 h0 n0 _ T8.heap _
      exact ⟨by rw [q2], N8, eh8⟩
  · have q : own_enc p2 = 0 := if_neg hc
    have q2 : own_sl p2 = -1 := if_neg hc
    have C9 : Go p e below T2 (mkF m 8 #[.val (.ref bv), .val (.int p2), .val (.int (0 : Int32)), .val (.int (4 : Int32))] [(.int (-1 : Int32))]) s₁ F0 := fun t k => C2 t (by
      refine XS.ifNo X2.here hx rfl (hb hby d7_4) rfl ((if0 _ _).trans (teq q).2) ?_
      show Steps p.tables e below (T2.setTop (mkF m 7 #[.val (.ref bv), .val (.int p2), .val (.int (0 : Int32)), .val (.int (4 : Int32))] [])) _
      refine XS.iconst X2.here hx rfl (hb hby d7_7) ?_
      exact k)
    obtain ⟨fs, hr, hrun, hended, hW, hsame⟩ := X2.leave (v := (some (.int (-1 : Int32)))) (fun h => by rw [Bd.returns] at h; cases h)
    refine ⟨_, _, pre0 _ (C9 _ ?_), hrun, hended, _, _, rfl, ?_, ⟨_, rfl⟩, hW, hsame.mono (by decide) (by decide)⟩
    · exact retI X2 hx Bd.returns (hb hby d7_8) hr
    · show Q7 Z bv k0 p2 h0 n0 _ T2.heap _
      exact ⟨by rw [q2], N2, eh2⟩
theorem d3_0 : decode jdk_42_method_80_code 0 = .ok (.aload_n 0, 1) := by decide +kernel
theorem d3_1 : decode jdk_42_method_80_code 1 = .ok (.invokevirtual 492, 3) := by decide +kernel
theorem d3_4 : decode jdk_42_method_80_code 4 = .ok (.ifCond .eq 19, 3) := by decide +kernel
theorem d3_7 : decode jdk_42_method_80_code 7 = .ok (.aload_n 0, 1) := by decide +kernel
theorem d3_8 : decode jdk_42_method_80_code 8 = .ok (.getfield 9, 3) := by decide +kernel
theorem d3_11 : decode jdk_42_method_80_code 11 = .ok (.iload_n 1, 1) := by decide +kernel
theorem d3_12 : decode jdk_42_method_80_code 12 = .ok (.iload_n 2, 1) := by decide +kernel
theorem d3_13 : decode jdk_42_method_80_code 13 = .ok (.aload_n 0, 1) := by decide +kernel
theorem d3_14 : decode jdk_42_method_80_code 14 = .ok (.invokevirtual 505, 3) := by decide +kernel
theorem d3_17 : decode jdk_42_method_80_code 17 = .ok (.invokestatic 637, 3) := by decide +kernel
theorem d3_20 : decode jdk_42_method_80_code 20 = .ok (.goto 16, 3) := by decide +kernel
theorem d3_23 : decode jdk_42_method_80_code 23 = .ok (.aload_n 0, 1) := by decide +kernel
theorem d3_24 : decode jdk_42_method_80_code 24 = .ok (.getfield 9, 3) := by decide +kernel
theorem d3_27 : decode jdk_42_method_80_code 27 = .ok (.iload_n 1, 1) := by decide +kernel
theorem d3_28 : decode jdk_42_method_80_code 28 = .ok (.iload_n 2, 1) := by decide +kernel
theorem d3_29 : decode jdk_42_method_80_code 29 = .ok (.aload_n 0, 1) := by decide +kernel
theorem d3_30 : decode jdk_42_method_80_code 30 = .ok (.invokevirtual 505, 3) := by decide +kernel
theorem d3_33 : decode jdk_42_method_80_code 33 = .ok (.invokestatic 640, 3) := by decide +kernel
theorem d3_36 : decode jdk_42_method_80_code 36 = .ok (.ireturn, 1) := by decide +kernel
theorem pn_3 : plainName "java/lang/String" = true := by first | (simp [plainName, overriddenIn]; done) | decide +kernel
theorem pd_3 : parseMethodDescriptor "(II)I" = some ⟨[.int, .int], some .int⟩ := by decide +kernel
theorem ef_3 (m : MethodId) (x0 : Addr) (x1 : Int32) (x2 : Int32) : entryFrame m #[(.ref x0), (.int x1), (.int x2)] 3 = mkF m 0 #[.val (.ref x0), .val (.int x1), .val (.int x2)] [] := by first | (simp [entryFrame, mkF, argsToLocals, Value.category]; done) | rfl
def Q3 (Z : State) (a1 bv : Addr) (k0 : ClassId) (cs p2 : Int32) (h0 : Heap) (n0 : Nat) (v : Option Value) (h : Heap) (L : List Loc) : Prop := v = some (.int (own_sl p2)) ∧ Fr n0 L ∧ h = h0
set_option maxRecDepth 65536 in
set_option maxHeartbeats 40000000 in
theorem rm3 (l : Launch) (Z : State) (a0 : Array Value) (hw : ∀ d ∈ tables_1, d.before a0 Z = true) (ws : List Jvm.Cond) (a1 bv : Addr) (k0 : ClassId) (cs p2 : Int32) (h0 : Heap) (n0 : Nat) (Z0 : n0 ≤ h0.size) (SC : Sta Z h0 "java/lang/String" "COMPACT_STRINGS" "Z" (.int cs)) (hcs : ¬ cs = 0) (Fc : Fld Z h0 a1 "java/lang/String" "coder" "B" (.int 0)) (Fv : Fld Z h0 a1 "java/lang/String" "value" "[B" (.ref bv)) (V0 : Arv Z h0 bv k0 .byte 4 [.int 45, .int 46, .int 95, .int 126] (.int 0)) (Es : Exa Z h0 a1 "java/lang/String") :
    MetFree l (⟨"java/lang/String", "indexOf", "(II)I"⟩ : MethodName) (head1 (Jvm.Cond.code (⟨"java/lang/String", "indexOf", "(II)I"⟩ : MethodName) jdk_42_method_80_code 3 (some .int) :: ws) ({ frames := 2, cells := 0, slots := 0, locals := 32 } : Room)) (fun a U => a = #[(.ref a1), (.int p2), (.int (0 : Int32))] ∧ Z.Warmed39 U.vm ∧ U.heap = h0) (fun _ _ _ _ _ => True) (fun _ U o U' => ∃ v L, o = .returned v ∧ Q3 Z a1 bv k0 cs p2 h0 n0 v U'.heap L ∧ FrameEnd U o U' L ({ frames := 2, cells := 0, slots := 0, locals := 32 } : Room).cells ({ frames := 2, cells := 0, slots := 0, locals := 32 } : Room).slots) := by
  refine MetFree.of_bodySF (plainFor_of_name pn_3) hisR ?_
  intro p e s m args below meth c s₁ Bd hml0 hP hK
  obtain ⟨rfl, hZ, hh⟩ := hP
  have hx := Bd.exec
  have hby := Bd.bytes
  have hml : c.maxLocals = 3 := hml0
  have hown : s.vm.findClass "java/lang/String" = some m.cls := findClass_of_methodNamed Bd.named
  have hnm := (name_of_methodNamed Bd.named Bd.method).1
  have X0 : Stand p l e ({ frames := 2, cells := 0, slots := 0, locals := 32 } : Room) s m #[(.ref a1), (.int p2), (.int (0 : Int32))] below meth c s₁ [] 0 0 := Stand.of_body Bd
  have e0 : s₁.heap = h0 := by rw [← hh, Bd.state]; rfl
  have N0 := Fr.nil n0
  obtain ⟨F0, hF0⟩ : ∃ F0, F0 = entryFrame m #[(.ref a1), (.int p2), (.int (0 : Int32))] 3 := ⟨_, rfl⟩
  have C0 : Go p e below s₁ (mkF m 0 #[.val (.ref a1), .val (.int p2), .val (.int (0 : Int32))] []) s₁ F0 := fun t k => by rw [hF0]; exact castTop (ef_3 m a1 p2 (0 : Int32)) k
  have pre0 : ∀ t, Steps p.tables e below (s₁.setTop F0) t → Steps p.tables e below (s₁.setTop (entryFrame m #[(.ref a1), (.int p2), (.int (0 : Int32))] 3)) t := fun t k => by rw [← hF0]; exact k
  have C1 : Go p e below s₁ (mkF m 1 #[.val (.ref a1), .val (.int p2), .val (.int (0 : Int32))] [(.ref a1)]) s₁ F0 := fun t k => C0 t (by
    refine XS.aloadN X0.here hx rfl (hb hby d3_0) rfl rfl ?_
    exact k)
  obtain ⟨cq2, kq2, q2a, q2b, q2c⟩ := isOf hZ e0 Es
  obtain ⟨_, _, ⟨T2, L2, k2, n2⟩, -, X2, ⟨Lc2, hQ2, l2, y2, z2⟩, st2⟩ := X0.virtualBack hx (y := (⟨"java/lang/String", "isLatin1", "()Z"⟩ : MethodName)) (z := (⟨"java/lang/String", "isLatin1", "()Z"⟩ : MethodName)) hown (mvT hZ (hw _ (List.mem_of_getElem? (i := 22) rfl))) (mvT hZ (hw _ (List.mem_of_getElem? (i := 23) rfl))) (notFace_of_selects (args := #[]) (mvT hZ (hw _ (List.mem_of_getElem? (i := 25) rfl)))) (mvT hZ (hw _ (List.mem_of_getElem? (i := 25) rfl))) (mvT hZ (hw _ (List.mem_of_getElem? (i := 24) rfl))) (by decide) (backOf (W := 0) (rm4 l Z a0 hw [] a1 cs h0 n0 Z0 SC hcs Fc) hZ (hw _ (List.mem_of_getElem? (i := 26) rfl)) (hw _ (List.mem_of_getElem? (i := 5) rfl)) (by decide) (by decide)) q2a q2c (g := (mkF m 1 #[.val (.ref a1), .val (.int p2), .val (.int (0 : Int32))] [(.ref a1)])) rfl (by rw [hml]; rfl) (Steps.refl _) (argsL := []) (rest := []) (lenOf pd_4 rfl) rfl (by show 2 * 0 + _ ≤ _; exact Nat.le_of_eq rfl) (hb hby d3_1) (fun _ _ => ⟨rfl, e0, (by decide : 0 + 0 ≤ _), (by decide : 0 + 0 ≤ _)⟩)
  dsimp only [Pt.U, Pt.locs, Pt.cells, Pt.slots] at X2 l2 y2 z2 st2 hQ2
  subst l2 y2 z2
  obtain ⟨rfl, N2q, eh2⟩ := hQ2
  have C2 : Go p e below T2 (mkF m 4 #[.val (.ref a1), .val (.int p2), .val (.int (0 : Int32))] [(.int (1 : Int32))]) s₁ F0 := fun t k => C1 t (st2.trans k)
  have N2 := Fr.app N0 N2q
  have C3 : Go p e below T2 (mkF m 8 #[.val (.ref a1), .val (.int p2), .val (.int (0 : Int32))] [(.ref a1)]) s₁ F0 := fun t k => C2 t (by
    refine XS.ifNo X2.here hx rfl (hb hby d3_4) rfl ((if0 _ _).trans (feq (by decide)).1) ?_
    show Steps p.tables e below (T2.setTop (mkF m 7 #[.val (.ref a1), .val (.int p2), .val (.int (0 : Int32))] [])) _
    refine XS.aloadN X2.here hx rfl (hb hby d3_7) rfl rfl ?_
    exact k)
  obtain ⟨T4, X4, e4, st4⟩ := getF X2 hx hZ hown (host := "") (Or.inl (hw _ (List.mem_of_getElem? (i := 29) rfl))) Via.refl eh2 Fv (g := (mkF m 8 #[.val (.ref a1), .val (.int p2), .val (.int (0 : Int32))] [(.ref a1)])) rfl rfl (hb hby d3_8)
  have C4 : Go p e below T4 (mkF m 11 #[.val (.ref a1), .val (.int p2), .val (.int (0 : Int32))] [(.ref bv)]) s₁ F0 := fun t k => C3 t (st4 t k)
  have C5 : Go p e below T4 (mkF m 14 #[.val (.ref a1), .val (.int p2), .val (.int (0 : Int32))] [(.ref a1), (.int (0 : Int32)), (.int p2), (.ref bv)]) s₁ F0 := fun t k => C4 t (by
    refine XS.iloadN X4.here hx rfl (hb hby d3_11) rfl ?_
    show Steps p.tables e below (T4.setTop (mkF m 12 #[.val (.ref a1), .val (.int p2), .val (.int (0 : Int32))] [(.int p2), (.ref bv)])) _
    refine XS.iloadN X4.here hx rfl (hb hby d3_12) rfl ?_
    show Steps p.tables e below (T4.setTop (mkF m 13 #[.val (.ref a1), .val (.int p2), .val (.int (0 : Int32))] [(.int (0 : Int32)), (.int p2), (.ref bv)])) _
    refine XS.aloadN X4.here hx rfl (hb hby d3_13) rfl rfl ?_
    exact k)
  obtain ⟨cq6, kq6, q6a, q6b, q6c⟩ := isOf hZ e4 Es
  obtain ⟨_, _, ⟨T6, L6, k6, n6⟩, -, X6, ⟨Lc6, hQ6, l6, y6, z6⟩, st6⟩ := X4.virtualBack hx (y := (⟨"java/lang/String", "length", "()I"⟩ : MethodName)) (z := (⟨"java/lang/String", "length", "()I"⟩ : MethodName)) hown (mvT hZ (hw _ (List.mem_of_getElem? (i := 30) rfl))) (mvT hZ (hw _ (List.mem_of_getElem? (i := 31) rfl))) (notFace_of_selects (args := #[]) (mvT hZ (hw _ (List.mem_of_getElem? (i := 33) rfl)))) (mvT hZ (hw _ (List.mem_of_getElem? (i := 33) rfl))) (mvT hZ (hw _ (List.mem_of_getElem? (i := 32) rfl))) (by decide) (backOf (W := 3) (rm5 l Z a0 hw [] a1 bv k0 cs h0 n0 Z0 SC hcs Fc Fv V0 Es) hZ (hw _ (List.mem_of_getElem? (i := 34) rfl)) (hw _ (List.mem_of_getElem? (i := 5) rfl)) (by decide) (by decide)) q6a q6c (g := (mkF m 14 #[.val (.ref a1), .val (.int p2), .val (.int (0 : Int32))] [(.ref a1), (.int (0 : Int32)), (.int p2), (.ref bv)])) rfl (by rw [hml]; rfl) (Steps.refl _) (argsL := []) (rest := [(.int (0 : Int32)), (.int p2), (.ref bv)]) (lenOf pd_5 rfl) rfl (by show 2 * 0 + _ ≤ _; exact Nat.le_of_eq rfl) (hb hby d3_14) (fun _ _ => ⟨rfl, e4, (by decide : 0 + 0 ≤ _), (by decide : 0 + 0 ≤ _)⟩)
  dsimp only [Pt.U, Pt.locs, Pt.cells, Pt.slots] at X6 l6 y6 z6 st6 hQ6
  subst l6 y6 z6
  obtain ⟨rfl, N6q, eh6⟩ := hQ6
  have C6 : Go p e below T6 (mkF m 17 #[.val (.ref a1), .val (.int p2), .val (.int (0 : Int32))] [(.int (4 : Int32)), (.int (0 : Int32)), (.int p2), (.ref bv)]) s₁ F0 := fun t k => C5 t (st6.trans k)
  have N6 := Fr.app N2 N6q
  obtain ⟨_, _, ⟨T7, L7, k7, n7⟩, -, X7, ⟨Lc7, hQ7, l7, y7, z7⟩, st7⟩ := Jvm.LawKit.callS X6 hx (y := (⟨"java/lang/StringLatin1", "indexOf", "([BIII)I"⟩ : MethodName)) hown (mvT hZ (hw _ (List.mem_of_getElem? (i := 40) rfl))) (mvT hZ (hw _ (List.mem_of_getElem? (i := 41) rfl))) (mvT hZ (hw _ (List.mem_of_getElem? (i := 42) rfl))) (mvT hZ (hw _ (List.mem_of_getElem? (i := 43) rfl))) (by decide) (backOf (W := 0) (rm7 l Z a0 hw [] bv k0 p2 h0 n0 Z0 V0) hZ (hw _ (List.mem_of_getElem? (i := 43) rfl)) (hw _ (List.mem_of_getElem? (i := 42) rfl)) (by decide) (by decide)) (g := (mkF m 17 #[.val (.ref a1), .val (.int p2), .val (.int (0 : Int32))] [(.int (4 : Int32)), (.int (0 : Int32)), (.int p2), (.ref bv)])) rfl (by rw [hml]; rfl) (argsL := [(.ref bv), (.int p2), (.int (0 : Int32)), (.int (4 : Int32))]) (rest := []) (lenOf pd_7 rfl) rfl (by show 2 * 0 + _ ≤ _; exact Nat.le_of_eq rfl) (hb hby d3_17) (fun _ _ => ⟨rfl, eh6, (by decide : 0 + 0 ≤ _), (by decide : 0 + 0 ≤ _)⟩)
  dsimp only [Pt.U, Pt.locs, Pt.cells, Pt.slots] at X7 l7 y7 z7 st7 hQ7
  subst l7 y7 z7
  obtain ⟨rfl, N7q, eh7⟩ := hQ7
  have C7 : Go p e below T7 (mkF m 20 #[.val (.ref a1), .val (.int p2), .val (.int (0 : Int32))] [(.int (own_sl p2))]) s₁ F0 := fun t k => C6 t (st7 t k)
  have N7 := Fr.app N6 N7q
  have C8 : Go p e below T7 (mkF m 36 #[.val (.ref a1), .val (.int p2), .val (.int (0 : Int32))] [(.int (own_sl p2))]) s₁ F0 := fun t k => C7 t (by
    refine XS.goto X7.here hx rfl (pc0 := 20) (pc' := 36) rfl (hb hby d3_20) (by decide) (by decide) ?_
    exact k)
  obtain ⟨fs, hr, hrun, hended, hW, hsame⟩ := X7.leave (v := (some (.int (own_sl p2)))) (fun h => by rw [Bd.returns] at h; cases h)
  refine ⟨_, _, pre0 _ (C8 _ ?_), hrun, hended, _, _, rfl, ?_, ⟨_, rfl⟩, hW, hsame.mono (by decide) (by decide)⟩
  · exact retI X7 hx Bd.returns (hb hby d3_36) hr
  · show Q3 Z a1 bv k0 cs p2 h0 n0 _ T7.heap _
    exact ⟨rfl, N7, eh7⟩
theorem d2_0 : decode jdk_42_method_79_code 0 = .ok (.aload_n 0, 1) := by decide +kernel
theorem d2_1 : decode jdk_42_method_79_code 1 = .ok (.iload_n 1, 1) := by decide +kernel
theorem d2_2 : decode jdk_42_method_79_code 2 = .ok (.iconst 0, 1) := by decide +kernel
theorem d2_3 : decode jdk_42_method_79_code 3 = .ok (.invokevirtual 633, 3) := by decide +kernel
theorem d2_6 : decode jdk_42_method_79_code 6 = .ok (.ireturn, 1) := by decide +kernel
theorem pn_2 : plainName "java/lang/String" = true := by first | (simp [plainName, overriddenIn]; done) | decide +kernel
theorem pd_2 : parseMethodDescriptor "(I)I" = some ⟨[.int], some .int⟩ := by decide +kernel
theorem ef_2 (m : MethodId) (x0 : Addr) (x1 : Int32) : entryFrame m #[(.ref x0), (.int x1)] 2 = mkF m 0 #[.val (.ref x0), .val (.int x1)] [] := by first | (simp [entryFrame, mkF, argsToLocals, Value.category]; done) | rfl
def Q2 (Z : State) (a1 bv : Addr) (k0 : ClassId) (cs p2 : Int32) (h0 : Heap) (n0 : Nat) (v : Option Value) (h : Heap) (L : List Loc) : Prop := v = some (.int (own_sl p2)) ∧ Fr n0 L ∧ h = h0
set_option maxRecDepth 65536 in
set_option maxHeartbeats 40000000 in
theorem rm2 (l : Launch) (Z : State) (a0 : Array Value) (hw : ∀ d ∈ tables_1, d.before a0 Z = true) (ws : List Jvm.Cond) (a1 bv : Addr) (k0 : ClassId) (cs p2 : Int32) (h0 : Heap) (n0 : Nat) (Z0 : n0 ≤ h0.size) (SC : Sta Z h0 "java/lang/String" "COMPACT_STRINGS" "Z" (.int cs)) (hcs : ¬ cs = 0) (Fc : Fld Z h0 a1 "java/lang/String" "coder" "B" (.int 0)) (Fv : Fld Z h0 a1 "java/lang/String" "value" "[B" (.ref bv)) (V0 : Arv Z h0 bv k0 .byte 4 [.int 45, .int 46, .int 95, .int 126] (.int 0)) (Es : Exa Z h0 a1 "java/lang/String") :
    MetFree l (⟨"java/lang/String", "indexOf", "(I)I"⟩ : MethodName) (head1 (Jvm.Cond.code (⟨"java/lang/String", "indexOf", "(I)I"⟩ : MethodName) jdk_42_method_79_code 2 (some .int) :: ws) ({ frames := 3, cells := 0, slots := 0, locals := 46 } : Room)) (fun a U => a = #[(.ref a1), (.int p2)] ∧ Z.Warmed39 U.vm ∧ U.heap = h0) (fun _ _ _ _ _ => True) (fun _ U o U' => ∃ v L, o = .returned v ∧ Q2 Z a1 bv k0 cs p2 h0 n0 v U'.heap L ∧ FrameEnd U o U' L ({ frames := 3, cells := 0, slots := 0, locals := 46 } : Room).cells ({ frames := 3, cells := 0, slots := 0, locals := 46 } : Room).slots) := by
  refine MetFree.of_bodySF (plainFor_of_name pn_2) hisR ?_
  intro p e s m args below meth c s₁ Bd hml0 hP hK
  obtain ⟨rfl, hZ, hh⟩ := hP
  have hx := Bd.exec
  have hby := Bd.bytes
  have hml : c.maxLocals = 2 := hml0
  have hown : s.vm.findClass "java/lang/String" = some m.cls := findClass_of_methodNamed Bd.named
  have hnm := (name_of_methodNamed Bd.named Bd.method).1
  have X0 : Stand p l e ({ frames := 3, cells := 0, slots := 0, locals := 46 } : Room) s m #[(.ref a1), (.int p2)] below meth c s₁ [] 0 0 := Stand.of_body Bd
  have e0 : s₁.heap = h0 := by rw [← hh, Bd.state]; rfl
  have N0 := Fr.nil n0
  obtain ⟨F0, hF0⟩ : ∃ F0, F0 = entryFrame m #[(.ref a1), (.int p2)] 2 := ⟨_, rfl⟩
  have C0 : Go p e below s₁ (mkF m 0 #[.val (.ref a1), .val (.int p2)] []) s₁ F0 := fun t k => by rw [hF0]; exact castTop (ef_2 m a1 p2) k
  have pre0 : ∀ t, Steps p.tables e below (s₁.setTop F0) t → Steps p.tables e below (s₁.setTop (entryFrame m #[(.ref a1), (.int p2)] 2)) t := fun t k => by rw [← hF0]; exact k
  have C1 : Go p e below s₁ (mkF m 3 #[.val (.ref a1), .val (.int p2)] [(.int (0 : Int32)), (.int p2), (.ref a1)]) s₁ F0 := fun t k => C0 t (by
    refine XS.aloadN X0.here hx rfl (hb hby d2_0) rfl rfl ?_
    show Steps p.tables e below (s₁.setTop (mkF m 1 #[.val (.ref a1), .val (.int p2)] [(.ref a1)])) _
    refine XS.iloadN X0.here hx rfl (hb hby d2_1) rfl ?_
    show Steps p.tables e below (s₁.setTop (mkF m 2 #[.val (.ref a1), .val (.int p2)] [(.int p2), (.ref a1)])) _
    refine XS.iconst X0.here hx rfl (hb hby d2_2) ?_
    exact k)
  obtain ⟨cq2, kq2, q2a, q2b, q2c⟩ := isOf hZ e0 Es
  obtain ⟨_, _, ⟨T2, L2, k2, n2⟩, -, X2, ⟨Lc2, hQ2, l2, y2, z2⟩, st2⟩ := X0.virtualBack hx (y := (⟨"java/lang/String", "indexOf", "(II)I"⟩ : MethodName)) (z := (⟨"java/lang/String", "indexOf", "(II)I"⟩ : MethodName)) hown (mvT hZ (hw _ (List.mem_of_getElem? (i := 17) rfl))) (mvT hZ (hw _ (List.mem_of_getElem? (i := 18) rfl))) (notFace_of_selects (args := #[]) (mvT hZ (hw _ (List.mem_of_getElem? (i := 20) rfl)))) (mvT hZ (hw _ (List.mem_of_getElem? (i := 20) rfl))) (mvT hZ (hw _ (List.mem_of_getElem? (i := 19) rfl))) (by decide) (backOf (W := 0) (rm3 l Z a0 hw [] a1 bv k0 cs p2 h0 n0 Z0 SC hcs Fc Fv V0 Es) hZ (hw _ (List.mem_of_getElem? (i := 21) rfl)) (hw _ (List.mem_of_getElem? (i := 5) rfl)) (by decide) (by decide)) q2a q2c (g := (mkF m 3 #[.val (.ref a1), .val (.int p2)] [(.int (0 : Int32)), (.int p2), (.ref a1)])) rfl (by rw [hml]; rfl) (Steps.refl _) (argsL := [(.int p2), (.int (0 : Int32))]) (rest := []) (lenOf pd_3 rfl) rfl (by show 2 * 0 + _ ≤ _; exact Nat.le_of_eq rfl) (hb hby d2_3) (fun _ _ => ⟨rfl, e0, (by decide : 0 + 0 ≤ _), (by decide : 0 + 0 ≤ _)⟩)
  dsimp only [Pt.U, Pt.locs, Pt.cells, Pt.slots] at X2 l2 y2 z2 st2 hQ2
  subst l2 y2 z2
  obtain ⟨rfl, N2q, eh2⟩ := hQ2
  have C2 : Go p e below T2 (mkF m 6 #[.val (.ref a1), .val (.int p2)] [(.int (own_sl p2))]) s₁ F0 := fun t k => C1 t (st2.trans k)
  have N2 := Fr.app N0 N2q
  obtain ⟨fs, hr, hrun, hended, hW, hsame⟩ := X2.leave (v := (some (.int (own_sl p2)))) (fun h => by rw [Bd.returns] at h; cases h)
  refine ⟨_, _, pre0 _ (C2 _ ?_), hrun, hended, _, _, rfl, ?_, ⟨_, rfl⟩, hW, hsame.mono (by decide) (by decide)⟩
  · exact retI X2 hx Bd.returns (hb hby d2_6) hr
  · show Q2 Z a1 bv k0 cs p2 h0 n0 _ T2.heap _
    exact ⟨rfl, N2, eh2⟩
theorem d12_0 : decode method_3_code 0 = .ok (.iload_n 0, 1) := by decide +kernel
theorem d12_1 : decode method_3_code 1 = .ok (.istore_n 1, 1) := by decide +kernel
theorem d12_2 : decode method_3_code 2 = .ok (.iload_n 1, 1) := by decide +kernel
theorem d12_3 : decode method_3_code 3 = .ok (.sipush 128, 3) := by decide +kernel
theorem d12_6 : decode method_3_code 6 = .ok (.if_icmp .lt 5, 3) := by decide +kernel
theorem d12_9 : decode method_3_code 9 = .ok (.iconst 0, 1) := by decide +kernel
theorem d12_10 : decode method_3_code 10 = .ok (.ireturn, 1) := by decide +kernel
theorem d12_11 : decode method_3_code 11 = .ok (.iload_n 1, 1) := by decide +kernel
theorem d12_12 : decode method_3_code 12 = .ok (.bipush 45, 2) := by decide +kernel
theorem d12_14 : decode method_3_code 14 = .ok (.if_icmp .eq 21, 3) := by decide +kernel
theorem d12_17 : decode method_3_code 17 = .ok (.iload_n 1, 1) := by decide +kernel
theorem d12_18 : decode method_3_code 18 = .ok (.bipush 46, 2) := by decide +kernel
theorem d12_20 : decode method_3_code 20 = .ok (.if_icmp .eq 15, 3) := by decide +kernel
theorem d12_23 : decode method_3_code 23 = .ok (.iload_n 1, 1) := by decide +kernel
theorem d12_24 : decode method_3_code 24 = .ok (.bipush 95, 2) := by decide +kernel
theorem d12_26 : decode method_3_code 26 = .ok (.if_icmp .eq 9, 3) := by decide +kernel
theorem d12_29 : decode method_3_code 29 = .ok (.iload_n 1, 1) := by decide +kernel
theorem d12_30 : decode method_3_code 30 = .ok (.bipush 126, 2) := by decide +kernel
theorem d12_32 : decode method_3_code 32 = .ok (.if_icmp .ne 5, 3) := by decide +kernel
theorem d12_35 : decode method_3_code 35 = .ok (.iconst 1, 1) := by decide +kernel
theorem d12_36 : decode method_3_code 36 = .ok (.ireturn, 1) := by decide +kernel
theorem d12_37 : decode method_3_code 37 = .ok (.iload_n 1, 1) := by decide +kernel
theorem d12_38 : decode method_3_code 38 = .ok (.bipush 48, 2) := by decide +kernel
theorem d12_40 : decode method_3_code 40 = .ok (.if_icmp .lt 11, 3) := by decide +kernel
theorem d12_43 : decode method_3_code 43 = .ok (.iload_n 1, 1) := by decide +kernel
theorem d12_44 : decode method_3_code 44 = .ok (.bipush 57, 2) := by decide +kernel
theorem d12_46 : decode method_3_code 46 = .ok (.if_icmp .gt 5, 3) := by decide +kernel
theorem d12_49 : decode method_3_code 49 = .ok (.iconst 1, 1) := by decide +kernel
theorem d12_50 : decode method_3_code 50 = .ok (.ireturn, 1) := by decide +kernel
theorem d12_51 : decode method_3_code 51 = .ok (.iload_n 1, 1) := by decide +kernel
theorem d12_52 : decode method_3_code 52 = .ok (.bipush 65, 2) := by decide +kernel
theorem d12_54 : decode method_3_code 54 = .ok (.if_icmp .lt 11, 3) := by decide +kernel
theorem d12_57 : decode method_3_code 57 = .ok (.iload_n 1, 1) := by decide +kernel
theorem d12_58 : decode method_3_code 58 = .ok (.bipush 90, 2) := by decide +kernel
theorem d12_60 : decode method_3_code 60 = .ok (.if_icmp .gt 5, 3) := by decide +kernel
theorem d12_63 : decode method_3_code 63 = .ok (.iconst 1, 1) := by decide +kernel
theorem d12_64 : decode method_3_code 64 = .ok (.ireturn, 1) := by decide +kernel
theorem d12_65 : decode method_3_code 65 = .ok (.iload_n 1, 1) := by decide +kernel
theorem d12_66 : decode method_3_code 66 = .ok (.bipush 97, 2) := by decide +kernel
theorem d12_68 : decode method_3_code 68 = .ok (.if_icmp .lt 13, 3) := by decide +kernel
theorem d12_71 : decode method_3_code 71 = .ok (.iload_n 1, 1) := by decide +kernel
theorem d12_72 : decode method_3_code 72 = .ok (.bipush 122, 2) := by decide +kernel
theorem d12_74 : decode method_3_code 74 = .ok (.if_icmp .gt 7, 3) := by decide +kernel
theorem d12_77 : decode method_3_code 77 = .ok (.iconst 1, 1) := by decide +kernel
theorem d12_78 : decode method_3_code 78 = .ok (.goto 4, 3) := by decide +kernel
theorem d12_81 : decode method_3_code 81 = .ok (.iconst 0, 1) := by decide +kernel
theorem d12_82 : decode method_3_code 82 = .ok (.ireturn, 1) := by decide +kernel
theorem pn_12 : plainName "com/example/archerfish/archerfish/model/UriReferenceIsUnreservedPinLaw" = true := by first | (simp [plainName, overriddenIn]; done) | decide +kernel
theorem pd_12 : parseMethodDescriptor "(C)Z" = some ⟨[.char], some .boolean⟩ := by decide +kernel
theorem ef_12 (m : MethodId) (x0 : Int32) : entryFrame m #[(.int x0)] 2 = mkF m 0 #[.val (.int x0), .unset] [] := by first | (simp [entryFrame, mkF, argsToLocals, Value.category]; done) | rfl
def Q12 (Z : State) (p1 : Int32) (h0 : Heap) (n0 : Nat) (v : Option Value) (h : Heap) (L : List Loc) : Prop := v = some (.int (own_ref p1)) ∧ Fr n0 L ∧ h = h0
set_option maxRecDepth 65536 in
set_option maxHeartbeats 40000000 in
theorem rm12 (l : Launch) (Z : State) (a0 : Array Value) (hw : ∀ d ∈ tables_1, d.before a0 Z = true) (ws : List Jvm.Cond) (p1 : Int32) (h0 : Heap) (n0 : Nat) (Z0 : n0 ≤ h0.size)  :
    MetFree l (⟨"com/example/archerfish/archerfish/model/UriReferenceIsUnreservedPinLaw", "reference", "(C)Z"⟩ : MethodName) (head1 (Jvm.Cond.code (⟨"com/example/archerfish/archerfish/model/UriReferenceIsUnreservedPinLaw", "reference", "(C)Z"⟩ : MethodName) method_3_code 2 (some .boolean) :: ws) ({ frames := 0, cells := 0, slots := 0, locals := 0 } : Room)) (fun a U => a = #[(.int p1)] ∧ Z.Warmed39 U.vm ∧ U.heap = h0) (fun _ _ _ _ _ => True) (fun _ U o U' => ∃ v L, o = .returned v ∧ Q12 Z p1 h0 n0 v U'.heap L ∧ FrameEnd U o U' L ({ frames := 0, cells := 0, slots := 0, locals := 0 } : Room).cells ({ frames := 0, cells := 0, slots := 0, locals := 0 } : Room).slots) := by
  refine MetFree.of_bodySF (plainFor_of_name pn_12) hisR ?_
  intro p e s m args below meth c s₁ Bd hml0 hP hK
  obtain ⟨rfl, hZ, hh⟩ := hP
  have hx := Bd.exec
  have hby := Bd.bytes
  have hml : c.maxLocals = 2 := hml0
  have hown : s.vm.findClass "com/example/archerfish/archerfish/model/UriReferenceIsUnreservedPinLaw" = some m.cls := findClass_of_methodNamed Bd.named
  have hnm := (name_of_methodNamed Bd.named Bd.method).1
  have X0 : Stand p l e ({ frames := 0, cells := 0, slots := 0, locals := 0 } : Room) s m #[(.int p1)] below meth c s₁ [] 0 0 := Stand.of_body Bd
  have e0 : s₁.heap = h0 := by rw [← hh, Bd.state]; rfl
  have N0 := Fr.nil n0
  obtain ⟨F0, hF0⟩ : ∃ F0, F0 = entryFrame m #[(.int p1)] 2 := ⟨_, rfl⟩
  have C0 : Go p e below s₁ (mkF m 0 #[.val (.int p1), .unset] []) s₁ F0 := fun t k => by rw [hF0]; exact castTop (ef_12 m p1) k
  have pre0 : ∀ t, Steps p.tables e below (s₁.setTop F0) t → Steps p.tables e below (s₁.setTop (entryFrame m #[(.int p1)] 2)) t := fun t k => by rw [← hF0]; exact k
  have C1 : Go p e below s₁ (mkF m 6 #[.val (.int p1), .val (.int p1)] [(.int (128 : Int32)), (.int p1)]) s₁ F0 := fun t k => C0 t (by
    refine XS.iloadN X0.here hx rfl (hb hby d12_0) rfl ?_
    show Steps p.tables e below (s₁.setTop (mkF m 1 #[.val (.int p1), .unset] [(.int p1)])) _
    refine XS.istoreN X0.here hx rfl (hb hby d12_1) rfl (l' := #[.val (.int p1), .val (.int p1)]) rfl ?_
    show Steps p.tables e below (s₁.setTop (mkF m 2 #[.val (.int p1), .val (.int p1)] [])) _
    refine XS.iloadN X0.here hx rfl (hb hby d12_2) rfl ?_
    show Steps p.tables e below (s₁.setTop (mkF m 3 #[.val (.int p1), .val (.int p1)] [(.int p1)])) _
    refine XS.sipush X0.here hx rfl (hb hby d12_3) ?_
    exact k)
  by_cases c1 : p1 < 128
  · by_cases c2 : p1 = 45 ∨ p1 = 46 ∨ p1 = 95 ∨ p1 = 126
    · skip
      have C35 : Go p e below s₁ (mkF m 35 #[.val (.int p1), .val (.int p1)] []) s₁ F0 := by
        by_cases d1 : p1 = 45
        · skip
          have C2 : Go p e below s₁ (mkF m 35 #[.val (.int p1), .val (.int p1)] []) s₁ F0 := fun t k => C1 t (by
            refine XS.icmpYes X0.here hx rfl (pc0 := 6) (pc' := 11) rfl (hb hby d12_6) rfl (tlt c1).1 (by decide) (by decide) ?_
            show Steps p.tables e below (s₁.setTop (mkF m 11 #[.val (.int p1), .val (.int p1)] [])) _
            refine XS.iloadN X0.here hx rfl (hb hby d12_11) rfl ?_
            show Steps p.tables e below (s₁.setTop (mkF m 12 #[.val (.int p1), .val (.int p1)] [(.int p1)])) _
            refine XS.bipush X0.here hx rfl (hb hby d12_12) ?_
            show Steps p.tables e below (s₁.setTop (mkF m 14 #[.val (.int p1), .val (.int p1)] [(.int (45 : Int32)), (.int p1)])) _
            refine XS.icmpYes X0.here hx rfl (pc0 := 14) (pc' := 35) rfl (hb hby d12_14) rfl (teq d1).1 (by decide) (by decide) ?_
            exact k)
          exact C2
        · by_cases d2 : p1 = 46
          · skip
            have C3 : Go p e below s₁ (mkF m 35 #[.val (.int p1), .val (.int p1)] []) s₁ F0 := fun t k => C1 t (by
              refine XS.icmpYes X0.here hx rfl (pc0 := 6) (pc' := 11) rfl (hb hby d12_6) rfl (tlt c1).1 (by decide) (by decide) ?_
              show Steps p.tables e below (s₁.setTop (mkF m 11 #[.val (.int p1), .val (.int p1)] [])) _
              refine XS.iloadN X0.here hx rfl (hb hby d12_11) rfl ?_
              show Steps p.tables e below (s₁.setTop (mkF m 12 #[.val (.int p1), .val (.int p1)] [(.int p1)])) _
              refine XS.bipush X0.here hx rfl (hb hby d12_12) ?_
              show Steps p.tables e below (s₁.setTop (mkF m 14 #[.val (.int p1), .val (.int p1)] [(.int (45 : Int32)), (.int p1)])) _
              refine XS.icmpNo X0.here hx rfl (hb hby d12_14) rfl (feq d1).1 ?_
              show Steps p.tables e below (s₁.setTop (mkF m 17 #[.val (.int p1), .val (.int p1)] [])) _
              refine XS.iloadN X0.here hx rfl (hb hby d12_17) rfl ?_
              show Steps p.tables e below (s₁.setTop (mkF m 18 #[.val (.int p1), .val (.int p1)] [(.int p1)])) _
              refine XS.bipush X0.here hx rfl (hb hby d12_18) ?_
              show Steps p.tables e below (s₁.setTop (mkF m 20 #[.val (.int p1), .val (.int p1)] [(.int (46 : Int32)), (.int p1)])) _
              refine XS.icmpYes X0.here hx rfl (pc0 := 20) (pc' := 35) rfl (hb hby d12_20) rfl (teq d2).1 (by decide) (by decide) ?_
              exact k)
            exact C3
          · by_cases d3 : p1 = 95
            · skip
              have C4 : Go p e below s₁ (mkF m 35 #[.val (.int p1), .val (.int p1)] []) s₁ F0 := fun t k => C1 t (by
                refine XS.icmpYes X0.here hx rfl (pc0 := 6) (pc' := 11) rfl (hb hby d12_6) rfl (tlt c1).1 (by decide) (by decide) ?_
                show Steps p.tables e below (s₁.setTop (mkF m 11 #[.val (.int p1), .val (.int p1)] [])) _
                refine XS.iloadN X0.here hx rfl (hb hby d12_11) rfl ?_
                show Steps p.tables e below (s₁.setTop (mkF m 12 #[.val (.int p1), .val (.int p1)] [(.int p1)])) _
                refine XS.bipush X0.here hx rfl (hb hby d12_12) ?_
                show Steps p.tables e below (s₁.setTop (mkF m 14 #[.val (.int p1), .val (.int p1)] [(.int (45 : Int32)), (.int p1)])) _
                refine XS.icmpNo X0.here hx rfl (hb hby d12_14) rfl (feq d1).1 ?_
                show Steps p.tables e below (s₁.setTop (mkF m 17 #[.val (.int p1), .val (.int p1)] [])) _
                refine XS.iloadN X0.here hx rfl (hb hby d12_17) rfl ?_
                show Steps p.tables e below (s₁.setTop (mkF m 18 #[.val (.int p1), .val (.int p1)] [(.int p1)])) _
                refine XS.bipush X0.here hx rfl (hb hby d12_18) ?_
                show Steps p.tables e below (s₁.setTop (mkF m 20 #[.val (.int p1), .val (.int p1)] [(.int (46 : Int32)), (.int p1)])) _
                refine XS.icmpNo X0.here hx rfl (hb hby d12_20) rfl (feq d2).1 ?_
                show Steps p.tables e below (s₁.setTop (mkF m 23 #[.val (.int p1), .val (.int p1)] [])) _
                refine XS.iloadN X0.here hx rfl (hb hby d12_23) rfl ?_
                show Steps p.tables e below (s₁.setTop (mkF m 24 #[.val (.int p1), .val (.int p1)] [(.int p1)])) _
                refine XS.bipush X0.here hx rfl (hb hby d12_24) ?_
                show Steps p.tables e below (s₁.setTop (mkF m 26 #[.val (.int p1), .val (.int p1)] [(.int (95 : Int32)), (.int p1)])) _
                refine XS.icmpYes X0.here hx rfl (pc0 := 26) (pc' := 35) rfl (hb hby d12_26) rfl (teq d3).1 (by decide) (by decide) ?_
                exact k)
              exact C4
            · have d4 : p1 = 126 := ((c2.resolve_left d1).resolve_left d2).resolve_left d3
              have C5 : Go p e below s₁ (mkF m 35 #[.val (.int p1), .val (.int p1)] []) s₁ F0 := fun t k => C1 t (by
                refine XS.icmpYes X0.here hx rfl (pc0 := 6) (pc' := 11) rfl (hb hby d12_6) rfl (tlt c1).1 (by decide) (by decide) ?_
                show Steps p.tables e below (s₁.setTop (mkF m 11 #[.val (.int p1), .val (.int p1)] [])) _
                refine XS.iloadN X0.here hx rfl (hb hby d12_11) rfl ?_
                show Steps p.tables e below (s₁.setTop (mkF m 12 #[.val (.int p1), .val (.int p1)] [(.int p1)])) _
                refine XS.bipush X0.here hx rfl (hb hby d12_12) ?_
                show Steps p.tables e below (s₁.setTop (mkF m 14 #[.val (.int p1), .val (.int p1)] [(.int (45 : Int32)), (.int p1)])) _
                refine XS.icmpNo X0.here hx rfl (hb hby d12_14) rfl (feq d1).1 ?_
                show Steps p.tables e below (s₁.setTop (mkF m 17 #[.val (.int p1), .val (.int p1)] [])) _
                refine XS.iloadN X0.here hx rfl (hb hby d12_17) rfl ?_
                show Steps p.tables e below (s₁.setTop (mkF m 18 #[.val (.int p1), .val (.int p1)] [(.int p1)])) _
                refine XS.bipush X0.here hx rfl (hb hby d12_18) ?_
                show Steps p.tables e below (s₁.setTop (mkF m 20 #[.val (.int p1), .val (.int p1)] [(.int (46 : Int32)), (.int p1)])) _
                refine XS.icmpNo X0.here hx rfl (hb hby d12_20) rfl (feq d2).1 ?_
                show Steps p.tables e below (s₁.setTop (mkF m 23 #[.val (.int p1), .val (.int p1)] [])) _
                refine XS.iloadN X0.here hx rfl (hb hby d12_23) rfl ?_
                show Steps p.tables e below (s₁.setTop (mkF m 24 #[.val (.int p1), .val (.int p1)] [(.int p1)])) _
                refine XS.bipush X0.here hx rfl (hb hby d12_24) ?_
                show Steps p.tables e below (s₁.setTop (mkF m 26 #[.val (.int p1), .val (.int p1)] [(.int (95 : Int32)), (.int p1)])) _
                refine XS.icmpNo X0.here hx rfl (hb hby d12_26) rfl (feq d3).1 ?_
                show Steps p.tables e below (s₁.setTop (mkF m 29 #[.val (.int p1), .val (.int p1)] [])) _
                refine XS.iloadN X0.here hx rfl (hb hby d12_29) rfl ?_
                show Steps p.tables e below (s₁.setTop (mkF m 30 #[.val (.int p1), .val (.int p1)] [(.int p1)])) _
                refine XS.bipush X0.here hx rfl (hb hby d12_30) ?_
                show Steps p.tables e below (s₁.setTop (mkF m 32 #[.val (.int p1), .val (.int p1)] [(.int (126 : Int32)), (.int p1)])) _
                refine XS.icmpNo X0.here hx rfl (hb hby d12_32) rfl (teq d4).2 ?_
                exact k)
              exact C5
      have C6 : Go p e below s₁ (mkF m 36 #[.val (.int p1), .val (.int p1)] [(.int (1 : Int32))]) s₁ F0 := fun t k => C35 t (by
        refine XS.iconst X0.here hx rfl (hb hby d12_35) ?_
        exact k)
      have q : own_ref p1 = (1 : Int32) := (if_neg (fun z => z c1)).trans (if_pos c2)
      obtain ⟨fs, hr, hrun, hended, hW, hsame⟩ := X0.leave (v := (some (.int (nar .boolean (1 : Int32))))) (fun h => by rw [Bd.returns] at h; cases h)
      refine ⟨_, _, pre0 _ (C6 _ ?_), hrun, hended, _, _, rfl, ?_, ⟨_, rfl⟩, hW, hsame.mono (by decide) (by decide)⟩
      · exact retN X0 hx (t := .boolean) Bd.returns (by simp) (hb hby d12_36) hr
      · show Q12 Z p1 h0 n0 _ s₁.heap _
        rw [e0]
        exact ⟨by rw [q]; rfl, N0, rfl⟩
    · skip
      have C7 : Go p e below s₁ (mkF m 37 #[.val (.int p1), .val (.int p1)] []) s₁ F0 := fun t k => C1 t (by
        refine XS.icmpYes X0.here hx rfl (pc0 := 6) (pc' := 11) rfl (hb hby d12_6) rfl (tlt c1).1 (by decide) (by decide) ?_
        show Steps p.tables e below (s₁.setTop (mkF m 11 #[.val (.int p1), .val (.int p1)] [])) _
        refine XS.iloadN X0.here hx rfl (hb hby d12_11) rfl ?_
        show Steps p.tables e below (s₁.setTop (mkF m 12 #[.val (.int p1), .val (.int p1)] [(.int p1)])) _
        refine XS.bipush X0.here hx rfl (hb hby d12_12) ?_
        show Steps p.tables e below (s₁.setTop (mkF m 14 #[.val (.int p1), .val (.int p1)] [(.int (45 : Int32)), (.int p1)])) _
        refine XS.icmpNo X0.here hx rfl (hb hby d12_14) rfl (feq (fun z => c2 (Or.inl z))).1 ?_
        show Steps p.tables e below (s₁.setTop (mkF m 17 #[.val (.int p1), .val (.int p1)] [])) _
        refine XS.iloadN X0.here hx rfl (hb hby d12_17) rfl ?_
        show Steps p.tables e below (s₁.setTop (mkF m 18 #[.val (.int p1), .val (.int p1)] [(.int p1)])) _
        refine XS.bipush X0.here hx rfl (hb hby d12_18) ?_
        show Steps p.tables e below (s₁.setTop (mkF m 20 #[.val (.int p1), .val (.int p1)] [(.int (46 : Int32)), (.int p1)])) _
        refine XS.icmpNo X0.here hx rfl (hb hby d12_20) rfl (feq (fun z => c2 (Or.inr (Or.inl z)))).1 ?_
        show Steps p.tables e below (s₁.setTop (mkF m 23 #[.val (.int p1), .val (.int p1)] [])) _
        refine XS.iloadN X0.here hx rfl (hb hby d12_23) rfl ?_
        show Steps p.tables e below (s₁.setTop (mkF m 24 #[.val (.int p1), .val (.int p1)] [(.int p1)])) _
        refine XS.bipush X0.here hx rfl (hb hby d12_24) ?_
        show Steps p.tables e below (s₁.setTop (mkF m 26 #[.val (.int p1), .val (.int p1)] [(.int (95 : Int32)), (.int p1)])) _
        refine XS.icmpNo X0.here hx rfl (hb hby d12_26) rfl (feq (fun z => c2 (Or.inr (Or.inr (Or.inl z))))).1 ?_
        show Steps p.tables e below (s₁.setTop (mkF m 29 #[.val (.int p1), .val (.int p1)] [])) _
        refine XS.iloadN X0.here hx rfl (hb hby d12_29) rfl ?_
        show Steps p.tables e below (s₁.setTop (mkF m 30 #[.val (.int p1), .val (.int p1)] [(.int p1)])) _
        refine XS.bipush X0.here hx rfl (hb hby d12_30) ?_
        show Steps p.tables e below (s₁.setTop (mkF m 32 #[.val (.int p1), .val (.int p1)] [(.int (126 : Int32)), (.int p1)])) _
        refine XS.icmpYes X0.here hx rfl (pc0 := 32) (pc' := 37) rfl (hb hby d12_32) rfl (feq (fun z => c2 (Or.inr (Or.inr (Or.inr z))))).2 (by decide) (by decide) ?_
        exact k)
      by_cases ee0 : ¬ p1 < 48 ∧ ¬ 57 < p1
      · skip
        have C8 : Go p e below s₁ (mkF m 50 #[.val (.int p1), .val (.int p1)] [(.int (1 : Int32))]) s₁ F0 := fun t k => C7 t (by
          refine XS.iloadN X0.here hx rfl (hb hby d12_37) rfl ?_
          show Steps p.tables e below (s₁.setTop (mkF m 38 #[.val (.int p1), .val (.int p1)] [(.int p1)])) _
          refine XS.bipush X0.here hx rfl (hb hby d12_38) ?_
          show Steps p.tables e below (s₁.setTop (mkF m 40 #[.val (.int p1), .val (.int p1)] [(.int (48 : Int32)), (.int p1)])) _
          refine XS.icmpNo X0.here hx rfl (hb hby d12_40) rfl (flt ee0.1).1 ?_
          show Steps p.tables e below (s₁.setTop (mkF m 43 #[.val (.int p1), .val (.int p1)] [])) _
          refine XS.iloadN X0.here hx rfl (hb hby d12_43) rfl ?_
          show Steps p.tables e below (s₁.setTop (mkF m 44 #[.val (.int p1), .val (.int p1)] [(.int p1)])) _
          refine XS.bipush X0.here hx rfl (hb hby d12_44) ?_
          show Steps p.tables e below (s₁.setTop (mkF m 46 #[.val (.int p1), .val (.int p1)] [(.int (57 : Int32)), (.int p1)])) _
          refine XS.icmpNo X0.here hx rfl (hb hby d12_46) rfl (flt ee0.2).2.2.1 ?_
          show Steps p.tables e below (s₁.setTop (mkF m 49 #[.val (.int p1), .val (.int p1)] [])) _
          refine XS.iconst X0.here hx rfl (hb hby d12_49) ?_
          exact k)
        have q : own_ref p1 = (1 : Int32) := (if_neg (fun z => z c1)).trans ((if_neg c2).trans (if_pos ee0))
        obtain ⟨fs, hr, hrun, hended, hW, hsame⟩ := X0.leave (v := (some (.int (nar .boolean (1 : Int32))))) (fun h => by rw [Bd.returns] at h; cases h)
        refine ⟨_, _, pre0 _ (C8 _ ?_), hrun, hended, _, _, rfl, ?_, ⟨_, rfl⟩, hW, hsame.mono (by decide) (by decide)⟩
        · exact retN X0 hx (t := .boolean) Bd.returns (by simp) (hb hby d12_50) hr
        · show Q12 Z p1 h0 n0 _ s₁.heap _
          rw [e0]
          exact ⟨by rw [q]; rfl, N0, rfl⟩
      · skip
        have C51_ : Go p e below s₁ (mkF m 51 #[.val (.int p1), .val (.int p1)] []) s₁ F0 := by
          by_cases g : p1 < 48
          · skip
            have C9 : Go p e below s₁ (mkF m 51 #[.val (.int p1), .val (.int p1)] []) s₁ F0 := fun t k => C7 t (by
              refine XS.iloadN X0.here hx rfl (hb hby d12_37) rfl ?_
              show Steps p.tables e below (s₁.setTop (mkF m 38 #[.val (.int p1), .val (.int p1)] [(.int p1)])) _
              refine XS.bipush X0.here hx rfl (hb hby d12_38) ?_
              show Steps p.tables e below (s₁.setTop (mkF m 40 #[.val (.int p1), .val (.int p1)] [(.int (48 : Int32)), (.int p1)])) _
              refine XS.icmpYes X0.here hx rfl (pc0 := 40) (pc' := 51) rfl (hb hby d12_40) rfl (tlt g).1 (by decide) (by decide) ?_
              exact k)
            exact C9
          · have g2 : 57 < p1 := Classical.byContradiction fun z => ee0 ⟨g, z⟩
            have C10 : Go p e below s₁ (mkF m 51 #[.val (.int p1), .val (.int p1)] []) s₁ F0 := fun t k => C7 t (by
              refine XS.iloadN X0.here hx rfl (hb hby d12_37) rfl ?_
              show Steps p.tables e below (s₁.setTop (mkF m 38 #[.val (.int p1), .val (.int p1)] [(.int p1)])) _
              refine XS.bipush X0.here hx rfl (hb hby d12_38) ?_
              show Steps p.tables e below (s₁.setTop (mkF m 40 #[.val (.int p1), .val (.int p1)] [(.int (48 : Int32)), (.int p1)])) _
              refine XS.icmpNo X0.here hx rfl (hb hby d12_40) rfl (flt g).1 ?_
              show Steps p.tables e below (s₁.setTop (mkF m 43 #[.val (.int p1), .val (.int p1)] [])) _
              refine XS.iloadN X0.here hx rfl (hb hby d12_43) rfl ?_
              show Steps p.tables e below (s₁.setTop (mkF m 44 #[.val (.int p1), .val (.int p1)] [(.int p1)])) _
              refine XS.bipush X0.here hx rfl (hb hby d12_44) ?_
              show Steps p.tables e below (s₁.setTop (mkF m 46 #[.val (.int p1), .val (.int p1)] [(.int (57 : Int32)), (.int p1)])) _
              refine XS.icmpYes X0.here hx rfl (pc0 := 46) (pc' := 51) rfl (hb hby d12_46) rfl (tlt g2).2.2.1 (by decide) (by decide) ?_
              exact k)
            exact C10
        by_cases ee1 : ¬ p1 < 65 ∧ ¬ 90 < p1
        · skip
          have C11 : Go p e below s₁ (mkF m 64 #[.val (.int p1), .val (.int p1)] [(.int (1 : Int32))]) s₁ F0 := fun t k => C51_ t (by
            refine XS.iloadN X0.here hx rfl (hb hby d12_51) rfl ?_
            show Steps p.tables e below (s₁.setTop (mkF m 52 #[.val (.int p1), .val (.int p1)] [(.int p1)])) _
            refine XS.bipush X0.here hx rfl (hb hby d12_52) ?_
            show Steps p.tables e below (s₁.setTop (mkF m 54 #[.val (.int p1), .val (.int p1)] [(.int (65 : Int32)), (.int p1)])) _
            refine XS.icmpNo X0.here hx rfl (hb hby d12_54) rfl (flt ee1.1).1 ?_
            show Steps p.tables e below (s₁.setTop (mkF m 57 #[.val (.int p1), .val (.int p1)] [])) _
            refine XS.iloadN X0.here hx rfl (hb hby d12_57) rfl ?_
            show Steps p.tables e below (s₁.setTop (mkF m 58 #[.val (.int p1), .val (.int p1)] [(.int p1)])) _
            refine XS.bipush X0.here hx rfl (hb hby d12_58) ?_
            show Steps p.tables e below (s₁.setTop (mkF m 60 #[.val (.int p1), .val (.int p1)] [(.int (90 : Int32)), (.int p1)])) _
            refine XS.icmpNo X0.here hx rfl (hb hby d12_60) rfl (flt ee1.2).2.2.1 ?_
            show Steps p.tables e below (s₁.setTop (mkF m 63 #[.val (.int p1), .val (.int p1)] [])) _
            refine XS.iconst X0.here hx rfl (hb hby d12_63) ?_
            exact k)
          have q : own_ref p1 = (1 : Int32) := (if_neg (fun z => z c1)).trans ((if_neg c2).trans ((if_neg ee0).trans (if_pos ee1)))
          obtain ⟨fs, hr, hrun, hended, hW, hsame⟩ := X0.leave (v := (some (.int (nar .boolean (1 : Int32))))) (fun h => by rw [Bd.returns] at h; cases h)
          refine ⟨_, _, pre0 _ (C11 _ ?_), hrun, hended, _, _, rfl, ?_, ⟨_, rfl⟩, hW, hsame.mono (by decide) (by decide)⟩
          · exact retN X0 hx (t := .boolean) Bd.returns (by simp) (hb hby d12_64) hr
          · show Q12 Z p1 h0 n0 _ s₁.heap _
            rw [e0]
            exact ⟨by rw [q]; rfl, N0, rfl⟩
        · skip
          have C65_ : Go p e below s₁ (mkF m 65 #[.val (.int p1), .val (.int p1)] []) s₁ F0 := by
            by_cases g : p1 < 65
            · skip
              have C12 : Go p e below s₁ (mkF m 65 #[.val (.int p1), .val (.int p1)] []) s₁ F0 := fun t k => C51_ t (by
                refine XS.iloadN X0.here hx rfl (hb hby d12_51) rfl ?_
                show Steps p.tables e below (s₁.setTop (mkF m 52 #[.val (.int p1), .val (.int p1)] [(.int p1)])) _
                refine XS.bipush X0.here hx rfl (hb hby d12_52) ?_
                show Steps p.tables e below (s₁.setTop (mkF m 54 #[.val (.int p1), .val (.int p1)] [(.int (65 : Int32)), (.int p1)])) _
                refine XS.icmpYes X0.here hx rfl (pc0 := 54) (pc' := 65) rfl (hb hby d12_54) rfl (tlt g).1 (by decide) (by decide) ?_
                exact k)
              exact C12
            · have g2 : 90 < p1 := Classical.byContradiction fun z => ee1 ⟨g, z⟩
              have C13 : Go p e below s₁ (mkF m 65 #[.val (.int p1), .val (.int p1)] []) s₁ F0 := fun t k => C51_ t (by
                refine XS.iloadN X0.here hx rfl (hb hby d12_51) rfl ?_
                show Steps p.tables e below (s₁.setTop (mkF m 52 #[.val (.int p1), .val (.int p1)] [(.int p1)])) _
                refine XS.bipush X0.here hx rfl (hb hby d12_52) ?_
                show Steps p.tables e below (s₁.setTop (mkF m 54 #[.val (.int p1), .val (.int p1)] [(.int (65 : Int32)), (.int p1)])) _
                refine XS.icmpNo X0.here hx rfl (hb hby d12_54) rfl (flt g).1 ?_
                show Steps p.tables e below (s₁.setTop (mkF m 57 #[.val (.int p1), .val (.int p1)] [])) _
                refine XS.iloadN X0.here hx rfl (hb hby d12_57) rfl ?_
                show Steps p.tables e below (s₁.setTop (mkF m 58 #[.val (.int p1), .val (.int p1)] [(.int p1)])) _
                refine XS.bipush X0.here hx rfl (hb hby d12_58) ?_
                show Steps p.tables e below (s₁.setTop (mkF m 60 #[.val (.int p1), .val (.int p1)] [(.int (90 : Int32)), (.int p1)])) _
                refine XS.icmpYes X0.here hx rfl (pc0 := 60) (pc' := 65) rfl (hb hby d12_60) rfl (tlt g2).2.2.1 (by decide) (by decide) ?_
                exact k)
              exact C13
          by_cases ee2 : ¬ p1 < 97 ∧ ¬ 122 < p1
          · skip
            have C14 : Go p e below s₁ (mkF m 82 #[.val (.int p1), .val (.int p1)] [(.int (1 : Int32))]) s₁ F0 := fun t k => C65_ t (by
              refine XS.iloadN X0.here hx rfl (hb hby d12_65) rfl ?_
              show Steps p.tables e below (s₁.setTop (mkF m 66 #[.val (.int p1), .val (.int p1)] [(.int p1)])) _
              refine XS.bipush X0.here hx rfl (hb hby d12_66) ?_
              show Steps p.tables e below (s₁.setTop (mkF m 68 #[.val (.int p1), .val (.int p1)] [(.int (97 : Int32)), (.int p1)])) _
              refine XS.icmpNo X0.here hx rfl (hb hby d12_68) rfl (flt ee2.1).1 ?_
              show Steps p.tables e below (s₁.setTop (mkF m 71 #[.val (.int p1), .val (.int p1)] [])) _
              refine XS.iloadN X0.here hx rfl (hb hby d12_71) rfl ?_
              show Steps p.tables e below (s₁.setTop (mkF m 72 #[.val (.int p1), .val (.int p1)] [(.int p1)])) _
              refine XS.bipush X0.here hx rfl (hb hby d12_72) ?_
              show Steps p.tables e below (s₁.setTop (mkF m 74 #[.val (.int p1), .val (.int p1)] [(.int (122 : Int32)), (.int p1)])) _
              refine XS.icmpNo X0.here hx rfl (hb hby d12_74) rfl (flt ee2.2).2.2.1 ?_
              show Steps p.tables e below (s₁.setTop (mkF m 77 #[.val (.int p1), .val (.int p1)] [])) _
              refine XS.iconst X0.here hx rfl (hb hby d12_77) ?_
              show Steps p.tables e below (s₁.setTop (mkF m 78 #[.val (.int p1), .val (.int p1)] [(.int (1 : Int32))])) _
              refine XS.goto X0.here hx rfl (pc0 := 78) (pc' := 82) rfl (hb hby d12_78) (by decide) (by decide) ?_
              exact k)
            have q : own_ref p1 = (1 : Int32) := (if_neg (fun z => z c1)).trans ((if_neg c2).trans ((if_neg ee0).trans ((if_neg ee1).trans (if_pos ee2))))
            obtain ⟨fs, hr, hrun, hended, hW, hsame⟩ := X0.leave (v := (some (.int (nar .boolean (1 : Int32))))) (fun h => by rw [Bd.returns] at h; cases h)
            refine ⟨_, _, pre0 _ (C14 _ ?_), hrun, hended, _, _, rfl, ?_, ⟨_, rfl⟩, hW, hsame.mono (by decide) (by decide)⟩
            · exact retN X0 hx (t := .boolean) Bd.returns (by simp) (hb hby d12_82) hr
            · show Q12 Z p1 h0 n0 _ s₁.heap _
              rw [e0]
              exact ⟨by rw [q]; rfl, N0, rfl⟩
          · skip
            have C81_ : Go p e below s₁ (mkF m 81 #[.val (.int p1), .val (.int p1)] []) s₁ F0 := by
              by_cases g : p1 < 97
              · skip
                have C15 : Go p e below s₁ (mkF m 81 #[.val (.int p1), .val (.int p1)] []) s₁ F0 := fun t k => C65_ t (by
                  refine XS.iloadN X0.here hx rfl (hb hby d12_65) rfl ?_
                  show Steps p.tables e below (s₁.setTop (mkF m 66 #[.val (.int p1), .val (.int p1)] [(.int p1)])) _
                  refine XS.bipush X0.here hx rfl (hb hby d12_66) ?_
                  show Steps p.tables e below (s₁.setTop (mkF m 68 #[.val (.int p1), .val (.int p1)] [(.int (97 : Int32)), (.int p1)])) _
                  refine XS.icmpYes X0.here hx rfl (pc0 := 68) (pc' := 81) rfl (hb hby d12_68) rfl (tlt g).1 (by decide) (by decide) ?_
                  exact k)
                exact C15
              · have g2 : 122 < p1 := Classical.byContradiction fun z => ee2 ⟨g, z⟩
                have C16 : Go p e below s₁ (mkF m 81 #[.val (.int p1), .val (.int p1)] []) s₁ F0 := fun t k => C65_ t (by
                  refine XS.iloadN X0.here hx rfl (hb hby d12_65) rfl ?_
                  show Steps p.tables e below (s₁.setTop (mkF m 66 #[.val (.int p1), .val (.int p1)] [(.int p1)])) _
                  refine XS.bipush X0.here hx rfl (hb hby d12_66) ?_
                  show Steps p.tables e below (s₁.setTop (mkF m 68 #[.val (.int p1), .val (.int p1)] [(.int (97 : Int32)), (.int p1)])) _
                  refine XS.icmpNo X0.here hx rfl (hb hby d12_68) rfl (flt g).1 ?_
                  show Steps p.tables e below (s₁.setTop (mkF m 71 #[.val (.int p1), .val (.int p1)] [])) _
                  refine XS.iloadN X0.here hx rfl (hb hby d12_71) rfl ?_
                  show Steps p.tables e below (s₁.setTop (mkF m 72 #[.val (.int p1), .val (.int p1)] [(.int p1)])) _
                  refine XS.bipush X0.here hx rfl (hb hby d12_72) ?_
                  show Steps p.tables e below (s₁.setTop (mkF m 74 #[.val (.int p1), .val (.int p1)] [(.int (122 : Int32)), (.int p1)])) _
                  refine XS.icmpYes X0.here hx rfl (pc0 := 74) (pc' := 81) rfl (hb hby d12_74) rfl (tlt g2).2.2.1 (by decide) (by decide) ?_
                  exact k)
                exact C16
            have C17 : Go p e below s₁ (mkF m 82 #[.val (.int p1), .val (.int p1)] [(.int (0 : Int32))]) s₁ F0 := fun t k => C81_ t (by
              refine XS.iconst X0.here hx rfl (hb hby d12_81) ?_
              exact k)
            have q : own_ref p1 = (0 : Int32) := (if_neg (fun z => z c1)).trans ((if_neg c2).trans ((if_neg ee0).trans ((if_neg ee1).trans (if_neg ee2))))
            obtain ⟨fs, hr, hrun, hended, hW, hsame⟩ := X0.leave (v := (some (.int (nar .boolean (0 : Int32))))) (fun h => by rw [Bd.returns] at h; cases h)
            refine ⟨_, _, pre0 _ (C17 _ ?_), hrun, hended, _, _, rfl, ?_, ⟨_, rfl⟩, hW, hsame.mono (by decide) (by decide)⟩
            · exact retN X0 hx (t := .boolean) Bd.returns (by simp) (hb hby d12_82) hr
            · show Q12 Z p1 h0 n0 _ s₁.heap _
              rw [e0]
              exact ⟨by rw [q]; rfl, N0, rfl⟩
  · skip
    have C18 : Go p e below s₁ (mkF m 10 #[.val (.int p1), .val (.int p1)] [(.int (0 : Int32))]) s₁ F0 := fun t k => C1 t (by
      refine XS.icmpNo X0.here hx rfl (hb hby d12_6) rfl (flt c1).1 ?_
      show Steps p.tables e below (s₁.setTop (mkF m 9 #[.val (.int p1), .val (.int p1)] [])) _
      refine XS.iconst X0.here hx rfl (hb hby d12_9) ?_
      exact k)
    have q : own_ref p1 = (0 : Int32) := if_pos c1
    obtain ⟨fs, hr, hrun, hended, hW, hsame⟩ := X0.leave (v := (some (.int (nar .boolean (0 : Int32))))) (fun h => by rw [Bd.returns] at h; cases h)
    refine ⟨_, _, pre0 _ (C18 _ ?_), hrun, hended, _, _, rfl, ?_, ⟨_, rfl⟩, hW, hsame.mono (by decide) (by decide)⟩
    · exact retN X0 hx (t := .boolean) Bd.returns (by simp) (hb hby d12_10) hr
    · show Q12 Z p1 h0 n0 _ s₁.heap _
      rw [e0]
      exact ⟨by rw [q]; rfl, N0, rfl⟩
theorem d1_0 : decode prog_46_method_4_code 0 = .ok (.iload_n 0, 1) := by decide +kernel
theorem d1_1 : decode prog_46_method_4_code 1 = .ok (.bipush 65, 2) := by decide +kernel
theorem d1_3 : decode prog_46_method_4_code 3 = .ok (.if_icmp .lt 9, 3) := by decide +kernel
theorem d1_6 : decode prog_46_method_4_code 6 = .ok (.iload_n 0, 1) := by decide +kernel
theorem d1_7 : decode prog_46_method_4_code 7 = .ok (.bipush 90, 2) := by decide +kernel
theorem d1_9 : decode prog_46_method_4_code 9 = .ok (.if_icmp .le 36, 3) := by decide +kernel
theorem d1_12 : decode prog_46_method_4_code 12 = .ok (.iload_n 0, 1) := by decide +kernel
theorem d1_13 : decode prog_46_method_4_code 13 = .ok (.bipush 97, 2) := by decide +kernel
theorem d1_15 : decode prog_46_method_4_code 15 = .ok (.if_icmp .lt 9, 3) := by decide +kernel
theorem d1_18 : decode prog_46_method_4_code 18 = .ok (.iload_n 0, 1) := by decide +kernel
theorem d1_19 : decode prog_46_method_4_code 19 = .ok (.bipush 122, 2) := by decide +kernel
theorem d1_21 : decode prog_46_method_4_code 21 = .ok (.if_icmp .le 24, 3) := by decide +kernel
theorem d1_24 : decode prog_46_method_4_code 24 = .ok (.iload_n 0, 1) := by decide +kernel
theorem d1_25 : decode prog_46_method_4_code 25 = .ok (.bipush 48, 2) := by decide +kernel
theorem d1_27 : decode prog_46_method_4_code 27 = .ok (.if_icmp .lt 9, 3) := by decide +kernel
theorem d1_30 : decode prog_46_method_4_code 30 = .ok (.iload_n 0, 1) := by decide +kernel
theorem d1_31 : decode prog_46_method_4_code 31 = .ok (.bipush 57, 2) := by decide +kernel
theorem d1_33 : decode prog_46_method_4_code 33 = .ok (.if_icmp .le 12, 3) := by decide +kernel
theorem d1_36 : decode prog_46_method_4_code 36 = .ok (.ldc 87, 2) := by decide +kernel
theorem d1_38 : decode prog_46_method_4_code 38 = .ok (.iload_n 0, 1) := by decide +kernel
theorem d1_39 : decode prog_46_method_4_code 39 = .ok (.invokevirtual 89, 3) := by decide +kernel
theorem d1_42 : decode prog_46_method_4_code 42 = .ok (.ifCond .lt 7, 3) := by decide +kernel
theorem d1_45 : decode prog_46_method_4_code 45 = .ok (.iconst 1, 1) := by decide +kernel
theorem d1_46 : decode prog_46_method_4_code 46 = .ok (.goto 4, 3) := by decide +kernel
theorem d1_49 : decode prog_46_method_4_code 49 = .ok (.iconst 0, 1) := by decide +kernel
theorem d1_50 : decode prog_46_method_4_code 50 = .ok (.ireturn, 1) := by decide +kernel
theorem pn_1 : plainName "com/example/archerfish/archerfish/model/UriReference" = true := by first | (simp [plainName, overriddenIn]; done) | decide +kernel
theorem pd_1 : parseMethodDescriptor "(C)Z" = some ⟨[.char], some .boolean⟩ := by decide +kernel
theorem ef_1 (m : MethodId) (x0 : Int32) : entryFrame m #[(.int x0)] 1 = mkF m 0 #[.val (.int x0)] [] := by first | (simp [entryFrame, mkF, argsToLocals, Value.category]; done) | rfl
def Q1 (Z : State) (p1 cs : Int32) (h0 : Heap) (n0 : Nat) (v : Option Value) (h : Heap) (L : List Loc) : Prop := v = some (.int (own_un p1)) ∧ Fr n0 L ∧ Ext h0 h
set_option maxRecDepth 65536 in
set_option maxHeartbeats 40000000 in
theorem rm1 (l : Launch) (Z : State) (a0 : Array Value) (hw : ∀ d ∈ tables_1, d.before a0 Z = true) (ws : List Jvm.Cond) (p1 cs : Int32) (h0 : Heap) (n0 : Nat) (Z0 : n0 ≤ h0.size) (SC : Sta Z h0 "java/lang/String" "COMPACT_STRINGS" "Z" (.int cs)) (hcs : ¬ cs = 0) (hEL : EW Z a0 [("com/example/archerfish/archerfish/model/UriReference", 87)]) :
    MetFree l (⟨"com/example/archerfish/archerfish/model/UriReference", "isUnreserved", "(C)Z"⟩ : MethodName) (head1 (Jvm.Cond.code (⟨"com/example/archerfish/archerfish/model/UriReference", "isUnreserved", "(C)Z"⟩ : MethodName) prog_46_method_4_code 1 (some .boolean) :: ws) ({ frames := 4, cells := 2, slots := 20, locals := 59 } : Room)) (fun a U => a = #[(.int p1)] ∧ Z.Warmed39 U.vm ∧ U.heap = h0 ∧ CHv Z [("com/example/archerfish/archerfish/model/UriReference", 87)] U.vm h0) (fun _ _ _ _ _ => True) (fun _ U o U' => ∃ v L, o = .returned v ∧ Q1 Z p1 cs h0 n0 v U'.heap L ∧ CHr Z [("com/example/archerfish/archerfish/model/UriReference", 87)] U.vm U.heap U'.vm U'.heap ∧ ReturnedEndW U o U' L ({ frames := 4, cells := 2, slots := 20, locals := 59 } : Room).cells ({ frames := 4, cells := 2, slots := 20, locals := 59 } : Room).slots) := by
  refine MetFree.of_bodySF (plainFor_of_name pn_1) hisR ?_
  intro p e s m args below meth c s₁ Bd hml0 hP hK
  obtain ⟨rfl, hZ, hh, hCH⟩ := hP
  have hx := Bd.exec
  have hby := Bd.bytes
  have hml : c.maxLocals = 1 := hml0
  have hown : s.vm.findClass "com/example/archerfish/archerfish/model/UriReference" = some m.cls := findClass_of_methodNamed Bd.named
  have hnm := (name_of_methodNamed Bd.named Bd.method).1
  have X0 : Stand p l e ({ frames := 4, cells := 2, slots := 20, locals := 59 } : Room) s m #[(.int p1)] below meth c s₁ [] 0 0 := Stand.of_body Bd
  have e0 : s₁.heap = h0 := by rw [← hh, Bd.state]; rfl
  have N0 := Fr.nil n0
  obtain ⟨F0, hF0⟩ : ∃ F0, F0 = entryFrame m #[(.int p1)] 1 := ⟨_, rfl⟩
  have C0 : Go p e below s₁ (mkF m 0 #[.val (.int p1)] []) s₁ F0 := fun t k => by rw [hF0]; exact castTop (ef_1 m p1) k
  have pre0 : ∀ t, Steps p.tables e below (s₁.setTop F0) t → Steps p.tables e below (s₁.setTop (entryFrame m #[(.int p1)] 1)) t := fun t k => by rw [← hF0]; exact k
  have X0v : Stand p l e ({ frames := 4, cells := 2, slots := 20, locals := 59 } : Room) (s.setVm s.vm) m #[(.int p1)] below meth c s₁ [] 0 0 := X0
  have hS0 : s.Since s.vm h0.size := (State.WarmedH.refl s).since _
  have hchr := CHv.at X0v hZ hEL hCH
  by_cases c0 : (¬ p1 < 65 ∧ ¬ 90 < p1) ∨ (¬ p1 < 97 ∧ ¬ 122 < p1) ∨ (¬ p1 < 48 ∧ ¬ 57 < p1)
  · have q : own_un p1 = 1 := by unfold own_un; (repeat' split) <;> first | rfl | (exfalso; rcases c0 with z | z | z <;> contradiction)
    have C45 : Go p e below s₁ (mkF m 45 #[.val (.int p1)] []) s₁ F0 := by
      by_cases d1 : ¬ p1 < 65 ∧ ¬ 90 < p1
      · skip
        have C1 : Go p e below s₁ (mkF m 45 #[.val (.int p1)] []) s₁ F0 := fun t k => C0 t (by
          refine XS.iloadN X0.here hx rfl (hb hby d1_0) rfl ?_
          show Steps p.tables e below (s₁.setTop (mkF m 1 #[.val (.int p1)] [(.int p1)])) _
          refine XS.bipush X0.here hx rfl (hb hby d1_1) ?_
          show Steps p.tables e below (s₁.setTop (mkF m 3 #[.val (.int p1)] [(.int (65 : Int32)), (.int p1)])) _
          refine XS.icmpNo X0.here hx rfl (hb hby d1_3) rfl (flt d1.1).1 ?_
          show Steps p.tables e below (s₁.setTop (mkF m 6 #[.val (.int p1)] [])) _
          refine XS.iloadN X0.here hx rfl (hb hby d1_6) rfl ?_
          show Steps p.tables e below (s₁.setTop (mkF m 7 #[.val (.int p1)] [(.int p1)])) _
          refine XS.bipush X0.here hx rfl (hb hby d1_7) ?_
          show Steps p.tables e below (s₁.setTop (mkF m 9 #[.val (.int p1)] [(.int (90 : Int32)), (.int p1)])) _
          refine XS.icmpYes X0.here hx rfl (pc0 := 9) (pc' := 45) rfl (hb hby d1_9) rfl (flt d1.2).2.2.2 (by decide) (by decide) ?_
          exact k)
        exact C1
      · skip
        have C12 : Go p e below s₁ (mkF m 12 #[.val (.int p1)] []) s₁ F0 := by
          by_cases g : p1 < 65
          · skip
            have C2 : Go p e below s₁ (mkF m 12 #[.val (.int p1)] []) s₁ F0 := fun t k => C0 t (by
              refine XS.iloadN X0.here hx rfl (hb hby d1_0) rfl ?_
              show Steps p.tables e below (s₁.setTop (mkF m 1 #[.val (.int p1)] [(.int p1)])) _
              refine XS.bipush X0.here hx rfl (hb hby d1_1) ?_
              show Steps p.tables e below (s₁.setTop (mkF m 3 #[.val (.int p1)] [(.int (65 : Int32)), (.int p1)])) _
              refine XS.icmpYes X0.here hx rfl (pc0 := 3) (pc' := 12) rfl (hb hby d1_3) rfl (tlt g).1 (by decide) (by decide) ?_
              exact k)
            exact C2
          · have g2 : 90 < p1 := Classical.byContradiction fun z => d1 ⟨g, z⟩
            have C3 : Go p e below s₁ (mkF m 12 #[.val (.int p1)] []) s₁ F0 := fun t k => C0 t (by
              refine XS.iloadN X0.here hx rfl (hb hby d1_0) rfl ?_
              show Steps p.tables e below (s₁.setTop (mkF m 1 #[.val (.int p1)] [(.int p1)])) _
              refine XS.bipush X0.here hx rfl (hb hby d1_1) ?_
              show Steps p.tables e below (s₁.setTop (mkF m 3 #[.val (.int p1)] [(.int (65 : Int32)), (.int p1)])) _
              refine XS.icmpNo X0.here hx rfl (hb hby d1_3) rfl (flt g).1 ?_
              show Steps p.tables e below (s₁.setTop (mkF m 6 #[.val (.int p1)] [])) _
              refine XS.iloadN X0.here hx rfl (hb hby d1_6) rfl ?_
              show Steps p.tables e below (s₁.setTop (mkF m 7 #[.val (.int p1)] [(.int p1)])) _
              refine XS.bipush X0.here hx rfl (hb hby d1_7) ?_
              show Steps p.tables e below (s₁.setTop (mkF m 9 #[.val (.int p1)] [(.int (90 : Int32)), (.int p1)])) _
              refine XS.icmpNo X0.here hx rfl (hb hby d1_9) rfl (tlt g2).2.2.2 ?_
              exact k)
            exact C3
        by_cases d2 : ¬ p1 < 97 ∧ ¬ 122 < p1
        · skip
          have C4 : Go p e below s₁ (mkF m 45 #[.val (.int p1)] []) s₁ F0 := fun t k => C12 t (by
            refine XS.iloadN X0.here hx rfl (hb hby d1_12) rfl ?_
            show Steps p.tables e below (s₁.setTop (mkF m 13 #[.val (.int p1)] [(.int p1)])) _
            refine XS.bipush X0.here hx rfl (hb hby d1_13) ?_
            show Steps p.tables e below (s₁.setTop (mkF m 15 #[.val (.int p1)] [(.int (97 : Int32)), (.int p1)])) _
            refine XS.icmpNo X0.here hx rfl (hb hby d1_15) rfl (flt d2.1).1 ?_
            show Steps p.tables e below (s₁.setTop (mkF m 18 #[.val (.int p1)] [])) _
            refine XS.iloadN X0.here hx rfl (hb hby d1_18) rfl ?_
            show Steps p.tables e below (s₁.setTop (mkF m 19 #[.val (.int p1)] [(.int p1)])) _
            refine XS.bipush X0.here hx rfl (hb hby d1_19) ?_
            show Steps p.tables e below (s₁.setTop (mkF m 21 #[.val (.int p1)] [(.int (122 : Int32)), (.int p1)])) _
            refine XS.icmpYes X0.here hx rfl (pc0 := 21) (pc' := 45) rfl (hb hby d1_21) rfl (flt d2.2).2.2.2 (by decide) (by decide) ?_
            exact k)
          exact C4
        · skip
          have C24 : Go p e below s₁ (mkF m 24 #[.val (.int p1)] []) s₁ F0 := by
            by_cases g : p1 < 97
            · skip
              have C5 : Go p e below s₁ (mkF m 24 #[.val (.int p1)] []) s₁ F0 := fun t k => C12 t (by
                refine XS.iloadN X0.here hx rfl (hb hby d1_12) rfl ?_
                show Steps p.tables e below (s₁.setTop (mkF m 13 #[.val (.int p1)] [(.int p1)])) _
                refine XS.bipush X0.here hx rfl (hb hby d1_13) ?_
                show Steps p.tables e below (s₁.setTop (mkF m 15 #[.val (.int p1)] [(.int (97 : Int32)), (.int p1)])) _
                refine XS.icmpYes X0.here hx rfl (pc0 := 15) (pc' := 24) rfl (hb hby d1_15) rfl (tlt g).1 (by decide) (by decide) ?_
                exact k)
              exact C5
            · have g2 : 122 < p1 := Classical.byContradiction fun z => d2 ⟨g, z⟩
              have C6 : Go p e below s₁ (mkF m 24 #[.val (.int p1)] []) s₁ F0 := fun t k => C12 t (by
                refine XS.iloadN X0.here hx rfl (hb hby d1_12) rfl ?_
                show Steps p.tables e below (s₁.setTop (mkF m 13 #[.val (.int p1)] [(.int p1)])) _
                refine XS.bipush X0.here hx rfl (hb hby d1_13) ?_
                show Steps p.tables e below (s₁.setTop (mkF m 15 #[.val (.int p1)] [(.int (97 : Int32)), (.int p1)])) _
                refine XS.icmpNo X0.here hx rfl (hb hby d1_15) rfl (flt g).1 ?_
                show Steps p.tables e below (s₁.setTop (mkF m 18 #[.val (.int p1)] [])) _
                refine XS.iloadN X0.here hx rfl (hb hby d1_18) rfl ?_
                show Steps p.tables e below (s₁.setTop (mkF m 19 #[.val (.int p1)] [(.int p1)])) _
                refine XS.bipush X0.here hx rfl (hb hby d1_19) ?_
                show Steps p.tables e below (s₁.setTop (mkF m 21 #[.val (.int p1)] [(.int (122 : Int32)), (.int p1)])) _
                refine XS.icmpNo X0.here hx rfl (hb hby d1_21) rfl (tlt g2).2.2.2 ?_
                exact k)
              exact C6
          have d3 := (c0.resolve_left d1).resolve_left d2
          have C7 : Go p e below s₁ (mkF m 45 #[.val (.int p1)] []) s₁ F0 := fun t k => C24 t (by
            refine XS.iloadN X0.here hx rfl (hb hby d1_24) rfl ?_
            show Steps p.tables e below (s₁.setTop (mkF m 25 #[.val (.int p1)] [(.int p1)])) _
            refine XS.bipush X0.here hx rfl (hb hby d1_25) ?_
            show Steps p.tables e below (s₁.setTop (mkF m 27 #[.val (.int p1)] [(.int (48 : Int32)), (.int p1)])) _
            refine XS.icmpNo X0.here hx rfl (hb hby d1_27) rfl (flt d3.1).1 ?_
            show Steps p.tables e below (s₁.setTop (mkF m 30 #[.val (.int p1)] [])) _
            refine XS.iloadN X0.here hx rfl (hb hby d1_30) rfl ?_
            show Steps p.tables e below (s₁.setTop (mkF m 31 #[.val (.int p1)] [(.int p1)])) _
            refine XS.bipush X0.here hx rfl (hb hby d1_31) ?_
            show Steps p.tables e below (s₁.setTop (mkF m 33 #[.val (.int p1)] [(.int (57 : Int32)), (.int p1)])) _
            refine XS.icmpYes X0.here hx rfl (pc0 := 33) (pc' := 45) rfl (hb hby d1_33) rfl (flt d3.2).2.2.2 (by decide) (by decide) ?_
            exact k)
          exact C7
    have C8 : Go p e below s₁ (mkF m 50 #[.val (.int p1)] [(.int (1 : Int32))]) s₁ F0 := fun t k => C45 t (by
      refine XS.iconst X0.here hx rfl (hb hby d1_45) ?_
      show Steps p.tables e below (s₁.setTop (mkF m 46 #[.val (.int p1)] [(.int (1 : Int32))])) _
      refine XS.goto X0.here hx rfl (pc0 := 46) (pc' := 50) rfl (hb hby d1_46) (by decide) (by decide) ?_
      exact k)
    obtain ⟨fs, hr, hrun, hended, hend⟩ := Stand.leaveW (s := s) (vm₁ := s.vm) X0 hS0 (Nat.le_of_eq (by rw [e0])) (v := (some (.int (nar .boolean (1 : Int32))))) (fun h => by rw [Bd.returns] at h; cases h)
    refine ⟨_, _, pre0 _ (C8 _ ?_), hrun, hended, _, _, rfl, ?_, (by rw [hh]; show CHr Z _ s.vm h0 s₁.vm s₁.heap; rw [e0]; exact hchr), hend.1, hend.2.1, hend.2.2.1, hend.2.2.2.mono (by decide) (by decide)⟩
    · exact retN X0 hx (t := .boolean) Bd.returns (by simp) (hb hby d1_50) hr
    · show Q1 Z p1 cs h0 n0 _ s₁.heap _
      rw [e0]
      exact ⟨by rw [q]; rfl, N0, Nat.le_refl _, fun _ _ z => z⟩
  · have d1 : ¬ (¬ p1 < 65 ∧ ¬ 90 < p1) := fun z => c0 (Or.inl z)
    have d2 : ¬ (¬ p1 < 97 ∧ ¬ 122 < p1) := fun z => c0 (Or.inr (Or.inl z))
    have d3 : ¬ (¬ p1 < 48 ∧ ¬ 57 < p1) := fun z => c0 (Or.inr (Or.inr z))
    have C12 : Go p e below s₁ (mkF m 12 #[.val (.int p1)] []) s₁ F0 := by
      by_cases g : p1 < 65
      · skip
        have C9 : Go p e below s₁ (mkF m 12 #[.val (.int p1)] []) s₁ F0 := fun t k => C0 t (by
          refine XS.iloadN X0.here hx rfl (hb hby d1_0) rfl ?_
          show Steps p.tables e below (s₁.setTop (mkF m 1 #[.val (.int p1)] [(.int p1)])) _
          refine XS.bipush X0.here hx rfl (hb hby d1_1) ?_
          show Steps p.tables e below (s₁.setTop (mkF m 3 #[.val (.int p1)] [(.int (65 : Int32)), (.int p1)])) _
          refine XS.icmpYes X0.here hx rfl (pc0 := 3) (pc' := 12) rfl (hb hby d1_3) rfl (tlt g).1 (by decide) (by decide) ?_
          exact k)
        exact C9
      · have g2 : 90 < p1 := Classical.byContradiction fun z => d1 ⟨g, z⟩
        have C10 : Go p e below s₁ (mkF m 12 #[.val (.int p1)] []) s₁ F0 := fun t k => C0 t (by
          refine XS.iloadN X0.here hx rfl (hb hby d1_0) rfl ?_
          show Steps p.tables e below (s₁.setTop (mkF m 1 #[.val (.int p1)] [(.int p1)])) _
          refine XS.bipush X0.here hx rfl (hb hby d1_1) ?_
          show Steps p.tables e below (s₁.setTop (mkF m 3 #[.val (.int p1)] [(.int (65 : Int32)), (.int p1)])) _
          refine XS.icmpNo X0.here hx rfl (hb hby d1_3) rfl (flt g).1 ?_
          show Steps p.tables e below (s₁.setTop (mkF m 6 #[.val (.int p1)] [])) _
          refine XS.iloadN X0.here hx rfl (hb hby d1_6) rfl ?_
          show Steps p.tables e below (s₁.setTop (mkF m 7 #[.val (.int p1)] [(.int p1)])) _
          refine XS.bipush X0.here hx rfl (hb hby d1_7) ?_
          show Steps p.tables e below (s₁.setTop (mkF m 9 #[.val (.int p1)] [(.int (90 : Int32)), (.int p1)])) _
          refine XS.icmpNo X0.here hx rfl (hb hby d1_9) rfl (tlt g2).2.2.2 ?_
          exact k)
        exact C10
    have C24 : Go p e below s₁ (mkF m 24 #[.val (.int p1)] []) s₁ F0 := by
      by_cases g : p1 < 97
      · skip
        have C11 : Go p e below s₁ (mkF m 24 #[.val (.int p1)] []) s₁ F0 := fun t k => C12 t (by
          refine XS.iloadN X0.here hx rfl (hb hby d1_12) rfl ?_
          show Steps p.tables e below (s₁.setTop (mkF m 13 #[.val (.int p1)] [(.int p1)])) _
          refine XS.bipush X0.here hx rfl (hb hby d1_13) ?_
          show Steps p.tables e below (s₁.setTop (mkF m 15 #[.val (.int p1)] [(.int (97 : Int32)), (.int p1)])) _
          refine XS.icmpYes X0.here hx rfl (pc0 := 15) (pc' := 24) rfl (hb hby d1_15) rfl (tlt g).1 (by decide) (by decide) ?_
          exact k)
        exact C11
      · have g2 : 122 < p1 := Classical.byContradiction fun z => d2 ⟨g, z⟩
        have C12 : Go p e below s₁ (mkF m 24 #[.val (.int p1)] []) s₁ F0 := fun t k => C12 t (by
          refine XS.iloadN X0.here hx rfl (hb hby d1_12) rfl ?_
          show Steps p.tables e below (s₁.setTop (mkF m 13 #[.val (.int p1)] [(.int p1)])) _
          refine XS.bipush X0.here hx rfl (hb hby d1_13) ?_
          show Steps p.tables e below (s₁.setTop (mkF m 15 #[.val (.int p1)] [(.int (97 : Int32)), (.int p1)])) _
          refine XS.icmpNo X0.here hx rfl (hb hby d1_15) rfl (flt g).1 ?_
          show Steps p.tables e below (s₁.setTop (mkF m 18 #[.val (.int p1)] [])) _
          refine XS.iloadN X0.here hx rfl (hb hby d1_18) rfl ?_
          show Steps p.tables e below (s₁.setTop (mkF m 19 #[.val (.int p1)] [(.int p1)])) _
          refine XS.bipush X0.here hx rfl (hb hby d1_19) ?_
          show Steps p.tables e below (s₁.setTop (mkF m 21 #[.val (.int p1)] [(.int (122 : Int32)), (.int p1)])) _
          refine XS.icmpNo X0.here hx rfl (hb hby d1_21) rfl (tlt g2).2.2.2 ?_
          exact k)
        exact C12
    have C36 : Go p e below s₁ (mkF m 36 #[.val (.int p1)] []) s₁ F0 := by
      by_cases g : p1 < 48
      · skip
        have C13 : Go p e below s₁ (mkF m 36 #[.val (.int p1)] []) s₁ F0 := fun t k => C24 t (by
          refine XS.iloadN X0.here hx rfl (hb hby d1_24) rfl ?_
          show Steps p.tables e below (s₁.setTop (mkF m 25 #[.val (.int p1)] [(.int p1)])) _
          refine XS.bipush X0.here hx rfl (hb hby d1_25) ?_
          show Steps p.tables e below (s₁.setTop (mkF m 27 #[.val (.int p1)] [(.int (48 : Int32)), (.int p1)])) _
          refine XS.icmpYes X0.here hx rfl (pc0 := 27) (pc' := 36) rfl (hb hby d1_27) rfl (tlt g).1 (by decide) (by decide) ?_
          exact k)
        exact C13
      · have g2 : 57 < p1 := Classical.byContradiction fun z => d3 ⟨g, z⟩
        have C14 : Go p e below s₁ (mkF m 36 #[.val (.int p1)] []) s₁ F0 := fun t k => C24 t (by
          refine XS.iloadN X0.here hx rfl (hb hby d1_24) rfl ?_
          show Steps p.tables e below (s₁.setTop (mkF m 25 #[.val (.int p1)] [(.int p1)])) _
          refine XS.bipush X0.here hx rfl (hb hby d1_25) ?_
          show Steps p.tables e below (s₁.setTop (mkF m 27 #[.val (.int p1)] [(.int (48 : Int32)), (.int p1)])) _
          refine XS.icmpNo X0.here hx rfl (hb hby d1_27) rfl (flt g).1 ?_
          show Steps p.tables e below (s₁.setTop (mkF m 30 #[.val (.int p1)] [])) _
          refine XS.iloadN X0.here hx rfl (hb hby d1_30) rfl ?_
          show Steps p.tables e below (s₁.setTop (mkF m 31 #[.val (.int p1)] [(.int p1)])) _
          refine XS.bipush X0.here hx rfl (hb hby d1_31) ?_
          show Steps p.tables e below (s₁.setTop (mkF m 33 #[.val (.int p1)] [(.int (57 : Int32)), (.int p1)])) _
          refine XS.icmpNo X0.here hx rfl (hb hby d1_33) rfl (tlt g2).2.2.2 ?_
          exact k)
        exact C14
    have wS : ∀ a ∈ Bundle.stringAtoms, a.before a0 Z = true := fun a ha => by
      simp only [Bundle.stringAtoms, List.mem_cons, List.not_mem_nil, or_false] at ha
      rcases ha with rfl | rfl | rfl | rfl | rfl | rfl | rfl
      · exact hw _ (List.mem_of_getElem? (i := 5) rfl)
      · exact hw _ (List.mem_of_getElem? (i := 6) rfl)
      · exact hw _ (List.mem_of_getElem? (i := 7) rfl)
      · exact hw _ (List.mem_of_getElem? (i := 8) rfl)
      · exact hw _ (List.mem_of_getElem? (i := 9) rfl)
      · exact hw _ (List.mem_of_getElem? (i := 10) rfl)
      · exact hw _ (List.mem_of_getElem? (i := 11) rfl)
    obtain ⟨a1, T15, h15, k1, bv, k0, X15, e15, E15, hS1, hk1, hZ1, hown1, Es, Fc, Fv, V0, -, -, hchr1, -, -, st15⟩ := ldcCH (s := s) (vm0 := s.vm) (text := own_lit) X0v hx hZ hown (hw _ (List.mem_of_getElem? (i := 4) rfl)) wS e0 hS0 (Nat.le_refl _) hEL (List.mem_of_getElem? (i := 0) rfl) hCH (vs := [.int 45, .int 46, .int 95, .int 126]) (z := 4) own_text (by decide) rfl (g := (mkF m 36 #[.val (.int p1)] [])) rfl (hb hby d1_36) (n := 16) (by decide +kernel) (by decide) (by decide) (by decide)
    have C15 : Go p e below T15 (mkF m 38 #[.val (.int p1)] [(.ref a1)]) s₁ F0 := fun t k => C36 t (st15 t k)
    have hZ := hZ1
    have hown := hown1
    have SC1 := SC.ext E15
    have Z1 : n0 ≤ h15.size := Nat.le_trans Z0 E15.1
    have C16 : Go p e below T15 (mkF m 39 #[.val (.int p1)] [(.int p1), (.ref a1)]) s₁ F0 := fun t k => C15 t (by
      refine XS.iloadN X15.here hx rfl (hb hby d1_38) rfl ?_
      exact k)
    obtain ⟨cq17, kq17, q17a, q17b, q17c⟩ := isOf hZ e15 Es
    obtain ⟨_, _, ⟨T17, L17, k17, n17⟩, -, X17, ⟨Lc17, hQ17, l17, y17, z17⟩, st17⟩ := X15.virtualBack hx (y := (⟨"java/lang/String", "indexOf", "(I)I"⟩ : MethodName)) (z := (⟨"java/lang/String", "indexOf", "(I)I"⟩ : MethodName)) hown (mvT hZ (hw _ (List.mem_of_getElem? (i := 12) rfl))) (mvT hZ (hw _ (List.mem_of_getElem? (i := 13) rfl))) (notFace_of_selects (args := #[]) (mvT hZ (hw _ (List.mem_of_getElem? (i := 15) rfl)))) (mvT hZ (hw _ (List.mem_of_getElem? (i := 15) rfl))) (mvT hZ (hw _ (List.mem_of_getElem? (i := 14) rfl))) (by decide) (backOf (W := 0) (rm2 l Z a0 hw [] a1 bv k0 cs p1 h15 n0 Z1 SC1 hcs Fc Fv V0 Es) hZ (hw _ (List.mem_of_getElem? (i := 16) rfl)) (hw _ (List.mem_of_getElem? (i := 5) rfl)) (by decide) (by decide)) q17a q17c (g := (mkF m 39 #[.val (.int p1)] [(.int p1), (.ref a1)])) rfl (by rw [hml]; rfl) (Steps.refl _) (argsL := [(.int p1)]) (rest := []) (lenOf pd_2 rfl) rfl (by show 2 * 0 + _ ≤ _; exact Nat.le_of_eq rfl) (hb hby d1_39) (fun _ _ => ⟨rfl, e15, (by decide : 2 + 0 ≤ _), (by decide : 20 + 0 ≤ _)⟩)
    dsimp only [Pt.U, Pt.locs, Pt.cells, Pt.slots] at X17 l17 y17 z17 st17 hQ17
    subst l17 y17 z17
    obtain ⟨rfl, N17q, eh17⟩ := hQ17
    have C17 : Go p e below T17 (mkF m 42 #[.val (.int p1)] [(.int (own_sl p1))]) s₁ F0 := fun t k => C16 t (st17.trans k)
    have N17 := Fr.app N0 N17q
    have q : own_un p1 = if own_sl p1 < 0 then 0 else 1 := (if_neg d1).trans ((if_neg d2).trans (if_neg d3))
    have C50 : Go p e below T17 (mkF m 50 #[.val (.int p1)] [(.int (own_un p1))]) s₁ F0 := by
      by_cases g : own_sl p1 < 0
      · have q2 : own_un p1 = 0 := q.trans (if_pos g)
        have C18 : Go p e below T17 (mkF m 50 #[.val (.int p1)] [(.int (0 : Int32))]) s₁ F0 := fun t k => C17 t (by
          refine XS.ifYes X17.here hx rfl (pc0 := 42) (pc' := 49) rfl (hb hby d1_42) rfl ((if0 _ _).trans (tlt g).1) (by decide) (by decide) ?_
          show Steps p.tables e below (T17.setTop (mkF m 49 #[.val (.int p1)] [])) _
          refine XS.iconst X17.here hx rfl (hb hby d1_49) ?_
          exact k)
        rw [q2]
        exact C18
      · have q2 : own_un p1 = 1 := q.trans (if_neg g)
        have C19 : Go p e below T17 (mkF m 50 #[.val (.int p1)] [(.int (1 : Int32))]) s₁ F0 := fun t k => C17 t (by
          refine XS.ifNo X17.here hx rfl (hb hby d1_42) rfl ((if0 _ _).trans (flt g).1) ?_
          show Steps p.tables e below (T17.setTop (mkF m 45 #[.val (.int p1)] [])) _
          refine XS.iconst X17.here hx rfl (hb hby d1_45) ?_
          show Steps p.tables e below (T17.setTop (mkF m 46 #[.val (.int p1)] [(.int (1 : Int32))])) _
          refine XS.goto X17.here hx rfl (pc0 := 46) (pc' := 50) rfl (hb hby d1_46) (by decide) (by decide) ?_
          exact k)
        rw [q2]
        exact C19
    have hchr2 := CHv.at (s := s) (vm0 := T15.vm) X17 hZ hEL hchr1.1
    obtain ⟨fs, hr, hrun, hended, hend⟩ := Stand.leaveW (s := s) (vm₁ := T15.vm) X17 hS1 (by rw [eh17]; exact hk1) (v := (some (.int (nar .boolean (own_un p1))))) (fun h => by rw [Bd.returns] at h; cases h)
    refine ⟨_, _, pre0 _ (C50 _ ?_), hrun, hended, _, _, rfl, ?_, (by rw [hh]; show CHr Z _ s.vm h0 T17.vm T17.heap; rw [eh17]; exact hchr1.trans hchr2), hend.1, hend.2.1, hend.2.2.1, hend.2.2.2.mono (by decide) (by decide)⟩
    · exact retN X17 hx (t := .boolean) Bd.returns (by simp) (hb hby d1_50) hr
    · show Q1 Z p1 cs h0 n0 _ T17.heap _
      rw [eh17]
      exact ⟨congrArg (fun z => some (Value.int z)) (own_un_nar p1), N17, E15⟩
theorem pn_0 : plainName "com/example/archerfish/archerfish/model/UriReferenceIsUnreservedPinLaw" = true := by first | (simp [plainName, overriddenIn]; done) | decide +kernel
theorem pd_0 : parseMethodDescriptor "(II)Z" = some ⟨[.int, .int], some .boolean⟩ := by decide +kernel
theorem ef_0 (m : MethodId) (x0 : Int32) (x1 : Int32) : entryFrame m #[(.int x0), (.int x1)] maxLocals = mkF m 0 #[.val (.int x0), .val (.int x1), .unset] [] := by first | (simp [entryFrame, mkF, argsToLocals, Value.category, maxLocals]; done) | rfl
def Q0 (Z : State) (p1 p2 cs : Int32) (h0 : Heap) (n0 : Nat) (v : Option Value) (h : Heap) (L : List Loc) : Prop := v = some (.int 1) ∧ Fr n0 L
set_option maxRecDepth 65536 in
set_option maxHeartbeats 40000000 in
theorem rm0 (l : Launch) (Z : State) (a0 : Array Value) (hw : ∀ d ∈ tables_1, d.before a0 Z = true) (ws : List Jvm.Cond) (p1 p2 cs : Int32) (h0 : Heap) (n0 : Nat) (Z0 : n0 ≤ h0.size) (SC : Sta Z h0 "java/lang/String" "COMPACT_STRINGS" "Z" (.int cs)) (hcs : ¬ cs = 0) (hEL : EW Z a0 [("com/example/archerfish/archerfish/model/UriReference", 87)]) :
    MetFree l x (head1 (Jvm.Cond.code x code maxLocals ret :: ws) room_1) (fun a U => a = #[(.int p1), (.int p2)] ∧ Z.Warmed39 U.vm ∧ U.heap = h0 ∧ CHv Z [("com/example/archerfish/archerfish/model/UriReference", 87)] U.vm h0) (fun _ _ _ _ _ => True) (fun _ U o U' => ∃ v L, o = .returned v ∧ Q0 Z p1 p2 cs h0 n0 v U'.heap L ∧ ReturnedEndW U o U' L room_1.cells room_1.slots) := by
  refine MetFree.of_bodySF (plainFor_of_name pn_0) hisR ?_
  intro p e s m args below meth c s₁ Bd hml0 hP hK
  obtain ⟨rfl, hZ, hh, hCH⟩ := hP
  have hx := Bd.exec
  have hby := Bd.bytes
  have hml : c.maxLocals = 3 := hml0
  have hown : s.vm.findClass "com/example/archerfish/archerfish/model/UriReferenceIsUnreservedPinLaw" = some m.cls := findClass_of_methodNamed Bd.named
  have hnm := (name_of_methodNamed Bd.named Bd.method).1
  have X0 : Stand p l e room_1 s m #[(.int p1), (.int p2)] below meth c s₁ [] 0 0 := Stand.of_body Bd
  have e0 : s₁.heap = h0 := by rw [← hh, Bd.state]; rfl
  have N0 := Fr.nil n0
  obtain ⟨F0, hF0⟩ : ∃ F0, F0 = entryFrame m #[(.int p1), (.int p2)] maxLocals := ⟨_, rfl⟩
  have C0 : Go p e below s₁ (mkF m 0 #[.val (.int p1), .val (.int p2), .unset] []) s₁ F0 := fun t k => by rw [hF0]; exact castTop (ef_0 m p1 p2) k
  have pre0 : ∀ t, Steps p.tables e below (s₁.setTop F0) t → Steps p.tables e below (s₁.setTop (entryFrame m #[(.int p1), (.int p2)] maxLocals)) t := fun t k => by rw [← hF0]; exact k
  have X0v : Stand p l e room_1 (s.setVm s.vm) m #[(.int p1), (.int p2)] below meth c s₁ [] 0 0 := X0
  have C1 : Go p e below s₁ (mkF m 3 #[.val (.int p1), .val (.int p2), .unset] [(.int (p2 &&& (1 : Int32)))]) s₁ F0 := fun t k => C0 t (by
    refine XS.iloadN X0.here hx rfl (hb hby at_0) rfl ?_
    show Steps p.tables e below (s₁.setTop (mkF m 1 #[.val (.int p1), .val (.int p2), .unset] [(.int p2)])) _
    refine XS.iconst X0.here hx rfl (hb hby at_1) ?_
    show Steps p.tables e below (s₁.setTop (mkF m 2 #[.val (.int p1), .val (.int p2), .unset] [(.int (1 : Int32)), (.int p2)])) _
    refine XS.iand X0.here hx rfl (hb hby at_2) rfl ?_
    exact k)
  obtain ⟨ch, hch, CH⟩ : ∃ ch : Int32, 0 ≤ ch.toInt ∧ Go p e below s₁ (mkF m 21 #[.val (.int p1), .val (.int p2), .val (.int ch)] []) s₁ F0 := by
    by_cases hc : (p2 &&& 1) = 0
    · skip
      have C2 : Go p e below s₁ (mkF m 21 #[.val (.int p1), .val (.int p2), .val (.int ((p1 &&& (65535 : Int32)).toUInt32.toUInt16.toUInt32.toInt32))] []) s₁ F0 := fun t k => C1 t (by
        refine XS.ifYes X0.here hx rfl (pc0 := 3) (pc' := 15) rfl (hb hby at_3) rfl ((if0 _ _).trans (teq hc).1) (by decide) (by decide) ?_
        show Steps p.tables e below (s₁.setTop (mkF m 15 #[.val (.int p1), .val (.int p2), .unset] [])) _
        refine XS.iloadN X0.here hx rfl (hb hby at_15) rfl ?_
        show Steps p.tables e below (s₁.setTop (mkF m 16 #[.val (.int p1), .val (.int p2), .unset] [(.int p1)])) _
        refine X0.ldcInt hx hown (mvT hZ (hw _ (List.mem_of_getElem? (i := 61) rfl))) (g := (mkF m 16 #[.val (.int p1), .val (.int p2), .unset] [(.int p1)])) rfl (hb hby at_16) _ ?_
        show Steps p.tables e below (s₁.setTop (mkF m 18 #[.val (.int p1), .val (.int p2), .unset] [(.int (65535 : Int32)), (.int p1)])) _
        refine XS.iand X0.here hx rfl (hb hby at_18) rfl ?_
        show Steps p.tables e below (s₁.setTop (mkF m 19 #[.val (.int p1), .val (.int p2), .unset] [(.int (p1 &&& (65535 : Int32)))])) _
        refine XS.i2c X0.here hx rfl (hb hby at_19) rfl ?_
        show Steps p.tables e below (s₁.setTop (mkF m 20 #[.val (.int p1), .val (.int p2), .unset] [(.int ((p1 &&& (65535 : Int32)).toUInt32.toUInt16.toUInt32.toInt32))])) _
        refine XS.istoreN X0.here hx rfl (hb hby at_20) rfl (l' := #[.val (.int p1), .val (.int p2), .val (.int ((p1 &&& (65535 : Int32)).toUInt32.toUInt16.toUInt32.toInt32))]) rfl ?_
        exact k)
      exact ⟨_, (c_i2c _).2.1, C2⟩
    · skip
      have C3 : Go p e below s₁ (mkF m 21 #[.val (.int p1), .val (.int p2), .val (.int ((p1 &&& (127 : Int32)).toUInt32.toUInt16.toUInt32.toInt32))] []) s₁ F0 := fun t k => C1 t (by
        refine XS.ifNo X0.here hx rfl (hb hby at_3) rfl ((if0 _ _).trans (feq hc).1) ?_
        show Steps p.tables e below (s₁.setTop (mkF m 6 #[.val (.int p1), .val (.int p2), .unset] [])) _
        refine XS.iloadN X0.here hx rfl (hb hby at_6) rfl ?_
        show Steps p.tables e below (s₁.setTop (mkF m 7 #[.val (.int p1), .val (.int p2), .unset] [(.int p1)])) _
        refine XS.bipush X0.here hx rfl (hb hby at_7) ?_
        show Steps p.tables e below (s₁.setTop (mkF m 9 #[.val (.int p1), .val (.int p2), .unset] [(.int (127 : Int32)), (.int p1)])) _
        refine XS.iand X0.here hx rfl (hb hby at_9) rfl ?_
        show Steps p.tables e below (s₁.setTop (mkF m 10 #[.val (.int p1), .val (.int p2), .unset] [(.int (p1 &&& (127 : Int32)))])) _
        refine XS.i2c X0.here hx rfl (hb hby at_10) rfl ?_
        show Steps p.tables e below (s₁.setTop (mkF m 11 #[.val (.int p1), .val (.int p2), .unset] [(.int ((p1 &&& (127 : Int32)).toUInt32.toUInt16.toUInt32.toInt32))])) _
        refine XS.istoreN X0.here hx rfl (hb hby at_11) rfl (l' := #[.val (.int p1), .val (.int p2), .val (.int ((p1 &&& (127 : Int32)).toUInt32.toUInt16.toUInt32.toInt32))]) rfl ?_
        show Steps p.tables e below (s₁.setTop (mkF m 12 #[.val (.int p1), .val (.int p2), .val (.int ((p1 &&& (127 : Int32)).toUInt32.toUInt16.toUInt32.toInt32))] [])) _
        refine XS.goto X0.here hx rfl (pc0 := 12) (pc' := 21) rfl (hb hby at_12) (by decide) (by decide) ?_
        exact k)
      exact ⟨_, (c_i2c _).2.1, C3⟩
  have C4 : Go p e below s₁ (mkF m 22 #[.val (.int p1), .val (.int p2), .val (.int ch)] [(.int ch)]) s₁ F0 := fun t k => CH t (by
    refine XS.iloadN X0.here hx rfl (hb hby at_21) rfl ?_
    exact k)
  obtain ⟨_, _, ⟨T5, L5, k5, n5⟩, -, X5, hS5, hg5, ⟨Lc5, hQ5, l5, y5, z5, hchr5⟩, st5⟩ := callSS X0v hx (y := (⟨"com/example/archerfish/archerfish/model/UriReference", "isUnreserved", "(C)Z"⟩ : MethodName)) hown (mvT hZ (hw _ (List.mem_of_getElem? (i := 0) rfl))) (mvT hZ (hw _ (List.mem_of_getElem? (i := 1) rfl))) (mvT hZ (hw _ (List.mem_of_getElem? (i := 2) rfl))) (mvT hZ (hw _ (List.mem_of_getElem? (i := 3) rfl))) (by decide) (backOfSH (s := s) (vm0 := s.vm) (W := 0) (rm1 l Z a0 hw [] ch cs h0 n0 Z0 SC hcs hEL) hZ (hw _ (List.mem_of_getElem? (i := 3) rfl)) (hw _ (List.mem_of_getElem? (i := 2) rfl)) (by decide) (by decide) hEL hCH) (g := (mkF m 22 #[.val (.int p1), .val (.int p2), .val (.int ch)] [(.int ch)])) rfl (by rw [hml]; rfl) (argsL := [(.int ch)]) (rest := []) (lenOf pd_1 rfl) rfl (by show 2 * 0 + _ ≤ _; exact Nat.le_of_eq rfl) (hb hby at_22) (fun _ _ => ⟨rfl, e0, (by decide : 0 + 2 ≤ _), (by decide : 0 + 20 ≤ _)⟩)
  dsimp only [Pt.U, Pt.locs, Pt.cells, Pt.slots] at X5 l5 y5 z5 st5 hQ5 hS5 hg5
  subst l5 y5 z5
  obtain ⟨rfl, N5q, E5⟩ := hQ5
  have C5 : Go p e below T5 (mkF m 25 #[.val (.int p1), .val (.int p2), .val (.int ch)] [(.int (own_un ch))]) s₁ F0 := fun t k => C4 t (st5.trans k)
  have N5 := Fr.app N0 N5q
  have X5v : Stand p l e room_1 (s.setVm T5.vm) m #[(.int p1), (.int p2)] below meth c T5 _ _ _ := X5
  have hSs : s.Since T5.vm T5.heap.size := hS5
  have hZ0 := hZ
  have hZ : Z.Warmed39 (s.setVm T5.vm).vm := State.Warmed39.trans hZ0 hSs.1
  have hown0 := hown
  have hown : (s.setVm T5.vm).vm.findClass "com/example/archerfish/archerfish/model/UriReferenceIsUnreservedPinLaw" = some m.cls := (hSs.1.alike.findClass _ _).trans hown0
  have Z1 : n0 ≤ T5.heap.size := Nat.le_trans Z0 E5.1
  have C6 : Go p e below T5 (mkF m 26 #[.val (.int p1), .val (.int p2), .val (.int ch)] [(.int ch), (.int (own_un ch))]) s₁ F0 := fun t k => C5 t (by
    refine XS.iloadN X5v.here hx rfl (hb hby at_25) rfl ?_
    exact k)
  obtain ⟨_, _, ⟨T7, L7, k7, n7⟩, -, X7, ⟨Lc7, hQ7, l7, y7, z7⟩, st7⟩ := Jvm.LawKit.callS X5v hx (y := (⟨"com/example/archerfish/archerfish/model/UriReferenceIsUnreservedPinLaw", "reference", "(C)Z"⟩ : MethodName)) hown (mvT hZ (hw _ (List.mem_of_getElem? (i := 57) rfl))) (mvT hZ (hw _ (List.mem_of_getElem? (i := 58) rfl))) (mvT hZ (hw _ (List.mem_of_getElem? (i := 59) rfl))) (mvT hZ (hw _ (List.mem_of_getElem? (i := 60) rfl))) (by decide) (backOf (W := 1) (rm12 l Z a0 hw [] ch T5.heap n0 Z1) hZ (hw _ (List.mem_of_getElem? (i := 60) rfl)) (hw _ (List.mem_of_getElem? (i := 59) rfl)) (by decide) (by decide)) (g := (mkF m 26 #[.val (.int p1), .val (.int p2), .val (.int ch)] [(.int ch), (.int (own_un ch))])) rfl (by rw [hml]; rfl) (argsL := [(.int ch)]) (rest := [(.int (own_un ch))]) (lenOf pd_12 rfl) rfl (by show 2 * 0 + _ ≤ _; exact Nat.le_of_eq rfl) (hb hby at_26) (fun _ _ => ⟨rfl, rfl, (by decide : 2 + 0 ≤ _), (by decide : 20 + 0 ≤ _)⟩)
  dsimp only [Pt.U, Pt.locs, Pt.cells, Pt.slots] at X7 l7 y7 z7 st7 hQ7
  subst l7 y7 z7
  obtain ⟨rfl, N7q, eh7⟩ := hQ7
  have C7 : Go p e below T7 (mkF m 29 #[.val (.int p1), .val (.int p2), .val (.int ch)] [(.int (own_ref ch)), (.int (own_un ch))]) s₁ F0 := fun t k => C6 t (st7 t k)
  have N7 := Fr.app N5 N7q
  have C8 : Go p e below T7 (mkF m 37 #[.val (.int p1), .val (.int p2), .val (.int ch)] [(.int (1 : Int32))]) s₁ F0 := fun t k => C7 t (by
    refine XS.icmpNo X7.here hx rfl (hb hby at_29) rfl (teq (own_law ch hch)).2 ?_
    show Steps p.tables e below (T7.setTop (mkF m 32 #[.val (.int p1), .val (.int p2), .val (.int ch)] [])) _
    refine XS.iconst X7.here hx rfl (hb hby at_32) ?_
    show Steps p.tables e below (T7.setTop (mkF m 33 #[.val (.int p1), .val (.int p2), .val (.int ch)] [(.int (1 : Int32))])) _
    refine XS.goto X7.here hx rfl (pc0 := 33) (pc' := 37) rfl (hb hby at_33) (by decide) (by decide) ?_
    exact k)
  obtain ⟨fs, hr, hrun, hended, hend⟩ := Stand.leaveW (s := s) (vm₁ := T5.vm) X7 hSs (Nat.le_of_eq (by rw [eh7])) (v := (some (.int (nar .boolean (1 : Int32))))) (fun h => by rw [Bd.returns] at h; cases h)
  refine ⟨_, _, pre0 _ (C8 _ ?_), hrun, hended, _, _, rfl, ?_, hend.1, hend.2.1, hend.2.2.1, hend.2.2.2.mono (by decide) (by decide)⟩
  · exact retN X7 hx (t := .boolean) Bd.returns (by simp) (hb hby at_37) hr
  · show Q0 Z p1 p2 cs h0 n0 _ T7.heap _
    exact ⟨rfl, N7⟩
set_option maxRecDepth 65536 in
set_option maxHeartbeats 40000000 in
theorem comes_1 {Post : Tables → Env → Array Value → State → Outcome → State → Prop} (hpost : ∀ tb e args s v u, (limb_1_1.after args s (.returned v) u = true ∧ limb_1_2.after args s (.returned v) u = true ∧ True) → ReturnedEndW s (.returned v) u (Jvm.fieldLocs frame_1_writes args s ++ Jvm.arrayLocs frame_1_arrays args s ++ Jvm.staticLocs frame_1_statics s) 8 1088 → Post tb e args s (.returned v) u) :
    ArmFor flags0 classFile x code maxLocals ret World_1 tables_1 room_1 Calls_1 rest_1 Pre_1 Post := by
  intro l hfl _ _ p e ha hc hk s m args below hf hA hF happ hP
  obtain ⟨hcalls, hrest, hpre⟩ := hP
  obtain ⟨-, -, -, hnamed, -, -, -, hat⟩ := (Spec.applies_iff hf).mp happ
  obtain ⟨hg, hn⟩ := and_e (Cond.before_iff.mp (show (Jvm.Cond.and given_1 narrow_1).before args s = true from hpre))
  obtain ⟨h1, j0⟩ := and_e hg
  obtain ⟨i0, i1⟩ := and_e j0
  obtain ⟨w0, w1, rfl⟩ : ∃ w0 w1 : Value, args = #[w0, w1] := by
    have hs : args.size = 2 := by simpa [Cond.value, given_1] using h1
    obtain ⟨L⟩ := args
    match L, hs with
    | [w0, w1], _ => exact ⟨w0, w1, rfl⟩
  have hw := fun d (hd : d ∈ tables_1) => atoms_spec (ws := Jvm.Cond.code x code maxLocals ret :: tables_1) hat d (List.mem_cons_of_mem _ hd)
  obtain ⟨hsets, hown0⟩ := atoms_of _ (rest_1_c_eq ▸ (show rest_1_c.before _ s = true from hrest))
  obtain ⟨v0, e0⟩ := is_v i0
  obtain rfl : w0 = (.int v0) := Option.some.inj e0
  obtain ⟨v1, e1⟩ := is_v i1
  obtain rfl : w1 = (.int v1) := Option.some.inj e1
  have n5 := not_v (Cond.before_iff.mp (hsets _ (List.mem_of_getElem? (i := 2) rfl)))
  obtain ⟨cs, e2⟩ := is_v (Cond.before_iff.mp (hsets _ (List.mem_of_getElem? (i := 1) rfl)))
  have SC : Sta s s.heap "java/lang/String" "COMPACT_STRINGS" "Z" (.int cs) := Sta.start e2 (Or.inl (hsets _ (List.mem_of_getElem? (i := 0) rfl)))
  have hcs : ¬ (cs = (0 : Int32)) := gotF (Cond.eq_ints e2 (Term.int_eval (0))) n5
  have hEL : EW s #[.int v0, .int v1] [("com/example/archerfish/archerfish/model/UriReference", 87)] := EW.cons (text := own_lit) (hw _ (List.mem_of_getElem? (i := 4) rfl)) own_text.1 EW.nil
  have hCH : CHv s [("com/example/archerfish/archerfish/model/UriReference", 87)] s.vm s.heap := CHv.start hEL (fun p hp => hcalls.1 p hp) (hsets _ (List.mem_of_getElem? (i := 2) rfl)) (hw _ (List.mem_of_getElem? (i := 7) rfl)) (hw _ (List.mem_of_getElem? (i := 6) rfl))
  obtain ⟨n, o, h1, h2, h3, _, L, rfl, ⟨rfl, N⟩, hq⟩ := rm0 l s _ hw tables_1 v0 v1 cs s.heap s.heap.size (Nat.le_refl _) SC hcs hEL p e ha hc hk s m _ below hf ((Spec.applies_iff_loose hf).mp happ).1 ⟨rfl, State.Warmed39.refl s, rfl, hCH⟩ trivial
  refine ⟨n, _, h1, h2, h3, hpost _ _ _ _ _ _ ⟨Cond.after_iff.mpr rfl, Cond.after_iff.mpr (eq_i res_at (Term.int_eval (1)) rfl), trivial⟩ ⟨hq.1, hq.2.1, hq.2.2.1, (hq.2.2.2.sift fun y hy => Or.inr (N y hy)).mono (by decide) (by decide)⟩⟩
theorem main_1_1 : Claimed_1_1 := comes_1 fun _ _ _ _ _ _ h hF => ⟨h.1, hF⟩
theorem main_1_2 : Claimed_1_2 := comes_1 fun _ _ _ _ _ _ h hF => ⟨h.2.1, hF⟩
end Jvm.Pilot.@@N@@
namespace Jvm.Pilot.@@N@@
open Jvm Jvm.ClassFile Sem Op Lib Jvm.Free Jvm.Stand Jvm.Pilot.@@N@@.Jvm.D
/-! MADE BY PROGRAM (witnessworld.py) out of the Statement's table words and the real class files: 19 classes; the members and pool entries that the words name. The judged class is class 1, her method 1. -/
namespace start1
open Jvm.ClassFile
def u (s : String) : CpInfo := .utf8 (stringToUtf16 s)
/-- a pool by its gaps: so many unusable entries, then the entry; so many at the end -/
def gap : Nat → List CpInfo → List CpInfo
  | 0, r => r
  | n + 1, r => .unusable :: gap n r
def poolList (es : List (Nat × CpInfo)) (last : Nat) : List CpInfo := es.foldr (fun e r => gap e.1 (e.2 :: r)) (gap last [])
def pool (es : List (Nat × CpInfo)) (last : Nat) : Array CpInfo := ⟨poolList es last⟩
def fileOf (pool : Array CpInfo) (this : Nat) (attrs : Array Attribute := #[]) (ms : Array MethodInfo := #[]) (fl : Nat := 33) (sup : Nat := 0) (ifs : Array Nat := #[]) (fds : Array FieldInfo := #[]) : ClassFile where
  minorVersion := 0
  majorVersion := 65
  constantPool := pool
  accessFlags := fl
  thisClass := this
  superClass := sup
  interfaces := ifs
  fields := fds
  methods := ms
  attributes := attrs
def plain (name : String) (sup : Option ClassId) : Class where
  name := name
  kind := .ordinary
  loader := none
  accessFlags := 33
  super := sup
  interfaces := #[]
  cf := none
  fields := #[]
  methods := #[]
  instanceTypes := #[]
  staticTypes := #[]
  resolved := #[]
  callSites := []
  init := .initialized
  statics := none
  mirror := none

def pool0 : Array CpInfo := pool [(5, u "<init>"), (0, u "()V"), (1, .class_ 10), (1, u "java/lang/Object")] 113

def k0m0 : Method := { name := "<init>", desc := "()V", sig := { parameters := [], returnType := none }, accessFlags := 1, code := none }
/-- java/lang/Object -/
def k0 : Class := { plain "java/lang/Object" none with
  accessFlags := 33
  interfaces := #[]
  cf := some (fileOf pool0 8 #[] #[{ accessFlags := 1, nameIndex := 5, descriptorIndex := 6, attributes := #[] }] 33 0 #[] #[])
  fields := #[]
  methods := #[k0m0]
  instanceTypes := #[]
  staticTypes := #[]
  resolved := Array.replicate 124 none
  statics := none }

def pool1 : Array CpInfo := pool [(2, .class_ 4), (1, u "java/lang/Object"), (0, u "<init>"), (0, u "()V"), (0, .integer 65535), (0, .methodref 9 10), (0, .class_ 11), (0, .nameAndType 12 13), (0, u "com/example/archerfish/archerfish/model/UriReference"), (0, u "isUnreserved"), (0, u "(C)Z"), (0, .methodref 15 16), (0, .class_ 17), (0, .nameAndType 18 13), (0, u "com/example/archerfish/archerfish/model/UriReferenceIsUnreservedPinLaw"), (0, u "reference"), (2, u "law"), (0, u "(II)Z")] 3

def k1m0 : Method := { name := "<init>", desc := "()V", sig := { parameters := [], returnType := none }, accessFlags := 1, code := none }
def k1c1 : Code := { maxStack := 2, maxLocals := 3, code := code, exceptionTable := #[], attributes := #[] }
def k1m1 : Method := { name := "law", desc := "(II)Z", sig := { parameters := [.int, .int], returnType := some .boolean }, accessFlags := 9, code := some k1c1 }
def k1c2 : Code := { maxStack := 2, maxLocals := 2, code := method_3_code, exceptionTable := #[], attributes := #[] }
def k1m2 : Method := { name := "reference", desc := "(C)Z", sig := { parameters := [.char], returnType := some .boolean }, accessFlags := 10, code := some k1c2 }
/-- com/example/archerfish/archerfish/model/UriReferenceIsUnreservedPinLaw -/
def k1 : Class := { plain "com/example/archerfish/archerfish/model/UriReferenceIsUnreservedPinLaw" (some 0) with
  accessFlags := 49
  interfaces := #[]
  cf := some (fileOf pool1 15 #[] #[{ accessFlags := 1, nameIndex := 5, descriptorIndex := 6, attributes := #[] }, { accessFlags := 9, nameIndex := 21, descriptorIndex := 22, attributes := #[] }, { accessFlags := 10, nameIndex := 18, descriptorIndex := 13, attributes := #[] }] 49 2 #[] #[])
  fields := #[]
  methods := #[k1m0, k1m1, k1m2]
  instanceTypes := #[]
  staticTypes := #[]
  resolved := Array.replicate 26 none
  statics := none }

def pool2 : Array CpInfo := pool [(2, .class_ 4), (1, u "java/lang/Object"), (0, u "<init>"), (0, u "()V"), (0, .class_ 8), (0, u "java/lang/Record")] 13

def k2m0 : Method := { name := "<init>", desc := "()V", sig := { parameters := [], returnType := none }, accessFlags := 4, code := none }
/-- java/lang/Record -/
def k2 : Class := { plain "java/lang/Record" (some 0) with
  accessFlags := 1057
  interfaces := #[]
  cf := some (fileOf pool2 7 #[] #[{ accessFlags := 4, nameIndex := 5, descriptorIndex := 6, attributes := #[] }] 1057 2 #[] #[])
  fields := #[]
  methods := #[k2m0]
  instanceTypes := #[]
  staticTypes := #[]
  resolved := Array.replicate 22 none
  statics := none }

def pool3 : Array CpInfo := pool [(2, .class_ 4), (1, u "java/lang/Record"), (10, .class_ 17), (1, u "com/example/archerfish/archerfish/model/UriReference"), (0, u "scheme"), (0, u "Ljava/lang/String;"), (2, u "authority"), (2, u "path"), (2, u "query"), (2, u "fragment"), (4, u "COMPONENTS"), (0, u "Ljava/util/regex/Pattern;"), (24, .class_ 64), (1, u "java/lang/String"), (22, .string 88), (0, u "-._~"), (0, .methodref 62 90), (0, .nameAndType 91 92), (0, u "indexOf"), (0, u "(I)I"), (145, u "isUnreserved"), (0, u "(C)Z")] 41

def k3c0 : Code := { maxStack := 2, maxLocals := 1, code := prog_46_method_4_code, exceptionTable := #[], attributes := #[] }
def k3m0 : Method := { name := "isUnreserved", desc := "(C)Z", sig := { parameters := [.char], returnType := some .boolean }, accessFlags := 9, code := some k3c0 }
/-- com/example/archerfish/archerfish/model/UriReference -/
def k3 : Class := { plain "com/example/archerfish/archerfish/model/UriReference" (some 2) with
  accessFlags := 49
  interfaces := #[]
  cf := some (fileOf pool3 15 #[] #[{ accessFlags := 9, nameIndex := 238, descriptorIndex := 239, attributes := #[] }] 49 2 #[] #[{ accessFlags := 18, nameIndex := 18, descriptorIndex := 19, attributes := #[] }, { accessFlags := 18, nameIndex := 22, descriptorIndex := 19, attributes := #[] }, { accessFlags := 18, nameIndex := 25, descriptorIndex := 19, attributes := #[] }, { accessFlags := 18, nameIndex := 28, descriptorIndex := 19, attributes := #[] }, { accessFlags := 18, nameIndex := 31, descriptorIndex := 19, attributes := #[] }, { accessFlags := 26, nameIndex := 36, descriptorIndex := 37, attributes := #[] }])
  fields := #[{ name := "scheme", type := (.object "java/lang/String"), accessFlags := 18, slot := 0, constantValue := 0 }, { name := "authority", type := (.object "java/lang/String"), accessFlags := 18, slot := 1, constantValue := 0 }, { name := "path", type := (.object "java/lang/String"), accessFlags := 18, slot := 2, constantValue := 0 }, { name := "query", type := (.object "java/lang/String"), accessFlags := 18, slot := 3, constantValue := 0 }, { name := "fragment", type := (.object "java/lang/String"), accessFlags := 18, slot := 4, constantValue := 0 }, { name := "COMPONENTS", type := (.object "java/util/regex/Pattern"), accessFlags := 26, slot := 0, constantValue := 0 }]
  methods := #[k3m0]
  instanceTypes := #[(.object "java/lang/String"), (.object "java/lang/String"), (.object "java/lang/String"), (.object "java/lang/String"), (.object "java/lang/String")]
  staticTypes := #[(.object "java/util/regex/Pattern")]
  resolved := Array.replicate 281 none
  statics := none }

def pool4 : Array CpInfo := pool [(1, .class_ 2), (0, u "java/io/Serializable"), (0, .class_ 4), (0, u "java/lang/Object")] 2

/-- java/io/Serializable -/
def k4 : Class := { plain "java/io/Serializable" (some 0) with
  accessFlags := 1537
  interfaces := #[]
  cf := some (fileOf pool4 1 #[] #[] 1537 3 #[] #[])
  fields := #[]
  methods := #[]
  instanceTypes := #[]
  staticTypes := #[]
  resolved := Array.replicate 7 none
  statics := none }

def pool5 : Array CpInfo := pool [(1, .class_ 2), (0, u "java/lang/Comparable"), (0, .class_ 4), (0, u "java/lang/Object")] 7

/-- java/lang/Comparable -/
def k5 : Class := { plain "java/lang/Comparable" (some 0) with
  accessFlags := 1537
  interfaces := #[]
  cf := some (fileOf pool5 1 #[] #[] 1537 3 #[] #[])
  fields := #[]
  methods := #[]
  instanceTypes := #[]
  staticTypes := #[]
  resolved := Array.replicate 12 none
  statics := none }

def pool6 : Array CpInfo := pool [(2, .class_ 4), (1, u "java/lang/CharSequence"), (42, .class_ 48), (0, u "java/lang/CharSequence$1CodePointIterator"), (10, .class_ 60), (0, u "java/lang/CharSequence$1CharIterator"), (5, .class_ 67), (0, u "java/lang/Object")] 63

/-- java/lang/CharSequence -/
def k6 : Class := { plain "java/lang/CharSequence" (some 0) with
  accessFlags := 1537
  interfaces := #[]
  cf := some (fileOf pool6 2 #[.nestMembers #[47, 59]] #[] 1537 66 #[] #[])
  fields := #[]
  methods := #[]
  instanceTypes := #[]
  staticTypes := #[]
  resolved := Array.replicate 131 none
  statics := none }

def pool7 : Array CpInfo := pool [(1, .class_ 2), (0, u "java/lang/constant/Constable"), (0, .class_ 4), (0, u "java/lang/Object")] 6

/-- java/lang/constant/Constable -/
def k7 : Class := { plain "java/lang/constant/Constable" (some 0) with
  accessFlags := 1537
  interfaces := #[]
  cf := some (fileOf pool7 1 #[] #[] 1537 3 #[] #[])
  fields := #[]
  methods := #[]
  instanceTypes := #[]
  staticTypes := #[]
  resolved := Array.replicate 11 none
  statics := none }

def pool8 : Array CpInfo := pool [(1, .class_ 2), (0, u "java/lang/constant/ConstantDesc"), (0, .class_ 4), (0, u "java/lang/Object")] 32

/-- java/lang/constant/ConstantDesc -/
def k8 : Class := { plain "java/lang/constant/ConstantDesc" (some 0) with
  accessFlags := 1537
  interfaces := #[]
  cf := some (fileOf pool8 1 #[] #[] 1537 3 #[] #[])
  fields := #[]
  methods := #[]
  instanceTypes := #[]
  staticTypes := #[]
  resolved := Array.replicate 37 none
  statics := none }

def pool9 : Array CpInfo := pool [(2, .class_ 4), (1, u "java/lang/Object"), (0, u "<init>"), (0, u "()V"), (2, .fieldref 10 11), (0, .class_ 12), (0, .nameAndType 13 14), (0, u "java/lang/String"), (0, u "value"), (0, u "[B"), (0, .fieldref 10 16), (0, .nameAndType 17 18), (0, u "coder"), (0, u "B"), (2, u "hash"), (0, u "I"), (2, u "hashIsZero"), (0, u "Z"), (11, .fieldref 10 39), (0, .nameAndType 40 26), (0, u "COMPACT_STRINGS"), (66, .class_ 109), (1, u "java/lang/StringLatin1"), (32, u "()Z"), (191, u "()I"), (0, .methodref 10 336), (0, .nameAndType 17 337), (0, u "()B"), (154, .methodref 10 493), (0, .nameAndType 494 142), (0, u "isLatin1"), (10, .methodref 10 506), (0, .nameAndType 507 334), (0, u "length"), (67, .class_ 576), (0, u "java/lang/CharSequence"), (22, u "CASE_INSENSITIVE_ORDER"), (0, u "Ljava/util/Comparator;"), (32, .methodref 10 634), (0, .nameAndType 635 636), (0, u "indexOf"), (0, u "(II)I"), (0, .methodref 107 638), (0, .nameAndType 635 639), (0, u "([BIII)I"), (125, u "(I)I"), (335, u "serialPersistentFields"), (0, u "[Ljava/io/ObjectStreamField;"), (0, .class_ 1104), (0, u "java/lang/String$CaseInsensitiveComparator"), (1, .class_ 1107), (0, u "java/io/Serializable"), (0, .class_ 1109), (0, u "java/lang/Comparable"), (0, .class_ 1111), (0, u "java/lang/constant/Constable"), (0, .class_ 1113), (0, u "java/lang/constant/ConstantDesc"), (2, u "serialVersionUID"), (0, u "J"), (3, u "REPL"), (0, u "C"), (2, u "LATIN1"), (1, u "UTF16")] 323

def k9m0 : Method := { name := "<init>", desc := "()V", sig := { parameters := [], returnType := none }, accessFlags := 1, code := none }
def k9c1 : Code := { maxStack := 2, maxLocals := 1, code := jdk_42_method_54_code, exceptionTable := #[], attributes := #[] }
def k9m1 : Method := { name := "length", desc := "()I", sig := { parameters := [], returnType := some .int }, accessFlags := 1, code := some k9c1 }
def k9c2 : Code := { maxStack := 3, maxLocals := 2, code := jdk_42_method_79_code, exceptionTable := #[], attributes := #[] }
def k9m2 : Method := { name := "indexOf", desc := "(I)I", sig := { parameters := [.int], returnType := some .int }, accessFlags := 1, code := some k9c2 }
def k9c3 : Code := { maxStack := 4, maxLocals := 3, code := jdk_42_method_80_code, exceptionTable := #[], attributes := #[] }
def k9m3 : Method := { name := "indexOf", desc := "(II)I", sig := { parameters := [.int, .int], returnType := some .int }, accessFlags := 1, code := some k9c3 }
def k9c4 : Code := { maxStack := 1, maxLocals := 1, code := jdk_42_method_152_code, exceptionTable := #[], attributes := #[] }
def k9m4 : Method := { name := "coder", desc := "()B", sig := { parameters := [], returnType := some .byte }, accessFlags := 0, code := some k9c4 }
def k9c5 : Code := { maxStack := 1, maxLocals := 1, code := jdk_42_method_154_code, exceptionTable := #[], attributes := #[] }
def k9m5 : Method := { name := "isLatin1", desc := "()Z", sig := { parameters := [], returnType := some .boolean }, accessFlags := 0, code := some k9c5 }
/-- java/lang/String -/
def k9 : Class := { plain "java/lang/String" (some 0) with
  accessFlags := 49
  interfaces := #[4, 5, 6, 7, 8]
  cf := some (fileOf pool9 10 #[.nestMembers #[1103]] #[{ accessFlags := 1, nameIndex := 5, descriptorIndex := 6, attributes := #[] }, { accessFlags := 1, nameIndex := 507, descriptorIndex := 334, attributes := #[] }, { accessFlags := 1, nameIndex := 635, descriptorIndex := 765, attributes := #[] }, { accessFlags := 1, nameIndex := 635, descriptorIndex := 636, attributes := #[] }, { accessFlags := 0, nameIndex := 17, descriptorIndex := 337, attributes := #[] }, { accessFlags := 0, nameIndex := 494, descriptorIndex := 142, attributes := #[] }] 49 2 #[1106, 1108, 575, 1110, 1112] #[{ accessFlags := 18, nameIndex := 13, descriptorIndex := 14, attributes := #[] }, { accessFlags := 18, nameIndex := 17, descriptorIndex := 18, attributes := #[] }, { accessFlags := 2, nameIndex := 21, descriptorIndex := 22, attributes := #[] }, { accessFlags := 2, nameIndex := 25, descriptorIndex := 26, attributes := #[] }, { accessFlags := 26, nameIndex := 1116, descriptorIndex := 1117, attributes := #[] }, { accessFlags := 24, nameIndex := 40, descriptorIndex := 26, attributes := #[] }, { accessFlags := 26, nameIndex := 1101, descriptorIndex := 1102, attributes := #[] }, { accessFlags := 26, nameIndex := 1121, descriptorIndex := 1122, attributes := #[] }, { accessFlags := 25, nameIndex := 599, descriptorIndex := 600, attributes := #[] }, { accessFlags := 24, nameIndex := 1125, descriptorIndex := 18, attributes := #[] }, { accessFlags := 24, nameIndex := 1127, descriptorIndex := 18, attributes := #[] }])
  fields := #[{ name := "value", type := (.array .byte), accessFlags := 18, slot := 0, constantValue := 0 }, { name := "coder", type := .byte, accessFlags := 18, slot := 1, constantValue := 0 }, { name := "hash", type := .int, accessFlags := 2, slot := 2, constantValue := 0 }, { name := "hashIsZero", type := .boolean, accessFlags := 2, slot := 3, constantValue := 0 }, { name := "serialVersionUID", type := .long, accessFlags := 26, slot := 0, constantValue := 0 }, { name := "COMPACT_STRINGS", type := .boolean, accessFlags := 24, slot := 1, constantValue := 0 }, { name := "serialPersistentFields", type := (.array (.object "java/io/ObjectStreamField")), accessFlags := 26, slot := 2, constantValue := 0 }, { name := "REPL", type := .char, accessFlags := 26, slot := 3, constantValue := 0 }, { name := "CASE_INSENSITIVE_ORDER", type := (.object "java/util/Comparator"), accessFlags := 25, slot := 4, constantValue := 0 }, { name := "LATIN1", type := .byte, accessFlags := 24, slot := 5, constantValue := 0 }, { name := "UTF16", type := .byte, accessFlags := 24, slot := 6, constantValue := 0 }]
  methods := #[k9m0, k9m1, k9m2, k9m3, k9m4, k9m5]
  instanceTypes := #[(.array .byte), .byte, .int, .boolean]
  staticTypes := #[.long, .boolean, (.array (.object "java/io/ObjectStreamField")), .char, (.object "java/util/Comparator"), .byte, .byte]
  resolved := Array.replicate 1451 none
  statics := some 0 }

def pool10 : Array CpInfo := pool [(4, .class_ 6), (1, u "java/lang/Object"), (0, u "<init>"), (0, u "()V"), (5, .class_ 16), (1, u "java/lang/StringLatin1"), (21, .methodref 39 40), (0, .class_ 41), (0, .nameAndType 42 43), (0, u "java/lang/Math"), (0, u "min"), (0, u "(II)I"), (44, .methodref 14 89), (0, .nameAndType 90 91), (0, u "canEncode"), (0, u "(I)Z"), (0, .methodref 39 93), (0, .nameAndType 94 43), (0, u "max"), (0, .methodref 14 96), (0, .nameAndType 97 98), (0, u "indexOfChar"), (0, u "([BIII)I"), (2, u "indexOf"), (19, u "$assertionsDisabled"), (0, u "Z"), (98, .class_ 223), (1, u "java/lang/StringLatin1$LinesSpliterator"), (166, .class_ 391), (0, u "java/lang/StringLatin1$CharsSpliterator")] 3

def k10m0 : Method := { name := "<init>", desc := "()V", sig := { parameters := [], returnType := none }, accessFlags := 0, code := none }
def k10c1 : Code := { maxStack := 2, maxLocals := 1, code := jdk_43_method_4_code, exceptionTable := #[], attributes := #[] }
def k10m1 : Method := { name := "canEncode", desc := "(I)Z", sig := { parameters := [.int], returnType := some .boolean }, accessFlags := 9, code := some k10c1 }
def k10c2 : Code := { maxStack := 4, maxLocals := 4, code := jdk_43_method_22_code, exceptionTable := #[], attributes := #[] }
def k10m2 : Method := { name := "indexOf", desc := "([BIII)I", sig := { parameters := [(.array .byte), .int, .int, .int], returnType := some .int }, accessFlags := 9, code := some k10c2 }
def k10c3 : Code := { maxStack := 2, maxLocals := 6, code := jdk_43_method_23_code, exceptionTable := #[], attributes := #[] }
def k10m3 : Method := { name := "indexOfChar", desc := "([BIII)I", sig := { parameters := [(.array .byte), .int, .int, .int], returnType := some .int }, accessFlags := 10, code := some k10c3 }
/-- java/lang/StringLatin1 -/
def k10 : Class := { plain "java/lang/StringLatin1" (some 0) with
  accessFlags := 48
  interfaces := #[]
  cf := some (fileOf pool10 14 #[.nestMembers #[390, 221]] #[{ accessFlags := 0, nameIndex := 7, descriptorIndex := 8, attributes := #[] }, { accessFlags := 9, nameIndex := 90, descriptorIndex := 91, attributes := #[] }, { accessFlags := 9, nameIndex := 101, descriptorIndex := 98, attributes := #[] }, { accessFlags := 10, nameIndex := 97, descriptorIndex := 98, attributes := #[] }] 48 4 #[] #[{ accessFlags := 4120, nameIndex := 121, descriptorIndex := 122, attributes := #[] }])
  fields := #[{ name := "$assertionsDisabled", type := .boolean, accessFlags := 4120, slot := 0, constantValue := 0 }]
  methods := #[k10m0, k10m1, k10m2, k10m3]
  instanceTypes := #[]
  staticTypes := #[.boolean]
  resolved := Array.replicate 395 none
  statics := none }

def pool11 : Array CpInfo := pool [(1, .class_ 2), (0, u "java/lang/Math"), (1, .class_ 6), (1, u "java/lang/Object"), (0, u "<init>"), (0, u "()V"), (89, .class_ 100), (1, u "java/lang/Math$RandomNumberGeneratorHolder"), (71, u "negativeZeroFloatBits"), (0, u "J"), (2, u "negativeZeroDoubleBits"), (21, u "max"), (2, u "min"), (43, u "$assertionsDisabled"), (0, u "Z"), (88, u "(II)I"), (2, u "twoToTheDoubleScaleDown"), (0, u "D"), (4, u "twoToTheDoubleScaleUp"), (9, u "E"), (3, u "PI"), (2, u "TAU"), (2, u "DEGREES_TO_RADIANS"), (0, u "RADIANS_TO_DEGREES")] 94

def k11m0 : Method := { name := "<init>", desc := "()V", sig := { parameters := [], returnType := none }, accessFlags := 2, code := none }
def k11c1 : Code := { maxStack := 2, maxLocals := 2, code := jdk_29_method_65_code, exceptionTable := #[], attributes := #[] }
def k11m1 : Method := { name := "max", desc := "(II)I", sig := { parameters := [.int, .int], returnType := some .int }, accessFlags := 9, code := some k11c1 }
def k11c2 : Code := { maxStack := 2, maxLocals := 2, code := jdk_29_method_69_code, exceptionTable := #[], attributes := #[] }
def k11m2 : Method := { name := "min", desc := "(II)I", sig := { parameters := [.int, .int], returnType := some .int }, accessFlags := 9, code := some k11c2 }
/-- java/lang/Math -/
def k11 : Class := { plain "java/lang/Math" (some 0) with
  accessFlags := 49
  interfaces := #[]
  cf := some (fileOf pool11 1 #[.nestMembers #[98]] #[{ accessFlags := 2, nameIndex := 7, descriptorIndex := 8, attributes := #[] }, { accessFlags := 9, nameIndex := 198, descriptorIndex := 335, attributes := #[] }, { accessFlags := 9, nameIndex := 201, descriptorIndex := 335, attributes := #[] }] 49 4 #[] #[{ accessFlags := 25, nameIndex := 354, descriptorIndex := 339, attributes := #[] }, { accessFlags := 25, nameIndex := 358, descriptorIndex := 339, attributes := #[] }, { accessFlags := 25, nameIndex := 361, descriptorIndex := 339, attributes := #[] }, { accessFlags := 26, nameIndex := 364, descriptorIndex := 339, attributes := #[] }, { accessFlags := 26, nameIndex := 365, descriptorIndex := 339, attributes := #[] }, { accessFlags := 26, nameIndex := 172, descriptorIndex := 173, attributes := #[] }, { accessFlags := 26, nameIndex := 176, descriptorIndex := 173, attributes := #[] }, { accessFlags := 8, nameIndex := 344, descriptorIndex := 339, attributes := #[] }, { accessFlags := 8, nameIndex := 338, descriptorIndex := 339, attributes := #[] }, { accessFlags := 4120, nameIndex := 245, descriptorIndex := 246, attributes := #[] }])
  fields := #[{ name := "E", type := .double, accessFlags := 25, slot := 0, constantValue := 0 }, { name := "PI", type := .double, accessFlags := 25, slot := 1, constantValue := 0 }, { name := "TAU", type := .double, accessFlags := 25, slot := 2, constantValue := 0 }, { name := "DEGREES_TO_RADIANS", type := .double, accessFlags := 26, slot := 3, constantValue := 0 }, { name := "RADIANS_TO_DEGREES", type := .double, accessFlags := 26, slot := 4, constantValue := 0 }, { name := "negativeZeroFloatBits", type := .long, accessFlags := 26, slot := 5, constantValue := 0 }, { name := "negativeZeroDoubleBits", type := .long, accessFlags := 26, slot := 6, constantValue := 0 }, { name := "twoToTheDoubleScaleUp", type := .double, accessFlags := 8, slot := 7, constantValue := 0 }, { name := "twoToTheDoubleScaleDown", type := .double, accessFlags := 8, slot := 8, constantValue := 0 }, { name := "$assertionsDisabled", type := .boolean, accessFlags := 4120, slot := 9, constantValue := 0 }]
  methods := #[k11m0, k11m1, k11m2]
  instanceTypes := #[]
  staticTypes := #[.double, .double, .double, .double, .double, .long, .long, .double, .double, .boolean]
  resolved := Array.replicate 460 none
  statics := none }

def pool12 : Array CpInfo := pool [(2, .class_ 4), (1, u "java/lang/Object"), (0, u "<init>"), (0, u "()V"), (17, .class_ 26), (1, u "jdk/internal/util/Preconditions"), (28, .class_ 56), (0, u "jdk/internal/util/Preconditions$4"), (57, .class_ 115), (0, u "jdk/internal/util/Preconditions$1"), (7, u "SIOOBE_FORMATTER"), (0, u "Ljava/util/function/BiFunction;"), (0, .class_ 126), (0, u "jdk/internal/util/Preconditions$2"), (3, u "AIOOBE_FORMATTER"), (0, .class_ 132), (0, u "jdk/internal/util/Preconditions$3"), (3, u "IOOBE_FORMATTER")] 57

def k12m0 : Method := { name := "<init>", desc := "()V", sig := { parameters := [], returnType := none }, accessFlags := 1, code := none }
/-- jdk/internal/util/Preconditions -/
def k12 : Class := { plain "jdk/internal/util/Preconditions" (some 0) with
  accessFlags := 33
  interfaces := #[]
  cf := some (fileOf pool12 24 #[.nestMembers #[55, 131, 125, 114]] #[{ accessFlags := 1, nameIndex := 5, descriptorIndex := 6, attributes := #[] }] 33 2 #[] #[{ accessFlags := 25, nameIndex := 123, descriptorIndex := 124, attributes := #[] }, { accessFlags := 25, nameIndex := 130, descriptorIndex := 124, attributes := #[] }, { accessFlags := 25, nameIndex := 136, descriptorIndex := 124, attributes := #[] }])
  fields := #[{ name := "SIOOBE_FORMATTER", type := (.object "java/util/function/BiFunction"), accessFlags := 25, slot := 0, constantValue := 0 }, { name := "AIOOBE_FORMATTER", type := (.object "java/util/function/BiFunction"), accessFlags := 25, slot := 1, constantValue := 0 }, { name := "IOOBE_FORMATTER", type := (.object "java/util/function/BiFunction"), accessFlags := 25, slot := 2, constantValue := 0 }]
  methods := #[k12m0]
  instanceTypes := #[]
  staticTypes := #[(.object "java/util/function/BiFunction"), (.object "java/util/function/BiFunction"), (.object "java/util/function/BiFunction")]
  resolved := Array.replicate 194 none
  statics := some 1 }

def pool13 : Array CpInfo := pool [(9, u "<init>"), (6, .class_ 18), (1, u "java/lang/Object"), (0, u "()V"), (1, .class_ 23), (1, u "jdk/internal/util/ArraysSupport"), (0, u "LOG2_ARRAY_LONG_INDEX_SCALE"), (0, u "I"), (2, u "U"), (0, u "Ljdk/internal/misc/Unsafe;"), (8, u "BIG_ENDIAN"), (0, u "Z"), (8, u "LOG2_BYTE_BIT_SIZE"), (4, u "LOG2_ARRAY_INT_INDEX_SCALE"), (54, u "JLA"), (0, u "Ljdk/internal/access/JavaLangAccess;"), (11, u "LOG2_ARRAY_BOOLEAN_INDEX_SCALE"), (9, u "LOG2_ARRAY_BYTE_INDEX_SCALE"), (5, u "LOG2_ARRAY_CHAR_INDEX_SCALE"), (5, u "LOG2_ARRAY_SHORT_INDEX_SCALE"), (18, u "LOG2_ARRAY_FLOAT_INDEX_SCALE"), (24, u "LOG2_ARRAY_DOUBLE_INDEX_SCALE"), (89, u "T_BOOLEAN"), (2, u "T_CHAR"), (1, u "T_FLOAT"), (1, u "T_DOUBLE"), (1, u "T_BYTE"), (1, u "T_SHORT"), (1, u "T_INT"), (1, u "T_LONG"), (1, u "SOFT_MAX_ARRAY_LENGTH")] 83

def k13m0 : Method := { name := "<init>", desc := "()V", sig := { parameters := [], returnType := none }, accessFlags := 2, code := none }
/-- jdk/internal/util/ArraysSupport -/
def k13 : Class := { plain "jdk/internal/util/ArraysSupport" (some 0) with
  accessFlags := 33
  interfaces := #[]
  cf := some (fileOf pool13 21 #[] #[{ accessFlags := 2, nameIndex := 9, descriptorIndex := 19, attributes := #[] }] 33 16 #[] #[{ accessFlags := 24, nameIndex := 28, descriptorIndex := 29, attributes := #[] }, { accessFlags := 26, nameIndex := 38, descriptorIndex := 39, attributes := #[] }, { accessFlags := 25, nameIndex := 121, descriptorIndex := 25, attributes := #[] }, { accessFlags := 25, nameIndex := 131, descriptorIndex := 25, attributes := #[] }, { accessFlags := 25, nameIndex := 137, descriptorIndex := 25, attributes := #[] }, { accessFlags := 25, nameIndex := 143, descriptorIndex := 25, attributes := #[] }, { accessFlags := 25, nameIndex := 53, descriptorIndex := 25, attributes := #[] }, { accessFlags := 25, nameIndex := 24, descriptorIndex := 25, attributes := #[] }, { accessFlags := 25, nameIndex := 162, descriptorIndex := 25, attributes := #[] }, { accessFlags := 25, nameIndex := 187, descriptorIndex := 25, attributes := #[] }, { accessFlags := 26, nameIndex := 48, descriptorIndex := 25, attributes := #[] }, { accessFlags := 25, nameIndex := 277, descriptorIndex := 25, attributes := #[] }, { accessFlags := 25, nameIndex := 280, descriptorIndex := 25, attributes := #[] }, { accessFlags := 25, nameIndex := 282, descriptorIndex := 25, attributes := #[] }, { accessFlags := 25, nameIndex := 284, descriptorIndex := 25, attributes := #[] }, { accessFlags := 25, nameIndex := 286, descriptorIndex := 25, attributes := #[] }, { accessFlags := 25, nameIndex := 288, descriptorIndex := 25, attributes := #[] }, { accessFlags := 25, nameIndex := 290, descriptorIndex := 25, attributes := #[] }, { accessFlags := 25, nameIndex := 292, descriptorIndex := 25, attributes := #[] }, { accessFlags := 26, nameIndex := 108, descriptorIndex := 109, attributes := #[] }, { accessFlags := 25, nameIndex := 294, descriptorIndex := 25, attributes := #[] }])
  fields := #[{ name := "U", type := (.object "jdk/internal/misc/Unsafe"), accessFlags := 24, slot := 0, constantValue := 0 }, { name := "BIG_ENDIAN", type := .boolean, accessFlags := 26, slot := 1, constantValue := 0 }, { name := "LOG2_ARRAY_BOOLEAN_INDEX_SCALE", type := .int, accessFlags := 25, slot := 2, constantValue := 0 }, { name := "LOG2_ARRAY_BYTE_INDEX_SCALE", type := .int, accessFlags := 25, slot := 3, constantValue := 0 }, { name := "LOG2_ARRAY_CHAR_INDEX_SCALE", type := .int, accessFlags := 25, slot := 4, constantValue := 0 }, { name := "LOG2_ARRAY_SHORT_INDEX_SCALE", type := .int, accessFlags := 25, slot := 5, constantValue := 0 }, { name := "LOG2_ARRAY_INT_INDEX_SCALE", type := .int, accessFlags := 25, slot := 6, constantValue := 0 }, { name := "LOG2_ARRAY_LONG_INDEX_SCALE", type := .int, accessFlags := 25, slot := 7, constantValue := 0 }, { name := "LOG2_ARRAY_FLOAT_INDEX_SCALE", type := .int, accessFlags := 25, slot := 8, constantValue := 0 }, { name := "LOG2_ARRAY_DOUBLE_INDEX_SCALE", type := .int, accessFlags := 25, slot := 9, constantValue := 0 }, { name := "LOG2_BYTE_BIT_SIZE", type := .int, accessFlags := 26, slot := 10, constantValue := 0 }, { name := "T_BOOLEAN", type := .int, accessFlags := 25, slot := 11, constantValue := 0 }, { name := "T_CHAR", type := .int, accessFlags := 25, slot := 12, constantValue := 0 }, { name := "T_FLOAT", type := .int, accessFlags := 25, slot := 13, constantValue := 0 }, { name := "T_DOUBLE", type := .int, accessFlags := 25, slot := 14, constantValue := 0 }, { name := "T_BYTE", type := .int, accessFlags := 25, slot := 15, constantValue := 0 }, { name := "T_SHORT", type := .int, accessFlags := 25, slot := 16, constantValue := 0 }, { name := "T_INT", type := .int, accessFlags := 25, slot := 17, constantValue := 0 }, { name := "T_LONG", type := .int, accessFlags := 25, slot := 18, constantValue := 0 }, { name := "JLA", type := (.object "jdk/internal/access/JavaLangAccess"), accessFlags := 26, slot := 19, constantValue := 0 }, { name := "SOFT_MAX_ARRAY_LENGTH", type := .int, accessFlags := 25, slot := 20, constantValue := 0 }]
  methods := #[k13m0]
  instanceTypes := #[]
  staticTypes := #[(.object "jdk/internal/misc/Unsafe"), .boolean, .int, .int, .int, .int, .int, .int, .int, .int, .int, .int, .int, .int, .int, .int, .int, .int, .int, (.object "jdk/internal/access/JavaLangAccess"), .int]
  resolved := Array.replicate 378 none
  statics := none }

def pool14 : Array CpInfo := pool [(1, u "java/lang/Cloneable"), (0, .class_ 1), (0, u "java/lang/Object"), (0, .class_ 3)] 3

/-- java/lang/Cloneable -/
def k14 : Class := { plain "java/lang/Cloneable" (some 0) with
  accessFlags := 1537
  interfaces := #[]
  cf := some (fileOf pool14 2 #[] #[] 1537 4 #[] #[])
  fields := #[]
  methods := #[]
  instanceTypes := #[]
  staticTypes := #[]
  resolved := Array.replicate 8 none
  statics := none }

/-- the primitive byte -/
def k15 : Class := { plain "byte" none with kind := .primitive 'B', accessFlags := 0x411 }
/-- [B -/
def k16 : Class := { plain "[B" (some 0) with kind := .array 15 .byte, interfaces := #[14, 4], accessFlags := 1041 }

/-- the primitive int -/
def k17 : Class := { plain "int" none with kind := .primitive 'I', accessFlags := 0x411 }
/-- [I -/
def k18 : Class := { plain "[I" (some 0) with kind := .array 17 .int, interfaces := #[14, 4], accessFlags := 1041 }

def heap : Heap := #[{ cls := 9, slots := #[.long 0, .int 1, .null, .int 0, .null, .int 0, .int 0], vm := .statics 9 },
  { cls := 12, slots := #[.null, .null, .null], vm := .statics 12 }]
def classes : Array Class := #[k0, k1, k2, k3, k4, k5, k6, k7, k8, k9, k10, k11, k12, k13, k14, k15, k16, k17, k18]
def interned : List (Array UInt16 × Addr) := []
def slotsUsed : Nat := 10
def theMethod : MethodId := ⟨1, 1⟩
def args0 : Array Value := #[.int 65, .int 1]
def aboutOver (below : List Frame) : State where
  vm := { classes := classes, interned := interned.toArray }
  heap := heap
  slotsUsed := slotsUsed
  threads := #[{ frames := .invoking theMethod args0 :: below }]
def below0 : List Frame := [.native { method := ⟨0, 0⟩, args := #[] }]
def about1 : State := aboutOver below0
def p0 : Program := .bare "" "" ""
def e0 : Env := launch0.env 0 0 0
theorem w_frames : about1.frames = Frame.invoking theMethod args0 :: below0 := rfl
set_option maxRecDepth 65536 in
theorem w_args : argsFit about1.vm theMethod args0 = true := by decide +kernel
set_option maxRecDepth 65536 in
theorem w_heap : heapFits about1 = true := by decide +kernel
set_option maxRecDepth 65536 in
theorem w_runnable : about1.curStatus? = some .runnable := by decide +kernel
set_option maxRecDepth 65536 in
theorem w_alone : about1.alone = true := by decide +kernel
set_option maxRecDepth 65536 in
theorem w_named : about1.methodNamed? x = some theMethod := by decide +kernel
set_option maxRecDepth 65536 in
theorem w_hears : about1.hears theMethod below0 = true := by decide +kernel
set_option maxRecDepth 65536 in
theorem w_ripe : about1.ripe theMethod args0 below0 = true := by decide +kernel
theorem w_running : about1.status = .running := rfl
set_option maxRecDepth 65536 in
theorem w_room : about1.hasRoom e0.platform room_1 = true :=
  launch0.hasRoom_least _ room_1 (by decide +kernel) (by decide +kernel) (by decide +kernel) (by decide +kernel) (by decide +kernel) (by decide +kernel)
theorem allAtoms_all (ts : List Jvm.Cond) (a : Array Jvm.Value) (st : Jvm.State) : (allAtoms ts).before a st = ts.all (fun c => c.before a st) := by
  induction ts with
  | nil => rfl
  | cons c t ih =>
    show (Jvm.Cond.and c (allAtoms t)).before a st = _
    rw [Jvm.Cond.before_and, ih, List.all_cons]
def words1 : List Jvm.Cond := Jvm.Cond.code x code maxLocals ret :: tables_1
/-- a 'code' word, met by the world's own term for the bytes: nothing is compared byte by byte -/
theorem code_word {y : MethodName} {bytes : ByteArray} {mx : Nat} {rt : Option FieldType} {a : Array Value} {s : State} {m : MethodId} {meth : Method} {c : Code} (h1 : s.methodNamed? y = some m) (h2 : s.vm.method? m = some meth) (h3 : meth.code = some c) (h4 : c.code = bytes)
    (h5 : (c.maxLocals == mx && c.exceptionTable.isEmpty && decide (c.maxStack ≤ mostOperands) && decide (meth.sig.returnType = rt) && !meth.locks && decide (parseMethodDescriptor y.desc = some meth.sig)) = true) : (Jvm.Cond.code y bytes mx rt).before a s = true := by
  simp only [Bool.and_eq_true, beq_iff_eq, Bool.not_eq_true', decide_eq_true_eq] at h5
  obtain ⟨⟨⟨⟨⟨g1, g2⟩, g3⟩, g4⟩, g5⟩, g6⟩ := h5
  simp [Cond.before, Cond.holds, Cond.value, h1, h2, h3, h4, g1, g2, g3, g4, g5, g6]
def isCode : Jvm.Cond → Bool
  | .code _ _ _ _ => true
  | _ => false
theorem all_split {L : List Jvm.Cond} {P : Jvm.Cond → Bool} (h1 : L.all (fun c => isCode c || P c) = true) (h2 : ∀ c ∈ L.filter isCode, P c = true) : L.all P = true := by
  refine List.all_eq_true.mpr fun c hc => ?_
  have h := List.all_eq_true.mp h1 c hc
  rcases Bool.eq_false_or_eq_true (isCode c) with hi | hi
  · exact h2 c (List.mem_filter.mpr ⟨hc, hi⟩)
  · simpa [hi] using h
set_option maxRecDepth 65536 in
theorem w_c0 : (Jvm.Cond.code x code maxLocals ret).before args0 about1 = true := code_word (m := ⟨1, 1⟩) (meth := k1m1) (c := k1c1) (by decide +kernel) rfl rfl rfl (by decide +kernel)
set_option maxRecDepth 65536 in
theorem w_c1 : (Jvm.Cond.code ({ cls := "com/example/archerfish/archerfish/model/UriReference", name := "isUnreserved", desc := "(C)Z" } : Jvm.MethodName) prog_46_method_4_code (1 : Nat) (Option.some Jvm.ClassFile.FieldType.boolean)).before args0 about1 = true := code_word (m := ⟨3, 0⟩) (meth := k3m0) (c := k3c0) (by decide +kernel) rfl rfl rfl (by decide +kernel)
set_option maxRecDepth 65536 in
theorem w_c2 : (Jvm.Cond.code ({ cls := "java/lang/String", name := "indexOf", desc := "(I)I" } : Jvm.MethodName) jdk_42_method_79_code (2 : Nat) (Option.some Jvm.ClassFile.FieldType.int)).before args0 about1 = true := code_word (m := ⟨9, 2⟩) (meth := k9m2) (c := k9c2) (by decide +kernel) rfl rfl rfl (by decide +kernel)
set_option maxRecDepth 65536 in
theorem w_c3 : (Jvm.Cond.code ({ cls := "java/lang/String", name := "indexOf", desc := "(II)I" } : Jvm.MethodName) jdk_42_method_80_code (3 : Nat) (Option.some Jvm.ClassFile.FieldType.int)).before args0 about1 = true := code_word (m := ⟨9, 3⟩) (meth := k9m3) (c := k9c3) (by decide +kernel) rfl rfl rfl (by decide +kernel)
set_option maxRecDepth 65536 in
theorem w_c4 : (Jvm.Cond.code ({ cls := "java/lang/String", name := "isLatin1", desc := "()Z" } : Jvm.MethodName) jdk_42_method_154_code (1 : Nat) (Option.some Jvm.ClassFile.FieldType.boolean)).before args0 about1 = true := code_word (m := ⟨9, 5⟩) (meth := k9m5) (c := k9c5) (by decide +kernel) rfl rfl rfl (by decide +kernel)
set_option maxRecDepth 65536 in
theorem w_c5 : (Jvm.Cond.code ({ cls := "java/lang/String", name := "length", desc := "()I" } : Jvm.MethodName) jdk_42_method_54_code (1 : Nat) (Option.some Jvm.ClassFile.FieldType.int)).before args0 about1 = true := code_word (m := ⟨9, 1⟩) (meth := k9m1) (c := k9c1) (by decide +kernel) rfl rfl rfl (by decide +kernel)
set_option maxRecDepth 65536 in
theorem w_c6 : (Jvm.Cond.code ({ cls := "java/lang/String", name := "coder", desc := "()B" } : Jvm.MethodName) jdk_42_method_152_code (1 : Nat) (Option.some Jvm.ClassFile.FieldType.byte)).before args0 about1 = true := code_word (m := ⟨9, 4⟩) (meth := k9m4) (c := k9c4) (by decide +kernel) rfl rfl rfl (by decide +kernel)
set_option maxRecDepth 65536 in
theorem w_c7 : (Jvm.Cond.code ({ cls := "java/lang/StringLatin1", name := "indexOf", desc := "([BIII)I" } : Jvm.MethodName) jdk_43_method_22_code (4 : Nat) (Option.some Jvm.ClassFile.FieldType.int)).before args0 about1 = true := code_word (m := ⟨10, 2⟩) (meth := k10m2) (c := k10c2) (by decide +kernel) rfl rfl rfl (by decide +kernel)
set_option maxRecDepth 65536 in
theorem w_c8 : (Jvm.Cond.code ({ cls := "java/lang/StringLatin1", name := "canEncode", desc := "(I)Z" } : Jvm.MethodName) jdk_43_method_4_code (1 : Nat) (Option.some Jvm.ClassFile.FieldType.boolean)).before args0 about1 = true := code_word (m := ⟨10, 1⟩) (meth := k10m1) (c := k10c1) (by decide +kernel) rfl rfl rfl (by decide +kernel)
set_option maxRecDepth 65536 in
theorem w_c9 : (Jvm.Cond.code ({ cls := "java/lang/Math", name := "max", desc := "(II)I" } : Jvm.MethodName) jdk_29_method_65_code (2 : Nat) (Option.some Jvm.ClassFile.FieldType.int)).before args0 about1 = true := code_word (m := ⟨11, 1⟩) (meth := k11m1) (c := k11c1) (by decide +kernel) rfl rfl rfl (by decide +kernel)
set_option maxRecDepth 65536 in
theorem w_c10 : (Jvm.Cond.code ({ cls := "java/lang/Math", name := "min", desc := "(II)I" } : Jvm.MethodName) jdk_29_method_69_code (2 : Nat) (Option.some Jvm.ClassFile.FieldType.int)).before args0 about1 = true := code_word (m := ⟨11, 2⟩) (meth := k11m2) (c := k11c2) (by decide +kernel) rfl rfl rfl (by decide +kernel)
set_option maxRecDepth 65536 in
theorem w_c11 : (Jvm.Cond.code ({ cls := "java/lang/StringLatin1", name := "indexOfChar", desc := "([BIII)I" } : Jvm.MethodName) jdk_43_method_23_code (6 : Nat) (Option.some Jvm.ClassFile.FieldType.int)).before args0 about1 = true := code_word (m := ⟨10, 3⟩) (meth := k10m3) (c := k10c3) (by decide +kernel) rfl rfl rfl (by decide +kernel)
set_option maxRecDepth 65536 in
theorem w_c12 : (Jvm.Cond.code ({ cls := "com/example/archerfish/archerfish/model/UriReferenceIsUnreservedPinLaw", name := "reference", desc := "(C)Z" } : Jvm.MethodName) method_3_code (2 : Nat) (Option.some Jvm.ClassFile.FieldType.boolean)).before args0 about1 = true := code_word (m := ⟨1, 2⟩) (meth := k1m2) (c := k1c2) (by decide +kernel) rfl rfl rfl (by decide +kernel)
def codes1 : List Jvm.Cond := [Jvm.Cond.code x code maxLocals ret, Jvm.Cond.code ({ cls := "com/example/archerfish/archerfish/model/UriReference", name := "isUnreserved", desc := "(C)Z" } : Jvm.MethodName) prog_46_method_4_code (1 : Nat) (Option.some Jvm.ClassFile.FieldType.boolean), Jvm.Cond.code ({ cls := "java/lang/String", name := "indexOf", desc := "(I)I" } : Jvm.MethodName) jdk_42_method_79_code (2 : Nat) (Option.some Jvm.ClassFile.FieldType.int), Jvm.Cond.code ({ cls := "java/lang/String", name := "indexOf", desc := "(II)I" } : Jvm.MethodName) jdk_42_method_80_code (3 : Nat) (Option.some Jvm.ClassFile.FieldType.int), Jvm.Cond.code ({ cls := "java/lang/String", name := "isLatin1", desc := "()Z" } : Jvm.MethodName) jdk_42_method_154_code (1 : Nat) (Option.some Jvm.ClassFile.FieldType.boolean), Jvm.Cond.code ({ cls := "java/lang/String", name := "length", desc := "()I" } : Jvm.MethodName) jdk_42_method_54_code (1 : Nat) (Option.some Jvm.ClassFile.FieldType.int), Jvm.Cond.code ({ cls := "java/lang/String", name := "coder", desc := "()B" } : Jvm.MethodName) jdk_42_method_152_code (1 : Nat) (Option.some Jvm.ClassFile.FieldType.byte), Jvm.Cond.code ({ cls := "java/lang/StringLatin1", name := "indexOf", desc := "([BIII)I" } : Jvm.MethodName) jdk_43_method_22_code (4 : Nat) (Option.some Jvm.ClassFile.FieldType.int), Jvm.Cond.code ({ cls := "java/lang/StringLatin1", name := "canEncode", desc := "(I)Z" } : Jvm.MethodName) jdk_43_method_4_code (1 : Nat) (Option.some Jvm.ClassFile.FieldType.boolean), Jvm.Cond.code ({ cls := "java/lang/Math", name := "max", desc := "(II)I" } : Jvm.MethodName) jdk_29_method_65_code (2 : Nat) (Option.some Jvm.ClassFile.FieldType.int), Jvm.Cond.code ({ cls := "java/lang/Math", name := "min", desc := "(II)I" } : Jvm.MethodName) jdk_29_method_69_code (2 : Nat) (Option.some Jvm.ClassFile.FieldType.int), Jvm.Cond.code ({ cls := "java/lang/StringLatin1", name := "indexOfChar", desc := "([BIII)I" } : Jvm.MethodName) jdk_43_method_23_code (6 : Nat) (Option.some Jvm.ClassFile.FieldType.int), Jvm.Cond.code ({ cls := "com/example/archerfish/archerfish/model/UriReferenceIsUnreservedPinLaw", name := "reference", desc := "(C)Z" } : Jvm.MethodName) method_3_code (2 : Nat) (Option.some Jvm.ClassFile.FieldType.boolean)]
set_option maxRecDepth 65536 in
theorem codes_eq : words1.filter isCode = codes1 := rfl
theorem w_codes : ∀ c ∈ words1.filter isCode, c.before args0 about1 = true := by
  rw [codes_eq]
  intro c hc
  simp only [codes1, List.mem_cons, List.not_mem_nil, or_false] at hc
  rcases hc with rfl | rfl | rfl | rfl | rfl | rfl | rfl | rfl | rfl | rfl | rfl | rfl | rfl
  · exact w_c0
  · exact w_c1
  · exact w_c2
  · exact w_c3
  · exact w_c4
  · exact w_c5
  · exact w_c6
  · exact w_c7
  · exact w_c8
  · exact w_c9
  · exact w_c10
  · exact w_c11
  · exact w_c12
set_option maxRecDepth 65536 in
theorem w_t1 : (words1.take 24).all (fun c => isCode c || c.before args0 about1) = true := by decide +kernel
set_option maxRecDepth 65536 in
theorem w_t2 : ((words1.drop 24).take 24).all (fun c => isCode c || c.before args0 about1) = true := by decide +kernel
set_option maxRecDepth 65536 in
theorem w_t3 : ((words1.drop 24).drop 24).all (fun c => isCode c || c.before args0 about1) = true := by decide +kernel
theorem w_tables : (allAtoms (Jvm.Cond.code x code maxLocals ret :: tables_1)).before args0 about1 = true := by
  rw [allAtoms_all]
  show words1.all (fun c => c.before args0 about1) = true
  refine all_split ?_ w_codes
  rw [← List.take_append_drop 24 words1, List.all_append, w_t1, ← List.take_append_drop 24 (words1.drop 24), List.all_append, w_t2, w_t3]
  rfl
set_option maxRecDepth 65536 in
theorem w_rest : rest_1_c.before args0 about1 = true := by decide +kernel
set_option maxRecDepth 65536 in
theorem w_case : (Jvm.Cond.and given_1 narrow_1).before args0 about1 = true := by decide +kernel
set_option maxRecDepth 65536 in
theorem w_consts : constsHeld consts_1 about1 := Jvm.Lit.constsHeldB_iff.mp (by decide +kernel)
theorem w_applies : (headSpec (Jvm.Cond.code x code maxLocals ret :: tables_1) room_1).applies x e0.platform about1 = true :=
  (Spec.applies_iff w_frames).mpr ⟨w_running, w_runnable, w_alone, w_named, w_hears, w_ripe, w_room, w_tables⟩
theorem atStart : AtStart classFile x code maxLocals ret World_1 tables_1 room_1 Calls_1 rest_1 Pre_1 launch0 p0 e0 about1 theMethod args0 below0 :=
  ⟨lists_1, trivial, launch0.admits_env _ _ _, launch0.least_env, fairChoices_fair.cas, fairChoices_fair.clock, w_frames, w_args, w_heap, w_applies, ⟨w_consts, trivial⟩, w_rest, w_case⟩
end start1
theorem witness_1 : WitnessClaimed_1 := ⟨start1.p0, start1.e0, start1.about1, start1.theMethod, start1.args0, start1.below0, start1.atStart⟩
end Jvm.Pilot.@@N@@
