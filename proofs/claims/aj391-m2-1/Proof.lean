import JvmDerived
import JvmDerived.Pilot.@@N@@Statement
import JvmDerived.Pilot.@@N@@Code
set_option linter.unusedVariables false
set_option linter.unusedSimpArgs false
namespace Jvm.RoadKit
open Sem ClassFile Op Lib Jvm.Stand Jvm.Free Jvm.LawKit
section New
variable {p : Program} {l : Launch} {e : Env} {R : Room} {s : State} {m : MethodId} {args : Array Value} {below : List Frame} {meth : Method} {c : Code} {T : State} {locs : List Loc} {cells slots : Nat}
theorem retI (X : Stand p l e R s m args below meth c T locs cells slots) (hx : p.tables.exec = Jvm.exec) {pc : Nat} {Ls : Array Slot} {z : Int32} {rest : List Value} (hret : meth.sig.returnType = some .int) (hd : decode c.code pc = .ok (.ireturn, 1)) {fs : List Frame}
    (hl : ∀ (f : JFrame) (acts : List Action), f.method = m → f.locked = none → f.entered = [] → (doReturn e (T.setTop f) acts (some (.int z))).1 = T.setFrames fs) : Steps p.tables e below (T.setTop (mkF m pc Ls (.int z :: rest))) (T.setFrames fs) := by
  have hm' : T.vm.method? m = some meth := X.method'
  have hn : narrow .int (.int z) = .int z := rfl
  show Steps p.tables e below (T.setTop { method := m, pc := pc, locals := Ls, stack := _ :: rest, locked := none }) _
  jvm_step X.here [X.here.top, hx, hd, hm', hret, hn]
  first | (intro acts; rw [hl _ acts rfl rfl rfl]) | rw [hl _ _ rfl rfl rfl]
  exact Steps.refl _
end New
end Jvm.RoadKit
namespace Jvm.Pilot.@@N@@
open Jvm Jvm.ClassFile Sem Op Lib Jvm.Free Jvm.Stand Jvm.LawKit Jvm.RoadKit Bundle Jvm.Pilot.@@N@@.Jvm.D
/-- whoever comes from the frame f (over T) comes from the frame f0 (over T0) -/
abbrev Go (p : Program) (e : Env) (below : List Frame) (T : State) (f : JFrame) (T0 : State) (f0 : JFrame) : Prop := ∀ t, Steps p.tables e below (T.setTop f) t → Steps p.tables e below (T0.setTop f0) t
def own_exp (n i : Int32) (m0 m1 m2 m3 : Int64) : Int64 := if i = 0 ∧ 0 < n then m0 else if i = 1 ∧ 1 < n then m1 else if i = 2 ∧ 2 < n then m2 else if i = 3 ∧ 3 < n then m3 else 0
section Nums
variable {n i : Int32} {m0 m1 m2 m3 : Int64}
theorem own_e0 (c : i = 0) (d : 0 < n) : own_exp n i m0 m1 m2 m3 = m0 := if_pos ⟨c, d⟩
theorem own_e1 (c : i = 1) (d : 1 < n) : own_exp n i m0 m1 m2 m3 = m1 := by
  unfold own_exp; rw [if_neg (fun h => absurd (c.symm.trans h.1) (by decide)), if_pos ⟨c, d⟩]
theorem own_e2 (c : i = 2) (d : 2 < n) : own_exp n i m0 m1 m2 m3 = m2 := by
  unfold own_exp; rw [if_neg (fun h => absurd (c.symm.trans h.1) (by decide)), if_neg (fun h => absurd (c.symm.trans h.1) (by decide)), if_pos ⟨c, d⟩]
theorem own_e3 (c : i = 3) (d : 3 < n) : own_exp n i m0 m1 m2 m3 = m3 := by
  unfold own_exp; rw [if_neg (fun h => absurd (c.symm.trans h.1) (by decide)), if_neg (fun h => absurd (c.symm.trans h.1) (by decide)), if_neg (fun h => absurd (c.symm.trans h.1) (by decide)), if_pos ⟨c, d⟩]
theorem own_ez (h0 : ¬ (i = 0 ∧ 0 < n)) (h1 : ¬ (i = 1 ∧ 1 < n)) (h2 : ¬ (i = 2 ∧ 2 < n)) (h3 : ¬ (i = 3 ∧ 3 < n)) : own_exp n i m0 m1 m2 m3 = 0 := by
  unfold own_exp; rw [if_neg h0, if_neg h1, if_neg h2, if_neg h3]
theorem own_small (h0 : ¬ i < 0) (h1 : i < n) (h4 : n.toInt ≤ 4) : i = 0 ∨ i = 1 ∨ i = 2 ∨ i = 3 := by
  have e0 : (0 : Int32).toInt = 0 := rfl
  have e1 : (1 : Int32).toInt = 1 := rfl
  have e2 : (2 : Int32).toInt = 2 := rfl
  have e3 : (3 : Int32).toInt = 3 := rfl
  simp only [← Int32.toInt_inj, Int32.lt_iff_toInt_lt] at *
  omega
theorem own_get (h0 : ¬ i < 0) (h1 : i < n) (h4 : n.toInt ≤ 4) : [Value.long m0, .long m1, .long m2, .long m3].getD i.toNatClampNeg (.long 0) = .long (own_exp n i m0 m1 m2 m3) := by
  rcases own_small h0 h1 h4 with rfl | rfl | rfl | rfl
  · rw [own_e0 rfl h1]; rfl
  · rw [own_e1 rfl h1]; rfl
  · rw [own_e2 rfl h1]; rfl
  · rw [own_e3 rfl h1]; rfl
theorem own_out (h : i < 0 ∨ ¬ i < n) : own_exp n i m0 m1 m2 m3 = 0 := by
  have e0 : (0 : Int32).toInt = 0 := rfl
  have e1 : (1 : Int32).toInt = 1 := rfl
  have e2 : (2 : Int32).toInt = 2 := rfl
  have e3 : (3 : Int32).toInt = 3 := rfl
  apply own_ez <;> (intro q; obtain ⟨q1, q2⟩ := q; subst q1; rcases h with h | h <;> first | exact h q2 | exact absurd h (by decide))
theorem own_nat {z j : Int32} {k : Nat} (h : ¬ j < z) (hj : j.toInt = k) : z.toNatClampNeg ≤ k := by
  rw [Int32.lt_iff_toInt_lt, hj] at h
  simp only [Int32.toNatClampNeg]; omega
theorem own_up {z j j' : Int32} (h : ¬ z < j') (e : j'.toInt = j.toInt + 1) : j < z := by
  rw [Int32.lt_iff_toInt_lt] at h ⊢; omega
end Nums
theorem own_skip {Z : State} {h : Heap} {a : Addr} {k : ClassId} {ty : FieldType} {z : Int32} {vs : List Value} {dv : Value} (F : Arv Z h a k ty z vs dv) (i : Nat) (hi : z.toNatClampNeg ≤ i) (v : Value) : Arv Z h a k ty z (vs.set i v) dv := by
  obtain ⟨c, A, r1, r2, r3, H, G⟩ := F
  have e : ∀ x, x < c.slots.size → (vs.set i v).getD x dv = vs.getD x dv := fun x hx => by
    simp only [List.getD_eq_getElem?_getD]
    rw [List.getElem?_set_ne (by omega)]
  exact ⟨c, A, r1, r2, r3, fun x hx => by rw [e x hx]; exact H x hx, fun x hx => by rw [e x hx]; exact G x hx⟩
theorem d1_0 : decode prog_17_method_9_code 0 = .ok (.iload_n 1, 1) := by decide +kernel
theorem d1_1 : decode prog_17_method_9_code 1 = .ok (.ifCond .lt 15, 3) := by decide +kernel
theorem d1_4 : decode prog_17_method_9_code 4 = .ok (.iload_n 1, 1) := by decide +kernel
theorem d1_5 : decode prog_17_method_9_code 5 = .ok (.aload_n 0, 1) := by decide +kernel
theorem d1_6 : decode prog_17_method_9_code 6 = .ok (.arraylength, 1) := by decide +kernel
theorem d1_7 : decode prog_17_method_9_code 7 = .ok (.if_icmp .ge 9, 3) := by decide +kernel
theorem d1_10 : decode prog_17_method_9_code 10 = .ok (.aload_n 0, 1) := by decide +kernel
theorem d1_11 : decode prog_17_method_9_code 11 = .ok (.iload_n 1, 1) := by decide +kernel
theorem d1_12 : decode prog_17_method_9_code 12 = .ok (.laload, 1) := by decide +kernel
theorem d1_13 : decode prog_17_method_9_code 13 = .ok (.goto 4, 3) := by decide +kernel
theorem d1_16 : decode prog_17_method_9_code 16 = .ok (.lconst 0, 1) := by decide +kernel
theorem d1_17 : decode prog_17_method_9_code 17 = .ok (.lreturn, 1) := by decide +kernel
theorem pn_1 : plainName "com/example/relayline/relayline/EventFamily$Table" = true := by first | (simp [plainName, overriddenIn]; done) | decide +kernel
theorem pd_1 : parseMethodDescriptor "([JI)J" = some ⟨[(.array .long), .int], some .long⟩ := by decide +kernel
theorem ef_1 (m : MethodId) (x0 : Addr) (x1 : Int32) : entryFrame m #[(.ref x0), (.int x1)] 2 = mkF m 0 #[.val (.ref x0), .val (.int x1)] [] := by first | (simp [entryFrame, mkF, argsToLocals, Value.category]; done) | rfl
def Q1 (Z : State) (a1 : Addr) (p2 : Int32) (k0 : ClassId) (n : Int32) (m0 m1 m2 m3 : Int64) (h0 : Heap) (n0 : Nat) (v : Option Value) (h : Heap) (L : List Loc) : Prop := v = some (.long (own_exp n p2 m0 m1 m2 m3)) ∧ Fr n0 L ∧ h = h0
set_option maxRecDepth 65536 in
set_option maxHeartbeats 40000000 in
theorem rm1 (l : Launch) (Z : State) (a0 : Array Value) (hw : ∀ d ∈ tables_1, d.before a0 Z = true) (ws : List Jvm.Cond) (a1 : Addr) (p2 : Int32) (k0 : ClassId) (n : Int32) (m0 m1 m2 m3 : Int64) (h0 : Heap) (n0 : Nat) (Z0 : n0 ≤ h0.size) (V0 : Arv Z h0 a1 k0 .long n [.long m0, .long m1, .long m2, .long m3] (.long 0)) (hn4 : n.toInt ≤ 4) :
    MetFree l (⟨"com/example/relayline/relayline/EventFamily$Table", "maskOf", "([JI)J"⟩ : MethodName) (head1 (Jvm.Cond.code (⟨"com/example/relayline/relayline/EventFamily$Table", "maskOf", "([JI)J"⟩ : MethodName) prog_17_method_9_code 2 (some .long) :: ws) ({ frames := 0, cells := 0, slots := 0, locals := 0 } : Room)) (fun a U => a = #[(.ref a1), (.int p2)] ∧ Z.Warmed39 U.vm ∧ U.heap = h0) (fun _ _ _ _ _ => True) (fun _ U o U' => ∃ v L, o = .returned v ∧ Q1 Z a1 p2 k0 n m0 m1 m2 m3 h0 n0 v U'.heap L ∧ FrameEnd U o U' L ({ frames := 0, cells := 0, slots := 0, locals := 0 } : Room).cells ({ frames := 0, cells := 0, slots := 0, locals := 0 } : Room).slots) := by
  refine MetFree.of_bodySF (plainFor_of_name pn_1) hisR ?_
  intro p e s m args below meth c s₁ Bd hml0 hP hK
  obtain ⟨rfl, hZ, hh⟩ := hP
  have hx := Bd.exec
  have hby := Bd.bytes
  have hml : c.maxLocals = 2 := hml0
  have hown : s.vm.findClass "com/example/relayline/relayline/EventFamily$Table" = some m.cls := findClass_of_methodNamed Bd.named
  have hnm := (name_of_methodNamed Bd.named Bd.method).1
  have X0 : Stand p l e ({ frames := 0, cells := 0, slots := 0, locals := 0 } : Room) s m #[(.ref a1), (.int p2)] below meth c s₁ [] 0 0 := Stand.of_body Bd
  have e0 : s₁.heap = h0 := by rw [← hh, Bd.state]; rfl
  have N0 := Fr.nil n0
  obtain ⟨F0, hF0⟩ : ∃ F0, F0 = entryFrame m #[(.ref a1), (.int p2)] 2 := ⟨_, rfl⟩
  have C0 : Go p e below s₁ (mkF m 0 #[.val (.ref a1), .val (.int p2)] []) s₁ F0 := fun t k => by rw [hF0]; exact castTop (ef_1 m a1 p2) k
  have pre0 : ∀ t, Steps p.tables e below (s₁.setTop F0) t → Steps p.tables e below (s₁.setTop (entryFrame m #[(.ref a1), (.int p2)] 2)) t := fun t k => by rw [← hF0]; exact k
  obtain ⟨cl0, Ar0, q0, S0, M0, H0, G0⟩ := V0
  have CJ : Go p e below s₁ (mkF m 17 #[.val (.ref a1), .val (.int p2)] [(.long (own_exp n p2 m0 m1 m2 m3))]) s₁ F0 := by
    by_cases c1 : p2 < 0
    · have q : (own_exp n p2 m0 m1 m2 m3) = 0 := own_out (Or.inl c1)
      have C1 : Go p e below s₁ (mkF m 17 #[.val (.ref a1), .val (.int p2)] [(.long (0 : Int64))]) s₁ F0 := fun t k => C0 t (by
        refine XS.iloadN X0.here hx rfl (hb hby d1_0) rfl ?_
        show Steps p.tables e below (s₁.setTop (mkF m 1 #[.val (.ref a1), .val (.int p2)] [(.int p2)])) _
        refine XS.ifYes X0.here hx rfl (pc0 := 1) (pc' := 16) rfl (hb hby d1_1) rfl ((if0 _ _).trans (tlt c1).1) (by decide) (by decide) ?_
        show Steps p.tables e below (s₁.setTop (mkF m 16 #[.val (.ref a1), .val (.int p2)] [])) _
        refine XS.lconst X0.here hx rfl (hb hby d1_16) ?_
        exact k)
      rw [q]
      exact C1
    · by_cases c2 : p2 < n
      · have hin := inb_of S0 ⟨c1, c2⟩
        have hat := H0.at hin (own_get c1 c2 hn4)
        have C2 : Go p e below s₁ (mkF m 17 #[.val (.ref a1), .val (.int p2)] [(.long (own_exp n p2 m0 m1 m2 m3))]) s₁ F0 := fun t k => C0 t (by
          refine XS.iloadN X0.here hx rfl (hb hby d1_0) rfl ?_
          show Steps p.tables e below (s₁.setTop (mkF m 1 #[.val (.ref a1), .val (.int p2)] [(.int p2)])) _
          refine XS.ifNo X0.here hx rfl (hb hby d1_1) rfl ((if0 _ _).trans (flt c1).1) ?_
          show Steps p.tables e below (s₁.setTop (mkF m 4 #[.val (.ref a1), .val (.int p2)] [])) _
          refine XS.iloadN X0.here hx rfl (hb hby d1_4) rfl ?_
          show Steps p.tables e below (s₁.setTop (mkF m 5 #[.val (.ref a1), .val (.int p2)] [(.int p2)])) _
          refine XS.aloadN X0.here hx rfl (hb hby d1_5) rfl rfl ?_
          show Steps p.tables e below (s₁.setTop (mkF m 6 #[.val (.ref a1), .val (.int p2)] [(.ref a1), (.int p2)])) _
          refine X0.arraylength hx (by rw [e0]; exact Ar0.1) (State.isArrayOf_alike hZ.alike Ar0.2.1) (g := (mkF m 6 #[.val (.ref a1), .val (.int p2)] [(.ref a1), (.int p2)])) rfl rfl (hb hby d1_6) _ ?_
          rw [len_of S0 M0]
          show Steps p.tables e below (s₁.setTop (mkF m 7 #[.val (.ref a1), .val (.int p2)] [(.int n), (.int p2)])) _
          refine XS.icmpNo X0.here hx rfl (hb hby d1_7) rfl (tlt c2).2.1 ?_
          show Steps p.tables e below (s₁.setTop (mkF m 10 #[.val (.ref a1), .val (.int p2)] [])) _
          refine XS.aloadN X0.here hx rfl (hb hby d1_10) rfl rfl ?_
          show Steps p.tables e below (s₁.setTop (mkF m 11 #[.val (.ref a1), .val (.int p2)] [(.ref a1)])) _
          refine XS.iloadN X0.here hx rfl (hb hby d1_11) rfl ?_
          show Steps p.tables e below (s₁.setTop (mkF m 12 #[.val (.ref a1), .val (.int p2)] [(.int p2), (.ref a1)])) _
          refine X0.laload hx (j := p2) (v := (.long (own_exp n p2 m0 m1 m2 m3))) (by rw [e0]; exact Ar0.1) (State.isArrayOf_alike hZ.alike Ar0.2.1) Ar0.2.2 hin hat (g := (mkF m 12 #[.val (.ref a1), .val (.int p2)] [(.int p2), (.ref a1)])) rfl rfl (hb hby d1_12) _ ?_
          show Steps p.tables e below (s₁.setTop (mkF m 13 #[.val (.ref a1), .val (.int p2)] [(.long (own_exp n p2 m0 m1 m2 m3))])) _
          refine XS.goto X0.here hx rfl (pc0 := 13) (pc' := 17) rfl (hb hby d1_13) (by decide) (by decide) ?_
          exact k)
        exact C2
      · have q : (own_exp n p2 m0 m1 m2 m3) = 0 := own_out (Or.inr c2)
        have C3 : Go p e below s₁ (mkF m 17 #[.val (.ref a1), .val (.int p2)] [(.long (0 : Int64))]) s₁ F0 := fun t k => C0 t (by
          refine XS.iloadN X0.here hx rfl (hb hby d1_0) rfl ?_
          show Steps p.tables e below (s₁.setTop (mkF m 1 #[.val (.ref a1), .val (.int p2)] [(.int p2)])) _
          refine XS.ifNo X0.here hx rfl (hb hby d1_1) rfl ((if0 _ _).trans (flt c1).1) ?_
          show Steps p.tables e below (s₁.setTop (mkF m 4 #[.val (.ref a1), .val (.int p2)] [])) _
          refine XS.iloadN X0.here hx rfl (hb hby d1_4) rfl ?_
          show Steps p.tables e below (s₁.setTop (mkF m 5 #[.val (.ref a1), .val (.int p2)] [(.int p2)])) _
          refine XS.aloadN X0.here hx rfl (hb hby d1_5) rfl rfl ?_
          show Steps p.tables e below (s₁.setTop (mkF m 6 #[.val (.ref a1), .val (.int p2)] [(.ref a1), (.int p2)])) _
          refine X0.arraylength hx (by rw [e0]; exact Ar0.1) (State.isArrayOf_alike hZ.alike Ar0.2.1) (g := (mkF m 6 #[.val (.ref a1), .val (.int p2)] [(.ref a1), (.int p2)])) rfl rfl (hb hby d1_6) _ ?_
          rw [len_of S0 M0]
          show Steps p.tables e below (s₁.setTop (mkF m 7 #[.val (.ref a1), .val (.int p2)] [(.int n), (.int p2)])) _
          refine XS.icmpYes X0.here hx rfl (pc0 := 7) (pc' := 16) rfl (hb hby d1_7) rfl (flt c2).2.1 (by decide) (by decide) ?_
          show Steps p.tables e below (s₁.setTop (mkF m 16 #[.val (.ref a1), .val (.int p2)] [])) _
          refine XS.lconst X0.here hx rfl (hb hby d1_16) ?_
          exact k)
        rw [q]
        exact C3
  obtain ⟨fs, hr, hrun, hended, hW, hsame⟩ := X0.leave (v := (some (.long (own_exp n p2 m0 m1 m2 m3)))) (fun h => by rw [Bd.returns] at h; cases h)
  refine ⟨_, _, pre0 _ (CJ _ ?_), hrun, hended, _, _, rfl, ?_, ⟨_, rfl⟩, hW, hsame.mono (by decide) (by decide)⟩
  · jvm_step X0.here [X0.here.top, hx, (hb hby d1_17), X0.method', Bd.returns, narrow]
    first | (intro acts; rw [hr _ acts rfl rfl rfl]) | rw [hr _ _ rfl rfl rfl]
    exact Steps.refl _
  · show Q1 Z a1 p2 k0 n m0 m1 m2 m3 h0 n0 _ s₁.heap _
    rw [e0]
    exact ⟨rfl, N0, rfl⟩
theorem pn_0 : plainName "com/example/relayline/relayline/TableMaskOfPinLaw" = true := by first | (simp [plainName, overriddenIn]; done) | decide +kernel
theorem pd_0 : parseMethodDescriptor "(IIJJJJ)Z" = some ⟨[.int, .int, .long, .long, .long, .long], some .boolean⟩ := by decide +kernel
theorem ef_0 (m : MethodId) (x0 : Int32) (x1 : Int32) (x2 : Int64) (x3 : Int64) (x4 : Int64) (x5 : Int64) : entryFrame m #[(.int x0), (.int x1), (.long x2), (.long x3), (.long x4), (.long x5)] maxLocals = mkF m 0 #[.val (.int x0), .val (.int x1), .val (.long x2), .second, .val (.long x3), .second, .val (.long x4), .second, .val (.long x5), .second, .unset, .unset, .unset, .unset, .unset, .unset, .unset] [] := by first | (simp [entryFrame, mkF, argsToLocals, Value.category, maxLocals]; done) | rfl
def Q0 (Z : State) (p1 p2 : Int32) (p3 p4 p5 p6 : Int64) (h0 : Heap) (n0 : Nat) (v : Option Value) (h : Heap) (L : List Loc) : Prop := v = some (.int 1) ∧ Fr n0 L
set_option maxRecDepth 65536 in
set_option maxHeartbeats 40000000 in
theorem rm0 (l : Launch) (Z : State) (a0 : Array Value) (hw : ∀ d ∈ tables_1, d.before a0 Z = true) (ws : List Jvm.Cond) (p1 p2 : Int32) (p3 p4 p5 p6 : Int64) (h0 : Heap) (n0 : Nat) (Z0 : n0 ≤ h0.size)  :
    MetFree l x (head1 (Jvm.Cond.code x code maxLocals ret :: ws) room_1) (fun a U => a = #[(.int p1), (.int p2), (.long p3), (.long p4), (.long p5), (.long p6)] ∧ Z.Warmed39 U.vm ∧ U.heap = h0) (fun _ _ _ _ _ => True) (fun _ U o U' => ∃ v L, o = .returned v ∧ Q0 Z p1 p2 p3 p4 p5 p6 h0 n0 v U'.heap L ∧ FrameEnd U o U' L room_1.cells room_1.slots) := by
  refine MetFree.of_bodySF (plainFor_of_name pn_0) hisR ?_
  intro p e s m args below meth c s₁ Bd hml0 hP hK
  obtain ⟨rfl, hZ, hh⟩ := hP
  have hx := Bd.exec
  have hby := Bd.bytes
  have hml : c.maxLocals = 17 := hml0
  have hown : s.vm.findClass "com/example/relayline/relayline/TableMaskOfPinLaw" = some m.cls := findClass_of_methodNamed Bd.named
  have hnm := (name_of_methodNamed Bd.named Bd.method).1
  have X0 : Stand p l e room_1 s m #[(.int p1), (.int p2), (.long p3), (.long p4), (.long p5), (.long p6)] below meth c s₁ [] 0 0 := Stand.of_body Bd
  have e0 : s₁.heap = h0 := by rw [← hh, Bd.state]; rfl
  have N0 := Fr.nil n0
  obtain ⟨F0, hF0⟩ : ∃ F0, F0 = entryFrame m #[(.int p1), (.int p2), (.long p3), (.long p4), (.long p5), (.long p6)] maxLocals := ⟨_, rfl⟩
  have C0 : Go p e below s₁ (mkF m 0 #[.val (.int p1), .val (.int p2), .val (.long p3), .second, .val (.long p4), .second, .val (.long p5), .second, .val (.long p6), .second, .unset, .unset, .unset, .unset, .unset, .unset, .unset] []) s₁ F0 := fun t k => by rw [hF0]; exact castTop (ef_0 m p1 p2 p3 p4 p5 p6) k
  have pre0 : ∀ t, Steps p.tables e below (s₁.setTop F0) t → Steps p.tables e below (s₁.setTop (entryFrame m #[(.int p1), (.int p2), (.long p3), (.long p4), (.long p5), (.long p6)] maxLocals)) t := fun t k => by rw [← hF0]; exact k
  have C1 : Go p e below s₁ (mkF m 8 #[.val (.int p1), .val (.int p2), .val (.long p3), .second, .val (.long p4), .second, .val (.long p5), .second, .val (.long p6), .second, .val (.int ((p1 &&& (7 : Int32)) % (5 : Int32))), .unset, .unset, .unset, .unset, .unset, .unset] []) s₁ F0 := fun t k => C0 t (by
    refine XS.iloadN X0.here hx rfl (hb hby at_0) rfl ?_
    show Steps p.tables e below (s₁.setTop (mkF m 1 #[.val (.int p1), .val (.int p2), .val (.long p3), .second, .val (.long p4), .second, .val (.long p5), .second, .val (.long p6), .second, .unset, .unset, .unset, .unset, .unset, .unset, .unset] [(.int p1)])) _
    refine XS.bipush X0.here hx rfl (hb hby at_1) ?_
    show Steps p.tables e below (s₁.setTop (mkF m 3 #[.val (.int p1), .val (.int p2), .val (.long p3), .second, .val (.long p4), .second, .val (.long p5), .second, .val (.long p6), .second, .unset, .unset, .unset, .unset, .unset, .unset, .unset] [(.int (7 : Int32)), (.int p1)])) _
    refine XS.iand X0.here hx rfl (hb hby at_3) rfl ?_
    show Steps p.tables e below (s₁.setTop (mkF m 4 #[.val (.int p1), .val (.int p2), .val (.long p3), .second, .val (.long p4), .second, .val (.long p5), .second, .val (.long p6), .second, .unset, .unset, .unset, .unset, .unset, .unset, .unset] [(.int (p1 &&& (7 : Int32)))])) _
    refine XS.iconst X0.here hx rfl (hb hby at_4) ?_
    show Steps p.tables e below (s₁.setTop (mkF m 5 #[.val (.int p1), .val (.int p2), .val (.long p3), .second, .val (.long p4), .second, .val (.long p5), .second, .val (.long p6), .second, .unset, .unset, .unset, .unset, .unset, .unset, .unset] [(.int (5 : Int32)), (.int (p1 &&& (7 : Int32)))])) _
    refine iremM (g := (mkF m 5 #[.val (.int p1), .val (.int p2), .val (.long p3), .second, .val (.long p4), .second, .val (.long p5), .second, .val (.long p6), .second, .unset, .unset, .unset, .unset, .unset, .unset, .unset] [(.int (5 : Int32)), (.int (p1 &&& (7 : Int32)))])) X0 hx rfl (hb hby at_5) rfl (by decide) ?_
    show Steps p.tables e below (s₁.setTop (mkF m 6 #[.val (.int p1), .val (.int p2), .val (.long p3), .second, .val (.long p4), .second, .val (.long p5), .second, .val (.long p6), .second, .unset, .unset, .unset, .unset, .unset, .unset, .unset] [(.int ((p1 &&& (7 : Int32)) % (5 : Int32)))])) _
    refine XS.istore X0.here hx rfl (hb hby at_6) rfl (l' := #[.val (.int p1), .val (.int p2), .val (.long p3), .second, .val (.long p4), .second, .val (.long p5), .second, .val (.long p6), .second, .val (.int ((p1 &&& (7 : Int32)) % (5 : Int32))), .unset, .unset, .unset, .unset, .unset, .unset]) rfl ?_
    exact k)
  obtain ⟨n, hn0, hn4, CJ⟩ : ∃ n : Int32, 0 ≤ n.toInt ∧ n.toInt ≤ 4 ∧ Go p e below s₁ (mkF m 8 #[.val (.int p1), .val (.int p2), .val (.long p3), .second, .val (.long p4), .second, .val (.long p5), .second, .val (.long p6), .second, .val (.int n), .unset, .unset, .unset, .unset, .unset, .unset] []) s₁ F0 := by
    have q1 := c_and p1 7 (by decide)
    have q2 := (c_irem (p1 &&& 7) 5 5 rfl).1 q1.1
    refine ⟨_, ?_, ?_, C1⟩
    · show 0 ≤ ((p1 &&& 7) % 5 : Int32).toInt; omega
    · show ((p1 &&& 7) % 5 : Int32).toInt ≤ 4; omega
  have hneg : ¬ n < 0 := by rw [Int32.lt_iff_toInt_lt]; have e0 : (0 : Int32).toInt = 0 := rfl; omega
  have hcap : n.toNatClampNeg ≤ 4 := by simp only [Int32.toNatClampNeg]; omega
  have C2 : Go p e below s₁ (mkF m 10 #[.val (.int p1), .val (.int p2), .val (.long p3), .second, .val (.long p4), .second, .val (.long p5), .second, .val (.long p6), .second, .val (.int n), .unset, .unset, .unset, .unset, .unset, .unset] [(.int n)]) s₁ F0 := fun t k => CJ t (by
    refine XS.iload X0.here hx rfl (hb hby at_8) rfl ?_
    exact k)
  obtain ⟨T3, h3, k3, X3, e3, E3, A3, st3⟩ := newP X0 hx hZ (hw _ (List.mem_of_getElem? (i := 0) rfl)) e0 (g := (mkF m 10 #[.val (.int p1), .val (.int p2), .val (.long p3), .second, .val (.long p4), .second, .val (.long p5), .second, .val (.long p6), .second, .val (.int n), .unset, .unset, .unset, .unset, .unset, .unset] [(.int n)])) rfl (hb hby at_10) rfl hneg (cap := 4) hcap (by decide) (by decide) (by decide)
  obtain ⟨b3, g3⟩ : ∃ z, z = h0.size := ⟨_, rfl⟩
  rw [← g3] at A3 st3
  have C3 : Go p e below T3 (mkF m 12 #[.val (.int p1), .val (.int p2), .val (.long p3), .second, .val (.long p4), .second, .val (.long p5), .second, .val (.long p6), .second, .val (.int n), .unset, .unset, .unset, .unset, .unset, .unset] [(.ref b3)]) s₁ F0 := fun t k => C2 t (st3 t k)
  have VS0 : Arv Z h3 b3 k3 .long n [.long 0, .long 0, .long 0, .long 0] (.long 0) := (Arv.new (ty := .long) A3 hneg).pad (pad_rep [] _ 4)
  have gb : n0 ≤ b3 := Nat.le_trans Z0 (Nat.le_of_eq g3.symm)
  have C4 : Go p e below T3 (mkF m 14 #[.val (.int p1), .val (.int p2), .val (.long p3), .second, .val (.long p4), .second, .val (.long p5), .second, .val (.long p6), .second, .val (.int n), .val (.ref b3), .unset, .unset, .unset, .unset, .unset] []) s₁ F0 := fun t k => C3 t (by
    refine XS.astore X3.here hx rfl (hb hby at_12) rfl rfl (l' := #[.val (.int p1), .val (.int p2), .val (.long p3), .second, .val (.long p4), .second, .val (.long p5), .second, .val (.long p6), .second, .val (.int n), .val (.ref b3), .unset, .unset, .unset, .unset, .unset]) rfl ?_
    exact k)
  have NS0 := N0
  have LS0 : Stand p l e room_1 s m #[(.int p1), (.int p2), (.long p3), (.long p4), (.long p5), (.long p6)] below meth c T3 [] 1 4 := X3
  obtain ⟨TS1, hS1, lS1, LS1, eS1, NS1, VS1, CS1⟩ : ∃ (T' : State) (h' : Heap) (ls : List Loc), Stand p l e room_1 s m #[(.int p1), (.int p2), (.long p3), (.long p4), (.long p5), (.long p6)] below meth c T' ls 1 4 ∧ T'.heap = h' ∧ Fr n0 ls ∧ Arv Z h' b3 k3 .long n [.long p3, .long 0, .long 0, .long 0] (.long 0) ∧ Go p e below T' (mkF m 24 #[.val (.int p1), .val (.int p2), .val (.long p3), .second, .val (.long p4), .second, .val (.long p5), .second, .val (.long p6), .second, .val (.int n), .val (.ref b3), .unset, .unset, .unset, .unset, .unset] []) s₁ F0 := by
    by_cases c : (0 : Int32) < n
    · skip
      have C5 : Go p e below T3 (mkF m 23 #[.val (.int p1), .val (.int p2), .val (.long p3), .second, .val (.long p4), .second, .val (.long p5), .second, .val (.long p6), .second, .val (.int n), .val (.ref b3), .unset, .unset, .unset, .unset, .unset] [(.long p3), (.int (0 : Int32)), (.ref b3)]) s₁ F0 := fun t k => C4 t (by
        refine XS.iload LS0.here hx rfl (hb hby at_14) rfl ?_
        show Steps p.tables e below (T3.setTop (mkF m 16 #[.val (.int p1), .val (.int p2), .val (.long p3), .second, .val (.long p4), .second, .val (.long p5), .second, .val (.long p6), .second, .val (.int n), .val (.ref b3), .unset, .unset, .unset, .unset, .unset] [(.int n)])) _
        refine XS.ifNo LS0.here hx rfl (hb hby at_16) rfl ((if0 _ _).trans (tlt c).2.2.2) ?_
        show Steps p.tables e below (T3.setTop (mkF m 19 #[.val (.int p1), .val (.int p2), .val (.long p3), .second, .val (.long p4), .second, .val (.long p5), .second, .val (.long p6), .second, .val (.int n), .val (.ref b3), .unset, .unset, .unset, .unset, .unset] [])) _
        refine XS.aload LS0.here hx rfl (hb hby at_19) rfl rfl ?_
        show Steps p.tables e below (T3.setTop (mkF m 21 #[.val (.int p1), .val (.int p2), .val (.long p3), .second, .val (.long p4), .second, .val (.long p5), .second, .val (.long p6), .second, .val (.int n), .val (.ref b3), .unset, .unset, .unset, .unset, .unset] [(.ref b3)])) _
        refine XS.iconst LS0.here hx rfl (hb hby at_21) ?_
        show Steps p.tables e below (T3.setTop (mkF m 22 #[.val (.int p1), .val (.int p2), .val (.long p3), .second, .val (.long p4), .second, .val (.long p5), .second, .val (.long p6), .second, .val (.int n), .val (.ref b3), .unset, .unset, .unset, .unset, .unset] [(.int (0 : Int32)), (.ref b3)])) _
        refine XS.lloadN LS0.here hx rfl (hb hby at_22) rfl ?_
        exact k)
      obtain ⟨cl0, Ar0, q0, S0, M0, H0, G0⟩ := VS0
      obtain ⟨T6, h6, X6, e6, W6, st6⟩ := stJ LS0 hx hZ e3 Ar0 (j := (0 : Int32)) (inb_of S0 ⟨by decide, c⟩) (g := (mkF m 23 #[.val (.int p1), .val (.int p2), .val (.long p3), .second, .val (.long p4), .second, .val (.long p5), .second, .val (.long p6), .second, .val (.int n), .val (.ref b3), .unset, .unset, .unset, .unset, .unset] [(.long p3), (.int (0 : Int32)), (.ref b3)])) rfl rfl (hb hby at_23)
      have C6 : Go p e below T6 (mkF m 24 #[.val (.int p1), .val (.int p2), .val (.long p3), .second, .val (.long p4), .second, .val (.long p5), .second, .val (.long p6), .second, .val (.int n), .val (.ref b3), .unset, .unset, .unset, .unset, .unset] []) s₁ F0 := fun t k => C5 t (st6 t k)
      exact ⟨_, _, _, X6, e6, Fr.snoc X6 NS0 gb, Arv.set Ar0 q0 S0 M0 H0 G0 rfl W6 0 rfl (Nat.le_of_ble_eq_true rfl), C6⟩
    · skip
      have C7 : Go p e below T3 (mkF m 24 #[.val (.int p1), .val (.int p2), .val (.long p3), .second, .val (.long p4), .second, .val (.long p5), .second, .val (.long p6), .second, .val (.int n), .val (.ref b3), .unset, .unset, .unset, .unset, .unset] []) s₁ F0 := fun t k => C4 t (by
        refine XS.iload LS0.here hx rfl (hb hby at_14) rfl ?_
        show Steps p.tables e below (T3.setTop (mkF m 16 #[.val (.int p1), .val (.int p2), .val (.long p3), .second, .val (.long p4), .second, .val (.long p5), .second, .val (.long p6), .second, .val (.int n), .val (.ref b3), .unset, .unset, .unset, .unset, .unset] [(.int n)])) _
        refine XS.ifYes LS0.here hx rfl (pc0 := 16) (pc' := 24) rfl (hb hby at_16) rfl ((if0 _ _).trans (flt c).2.2.2) (by decide) (by decide) ?_
        exact k)
      exact ⟨_, _, _, LS0, e3, NS0, own_skip VS0 0 (own_nat c rfl) _, C7⟩
  obtain ⟨TS2, hS2, lS2, LS2, eS2, NS2, VS2, CS2⟩ : ∃ (T' : State) (h' : Heap) (ls : List Loc), Stand p l e room_1 s m #[(.int p1), (.int p2), (.long p3), (.long p4), (.long p5), (.long p6)] below meth c T' ls 1 4 ∧ T'.heap = h' ∧ Fr n0 ls ∧ Arv Z h' b3 k3 .long n [.long p3, .long p4, .long 0, .long 0] (.long 0) ∧ Go p e below T' (mkF m 36 #[.val (.int p1), .val (.int p2), .val (.long p3), .second, .val (.long p4), .second, .val (.long p5), .second, .val (.long p6), .second, .val (.int n), .val (.ref b3), .unset, .unset, .unset, .unset, .unset] []) s₁ F0 := by
    by_cases c : (1 : Int32) < n
    · skip
      have C8 : Go p e below TS1 (mkF m 35 #[.val (.int p1), .val (.int p2), .val (.long p3), .second, .val (.long p4), .second, .val (.long p5), .second, .val (.long p6), .second, .val (.int n), .val (.ref b3), .unset, .unset, .unset, .unset, .unset] [(.long p4), (.int (1 : Int32)), (.ref b3)]) s₁ F0 := fun t k => CS1 t (by
        refine XS.iload LS1.here hx rfl (hb hby at_24) rfl ?_
        show Steps p.tables e below (TS1.setTop (mkF m 26 #[.val (.int p1), .val (.int p2), .val (.long p3), .second, .val (.long p4), .second, .val (.long p5), .second, .val (.long p6), .second, .val (.int n), .val (.ref b3), .unset, .unset, .unset, .unset, .unset] [(.int n)])) _
        refine XS.iconst LS1.here hx rfl (hb hby at_26) ?_
        show Steps p.tables e below (TS1.setTop (mkF m 27 #[.val (.int p1), .val (.int p2), .val (.long p3), .second, .val (.long p4), .second, .val (.long p5), .second, .val (.long p6), .second, .val (.int n), .val (.ref b3), .unset, .unset, .unset, .unset, .unset] [(.int (1 : Int32)), (.int n)])) _
        refine XS.icmpNo LS1.here hx rfl (hb hby at_27) rfl (tlt c).2.2.2 ?_
        show Steps p.tables e below (TS1.setTop (mkF m 30 #[.val (.int p1), .val (.int p2), .val (.long p3), .second, .val (.long p4), .second, .val (.long p5), .second, .val (.long p6), .second, .val (.int n), .val (.ref b3), .unset, .unset, .unset, .unset, .unset] [])) _
        refine XS.aload LS1.here hx rfl (hb hby at_30) rfl rfl ?_
        show Steps p.tables e below (TS1.setTop (mkF m 32 #[.val (.int p1), .val (.int p2), .val (.long p3), .second, .val (.long p4), .second, .val (.long p5), .second, .val (.long p6), .second, .val (.int n), .val (.ref b3), .unset, .unset, .unset, .unset, .unset] [(.ref b3)])) _
        refine XS.iconst LS1.here hx rfl (hb hby at_32) ?_
        show Steps p.tables e below (TS1.setTop (mkF m 33 #[.val (.int p1), .val (.int p2), .val (.long p3), .second, .val (.long p4), .second, .val (.long p5), .second, .val (.long p6), .second, .val (.int n), .val (.ref b3), .unset, .unset, .unset, .unset, .unset] [(.int (1 : Int32)), (.ref b3)])) _
        refine XS.lload LS1.here hx rfl (hb hby at_33) rfl ?_
        exact k)
      obtain ⟨cl0, Ar0, q0, S0, M0, H0, G0⟩ := VS1
      obtain ⟨T9, h9, X9, e9, W9, st9⟩ := stJ LS1 hx hZ eS1 Ar0 (j := (1 : Int32)) (inb_of S0 ⟨by decide, c⟩) (g := (mkF m 35 #[.val (.int p1), .val (.int p2), .val (.long p3), .second, .val (.long p4), .second, .val (.long p5), .second, .val (.long p6), .second, .val (.int n), .val (.ref b3), .unset, .unset, .unset, .unset, .unset] [(.long p4), (.int (1 : Int32)), (.ref b3)])) rfl rfl (hb hby at_35)
      have C9 : Go p e below T9 (mkF m 36 #[.val (.int p1), .val (.int p2), .val (.long p3), .second, .val (.long p4), .second, .val (.long p5), .second, .val (.long p6), .second, .val (.int n), .val (.ref b3), .unset, .unset, .unset, .unset, .unset] []) s₁ F0 := fun t k => C8 t (st9 t k)
      exact ⟨_, _, _, X9, e9, Fr.snoc X9 NS1 gb, Arv.set Ar0 q0 S0 M0 H0 G0 rfl W9 1 rfl (Nat.le_of_ble_eq_true rfl), C9⟩
    · skip
      have C10 : Go p e below TS1 (mkF m 36 #[.val (.int p1), .val (.int p2), .val (.long p3), .second, .val (.long p4), .second, .val (.long p5), .second, .val (.long p6), .second, .val (.int n), .val (.ref b3), .unset, .unset, .unset, .unset, .unset] []) s₁ F0 := fun t k => CS1 t (by
        refine XS.iload LS1.here hx rfl (hb hby at_24) rfl ?_
        show Steps p.tables e below (TS1.setTop (mkF m 26 #[.val (.int p1), .val (.int p2), .val (.long p3), .second, .val (.long p4), .second, .val (.long p5), .second, .val (.long p6), .second, .val (.int n), .val (.ref b3), .unset, .unset, .unset, .unset, .unset] [(.int n)])) _
        refine XS.iconst LS1.here hx rfl (hb hby at_26) ?_
        show Steps p.tables e below (TS1.setTop (mkF m 27 #[.val (.int p1), .val (.int p2), .val (.long p3), .second, .val (.long p4), .second, .val (.long p5), .second, .val (.long p6), .second, .val (.int n), .val (.ref b3), .unset, .unset, .unset, .unset, .unset] [(.int (1 : Int32)), (.int n)])) _
        refine XS.icmpYes LS1.here hx rfl (pc0 := 27) (pc' := 36) rfl (hb hby at_27) rfl (flt c).2.2.2 (by decide) (by decide) ?_
        exact k)
      exact ⟨_, _, _, LS1, eS1, NS1, own_skip VS1 1 (own_nat c rfl) _, C10⟩
  obtain ⟨TS3, hS3, lS3, LS3, eS3, NS3, VS3, CS3⟩ : ∃ (T' : State) (h' : Heap) (ls : List Loc), Stand p l e room_1 s m #[(.int p1), (.int p2), (.long p3), (.long p4), (.long p5), (.long p6)] below meth c T' ls 1 4 ∧ T'.heap = h' ∧ Fr n0 ls ∧ Arv Z h' b3 k3 .long n [.long p3, .long p4, .long p5, .long 0] (.long 0) ∧ Go p e below T' (mkF m 48 #[.val (.int p1), .val (.int p2), .val (.long p3), .second, .val (.long p4), .second, .val (.long p5), .second, .val (.long p6), .second, .val (.int n), .val (.ref b3), .unset, .unset, .unset, .unset, .unset] []) s₁ F0 := by
    by_cases c : (2 : Int32) < n
    · skip
      have C11 : Go p e below TS2 (mkF m 47 #[.val (.int p1), .val (.int p2), .val (.long p3), .second, .val (.long p4), .second, .val (.long p5), .second, .val (.long p6), .second, .val (.int n), .val (.ref b3), .unset, .unset, .unset, .unset, .unset] [(.long p5), (.int (2 : Int32)), (.ref b3)]) s₁ F0 := fun t k => CS2 t (by
        refine XS.iload LS2.here hx rfl (hb hby at_36) rfl ?_
        show Steps p.tables e below (TS2.setTop (mkF m 38 #[.val (.int p1), .val (.int p2), .val (.long p3), .second, .val (.long p4), .second, .val (.long p5), .second, .val (.long p6), .second, .val (.int n), .val (.ref b3), .unset, .unset, .unset, .unset, .unset] [(.int n)])) _
        refine XS.iconst LS2.here hx rfl (hb hby at_38) ?_
        show Steps p.tables e below (TS2.setTop (mkF m 39 #[.val (.int p1), .val (.int p2), .val (.long p3), .second, .val (.long p4), .second, .val (.long p5), .second, .val (.long p6), .second, .val (.int n), .val (.ref b3), .unset, .unset, .unset, .unset, .unset] [(.int (2 : Int32)), (.int n)])) _
        refine XS.icmpNo LS2.here hx rfl (hb hby at_39) rfl (tlt c).2.2.2 ?_
        show Steps p.tables e below (TS2.setTop (mkF m 42 #[.val (.int p1), .val (.int p2), .val (.long p3), .second, .val (.long p4), .second, .val (.long p5), .second, .val (.long p6), .second, .val (.int n), .val (.ref b3), .unset, .unset, .unset, .unset, .unset] [])) _
        refine XS.aload LS2.here hx rfl (hb hby at_42) rfl rfl ?_
        show Steps p.tables e below (TS2.setTop (mkF m 44 #[.val (.int p1), .val (.int p2), .val (.long p3), .second, .val (.long p4), .second, .val (.long p5), .second, .val (.long p6), .second, .val (.int n), .val (.ref b3), .unset, .unset, .unset, .unset, .unset] [(.ref b3)])) _
        refine XS.iconst LS2.here hx rfl (hb hby at_44) ?_
        show Steps p.tables e below (TS2.setTop (mkF m 45 #[.val (.int p1), .val (.int p2), .val (.long p3), .second, .val (.long p4), .second, .val (.long p5), .second, .val (.long p6), .second, .val (.int n), .val (.ref b3), .unset, .unset, .unset, .unset, .unset] [(.int (2 : Int32)), (.ref b3)])) _
        refine XS.lload LS2.here hx rfl (hb hby at_45) rfl ?_
        exact k)
      obtain ⟨cl0, Ar0, q0, S0, M0, H0, G0⟩ := VS2
      obtain ⟨T12, h12, X12, e12, W12, st12⟩ := stJ LS2 hx hZ eS2 Ar0 (j := (2 : Int32)) (inb_of S0 ⟨by decide, c⟩) (g := (mkF m 47 #[.val (.int p1), .val (.int p2), .val (.long p3), .second, .val (.long p4), .second, .val (.long p5), .second, .val (.long p6), .second, .val (.int n), .val (.ref b3), .unset, .unset, .unset, .unset, .unset] [(.long p5), (.int (2 : Int32)), (.ref b3)])) rfl rfl (hb hby at_47)
      have C12 : Go p e below T12 (mkF m 48 #[.val (.int p1), .val (.int p2), .val (.long p3), .second, .val (.long p4), .second, .val (.long p5), .second, .val (.long p6), .second, .val (.int n), .val (.ref b3), .unset, .unset, .unset, .unset, .unset] []) s₁ F0 := fun t k => C11 t (st12 t k)
      exact ⟨_, _, _, X12, e12, Fr.snoc X12 NS2 gb, Arv.set Ar0 q0 S0 M0 H0 G0 rfl W12 2 rfl (Nat.le_of_ble_eq_true rfl), C12⟩
    · skip
      have C13 : Go p e below TS2 (mkF m 48 #[.val (.int p1), .val (.int p2), .val (.long p3), .second, .val (.long p4), .second, .val (.long p5), .second, .val (.long p6), .second, .val (.int n), .val (.ref b3), .unset, .unset, .unset, .unset, .unset] []) s₁ F0 := fun t k => CS2 t (by
        refine XS.iload LS2.here hx rfl (hb hby at_36) rfl ?_
        show Steps p.tables e below (TS2.setTop (mkF m 38 #[.val (.int p1), .val (.int p2), .val (.long p3), .second, .val (.long p4), .second, .val (.long p5), .second, .val (.long p6), .second, .val (.int n), .val (.ref b3), .unset, .unset, .unset, .unset, .unset] [(.int n)])) _
        refine XS.iconst LS2.here hx rfl (hb hby at_38) ?_
        show Steps p.tables e below (TS2.setTop (mkF m 39 #[.val (.int p1), .val (.int p2), .val (.long p3), .second, .val (.long p4), .second, .val (.long p5), .second, .val (.long p6), .second, .val (.int n), .val (.ref b3), .unset, .unset, .unset, .unset, .unset] [(.int (2 : Int32)), (.int n)])) _
        refine XS.icmpYes LS2.here hx rfl (pc0 := 39) (pc' := 48) rfl (hb hby at_39) rfl (flt c).2.2.2 (by decide) (by decide) ?_
        exact k)
      exact ⟨_, _, _, LS2, eS2, NS2, own_skip VS2 2 (own_nat c rfl) _, C13⟩
  obtain ⟨TS4, hS4, lS4, LS4, eS4, NS4, VS4, CS4⟩ : ∃ (T' : State) (h' : Heap) (ls : List Loc), Stand p l e room_1 s m #[(.int p1), (.int p2), (.long p3), (.long p4), (.long p5), (.long p6)] below meth c T' ls 1 4 ∧ T'.heap = h' ∧ Fr n0 ls ∧ Arv Z h' b3 k3 .long n [.long p3, .long p4, .long p5, .long p6] (.long 0) ∧ Go p e below T' (mkF m 60 #[.val (.int p1), .val (.int p2), .val (.long p3), .second, .val (.long p4), .second, .val (.long p5), .second, .val (.long p6), .second, .val (.int n), .val (.ref b3), .unset, .unset, .unset, .unset, .unset] []) s₁ F0 := by
    by_cases c : (3 : Int32) < n
    · skip
      have C14 : Go p e below TS3 (mkF m 59 #[.val (.int p1), .val (.int p2), .val (.long p3), .second, .val (.long p4), .second, .val (.long p5), .second, .val (.long p6), .second, .val (.int n), .val (.ref b3), .unset, .unset, .unset, .unset, .unset] [(.long p6), (.int (3 : Int32)), (.ref b3)]) s₁ F0 := fun t k => CS3 t (by
        refine XS.iload LS3.here hx rfl (hb hby at_48) rfl ?_
        show Steps p.tables e below (TS3.setTop (mkF m 50 #[.val (.int p1), .val (.int p2), .val (.long p3), .second, .val (.long p4), .second, .val (.long p5), .second, .val (.long p6), .second, .val (.int n), .val (.ref b3), .unset, .unset, .unset, .unset, .unset] [(.int n)])) _
        refine XS.iconst LS3.here hx rfl (hb hby at_50) ?_
        show Steps p.tables e below (TS3.setTop (mkF m 51 #[.val (.int p1), .val (.int p2), .val (.long p3), .second, .val (.long p4), .second, .val (.long p5), .second, .val (.long p6), .second, .val (.int n), .val (.ref b3), .unset, .unset, .unset, .unset, .unset] [(.int (3 : Int32)), (.int n)])) _
        refine XS.icmpNo LS3.here hx rfl (hb hby at_51) rfl (tlt c).2.2.2 ?_
        show Steps p.tables e below (TS3.setTop (mkF m 54 #[.val (.int p1), .val (.int p2), .val (.long p3), .second, .val (.long p4), .second, .val (.long p5), .second, .val (.long p6), .second, .val (.int n), .val (.ref b3), .unset, .unset, .unset, .unset, .unset] [])) _
        refine XS.aload LS3.here hx rfl (hb hby at_54) rfl rfl ?_
        show Steps p.tables e below (TS3.setTop (mkF m 56 #[.val (.int p1), .val (.int p2), .val (.long p3), .second, .val (.long p4), .second, .val (.long p5), .second, .val (.long p6), .second, .val (.int n), .val (.ref b3), .unset, .unset, .unset, .unset, .unset] [(.ref b3)])) _
        refine XS.iconst LS3.here hx rfl (hb hby at_56) ?_
        show Steps p.tables e below (TS3.setTop (mkF m 57 #[.val (.int p1), .val (.int p2), .val (.long p3), .second, .val (.long p4), .second, .val (.long p5), .second, .val (.long p6), .second, .val (.int n), .val (.ref b3), .unset, .unset, .unset, .unset, .unset] [(.int (3 : Int32)), (.ref b3)])) _
        refine XS.lload LS3.here hx rfl (hb hby at_57) rfl ?_
        exact k)
      obtain ⟨cl0, Ar0, q0, S0, M0, H0, G0⟩ := VS3
      obtain ⟨T15, h15, X15, e15, W15, st15⟩ := stJ LS3 hx hZ eS3 Ar0 (j := (3 : Int32)) (inb_of S0 ⟨by decide, c⟩) (g := (mkF m 59 #[.val (.int p1), .val (.int p2), .val (.long p3), .second, .val (.long p4), .second, .val (.long p5), .second, .val (.long p6), .second, .val (.int n), .val (.ref b3), .unset, .unset, .unset, .unset, .unset] [(.long p6), (.int (3 : Int32)), (.ref b3)])) rfl rfl (hb hby at_59)
      have C15 : Go p e below T15 (mkF m 60 #[.val (.int p1), .val (.int p2), .val (.long p3), .second, .val (.long p4), .second, .val (.long p5), .second, .val (.long p6), .second, .val (.int n), .val (.ref b3), .unset, .unset, .unset, .unset, .unset] []) s₁ F0 := fun t k => C14 t (st15 t k)
      exact ⟨_, _, _, X15, e15, Fr.snoc X15 NS3 gb, Arv.set Ar0 q0 S0 M0 H0 G0 rfl W15 3 rfl (Nat.le_of_ble_eq_true rfl), C15⟩
    · skip
      have C16 : Go p e below TS3 (mkF m 60 #[.val (.int p1), .val (.int p2), .val (.long p3), .second, .val (.long p4), .second, .val (.long p5), .second, .val (.long p6), .second, .val (.int n), .val (.ref b3), .unset, .unset, .unset, .unset, .unset] []) s₁ F0 := fun t k => CS3 t (by
        refine XS.iload LS3.here hx rfl (hb hby at_48) rfl ?_
        show Steps p.tables e below (TS3.setTop (mkF m 50 #[.val (.int p1), .val (.int p2), .val (.long p3), .second, .val (.long p4), .second, .val (.long p5), .second, .val (.long p6), .second, .val (.int n), .val (.ref b3), .unset, .unset, .unset, .unset, .unset] [(.int n)])) _
        refine XS.iconst LS3.here hx rfl (hb hby at_50) ?_
        show Steps p.tables e below (TS3.setTop (mkF m 51 #[.val (.int p1), .val (.int p2), .val (.long p3), .second, .val (.long p4), .second, .val (.long p5), .second, .val (.long p6), .second, .val (.int n), .val (.ref b3), .unset, .unset, .unset, .unset, .unset] [(.int (3 : Int32)), (.int n)])) _
        refine XS.icmpYes LS3.here hx rfl (pc0 := 51) (pc' := 60) rfl (hb hby at_51) rfl (flt c).2.2.2 (by decide) (by decide) ?_
        exact k)
      exact ⟨_, _, _, LS3, eS3, NS3, own_skip VS3 3 (own_nat c rfl) _, C16⟩
  have C17 : Go p e below TS4 (mkF m 63 #[.val (.int p1), .val (.int p2), .val (.long p3), .second, .val (.long p4), .second, .val (.long p5), .second, .val (.long p6), .second, .val (.int n), .val (.ref b3), .val (.long (0 : Int64)), .second, .unset, .unset, .unset] []) s₁ F0 := fun t k => CS4 t (by
    refine XS.lconst LS4.here hx rfl (hb hby at_60) ?_
    show Steps p.tables e below (TS4.setTop (mkF m 61 #[.val (.int p1), .val (.int p2), .val (.long p3), .second, .val (.long p4), .second, .val (.long p5), .second, .val (.long p6), .second, .val (.int n), .val (.ref b3), .unset, .unset, .unset, .unset, .unset] [(.long (0 : Int64))])) _
    refine XS.lstore LS4.here hx rfl (hb hby at_61) rfl (l' := #[.val (.int p1), .val (.int p2), .val (.long p3), .second, .val (.long p4), .second, .val (.long p5), .second, .val (.long p6), .second, .val (.int n), .val (.ref b3), .val (.long (0 : Int64)), .second, .unset, .unset, .unset]) rfl ?_
    exact k)
  have CE : Go p e below TS4 (mkF m 129 #[.val (.int p1), .val (.int p2), .val (.long p3), .second, .val (.long p4), .second, .val (.long p5), .second, .val (.long p6), .second, .val (.int n), .val (.ref b3), .val (.long (own_exp n p2 p3 p4 p5 p6)), .second, .unset, .unset, .unset] []) s₁ F0 := by
    by_cases c0 : p2 = 0
    · by_cases d0 : 0 < n
      · skip
        have C18 : Go p e below TS4 (mkF m 129 #[.val (.int p1), .val (.int p2), .val (.long p3), .second, .val (.long p4), .second, .val (.long p5), .second, .val (.long p6), .second, .val (.int n), .val (.ref b3), .val (.long p3), .second, .unset, .unset, .unset] []) s₁ F0 := fun t k => C17 t (by
          refine XS.iloadN LS4.here hx rfl (hb hby at_63) rfl ?_
          show Steps p.tables e below (TS4.setTop (mkF m 64 #[.val (.int p1), .val (.int p2), .val (.long p3), .second, .val (.long p4), .second, .val (.long p5), .second, .val (.long p6), .second, .val (.int n), .val (.ref b3), .val (.long (0 : Int64)), .second, .unset, .unset, .unset] [(.int p2)])) _
          refine XS.ifNo LS4.here hx rfl (hb hby at_64) rfl ((if0 _ _).trans (teq c0).2) ?_
          show Steps p.tables e below (TS4.setTop (mkF m 67 #[.val (.int p1), .val (.int p2), .val (.long p3), .second, .val (.long p4), .second, .val (.long p5), .second, .val (.long p6), .second, .val (.int n), .val (.ref b3), .val (.long (0 : Int64)), .second, .unset, .unset, .unset] [])) _
          refine XS.iload LS4.here hx rfl (hb hby at_67) rfl ?_
          show Steps p.tables e below (TS4.setTop (mkF m 69 #[.val (.int p1), .val (.int p2), .val (.long p3), .second, .val (.long p4), .second, .val (.long p5), .second, .val (.long p6), .second, .val (.int n), .val (.ref b3), .val (.long (0 : Int64)), .second, .unset, .unset, .unset] [(.int n)])) _
          refine XS.ifNo LS4.here hx rfl (hb hby at_69) rfl ((if0 _ _).trans (tlt d0).2.2.2) ?_
          show Steps p.tables e below (TS4.setTop (mkF m 72 #[.val (.int p1), .val (.int p2), .val (.long p3), .second, .val (.long p4), .second, .val (.long p5), .second, .val (.long p6), .second, .val (.int n), .val (.ref b3), .val (.long (0 : Int64)), .second, .unset, .unset, .unset] [])) _
          refine XS.lloadN LS4.here hx rfl (hb hby at_72) rfl ?_
          show Steps p.tables e below (TS4.setTop (mkF m 73 #[.val (.int p1), .val (.int p2), .val (.long p3), .second, .val (.long p4), .second, .val (.long p5), .second, .val (.long p6), .second, .val (.int n), .val (.ref b3), .val (.long (0 : Int64)), .second, .unset, .unset, .unset] [(.long p3)])) _
          refine XS.lstore LS4.here hx rfl (hb hby at_73) rfl (l' := #[.val (.int p1), .val (.int p2), .val (.long p3), .second, .val (.long p4), .second, .val (.long p5), .second, .val (.long p6), .second, .val (.int n), .val (.ref b3), .val (.long p3), .second, .unset, .unset, .unset]) rfl ?_
          show Steps p.tables e below (TS4.setTop (mkF m 75 #[.val (.int p1), .val (.int p2), .val (.long p3), .second, .val (.long p4), .second, .val (.long p5), .second, .val (.long p6), .second, .val (.int n), .val (.ref b3), .val (.long p3), .second, .unset, .unset, .unset] [])) _
          refine XS.goto LS4.here hx rfl (pc0 := 75) (pc' := 129) rfl (hb hby at_75) (by decide) (by decide) ?_
          exact k)
        rw [own_e0 c0 d0]
        exact C18
      · skip
        have C19 : Go p e below TS4 (mkF m 129 #[.val (.int p1), .val (.int p2), .val (.long p3), .second, .val (.long p4), .second, .val (.long p5), .second, .val (.long p6), .second, .val (.int n), .val (.ref b3), .val (.long (0 : Int64)), .second, .unset, .unset, .unset] []) s₁ F0 := fun t k => C17 t (by
          refine XS.iloadN LS4.here hx rfl (hb hby at_63) rfl ?_
          show Steps p.tables e below (TS4.setTop (mkF m 64 #[.val (.int p1), .val (.int p2), .val (.long p3), .second, .val (.long p4), .second, .val (.long p5), .second, .val (.long p6), .second, .val (.int n), .val (.ref b3), .val (.long (0 : Int64)), .second, .unset, .unset, .unset] [(.int p2)])) _
          refine XS.ifNo LS4.here hx rfl (hb hby at_64) rfl ((if0 _ _).trans (teq c0).2) ?_
          show Steps p.tables e below (TS4.setTop (mkF m 67 #[.val (.int p1), .val (.int p2), .val (.long p3), .second, .val (.long p4), .second, .val (.long p5), .second, .val (.long p6), .second, .val (.int n), .val (.ref b3), .val (.long (0 : Int64)), .second, .unset, .unset, .unset] [])) _
          refine XS.iload LS4.here hx rfl (hb hby at_67) rfl ?_
          show Steps p.tables e below (TS4.setTop (mkF m 69 #[.val (.int p1), .val (.int p2), .val (.long p3), .second, .val (.long p4), .second, .val (.long p5), .second, .val (.long p6), .second, .val (.int n), .val (.ref b3), .val (.long (0 : Int64)), .second, .unset, .unset, .unset] [(.int n)])) _
          refine XS.ifYes LS4.here hx rfl (pc0 := 69) (pc' := 78) rfl (hb hby at_69) rfl ((if0 _ _).trans (flt d0).2.2.2) (by decide) (by decide) ?_
          show Steps p.tables e below (TS4.setTop (mkF m 78 #[.val (.int p1), .val (.int p2), .val (.long p3), .second, .val (.long p4), .second, .val (.long p5), .second, .val (.long p6), .second, .val (.int n), .val (.ref b3), .val (.long (0 : Int64)), .second, .unset, .unset, .unset] [])) _
          refine XS.iloadN LS4.here hx rfl (hb hby at_78) rfl ?_
          show Steps p.tables e below (TS4.setTop (mkF m 79 #[.val (.int p1), .val (.int p2), .val (.long p3), .second, .val (.long p4), .second, .val (.long p5), .second, .val (.long p6), .second, .val (.int n), .val (.ref b3), .val (.long (0 : Int64)), .second, .unset, .unset, .unset] [(.int p2)])) _
          refine XS.iconst LS4.here hx rfl (hb hby at_79) ?_
          show Steps p.tables e below (TS4.setTop (mkF m 80 #[.val (.int p1), .val (.int p2), .val (.long p3), .second, .val (.long p4), .second, .val (.long p5), .second, .val (.long p6), .second, .val (.int n), .val (.ref b3), .val (.long (0 : Int64)), .second, .unset, .unset, .unset] [(.int (1 : Int32)), (.int p2)])) _
          refine XS.icmpYes LS4.here hx rfl (pc0 := 80) (pc' := 96) rfl (hb hby at_80) rfl (feq (fun h => absurd (c0.symm.trans h) (by decide))).2 (by decide) (by decide) ?_
          show Steps p.tables e below (TS4.setTop (mkF m 96 #[.val (.int p1), .val (.int p2), .val (.long p3), .second, .val (.long p4), .second, .val (.long p5), .second, .val (.long p6), .second, .val (.int n), .val (.ref b3), .val (.long (0 : Int64)), .second, .unset, .unset, .unset] [])) _
          refine XS.iloadN LS4.here hx rfl (hb hby at_96) rfl ?_
          show Steps p.tables e below (TS4.setTop (mkF m 97 #[.val (.int p1), .val (.int p2), .val (.long p3), .second, .val (.long p4), .second, .val (.long p5), .second, .val (.long p6), .second, .val (.int n), .val (.ref b3), .val (.long (0 : Int64)), .second, .unset, .unset, .unset] [(.int p2)])) _
          refine XS.iconst LS4.here hx rfl (hb hby at_97) ?_
          show Steps p.tables e below (TS4.setTop (mkF m 98 #[.val (.int p1), .val (.int p2), .val (.long p3), .second, .val (.long p4), .second, .val (.long p5), .second, .val (.long p6), .second, .val (.int n), .val (.ref b3), .val (.long (0 : Int64)), .second, .unset, .unset, .unset] [(.int (2 : Int32)), (.int p2)])) _
          refine XS.icmpYes LS4.here hx rfl (pc0 := 98) (pc' := 114) rfl (hb hby at_98) rfl (feq (fun h => absurd (c0.symm.trans h) (by decide))).2 (by decide) (by decide) ?_
          show Steps p.tables e below (TS4.setTop (mkF m 114 #[.val (.int p1), .val (.int p2), .val (.long p3), .second, .val (.long p4), .second, .val (.long p5), .second, .val (.long p6), .second, .val (.int n), .val (.ref b3), .val (.long (0 : Int64)), .second, .unset, .unset, .unset] [])) _
          refine XS.iloadN LS4.here hx rfl (hb hby at_114) rfl ?_
          show Steps p.tables e below (TS4.setTop (mkF m 115 #[.val (.int p1), .val (.int p2), .val (.long p3), .second, .val (.long p4), .second, .val (.long p5), .second, .val (.long p6), .second, .val (.int n), .val (.ref b3), .val (.long (0 : Int64)), .second, .unset, .unset, .unset] [(.int p2)])) _
          refine XS.iconst LS4.here hx rfl (hb hby at_115) ?_
          show Steps p.tables e below (TS4.setTop (mkF m 116 #[.val (.int p1), .val (.int p2), .val (.long p3), .second, .val (.long p4), .second, .val (.long p5), .second, .val (.long p6), .second, .val (.int n), .val (.ref b3), .val (.long (0 : Int64)), .second, .unset, .unset, .unset] [(.int (3 : Int32)), (.int p2)])) _
          refine XS.icmpYes LS4.here hx rfl (pc0 := 116) (pc' := 129) rfl (hb hby at_116) rfl (feq (fun h => absurd (c0.symm.trans h) (by decide))).2 (by decide) (by decide) ?_
          exact k)
        rw [own_ez (fun h => d0 h.2) (fun h => absurd (c0.symm.trans h.1) (by decide)) (fun h => absurd (c0.symm.trans h.1) (by decide)) (fun h => absurd (c0.symm.trans h.1) (by decide))]
        exact C19
    · by_cases c1 : p2 = 1
      · by_cases d1 : 1 < n
        · skip
          have C20 : Go p e below TS4 (mkF m 129 #[.val (.int p1), .val (.int p2), .val (.long p3), .second, .val (.long p4), .second, .val (.long p5), .second, .val (.long p6), .second, .val (.int n), .val (.ref b3), .val (.long p4), .second, .unset, .unset, .unset] []) s₁ F0 := fun t k => C17 t (by
            refine XS.iloadN LS4.here hx rfl (hb hby at_63) rfl ?_
            show Steps p.tables e below (TS4.setTop (mkF m 64 #[.val (.int p1), .val (.int p2), .val (.long p3), .second, .val (.long p4), .second, .val (.long p5), .second, .val (.long p6), .second, .val (.int n), .val (.ref b3), .val (.long (0 : Int64)), .second, .unset, .unset, .unset] [(.int p2)])) _
            refine XS.ifYes LS4.here hx rfl (pc0 := 64) (pc' := 78) rfl (hb hby at_64) rfl ((if0 _ _).trans (feq c0).2) (by decide) (by decide) ?_
            show Steps p.tables e below (TS4.setTop (mkF m 78 #[.val (.int p1), .val (.int p2), .val (.long p3), .second, .val (.long p4), .second, .val (.long p5), .second, .val (.long p6), .second, .val (.int n), .val (.ref b3), .val (.long (0 : Int64)), .second, .unset, .unset, .unset] [])) _
            refine XS.iloadN LS4.here hx rfl (hb hby at_78) rfl ?_
            show Steps p.tables e below (TS4.setTop (mkF m 79 #[.val (.int p1), .val (.int p2), .val (.long p3), .second, .val (.long p4), .second, .val (.long p5), .second, .val (.long p6), .second, .val (.int n), .val (.ref b3), .val (.long (0 : Int64)), .second, .unset, .unset, .unset] [(.int p2)])) _
            refine XS.iconst LS4.here hx rfl (hb hby at_79) ?_
            show Steps p.tables e below (TS4.setTop (mkF m 80 #[.val (.int p1), .val (.int p2), .val (.long p3), .second, .val (.long p4), .second, .val (.long p5), .second, .val (.long p6), .second, .val (.int n), .val (.ref b3), .val (.long (0 : Int64)), .second, .unset, .unset, .unset] [(.int (1 : Int32)), (.int p2)])) _
            refine XS.icmpNo LS4.here hx rfl (hb hby at_80) rfl (teq c1).2 ?_
            show Steps p.tables e below (TS4.setTop (mkF m 83 #[.val (.int p1), .val (.int p2), .val (.long p3), .second, .val (.long p4), .second, .val (.long p5), .second, .val (.long p6), .second, .val (.int n), .val (.ref b3), .val (.long (0 : Int64)), .second, .unset, .unset, .unset] [])) _
            refine XS.iload LS4.here hx rfl (hb hby at_83) rfl ?_
            show Steps p.tables e below (TS4.setTop (mkF m 85 #[.val (.int p1), .val (.int p2), .val (.long p3), .second, .val (.long p4), .second, .val (.long p5), .second, .val (.long p6), .second, .val (.int n), .val (.ref b3), .val (.long (0 : Int64)), .second, .unset, .unset, .unset] [(.int n)])) _
            refine XS.iconst LS4.here hx rfl (hb hby at_85) ?_
            show Steps p.tables e below (TS4.setTop (mkF m 86 #[.val (.int p1), .val (.int p2), .val (.long p3), .second, .val (.long p4), .second, .val (.long p5), .second, .val (.long p6), .second, .val (.int n), .val (.ref b3), .val (.long (0 : Int64)), .second, .unset, .unset, .unset] [(.int (1 : Int32)), (.int n)])) _
            refine XS.icmpNo LS4.here hx rfl (hb hby at_86) rfl (tlt d1).2.2.2 ?_
            show Steps p.tables e below (TS4.setTop (mkF m 89 #[.val (.int p1), .val (.int p2), .val (.long p3), .second, .val (.long p4), .second, .val (.long p5), .second, .val (.long p6), .second, .val (.int n), .val (.ref b3), .val (.long (0 : Int64)), .second, .unset, .unset, .unset] [])) _
            refine XS.lload LS4.here hx rfl (hb hby at_89) rfl ?_
            show Steps p.tables e below (TS4.setTop (mkF m 91 #[.val (.int p1), .val (.int p2), .val (.long p3), .second, .val (.long p4), .second, .val (.long p5), .second, .val (.long p6), .second, .val (.int n), .val (.ref b3), .val (.long (0 : Int64)), .second, .unset, .unset, .unset] [(.long p4)])) _
            refine XS.lstore LS4.here hx rfl (hb hby at_91) rfl (l' := #[.val (.int p1), .val (.int p2), .val (.long p3), .second, .val (.long p4), .second, .val (.long p5), .second, .val (.long p6), .second, .val (.int n), .val (.ref b3), .val (.long p4), .second, .unset, .unset, .unset]) rfl ?_
            show Steps p.tables e below (TS4.setTop (mkF m 93 #[.val (.int p1), .val (.int p2), .val (.long p3), .second, .val (.long p4), .second, .val (.long p5), .second, .val (.long p6), .second, .val (.int n), .val (.ref b3), .val (.long p4), .second, .unset, .unset, .unset] [])) _
            refine XS.goto LS4.here hx rfl (pc0 := 93) (pc' := 129) rfl (hb hby at_93) (by decide) (by decide) ?_
            exact k)
          rw [own_e1 c1 d1]
          exact C20
        · skip
          have C21 : Go p e below TS4 (mkF m 129 #[.val (.int p1), .val (.int p2), .val (.long p3), .second, .val (.long p4), .second, .val (.long p5), .second, .val (.long p6), .second, .val (.int n), .val (.ref b3), .val (.long (0 : Int64)), .second, .unset, .unset, .unset] []) s₁ F0 := fun t k => C17 t (by
            refine XS.iloadN LS4.here hx rfl (hb hby at_63) rfl ?_
            show Steps p.tables e below (TS4.setTop (mkF m 64 #[.val (.int p1), .val (.int p2), .val (.long p3), .second, .val (.long p4), .second, .val (.long p5), .second, .val (.long p6), .second, .val (.int n), .val (.ref b3), .val (.long (0 : Int64)), .second, .unset, .unset, .unset] [(.int p2)])) _
            refine XS.ifYes LS4.here hx rfl (pc0 := 64) (pc' := 78) rfl (hb hby at_64) rfl ((if0 _ _).trans (feq c0).2) (by decide) (by decide) ?_
            show Steps p.tables e below (TS4.setTop (mkF m 78 #[.val (.int p1), .val (.int p2), .val (.long p3), .second, .val (.long p4), .second, .val (.long p5), .second, .val (.long p6), .second, .val (.int n), .val (.ref b3), .val (.long (0 : Int64)), .second, .unset, .unset, .unset] [])) _
            refine XS.iloadN LS4.here hx rfl (hb hby at_78) rfl ?_
            show Steps p.tables e below (TS4.setTop (mkF m 79 #[.val (.int p1), .val (.int p2), .val (.long p3), .second, .val (.long p4), .second, .val (.long p5), .second, .val (.long p6), .second, .val (.int n), .val (.ref b3), .val (.long (0 : Int64)), .second, .unset, .unset, .unset] [(.int p2)])) _
            refine XS.iconst LS4.here hx rfl (hb hby at_79) ?_
            show Steps p.tables e below (TS4.setTop (mkF m 80 #[.val (.int p1), .val (.int p2), .val (.long p3), .second, .val (.long p4), .second, .val (.long p5), .second, .val (.long p6), .second, .val (.int n), .val (.ref b3), .val (.long (0 : Int64)), .second, .unset, .unset, .unset] [(.int (1 : Int32)), (.int p2)])) _
            refine XS.icmpNo LS4.here hx rfl (hb hby at_80) rfl (teq c1).2 ?_
            show Steps p.tables e below (TS4.setTop (mkF m 83 #[.val (.int p1), .val (.int p2), .val (.long p3), .second, .val (.long p4), .second, .val (.long p5), .second, .val (.long p6), .second, .val (.int n), .val (.ref b3), .val (.long (0 : Int64)), .second, .unset, .unset, .unset] [])) _
            refine XS.iload LS4.here hx rfl (hb hby at_83) rfl ?_
            show Steps p.tables e below (TS4.setTop (mkF m 85 #[.val (.int p1), .val (.int p2), .val (.long p3), .second, .val (.long p4), .second, .val (.long p5), .second, .val (.long p6), .second, .val (.int n), .val (.ref b3), .val (.long (0 : Int64)), .second, .unset, .unset, .unset] [(.int n)])) _
            refine XS.iconst LS4.here hx rfl (hb hby at_85) ?_
            show Steps p.tables e below (TS4.setTop (mkF m 86 #[.val (.int p1), .val (.int p2), .val (.long p3), .second, .val (.long p4), .second, .val (.long p5), .second, .val (.long p6), .second, .val (.int n), .val (.ref b3), .val (.long (0 : Int64)), .second, .unset, .unset, .unset] [(.int (1 : Int32)), (.int n)])) _
            refine XS.icmpYes LS4.here hx rfl (pc0 := 86) (pc' := 96) rfl (hb hby at_86) rfl (flt d1).2.2.2 (by decide) (by decide) ?_
            show Steps p.tables e below (TS4.setTop (mkF m 96 #[.val (.int p1), .val (.int p2), .val (.long p3), .second, .val (.long p4), .second, .val (.long p5), .second, .val (.long p6), .second, .val (.int n), .val (.ref b3), .val (.long (0 : Int64)), .second, .unset, .unset, .unset] [])) _
            refine XS.iloadN LS4.here hx rfl (hb hby at_96) rfl ?_
            show Steps p.tables e below (TS4.setTop (mkF m 97 #[.val (.int p1), .val (.int p2), .val (.long p3), .second, .val (.long p4), .second, .val (.long p5), .second, .val (.long p6), .second, .val (.int n), .val (.ref b3), .val (.long (0 : Int64)), .second, .unset, .unset, .unset] [(.int p2)])) _
            refine XS.iconst LS4.here hx rfl (hb hby at_97) ?_
            show Steps p.tables e below (TS4.setTop (mkF m 98 #[.val (.int p1), .val (.int p2), .val (.long p3), .second, .val (.long p4), .second, .val (.long p5), .second, .val (.long p6), .second, .val (.int n), .val (.ref b3), .val (.long (0 : Int64)), .second, .unset, .unset, .unset] [(.int (2 : Int32)), (.int p2)])) _
            refine XS.icmpYes LS4.here hx rfl (pc0 := 98) (pc' := 114) rfl (hb hby at_98) rfl (feq (fun h => absurd (c1.symm.trans h) (by decide))).2 (by decide) (by decide) ?_
            show Steps p.tables e below (TS4.setTop (mkF m 114 #[.val (.int p1), .val (.int p2), .val (.long p3), .second, .val (.long p4), .second, .val (.long p5), .second, .val (.long p6), .second, .val (.int n), .val (.ref b3), .val (.long (0 : Int64)), .second, .unset, .unset, .unset] [])) _
            refine XS.iloadN LS4.here hx rfl (hb hby at_114) rfl ?_
            show Steps p.tables e below (TS4.setTop (mkF m 115 #[.val (.int p1), .val (.int p2), .val (.long p3), .second, .val (.long p4), .second, .val (.long p5), .second, .val (.long p6), .second, .val (.int n), .val (.ref b3), .val (.long (0 : Int64)), .second, .unset, .unset, .unset] [(.int p2)])) _
            refine XS.iconst LS4.here hx rfl (hb hby at_115) ?_
            show Steps p.tables e below (TS4.setTop (mkF m 116 #[.val (.int p1), .val (.int p2), .val (.long p3), .second, .val (.long p4), .second, .val (.long p5), .second, .val (.long p6), .second, .val (.int n), .val (.ref b3), .val (.long (0 : Int64)), .second, .unset, .unset, .unset] [(.int (3 : Int32)), (.int p2)])) _
            refine XS.icmpYes LS4.here hx rfl (pc0 := 116) (pc' := 129) rfl (hb hby at_116) rfl (feq (fun h => absurd (c1.symm.trans h) (by decide))).2 (by decide) (by decide) ?_
            exact k)
          rw [own_ez (fun h => c0 h.1) (fun h => d1 h.2) (fun h => absurd (c1.symm.trans h.1) (by decide)) (fun h => absurd (c1.symm.trans h.1) (by decide))]
          exact C21
      · by_cases c2 : p2 = 2
        · by_cases d2 : 2 < n
          · skip
            have C22 : Go p e below TS4 (mkF m 129 #[.val (.int p1), .val (.int p2), .val (.long p3), .second, .val (.long p4), .second, .val (.long p5), .second, .val (.long p6), .second, .val (.int n), .val (.ref b3), .val (.long p5), .second, .unset, .unset, .unset] []) s₁ F0 := fun t k => C17 t (by
              refine XS.iloadN LS4.here hx rfl (hb hby at_63) rfl ?_
              show Steps p.tables e below (TS4.setTop (mkF m 64 #[.val (.int p1), .val (.int p2), .val (.long p3), .second, .val (.long p4), .second, .val (.long p5), .second, .val (.long p6), .second, .val (.int n), .val (.ref b3), .val (.long (0 : Int64)), .second, .unset, .unset, .unset] [(.int p2)])) _
              refine XS.ifYes LS4.here hx rfl (pc0 := 64) (pc' := 78) rfl (hb hby at_64) rfl ((if0 _ _).trans (feq c0).2) (by decide) (by decide) ?_
              show Steps p.tables e below (TS4.setTop (mkF m 78 #[.val (.int p1), .val (.int p2), .val (.long p3), .second, .val (.long p4), .second, .val (.long p5), .second, .val (.long p6), .second, .val (.int n), .val (.ref b3), .val (.long (0 : Int64)), .second, .unset, .unset, .unset] [])) _
              refine XS.iloadN LS4.here hx rfl (hb hby at_78) rfl ?_
              show Steps p.tables e below (TS4.setTop (mkF m 79 #[.val (.int p1), .val (.int p2), .val (.long p3), .second, .val (.long p4), .second, .val (.long p5), .second, .val (.long p6), .second, .val (.int n), .val (.ref b3), .val (.long (0 : Int64)), .second, .unset, .unset, .unset] [(.int p2)])) _
              refine XS.iconst LS4.here hx rfl (hb hby at_79) ?_
              show Steps p.tables e below (TS4.setTop (mkF m 80 #[.val (.int p1), .val (.int p2), .val (.long p3), .second, .val (.long p4), .second, .val (.long p5), .second, .val (.long p6), .second, .val (.int n), .val (.ref b3), .val (.long (0 : Int64)), .second, .unset, .unset, .unset] [(.int (1 : Int32)), (.int p2)])) _
              refine XS.icmpYes LS4.here hx rfl (pc0 := 80) (pc' := 96) rfl (hb hby at_80) rfl (feq c1).2 (by decide) (by decide) ?_
              show Steps p.tables e below (TS4.setTop (mkF m 96 #[.val (.int p1), .val (.int p2), .val (.long p3), .second, .val (.long p4), .second, .val (.long p5), .second, .val (.long p6), .second, .val (.int n), .val (.ref b3), .val (.long (0 : Int64)), .second, .unset, .unset, .unset] [])) _
              refine XS.iloadN LS4.here hx rfl (hb hby at_96) rfl ?_
              show Steps p.tables e below (TS4.setTop (mkF m 97 #[.val (.int p1), .val (.int p2), .val (.long p3), .second, .val (.long p4), .second, .val (.long p5), .second, .val (.long p6), .second, .val (.int n), .val (.ref b3), .val (.long (0 : Int64)), .second, .unset, .unset, .unset] [(.int p2)])) _
              refine XS.iconst LS4.here hx rfl (hb hby at_97) ?_
              show Steps p.tables e below (TS4.setTop (mkF m 98 #[.val (.int p1), .val (.int p2), .val (.long p3), .second, .val (.long p4), .second, .val (.long p5), .second, .val (.long p6), .second, .val (.int n), .val (.ref b3), .val (.long (0 : Int64)), .second, .unset, .unset, .unset] [(.int (2 : Int32)), (.int p2)])) _
              refine XS.icmpNo LS4.here hx rfl (hb hby at_98) rfl (teq c2).2 ?_
              show Steps p.tables e below (TS4.setTop (mkF m 101 #[.val (.int p1), .val (.int p2), .val (.long p3), .second, .val (.long p4), .second, .val (.long p5), .second, .val (.long p6), .second, .val (.int n), .val (.ref b3), .val (.long (0 : Int64)), .second, .unset, .unset, .unset] [])) _
              refine XS.iload LS4.here hx rfl (hb hby at_101) rfl ?_
              show Steps p.tables e below (TS4.setTop (mkF m 103 #[.val (.int p1), .val (.int p2), .val (.long p3), .second, .val (.long p4), .second, .val (.long p5), .second, .val (.long p6), .second, .val (.int n), .val (.ref b3), .val (.long (0 : Int64)), .second, .unset, .unset, .unset] [(.int n)])) _
              refine XS.iconst LS4.here hx rfl (hb hby at_103) ?_
              show Steps p.tables e below (TS4.setTop (mkF m 104 #[.val (.int p1), .val (.int p2), .val (.long p3), .second, .val (.long p4), .second, .val (.long p5), .second, .val (.long p6), .second, .val (.int n), .val (.ref b3), .val (.long (0 : Int64)), .second, .unset, .unset, .unset] [(.int (2 : Int32)), (.int n)])) _
              refine XS.icmpNo LS4.here hx rfl (hb hby at_104) rfl (tlt d2).2.2.2 ?_
              show Steps p.tables e below (TS4.setTop (mkF m 107 #[.val (.int p1), .val (.int p2), .val (.long p3), .second, .val (.long p4), .second, .val (.long p5), .second, .val (.long p6), .second, .val (.int n), .val (.ref b3), .val (.long (0 : Int64)), .second, .unset, .unset, .unset] [])) _
              refine XS.lload LS4.here hx rfl (hb hby at_107) rfl ?_
              show Steps p.tables e below (TS4.setTop (mkF m 109 #[.val (.int p1), .val (.int p2), .val (.long p3), .second, .val (.long p4), .second, .val (.long p5), .second, .val (.long p6), .second, .val (.int n), .val (.ref b3), .val (.long (0 : Int64)), .second, .unset, .unset, .unset] [(.long p5)])) _
              refine XS.lstore LS4.here hx rfl (hb hby at_109) rfl (l' := #[.val (.int p1), .val (.int p2), .val (.long p3), .second, .val (.long p4), .second, .val (.long p5), .second, .val (.long p6), .second, .val (.int n), .val (.ref b3), .val (.long p5), .second, .unset, .unset, .unset]) rfl ?_
              show Steps p.tables e below (TS4.setTop (mkF m 111 #[.val (.int p1), .val (.int p2), .val (.long p3), .second, .val (.long p4), .second, .val (.long p5), .second, .val (.long p6), .second, .val (.int n), .val (.ref b3), .val (.long p5), .second, .unset, .unset, .unset] [])) _
              refine XS.goto LS4.here hx rfl (pc0 := 111) (pc' := 129) rfl (hb hby at_111) (by decide) (by decide) ?_
              exact k)
            rw [own_e2 c2 d2]
            exact C22
          · skip
            have C23 : Go p e below TS4 (mkF m 129 #[.val (.int p1), .val (.int p2), .val (.long p3), .second, .val (.long p4), .second, .val (.long p5), .second, .val (.long p6), .second, .val (.int n), .val (.ref b3), .val (.long (0 : Int64)), .second, .unset, .unset, .unset] []) s₁ F0 := fun t k => C17 t (by
              refine XS.iloadN LS4.here hx rfl (hb hby at_63) rfl ?_
              show Steps p.tables e below (TS4.setTop (mkF m 64 #[.val (.int p1), .val (.int p2), .val (.long p3), .second, .val (.long p4), .second, .val (.long p5), .second, .val (.long p6), .second, .val (.int n), .val (.ref b3), .val (.long (0 : Int64)), .second, .unset, .unset, .unset] [(.int p2)])) _
              refine XS.ifYes LS4.here hx rfl (pc0 := 64) (pc' := 78) rfl (hb hby at_64) rfl ((if0 _ _).trans (feq c0).2) (by decide) (by decide) ?_
              show Steps p.tables e below (TS4.setTop (mkF m 78 #[.val (.int p1), .val (.int p2), .val (.long p3), .second, .val (.long p4), .second, .val (.long p5), .second, .val (.long p6), .second, .val (.int n), .val (.ref b3), .val (.long (0 : Int64)), .second, .unset, .unset, .unset] [])) _
              refine XS.iloadN LS4.here hx rfl (hb hby at_78) rfl ?_
              show Steps p.tables e below (TS4.setTop (mkF m 79 #[.val (.int p1), .val (.int p2), .val (.long p3), .second, .val (.long p4), .second, .val (.long p5), .second, .val (.long p6), .second, .val (.int n), .val (.ref b3), .val (.long (0 : Int64)), .second, .unset, .unset, .unset] [(.int p2)])) _
              refine XS.iconst LS4.here hx rfl (hb hby at_79) ?_
              show Steps p.tables e below (TS4.setTop (mkF m 80 #[.val (.int p1), .val (.int p2), .val (.long p3), .second, .val (.long p4), .second, .val (.long p5), .second, .val (.long p6), .second, .val (.int n), .val (.ref b3), .val (.long (0 : Int64)), .second, .unset, .unset, .unset] [(.int (1 : Int32)), (.int p2)])) _
              refine XS.icmpYes LS4.here hx rfl (pc0 := 80) (pc' := 96) rfl (hb hby at_80) rfl (feq c1).2 (by decide) (by decide) ?_
              show Steps p.tables e below (TS4.setTop (mkF m 96 #[.val (.int p1), .val (.int p2), .val (.long p3), .second, .val (.long p4), .second, .val (.long p5), .second, .val (.long p6), .second, .val (.int n), .val (.ref b3), .val (.long (0 : Int64)), .second, .unset, .unset, .unset] [])) _
              refine XS.iloadN LS4.here hx rfl (hb hby at_96) rfl ?_
              show Steps p.tables e below (TS4.setTop (mkF m 97 #[.val (.int p1), .val (.int p2), .val (.long p3), .second, .val (.long p4), .second, .val (.long p5), .second, .val (.long p6), .second, .val (.int n), .val (.ref b3), .val (.long (0 : Int64)), .second, .unset, .unset, .unset] [(.int p2)])) _
              refine XS.iconst LS4.here hx rfl (hb hby at_97) ?_
              show Steps p.tables e below (TS4.setTop (mkF m 98 #[.val (.int p1), .val (.int p2), .val (.long p3), .second, .val (.long p4), .second, .val (.long p5), .second, .val (.long p6), .second, .val (.int n), .val (.ref b3), .val (.long (0 : Int64)), .second, .unset, .unset, .unset] [(.int (2 : Int32)), (.int p2)])) _
              refine XS.icmpNo LS4.here hx rfl (hb hby at_98) rfl (teq c2).2 ?_
              show Steps p.tables e below (TS4.setTop (mkF m 101 #[.val (.int p1), .val (.int p2), .val (.long p3), .second, .val (.long p4), .second, .val (.long p5), .second, .val (.long p6), .second, .val (.int n), .val (.ref b3), .val (.long (0 : Int64)), .second, .unset, .unset, .unset] [])) _
              refine XS.iload LS4.here hx rfl (hb hby at_101) rfl ?_
              show Steps p.tables e below (TS4.setTop (mkF m 103 #[.val (.int p1), .val (.int p2), .val (.long p3), .second, .val (.long p4), .second, .val (.long p5), .second, .val (.long p6), .second, .val (.int n), .val (.ref b3), .val (.long (0 : Int64)), .second, .unset, .unset, .unset] [(.int n)])) _
              refine XS.iconst LS4.here hx rfl (hb hby at_103) ?_
              show Steps p.tables e below (TS4.setTop (mkF m 104 #[.val (.int p1), .val (.int p2), .val (.long p3), .second, .val (.long p4), .second, .val (.long p5), .second, .val (.long p6), .second, .val (.int n), .val (.ref b3), .val (.long (0 : Int64)), .second, .unset, .unset, .unset] [(.int (2 : Int32)), (.int n)])) _
              refine XS.icmpYes LS4.here hx rfl (pc0 := 104) (pc' := 114) rfl (hb hby at_104) rfl (flt d2).2.2.2 (by decide) (by decide) ?_
              show Steps p.tables e below (TS4.setTop (mkF m 114 #[.val (.int p1), .val (.int p2), .val (.long p3), .second, .val (.long p4), .second, .val (.long p5), .second, .val (.long p6), .second, .val (.int n), .val (.ref b3), .val (.long (0 : Int64)), .second, .unset, .unset, .unset] [])) _
              refine XS.iloadN LS4.here hx rfl (hb hby at_114) rfl ?_
              show Steps p.tables e below (TS4.setTop (mkF m 115 #[.val (.int p1), .val (.int p2), .val (.long p3), .second, .val (.long p4), .second, .val (.long p5), .second, .val (.long p6), .second, .val (.int n), .val (.ref b3), .val (.long (0 : Int64)), .second, .unset, .unset, .unset] [(.int p2)])) _
              refine XS.iconst LS4.here hx rfl (hb hby at_115) ?_
              show Steps p.tables e below (TS4.setTop (mkF m 116 #[.val (.int p1), .val (.int p2), .val (.long p3), .second, .val (.long p4), .second, .val (.long p5), .second, .val (.long p6), .second, .val (.int n), .val (.ref b3), .val (.long (0 : Int64)), .second, .unset, .unset, .unset] [(.int (3 : Int32)), (.int p2)])) _
              refine XS.icmpYes LS4.here hx rfl (pc0 := 116) (pc' := 129) rfl (hb hby at_116) rfl (feq (fun h => absurd (c2.symm.trans h) (by decide))).2 (by decide) (by decide) ?_
              exact k)
            rw [own_ez (fun h => c0 h.1) (fun h => c1 h.1) (fun h => d2 h.2) (fun h => absurd (c2.symm.trans h.1) (by decide))]
            exact C23
        · by_cases c3 : p2 = 3
          · by_cases d3 : 3 < n
            · skip
              have C24 : Go p e below TS4 (mkF m 129 #[.val (.int p1), .val (.int p2), .val (.long p3), .second, .val (.long p4), .second, .val (.long p5), .second, .val (.long p6), .second, .val (.int n), .val (.ref b3), .val (.long p6), .second, .unset, .unset, .unset] []) s₁ F0 := fun t k => C17 t (by
                refine XS.iloadN LS4.here hx rfl (hb hby at_63) rfl ?_
                show Steps p.tables e below (TS4.setTop (mkF m 64 #[.val (.int p1), .val (.int p2), .val (.long p3), .second, .val (.long p4), .second, .val (.long p5), .second, .val (.long p6), .second, .val (.int n), .val (.ref b3), .val (.long (0 : Int64)), .second, .unset, .unset, .unset] [(.int p2)])) _
                refine XS.ifYes LS4.here hx rfl (pc0 := 64) (pc' := 78) rfl (hb hby at_64) rfl ((if0 _ _).trans (feq c0).2) (by decide) (by decide) ?_
                show Steps p.tables e below (TS4.setTop (mkF m 78 #[.val (.int p1), .val (.int p2), .val (.long p3), .second, .val (.long p4), .second, .val (.long p5), .second, .val (.long p6), .second, .val (.int n), .val (.ref b3), .val (.long (0 : Int64)), .second, .unset, .unset, .unset] [])) _
                refine XS.iloadN LS4.here hx rfl (hb hby at_78) rfl ?_
                show Steps p.tables e below (TS4.setTop (mkF m 79 #[.val (.int p1), .val (.int p2), .val (.long p3), .second, .val (.long p4), .second, .val (.long p5), .second, .val (.long p6), .second, .val (.int n), .val (.ref b3), .val (.long (0 : Int64)), .second, .unset, .unset, .unset] [(.int p2)])) _
                refine XS.iconst LS4.here hx rfl (hb hby at_79) ?_
                show Steps p.tables e below (TS4.setTop (mkF m 80 #[.val (.int p1), .val (.int p2), .val (.long p3), .second, .val (.long p4), .second, .val (.long p5), .second, .val (.long p6), .second, .val (.int n), .val (.ref b3), .val (.long (0 : Int64)), .second, .unset, .unset, .unset] [(.int (1 : Int32)), (.int p2)])) _
                refine XS.icmpYes LS4.here hx rfl (pc0 := 80) (pc' := 96) rfl (hb hby at_80) rfl (feq c1).2 (by decide) (by decide) ?_
                show Steps p.tables e below (TS4.setTop (mkF m 96 #[.val (.int p1), .val (.int p2), .val (.long p3), .second, .val (.long p4), .second, .val (.long p5), .second, .val (.long p6), .second, .val (.int n), .val (.ref b3), .val (.long (0 : Int64)), .second, .unset, .unset, .unset] [])) _
                refine XS.iloadN LS4.here hx rfl (hb hby at_96) rfl ?_
                show Steps p.tables e below (TS4.setTop (mkF m 97 #[.val (.int p1), .val (.int p2), .val (.long p3), .second, .val (.long p4), .second, .val (.long p5), .second, .val (.long p6), .second, .val (.int n), .val (.ref b3), .val (.long (0 : Int64)), .second, .unset, .unset, .unset] [(.int p2)])) _
                refine XS.iconst LS4.here hx rfl (hb hby at_97) ?_
                show Steps p.tables e below (TS4.setTop (mkF m 98 #[.val (.int p1), .val (.int p2), .val (.long p3), .second, .val (.long p4), .second, .val (.long p5), .second, .val (.long p6), .second, .val (.int n), .val (.ref b3), .val (.long (0 : Int64)), .second, .unset, .unset, .unset] [(.int (2 : Int32)), (.int p2)])) _
                refine XS.icmpYes LS4.here hx rfl (pc0 := 98) (pc' := 114) rfl (hb hby at_98) rfl (feq c2).2 (by decide) (by decide) ?_
                show Steps p.tables e below (TS4.setTop (mkF m 114 #[.val (.int p1), .val (.int p2), .val (.long p3), .second, .val (.long p4), .second, .val (.long p5), .second, .val (.long p6), .second, .val (.int n), .val (.ref b3), .val (.long (0 : Int64)), .second, .unset, .unset, .unset] [])) _
                refine XS.iloadN LS4.here hx rfl (hb hby at_114) rfl ?_
                show Steps p.tables e below (TS4.setTop (mkF m 115 #[.val (.int p1), .val (.int p2), .val (.long p3), .second, .val (.long p4), .second, .val (.long p5), .second, .val (.long p6), .second, .val (.int n), .val (.ref b3), .val (.long (0 : Int64)), .second, .unset, .unset, .unset] [(.int p2)])) _
                refine XS.iconst LS4.here hx rfl (hb hby at_115) ?_
                show Steps p.tables e below (TS4.setTop (mkF m 116 #[.val (.int p1), .val (.int p2), .val (.long p3), .second, .val (.long p4), .second, .val (.long p5), .second, .val (.long p6), .second, .val (.int n), .val (.ref b3), .val (.long (0 : Int64)), .second, .unset, .unset, .unset] [(.int (3 : Int32)), (.int p2)])) _
                refine XS.icmpNo LS4.here hx rfl (hb hby at_116) rfl (teq c3).2 ?_
                show Steps p.tables e below (TS4.setTop (mkF m 119 #[.val (.int p1), .val (.int p2), .val (.long p3), .second, .val (.long p4), .second, .val (.long p5), .second, .val (.long p6), .second, .val (.int n), .val (.ref b3), .val (.long (0 : Int64)), .second, .unset, .unset, .unset] [])) _
                refine XS.iload LS4.here hx rfl (hb hby at_119) rfl ?_
                show Steps p.tables e below (TS4.setTop (mkF m 121 #[.val (.int p1), .val (.int p2), .val (.long p3), .second, .val (.long p4), .second, .val (.long p5), .second, .val (.long p6), .second, .val (.int n), .val (.ref b3), .val (.long (0 : Int64)), .second, .unset, .unset, .unset] [(.int n)])) _
                refine XS.iconst LS4.here hx rfl (hb hby at_121) ?_
                show Steps p.tables e below (TS4.setTop (mkF m 122 #[.val (.int p1), .val (.int p2), .val (.long p3), .second, .val (.long p4), .second, .val (.long p5), .second, .val (.long p6), .second, .val (.int n), .val (.ref b3), .val (.long (0 : Int64)), .second, .unset, .unset, .unset] [(.int (3 : Int32)), (.int n)])) _
                refine XS.icmpNo LS4.here hx rfl (hb hby at_122) rfl (tlt d3).2.2.2 ?_
                show Steps p.tables e below (TS4.setTop (mkF m 125 #[.val (.int p1), .val (.int p2), .val (.long p3), .second, .val (.long p4), .second, .val (.long p5), .second, .val (.long p6), .second, .val (.int n), .val (.ref b3), .val (.long (0 : Int64)), .second, .unset, .unset, .unset] [])) _
                refine XS.lload LS4.here hx rfl (hb hby at_125) rfl ?_
                show Steps p.tables e below (TS4.setTop (mkF m 127 #[.val (.int p1), .val (.int p2), .val (.long p3), .second, .val (.long p4), .second, .val (.long p5), .second, .val (.long p6), .second, .val (.int n), .val (.ref b3), .val (.long (0 : Int64)), .second, .unset, .unset, .unset] [(.long p6)])) _
                refine XS.lstore LS4.here hx rfl (hb hby at_127) rfl (l' := #[.val (.int p1), .val (.int p2), .val (.long p3), .second, .val (.long p4), .second, .val (.long p5), .second, .val (.long p6), .second, .val (.int n), .val (.ref b3), .val (.long p6), .second, .unset, .unset, .unset]) rfl ?_
                exact k)
              rw [own_e3 c3 d3]
              exact C24
            · skip
              have C25 : Go p e below TS4 (mkF m 129 #[.val (.int p1), .val (.int p2), .val (.long p3), .second, .val (.long p4), .second, .val (.long p5), .second, .val (.long p6), .second, .val (.int n), .val (.ref b3), .val (.long (0 : Int64)), .second, .unset, .unset, .unset] []) s₁ F0 := fun t k => C17 t (by
                refine XS.iloadN LS4.here hx rfl (hb hby at_63) rfl ?_
                show Steps p.tables e below (TS4.setTop (mkF m 64 #[.val (.int p1), .val (.int p2), .val (.long p3), .second, .val (.long p4), .second, .val (.long p5), .second, .val (.long p6), .second, .val (.int n), .val (.ref b3), .val (.long (0 : Int64)), .second, .unset, .unset, .unset] [(.int p2)])) _
                refine XS.ifYes LS4.here hx rfl (pc0 := 64) (pc' := 78) rfl (hb hby at_64) rfl ((if0 _ _).trans (feq c0).2) (by decide) (by decide) ?_
                show Steps p.tables e below (TS4.setTop (mkF m 78 #[.val (.int p1), .val (.int p2), .val (.long p3), .second, .val (.long p4), .second, .val (.long p5), .second, .val (.long p6), .second, .val (.int n), .val (.ref b3), .val (.long (0 : Int64)), .second, .unset, .unset, .unset] [])) _
                refine XS.iloadN LS4.here hx rfl (hb hby at_78) rfl ?_
                show Steps p.tables e below (TS4.setTop (mkF m 79 #[.val (.int p1), .val (.int p2), .val (.long p3), .second, .val (.long p4), .second, .val (.long p5), .second, .val (.long p6), .second, .val (.int n), .val (.ref b3), .val (.long (0 : Int64)), .second, .unset, .unset, .unset] [(.int p2)])) _
                refine XS.iconst LS4.here hx rfl (hb hby at_79) ?_
                show Steps p.tables e below (TS4.setTop (mkF m 80 #[.val (.int p1), .val (.int p2), .val (.long p3), .second, .val (.long p4), .second, .val (.long p5), .second, .val (.long p6), .second, .val (.int n), .val (.ref b3), .val (.long (0 : Int64)), .second, .unset, .unset, .unset] [(.int (1 : Int32)), (.int p2)])) _
                refine XS.icmpYes LS4.here hx rfl (pc0 := 80) (pc' := 96) rfl (hb hby at_80) rfl (feq c1).2 (by decide) (by decide) ?_
                show Steps p.tables e below (TS4.setTop (mkF m 96 #[.val (.int p1), .val (.int p2), .val (.long p3), .second, .val (.long p4), .second, .val (.long p5), .second, .val (.long p6), .second, .val (.int n), .val (.ref b3), .val (.long (0 : Int64)), .second, .unset, .unset, .unset] [])) _
                refine XS.iloadN LS4.here hx rfl (hb hby at_96) rfl ?_
                show Steps p.tables e below (TS4.setTop (mkF m 97 #[.val (.int p1), .val (.int p2), .val (.long p3), .second, .val (.long p4), .second, .val (.long p5), .second, .val (.long p6), .second, .val (.int n), .val (.ref b3), .val (.long (0 : Int64)), .second, .unset, .unset, .unset] [(.int p2)])) _
                refine XS.iconst LS4.here hx rfl (hb hby at_97) ?_
                show Steps p.tables e below (TS4.setTop (mkF m 98 #[.val (.int p1), .val (.int p2), .val (.long p3), .second, .val (.long p4), .second, .val (.long p5), .second, .val (.long p6), .second, .val (.int n), .val (.ref b3), .val (.long (0 : Int64)), .second, .unset, .unset, .unset] [(.int (2 : Int32)), (.int p2)])) _
                refine XS.icmpYes LS4.here hx rfl (pc0 := 98) (pc' := 114) rfl (hb hby at_98) rfl (feq c2).2 (by decide) (by decide) ?_
                show Steps p.tables e below (TS4.setTop (mkF m 114 #[.val (.int p1), .val (.int p2), .val (.long p3), .second, .val (.long p4), .second, .val (.long p5), .second, .val (.long p6), .second, .val (.int n), .val (.ref b3), .val (.long (0 : Int64)), .second, .unset, .unset, .unset] [])) _
                refine XS.iloadN LS4.here hx rfl (hb hby at_114) rfl ?_
                show Steps p.tables e below (TS4.setTop (mkF m 115 #[.val (.int p1), .val (.int p2), .val (.long p3), .second, .val (.long p4), .second, .val (.long p5), .second, .val (.long p6), .second, .val (.int n), .val (.ref b3), .val (.long (0 : Int64)), .second, .unset, .unset, .unset] [(.int p2)])) _
                refine XS.iconst LS4.here hx rfl (hb hby at_115) ?_
                show Steps p.tables e below (TS4.setTop (mkF m 116 #[.val (.int p1), .val (.int p2), .val (.long p3), .second, .val (.long p4), .second, .val (.long p5), .second, .val (.long p6), .second, .val (.int n), .val (.ref b3), .val (.long (0 : Int64)), .second, .unset, .unset, .unset] [(.int (3 : Int32)), (.int p2)])) _
                refine XS.icmpNo LS4.here hx rfl (hb hby at_116) rfl (teq c3).2 ?_
                show Steps p.tables e below (TS4.setTop (mkF m 119 #[.val (.int p1), .val (.int p2), .val (.long p3), .second, .val (.long p4), .second, .val (.long p5), .second, .val (.long p6), .second, .val (.int n), .val (.ref b3), .val (.long (0 : Int64)), .second, .unset, .unset, .unset] [])) _
                refine XS.iload LS4.here hx rfl (hb hby at_119) rfl ?_
                show Steps p.tables e below (TS4.setTop (mkF m 121 #[.val (.int p1), .val (.int p2), .val (.long p3), .second, .val (.long p4), .second, .val (.long p5), .second, .val (.long p6), .second, .val (.int n), .val (.ref b3), .val (.long (0 : Int64)), .second, .unset, .unset, .unset] [(.int n)])) _
                refine XS.iconst LS4.here hx rfl (hb hby at_121) ?_
                show Steps p.tables e below (TS4.setTop (mkF m 122 #[.val (.int p1), .val (.int p2), .val (.long p3), .second, .val (.long p4), .second, .val (.long p5), .second, .val (.long p6), .second, .val (.int n), .val (.ref b3), .val (.long (0 : Int64)), .second, .unset, .unset, .unset] [(.int (3 : Int32)), (.int n)])) _
                refine XS.icmpYes LS4.here hx rfl (pc0 := 122) (pc' := 129) rfl (hb hby at_122) rfl (flt d3).2.2.2 (by decide) (by decide) ?_
                exact k)
              rw [own_ez (fun h => c0 h.1) (fun h => c1 h.1) (fun h => c2 h.1) (fun h => d3 h.2)]
              exact C25
          · skip
            have C26 : Go p e below TS4 (mkF m 129 #[.val (.int p1), .val (.int p2), .val (.long p3), .second, .val (.long p4), .second, .val (.long p5), .second, .val (.long p6), .second, .val (.int n), .val (.ref b3), .val (.long (0 : Int64)), .second, .unset, .unset, .unset] []) s₁ F0 := fun t k => C17 t (by
              refine XS.iloadN LS4.here hx rfl (hb hby at_63) rfl ?_
              show Steps p.tables e below (TS4.setTop (mkF m 64 #[.val (.int p1), .val (.int p2), .val (.long p3), .second, .val (.long p4), .second, .val (.long p5), .second, .val (.long p6), .second, .val (.int n), .val (.ref b3), .val (.long (0 : Int64)), .second, .unset, .unset, .unset] [(.int p2)])) _
              refine XS.ifYes LS4.here hx rfl (pc0 := 64) (pc' := 78) rfl (hb hby at_64) rfl ((if0 _ _).trans (feq c0).2) (by decide) (by decide) ?_
              show Steps p.tables e below (TS4.setTop (mkF m 78 #[.val (.int p1), .val (.int p2), .val (.long p3), .second, .val (.long p4), .second, .val (.long p5), .second, .val (.long p6), .second, .val (.int n), .val (.ref b3), .val (.long (0 : Int64)), .second, .unset, .unset, .unset] [])) _
              refine XS.iloadN LS4.here hx rfl (hb hby at_78) rfl ?_
              show Steps p.tables e below (TS4.setTop (mkF m 79 #[.val (.int p1), .val (.int p2), .val (.long p3), .second, .val (.long p4), .second, .val (.long p5), .second, .val (.long p6), .second, .val (.int n), .val (.ref b3), .val (.long (0 : Int64)), .second, .unset, .unset, .unset] [(.int p2)])) _
              refine XS.iconst LS4.here hx rfl (hb hby at_79) ?_
              show Steps p.tables e below (TS4.setTop (mkF m 80 #[.val (.int p1), .val (.int p2), .val (.long p3), .second, .val (.long p4), .second, .val (.long p5), .second, .val (.long p6), .second, .val (.int n), .val (.ref b3), .val (.long (0 : Int64)), .second, .unset, .unset, .unset] [(.int (1 : Int32)), (.int p2)])) _
              refine XS.icmpYes LS4.here hx rfl (pc0 := 80) (pc' := 96) rfl (hb hby at_80) rfl (feq c1).2 (by decide) (by decide) ?_
              show Steps p.tables e below (TS4.setTop (mkF m 96 #[.val (.int p1), .val (.int p2), .val (.long p3), .second, .val (.long p4), .second, .val (.long p5), .second, .val (.long p6), .second, .val (.int n), .val (.ref b3), .val (.long (0 : Int64)), .second, .unset, .unset, .unset] [])) _
              refine XS.iloadN LS4.here hx rfl (hb hby at_96) rfl ?_
              show Steps p.tables e below (TS4.setTop (mkF m 97 #[.val (.int p1), .val (.int p2), .val (.long p3), .second, .val (.long p4), .second, .val (.long p5), .second, .val (.long p6), .second, .val (.int n), .val (.ref b3), .val (.long (0 : Int64)), .second, .unset, .unset, .unset] [(.int p2)])) _
              refine XS.iconst LS4.here hx rfl (hb hby at_97) ?_
              show Steps p.tables e below (TS4.setTop (mkF m 98 #[.val (.int p1), .val (.int p2), .val (.long p3), .second, .val (.long p4), .second, .val (.long p5), .second, .val (.long p6), .second, .val (.int n), .val (.ref b3), .val (.long (0 : Int64)), .second, .unset, .unset, .unset] [(.int (2 : Int32)), (.int p2)])) _
              refine XS.icmpYes LS4.here hx rfl (pc0 := 98) (pc' := 114) rfl (hb hby at_98) rfl (feq c2).2 (by decide) (by decide) ?_
              show Steps p.tables e below (TS4.setTop (mkF m 114 #[.val (.int p1), .val (.int p2), .val (.long p3), .second, .val (.long p4), .second, .val (.long p5), .second, .val (.long p6), .second, .val (.int n), .val (.ref b3), .val (.long (0 : Int64)), .second, .unset, .unset, .unset] [])) _
              refine XS.iloadN LS4.here hx rfl (hb hby at_114) rfl ?_
              show Steps p.tables e below (TS4.setTop (mkF m 115 #[.val (.int p1), .val (.int p2), .val (.long p3), .second, .val (.long p4), .second, .val (.long p5), .second, .val (.long p6), .second, .val (.int n), .val (.ref b3), .val (.long (0 : Int64)), .second, .unset, .unset, .unset] [(.int p2)])) _
              refine XS.iconst LS4.here hx rfl (hb hby at_115) ?_
              show Steps p.tables e below (TS4.setTop (mkF m 116 #[.val (.int p1), .val (.int p2), .val (.long p3), .second, .val (.long p4), .second, .val (.long p5), .second, .val (.long p6), .second, .val (.int n), .val (.ref b3), .val (.long (0 : Int64)), .second, .unset, .unset, .unset] [(.int (3 : Int32)), (.int p2)])) _
              refine XS.icmpYes LS4.here hx rfl (pc0 := 116) (pc' := 129) rfl (hb hby at_116) rfl (feq c3).2 (by decide) (by decide) ?_
              exact k)
            rw [own_ez (fun h => c0 h.1) (fun h => c1 h.1) (fun h => c2 h.1) (fun h => c3 h.1)]
            exact C26
  have C27 : Go p e below TS4 (mkF m 132 #[.val (.int p1), .val (.int p2), .val (.long p3), .second, .val (.long p4), .second, .val (.long p5), .second, .val (.long p6), .second, .val (.int n), .val (.ref b3), .val (.long (own_exp n p2 p3 p4 p5 p6)), .second, .unset, .unset, .unset] [(.int p2), (.ref b3)]) s₁ F0 := fun t k => CE t (by
    refine XS.aload LS4.here hx rfl (hb hby at_129) rfl rfl ?_
    show Steps p.tables e below (TS4.setTop (mkF m 131 #[.val (.int p1), .val (.int p2), .val (.long p3), .second, .val (.long p4), .second, .val (.long p5), .second, .val (.long p6), .second, .val (.int n), .val (.ref b3), .val (.long (own_exp n p2 p3 p4 p5 p6)), .second, .unset, .unset, .unset] [(.ref b3)])) _
    refine XS.iloadN LS4.here hx rfl (hb hby at_131) rfl ?_
    exact k)
  have ZS : n0 ≤ hS4.size := Nat.le_trans gb (Nat.le_of_lt VS4.lt)
  obtain ⟨_, _, ⟨T28, L28, k28, n28⟩, -, X28, ⟨Lc28, hQ28, l28, y28, z28⟩, st28⟩ := Jvm.LawKit.callS LS4 hx (y := (⟨"com/example/relayline/relayline/EventFamily$Table", "maskOf", "([JI)J"⟩ : MethodName)) hown (mvT hZ (hw _ (List.mem_of_getElem? (i := 1) rfl))) (mvT hZ (hw _ (List.mem_of_getElem? (i := 2) rfl))) (mvT hZ (hw _ (List.mem_of_getElem? (i := 3) rfl))) (mvT hZ (hw _ (List.mem_of_getElem? (i := 4) rfl))) (by decide) (backOf (W := 0) (rm1 l Z a0 hw [] b3 p2 k3 n p3 p4 p5 p6 hS4 n0 ZS VS4 hn4) hZ (hw _ (List.mem_of_getElem? (i := 4) rfl)) (hw _ (List.mem_of_getElem? (i := 3) rfl)) (by decide) (by decide)) (g := (mkF m 132 #[.val (.int p1), .val (.int p2), .val (.long p3), .second, .val (.long p4), .second, .val (.long p5), .second, .val (.long p6), .second, .val (.int n), .val (.ref b3), .val (.long (own_exp n p2 p3 p4 p5 p6)), .second, .unset, .unset, .unset] [(.int p2), (.ref b3)])) rfl (by rw [hml]; rfl) (argsL := [(.ref b3), (.int p2)]) (rest := []) (lenOf pd_1 rfl) rfl (by show 2 * 0 + _ ≤ _; exact Nat.le_of_eq rfl) (hb hby at_132) (fun _ _ => ⟨rfl, eS4, (by decide : 1 + 0 ≤ _), (by decide : 4 + 0 ≤ _)⟩)
  dsimp only [Pt.U, Pt.locs, Pt.cells, Pt.slots] at X28 l28 y28 z28 st28 hQ28
  subst l28 y28 z28
  obtain ⟨rfl, N28q, eh28⟩ := hQ28
  have C28 : Go p e below T28 (mkF m 135 #[.val (.int p1), .val (.int p2), .val (.long p3), .second, .val (.long p4), .second, .val (.long p5), .second, .val (.long p6), .second, .val (.int n), .val (.ref b3), .val (.long (own_exp n p2 p3 p4 p5 p6)), .second, .unset, .unset, .unset] [(.long (own_exp n p2 p3 p4 p5 p6))]) s₁ F0 := fun t k => C27 t (st28 t k)
  have N28 := Fr.app NS4 N28q
  have VF : Arv Z T28.heap b3 k3 .long n [.long p3, .long p4, .long p5, .long p6] (.long 0) := by rw [eh28]; exact VS4
  obtain ⟨cl0, Ar0, q0, S0, M0, H0, G0⟩ := VF
  have C29 : Go p e below T28 (mkF m 137 #[.val (.int p1), .val (.int p2), .val (.long p3), .second, .val (.long p4), .second, .val (.long p5), .second, .val (.long p6), .second, .val (.int n), .val (.ref b3), .val (.long (own_exp n p2 p3 p4 p5 p6)), .second, .val (.long (own_exp n p2 p3 p4 p5 p6)), .second, .unset] []) s₁ F0 := fun t k => C28 t (by
    refine XS.lstore X28.here hx rfl (hb hby at_135) rfl (l' := #[.val (.int p1), .val (.int p2), .val (.long p3), .second, .val (.long p4), .second, .val (.long p5), .second, .val (.long p6), .second, .val (.int n), .val (.ref b3), .val (.long (own_exp n p2 p3 p4 p5 p6)), .second, .val (.long (own_exp n p2 p3 p4 p5 p6)), .second, .unset]) rfl ?_
    exact k)
  have CU0 : Go p e below T28 (mkF m 152 #[.val (.int p1), .val (.int p2), .val (.long p3), .second, .val (.long p4), .second, .val (.long p5), .second, .val (.long p6), .second, .val (.int n), .val (.ref b3), .val (.long (own_exp n p2 p3 p4 p5 p6)), .second, .val (.long (own_exp n p2 p3 p4 p5 p6)), .second, .unset] []) s₁ F0 := by
    by_cases c : n < (1 : Int32)
    · skip
      have C30 : Go p e below T28 (mkF m 152 #[.val (.int p1), .val (.int p2), .val (.long p3), .second, .val (.long p4), .second, .val (.long p5), .second, .val (.long p6), .second, .val (.int n), .val (.ref b3), .val (.long (own_exp n p2 p3 p4 p5 p6)), .second, .val (.long (own_exp n p2 p3 p4 p5 p6)), .second, .unset] []) s₁ F0 := fun t k => C29 t (by
        refine XS.iload X28.here hx rfl (hb hby at_137) rfl ?_
        show Steps p.tables e below (T28.setTop (mkF m 139 #[.val (.int p1), .val (.int p2), .val (.long p3), .second, .val (.long p4), .second, .val (.long p5), .second, .val (.long p6), .second, .val (.int n), .val (.ref b3), .val (.long (own_exp n p2 p3 p4 p5 p6)), .second, .val (.long (own_exp n p2 p3 p4 p5 p6)), .second, .unset] [(.int n)])) _
        refine XS.iconst X28.here hx rfl (hb hby at_139) ?_
        show Steps p.tables e below (T28.setTop (mkF m 140 #[.val (.int p1), .val (.int p2), .val (.long p3), .second, .val (.long p4), .second, .val (.long p5), .second, .val (.long p6), .second, .val (.int n), .val (.ref b3), .val (.long (own_exp n p2 p3 p4 p5 p6)), .second, .val (.long (own_exp n p2 p3 p4 p5 p6)), .second, .unset] [(.int (1 : Int32)), (.int n)])) _
        refine XS.icmpYes X28.here hx rfl (pc0 := 140) (pc' := 152) rfl (hb hby at_140) rfl (tlt c).1 (by decide) (by decide) ?_
        exact k)
      exact C30
    · have hin := inb_of (j := (0 : Int32)) S0 ⟨by decide, own_up c rfl⟩
      have hat : cl0.slots[(0 : Int32).toNatClampNeg]? = some (.long p3) := H0.at hin rfl
      have C31 : Go p e below T28 (mkF m 152 #[.val (.int p1), .val (.int p2), .val (.long p3), .second, .val (.long p4), .second, .val (.long p5), .second, .val (.long p6), .second, .val (.int n), .val (.ref b3), .val (.long (own_exp n p2 p3 p4 p5 p6)), .second, .val (.long (own_exp n p2 p3 p4 p5 p6)), .second, .unset] []) s₁ F0 := fun t k => C29 t (by
        refine XS.iload X28.here hx rfl (hb hby at_137) rfl ?_
        show Steps p.tables e below (T28.setTop (mkF m 139 #[.val (.int p1), .val (.int p2), .val (.long p3), .second, .val (.long p4), .second, .val (.long p5), .second, .val (.long p6), .second, .val (.int n), .val (.ref b3), .val (.long (own_exp n p2 p3 p4 p5 p6)), .second, .val (.long (own_exp n p2 p3 p4 p5 p6)), .second, .unset] [(.int n)])) _
        refine XS.iconst X28.here hx rfl (hb hby at_139) ?_
        show Steps p.tables e below (T28.setTop (mkF m 140 #[.val (.int p1), .val (.int p2), .val (.long p3), .second, .val (.long p4), .second, .val (.long p5), .second, .val (.long p6), .second, .val (.int n), .val (.ref b3), .val (.long (own_exp n p2 p3 p4 p5 p6)), .second, .val (.long (own_exp n p2 p3 p4 p5 p6)), .second, .unset] [(.int (1 : Int32)), (.int n)])) _
        refine XS.icmpNo X28.here hx rfl (hb hby at_140) rfl (flt c).1 ?_
        show Steps p.tables e below (T28.setTop (mkF m 143 #[.val (.int p1), .val (.int p2), .val (.long p3), .second, .val (.long p4), .second, .val (.long p5), .second, .val (.long p6), .second, .val (.int n), .val (.ref b3), .val (.long (own_exp n p2 p3 p4 p5 p6)), .second, .val (.long (own_exp n p2 p3 p4 p5 p6)), .second, .unset] [])) _
        refine XS.aload X28.here hx rfl (hb hby at_143) rfl rfl ?_
        show Steps p.tables e below (T28.setTop (mkF m 145 #[.val (.int p1), .val (.int p2), .val (.long p3), .second, .val (.long p4), .second, .val (.long p5), .second, .val (.long p6), .second, .val (.int n), .val (.ref b3), .val (.long (own_exp n p2 p3 p4 p5 p6)), .second, .val (.long (own_exp n p2 p3 p4 p5 p6)), .second, .unset] [(.ref b3)])) _
        refine XS.iconst X28.here hx rfl (hb hby at_145) ?_
        show Steps p.tables e below (T28.setTop (mkF m 146 #[.val (.int p1), .val (.int p2), .val (.long p3), .second, .val (.long p4), .second, .val (.long p5), .second, .val (.long p6), .second, .val (.int n), .val (.ref b3), .val (.long (own_exp n p2 p3 p4 p5 p6)), .second, .val (.long (own_exp n p2 p3 p4 p5 p6)), .second, .unset] [(.int (0 : Int32)), (.ref b3)])) _
        refine X28.laload hx (j := (0 : Int32)) (v := (.long p3)) Ar0.1 (State.isArrayOf_alike hZ.alike Ar0.2.1) Ar0.2.2 hin hat (g := (mkF m 146 #[.val (.int p1), .val (.int p2), .val (.long p3), .second, .val (.long p4), .second, .val (.long p5), .second, .val (.long p6), .second, .val (.int n), .val (.ref b3), .val (.long (own_exp n p2 p3 p4 p5 p6)), .second, .val (.long (own_exp n p2 p3 p4 p5 p6)), .second, .unset] [(.int (0 : Int32)), (.ref b3)])) rfl rfl (hb hby at_146) _ ?_
        show Steps p.tables e below (T28.setTop (mkF m 147 #[.val (.int p1), .val (.int p2), .val (.long p3), .second, .val (.long p4), .second, .val (.long p5), .second, .val (.long p6), .second, .val (.int n), .val (.ref b3), .val (.long (own_exp n p2 p3 p4 p5 p6)), .second, .val (.long (own_exp n p2 p3 p4 p5 p6)), .second, .unset] [(.long p3)])) _
        refine XS.lloadN X28.here hx rfl (hb hby at_147) rfl ?_
        show Steps p.tables e below (T28.setTop (mkF m 148 #[.val (.int p1), .val (.int p2), .val (.long p3), .second, .val (.long p4), .second, .val (.long p5), .second, .val (.long p6), .second, .val (.int n), .val (.ref b3), .val (.long (own_exp n p2 p3 p4 p5 p6)), .second, .val (.long (own_exp n p2 p3 p4 p5 p6)), .second, .unset] [(.long p3), (.long p3)])) _
        refine XS.lcmp X28.here hx rfl (hb hby at_148) rfl ?_
        show Steps p.tables e below (T28.setTop (mkF m 149 #[.val (.int p1), .val (.int p2), .val (.long p3), .second, .val (.long p4), .second, .val (.long p5), .second, .val (.long p6), .second, .val (.int n), .val (.ref b3), .val (.long (own_exp n p2 p3 p4 p5 p6)), .second, .val (.long (own_exp n p2 p3 p4 p5 p6)), .second, .unset] [(.int (lcmpW p3 p3))])) _
        refine XS.ifNo X28.here hx rfl (hb hby at_149) rfl ((if0 _ _).trans (teq ((lw_eq _ _).mpr rfl)).2) ?_
        exact k)
      exact C31
  have CU1 : Go p e below T28 (mkF m 168 #[.val (.int p1), .val (.int p2), .val (.long p3), .second, .val (.long p4), .second, .val (.long p5), .second, .val (.long p6), .second, .val (.int n), .val (.ref b3), .val (.long (own_exp n p2 p3 p4 p5 p6)), .second, .val (.long (own_exp n p2 p3 p4 p5 p6)), .second, .unset] []) s₁ F0 := by
    by_cases c : n < (2 : Int32)
    · skip
      have C32 : Go p e below T28 (mkF m 168 #[.val (.int p1), .val (.int p2), .val (.long p3), .second, .val (.long p4), .second, .val (.long p5), .second, .val (.long p6), .second, .val (.int n), .val (.ref b3), .val (.long (own_exp n p2 p3 p4 p5 p6)), .second, .val (.long (own_exp n p2 p3 p4 p5 p6)), .second, .unset] []) s₁ F0 := fun t k => CU0 t (by
        refine XS.iload X28.here hx rfl (hb hby at_152) rfl ?_
        show Steps p.tables e below (T28.setTop (mkF m 154 #[.val (.int p1), .val (.int p2), .val (.long p3), .second, .val (.long p4), .second, .val (.long p5), .second, .val (.long p6), .second, .val (.int n), .val (.ref b3), .val (.long (own_exp n p2 p3 p4 p5 p6)), .second, .val (.long (own_exp n p2 p3 p4 p5 p6)), .second, .unset] [(.int n)])) _
        refine XS.iconst X28.here hx rfl (hb hby at_154) ?_
        show Steps p.tables e below (T28.setTop (mkF m 155 #[.val (.int p1), .val (.int p2), .val (.long p3), .second, .val (.long p4), .second, .val (.long p5), .second, .val (.long p6), .second, .val (.int n), .val (.ref b3), .val (.long (own_exp n p2 p3 p4 p5 p6)), .second, .val (.long (own_exp n p2 p3 p4 p5 p6)), .second, .unset] [(.int (2 : Int32)), (.int n)])) _
        refine XS.icmpYes X28.here hx rfl (pc0 := 155) (pc' := 168) rfl (hb hby at_155) rfl (tlt c).1 (by decide) (by decide) ?_
        exact k)
      exact C32
    · have hin := inb_of (j := (1 : Int32)) S0 ⟨by decide, own_up c rfl⟩
      have hat : cl0.slots[(1 : Int32).toNatClampNeg]? = some (.long p4) := H0.at hin rfl
      have C33 : Go p e below T28 (mkF m 168 #[.val (.int p1), .val (.int p2), .val (.long p3), .second, .val (.long p4), .second, .val (.long p5), .second, .val (.long p6), .second, .val (.int n), .val (.ref b3), .val (.long (own_exp n p2 p3 p4 p5 p6)), .second, .val (.long (own_exp n p2 p3 p4 p5 p6)), .second, .unset] []) s₁ F0 := fun t k => CU0 t (by
        refine XS.iload X28.here hx rfl (hb hby at_152) rfl ?_
        show Steps p.tables e below (T28.setTop (mkF m 154 #[.val (.int p1), .val (.int p2), .val (.long p3), .second, .val (.long p4), .second, .val (.long p5), .second, .val (.long p6), .second, .val (.int n), .val (.ref b3), .val (.long (own_exp n p2 p3 p4 p5 p6)), .second, .val (.long (own_exp n p2 p3 p4 p5 p6)), .second, .unset] [(.int n)])) _
        refine XS.iconst X28.here hx rfl (hb hby at_154) ?_
        show Steps p.tables e below (T28.setTop (mkF m 155 #[.val (.int p1), .val (.int p2), .val (.long p3), .second, .val (.long p4), .second, .val (.long p5), .second, .val (.long p6), .second, .val (.int n), .val (.ref b3), .val (.long (own_exp n p2 p3 p4 p5 p6)), .second, .val (.long (own_exp n p2 p3 p4 p5 p6)), .second, .unset] [(.int (2 : Int32)), (.int n)])) _
        refine XS.icmpNo X28.here hx rfl (hb hby at_155) rfl (flt c).1 ?_
        show Steps p.tables e below (T28.setTop (mkF m 158 #[.val (.int p1), .val (.int p2), .val (.long p3), .second, .val (.long p4), .second, .val (.long p5), .second, .val (.long p6), .second, .val (.int n), .val (.ref b3), .val (.long (own_exp n p2 p3 p4 p5 p6)), .second, .val (.long (own_exp n p2 p3 p4 p5 p6)), .second, .unset] [])) _
        refine XS.aload X28.here hx rfl (hb hby at_158) rfl rfl ?_
        show Steps p.tables e below (T28.setTop (mkF m 160 #[.val (.int p1), .val (.int p2), .val (.long p3), .second, .val (.long p4), .second, .val (.long p5), .second, .val (.long p6), .second, .val (.int n), .val (.ref b3), .val (.long (own_exp n p2 p3 p4 p5 p6)), .second, .val (.long (own_exp n p2 p3 p4 p5 p6)), .second, .unset] [(.ref b3)])) _
        refine XS.iconst X28.here hx rfl (hb hby at_160) ?_
        show Steps p.tables e below (T28.setTop (mkF m 161 #[.val (.int p1), .val (.int p2), .val (.long p3), .second, .val (.long p4), .second, .val (.long p5), .second, .val (.long p6), .second, .val (.int n), .val (.ref b3), .val (.long (own_exp n p2 p3 p4 p5 p6)), .second, .val (.long (own_exp n p2 p3 p4 p5 p6)), .second, .unset] [(.int (1 : Int32)), (.ref b3)])) _
        refine X28.laload hx (j := (1 : Int32)) (v := (.long p4)) Ar0.1 (State.isArrayOf_alike hZ.alike Ar0.2.1) Ar0.2.2 hin hat (g := (mkF m 161 #[.val (.int p1), .val (.int p2), .val (.long p3), .second, .val (.long p4), .second, .val (.long p5), .second, .val (.long p6), .second, .val (.int n), .val (.ref b3), .val (.long (own_exp n p2 p3 p4 p5 p6)), .second, .val (.long (own_exp n p2 p3 p4 p5 p6)), .second, .unset] [(.int (1 : Int32)), (.ref b3)])) rfl rfl (hb hby at_161) _ ?_
        show Steps p.tables e below (T28.setTop (mkF m 162 #[.val (.int p1), .val (.int p2), .val (.long p3), .second, .val (.long p4), .second, .val (.long p5), .second, .val (.long p6), .second, .val (.int n), .val (.ref b3), .val (.long (own_exp n p2 p3 p4 p5 p6)), .second, .val (.long (own_exp n p2 p3 p4 p5 p6)), .second, .unset] [(.long p4)])) _
        refine XS.lload X28.here hx rfl (hb hby at_162) rfl ?_
        show Steps p.tables e below (T28.setTop (mkF m 164 #[.val (.int p1), .val (.int p2), .val (.long p3), .second, .val (.long p4), .second, .val (.long p5), .second, .val (.long p6), .second, .val (.int n), .val (.ref b3), .val (.long (own_exp n p2 p3 p4 p5 p6)), .second, .val (.long (own_exp n p2 p3 p4 p5 p6)), .second, .unset] [(.long p4), (.long p4)])) _
        refine XS.lcmp X28.here hx rfl (hb hby at_164) rfl ?_
        show Steps p.tables e below (T28.setTop (mkF m 165 #[.val (.int p1), .val (.int p2), .val (.long p3), .second, .val (.long p4), .second, .val (.long p5), .second, .val (.long p6), .second, .val (.int n), .val (.ref b3), .val (.long (own_exp n p2 p3 p4 p5 p6)), .second, .val (.long (own_exp n p2 p3 p4 p5 p6)), .second, .unset] [(.int (lcmpW p4 p4))])) _
        refine XS.ifNo X28.here hx rfl (hb hby at_165) rfl ((if0 _ _).trans (teq ((lw_eq _ _).mpr rfl)).2) ?_
        exact k)
      exact C33
  have CU2 : Go p e below T28 (mkF m 184 #[.val (.int p1), .val (.int p2), .val (.long p3), .second, .val (.long p4), .second, .val (.long p5), .second, .val (.long p6), .second, .val (.int n), .val (.ref b3), .val (.long (own_exp n p2 p3 p4 p5 p6)), .second, .val (.long (own_exp n p2 p3 p4 p5 p6)), .second, .unset] []) s₁ F0 := by
    by_cases c : n < (3 : Int32)
    · skip
      have C34 : Go p e below T28 (mkF m 184 #[.val (.int p1), .val (.int p2), .val (.long p3), .second, .val (.long p4), .second, .val (.long p5), .second, .val (.long p6), .second, .val (.int n), .val (.ref b3), .val (.long (own_exp n p2 p3 p4 p5 p6)), .second, .val (.long (own_exp n p2 p3 p4 p5 p6)), .second, .unset] []) s₁ F0 := fun t k => CU1 t (by
        refine XS.iload X28.here hx rfl (hb hby at_168) rfl ?_
        show Steps p.tables e below (T28.setTop (mkF m 170 #[.val (.int p1), .val (.int p2), .val (.long p3), .second, .val (.long p4), .second, .val (.long p5), .second, .val (.long p6), .second, .val (.int n), .val (.ref b3), .val (.long (own_exp n p2 p3 p4 p5 p6)), .second, .val (.long (own_exp n p2 p3 p4 p5 p6)), .second, .unset] [(.int n)])) _
        refine XS.iconst X28.here hx rfl (hb hby at_170) ?_
        show Steps p.tables e below (T28.setTop (mkF m 171 #[.val (.int p1), .val (.int p2), .val (.long p3), .second, .val (.long p4), .second, .val (.long p5), .second, .val (.long p6), .second, .val (.int n), .val (.ref b3), .val (.long (own_exp n p2 p3 p4 p5 p6)), .second, .val (.long (own_exp n p2 p3 p4 p5 p6)), .second, .unset] [(.int (3 : Int32)), (.int n)])) _
        refine XS.icmpYes X28.here hx rfl (pc0 := 171) (pc' := 184) rfl (hb hby at_171) rfl (tlt c).1 (by decide) (by decide) ?_
        exact k)
      exact C34
    · have hin := inb_of (j := (2 : Int32)) S0 ⟨by decide, own_up c rfl⟩
      have hat : cl0.slots[(2 : Int32).toNatClampNeg]? = some (.long p5) := H0.at hin rfl
      have C35 : Go p e below T28 (mkF m 184 #[.val (.int p1), .val (.int p2), .val (.long p3), .second, .val (.long p4), .second, .val (.long p5), .second, .val (.long p6), .second, .val (.int n), .val (.ref b3), .val (.long (own_exp n p2 p3 p4 p5 p6)), .second, .val (.long (own_exp n p2 p3 p4 p5 p6)), .second, .unset] []) s₁ F0 := fun t k => CU1 t (by
        refine XS.iload X28.here hx rfl (hb hby at_168) rfl ?_
        show Steps p.tables e below (T28.setTop (mkF m 170 #[.val (.int p1), .val (.int p2), .val (.long p3), .second, .val (.long p4), .second, .val (.long p5), .second, .val (.long p6), .second, .val (.int n), .val (.ref b3), .val (.long (own_exp n p2 p3 p4 p5 p6)), .second, .val (.long (own_exp n p2 p3 p4 p5 p6)), .second, .unset] [(.int n)])) _
        refine XS.iconst X28.here hx rfl (hb hby at_170) ?_
        show Steps p.tables e below (T28.setTop (mkF m 171 #[.val (.int p1), .val (.int p2), .val (.long p3), .second, .val (.long p4), .second, .val (.long p5), .second, .val (.long p6), .second, .val (.int n), .val (.ref b3), .val (.long (own_exp n p2 p3 p4 p5 p6)), .second, .val (.long (own_exp n p2 p3 p4 p5 p6)), .second, .unset] [(.int (3 : Int32)), (.int n)])) _
        refine XS.icmpNo X28.here hx rfl (hb hby at_171) rfl (flt c).1 ?_
        show Steps p.tables e below (T28.setTop (mkF m 174 #[.val (.int p1), .val (.int p2), .val (.long p3), .second, .val (.long p4), .second, .val (.long p5), .second, .val (.long p6), .second, .val (.int n), .val (.ref b3), .val (.long (own_exp n p2 p3 p4 p5 p6)), .second, .val (.long (own_exp n p2 p3 p4 p5 p6)), .second, .unset] [])) _
        refine XS.aload X28.here hx rfl (hb hby at_174) rfl rfl ?_
        show Steps p.tables e below (T28.setTop (mkF m 176 #[.val (.int p1), .val (.int p2), .val (.long p3), .second, .val (.long p4), .second, .val (.long p5), .second, .val (.long p6), .second, .val (.int n), .val (.ref b3), .val (.long (own_exp n p2 p3 p4 p5 p6)), .second, .val (.long (own_exp n p2 p3 p4 p5 p6)), .second, .unset] [(.ref b3)])) _
        refine XS.iconst X28.here hx rfl (hb hby at_176) ?_
        show Steps p.tables e below (T28.setTop (mkF m 177 #[.val (.int p1), .val (.int p2), .val (.long p3), .second, .val (.long p4), .second, .val (.long p5), .second, .val (.long p6), .second, .val (.int n), .val (.ref b3), .val (.long (own_exp n p2 p3 p4 p5 p6)), .second, .val (.long (own_exp n p2 p3 p4 p5 p6)), .second, .unset] [(.int (2 : Int32)), (.ref b3)])) _
        refine X28.laload hx (j := (2 : Int32)) (v := (.long p5)) Ar0.1 (State.isArrayOf_alike hZ.alike Ar0.2.1) Ar0.2.2 hin hat (g := (mkF m 177 #[.val (.int p1), .val (.int p2), .val (.long p3), .second, .val (.long p4), .second, .val (.long p5), .second, .val (.long p6), .second, .val (.int n), .val (.ref b3), .val (.long (own_exp n p2 p3 p4 p5 p6)), .second, .val (.long (own_exp n p2 p3 p4 p5 p6)), .second, .unset] [(.int (2 : Int32)), (.ref b3)])) rfl rfl (hb hby at_177) _ ?_
        show Steps p.tables e below (T28.setTop (mkF m 178 #[.val (.int p1), .val (.int p2), .val (.long p3), .second, .val (.long p4), .second, .val (.long p5), .second, .val (.long p6), .second, .val (.int n), .val (.ref b3), .val (.long (own_exp n p2 p3 p4 p5 p6)), .second, .val (.long (own_exp n p2 p3 p4 p5 p6)), .second, .unset] [(.long p5)])) _
        refine XS.lload X28.here hx rfl (hb hby at_178) rfl ?_
        show Steps p.tables e below (T28.setTop (mkF m 180 #[.val (.int p1), .val (.int p2), .val (.long p3), .second, .val (.long p4), .second, .val (.long p5), .second, .val (.long p6), .second, .val (.int n), .val (.ref b3), .val (.long (own_exp n p2 p3 p4 p5 p6)), .second, .val (.long (own_exp n p2 p3 p4 p5 p6)), .second, .unset] [(.long p5), (.long p5)])) _
        refine XS.lcmp X28.here hx rfl (hb hby at_180) rfl ?_
        show Steps p.tables e below (T28.setTop (mkF m 181 #[.val (.int p1), .val (.int p2), .val (.long p3), .second, .val (.long p4), .second, .val (.long p5), .second, .val (.long p6), .second, .val (.int n), .val (.ref b3), .val (.long (own_exp n p2 p3 p4 p5 p6)), .second, .val (.long (own_exp n p2 p3 p4 p5 p6)), .second, .unset] [(.int (lcmpW p5 p5))])) _
        refine XS.ifNo X28.here hx rfl (hb hby at_181) rfl ((if0 _ _).trans (teq ((lw_eq _ _).mpr rfl)).2) ?_
        exact k)
      exact C35
  have CU3 : Go p e below T28 (mkF m 200 #[.val (.int p1), .val (.int p2), .val (.long p3), .second, .val (.long p4), .second, .val (.long p5), .second, .val (.long p6), .second, .val (.int n), .val (.ref b3), .val (.long (own_exp n p2 p3 p4 p5 p6)), .second, .val (.long (own_exp n p2 p3 p4 p5 p6)), .second, .unset] []) s₁ F0 := by
    by_cases c : n < (4 : Int32)
    · skip
      have C36 : Go p e below T28 (mkF m 200 #[.val (.int p1), .val (.int p2), .val (.long p3), .second, .val (.long p4), .second, .val (.long p5), .second, .val (.long p6), .second, .val (.int n), .val (.ref b3), .val (.long (own_exp n p2 p3 p4 p5 p6)), .second, .val (.long (own_exp n p2 p3 p4 p5 p6)), .second, .unset] []) s₁ F0 := fun t k => CU2 t (by
        refine XS.iload X28.here hx rfl (hb hby at_184) rfl ?_
        show Steps p.tables e below (T28.setTop (mkF m 186 #[.val (.int p1), .val (.int p2), .val (.long p3), .second, .val (.long p4), .second, .val (.long p5), .second, .val (.long p6), .second, .val (.int n), .val (.ref b3), .val (.long (own_exp n p2 p3 p4 p5 p6)), .second, .val (.long (own_exp n p2 p3 p4 p5 p6)), .second, .unset] [(.int n)])) _
        refine XS.iconst X28.here hx rfl (hb hby at_186) ?_
        show Steps p.tables e below (T28.setTop (mkF m 187 #[.val (.int p1), .val (.int p2), .val (.long p3), .second, .val (.long p4), .second, .val (.long p5), .second, .val (.long p6), .second, .val (.int n), .val (.ref b3), .val (.long (own_exp n p2 p3 p4 p5 p6)), .second, .val (.long (own_exp n p2 p3 p4 p5 p6)), .second, .unset] [(.int (4 : Int32)), (.int n)])) _
        refine XS.icmpYes X28.here hx rfl (pc0 := 187) (pc' := 200) rfl (hb hby at_187) rfl (tlt c).1 (by decide) (by decide) ?_
        exact k)
      exact C36
    · have hin := inb_of (j := (3 : Int32)) S0 ⟨by decide, own_up c rfl⟩
      have hat : cl0.slots[(3 : Int32).toNatClampNeg]? = some (.long p6) := H0.at hin rfl
      have C37 : Go p e below T28 (mkF m 200 #[.val (.int p1), .val (.int p2), .val (.long p3), .second, .val (.long p4), .second, .val (.long p5), .second, .val (.long p6), .second, .val (.int n), .val (.ref b3), .val (.long (own_exp n p2 p3 p4 p5 p6)), .second, .val (.long (own_exp n p2 p3 p4 p5 p6)), .second, .unset] []) s₁ F0 := fun t k => CU2 t (by
        refine XS.iload X28.here hx rfl (hb hby at_184) rfl ?_
        show Steps p.tables e below (T28.setTop (mkF m 186 #[.val (.int p1), .val (.int p2), .val (.long p3), .second, .val (.long p4), .second, .val (.long p5), .second, .val (.long p6), .second, .val (.int n), .val (.ref b3), .val (.long (own_exp n p2 p3 p4 p5 p6)), .second, .val (.long (own_exp n p2 p3 p4 p5 p6)), .second, .unset] [(.int n)])) _
        refine XS.iconst X28.here hx rfl (hb hby at_186) ?_
        show Steps p.tables e below (T28.setTop (mkF m 187 #[.val (.int p1), .val (.int p2), .val (.long p3), .second, .val (.long p4), .second, .val (.long p5), .second, .val (.long p6), .second, .val (.int n), .val (.ref b3), .val (.long (own_exp n p2 p3 p4 p5 p6)), .second, .val (.long (own_exp n p2 p3 p4 p5 p6)), .second, .unset] [(.int (4 : Int32)), (.int n)])) _
        refine XS.icmpNo X28.here hx rfl (hb hby at_187) rfl (flt c).1 ?_
        show Steps p.tables e below (T28.setTop (mkF m 190 #[.val (.int p1), .val (.int p2), .val (.long p3), .second, .val (.long p4), .second, .val (.long p5), .second, .val (.long p6), .second, .val (.int n), .val (.ref b3), .val (.long (own_exp n p2 p3 p4 p5 p6)), .second, .val (.long (own_exp n p2 p3 p4 p5 p6)), .second, .unset] [])) _
        refine XS.aload X28.here hx rfl (hb hby at_190) rfl rfl ?_
        show Steps p.tables e below (T28.setTop (mkF m 192 #[.val (.int p1), .val (.int p2), .val (.long p3), .second, .val (.long p4), .second, .val (.long p5), .second, .val (.long p6), .second, .val (.int n), .val (.ref b3), .val (.long (own_exp n p2 p3 p4 p5 p6)), .second, .val (.long (own_exp n p2 p3 p4 p5 p6)), .second, .unset] [(.ref b3)])) _
        refine XS.iconst X28.here hx rfl (hb hby at_192) ?_
        show Steps p.tables e below (T28.setTop (mkF m 193 #[.val (.int p1), .val (.int p2), .val (.long p3), .second, .val (.long p4), .second, .val (.long p5), .second, .val (.long p6), .second, .val (.int n), .val (.ref b3), .val (.long (own_exp n p2 p3 p4 p5 p6)), .second, .val (.long (own_exp n p2 p3 p4 p5 p6)), .second, .unset] [(.int (3 : Int32)), (.ref b3)])) _
        refine X28.laload hx (j := (3 : Int32)) (v := (.long p6)) Ar0.1 (State.isArrayOf_alike hZ.alike Ar0.2.1) Ar0.2.2 hin hat (g := (mkF m 193 #[.val (.int p1), .val (.int p2), .val (.long p3), .second, .val (.long p4), .second, .val (.long p5), .second, .val (.long p6), .second, .val (.int n), .val (.ref b3), .val (.long (own_exp n p2 p3 p4 p5 p6)), .second, .val (.long (own_exp n p2 p3 p4 p5 p6)), .second, .unset] [(.int (3 : Int32)), (.ref b3)])) rfl rfl (hb hby at_193) _ ?_
        show Steps p.tables e below (T28.setTop (mkF m 194 #[.val (.int p1), .val (.int p2), .val (.long p3), .second, .val (.long p4), .second, .val (.long p5), .second, .val (.long p6), .second, .val (.int n), .val (.ref b3), .val (.long (own_exp n p2 p3 p4 p5 p6)), .second, .val (.long (own_exp n p2 p3 p4 p5 p6)), .second, .unset] [(.long p6)])) _
        refine XS.lload X28.here hx rfl (hb hby at_194) rfl ?_
        show Steps p.tables e below (T28.setTop (mkF m 196 #[.val (.int p1), .val (.int p2), .val (.long p3), .second, .val (.long p4), .second, .val (.long p5), .second, .val (.long p6), .second, .val (.int n), .val (.ref b3), .val (.long (own_exp n p2 p3 p4 p5 p6)), .second, .val (.long (own_exp n p2 p3 p4 p5 p6)), .second, .unset] [(.long p6), (.long p6)])) _
        refine XS.lcmp X28.here hx rfl (hb hby at_196) rfl ?_
        show Steps p.tables e below (T28.setTop (mkF m 197 #[.val (.int p1), .val (.int p2), .val (.long p3), .second, .val (.long p4), .second, .val (.long p5), .second, .val (.long p6), .second, .val (.int n), .val (.ref b3), .val (.long (own_exp n p2 p3 p4 p5 p6)), .second, .val (.long (own_exp n p2 p3 p4 p5 p6)), .second, .unset] [(.int (lcmpW p6 p6))])) _
        refine XS.ifNo X28.here hx rfl (hb hby at_197) rfl ((if0 _ _).trans (teq ((lw_eq _ _).mpr rfl)).2) ?_
        exact k)
      exact C37
  have C38 : Go p e below T28 (mkF m 225 #[.val (.int p1), .val (.int p2), .val (.long p3), .second, .val (.long p4), .second, .val (.long p5), .second, .val (.long p6), .second, .val (.int n), .val (.ref b3), .val (.long (own_exp n p2 p3 p4 p5 p6)), .second, .val (.long (own_exp n p2 p3 p4 p5 p6)), .second, .val (.int (1 : Int32))] [(.int (1 : Int32))]) s₁ F0 := fun t k => CU3 t (by
    refine XS.iconst X28.here hx rfl (hb hby at_200) ?_
    show Steps p.tables e below (T28.setTop (mkF m 201 #[.val (.int p1), .val (.int p2), .val (.long p3), .second, .val (.long p4), .second, .val (.long p5), .second, .val (.long p6), .second, .val (.int n), .val (.ref b3), .val (.long (own_exp n p2 p3 p4 p5 p6)), .second, .val (.long (own_exp n p2 p3 p4 p5 p6)), .second, .unset] [(.int (1 : Int32))])) _
    refine XS.goto X28.here hx rfl (pc0 := 201) (pc' := 205) rfl (hb hby at_201) (by decide) (by decide) ?_
    show Steps p.tables e below (T28.setTop (mkF m 205 #[.val (.int p1), .val (.int p2), .val (.long p3), .second, .val (.long p4), .second, .val (.long p5), .second, .val (.long p6), .second, .val (.int n), .val (.ref b3), .val (.long (own_exp n p2 p3 p4 p5 p6)), .second, .val (.long (own_exp n p2 p3 p4 p5 p6)), .second, .unset] [(.int (1 : Int32))])) _
    refine XS.istore X28.here hx rfl (hb hby at_205) rfl (l' := #[.val (.int p1), .val (.int p2), .val (.long p3), .second, .val (.long p4), .second, .val (.long p5), .second, .val (.long p6), .second, .val (.int n), .val (.ref b3), .val (.long (own_exp n p2 p3 p4 p5 p6)), .second, .val (.long (own_exp n p2 p3 p4 p5 p6)), .second, .val (.int (1 : Int32))]) rfl ?_
    show Steps p.tables e below (T28.setTop (mkF m 207 #[.val (.int p1), .val (.int p2), .val (.long p3), .second, .val (.long p4), .second, .val (.long p5), .second, .val (.long p6), .second, .val (.int n), .val (.ref b3), .val (.long (own_exp n p2 p3 p4 p5 p6)), .second, .val (.long (own_exp n p2 p3 p4 p5 p6)), .second, .val (.int (1 : Int32))] [])) _
    refine XS.lload X28.here hx rfl (hb hby at_207) rfl ?_
    show Steps p.tables e below (T28.setTop (mkF m 209 #[.val (.int p1), .val (.int p2), .val (.long p3), .second, .val (.long p4), .second, .val (.long p5), .second, .val (.long p6), .second, .val (.int n), .val (.ref b3), .val (.long (own_exp n p2 p3 p4 p5 p6)), .second, .val (.long (own_exp n p2 p3 p4 p5 p6)), .second, .val (.int (1 : Int32))] [(.long (own_exp n p2 p3 p4 p5 p6))])) _
    refine XS.lload X28.here hx rfl (hb hby at_209) rfl ?_
    show Steps p.tables e below (T28.setTop (mkF m 211 #[.val (.int p1), .val (.int p2), .val (.long p3), .second, .val (.long p4), .second, .val (.long p5), .second, .val (.long p6), .second, .val (.int n), .val (.ref b3), .val (.long (own_exp n p2 p3 p4 p5 p6)), .second, .val (.long (own_exp n p2 p3 p4 p5 p6)), .second, .val (.int (1 : Int32))] [(.long (own_exp n p2 p3 p4 p5 p6)), (.long (own_exp n p2 p3 p4 p5 p6))])) _
    refine XS.lcmp X28.here hx rfl (hb hby at_211) rfl ?_
    show Steps p.tables e below (T28.setTop (mkF m 212 #[.val (.int p1), .val (.int p2), .val (.long p3), .second, .val (.long p4), .second, .val (.long p5), .second, .val (.long p6), .second, .val (.int n), .val (.ref b3), .val (.long (own_exp n p2 p3 p4 p5 p6)), .second, .val (.long (own_exp n p2 p3 p4 p5 p6)), .second, .val (.int (1 : Int32))] [(.int (lcmpW (own_exp n p2 p3 p4 p5 p6) (own_exp n p2 p3 p4 p5 p6)))])) _
    refine XS.ifNo X28.here hx rfl (hb hby at_212) rfl ((if0 _ _).trans (teq ((lw_eq _ _).mpr rfl)).2) ?_
    show Steps p.tables e below (T28.setTop (mkF m 215 #[.val (.int p1), .val (.int p2), .val (.long p3), .second, .val (.long p4), .second, .val (.long p5), .second, .val (.long p6), .second, .val (.int n), .val (.ref b3), .val (.long (own_exp n p2 p3 p4 p5 p6)), .second, .val (.long (own_exp n p2 p3 p4 p5 p6)), .second, .val (.int (1 : Int32))] [])) _
    refine XS.iload X28.here hx rfl (hb hby at_215) rfl ?_
    show Steps p.tables e below (T28.setTop (mkF m 217 #[.val (.int p1), .val (.int p2), .val (.long p3), .second, .val (.long p4), .second, .val (.long p5), .second, .val (.long p6), .second, .val (.int n), .val (.ref b3), .val (.long (own_exp n p2 p3 p4 p5 p6)), .second, .val (.long (own_exp n p2 p3 p4 p5 p6)), .second, .val (.int (1 : Int32))] [(.int (1 : Int32))])) _
    refine XS.ifNo X28.here hx rfl (hb hby at_217) rfl (by decide) ?_
    show Steps p.tables e below (T28.setTop (mkF m 220 #[.val (.int p1), .val (.int p2), .val (.long p3), .second, .val (.long p4), .second, .val (.long p5), .second, .val (.long p6), .second, .val (.int n), .val (.ref b3), .val (.long (own_exp n p2 p3 p4 p5 p6)), .second, .val (.long (own_exp n p2 p3 p4 p5 p6)), .second, .val (.int (1 : Int32))] [])) _
    refine XS.iconst X28.here hx rfl (hb hby at_220) ?_
    show Steps p.tables e below (T28.setTop (mkF m 221 #[.val (.int p1), .val (.int p2), .val (.long p3), .second, .val (.long p4), .second, .val (.long p5), .second, .val (.long p6), .second, .val (.int n), .val (.ref b3), .val (.long (own_exp n p2 p3 p4 p5 p6)), .second, .val (.long (own_exp n p2 p3 p4 p5 p6)), .second, .val (.int (1 : Int32))] [(.int (1 : Int32))])) _
    refine XS.goto X28.here hx rfl (pc0 := 221) (pc' := 225) rfl (hb hby at_221) (by decide) (by decide) ?_
    exact k)
  obtain ⟨fs, hr, hrun, hended, hW, hsame⟩ := X28.leave (v := (some (.int (nar .boolean (1 : Int32))))) (fun h => by rw [Bd.returns] at h; cases h)
  refine ⟨_, _, pre0 _ (C38 _ ?_), hrun, hended, _, _, rfl, ?_, ⟨_, rfl⟩, hW, hsame.mono (by decide) (by decide)⟩
  · exact retN X28 hx (t := .boolean) Bd.returns (by simp) (hb hby at_225) hr
  · show Q0 Z p1 p2 p3 p4 p5 p6 h0 n0 _ T28.heap _
    exact ⟨rfl, N28⟩
set_option maxRecDepth 65536 in
set_option maxHeartbeats 40000000 in
theorem comes_1 {Post : Tables → Env → Array Value → State → Outcome → State → Prop} (hpost : ∀ tb e args s v u, (limb_1_1.after args s (.returned v) u = true ∧ limb_1_2.after args s (.returned v) u = true ∧ True) → FrameEnd s (.returned v) u (Jvm.fieldLocs frame_1_writes args s ++ Jvm.arrayLocs frame_1_arrays args s ++ Jvm.staticLocs frame_1_statics s) 16 128 → Post tb e args s (.returned v) u) :
    ArmFor flags0 classFile x code maxLocals ret World_1 tables_1 room_1 Calls_1 rest_1 Pre_1 Post := by
  intro l hfl _ _ p e ha hc hk s m args below hf hA hF happ hP
  obtain ⟨hcalls, hrest, hpre⟩ := hP
  obtain ⟨-, -, -, hnamed, -, -, -, hat⟩ := (Spec.applies_iff hf).mp happ
  obtain ⟨hg, hn⟩ := and_e (Cond.before_iff.mp (show (Jvm.Cond.and given_1 narrow_1).before args s = true from hpre))
  obtain ⟨h1, j0⟩ := and_e hg
  obtain ⟨i0, j1⟩ := and_e j0
  obtain ⟨i1, j2⟩ := and_e j1
  obtain ⟨i2, j3⟩ := and_e j2
  obtain ⟨i3, j4⟩ := and_e j3
  obtain ⟨i4, j5⟩ := and_e j4
  have i5 := j5
  obtain ⟨w0, w1, w2, w3, w4, w5, rfl⟩ : ∃ w0 w1 w2 w3 w4 w5 : Value, args = #[w0, w1, w2, w3, w4, w5] := by
    have hs : args.size = 6 := by simpa [Cond.value, given_1] using h1
    obtain ⟨L⟩ := args
    match L, hs with
    | [w0, w1, w2, w3, w4, w5], _ => exact ⟨w0, w1, w2, w3, w4, w5, rfl⟩
  have hw := fun d (hd : d ∈ tables_1) => atoms_spec (ws := Jvm.Cond.code x code maxLocals ret :: tables_1) hat d (List.mem_cons_of_mem _ hd)
  obtain ⟨v0, e0⟩ := is_v i0
  obtain rfl : w0 = (.int v0) := Option.some.inj e0
  obtain ⟨v1, e1⟩ := is_v i1
  obtain rfl : w1 = (.int v1) := Option.some.inj e1
  obtain ⟨v2, e2⟩ := isL_v i2
  obtain rfl : w2 = (.long v2) := Option.some.inj e2
  obtain ⟨v3, e3⟩ := isL_v i3
  obtain rfl : w3 = (.long v3) := Option.some.inj e3
  obtain ⟨v4, e4⟩ := isL_v i4
  obtain rfl : w4 = (.long v4) := Option.some.inj e4
  obtain ⟨v5, e5⟩ := isL_v i5
  obtain rfl : w5 = (.long v5) := Option.some.inj e5
  obtain ⟨n, o, h1, h2, h3, _, L, rfl, ⟨rfl, N⟩, hq⟩ := rm0 l s _ hw tables_1 v0 v1 v2 v3 v4 v5 s.heap s.heap.size (Nat.le_refl _) p e ha hc hk s m _ below hf ((Spec.applies_iff_loose hf).mp happ).1 ⟨rfl, State.Warmed39.refl s, rfl⟩ trivial
  refine ⟨n, _, h1, h2, h3, hpost _ _ _ _ _ _ ⟨Cond.after_iff.mpr rfl, Cond.after_iff.mpr (eq_i res_at (Term.int_eval (1)) rfl), trivial⟩ ⟨hq.1, hq.2.1, (hq.2.2.sift fun y hy => Or.inr (N y hy)).mono (by decide) (by decide)⟩⟩
theorem main_1_1 : Claimed_1_1 := comes_1 fun _ _ _ _ _ _ h hF => ⟨h.1, hF⟩
theorem main_1_2 : Claimed_1_2 := comes_1 fun _ _ _ _ _ _ h hF => ⟨h.2.1, hF⟩
end Jvm.Pilot.@@N@@
namespace Jvm.Pilot.@@N@@
open Jvm Jvm.ClassFile Sem Op Lib Jvm.Free Jvm.Stand Jvm.Pilot.@@N@@.Jvm.D
/-! MADE BY PROGRAM (witnessworld.py) out of the Statement's table words and the real class files: 11 classes; the members and pool entries that the words name. The judged class is class 1, her method 1. -/
namespace start1
open Jvm.ClassFile
def u (s : String) : CpInfo := .utf8 (stringToUtf16 s)
/-- a pool by its gaps: so many unusable entries, then the entry; so many at the end -/
def gap : Nat → List CpInfo → List CpInfo
  | 0, r => r
  | n + 1, r => .unusable :: gap n r
def poolList (es : List (Nat × CpInfo)) (last : Nat) : List CpInfo := es.foldr (fun e r => gap e.1 (e.2 :: r)) (gap last [])
def pool (es : List (Nat × CpInfo)) (last : Nat) : Array CpInfo := ⟨poolList es last⟩
def fileOf (pool : Array CpInfo) (this : Nat) (attrs : Array Attribute := #[]) (ms : Array MethodInfo := #[]) (fl : Nat := 33) (sup : Nat := 0) (ifs : Array Nat := #[]) (fds : Array FieldInfo := #[]) : ClassFile where
  minorVersion := 0
  majorVersion := 65
  constantPool := pool
  accessFlags := fl
  thisClass := this
  superClass := sup
  interfaces := ifs
  fields := fds
  methods := ms
  attributes := attrs
def plain (name : String) (sup : Option ClassId) : Class where
  name := name
  kind := .ordinary
  loader := none
  accessFlags := 33
  super := sup
  interfaces := #[]
  cf := none
  fields := #[]
  methods := #[]
  instanceTypes := #[]
  staticTypes := #[]
  resolved := #[]
  callSites := []
  init := .initialized
  statics := none
  mirror := none

def pool0 : Array CpInfo := pool [(5, u "<init>"), (0, u "()V"), (1, .class_ 10), (1, u "java/lang/Object")] 113

def k0m0 : Method := { name := "<init>", desc := "()V", sig := { parameters := [], returnType := none }, accessFlags := 1, code := none }
/-- java/lang/Object -/
def k0 : Class := { plain "java/lang/Object" none with
  accessFlags := 33
  interfaces := #[]
  cf := some (fileOf pool0 8 #[] #[{ accessFlags := 1, nameIndex := 5, descriptorIndex := 6, attributes := #[] }] 33 0 #[] #[])
  fields := #[]
  methods := #[k0m0]
  instanceTypes := #[]
  staticTypes := #[]
  resolved := Array.replicate 124 none
  statics := none }

def pool1 : Array CpInfo := pool [(2, .class_ 4), (1, u "java/lang/Object"), (0, u "<init>"), (0, u "()V"), (0, .methodref 8 9), (0, .class_ 10), (0, .nameAndType 11 12), (0, u "com/example/relayline/relayline/EventFamily$Table"), (0, u "maskOf"), (0, u "([JI)J"), (0, .class_ 14), (0, u "com/example/relayline/relayline/TableMaskOfPinLaw"), (2, u "law"), (0, u "(IIJJJJ)Z")] 9

def k1m0 : Method := { name := "<init>", desc := "()V", sig := { parameters := [], returnType := none }, accessFlags := 1, code := none }
def k1c1 : Code := { maxStack := 4, maxLocals := 17, code := code, exceptionTable := #[], attributes := #[] }
def k1m1 : Method := { name := "law", desc := "(IIJJJJ)Z", sig := { parameters := [.int, .int, .long, .long, .long, .long], returnType := some .boolean }, accessFlags := 9, code := some k1c1 }
/-- com/example/relayline/relayline/TableMaskOfPinLaw -/
def k1 : Class := { plain "com/example/relayline/relayline/TableMaskOfPinLaw" (some 0) with
  accessFlags := 49
  interfaces := #[]
  cf := some (fileOf pool1 13 #[] #[{ accessFlags := 1, nameIndex := 5, descriptorIndex := 6, attributes := #[] }, { accessFlags := 9, nameIndex := 17, descriptorIndex := 18, attributes := #[] }] 49 2 #[] #[])
  fields := #[]
  methods := #[k1m0, k1m1]
  instanceTypes := #[]
  staticTypes := #[]
  resolved := Array.replicate 28 none
  statics := none }

def pool2 : Array CpInfo := pool [(1, .class_ 2), (0, u "com/example/relayline/relayline/EventFamily"), (1, .class_ 6), (1, u "com/example/relayline/relayline/EventFamily$Table"), (3, .class_ 12), (1, u "java/lang/Object"), (6, u "callsByFamilies"), (0, u "Ljava/util/Map;"), (23, u "[Lcom/example/relayline/relayline/EventFamily;"), (2, u "byId"), (14, u "masksById"), (0, u "[J"), (16, u "familiesWithListeners"), (0, u "J"), (57, u "maskOf"), (0, u "([JI)J")] 37

def k2c0 : Code := { maxStack := 2, maxLocals := 2, code := prog_17_method_9_code, exceptionTable := #[], attributes := #[] }
def k2m0 : Method := { name := "maskOf", desc := "([JI)J", sig := { parameters := [(.array .long), .int], returnType := some .long }, accessFlags := 8, code := some k2c0 }
/-- com/example/relayline/relayline/EventFamily$Table -/
def k2 : Class := { plain "com/example/relayline/relayline/EventFamily$Table" (some 0) with
  accessFlags := 32
  interfaces := #[]
  cf := some (fileOf pool2 4 #[.nestHost 1] #[{ accessFlags := 8, nameIndex := 139, descriptorIndex := 140, attributes := #[] }] 32 10 #[] #[{ accessFlags := 18, nameIndex := 47, descriptorIndex := 44, attributes := #[] }, { accessFlags := 18, nameIndex := 62, descriptorIndex := 63, attributes := #[] }, { accessFlags := 18, nameIndex := 80, descriptorIndex := 81, attributes := #[] }, { accessFlags := 18, nameIndex := 19, descriptorIndex := 20, attributes := #[] }])
  fields := #[{ name := "byId", type := (.array (.object "com/example/relayline/relayline/EventFamily")), accessFlags := 18, slot := 0, constantValue := 0 }, { name := "masksById", type := (.array .long), accessFlags := 18, slot := 1, constantValue := 0 }, { name := "familiesWithListeners", type := .long, accessFlags := 18, slot := 2, constantValue := 0 }, { name := "callsByFamilies", type := (.object "java/util/Map"), accessFlags := 18, slot := 3, constantValue := 0 }]
  methods := #[k2m0]
  instanceTypes := #[(.array (.object "com/example/relayline/relayline/EventFamily")), (.array .long), .long, (.object "java/util/Map")]
  staticTypes := #[]
  resolved := Array.replicate 178 none
  statics := none }

def pool3 : Array CpInfo := pool [(1, u "java/lang/Cloneable"), (0, .class_ 1), (0, u "java/lang/Object"), (0, .class_ 3)] 3

/-- java/lang/Cloneable -/
def k3 : Class := { plain "java/lang/Cloneable" (some 0) with
  accessFlags := 1537
  interfaces := #[]
  cf := some (fileOf pool3 2 #[] #[] 1537 4 #[] #[])
  fields := #[]
  methods := #[]
  instanceTypes := #[]
  staticTypes := #[]
  resolved := Array.replicate 8 none
  statics := none }

def pool4 : Array CpInfo := pool [(1, u "java/io/Serializable"), (0, .class_ 1), (0, u "java/lang/Object"), (0, .class_ 3)] 3

/-- java/io/Serializable -/
def k4 : Class := { plain "java/io/Serializable" (some 0) with
  accessFlags := 1537
  interfaces := #[]
  cf := some (fileOf pool4 2 #[] #[] 1537 4 #[] #[])
  fields := #[]
  methods := #[]
  instanceTypes := #[]
  staticTypes := #[]
  resolved := Array.replicate 8 none
  statics := none }

/-- the primitive byte -/
def k5 : Class := { plain "byte" none with kind := .primitive 'B', accessFlags := 0x411 }
/-- [B -/
def k6 : Class := { plain "[B" (some 0) with kind := .array 5 .byte, interfaces := #[3, 4], accessFlags := 1041 }

/-- the primitive int -/
def k7 : Class := { plain "int" none with kind := .primitive 'I', accessFlags := 0x411 }
/-- [I -/
def k8 : Class := { plain "[I" (some 0) with kind := .array 7 .int, interfaces := #[3, 4], accessFlags := 1041 }

/-- the primitive long -/
def k9 : Class := { plain "long" none with kind := .primitive 'J', accessFlags := 0x411 }
/-- [J -/
def k10 : Class := { plain "[J" (some 0) with kind := .array 9 .long, interfaces := #[3, 4], accessFlags := 1041 }

def heap : Heap := #[]
def classes : Array Class := #[k0, k1, k2, k3, k4, k5, k6, k7, k8, k9, k10]
def interned : List (Array UInt16 × Addr) := []
def slotsUsed : Nat := 0
def theMethod : MethodId := ⟨1, 1⟩
def args0 : Array Value := #[.int 5, .int 6, .long 7, .long 8, .long 0, .long 3]
def aboutOver (below : List Frame) : State where
  vm := { classes := classes, interned := interned.toArray }
  heap := heap
  slotsUsed := slotsUsed
  threads := #[{ frames := .invoking theMethod args0 :: below }]
def below0 : List Frame := [.native { method := ⟨0, 0⟩, args := #[] }]
def about1 : State := aboutOver below0
def p0 : Program := .bare "" "" ""
def e0 : Env := launch0.env 0 0 0
theorem w_frames : about1.frames = Frame.invoking theMethod args0 :: below0 := rfl
set_option maxRecDepth 65536 in
theorem w_args : argsFit about1.vm theMethod args0 = true := by decide +kernel
set_option maxRecDepth 65536 in
theorem w_heap : heapFits about1 = true := by decide +kernel
set_option maxRecDepth 65536 in
theorem w_runnable : about1.curStatus? = some .runnable := by decide +kernel
set_option maxRecDepth 65536 in
theorem w_alone : about1.alone = true := by decide +kernel
set_option maxRecDepth 65536 in
theorem w_named : about1.methodNamed? x = some theMethod := by decide +kernel
set_option maxRecDepth 65536 in
theorem w_hears : about1.hears theMethod below0 = true := by decide +kernel
set_option maxRecDepth 65536 in
theorem w_ripe : about1.ripe theMethod args0 below0 = true := by decide +kernel
theorem w_running : about1.status = .running := rfl
set_option maxRecDepth 65536 in
theorem w_room : about1.hasRoom e0.platform room_1 = true :=
  launch0.hasRoom_least _ room_1 (by decide +kernel) (by decide +kernel) (by decide +kernel) (by decide +kernel) (by decide +kernel) (by decide +kernel)
theorem allAtoms_all (ts : List Jvm.Cond) (a : Array Jvm.Value) (st : Jvm.State) : (allAtoms ts).before a st = ts.all (fun c => c.before a st) := by
  induction ts with
  | nil => rfl
  | cons c t ih =>
    show (Jvm.Cond.and c (allAtoms t)).before a st = _
    rw [Jvm.Cond.before_and, ih, List.all_cons]
def words1 : List Jvm.Cond := Jvm.Cond.code x code maxLocals ret :: tables_1
/-- a 'code' word, met by the world's own term for the bytes: nothing is compared byte by byte -/
theorem code_word {y : MethodName} {bytes : ByteArray} {mx : Nat} {rt : Option FieldType} {a : Array Value} {s : State} {m : MethodId} {meth : Method} {c : Code} (h1 : s.methodNamed? y = some m) (h2 : s.vm.method? m = some meth) (h3 : meth.code = some c) (h4 : c.code = bytes)
    (h5 : (c.maxLocals == mx && c.exceptionTable.isEmpty && decide (c.maxStack ≤ mostOperands) && decide (meth.sig.returnType = rt) && !meth.locks && decide (parseMethodDescriptor y.desc = some meth.sig)) = true) : (Jvm.Cond.code y bytes mx rt).before a s = true := by
  simp only [Bool.and_eq_true, beq_iff_eq, Bool.not_eq_true', decide_eq_true_eq] at h5
  obtain ⟨⟨⟨⟨⟨g1, g2⟩, g3⟩, g4⟩, g5⟩, g6⟩ := h5
  simp [Cond.before, Cond.holds, Cond.value, h1, h2, h3, h4, g1, g2, g3, g4, g5, g6]
def isCode : Jvm.Cond → Bool
  | .code _ _ _ _ => true
  | _ => false
theorem all_split {L : List Jvm.Cond} {P : Jvm.Cond → Bool} (h1 : L.all (fun c => isCode c || P c) = true) (h2 : ∀ c ∈ L.filter isCode, P c = true) : L.all P = true := by
  refine List.all_eq_true.mpr fun c hc => ?_
  have h := List.all_eq_true.mp h1 c hc
  rcases Bool.eq_false_or_eq_true (isCode c) with hi | hi
  · exact h2 c (List.mem_filter.mpr ⟨hc, hi⟩)
  · simpa [hi] using h
set_option maxRecDepth 65536 in
theorem w_c0 : (Jvm.Cond.code x code maxLocals ret).before args0 about1 = true := code_word (m := ⟨1, 1⟩) (meth := k1m1) (c := k1c1) (by decide +kernel) rfl rfl rfl (by decide +kernel)
set_option maxRecDepth 65536 in
theorem w_c1 : (Jvm.Cond.code ({ cls := "com/example/relayline/relayline/EventFamily$Table", name := "maskOf", desc := "([JI)J" } : Jvm.MethodName) prog_17_method_9_code (2 : Nat) (Option.some Jvm.ClassFile.FieldType.long)).before args0 about1 = true := code_word (m := ⟨2, 0⟩) (meth := k2m0) (c := k2c0) (by decide +kernel) rfl rfl rfl (by decide +kernel)
def codes1 : List Jvm.Cond := [Jvm.Cond.code x code maxLocals ret, Jvm.Cond.code ({ cls := "com/example/relayline/relayline/EventFamily$Table", name := "maskOf", desc := "([JI)J" } : Jvm.MethodName) prog_17_method_9_code (2 : Nat) (Option.some Jvm.ClassFile.FieldType.long)]
set_option maxRecDepth 65536 in
theorem codes_eq : words1.filter isCode = codes1 := rfl
theorem w_codes : ∀ c ∈ words1.filter isCode, c.before args0 about1 = true := by
  rw [codes_eq]
  intro c hc
  simp only [codes1, List.mem_cons, List.not_mem_nil, or_false] at hc
  rcases hc with rfl | rfl
  · exact w_c0
  · exact w_c1
set_option maxRecDepth 65536 in
theorem w_t1 : words1.all (fun c => isCode c || c.before args0 about1) = true := by decide +kernel
theorem w_tables : (allAtoms (Jvm.Cond.code x code maxLocals ret :: tables_1)).before args0 about1 = true := by
  rw [allAtoms_all]
  show words1.all (fun c => c.before args0 about1) = true
  refine all_split ?_ w_codes
  rw [w_t1]
set_option maxRecDepth 65536 in
theorem w_case : (Jvm.Cond.and given_1 narrow_1).before args0 about1 = true := by decide +kernel
theorem w_applies : (headSpec (Jvm.Cond.code x code maxLocals ret :: tables_1) room_1).applies x e0.platform about1 = true :=
  (Spec.applies_iff w_frames).mpr ⟨w_running, w_runnable, w_alone, w_named, w_hears, w_ripe, w_room, w_tables⟩
theorem atStart : AtStart classFile x code maxLocals ret World_1 tables_1 room_1 Calls_1 rest_1 Pre_1 launch0 p0 e0 about1 theMethod args0 below0 :=
  ⟨lists_1, trivial, launch0.admits_env _ _ _, launch0.least_env, fairChoices_fair.cas, fairChoices_fair.clock, w_frames, w_args, w_heap, w_applies, trivial, trivial, w_case⟩
end start1
theorem witness_1 : WitnessClaimed_1 := ⟨start1.p0, start1.e0, start1.about1, start1.theMethod, start1.args0, start1.below0, start1.atStart⟩
end Jvm.Pilot.@@N@@
