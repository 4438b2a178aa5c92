import JvmDerived
import JvmDerived.Pilot.@@N@@Statement
import JvmDerived.Pilot.@@N@@Code
set_option linter.unusedVariables false
set_option linter.unusedSimpArgs false
namespace Jvm.RoadKit
open Sem ClassFile Op Lib Jvm.Stand Jvm.Free Jvm.LawKit
section New
variable {p : Program} {l : Launch} {e : Env} {R : Room} {s : State} {m : MethodId} {args : Array Value} {below : List Frame} {meth : Method} {c : Code} {T : State} {locs : List Loc} {cells slots : Nat}
theorem retI (X : Stand p l e R s m args below meth c T locs cells slots) (hx : p.tables.exec = Jvm.exec) {pc : Nat} {Ls : Array Slot} {z : Int32} {rest : List Value} (hret : meth.sig.returnType = some .int) (hd : decode c.code pc = .ok (.ireturn, 1)) {fs : List Frame}
    (hl : ∀ (f : JFrame) (acts : List Action), f.method = m → f.locked = none → f.entered = [] → (doReturn e (T.setTop f) acts (some (.int z))).1 = T.setFrames fs) : Steps p.tables e below (T.setTop (mkF m pc Ls (.int z :: rest))) (T.setFrames fs) := by
  have hm' : T.vm.method? m = some meth := X.method'
  have hn : narrow .int (.int z) = .int z := rfl
  show Steps p.tables e below (T.setTop { method := m, pc := pc, locals := Ls, stack := _ :: rest, locked := none }) _
  jvm_step X.here [X.here.top, hx, hd, hm', hret, hn]
  first | (intro acts; rw [hl _ acts rfl rfl rfl]) | rw [hl _ _ rfl rfl rfl]
  exact Steps.refl _
end New
end Jvm.RoadKit
namespace Jvm.Pilot.@@N@@
open Jvm Jvm.ClassFile Sem Op Lib Jvm.Free Jvm.Stand Jvm.LawKit Jvm.RoadKit Bundle Jvm.Pilot.@@N@@.Jvm.D
/-- whoever comes from the frame f (over T) comes from the frame f0 (over T0) -/
abbrev Go (p : Program) (e : Env) (below : List Frame) (T : State) (f : JFrame) (T0 : State) (f0 : JFrame) : Prop := ∀ t, Steps p.tables e below (T.setTop f) t → Steps p.tables e below (T0.setTop f0) t
def own_hash (l x y w : Int32) : Int32 :=
  let t := (((l * (-1640531535 : Int32)) ^^^ (x * (31 : Int32))) ^^^ (y * (-2048144789 : Int32))) ^^^ (w * (-1028477387 : Int32))
  (t ^^^ ((t.toUInt32 >>> ((15 : Int32) &&& 31).toUInt32).toInt32)) &&& (63 : Int32)
theorem own_hash_lo (l x y w : Int32) : ¬ own_hash l x y w < 0 ∧ own_hash l x y w < 64 := by
  unfold own_hash
  have h := c_and ((((l * (-1640531535 : Int32)) ^^^ (x * (31 : Int32))) ^^^ (y * (-2048144789 : Int32))) ^^^ (w * (-1028477387 : Int32)) ^^^ (((((l * (-1640531535 : Int32)) ^^^ (x * (31 : Int32))) ^^^ (y * (-2048144789 : Int32))) ^^^ (w * (-1028477387 : Int32))).toUInt32 >>> ((15 : Int32) &&& 31).toUInt32).toInt32) 63 (by decide)
  have e : (63 : Int32).toInt = 63 := rfl
  have e0 : (0 : Int32).toInt = 0 := rfl
  have e1 : (64 : Int32).toInt = 64 := rfl
  rw [Int32.lt_iff_toInt_lt, Int32.lt_iff_toInt_lt]
  dsimp only
  constructor <;> omega
theorem own_idx {j : Int32} {i : Nat} (h : j.toInt = i) : j.toNatClampNeg = i := by simp [Int32.toNatClampNeg, h]
theorem own_in {c : Cell} {j : Int32} {i : Nat} (S : c.slots.size = (16 : Int32).toNatClampNeg) (h : j.toInt = i) (hi : i < 16) : ¬ (j < 0 ∨ c.slots.size ≤ j.toNatClampNeg) := by
  have e : (16 : Int32).toNatClampNeg = 16 := rfl
  have e0 : (0 : Int32).toInt = 0 := rfl
  rw [S, own_idx h, e, Int32.lt_iff_toInt_lt, h, e0]
  omega
theorem own_mid {s l : Int32} {a L : Nat} (hs : s.toInt = a) (hl : l.toInt = L) (ha : a ≤ 7) (hL : L ≤ 8) : (s + (l >>> ((1 : Int32) &&& 31))).toInt = (a + L / 2 : Nat) := by
  have h1 := c_ishr l 1 1 (by decide)
  have h2 := c_iadd s (l >>> ((1 : Int32) &&& 31))
  have r := rng32 (s + (l >>> ((1 : Int32) &&& 31)))
  rw [h1, hs, hl] at h2
  omega
theorem own_end {s l : Int32} {a L : Nat} (hs : s.toInt = a) (hl : l.toInt = L) (ha : a ≤ 7) (h1 : 1 ≤ L) (hL : L ≤ 8) : ((s + l) - (1 : Int32)).toInt = (a + L - 1 : Nat) := by
  have h2 := c_iadd s l
  have h3 := c_isub (s + l) 1
  have e : (1 : Int32).toInt = 1 := rfl
  have r := rng32 ((s + l) - (1 : Int32))
  omega
theorem own_place (vs : List Value) (a L : Nat) (hl : vs.length = 16) (ha : a ≤ 7) (h1 : 1 ≤ L) (h8 : L ≤ 8) (f m z d : Value) :
    (((vs.set a f).set (a + L / 2) m).set (a + L - 1) z).getD a d = (if L = 1 then z else f) ∧ (((vs.set a f).set (a + L / 2) m).set (a + L - 1) z).getD (a + L / 2) d = (if L ≤ 2 then z else m) ∧ (((vs.set a f).set (a + L / 2) m).set (a + L - 1) z).getD (a + L - 1) d = z := by
  simp only [List.getD_eq_getElem?_getD, List.getElem?_set, List.length_set, hl, if_true]
  refine ⟨?_, ?_, ?_⟩
  · by_cases c : L = 1
    · rw [if_pos (by omega), if_pos (by omega), if_pos c]; rfl
    · rw [if_neg (by omega), if_neg (by omega), if_pos (by omega), if_neg c]; rfl
  · by_cases c : L ≤ 2
    · rw [if_pos (by omega), if_pos (by omega), if_pos c]; rfl
    · rw [if_neg (by omega), if_pos (by omega), if_neg c]; rfl
  · rw [if_pos (by omega)]; rfl
def own_x (l f z : Int32) : Int32 := if l.toInt = 1 then z else f
def own_w (l m z : Int32) : Int32 := if l.toInt ≤ 2 then z else m
theorem d1_0 : decode method_2_code 0 = .ok (.bipush 16, 2) := by decide +kernel
theorem d1_2 : decode method_2_code 2 = .ok (.newarray .char, 2) := by decide +kernel
theorem d1_4 : decode method_2_code 4 = .ok (.astore_n 1, 1) := by decide +kernel
theorem d1_5 : decode method_2_code 5 = .ok (.aload_n 1, 1) := by decide +kernel
theorem d1_6 : decode method_2_code 6 = .ok (.iconst 0, 1) := by decide +kernel
theorem d1_7 : decode method_2_code 7 = .ok (.iload_n 0, 1) := by decide +kernel
theorem d1_8 : decode method_2_code 8 = .ok (.i2c, 1) := by decide +kernel
theorem d1_9 : decode method_2_code 9 = .ok (.castore, 1) := by decide +kernel
theorem d1_10 : decode method_2_code 10 = .ok (.aload_n 1, 1) := by decide +kernel
theorem d1_11 : decode method_2_code 11 = .ok (.iconst 1, 1) := by decide +kernel
theorem d1_12 : decode method_2_code 12 = .ok (.iload_n 0, 1) := by decide +kernel
theorem d1_13 : decode method_2_code 13 = .ok (.iconst 3, 1) := by decide +kernel
theorem d1_14 : decode method_2_code 14 = .ok (.imul, 1) := by decide +kernel
theorem d1_15 : decode method_2_code 15 = .ok (.iconst 1, 1) := by decide +kernel
theorem d1_16 : decode method_2_code 16 = .ok (.iadd, 1) := by decide +kernel
theorem d1_17 : decode method_2_code 17 = .ok (.i2c, 1) := by decide +kernel
theorem d1_18 : decode method_2_code 18 = .ok (.castore, 1) := by decide +kernel
theorem d1_19 : decode method_2_code 19 = .ok (.aload_n 1, 1) := by decide +kernel
theorem d1_20 : decode method_2_code 20 = .ok (.iconst 2, 1) := by decide +kernel
theorem d1_21 : decode method_2_code 21 = .ok (.iload_n 0, 1) := by decide +kernel
theorem d1_22 : decode method_2_code 22 = .ok (.iconst 5, 1) := by decide +kernel
theorem d1_23 : decode method_2_code 23 = .ok (.imul, 1) := by decide +kernel
theorem d1_24 : decode method_2_code 24 = .ok (.iconst 2, 1) := by decide +kernel
theorem d1_25 : decode method_2_code 25 = .ok (.iadd, 1) := by decide +kernel
theorem d1_26 : decode method_2_code 26 = .ok (.i2c, 1) := by decide +kernel
theorem d1_27 : decode method_2_code 27 = .ok (.castore, 1) := by decide +kernel
theorem d1_28 : decode method_2_code 28 = .ok (.aload_n 1, 1) := by decide +kernel
theorem d1_29 : decode method_2_code 29 = .ok (.iconst 3, 1) := by decide +kernel
theorem d1_30 : decode method_2_code 30 = .ok (.iload_n 0, 1) := by decide +kernel
theorem d1_31 : decode method_2_code 31 = .ok (.bipush 7, 2) := by decide +kernel
theorem d1_33 : decode method_2_code 33 = .ok (.imul, 1) := by decide +kernel
theorem d1_34 : decode method_2_code 34 = .ok (.iconst 3, 1) := by decide +kernel
theorem d1_35 : decode method_2_code 35 = .ok (.iadd, 1) := by decide +kernel
theorem d1_36 : decode method_2_code 36 = .ok (.i2c, 1) := by decide +kernel
theorem d1_37 : decode method_2_code 37 = .ok (.castore, 1) := by decide +kernel
theorem d1_38 : decode method_2_code 38 = .ok (.aload_n 1, 1) := by decide +kernel
theorem d1_39 : decode method_2_code 39 = .ok (.iconst 4, 1) := by decide +kernel
theorem d1_40 : decode method_2_code 40 = .ok (.iload_n 0, 1) := by decide +kernel
theorem d1_41 : decode method_2_code 41 = .ok (.bipush 9, 2) := by decide +kernel
theorem d1_43 : decode method_2_code 43 = .ok (.imul, 1) := by decide +kernel
theorem d1_44 : decode method_2_code 44 = .ok (.iconst 4, 1) := by decide +kernel
theorem d1_45 : decode method_2_code 45 = .ok (.iadd, 1) := by decide +kernel
theorem d1_46 : decode method_2_code 46 = .ok (.i2c, 1) := by decide +kernel
theorem d1_47 : decode method_2_code 47 = .ok (.castore, 1) := by decide +kernel
theorem d1_48 : decode method_2_code 48 = .ok (.aload_n 1, 1) := by decide +kernel
theorem d1_49 : decode method_2_code 49 = .ok (.iconst 5, 1) := by decide +kernel
theorem d1_50 : decode method_2_code 50 = .ok (.iload_n 0, 1) := by decide +kernel
theorem d1_51 : decode method_2_code 51 = .ok (.bipush 11, 2) := by decide +kernel
theorem d1_53 : decode method_2_code 53 = .ok (.imul, 1) := by decide +kernel
theorem d1_54 : decode method_2_code 54 = .ok (.iconst 5, 1) := by decide +kernel
theorem d1_55 : decode method_2_code 55 = .ok (.iadd, 1) := by decide +kernel
theorem d1_56 : decode method_2_code 56 = .ok (.i2c, 1) := by decide +kernel
theorem d1_57 : decode method_2_code 57 = .ok (.castore, 1) := by decide +kernel
theorem d1_58 : decode method_2_code 58 = .ok (.aload_n 1, 1) := by decide +kernel
theorem d1_59 : decode method_2_code 59 = .ok (.bipush 6, 2) := by decide +kernel
theorem d1_61 : decode method_2_code 61 = .ok (.iload_n 0, 1) := by decide +kernel
theorem d1_62 : decode method_2_code 62 = .ok (.bipush 13, 2) := by decide +kernel
theorem d1_64 : decode method_2_code 64 = .ok (.imul, 1) := by decide +kernel
theorem d1_65 : decode method_2_code 65 = .ok (.bipush 6, 2) := by decide +kernel
theorem d1_67 : decode method_2_code 67 = .ok (.iadd, 1) := by decide +kernel
theorem d1_68 : decode method_2_code 68 = .ok (.i2c, 1) := by decide +kernel
theorem d1_69 : decode method_2_code 69 = .ok (.castore, 1) := by decide +kernel
theorem d1_70 : decode method_2_code 70 = .ok (.aload_n 1, 1) := by decide +kernel
theorem d1_71 : decode method_2_code 71 = .ok (.bipush 7, 2) := by decide +kernel
theorem d1_73 : decode method_2_code 73 = .ok (.iload_n 0, 1) := by decide +kernel
theorem d1_74 : decode method_2_code 74 = .ok (.bipush 15, 2) := by decide +kernel
theorem d1_76 : decode method_2_code 76 = .ok (.imul, 1) := by decide +kernel
theorem d1_77 : decode method_2_code 77 = .ok (.bipush 7, 2) := by decide +kernel
theorem d1_79 : decode method_2_code 79 = .ok (.iadd, 1) := by decide +kernel
theorem d1_80 : decode method_2_code 80 = .ok (.i2c, 1) := by decide +kernel
theorem d1_81 : decode method_2_code 81 = .ok (.castore, 1) := by decide +kernel
theorem d1_82 : decode method_2_code 82 = .ok (.aload_n 1, 1) := by decide +kernel
theorem d1_83 : decode method_2_code 83 = .ok (.bipush 8, 2) := by decide +kernel
theorem d1_85 : decode method_2_code 85 = .ok (.iload_n 0, 1) := by decide +kernel
theorem d1_86 : decode method_2_code 86 = .ok (.bipush 17, 2) := by decide +kernel
theorem d1_88 : decode method_2_code 88 = .ok (.imul, 1) := by decide +kernel
theorem d1_89 : decode method_2_code 89 = .ok (.bipush 8, 2) := by decide +kernel
theorem d1_91 : decode method_2_code 91 = .ok (.iadd, 1) := by decide +kernel
theorem d1_92 : decode method_2_code 92 = .ok (.i2c, 1) := by decide +kernel
theorem d1_93 : decode method_2_code 93 = .ok (.castore, 1) := by decide +kernel
theorem d1_94 : decode method_2_code 94 = .ok (.aload_n 1, 1) := by decide +kernel
theorem d1_95 : decode method_2_code 95 = .ok (.bipush 9, 2) := by decide +kernel
theorem d1_97 : decode method_2_code 97 = .ok (.iload_n 0, 1) := by decide +kernel
theorem d1_98 : decode method_2_code 98 = .ok (.bipush 19, 2) := by decide +kernel
theorem d1_100 : decode method_2_code 100 = .ok (.imul, 1) := by decide +kernel
theorem d1_101 : decode method_2_code 101 = .ok (.bipush 9, 2) := by decide +kernel
theorem d1_103 : decode method_2_code 103 = .ok (.iadd, 1) := by decide +kernel
theorem d1_104 : decode method_2_code 104 = .ok (.i2c, 1) := by decide +kernel
theorem d1_105 : decode method_2_code 105 = .ok (.castore, 1) := by decide +kernel
theorem d1_106 : decode method_2_code 106 = .ok (.aload_n 1, 1) := by decide +kernel
theorem d1_107 : decode method_2_code 107 = .ok (.bipush 10, 2) := by decide +kernel
theorem d1_109 : decode method_2_code 109 = .ok (.iload_n 0, 1) := by decide +kernel
theorem d1_110 : decode method_2_code 110 = .ok (.bipush 21, 2) := by decide +kernel
theorem d1_112 : decode method_2_code 112 = .ok (.imul, 1) := by decide +kernel
theorem d1_113 : decode method_2_code 113 = .ok (.bipush 10, 2) := by decide +kernel
theorem d1_115 : decode method_2_code 115 = .ok (.iadd, 1) := by decide +kernel
theorem d1_116 : decode method_2_code 116 = .ok (.i2c, 1) := by decide +kernel
theorem d1_117 : decode method_2_code 117 = .ok (.castore, 1) := by decide +kernel
theorem d1_118 : decode method_2_code 118 = .ok (.aload_n 1, 1) := by decide +kernel
theorem d1_119 : decode method_2_code 119 = .ok (.bipush 11, 2) := by decide +kernel
theorem d1_121 : decode method_2_code 121 = .ok (.iload_n 0, 1) := by decide +kernel
theorem d1_122 : decode method_2_code 122 = .ok (.bipush 23, 2) := by decide +kernel
theorem d1_124 : decode method_2_code 124 = .ok (.imul, 1) := by decide +kernel
theorem d1_125 : decode method_2_code 125 = .ok (.bipush 11, 2) := by decide +kernel
theorem d1_127 : decode method_2_code 127 = .ok (.iadd, 1) := by decide +kernel
theorem d1_128 : decode method_2_code 128 = .ok (.i2c, 1) := by decide +kernel
theorem d1_129 : decode method_2_code 129 = .ok (.castore, 1) := by decide +kernel
theorem d1_130 : decode method_2_code 130 = .ok (.aload_n 1, 1) := by decide +kernel
theorem d1_131 : decode method_2_code 131 = .ok (.bipush 12, 2) := by decide +kernel
theorem d1_133 : decode method_2_code 133 = .ok (.iload_n 0, 1) := by decide +kernel
theorem d1_134 : decode method_2_code 134 = .ok (.bipush 25, 2) := by decide +kernel
theorem d1_136 : decode method_2_code 136 = .ok (.imul, 1) := by decide +kernel
theorem d1_137 : decode method_2_code 137 = .ok (.bipush 12, 2) := by decide +kernel
theorem d1_139 : decode method_2_code 139 = .ok (.iadd, 1) := by decide +kernel
theorem d1_140 : decode method_2_code 140 = .ok (.i2c, 1) := by decide +kernel
theorem d1_141 : decode method_2_code 141 = .ok (.castore, 1) := by decide +kernel
theorem d1_142 : decode method_2_code 142 = .ok (.aload_n 1, 1) := by decide +kernel
theorem d1_143 : decode method_2_code 143 = .ok (.bipush 13, 2) := by decide +kernel
theorem d1_145 : decode method_2_code 145 = .ok (.iload_n 0, 1) := by decide +kernel
theorem d1_146 : decode method_2_code 146 = .ok (.bipush 27, 2) := by decide +kernel
theorem d1_148 : decode method_2_code 148 = .ok (.imul, 1) := by decide +kernel
theorem d1_149 : decode method_2_code 149 = .ok (.bipush 13, 2) := by decide +kernel
theorem d1_151 : decode method_2_code 151 = .ok (.iadd, 1) := by decide +kernel
theorem d1_152 : decode method_2_code 152 = .ok (.i2c, 1) := by decide +kernel
theorem d1_153 : decode method_2_code 153 = .ok (.castore, 1) := by decide +kernel
theorem d1_154 : decode method_2_code 154 = .ok (.aload_n 1, 1) := by decide +kernel
theorem d1_155 : decode method_2_code 155 = .ok (.bipush 14, 2) := by decide +kernel
theorem d1_157 : decode method_2_code 157 = .ok (.iload_n 0, 1) := by decide +kernel
theorem d1_158 : decode method_2_code 158 = .ok (.bipush 29, 2) := by decide +kernel
theorem d1_160 : decode method_2_code 160 = .ok (.imul, 1) := by decide +kernel
theorem d1_161 : decode method_2_code 161 = .ok (.bipush 14, 2) := by decide +kernel
theorem d1_163 : decode method_2_code 163 = .ok (.iadd, 1) := by decide +kernel
theorem d1_164 : decode method_2_code 164 = .ok (.i2c, 1) := by decide +kernel
theorem d1_165 : decode method_2_code 165 = .ok (.castore, 1) := by decide +kernel
theorem d1_166 : decode method_2_code 166 = .ok (.aload_n 1, 1) := by decide +kernel
theorem d1_167 : decode method_2_code 167 = .ok (.bipush 15, 2) := by decide +kernel
theorem d1_169 : decode method_2_code 169 = .ok (.iload_n 0, 1) := by decide +kernel
theorem d1_170 : decode method_2_code 170 = .ok (.bipush 31, 2) := by decide +kernel
theorem d1_172 : decode method_2_code 172 = .ok (.imul, 1) := by decide +kernel
theorem d1_173 : decode method_2_code 173 = .ok (.bipush 15, 2) := by decide +kernel
theorem d1_175 : decode method_2_code 175 = .ok (.iadd, 1) := by decide +kernel
theorem d1_176 : decode method_2_code 176 = .ok (.i2c, 1) := by decide +kernel
theorem d1_177 : decode method_2_code 177 = .ok (.castore, 1) := by decide +kernel
theorem d1_178 : decode method_2_code 178 = .ok (.aload_n 1, 1) := by decide +kernel
theorem d1_179 : decode method_2_code 179 = .ok (.areturn, 1) := by decide +kernel
theorem pn_1 : plainName "com/example/trailwright/trailwright/xml/XmlNamesSetPinLaw" = true := by first | (simp [plainName, overriddenIn]; done) | decide +kernel
theorem pd_1 : parseMethodDescriptor "(I)[C" = some ⟨[.int], some (.array .char)⟩ := by decide +kernel
theorem ef_1 (m : MethodId) (x0 : Int32) : entryFrame m #[(.int x0)] 2 = mkF m 0 #[.val (.int x0), .unset] [] := by first | (simp [entryFrame, mkF, argsToLocals, Value.category]; done) | rfl
def Q1 (Z : State) (p1 : Int32) (h0 : Heap) (n0 : Nat) (v : Option Value) (h : Heap) (L : List Loc) : Prop := ∃ (b : Addr) (k : ClassId) (vs : List Value), v = some (.ref b) ∧ Fr n0 L ∧ Keep h0 h [] ∧ h0.size ≤ b ∧ vs.length = 16 ∧ Arv Z h b k .char 16 vs (.int 0)
set_option maxRecDepth 65536 in
set_option maxHeartbeats 40000000 in
theorem rm1 (l : Launch) (Z : State) (a0 : Array Value) (hw : ∀ d ∈ tables_1, d.before a0 Z = true) (ws : List Jvm.Cond) (p1 : Int32) (h0 : Heap) (n0 : Nat) (Z0 : n0 ≤ h0.size)  :
    MetFree l (⟨"com/example/trailwright/trailwright/xml/XmlNamesSetPinLaw", "filled", "(I)[C"⟩ : MethodName) (head1 (Jvm.Cond.code (⟨"com/example/trailwright/trailwright/xml/XmlNamesSetPinLaw", "filled", "(I)[C"⟩ : MethodName) method_2_code 2 (some (.array .char)) :: ws) ({ frames := 0, cells := 1, slots := 16, locals := 0 } : Room)) (fun a U => a = #[(.int p1)] ∧ Z.Warmed39 U.vm ∧ U.heap = h0) (fun _ _ _ _ _ => True) (fun _ U o U' => ∃ v L, o = .returned v ∧ Q1 Z p1 h0 n0 v U'.heap L ∧ FrameEnd U o U' L ({ frames := 0, cells := 1, slots := 16, locals := 0 } : Room).cells ({ frames := 0, cells := 1, slots := 16, locals := 0 } : Room).slots) := by
  refine MetFree.of_bodySF (plainFor_of_name pn_1) hisR ?_
  intro p e s m args below meth c s₁ Bd hml0 hP hK
  obtain ⟨rfl, hZ, hh⟩ := hP
  have hx := Bd.exec
  have hby := Bd.bytes
  have hml : c.maxLocals = 2 := hml0
  have hown : s.vm.findClass "com/example/trailwright/trailwright/xml/XmlNamesSetPinLaw" = some m.cls := findClass_of_methodNamed Bd.named
  have hnm := (name_of_methodNamed Bd.named Bd.method).1
  have X0 : Stand p l e ({ frames := 0, cells := 1, slots := 16, locals := 0 } : Room) s m #[(.int p1)] below meth c s₁ [] 0 0 := Stand.of_body Bd
  have e0 : s₁.heap = h0 := by rw [← hh, Bd.state]; rfl
  have N0 := Fr.nil n0
  obtain ⟨F0, hF0⟩ : ∃ F0, F0 = entryFrame m #[(.int p1)] 2 := ⟨_, rfl⟩
  have C0 : Go p e below s₁ (mkF m 0 #[.val (.int p1), .unset] []) s₁ F0 := fun t k => by rw [hF0]; exact castTop (ef_1 m p1) k
  have pre0 : ∀ t, Steps p.tables e below (s₁.setTop F0) t → Steps p.tables e below (s₁.setTop (entryFrame m #[(.int p1)] 2)) t := fun t k => by rw [← hF0]; exact k
  have C1 : Go p e below s₁ (mkF m 2 #[.val (.int p1), .unset] [(.int (16 : Int32))]) s₁ F0 := fun t k => C0 t (by
    refine XS.bipush X0.here hx rfl (hb hby d1_0) ?_
    exact k)
  obtain ⟨T2, h2, k2, X2, e2, E2, A2, st2⟩ := newP X0 hx hZ (hw _ (List.mem_of_getElem? (i := 4) rfl)) e0 (g := (mkF m 2 #[.val (.int p1), .unset] [(.int (16 : Int32))])) rfl (hb hby d1_2) rfl (by decide) (cap := 16) (by decide) (by decide) (by decide) (by decide)
  obtain ⟨b2, g2⟩ : ∃ z, z = h0.size := ⟨_, rfl⟩
  rw [← g2] at A2 st2
  have C2 : Go p e below T2 (mkF m 4 #[.val (.int p1), .unset] [(.ref b2)]) s₁ F0 := fun t k => C1 t (st2 t k)
  have V0 : Arv Z h2 b2 k2 .char 16 ([] ++ List.replicate 16 (.int 0)) (.int 0) := (Arv.new (ty := .char) A2 (by decide)).pad (pad_rep [] _ 16)
  have hl0 : ([] ++ List.replicate 16 (Value.int 0)).length = 16 := by simp
  have sz : h0.size ≤ b2 := Nat.le_of_eq g2.symm
  have gb : n0 ≤ b2 := Nat.le_trans Z0 sz
  have K0 : Keep h0 h2 [] := (Keep.refl h0 []).ext E2
  have C3 : Go p e below T2 (mkF m 9 #[.val (.int p1), .val (.ref b2)] [(.int (p1.toUInt32.toUInt16.toUInt32.toInt32)), (.int (0 : Int32)), (.ref b2)]) s₁ F0 := fun t k => C2 t (by
    refine XS.astoreN X2.here hx rfl (hb hby d1_4) rfl rfl (l' := #[.val (.int p1), .val (.ref b2)]) rfl ?_
    show Steps p.tables e below (T2.setTop (mkF m 5 #[.val (.int p1), .val (.ref b2)] [])) _
    refine XS.aloadN X2.here hx rfl (hb hby d1_5) rfl rfl ?_
    show Steps p.tables e below (T2.setTop (mkF m 6 #[.val (.int p1), .val (.ref b2)] [(.ref b2)])) _
    refine XS.iconst X2.here hx rfl (hb hby d1_6) ?_
    show Steps p.tables e below (T2.setTop (mkF m 7 #[.val (.int p1), .val (.ref b2)] [(.int (0 : Int32)), (.ref b2)])) _
    refine XS.iloadN X2.here hx rfl (hb hby d1_7) rfl ?_
    show Steps p.tables e below (T2.setTop (mkF m 8 #[.val (.int p1), .val (.ref b2)] [(.int p1), (.int (0 : Int32)), (.ref b2)])) _
    refine XS.i2c X2.here hx rfl (hb hby d1_8) rfl ?_
    exact k)
  obtain ⟨cl0, Ar0, q0, S0, M0, H0, G0⟩ := V0
  obtain ⟨T4, h4, X4, e4, W4, st4⟩ := stC X2 hx hZ e2 Ar0 (j := (0 : Int32)) (own_in (i := 0) S0 rfl (by decide)) (g := (mkF m 9 #[.val (.int p1), .val (.ref b2)] [(.int (p1.toUInt32.toUInt16.toUInt32.toInt32)), (.int (0 : Int32)), (.ref b2)])) rfl rfl (hb hby d1_9)
  have C4 : Go p e below T4 (mkF m 10 #[.val (.int p1), .val (.ref b2)] []) s₁ F0 := fun t k => C3 t (st4 t k)
  have N4 := Fr.snoc X4 N0 gb
  have K4 := K0.wr W4 (Or.inr sz)
  obtain ⟨vs4, hl4, V4⟩ : ∃ vs : List Value, vs.length = 16 ∧ Arv Z h4 b2 k2 .char 16 vs (.int 0) := ⟨_, (List.length_set ..).trans hl0, Arv.set Ar0 q0 S0 M0 H0 G0 (fits_nar_char _) W4 0 rfl (by rw [hl0]; decide)⟩
  have C5 : Go p e below T4 (mkF m 18 #[.val (.int p1), .val (.ref b2)] [(.int (((p1 * (3 : Int32)) + (1 : Int32)).toUInt32.toUInt16.toUInt32.toInt32)), (.int (1 : Int32)), (.ref b2)]) s₁ F0 := fun t k => C4 t (by
    refine XS.aloadN X4.here hx rfl (hb hby d1_10) rfl rfl ?_
    show Steps p.tables e below (T4.setTop (mkF m 11 #[.val (.int p1), .val (.ref b2)] [(.ref b2)])) _
    refine XS.iconst X4.here hx rfl (hb hby d1_11) ?_
    show Steps p.tables e below (T4.setTop (mkF m 12 #[.val (.int p1), .val (.ref b2)] [(.int (1 : Int32)), (.ref b2)])) _
    refine XS.iloadN X4.here hx rfl (hb hby d1_12) rfl ?_
    show Steps p.tables e below (T4.setTop (mkF m 13 #[.val (.int p1), .val (.ref b2)] [(.int p1), (.int (1 : Int32)), (.ref b2)])) _
    refine XS.iconst X4.here hx rfl (hb hby d1_13) ?_
    show Steps p.tables e below (T4.setTop (mkF m 14 #[.val (.int p1), .val (.ref b2)] [(.int (3 : Int32)), (.int p1), (.int (1 : Int32)), (.ref b2)])) _
    refine XS.imul X4.here hx rfl (hb hby d1_14) rfl ?_
    show Steps p.tables e below (T4.setTop (mkF m 15 #[.val (.int p1), .val (.ref b2)] [(.int (p1 * (3 : Int32))), (.int (1 : Int32)), (.ref b2)])) _
    refine XS.iconst X4.here hx rfl (hb hby d1_15) ?_
    show Steps p.tables e below (T4.setTop (mkF m 16 #[.val (.int p1), .val (.ref b2)] [(.int (1 : Int32)), (.int (p1 * (3 : Int32))), (.int (1 : Int32)), (.ref b2)])) _
    refine XS.iadd X4.here hx rfl (hb hby d1_16) rfl ?_
    show Steps p.tables e below (T4.setTop (mkF m 17 #[.val (.int p1), .val (.ref b2)] [(.int ((p1 * (3 : Int32)) + (1 : Int32))), (.int (1 : Int32)), (.ref b2)])) _
    refine XS.i2c X4.here hx rfl (hb hby d1_17) rfl ?_
    exact k)
  obtain ⟨cl1, Ar1, q1, S1, M1, H1, G1⟩ := V4
  obtain ⟨T6, h6, X6, e6, W6, st6⟩ := stC X4 hx hZ e4 Ar1 (j := (1 : Int32)) (own_in (i := 1) S1 rfl (by decide)) (g := (mkF m 18 #[.val (.int p1), .val (.ref b2)] [(.int (((p1 * (3 : Int32)) + (1 : Int32)).toUInt32.toUInt16.toUInt32.toInt32)), (.int (1 : Int32)), (.ref b2)])) rfl rfl (hb hby d1_18)
  have C6 : Go p e below T6 (mkF m 19 #[.val (.int p1), .val (.ref b2)] []) s₁ F0 := fun t k => C5 t (st6 t k)
  have N6 := Fr.snoc X6 N4 gb
  have K6 := K4.wr W6 (Or.inr sz)
  obtain ⟨vs6, hl6, V6⟩ : ∃ vs : List Value, vs.length = 16 ∧ Arv Z h6 b2 k2 .char 16 vs (.int 0) := ⟨_, (List.length_set ..).trans hl4, Arv.set Ar1 q1 S1 M1 H1 G1 (fits_nar_char _) W6 1 rfl (by rw [hl4]; decide)⟩
  have C7 : Go p e below T6 (mkF m 27 #[.val (.int p1), .val (.ref b2)] [(.int (((p1 * (5 : Int32)) + (2 : Int32)).toUInt32.toUInt16.toUInt32.toInt32)), (.int (2 : Int32)), (.ref b2)]) s₁ F0 := fun t k => C6 t (by
    refine XS.aloadN X6.here hx rfl (hb hby d1_19) rfl rfl ?_
    show Steps p.tables e below (T6.setTop (mkF m 20 #[.val (.int p1), .val (.ref b2)] [(.ref b2)])) _
    refine XS.iconst X6.here hx rfl (hb hby d1_20) ?_
    show Steps p.tables e below (T6.setTop (mkF m 21 #[.val (.int p1), .val (.ref b2)] [(.int (2 : Int32)), (.ref b2)])) _
    refine XS.iloadN X6.here hx rfl (hb hby d1_21) rfl ?_
    show Steps p.tables e below (T6.setTop (mkF m 22 #[.val (.int p1), .val (.ref b2)] [(.int p1), (.int (2 : Int32)), (.ref b2)])) _
    refine XS.iconst X6.here hx rfl (hb hby d1_22) ?_
    show Steps p.tables e below (T6.setTop (mkF m 23 #[.val (.int p1), .val (.ref b2)] [(.int (5 : Int32)), (.int p1), (.int (2 : Int32)), (.ref b2)])) _
    refine XS.imul X6.here hx rfl (hb hby d1_23) rfl ?_
    show Steps p.tables e below (T6.setTop (mkF m 24 #[.val (.int p1), .val (.ref b2)] [(.int (p1 * (5 : Int32))), (.int (2 : Int32)), (.ref b2)])) _
    refine XS.iconst X6.here hx rfl (hb hby d1_24) ?_
    show Steps p.tables e below (T6.setTop (mkF m 25 #[.val (.int p1), .val (.ref b2)] [(.int (2 : Int32)), (.int (p1 * (5 : Int32))), (.int (2 : Int32)), (.ref b2)])) _
    refine XS.iadd X6.here hx rfl (hb hby d1_25) rfl ?_
    show Steps p.tables e below (T6.setTop (mkF m 26 #[.val (.int p1), .val (.ref b2)] [(.int ((p1 * (5 : Int32)) + (2 : Int32))), (.int (2 : Int32)), (.ref b2)])) _
    refine XS.i2c X6.here hx rfl (hb hby d1_26) rfl ?_
    exact k)
  obtain ⟨cl2, Ar2, q2, S2, M2, H2, G2⟩ := V6
  obtain ⟨T8, h8, X8, e8, W8, st8⟩ := stC X6 hx hZ e6 Ar2 (j := (2 : Int32)) (own_in (i := 2) S2 rfl (by decide)) (g := (mkF m 27 #[.val (.int p1), .val (.ref b2)] [(.int (((p1 * (5 : Int32)) + (2 : Int32)).toUInt32.toUInt16.toUInt32.toInt32)), (.int (2 : Int32)), (.ref b2)])) rfl rfl (hb hby d1_27)
  have C8 : Go p e below T8 (mkF m 28 #[.val (.int p1), .val (.ref b2)] []) s₁ F0 := fun t k => C7 t (st8 t k)
  have N8 := Fr.snoc X8 N6 gb
  have K8 := K6.wr W8 (Or.inr sz)
  obtain ⟨vs8, hl8, V8⟩ : ∃ vs : List Value, vs.length = 16 ∧ Arv Z h8 b2 k2 .char 16 vs (.int 0) := ⟨_, (List.length_set ..).trans hl6, Arv.set Ar2 q2 S2 M2 H2 G2 (fits_nar_char _) W8 2 rfl (by rw [hl6]; decide)⟩
  have C9 : Go p e below T8 (mkF m 37 #[.val (.int p1), .val (.ref b2)] [(.int (((p1 * (7 : Int32)) + (3 : Int32)).toUInt32.toUInt16.toUInt32.toInt32)), (.int (3 : Int32)), (.ref b2)]) s₁ F0 := fun t k => C8 t (by
    refine XS.aloadN X8.here hx rfl (hb hby d1_28) rfl rfl ?_
    show Steps p.tables e below (T8.setTop (mkF m 29 #[.val (.int p1), .val (.ref b2)] [(.ref b2)])) _
    refine XS.iconst X8.here hx rfl (hb hby d1_29) ?_
    show Steps p.tables e below (T8.setTop (mkF m 30 #[.val (.int p1), .val (.ref b2)] [(.int (3 : Int32)), (.ref b2)])) _
    refine XS.iloadN X8.here hx rfl (hb hby d1_30) rfl ?_
    show Steps p.tables e below (T8.setTop (mkF m 31 #[.val (.int p1), .val (.ref b2)] [(.int p1), (.int (3 : Int32)), (.ref b2)])) _
    refine XS.bipush X8.here hx rfl (hb hby d1_31) ?_
    show Steps p.tables e below (T8.setTop (mkF m 33 #[.val (.int p1), .val (.ref b2)] [(.int (7 : Int32)), (.int p1), (.int (3 : Int32)), (.ref b2)])) _
    refine XS.imul X8.here hx rfl (hb hby d1_33) rfl ?_
    show Steps p.tables e below (T8.setTop (mkF m 34 #[.val (.int p1), .val (.ref b2)] [(.int (p1 * (7 : Int32))), (.int (3 : Int32)), (.ref b2)])) _
    refine XS.iconst X8.here hx rfl (hb hby d1_34) ?_
    show Steps p.tables e below (T8.setTop (mkF m 35 #[.val (.int p1), .val (.ref b2)] [(.int (3 : Int32)), (.int (p1 * (7 : Int32))), (.int (3 : Int32)), (.ref b2)])) _
    refine XS.iadd X8.here hx rfl (hb hby d1_35) rfl ?_
    show Steps p.tables e below (T8.setTop (mkF m 36 #[.val (.int p1), .val (.ref b2)] [(.int ((p1 * (7 : Int32)) + (3 : Int32))), (.int (3 : Int32)), (.ref b2)])) _
    refine XS.i2c X8.here hx rfl (hb hby d1_36) rfl ?_
    exact k)
  obtain ⟨cl3, Ar3, q3, S3, M3, H3, G3⟩ := V8
  obtain ⟨T10, h10, X10, e10, W10, st10⟩ := stC X8 hx hZ e8 Ar3 (j := (3 : Int32)) (own_in (i := 3) S3 rfl (by decide)) (g := (mkF m 37 #[.val (.int p1), .val (.ref b2)] [(.int (((p1 * (7 : Int32)) + (3 : Int32)).toUInt32.toUInt16.toUInt32.toInt32)), (.int (3 : Int32)), (.ref b2)])) rfl rfl (hb hby d1_37)
  have C10 : Go p e below T10 (mkF m 38 #[.val (.int p1), .val (.ref b2)] []) s₁ F0 := fun t k => C9 t (st10 t k)
  have N10 := Fr.snoc X10 N8 gb
  have K10 := K8.wr W10 (Or.inr sz)
  obtain ⟨vs10, hl10, V10⟩ : ∃ vs : List Value, vs.length = 16 ∧ Arv Z h10 b2 k2 .char 16 vs (.int 0) := ⟨_, (List.length_set ..).trans hl8, Arv.set Ar3 q3 S3 M3 H3 G3 (fits_nar_char _) W10 3 rfl (by rw [hl8]; decide)⟩
  have C11 : Go p e below T10 (mkF m 47 #[.val (.int p1), .val (.ref b2)] [(.int (((p1 * (9 : Int32)) + (4 : Int32)).toUInt32.toUInt16.toUInt32.toInt32)), (.int (4 : Int32)), (.ref b2)]) s₁ F0 := fun t k => C10 t (by
    refine XS.aloadN X10.here hx rfl (hb hby d1_38) rfl rfl ?_
    show Steps p.tables e below (T10.setTop (mkF m 39 #[.val (.int p1), .val (.ref b2)] [(.ref b2)])) _
    refine XS.iconst X10.here hx rfl (hb hby d1_39) ?_
    show Steps p.tables e below (T10.setTop (mkF m 40 #[.val (.int p1), .val (.ref b2)] [(.int (4 : Int32)), (.ref b2)])) _
    refine XS.iloadN X10.here hx rfl (hb hby d1_40) rfl ?_
    show Steps p.tables e below (T10.setTop (mkF m 41 #[.val (.int p1), .val (.ref b2)] [(.int p1), (.int (4 : Int32)), (.ref b2)])) _
    refine XS.bipush X10.here hx rfl (hb hby d1_41) ?_
    show Steps p.tables e below (T10.setTop (mkF m 43 #[.val (.int p1), .val (.ref b2)] [(.int (9 : Int32)), (.int p1), (.int (4 : Int32)), (.ref b2)])) _
    refine XS.imul X10.here hx rfl (hb hby d1_43) rfl ?_
    show Steps p.tables e below (T10.setTop (mkF m 44 #[.val (.int p1), .val (.ref b2)] [(.int (p1 * (9 : Int32))), (.int (4 : Int32)), (.ref b2)])) _
    refine XS.iconst X10.here hx rfl (hb hby d1_44) ?_
    show Steps p.tables e below (T10.setTop (mkF m 45 #[.val (.int p1), .val (.ref b2)] [(.int (4 : Int32)), (.int (p1 * (9 : Int32))), (.int (4 : Int32)), (.ref b2)])) _
    refine XS.iadd X10.here hx rfl (hb hby d1_45) rfl ?_
    show Steps p.tables e below (T10.setTop (mkF m 46 #[.val (.int p1), .val (.ref b2)] [(.int ((p1 * (9 : Int32)) + (4 : Int32))), (.int (4 : Int32)), (.ref b2)])) _
    refine XS.i2c X10.here hx rfl (hb hby d1_46) rfl ?_
    exact k)
  obtain ⟨cl4, Ar4, q4, S4, M4, H4, G4⟩ := V10
  obtain ⟨T12, h12, X12, e12, W12, st12⟩ := stC X10 hx hZ e10 Ar4 (j := (4 : Int32)) (own_in (i := 4) S4 rfl (by decide)) (g := (mkF m 47 #[.val (.int p1), .val (.ref b2)] [(.int (((p1 * (9 : Int32)) + (4 : Int32)).toUInt32.toUInt16.toUInt32.toInt32)), (.int (4 : Int32)), (.ref b2)])) rfl rfl (hb hby d1_47)
  have C12 : Go p e below T12 (mkF m 48 #[.val (.int p1), .val (.ref b2)] []) s₁ F0 := fun t k => C11 t (st12 t k)
  have N12 := Fr.snoc X12 N10 gb
  have K12 := K10.wr W12 (Or.inr sz)
  obtain ⟨vs12, hl12, V12⟩ : ∃ vs : List Value, vs.length = 16 ∧ Arv Z h12 b2 k2 .char 16 vs (.int 0) := ⟨_, (List.length_set ..).trans hl10, Arv.set Ar4 q4 S4 M4 H4 G4 (fits_nar_char _) W12 4 rfl (by rw [hl10]; decide)⟩
  have C13 : Go p e below T12 (mkF m 57 #[.val (.int p1), .val (.ref b2)] [(.int (((p1 * (11 : Int32)) + (5 : Int32)).toUInt32.toUInt16.toUInt32.toInt32)), (.int (5 : Int32)), (.ref b2)]) s₁ F0 := fun t k => C12 t (by
    refine XS.aloadN X12.here hx rfl (hb hby d1_48) rfl rfl ?_
    show Steps p.tables e below (T12.setTop (mkF m 49 #[.val (.int p1), .val (.ref b2)] [(.ref b2)])) _
    refine XS.iconst X12.here hx rfl (hb hby d1_49) ?_
    show Steps p.tables e below (T12.setTop (mkF m 50 #[.val (.int p1), .val (.ref b2)] [(.int (5 : Int32)), (.ref b2)])) _
    refine XS.iloadN X12.here hx rfl (hb hby d1_50) rfl ?_
    show Steps p.tables e below (T12.setTop (mkF m 51 #[.val (.int p1), .val (.ref b2)] [(.int p1), (.int (5 : Int32)), (.ref b2)])) _
    refine XS.bipush X12.here hx rfl (hb hby d1_51) ?_
    show Steps p.tables e below (T12.setTop (mkF m 53 #[.val (.int p1), .val (.ref b2)] [(.int (11 : Int32)), (.int p1), (.int (5 : Int32)), (.ref b2)])) _
    refine XS.imul X12.here hx rfl (hb hby d1_53) rfl ?_
    show Steps p.tables e below (T12.setTop (mkF m 54 #[.val (.int p1), .val (.ref b2)] [(.int (p1 * (11 : Int32))), (.int (5 : Int32)), (.ref b2)])) _
    refine XS.iconst X12.here hx rfl (hb hby d1_54) ?_
    show Steps p.tables e below (T12.setTop (mkF m 55 #[.val (.int p1), .val (.ref b2)] [(.int (5 : Int32)), (.int (p1 * (11 : Int32))), (.int (5 : Int32)), (.ref b2)])) _
    refine XS.iadd X12.here hx rfl (hb hby d1_55) rfl ?_
    show Steps p.tables e below (T12.setTop (mkF m 56 #[.val (.int p1), .val (.ref b2)] [(.int ((p1 * (11 : Int32)) + (5 : Int32))), (.int (5 : Int32)), (.ref b2)])) _
    refine XS.i2c X12.here hx rfl (hb hby d1_56) rfl ?_
    exact k)
  obtain ⟨cl5, Ar5, q5, S5, M5, H5, G5⟩ := V12
  obtain ⟨T14, h14, X14, e14, W14, st14⟩ := stC X12 hx hZ e12 Ar5 (j := (5 : Int32)) (own_in (i := 5) S5 rfl (by decide)) (g := (mkF m 57 #[.val (.int p1), .val (.ref b2)] [(.int (((p1 * (11 : Int32)) + (5 : Int32)).toUInt32.toUInt16.toUInt32.toInt32)), (.int (5 : Int32)), (.ref b2)])) rfl rfl (hb hby d1_57)
  have C14 : Go p e below T14 (mkF m 58 #[.val (.int p1), .val (.ref b2)] []) s₁ F0 := fun t k => C13 t (st14 t k)
  have N14 := Fr.snoc X14 N12 gb
  have K14 := K12.wr W14 (Or.inr sz)
  obtain ⟨vs14, hl14, V14⟩ : ∃ vs : List Value, vs.length = 16 ∧ Arv Z h14 b2 k2 .char 16 vs (.int 0) := ⟨_, (List.length_set ..).trans hl12, Arv.set Ar5 q5 S5 M5 H5 G5 (fits_nar_char _) W14 5 rfl (by rw [hl12]; decide)⟩
  have C15 : Go p e below T14 (mkF m 69 #[.val (.int p1), .val (.ref b2)] [(.int (((p1 * (13 : Int32)) + (6 : Int32)).toUInt32.toUInt16.toUInt32.toInt32)), (.int (6 : Int32)), (.ref b2)]) s₁ F0 := fun t k => C14 t (by
    refine XS.aloadN X14.here hx rfl (hb hby d1_58) rfl rfl ?_
    show Steps p.tables e below (T14.setTop (mkF m 59 #[.val (.int p1), .val (.ref b2)] [(.ref b2)])) _
    refine XS.bipush X14.here hx rfl (hb hby d1_59) ?_
    show Steps p.tables e below (T14.setTop (mkF m 61 #[.val (.int p1), .val (.ref b2)] [(.int (6 : Int32)), (.ref b2)])) _
    refine XS.iloadN X14.here hx rfl (hb hby d1_61) rfl ?_
    show Steps p.tables e below (T14.setTop (mkF m 62 #[.val (.int p1), .val (.ref b2)] [(.int p1), (.int (6 : Int32)), (.ref b2)])) _
    refine XS.bipush X14.here hx rfl (hb hby d1_62) ?_
    show Steps p.tables e below (T14.setTop (mkF m 64 #[.val (.int p1), .val (.ref b2)] [(.int (13 : Int32)), (.int p1), (.int (6 : Int32)), (.ref b2)])) _
    refine XS.imul X14.here hx rfl (hb hby d1_64) rfl ?_
    show Steps p.tables e below (T14.setTop (mkF m 65 #[.val (.int p1), .val (.ref b2)] [(.int (p1 * (13 : Int32))), (.int (6 : Int32)), (.ref b2)])) _
    refine XS.bipush X14.here hx rfl (hb hby d1_65) ?_
    show Steps p.tables e below (T14.setTop (mkF m 67 #[.val (.int p1), .val (.ref b2)] [(.int (6 : Int32)), (.int (p1 * (13 : Int32))), (.int (6 : Int32)), (.ref b2)])) _
    refine XS.iadd X14.here hx rfl (hb hby d1_67) rfl ?_
    show Steps p.tables e below (T14.setTop (mkF m 68 #[.val (.int p1), .val (.ref b2)] [(.int ((p1 * (13 : Int32)) + (6 : Int32))), (.int (6 : Int32)), (.ref b2)])) _
    refine XS.i2c X14.here hx rfl (hb hby d1_68) rfl ?_
    exact k)
  obtain ⟨cl6, Ar6, q6, S6, M6, H6, G6⟩ := V14
  obtain ⟨T16, h16, X16, e16, W16, st16⟩ := stC X14 hx hZ e14 Ar6 (j := (6 : Int32)) (own_in (i := 6) S6 rfl (by decide)) (g := (mkF m 69 #[.val (.int p1), .val (.ref b2)] [(.int (((p1 * (13 : Int32)) + (6 : Int32)).toUInt32.toUInt16.toUInt32.toInt32)), (.int (6 : Int32)), (.ref b2)])) rfl rfl (hb hby d1_69)
  have C16 : Go p e below T16 (mkF m 70 #[.val (.int p1), .val (.ref b2)] []) s₁ F0 := fun t k => C15 t (st16 t k)
  have N16 := Fr.snoc X16 N14 gb
  have K16 := K14.wr W16 (Or.inr sz)
  obtain ⟨vs16, hl16, V16⟩ : ∃ vs : List Value, vs.length = 16 ∧ Arv Z h16 b2 k2 .char 16 vs (.int 0) := ⟨_, (List.length_set ..).trans hl14, Arv.set Ar6 q6 S6 M6 H6 G6 (fits_nar_char _) W16 6 rfl (by rw [hl14]; decide)⟩
  have C17 : Go p e below T16 (mkF m 81 #[.val (.int p1), .val (.ref b2)] [(.int (((p1 * (15 : Int32)) + (7 : Int32)).toUInt32.toUInt16.toUInt32.toInt32)), (.int (7 : Int32)), (.ref b2)]) s₁ F0 := fun t k => C16 t (by
    refine XS.aloadN X16.here hx rfl (hb hby d1_70) rfl rfl ?_
    show Steps p.tables e below (T16.setTop (mkF m 71 #[.val (.int p1), .val (.ref b2)] [(.ref b2)])) _
    refine XS.bipush X16.here hx rfl (hb hby d1_71) ?_
    show Steps p.tables e below (T16.setTop (mkF m 73 #[.val (.int p1), .val (.ref b2)] [(.int (7 : Int32)), (.ref b2)])) _
    refine XS.iloadN X16.here hx rfl (hb hby d1_73) rfl ?_
    show Steps p.tables e below (T16.setTop (mkF m 74 #[.val (.int p1), .val (.ref b2)] [(.int p1), (.int (7 : Int32)), (.ref b2)])) _
    refine XS.bipush X16.here hx rfl (hb hby d1_74) ?_
    show Steps p.tables e below (T16.setTop (mkF m 76 #[.val (.int p1), .val (.ref b2)] [(.int (15 : Int32)), (.int p1), (.int (7 : Int32)), (.ref b2)])) _
    refine XS.imul X16.here hx rfl (hb hby d1_76) rfl ?_
    show Steps p.tables e below (T16.setTop (mkF m 77 #[.val (.int p1), .val (.ref b2)] [(.int (p1 * (15 : Int32))), (.int (7 : Int32)), (.ref b2)])) _
    refine XS.bipush X16.here hx rfl (hb hby d1_77) ?_
    show Steps p.tables e below (T16.setTop (mkF m 79 #[.val (.int p1), .val (.ref b2)] [(.int (7 : Int32)), (.int (p1 * (15 : Int32))), (.int (7 : Int32)), (.ref b2)])) _
    refine XS.iadd X16.here hx rfl (hb hby d1_79) rfl ?_
    show Steps p.tables e below (T16.setTop (mkF m 80 #[.val (.int p1), .val (.ref b2)] [(.int ((p1 * (15 : Int32)) + (7 : Int32))), (.int (7 : Int32)), (.ref b2)])) _
    refine XS.i2c X16.here hx rfl (hb hby d1_80) rfl ?_
    exact k)
  obtain ⟨cl7, Ar7, q7, S7, M7, H7, G7⟩ := V16
  obtain ⟨T18, h18, X18, e18, W18, st18⟩ := stC X16 hx hZ e16 Ar7 (j := (7 : Int32)) (own_in (i := 7) S7 rfl (by decide)) (g := (mkF m 81 #[.val (.int p1), .val (.ref b2)] [(.int (((p1 * (15 : Int32)) + (7 : Int32)).toUInt32.toUInt16.toUInt32.toInt32)), (.int (7 : Int32)), (.ref b2)])) rfl rfl (hb hby d1_81)
  have C18 : Go p e below T18 (mkF m 82 #[.val (.int p1), .val (.ref b2)] []) s₁ F0 := fun t k => C17 t (st18 t k)
  have N18 := Fr.snoc X18 N16 gb
  have K18 := K16.wr W18 (Or.inr sz)
  obtain ⟨vs18, hl18, V18⟩ : ∃ vs : List Value, vs.length = 16 ∧ Arv Z h18 b2 k2 .char 16 vs (.int 0) := ⟨_, (List.length_set ..).trans hl16, Arv.set Ar7 q7 S7 M7 H7 G7 (fits_nar_char _) W18 7 rfl (by rw [hl16]; decide)⟩
  have C19 : Go p e below T18 (mkF m 93 #[.val (.int p1), .val (.ref b2)] [(.int (((p1 * (17 : Int32)) + (8 : Int32)).toUInt32.toUInt16.toUInt32.toInt32)), (.int (8 : Int32)), (.ref b2)]) s₁ F0 := fun t k => C18 t (by
    refine XS.aloadN X18.here hx rfl (hb hby d1_82) rfl rfl ?_
    show Steps p.tables e below (T18.setTop (mkF m 83 #[.val (.int p1), .val (.ref b2)] [(.ref b2)])) _
    refine XS.bipush X18.here hx rfl (hb hby d1_83) ?_
    show Steps p.tables e below (T18.setTop (mkF m 85 #[.val (.int p1), .val (.ref b2)] [(.int (8 : Int32)), (.ref b2)])) _
    refine XS.iloadN X18.here hx rfl (hb hby d1_85) rfl ?_
    show Steps p.tables e below (T18.setTop (mkF m 86 #[.val (.int p1), .val (.ref b2)] [(.int p1), (.int (8 : Int32)), (.ref b2)])) _
    refine XS.bipush X18.here hx rfl (hb hby d1_86) ?_
    show Steps p.tables e below (T18.setTop (mkF m 88 #[.val (.int p1), .val (.ref b2)] [(.int (17 : Int32)), (.int p1), (.int (8 : Int32)), (.ref b2)])) _
    refine XS.imul X18.here hx rfl (hb hby d1_88) rfl ?_
    show Steps p.tables e below (T18.setTop (mkF m 89 #[.val (.int p1), .val (.ref b2)] [(.int (p1 * (17 : Int32))), (.int (8 : Int32)), (.ref b2)])) _
    refine XS.bipush X18.here hx rfl (hb hby d1_89) ?_
    show Steps p.tables e below (T18.setTop (mkF m 91 #[.val (.int p1), .val (.ref b2)] [(.int (8 : Int32)), (.int (p1 * (17 : Int32))), (.int (8 : Int32)), (.ref b2)])) _
    refine XS.iadd X18.here hx rfl (hb hby d1_91) rfl ?_
    show Steps p.tables e below (T18.setTop (mkF m 92 #[.val (.int p1), .val (.ref b2)] [(.int ((p1 * (17 : Int32)) + (8 : Int32))), (.int (8 : Int32)), (.ref b2)])) _
    refine XS.i2c X18.here hx rfl (hb hby d1_92) rfl ?_
    exact k)
  obtain ⟨cl8, Ar8, q8, S8, M8, H8, G8⟩ := V18
  obtain ⟨T20, h20, X20, e20, W20, st20⟩ := stC X18 hx hZ e18 Ar8 (j := (8 : Int32)) (own_in (i := 8) S8 rfl (by decide)) (g := (mkF m 93 #[.val (.int p1), .val (.ref b2)] [(.int (((p1 * (17 : Int32)) + (8 : Int32)).toUInt32.toUInt16.toUInt32.toInt32)), (.int (8 : Int32)), (.ref b2)])) rfl rfl (hb hby d1_93)
  have C20 : Go p e below T20 (mkF m 94 #[.val (.int p1), .val (.ref b2)] []) s₁ F0 := fun t k => C19 t (st20 t k)
  have N20 := Fr.snoc X20 N18 gb
  have K20 := K18.wr W20 (Or.inr sz)
  obtain ⟨vs20, hl20, V20⟩ : ∃ vs : List Value, vs.length = 16 ∧ Arv Z h20 b2 k2 .char 16 vs (.int 0) := ⟨_, (List.length_set ..).trans hl18, Arv.set Ar8 q8 S8 M8 H8 G8 (fits_nar_char _) W20 8 rfl (by rw [hl18]; decide)⟩
  have C21 : Go p e below T20 (mkF m 105 #[.val (.int p1), .val (.ref b2)] [(.int (((p1 * (19 : Int32)) + (9 : Int32)).toUInt32.toUInt16.toUInt32.toInt32)), (.int (9 : Int32)), (.ref b2)]) s₁ F0 := fun t k => C20 t (by
    refine XS.aloadN X20.here hx rfl (hb hby d1_94) rfl rfl ?_
    show Steps p.tables e below (T20.setTop (mkF m 95 #[.val (.int p1), .val (.ref b2)] [(.ref b2)])) _
    refine XS.bipush X20.here hx rfl (hb hby d1_95) ?_
    show Steps p.tables e below (T20.setTop (mkF m 97 #[.val (.int p1), .val (.ref b2)] [(.int (9 : Int32)), (.ref b2)])) _
    refine XS.iloadN X20.here hx rfl (hb hby d1_97) rfl ?_
    show Steps p.tables e below (T20.setTop (mkF m 98 #[.val (.int p1), .val (.ref b2)] [(.int p1), (.int (9 : Int32)), (.ref b2)])) _
    refine XS.bipush X20.here hx rfl (hb hby d1_98) ?_
    show Steps p.tables e below (T20.setTop (mkF m 100 #[.val (.int p1), .val (.ref b2)] [(.int (19 : Int32)), (.int p1), (.int (9 : Int32)), (.ref b2)])) _
    refine XS.imul X20.here hx rfl (hb hby d1_100) rfl ?_
    show Steps p.tables e below (T20.setTop (mkF m 101 #[.val (.int p1), .val (.ref b2)] [(.int (p1 * (19 : Int32))), (.int (9 : Int32)), (.ref b2)])) _
    refine XS.bipush X20.here hx rfl (hb hby d1_101) ?_
    show Steps p.tables e below (T20.setTop (mkF m 103 #[.val (.int p1), .val (.ref b2)] [(.int (9 : Int32)), (.int (p1 * (19 : Int32))), (.int (9 : Int32)), (.ref b2)])) _
    refine XS.iadd X20.here hx rfl (hb hby d1_103) rfl ?_
    show Steps p.tables e below (T20.setTop (mkF m 104 #[.val (.int p1), .val (.ref b2)] [(.int ((p1 * (19 : Int32)) + (9 : Int32))), (.int (9 : Int32)), (.ref b2)])) _
    refine XS.i2c X20.here hx rfl (hb hby d1_104) rfl ?_
    exact k)
  obtain ⟨cl9, Ar9, q9, S9, M9, H9, G9⟩ := V20
  obtain ⟨T22, h22, X22, e22, W22, st22⟩ := stC X20 hx hZ e20 Ar9 (j := (9 : Int32)) (own_in (i := 9) S9 rfl (by decide)) (g := (mkF m 105 #[.val (.int p1), .val (.ref b2)] [(.int (((p1 * (19 : Int32)) + (9 : Int32)).toUInt32.toUInt16.toUInt32.toInt32)), (.int (9 : Int32)), (.ref b2)])) rfl rfl (hb hby d1_105)
  have C22 : Go p e below T22 (mkF m 106 #[.val (.int p1), .val (.ref b2)] []) s₁ F0 := fun t k => C21 t (st22 t k)
  have N22 := Fr.snoc X22 N20 gb
  have K22 := K20.wr W22 (Or.inr sz)
  obtain ⟨vs22, hl22, V22⟩ : ∃ vs : List Value, vs.length = 16 ∧ Arv Z h22 b2 k2 .char 16 vs (.int 0) := ⟨_, (List.length_set ..).trans hl20, Arv.set Ar9 q9 S9 M9 H9 G9 (fits_nar_char _) W22 9 rfl (by rw [hl20]; decide)⟩
  have C23 : Go p e below T22 (mkF m 117 #[.val (.int p1), .val (.ref b2)] [(.int (((p1 * (21 : Int32)) + (10 : Int32)).toUInt32.toUInt16.toUInt32.toInt32)), (.int (10 : Int32)), (.ref b2)]) s₁ F0 := fun t k => C22 t (by
    refine XS.aloadN X22.here hx rfl (hb hby d1_106) rfl rfl ?_
    show Steps p.tables e below (T22.setTop (mkF m 107 #[.val (.int p1), .val (.ref b2)] [(.ref b2)])) _
    refine XS.bipush X22.here hx rfl (hb hby d1_107) ?_
    show Steps p.tables e below (T22.setTop (mkF m 109 #[.val (.int p1), .val (.ref b2)] [(.int (10 : Int32)), (.ref b2)])) _
    refine XS.iloadN X22.here hx rfl (hb hby d1_109) rfl ?_
    show Steps p.tables e below (T22.setTop (mkF m 110 #[.val (.int p1), .val (.ref b2)] [(.int p1), (.int (10 : Int32)), (.ref b2)])) _
    refine XS.bipush X22.here hx rfl (hb hby d1_110) ?_
    show Steps p.tables e below (T22.setTop (mkF m 112 #[.val (.int p1), .val (.ref b2)] [(.int (21 : Int32)), (.int p1), (.int (10 : Int32)), (.ref b2)])) _
    refine XS.imul X22.here hx rfl (hb hby d1_112) rfl ?_
    show Steps p.tables e below (T22.setTop (mkF m 113 #[.val (.int p1), .val (.ref b2)] [(.int (p1 * (21 : Int32))), (.int (10 : Int32)), (.ref b2)])) _
    refine XS.bipush X22.here hx rfl (hb hby d1_113) ?_
    show Steps p.tables e below (T22.setTop (mkF m 115 #[.val (.int p1), .val (.ref b2)] [(.int (10 : Int32)), (.int (p1 * (21 : Int32))), (.int (10 : Int32)), (.ref b2)])) _
    refine XS.iadd X22.here hx rfl (hb hby d1_115) rfl ?_
    show Steps p.tables e below (T22.setTop (mkF m 116 #[.val (.int p1), .val (.ref b2)] [(.int ((p1 * (21 : Int32)) + (10 : Int32))), (.int (10 : Int32)), (.ref b2)])) _
    refine XS.i2c X22.here hx rfl (hb hby d1_116) rfl ?_
    exact k)
  obtain ⟨cl10, Ar10, q10, S10, M10, H10, G10⟩ := V22
  obtain ⟨T24, h24, X24, e24, W24, st24⟩ := stC X22 hx hZ e22 Ar10 (j := (10 : Int32)) (own_in (i := 10) S10 rfl (by decide)) (g := (mkF m 117 #[.val (.int p1), .val (.ref b2)] [(.int (((p1 * (21 : Int32)) + (10 : Int32)).toUInt32.toUInt16.toUInt32.toInt32)), (.int (10 : Int32)), (.ref b2)])) rfl rfl (hb hby d1_117)
  have C24 : Go p e below T24 (mkF m 118 #[.val (.int p1), .val (.ref b2)] []) s₁ F0 := fun t k => C23 t (st24 t k)
  have N24 := Fr.snoc X24 N22 gb
  have K24 := K22.wr W24 (Or.inr sz)
  obtain ⟨vs24, hl24, V24⟩ : ∃ vs : List Value, vs.length = 16 ∧ Arv Z h24 b2 k2 .char 16 vs (.int 0) := ⟨_, (List.length_set ..).trans hl22, Arv.set Ar10 q10 S10 M10 H10 G10 (fits_nar_char _) W24 10 rfl (by rw [hl22]; decide)⟩
  have C25 : Go p e below T24 (mkF m 129 #[.val (.int p1), .val (.ref b2)] [(.int (((p1 * (23 : Int32)) + (11 : Int32)).toUInt32.toUInt16.toUInt32.toInt32)), (.int (11 : Int32)), (.ref b2)]) s₁ F0 := fun t k => C24 t (by
    refine XS.aloadN X24.here hx rfl (hb hby d1_118) rfl rfl ?_
    show Steps p.tables e below (T24.setTop (mkF m 119 #[.val (.int p1), .val (.ref b2)] [(.ref b2)])) _
    refine XS.bipush X24.here hx rfl (hb hby d1_119) ?_
    show Steps p.tables e below (T24.setTop (mkF m 121 #[.val (.int p1), .val (.ref b2)] [(.int (11 : Int32)), (.ref b2)])) _
    refine XS.iloadN X24.here hx rfl (hb hby d1_121) rfl ?_
    show Steps p.tables e below (T24.setTop (mkF m 122 #[.val (.int p1), .val (.ref b2)] [(.int p1), (.int (11 : Int32)), (.ref b2)])) _
    refine XS.bipush X24.here hx rfl (hb hby d1_122) ?_
    show Steps p.tables e below (T24.setTop (mkF m 124 #[.val (.int p1), .val (.ref b2)] [(.int (23 : Int32)), (.int p1), (.int (11 : Int32)), (.ref b2)])) _
    refine XS.imul X24.here hx rfl (hb hby d1_124) rfl ?_
    show Steps p.tables e below (T24.setTop (mkF m 125 #[.val (.int p1), .val (.ref b2)] [(.int (p1 * (23 : Int32))), (.int (11 : Int32)), (.ref b2)])) _
    refine XS.bipush X24.here hx rfl (hb hby d1_125) ?_
    show Steps p.tables e below (T24.setTop (mkF m 127 #[.val (.int p1), .val (.ref b2)] [(.int (11 : Int32)), (.int (p1 * (23 : Int32))), (.int (11 : Int32)), (.ref b2)])) _
    refine XS.iadd X24.here hx rfl (hb hby d1_127) rfl ?_
    show Steps p.tables e below (T24.setTop (mkF m 128 #[.val (.int p1), .val (.ref b2)] [(.int ((p1 * (23 : Int32)) + (11 : Int32))), (.int (11 : Int32)), (.ref b2)])) _
    refine XS.i2c X24.here hx rfl (hb hby d1_128) rfl ?_
    exact k)
  obtain ⟨cl11, Ar11, q11, S11, M11, H11, G11⟩ := V24
  obtain ⟨T26, h26, X26, e26, W26, st26⟩ := stC X24 hx hZ e24 Ar11 (j := (11 : Int32)) (own_in (i := 11) S11 rfl (by decide)) (g := (mkF m 129 #[.val (.int p1), .val (.ref b2)] [(.int (((p1 * (23 : Int32)) + (11 : Int32)).toUInt32.toUInt16.toUInt32.toInt32)), (.int (11 : Int32)), (.ref b2)])) rfl rfl (hb hby d1_129)
  have C26 : Go p e below T26 (mkF m 130 #[.val (.int p1), .val (.ref b2)] []) s₁ F0 := fun t k => C25 t (st26 t k)
  have N26 := Fr.snoc X26 N24 gb
  have K26 := K24.wr W26 (Or.inr sz)
  obtain ⟨vs26, hl26, V26⟩ : ∃ vs : List Value, vs.length = 16 ∧ Arv Z h26 b2 k2 .char 16 vs (.int 0) := ⟨_, (List.length_set ..).trans hl24, Arv.set Ar11 q11 S11 M11 H11 G11 (fits_nar_char _) W26 11 rfl (by rw [hl24]; decide)⟩
  have C27 : Go p e below T26 (mkF m 141 #[.val (.int p1), .val (.ref b2)] [(.int (((p1 * (25 : Int32)) + (12 : Int32)).toUInt32.toUInt16.toUInt32.toInt32)), (.int (12 : Int32)), (.ref b2)]) s₁ F0 := fun t k => C26 t (by
    refine XS.aloadN X26.here hx rfl (hb hby d1_130) rfl rfl ?_
    show Steps p.tables e below (T26.setTop (mkF m 131 #[.val (.int p1), .val (.ref b2)] [(.ref b2)])) _
    refine XS.bipush X26.here hx rfl (hb hby d1_131) ?_
    show Steps p.tables e below (T26.setTop (mkF m 133 #[.val (.int p1), .val (.ref b2)] [(.int (12 : Int32)), (.ref b2)])) _
    refine XS.iloadN X26.here hx rfl (hb hby d1_133) rfl ?_
    show Steps p.tables e below (T26.setTop (mkF m 134 #[.val (.int p1), .val (.ref b2)] [(.int p1), (.int (12 : Int32)), (.ref b2)])) _
    refine XS.bipush X26.here hx rfl (hb hby d1_134) ?_
    show Steps p.tables e below (T26.setTop (mkF m 136 #[.val (.int p1), .val (.ref b2)] [(.int (25 : Int32)), (.int p1), (.int (12 : Int32)), (.ref b2)])) _
    refine XS.imul X26.here hx rfl (hb hby d1_136) rfl ?_
    show Steps p.tables e below (T26.setTop (mkF m 137 #[.val (.int p1), .val (.ref b2)] [(.int (p1 * (25 : Int32))), (.int (12 : Int32)), (.ref b2)])) _
    refine XS.bipush X26.here hx rfl (hb hby d1_137) ?_
    show Steps p.tables e below (T26.setTop (mkF m 139 #[.val (.int p1), .val (.ref b2)] [(.int (12 : Int32)), (.int (p1 * (25 : Int32))), (.int (12 : Int32)), (.ref b2)])) _
    refine XS.iadd X26.here hx rfl (hb hby d1_139) rfl ?_
    show Steps p.tables e below (T26.setTop (mkF m 140 #[.val (.int p1), .val (.ref b2)] [(.int ((p1 * (25 : Int32)) + (12 : Int32))), (.int (12 : Int32)), (.ref b2)])) _
    refine XS.i2c X26.here hx rfl (hb hby d1_140) rfl ?_
    exact k)
  obtain ⟨cl12, Ar12, q12, S12, M12, H12, G12⟩ := V26
  obtain ⟨T28, h28, X28, e28, W28, st28⟩ := stC X26 hx hZ e26 Ar12 (j := (12 : Int32)) (own_in (i := 12) S12 rfl (by decide)) (g := (mkF m 141 #[.val (.int p1), .val (.ref b2)] [(.int (((p1 * (25 : Int32)) + (12 : Int32)).toUInt32.toUInt16.toUInt32.toInt32)), (.int (12 : Int32)), (.ref b2)])) rfl rfl (hb hby d1_141)
  have C28 : Go p e below T28 (mkF m 142 #[.val (.int p1), .val (.ref b2)] []) s₁ F0 := fun t k => C27 t (st28 t k)
  have N28 := Fr.snoc X28 N26 gb
  have K28 := K26.wr W28 (Or.inr sz)
  obtain ⟨vs28, hl28, V28⟩ : ∃ vs : List Value, vs.length = 16 ∧ Arv Z h28 b2 k2 .char 16 vs (.int 0) := ⟨_, (List.length_set ..).trans hl26, Arv.set Ar12 q12 S12 M12 H12 G12 (fits_nar_char _) W28 12 rfl (by rw [hl26]; decide)⟩
  have C29 : Go p e below T28 (mkF m 153 #[.val (.int p1), .val (.ref b2)] [(.int (((p1 * (27 : Int32)) + (13 : Int32)).toUInt32.toUInt16.toUInt32.toInt32)), (.int (13 : Int32)), (.ref b2)]) s₁ F0 := fun t k => C28 t (by
    refine XS.aloadN X28.here hx rfl (hb hby d1_142) rfl rfl ?_
    show Steps p.tables e below (T28.setTop (mkF m 143 #[.val (.int p1), .val (.ref b2)] [(.ref b2)])) _
    refine XS.bipush X28.here hx rfl (hb hby d1_143) ?_
    show Steps p.tables e below (T28.setTop (mkF m 145 #[.val (.int p1), .val (.ref b2)] [(.int (13 : Int32)), (.ref b2)])) _
    refine XS.iloadN X28.here hx rfl (hb hby d1_145) rfl ?_
    show Steps p.tables e below (T28.setTop (mkF m 146 #[.val (.int p1), .val (.ref b2)] [(.int p1), (.int (13 : Int32)), (.ref b2)])) _
    refine XS.bipush X28.here hx rfl (hb hby d1_146) ?_
    show Steps p.tables e below (T28.setTop (mkF m 148 #[.val (.int p1), .val (.ref b2)] [(.int (27 : Int32)), (.int p1), (.int (13 : Int32)), (.ref b2)])) _
    refine XS.imul X28.here hx rfl (hb hby d1_148) rfl ?_
    show Steps p.tables e below (T28.setTop (mkF m 149 #[.val (.int p1), .val (.ref b2)] [(.int (p1 * (27 : Int32))), (.int (13 : Int32)), (.ref b2)])) _
    refine XS.bipush X28.here hx rfl (hb hby d1_149) ?_
    show Steps p.tables e below (T28.setTop (mkF m 151 #[.val (.int p1), .val (.ref b2)] [(.int (13 : Int32)), (.int (p1 * (27 : Int32))), (.int (13 : Int32)), (.ref b2)])) _
    refine XS.iadd X28.here hx rfl (hb hby d1_151) rfl ?_
    show Steps p.tables e below (T28.setTop (mkF m 152 #[.val (.int p1), .val (.ref b2)] [(.int ((p1 * (27 : Int32)) + (13 : Int32))), (.int (13 : Int32)), (.ref b2)])) _
    refine XS.i2c X28.here hx rfl (hb hby d1_152) rfl ?_
    exact k)
  obtain ⟨cl13, Ar13, q13, S13, M13, H13, G13⟩ := V28
  obtain ⟨T30, h30, X30, e30, W30, st30⟩ := stC X28 hx hZ e28 Ar13 (j := (13 : Int32)) (own_in (i := 13) S13 rfl (by decide)) (g := (mkF m 153 #[.val (.int p1), .val (.ref b2)] [(.int (((p1 * (27 : Int32)) + (13 : Int32)).toUInt32.toUInt16.toUInt32.toInt32)), (.int (13 : Int32)), (.ref b2)])) rfl rfl (hb hby d1_153)
  have C30 : Go p e below T30 (mkF m 154 #[.val (.int p1), .val (.ref b2)] []) s₁ F0 := fun t k => C29 t (st30 t k)
  have N30 := Fr.snoc X30 N28 gb
  have K30 := K28.wr W30 (Or.inr sz)
  obtain ⟨vs30, hl30, V30⟩ : ∃ vs : List Value, vs.length = 16 ∧ Arv Z h30 b2 k2 .char 16 vs (.int 0) := ⟨_, (List.length_set ..).trans hl28, Arv.set Ar13 q13 S13 M13 H13 G13 (fits_nar_char _) W30 13 rfl (by rw [hl28]; decide)⟩
  have C31 : Go p e below T30 (mkF m 165 #[.val (.int p1), .val (.ref b2)] [(.int (((p1 * (29 : Int32)) + (14 : Int32)).toUInt32.toUInt16.toUInt32.toInt32)), (.int (14 : Int32)), (.ref b2)]) s₁ F0 := fun t k => C30 t (by
    refine XS.aloadN X30.here hx rfl (hb hby d1_154) rfl rfl ?_
    show Steps p.tables e below (T30.setTop (mkF m 155 #[.val (.int p1), .val (.ref b2)] [(.ref b2)])) _
    refine XS.bipush X30.here hx rfl (hb hby d1_155) ?_
    show Steps p.tables e below (T30.setTop (mkF m 157 #[.val (.int p1), .val (.ref b2)] [(.int (14 : Int32)), (.ref b2)])) _
    refine XS.iloadN X30.here hx rfl (hb hby d1_157) rfl ?_
    show Steps p.tables e below (T30.setTop (mkF m 158 #[.val (.int p1), .val (.ref b2)] [(.int p1), (.int (14 : Int32)), (.ref b2)])) _
    refine XS.bipush X30.here hx rfl (hb hby d1_158) ?_
    show Steps p.tables e below (T30.setTop (mkF m 160 #[.val (.int p1), .val (.ref b2)] [(.int (29 : Int32)), (.int p1), (.int (14 : Int32)), (.ref b2)])) _
    refine XS.imul X30.here hx rfl (hb hby d1_160) rfl ?_
    show Steps p.tables e below (T30.setTop (mkF m 161 #[.val (.int p1), .val (.ref b2)] [(.int (p1 * (29 : Int32))), (.int (14 : Int32)), (.ref b2)])) _
    refine XS.bipush X30.here hx rfl (hb hby d1_161) ?_
    show Steps p.tables e below (T30.setTop (mkF m 163 #[.val (.int p1), .val (.ref b2)] [(.int (14 : Int32)), (.int (p1 * (29 : Int32))), (.int (14 : Int32)), (.ref b2)])) _
    refine XS.iadd X30.here hx rfl (hb hby d1_163) rfl ?_
    show Steps p.tables e below (T30.setTop (mkF m 164 #[.val (.int p1), .val (.ref b2)] [(.int ((p1 * (29 : Int32)) + (14 : Int32))), (.int (14 : Int32)), (.ref b2)])) _
    refine XS.i2c X30.here hx rfl (hb hby d1_164) rfl ?_
    exact k)
  obtain ⟨cl14, Ar14, q14, S14, M14, H14, G14⟩ := V30
  obtain ⟨T32, h32, X32, e32, W32, st32⟩ := stC X30 hx hZ e30 Ar14 (j := (14 : Int32)) (own_in (i := 14) S14 rfl (by decide)) (g := (mkF m 165 #[.val (.int p1), .val (.ref b2)] [(.int (((p1 * (29 : Int32)) + (14 : Int32)).toUInt32.toUInt16.toUInt32.toInt32)), (.int (14 : Int32)), (.ref b2)])) rfl rfl (hb hby d1_165)
  have C32 : Go p e below T32 (mkF m 166 #[.val (.int p1), .val (.ref b2)] []) s₁ F0 := fun t k => C31 t (st32 t k)
  have N32 := Fr.snoc X32 N30 gb
  have K32 := K30.wr W32 (Or.inr sz)
  obtain ⟨vs32, hl32, V32⟩ : ∃ vs : List Value, vs.length = 16 ∧ Arv Z h32 b2 k2 .char 16 vs (.int 0) := ⟨_, (List.length_set ..).trans hl30, Arv.set Ar14 q14 S14 M14 H14 G14 (fits_nar_char _) W32 14 rfl (by rw [hl30]; decide)⟩
  have C33 : Go p e below T32 (mkF m 177 #[.val (.int p1), .val (.ref b2)] [(.int (((p1 * (31 : Int32)) + (15 : Int32)).toUInt32.toUInt16.toUInt32.toInt32)), (.int (15 : Int32)), (.ref b2)]) s₁ F0 := fun t k => C32 t (by
    refine XS.aloadN X32.here hx rfl (hb hby d1_166) rfl rfl ?_
    show Steps p.tables e below (T32.setTop (mkF m 167 #[.val (.int p1), .val (.ref b2)] [(.ref b2)])) _
    refine XS.bipush X32.here hx rfl (hb hby d1_167) ?_
    show Steps p.tables e below (T32.setTop (mkF m 169 #[.val (.int p1), .val (.ref b2)] [(.int (15 : Int32)), (.ref b2)])) _
    refine XS.iloadN X32.here hx rfl (hb hby d1_169) rfl ?_
    show Steps p.tables e below (T32.setTop (mkF m 170 #[.val (.int p1), .val (.ref b2)] [(.int p1), (.int (15 : Int32)), (.ref b2)])) _
    refine XS.bipush X32.here hx rfl (hb hby d1_170) ?_
    show Steps p.tables e below (T32.setTop (mkF m 172 #[.val (.int p1), .val (.ref b2)] [(.int (31 : Int32)), (.int p1), (.int (15 : Int32)), (.ref b2)])) _
    refine XS.imul X32.here hx rfl (hb hby d1_172) rfl ?_
    show Steps p.tables e below (T32.setTop (mkF m 173 #[.val (.int p1), .val (.ref b2)] [(.int (p1 * (31 : Int32))), (.int (15 : Int32)), (.ref b2)])) _
    refine XS.bipush X32.here hx rfl (hb hby d1_173) ?_
    show Steps p.tables e below (T32.setTop (mkF m 175 #[.val (.int p1), .val (.ref b2)] [(.int (15 : Int32)), (.int (p1 * (31 : Int32))), (.int (15 : Int32)), (.ref b2)])) _
    refine XS.iadd X32.here hx rfl (hb hby d1_175) rfl ?_
    show Steps p.tables e below (T32.setTop (mkF m 176 #[.val (.int p1), .val (.ref b2)] [(.int ((p1 * (31 : Int32)) + (15 : Int32))), (.int (15 : Int32)), (.ref b2)])) _
    refine XS.i2c X32.here hx rfl (hb hby d1_176) rfl ?_
    exact k)
  obtain ⟨cl15, Ar15, q15, S15, M15, H15, G15⟩ := V32
  obtain ⟨T34, h34, X34, e34, W34, st34⟩ := stC X32 hx hZ e32 Ar15 (j := (15 : Int32)) (own_in (i := 15) S15 rfl (by decide)) (g := (mkF m 177 #[.val (.int p1), .val (.ref b2)] [(.int (((p1 * (31 : Int32)) + (15 : Int32)).toUInt32.toUInt16.toUInt32.toInt32)), (.int (15 : Int32)), (.ref b2)])) rfl rfl (hb hby d1_177)
  have C34 : Go p e below T34 (mkF m 178 #[.val (.int p1), .val (.ref b2)] []) s₁ F0 := fun t k => C33 t (st34 t k)
  have N34 := Fr.snoc X34 N32 gb
  have K34 := K32.wr W34 (Or.inr sz)
  obtain ⟨vs34, hl34, V34⟩ : ∃ vs : List Value, vs.length = 16 ∧ Arv Z h34 b2 k2 .char 16 vs (.int 0) := ⟨_, (List.length_set ..).trans hl32, Arv.set Ar15 q15 S15 M15 H15 G15 (fits_nar_char _) W34 15 rfl (by rw [hl32]; decide)⟩
  have C35 : Go p e below T34 (mkF m 179 #[.val (.int p1), .val (.ref b2)] [(.ref b2)]) s₁ F0 := fun t k => C34 t (by
    refine XS.aloadN X34.here hx rfl (hb hby d1_178) rfl rfl ?_
    exact k)
  obtain ⟨fs, hr, hrun, hended, hW, hsame⟩ := X34.leave (v := (some (.ref b2))) (fun h => by rw [Bd.returns] at h; cases h)
  refine ⟨_, _, pre0 _ (C35 _ ?_), hrun, hended, _, _, rfl, ?_, ⟨_, rfl⟩, hW, hsame.mono (by decide) (by decide)⟩
  · jvm_step X34.here [X34.here.top, hx, (hb hby d1_179), X34.method', Bd.returns, Value.isRef, FieldType.isReference]
    first | (intro acts; rw [hr _ acts rfl rfl rfl]) | rw [hr _ _ rfl rfl rfl]
    exact Steps.refl _
  · show Q1 Z p1 h0 n0 _ T34.heap _
    rw [e34]
    exact ⟨_, _, _, rfl, N34, K34, sz, hl34, V34⟩
theorem d2_0 : decode method_3_code 0 = .ok (.aload_n 0, 1) := by decide +kernel
theorem d2_1 : decode method_3_code 1 = .ok (.iload_n 1, 1) := by decide +kernel
theorem d2_2 : decode method_3_code 2 = .ok (.iload_n 3, 1) := by decide +kernel
theorem d2_3 : decode method_3_code 3 = .ok (.castore, 1) := by decide +kernel
theorem d2_4 : decode method_3_code 4 = .ok (.aload_n 0, 1) := by decide +kernel
theorem d2_5 : decode method_3_code 5 = .ok (.iload_n 1, 1) := by decide +kernel
theorem d2_6 : decode method_3_code 6 = .ok (.iload_n 2, 1) := by decide +kernel
theorem d2_7 : decode method_3_code 7 = .ok (.iconst 1, 1) := by decide +kernel
theorem d2_8 : decode method_3_code 8 = .ok (.ishr, 1) := by decide +kernel
theorem d2_9 : decode method_3_code 9 = .ok (.iadd, 1) := by decide +kernel
theorem d2_10 : decode method_3_code 10 = .ok (.iload 4, 2) := by decide +kernel
theorem d2_12 : decode method_3_code 12 = .ok (.castore, 1) := by decide +kernel
theorem d2_13 : decode method_3_code 13 = .ok (.aload_n 0, 1) := by decide +kernel
theorem d2_14 : decode method_3_code 14 = .ok (.iload_n 1, 1) := by decide +kernel
theorem d2_15 : decode method_3_code 15 = .ok (.iload_n 2, 1) := by decide +kernel
theorem d2_16 : decode method_3_code 16 = .ok (.iadd, 1) := by decide +kernel
theorem d2_17 : decode method_3_code 17 = .ok (.iconst 1, 1) := by decide +kernel
theorem d2_18 : decode method_3_code 18 = .ok (.isub, 1) := by decide +kernel
theorem d2_19 : decode method_3_code 19 = .ok (.iload 5, 2) := by decide +kernel
theorem d2_21 : decode method_3_code 21 = .ok (.castore, 1) := by decide +kernel
theorem d2_22 : decode method_3_code 22 = .ok (.return_, 1) := by decide +kernel
theorem pn_2 : plainName "com/example/trailwright/trailwright/xml/XmlNamesSetPinLaw" = true := by first | (simp [plainName, overriddenIn]; done) | decide +kernel
theorem pd_2 : parseMethodDescriptor "([CIICCC)V" = some ⟨[(.array .char), .int, .int, .char, .char, .char], none⟩ := by decide +kernel
theorem ef_2 (m : MethodId) (x0 : Addr) (x1 : Int32) (x2 : Int32) (x3 : Int32) (x4 : Int32) (x5 : Int32) : entryFrame m #[(.ref x0), (.int x1), (.int x2), (.int x3), (.int x4), (.int x5)] 6 = mkF m 0 #[.val (.ref x0), .val (.int x1), .val (.int x2), .val (.int x3), .val (.int x4), .val (.int x5)] [] := by first | (simp [entryFrame, mkF, argsToLocals, Value.category]; done) | rfl
def Q2 (Z : State) (a1 : Addr) (p2 p3 p4 p5 p6 : Int32) (k0 : ClassId) (vs : List Value) (a L0 : Nat) (h0 : Heap) (n0 : Nat) (v : Option Value) (h : Heap) (L : List Loc) : Prop := ∃ (ws : List Value), v = none ∧ Fr n0 L ∧ Keep h0 h [a1] ∧ ws.length = 16 ∧ Arv Z h a1 k0 .char 16 ws (.int 0) ∧ ws.getD a (.int 0) = .int (own_x p3 (nar .char p4) (nar .char p6)) ∧ ws.getD (a + L0 / 2) (.int 0) = .int (own_w p3 (nar .char p5) (nar .char p6)) ∧ ws.getD (a + L0 - 1) (.int 0) = .int (nar .char p6)
set_option maxRecDepth 65536 in
set_option maxHeartbeats 40000000 in
theorem rm2 (l : Launch) (Z : State) (a0 : Array Value) (hw : ∀ d ∈ tables_1, d.before a0 Z = true) (ws : List Jvm.Cond) (a1 : Addr) (p2 p3 p4 p5 p6 : Int32) (k0 : ClassId) (vs : List Value) (a L0 : Nat) (h0 : Heap) (n0 : Nat) (Z0 : n0 ≤ h0.size) (V0 : Arv Z h0 a1 k0 .char 16 vs (.int 0)) (hl0 : vs.length = 16) (hs : p2.toInt = a) (hl : p3.toInt = L0) (ha : a ≤ 7) (hL1 : 1 ≤ L0) (hL8 : L0 ≤ 8) (ga : n0 ≤ a1) :
    MetFree l (⟨"com/example/trailwright/trailwright/xml/XmlNamesSetPinLaw", "place", "([CIICCC)V"⟩ : MethodName) (head1 (Jvm.Cond.code (⟨"com/example/trailwright/trailwright/xml/XmlNamesSetPinLaw", "place", "([CIICCC)V"⟩ : MethodName) method_3_code 6 none :: ws) ({ frames := 0, cells := 0, slots := 0, locals := 0 } : Room)) (fun a U => a = #[(.ref a1), (.int p2), (.int p3), (.int p4), (.int p5), (.int p6)] ∧ Z.Warmed39 U.vm ∧ U.heap = h0) (fun _ _ _ _ _ => True) (fun _ U o U' => ∃ v L, o = .returned v ∧ Q2 Z a1 p2 p3 p4 p5 p6 k0 vs a L0 h0 n0 v U'.heap L ∧ FrameEnd U o U' L ({ frames := 0, cells := 0, slots := 0, locals := 0 } : Room).cells ({ frames := 0, cells := 0, slots := 0, locals := 0 } : Room).slots) := by
  refine MetFree.of_bodySF (plainFor_of_name pn_2) hisR ?_
  intro p e s m args below meth c s₁ Bd hml0 hP hK
  obtain ⟨rfl, hZ, hh⟩ := hP
  have hx := Bd.exec
  have hby := Bd.bytes
  have hml : c.maxLocals = 6 := hml0
  have hown : s.vm.findClass "com/example/trailwright/trailwright/xml/XmlNamesSetPinLaw" = some m.cls := findClass_of_methodNamed Bd.named
  have hnm := (name_of_methodNamed Bd.named Bd.method).1
  have X0 : Stand p l e ({ frames := 0, cells := 0, slots := 0, locals := 0 } : Room) s m #[(.ref a1), (.int p2), (.int p3), (.int p4), (.int p5), (.int p6)] below meth c s₁ [] 0 0 := Stand.of_body Bd
  have e0 : s₁.heap = h0 := by rw [← hh, Bd.state]; rfl
  have N0 := Fr.nil n0
  obtain ⟨F0, hF0⟩ : ∃ F0, F0 = entryFrame m #[(.ref a1), (.int p2), (.int p3), (.int p4), (.int p5), (.int p6)] 6 := ⟨_, rfl⟩
  have C0 : Go p e below s₁ (mkF m 0 #[.val (.ref a1), .val (.int p2), .val (.int p3), .val (.int p4), .val (.int p5), .val (.int p6)] []) s₁ F0 := fun t k => by rw [hF0]; exact castTop (ef_2 m a1 p2 p3 p4 p5 p6) k
  have pre0 : ∀ t, Steps p.tables e below (s₁.setTop F0) t → Steps p.tables e below (s₁.setTop (entryFrame m #[(.ref a1), (.int p2), (.int p3), (.int p4), (.int p5), (.int p6)] 6)) t := fun t k => by rw [← hF0]; exact k
  have hm := own_mid hs hl ha hL8
  have he := own_end hs hl ha hL1 hL8
  have K0 := Keep.refl h0 [a1]
  have C1 : Go p e below s₁ (mkF m 3 #[.val (.ref a1), .val (.int p2), .val (.int p3), .val (.int p4), .val (.int p5), .val (.int p6)] [(.int p4), (.int p2), (.ref a1)]) s₁ F0 := fun t k => C0 t (by
    refine XS.aloadN X0.here hx rfl (hb hby d2_0) rfl rfl ?_
    show Steps p.tables e below (s₁.setTop (mkF m 1 #[.val (.ref a1), .val (.int p2), .val (.int p3), .val (.int p4), .val (.int p5), .val (.int p6)] [(.ref a1)])) _
    refine XS.iloadN X0.here hx rfl (hb hby d2_1) rfl ?_
    show Steps p.tables e below (s₁.setTop (mkF m 2 #[.val (.ref a1), .val (.int p2), .val (.int p3), .val (.int p4), .val (.int p5), .val (.int p6)] [(.int p2), (.ref a1)])) _
    refine XS.iloadN X0.here hx rfl (hb hby d2_2) rfl ?_
    exact k)
  obtain ⟨cl0, Ar0, q0, S0, M0, H0, G0⟩ := V0
  obtain ⟨T2, h2, X2, e2, W2, st2⟩ := stC X0 hx hZ e0 Ar0 (j := p2) (own_in S0 hs (by omega)) (g := (mkF m 3 #[.val (.ref a1), .val (.int p2), .val (.int p3), .val (.int p4), .val (.int p5), .val (.int p6)] [(.int p4), (.int p2), (.ref a1)])) rfl rfl (hb hby d2_3)
  have C2 : Go p e below T2 (mkF m 4 #[.val (.ref a1), .val (.int p2), .val (.int p3), .val (.int p4), .val (.int p5), .val (.int p6)] []) s₁ F0 := fun t k => C1 t (st2 t k)
  have N2 := Fr.snoc X2 N0 ga
  have K2 := K0.wr W2 (Or.inl (List.mem_of_getElem? (i := 0) rfl))
  have V2 := Arv.set Ar0 q0 S0 M0 H0 G0 (fits_nar_char _) W2 a (own_idx hs) (by simp only [List.length_set, hl0]; omega)
  have C3 : Go p e below T2 (mkF m 12 #[.val (.ref a1), .val (.int p2), .val (.int p3), .val (.int p4), .val (.int p5), .val (.int p6)] [(.int p5), (.int (p2 + (p3 >>> ((1 : Int32) &&& 31)))), (.ref a1)]) s₁ F0 := fun t k => C2 t (by
    refine XS.aloadN X2.here hx rfl (hb hby d2_4) rfl rfl ?_
    show Steps p.tables e below (T2.setTop (mkF m 5 #[.val (.ref a1), .val (.int p2), .val (.int p3), .val (.int p4), .val (.int p5), .val (.int p6)] [(.ref a1)])) _
    refine XS.iloadN X2.here hx rfl (hb hby d2_5) rfl ?_
    show Steps p.tables e below (T2.setTop (mkF m 6 #[.val (.ref a1), .val (.int p2), .val (.int p3), .val (.int p4), .val (.int p5), .val (.int p6)] [(.int p2), (.ref a1)])) _
    refine XS.iloadN X2.here hx rfl (hb hby d2_6) rfl ?_
    show Steps p.tables e below (T2.setTop (mkF m 7 #[.val (.ref a1), .val (.int p2), .val (.int p3), .val (.int p4), .val (.int p5), .val (.int p6)] [(.int p3), (.int p2), (.ref a1)])) _
    refine XS.iconst X2.here hx rfl (hb hby d2_7) ?_
    show Steps p.tables e below (T2.setTop (mkF m 8 #[.val (.ref a1), .val (.int p2), .val (.int p3), .val (.int p4), .val (.int p5), .val (.int p6)] [(.int (1 : Int32)), (.int p3), (.int p2), (.ref a1)])) _
    refine XS.ishr X2.here hx rfl (hb hby d2_8) rfl ?_
    show Steps p.tables e below (T2.setTop (mkF m 9 #[.val (.ref a1), .val (.int p2), .val (.int p3), .val (.int p4), .val (.int p5), .val (.int p6)] [(.int (p3 >>> ((1 : Int32) &&& 31))), (.int p2), (.ref a1)])) _
    refine XS.iadd X2.here hx rfl (hb hby d2_9) rfl ?_
    show Steps p.tables e below (T2.setTop (mkF m 10 #[.val (.ref a1), .val (.int p2), .val (.int p3), .val (.int p4), .val (.int p5), .val (.int p6)] [(.int (p2 + (p3 >>> ((1 : Int32) &&& 31)))), (.ref a1)])) _
    refine XS.iload X2.here hx rfl (hb hby d2_10) rfl ?_
    exact k)
  obtain ⟨cl1, Ar1, q1, S1, M1, H1, G1⟩ := V2
  obtain ⟨T4, h4, X4, e4, W4, st4⟩ := stC X2 hx hZ e2 Ar1 (j := (p2 + (p3 >>> ((1 : Int32) &&& 31)))) (own_in S1 hm (by omega)) (g := (mkF m 12 #[.val (.ref a1), .val (.int p2), .val (.int p3), .val (.int p4), .val (.int p5), .val (.int p6)] [(.int p5), (.int (p2 + (p3 >>> ((1 : Int32) &&& 31)))), (.ref a1)])) rfl rfl (hb hby d2_12)
  have C4 : Go p e below T4 (mkF m 13 #[.val (.ref a1), .val (.int p2), .val (.int p3), .val (.int p4), .val (.int p5), .val (.int p6)] []) s₁ F0 := fun t k => C3 t (st4 t k)
  have N4 := Fr.snoc X4 N2 ga
  have K4 := K2.wr W4 (Or.inl (List.mem_of_getElem? (i := 0) rfl))
  have V4 := Arv.set Ar1 q1 S1 M1 H1 G1 (fits_nar_char _) W4 (a + L0 / 2) (own_idx hm) (by simp only [List.length_set, hl0]; omega)
  have C5 : Go p e below T4 (mkF m 21 #[.val (.ref a1), .val (.int p2), .val (.int p3), .val (.int p4), .val (.int p5), .val (.int p6)] [(.int p6), (.int ((p2 + p3) - (1 : Int32))), (.ref a1)]) s₁ F0 := fun t k => C4 t (by
    refine XS.aloadN X4.here hx rfl (hb hby d2_13) rfl rfl ?_
    show Steps p.tables e below (T4.setTop (mkF m 14 #[.val (.ref a1), .val (.int p2), .val (.int p3), .val (.int p4), .val (.int p5), .val (.int p6)] [(.ref a1)])) _
    refine XS.iloadN X4.here hx rfl (hb hby d2_14) rfl ?_
    show Steps p.tables e below (T4.setTop (mkF m 15 #[.val (.ref a1), .val (.int p2), .val (.int p3), .val (.int p4), .val (.int p5), .val (.int p6)] [(.int p2), (.ref a1)])) _
    refine XS.iloadN X4.here hx rfl (hb hby d2_15) rfl ?_
    show Steps p.tables e below (T4.setTop (mkF m 16 #[.val (.ref a1), .val (.int p2), .val (.int p3), .val (.int p4), .val (.int p5), .val (.int p6)] [(.int p3), (.int p2), (.ref a1)])) _
    refine XS.iadd X4.here hx rfl (hb hby d2_16) rfl ?_
    show Steps p.tables e below (T4.setTop (mkF m 17 #[.val (.ref a1), .val (.int p2), .val (.int p3), .val (.int p4), .val (.int p5), .val (.int p6)] [(.int (p2 + p3)), (.ref a1)])) _
    refine XS.iconst X4.here hx rfl (hb hby d2_17) ?_
    show Steps p.tables e below (T4.setTop (mkF m 18 #[.val (.ref a1), .val (.int p2), .val (.int p3), .val (.int p4), .val (.int p5), .val (.int p6)] [(.int (1 : Int32)), (.int (p2 + p3)), (.ref a1)])) _
    refine XS.isub X4.here hx rfl (hb hby d2_18) rfl ?_
    show Steps p.tables e below (T4.setTop (mkF m 19 #[.val (.ref a1), .val (.int p2), .val (.int p3), .val (.int p4), .val (.int p5), .val (.int p6)] [(.int ((p2 + p3) - (1 : Int32))), (.ref a1)])) _
    refine XS.iload X4.here hx rfl (hb hby d2_19) rfl ?_
    exact k)
  obtain ⟨cl2, Ar2, q2, S2, M2, H2, G2⟩ := V4
  obtain ⟨T6, h6, X6, e6, W6, st6⟩ := stC X4 hx hZ e4 Ar2 (j := ((p2 + p3) - (1 : Int32))) (own_in S2 he (by omega)) (g := (mkF m 21 #[.val (.ref a1), .val (.int p2), .val (.int p3), .val (.int p4), .val (.int p5), .val (.int p6)] [(.int p6), (.int ((p2 + p3) - (1 : Int32))), (.ref a1)])) rfl rfl (hb hby d2_21)
  have C6 : Go p e below T6 (mkF m 22 #[.val (.ref a1), .val (.int p2), .val (.int p3), .val (.int p4), .val (.int p5), .val (.int p6)] []) s₁ F0 := fun t k => C5 t (st6 t k)
  have N6 := Fr.snoc X6 N4 ga
  have K6 := K4.wr W6 (Or.inl (List.mem_of_getElem? (i := 0) rfl))
  have V6 := Arv.set Ar2 q2 S2 M2 H2 G2 (fits_nar_char _) W6 (a + L0 - 1) (own_idx he) (by simp only [List.length_set, hl0]; omega)
  obtain ⟨fs, hr, hrun, hended, hW, hsame⟩ := X6.leave (v := none) (fun _ => rfl)
  refine ⟨_, _, pre0 _ (C6 _ ?_), hrun, hended, _, _, rfl, ?_, ⟨_, rfl⟩, hW, hsame.mono (by decide) (by decide)⟩
  · exact X6.returnOut hx Bd.returns (hb hby d2_22) hr
  · show Q2 Z a1 p2 p3 p4 p5 p6 k0 vs a L0 h0 n0 _ T6.heap _
    rw [e6]
    obtain ⟨w1, w2, w3⟩ := own_place vs a L0 hl0 ha hL1 hL8 (.int (nar .char p4)) (.int (nar .char p5)) (.int (nar .char p6)) (.int 0)
    refine ⟨_, rfl, N6, K6, by simp only [List.length_set, hl0], V6, w1.trans ?_, w2.trans ?_, w3⟩
    · unfold own_x; rw [hl]; by_cases c : L0 = 1
      · rw [if_pos c, if_pos (by omega)]
      · rw [if_neg c, if_neg (by omega)]
    · unfold own_w; rw [hl]; by_cases c : L0 ≤ 2
      · rw [if_pos c, if_pos (by omega)]
      · rw [if_neg c, if_neg (by omega)]
theorem d3_0 : decode prog_197_method_3_code 0 = .ok (.iload_n 2, 1) := by decide +kernel
theorem d3_1 : decode prog_197_method_3_code 1 = .ok (.ldc 35, 2) := by decide +kernel
theorem d3_3 : decode prog_197_method_3_code 3 = .ok (.imul, 1) := by decide +kernel
theorem d3_4 : decode prog_197_method_3_code 4 = .ok (.aload_n 0, 1) := by decide +kernel
theorem d3_5 : decode prog_197_method_3_code 5 = .ok (.iload_n 1, 1) := by decide +kernel
theorem d3_6 : decode prog_197_method_3_code 6 = .ok (.caload, 1) := by decide +kernel
theorem d3_7 : decode prog_197_method_3_code 7 = .ok (.bipush 31, 2) := by decide +kernel
theorem d3_9 : decode prog_197_method_3_code 9 = .ok (.imul, 1) := by decide +kernel
theorem d3_10 : decode prog_197_method_3_code 10 = .ok (.ixor, 1) := by decide +kernel
theorem d3_11 : decode prog_197_method_3_code 11 = .ok (.aload_n 0, 1) := by decide +kernel
theorem d3_12 : decode prog_197_method_3_code 12 = .ok (.iload_n 1, 1) := by decide +kernel
theorem d3_13 : decode prog_197_method_3_code 13 = .ok (.iload_n 2, 1) := by decide +kernel
theorem d3_14 : decode prog_197_method_3_code 14 = .ok (.iadd, 1) := by decide +kernel
theorem d3_15 : decode prog_197_method_3_code 15 = .ok (.iconst 1, 1) := by decide +kernel
theorem d3_16 : decode prog_197_method_3_code 16 = .ok (.isub, 1) := by decide +kernel
theorem d3_17 : decode prog_197_method_3_code 17 = .ok (.caload, 1) := by decide +kernel
theorem d3_18 : decode prog_197_method_3_code 18 = .ok (.ldc 36, 2) := by decide +kernel
theorem d3_20 : decode prog_197_method_3_code 20 = .ok (.imul, 1) := by decide +kernel
theorem d3_21 : decode prog_197_method_3_code 21 = .ok (.ixor, 1) := by decide +kernel
theorem d3_22 : decode prog_197_method_3_code 22 = .ok (.aload_n 0, 1) := by decide +kernel
theorem d3_23 : decode prog_197_method_3_code 23 = .ok (.iload_n 1, 1) := by decide +kernel
theorem d3_24 : decode prog_197_method_3_code 24 = .ok (.iload_n 2, 1) := by decide +kernel
theorem d3_25 : decode prog_197_method_3_code 25 = .ok (.iconst 1, 1) := by decide +kernel
theorem d3_26 : decode prog_197_method_3_code 26 = .ok (.ishr, 1) := by decide +kernel
theorem d3_27 : decode prog_197_method_3_code 27 = .ok (.iadd, 1) := by decide +kernel
theorem d3_28 : decode prog_197_method_3_code 28 = .ok (.caload, 1) := by decide +kernel
theorem d3_29 : decode prog_197_method_3_code 29 = .ok (.ldc 37, 2) := by decide +kernel
theorem d3_31 : decode prog_197_method_3_code 31 = .ok (.imul, 1) := by decide +kernel
theorem d3_32 : decode prog_197_method_3_code 32 = .ok (.ixor, 1) := by decide +kernel
theorem d3_33 : decode prog_197_method_3_code 33 = .ok (.istore_n 3, 1) := by decide +kernel
theorem d3_34 : decode prog_197_method_3_code 34 = .ok (.iload_n 3, 1) := by decide +kernel
theorem d3_35 : decode prog_197_method_3_code 35 = .ok (.iload_n 3, 1) := by decide +kernel
theorem d3_36 : decode prog_197_method_3_code 36 = .ok (.bipush 15, 2) := by decide +kernel
theorem d3_38 : decode prog_197_method_3_code 38 = .ok (.iushr, 1) := by decide +kernel
theorem d3_39 : decode prog_197_method_3_code 39 = .ok (.ixor, 1) := by decide +kernel
theorem d3_40 : decode prog_197_method_3_code 40 = .ok (.istore_n 3, 1) := by decide +kernel
theorem d3_41 : decode prog_197_method_3_code 41 = .ok (.iload_n 3, 1) := by decide +kernel
theorem d3_42 : decode prog_197_method_3_code 42 = .ok (.bipush 63, 2) := by decide +kernel
theorem d3_44 : decode prog_197_method_3_code 44 = .ok (.iand, 1) := by decide +kernel
theorem d3_45 : decode prog_197_method_3_code 45 = .ok (.ireturn, 1) := by decide +kernel
theorem pn_3 : plainName "com/example/trailwright/trailwright/xml/XmlNames" = true := by first | (simp [plainName, overriddenIn]; done) | decide +kernel
theorem pd_3 : parseMethodDescriptor "([CII)I" = some ⟨[(.array .char), .int, .int], some .int⟩ := by decide +kernel
theorem ef_3 (m : MethodId) (x0 : Addr) (x1 : Int32) (x2 : Int32) : entryFrame m #[(.ref x0), (.int x1), (.int x2)] 4 = mkF m 0 #[.val (.ref x0), .val (.int x1), .val (.int x2), .unset] [] := by first | (simp [entryFrame, mkF, argsToLocals, Value.category]; done) | rfl
def Q3 (Z : State) (a1 : Addr) (p2 p3 : Int32) (k0 : ClassId) (vs : List Value) (a L0 : Nat) (x y w : Int32) (h0 : Heap) (n0 : Nat) (v : Option Value) (h : Heap) (L : List Loc) : Prop := v = some (.int (own_hash p3 x y w)) ∧ Fr n0 L ∧ h = h0
set_option maxRecDepth 65536 in
set_option maxHeartbeats 40000000 in
theorem rm3 (l : Launch) (Z : State) (a0 : Array Value) (hw : ∀ d ∈ tables_1, d.before a0 Z = true) (ws : List Jvm.Cond) (a1 : Addr) (p2 p3 : Int32) (k0 : ClassId) (vs : List Value) (a L0 : Nat) (x y w : Int32) (h0 : Heap) (n0 : Nat) (Z0 : n0 ≤ h0.size) (V0 : Arv Z h0 a1 k0 .char 16 vs (.int 0)) (hs : p2.toInt = a) (hl : p3.toInt = L0) (ha : a ≤ 7) (hL1 : 1 ≤ L0) (hL8 : L0 ≤ 8) (wx : vs.getD a (.int 0) = .int x) (ww : vs.getD (a + L0 / 2) (.int 0) = .int w) (wy : vs.getD (a + L0 - 1) (.int 0) = .int y) :
    MetFree l (⟨"com/example/trailwright/trailwright/xml/XmlNames", "set", "([CII)I"⟩ : MethodName) (head1 (Jvm.Cond.code (⟨"com/example/trailwright/trailwright/xml/XmlNames", "set", "([CII)I"⟩ : MethodName) prog_197_method_3_code 4 (some .int) :: ws) ({ frames := 0, cells := 0, slots := 0, locals := 0 } : Room)) (fun a U => a = #[(.ref a1), (.int p2), (.int p3)] ∧ Z.Warmed39 U.vm ∧ U.heap = h0) (fun _ _ _ _ _ => True) (fun _ U o U' => ∃ v L, o = .returned v ∧ Q3 Z a1 p2 p3 k0 vs a L0 x y w h0 n0 v U'.heap L ∧ FrameEnd U o U' L ({ frames := 0, cells := 0, slots := 0, locals := 0 } : Room).cells ({ frames := 0, cells := 0, slots := 0, locals := 0 } : Room).slots) := by
  refine MetFree.of_bodySF (plainFor_of_name pn_3) hisR ?_
  intro p e s m args below meth c s₁ Bd hml0 hP hK
  obtain ⟨rfl, hZ, hh⟩ := hP
  have hx := Bd.exec
  have hby := Bd.bytes
  have hml : c.maxLocals = 4 := hml0
  have hown : s.vm.findClass "com/example/trailwright/trailwright/xml/XmlNames" = some m.cls := findClass_of_methodNamed Bd.named
  have hnm := (name_of_methodNamed Bd.named Bd.method).1
  have X0 : Stand p l e ({ frames := 0, cells := 0, slots := 0, locals := 0 } : Room) s m #[(.ref a1), (.int p2), (.int p3)] below meth c s₁ [] 0 0 := Stand.of_body Bd
  have e0 : s₁.heap = h0 := by rw [← hh, Bd.state]; rfl
  have N0 := Fr.nil n0
  obtain ⟨F0, hF0⟩ : ∃ F0, F0 = entryFrame m #[(.ref a1), (.int p2), (.int p3)] 4 := ⟨_, rfl⟩
  have C0 : Go p e below s₁ (mkF m 0 #[.val (.ref a1), .val (.int p2), .val (.int p3), .unset] []) s₁ F0 := fun t k => by rw [hF0]; exact castTop (ef_3 m a1 p2 p3) k
  have pre0 : ∀ t, Steps p.tables e below (s₁.setTop F0) t → Steps p.tables e below (s₁.setTop (entryFrame m #[(.ref a1), (.int p2), (.int p3)] 4)) t := fun t k => by rw [← hF0]; exact k
  have hm := own_mid hs hl ha hL8
  have he := own_end hs hl ha hL1 hL8
  obtain ⟨cl0, Ar0, q0, S0, M0, H0, G0⟩ := V0
  have hi1 := own_in S0 hs (by omega)
  have hi2 := own_in S0 hm (by omega)
  have hi3 := own_in S0 he (by omega)
  have ha1 : cl0.slots[p2.toNatClampNeg]? = some (.int x) := H0.at hi1 (by rw [own_idx hs]; exact wx)
  have ha2 : cl0.slots[(p2 + (p3 >>> ((1 : Int32) &&& 31))).toNatClampNeg]? = some (.int w) := H0.at hi2 (by rw [own_idx hm]; exact ww)
  have ha3 : cl0.slots[((p2 + p3) - (1 : Int32)).toNatClampNeg]? = some (.int y) := H0.at hi3 (by rw [own_idx he]; exact wy)
  have C1 : Go p e below s₁ (mkF m 45 #[.val (.ref a1), .val (.int p2), .val (.int p3), .val (.int (((((p3 * (-1640531535 : Int32)) ^^^ (x * (31 : Int32))) ^^^ (y * (-2048144789 : Int32))) ^^^ (w * (-1028477387 : Int32))) ^^^ ((((((p3 * (-1640531535 : Int32)) ^^^ (x * (31 : Int32))) ^^^ (y * (-2048144789 : Int32))) ^^^ (w * (-1028477387 : Int32))).toUInt32 >>> ((15 : Int32) &&& 31).toUInt32).toInt32)))] [(.int ((((((p3 * (-1640531535 : Int32)) ^^^ (x * (31 : Int32))) ^^^ (y * (-2048144789 : Int32))) ^^^ (w * (-1028477387 : Int32))) ^^^ ((((((p3 * (-1640531535 : Int32)) ^^^ (x * (31 : Int32))) ^^^ (y * (-2048144789 : Int32))) ^^^ (w * (-1028477387 : Int32))).toUInt32 >>> ((15 : Int32) &&& 31).toUInt32).toInt32)) &&& (63 : Int32)))]) s₁ F0 := fun t k => C0 t (by
    refine XS.iloadN X0.here hx rfl (hb hby d3_0) rfl ?_
    show Steps p.tables e below (s₁.setTop (mkF m 1 #[.val (.ref a1), .val (.int p2), .val (.int p3), .unset] [(.int p3)])) _
    refine X0.ldcInt hx hown (mvT hZ (hw _ (List.mem_of_getElem? (i := 12) rfl))) (g := (mkF m 1 #[.val (.ref a1), .val (.int p2), .val (.int p3), .unset] [(.int p3)])) rfl (hb hby d3_1) _ ?_
    show Steps p.tables e below (s₁.setTop (mkF m 3 #[.val (.ref a1), .val (.int p2), .val (.int p3), .unset] [(.int (-1640531535 : Int32)), (.int p3)])) _
    refine XS.imul X0.here hx rfl (hb hby d3_3) rfl ?_
    show Steps p.tables e below (s₁.setTop (mkF m 4 #[.val (.ref a1), .val (.int p2), .val (.int p3), .unset] [(.int (p3 * (-1640531535 : Int32)))])) _
    refine XS.aloadN X0.here hx rfl (hb hby d3_4) rfl rfl ?_
    show Steps p.tables e below (s₁.setTop (mkF m 5 #[.val (.ref a1), .val (.int p2), .val (.int p3), .unset] [(.ref a1), (.int (p3 * (-1640531535 : Int32)))])) _
    refine XS.iloadN X0.here hx rfl (hb hby d3_5) rfl ?_
    show Steps p.tables e below (s₁.setTop (mkF m 6 #[.val (.ref a1), .val (.int p2), .val (.int p3), .unset] [(.int p2), (.ref a1), (.int (p3 * (-1640531535 : Int32)))])) _
    refine X0.caload hx (j := p2) (v := (.int x)) (by rw [e0]; exact Ar0.1) (State.isArrayOf_alike hZ.alike Ar0.2.1) Ar0.2.2 hi1 ha1 (g := (mkF m 6 #[.val (.ref a1), .val (.int p2), .val (.int p3), .unset] [(.int p2), (.ref a1), (.int (p3 * (-1640531535 : Int32)))])) rfl rfl (hb hby d3_6) _ ?_
    show Steps p.tables e below (s₁.setTop (mkF m 7 #[.val (.ref a1), .val (.int p2), .val (.int p3), .unset] [(.int x), (.int (p3 * (-1640531535 : Int32)))])) _
    refine XS.bipush X0.here hx rfl (hb hby d3_7) ?_
    show Steps p.tables e below (s₁.setTop (mkF m 9 #[.val (.ref a1), .val (.int p2), .val (.int p3), .unset] [(.int (31 : Int32)), (.int x), (.int (p3 * (-1640531535 : Int32)))])) _
    refine XS.imul X0.here hx rfl (hb hby d3_9) rfl ?_
    show Steps p.tables e below (s₁.setTop (mkF m 10 #[.val (.ref a1), .val (.int p2), .val (.int p3), .unset] [(.int (x * (31 : Int32))), (.int (p3 * (-1640531535 : Int32)))])) _
    refine XS.ixor X0.here hx rfl (hb hby d3_10) rfl ?_
    show Steps p.tables e below (s₁.setTop (mkF m 11 #[.val (.ref a1), .val (.int p2), .val (.int p3), .unset] [(.int ((p3 * (-1640531535 : Int32)) ^^^ (x * (31 : Int32))))])) _
    refine XS.aloadN X0.here hx rfl (hb hby d3_11) rfl rfl ?_
    show Steps p.tables e below (s₁.setTop (mkF m 12 #[.val (.ref a1), .val (.int p2), .val (.int p3), .unset] [(.ref a1), (.int ((p3 * (-1640531535 : Int32)) ^^^ (x * (31 : Int32))))])) _
    refine XS.iloadN X0.here hx rfl (hb hby d3_12) rfl ?_
    show Steps p.tables e below (s₁.setTop (mkF m 13 #[.val (.ref a1), .val (.int p2), .val (.int p3), .unset] [(.int p2), (.ref a1), (.int ((p3 * (-1640531535 : Int32)) ^^^ (x * (31 : Int32))))])) _
    refine XS.iloadN X0.here hx rfl (hb hby d3_13) rfl ?_
    show Steps p.tables e below (s₁.setTop (mkF m 14 #[.val (.ref a1), .val (.int p2), .val (.int p3), .unset] [(.int p3), (.int p2), (.ref a1), (.int ((p3 * (-1640531535 : Int32)) ^^^ (x * (31 : Int32))))])) _
    refine XS.iadd X0.here hx rfl (hb hby d3_14) rfl ?_
    show Steps p.tables e below (s₁.setTop (mkF m 15 #[.val (.ref a1), .val (.int p2), .val (.int p3), .unset] [(.int (p2 + p3)), (.ref a1), (.int ((p3 * (-1640531535 : Int32)) ^^^ (x * (31 : Int32))))])) _
    refine XS.iconst X0.here hx rfl (hb hby d3_15) ?_
    show Steps p.tables e below (s₁.setTop (mkF m 16 #[.val (.ref a1), .val (.int p2), .val (.int p3), .unset] [(.int (1 : Int32)), (.int (p2 + p3)), (.ref a1), (.int ((p3 * (-1640531535 : Int32)) ^^^ (x * (31 : Int32))))])) _
    refine XS.isub X0.here hx rfl (hb hby d3_16) rfl ?_
    show Steps p.tables e below (s₁.setTop (mkF m 17 #[.val (.ref a1), .val (.int p2), .val (.int p3), .unset] [(.int ((p2 + p3) - (1 : Int32))), (.ref a1), (.int ((p3 * (-1640531535 : Int32)) ^^^ (x * (31 : Int32))))])) _
    refine X0.caload hx (j := ((p2 + p3) - (1 : Int32))) (v := (.int y)) (by rw [e0]; exact Ar0.1) (State.isArrayOf_alike hZ.alike Ar0.2.1) Ar0.2.2 hi3 ha3 (g := (mkF m 17 #[.val (.ref a1), .val (.int p2), .val (.int p3), .unset] [(.int ((p2 + p3) - (1 : Int32))), (.ref a1), (.int ((p3 * (-1640531535 : Int32)) ^^^ (x * (31 : Int32))))])) rfl rfl (hb hby d3_17) _ ?_
    show Steps p.tables e below (s₁.setTop (mkF m 18 #[.val (.ref a1), .val (.int p2), .val (.int p3), .unset] [(.int y), (.int ((p3 * (-1640531535 : Int32)) ^^^ (x * (31 : Int32))))])) _
    refine X0.ldcInt hx hown (mvT hZ (hw _ (List.mem_of_getElem? (i := 13) rfl))) (g := (mkF m 18 #[.val (.ref a1), .val (.int p2), .val (.int p3), .unset] [(.int y), (.int ((p3 * (-1640531535 : Int32)) ^^^ (x * (31 : Int32))))])) rfl (hb hby d3_18) _ ?_
    show Steps p.tables e below (s₁.setTop (mkF m 20 #[.val (.ref a1), .val (.int p2), .val (.int p3), .unset] [(.int (-2048144789 : Int32)), (.int y), (.int ((p3 * (-1640531535 : Int32)) ^^^ (x * (31 : Int32))))])) _
    refine XS.imul X0.here hx rfl (hb hby d3_20) rfl ?_
    show Steps p.tables e below (s₁.setTop (mkF m 21 #[.val (.ref a1), .val (.int p2), .val (.int p3), .unset] [(.int (y * (-2048144789 : Int32))), (.int ((p3 * (-1640531535 : Int32)) ^^^ (x * (31 : Int32))))])) _
    refine XS.ixor X0.here hx rfl (hb hby d3_21) rfl ?_
    show Steps p.tables e below (s₁.setTop (mkF m 22 #[.val (.ref a1), .val (.int p2), .val (.int p3), .unset] [(.int (((p3 * (-1640531535 : Int32)) ^^^ (x * (31 : Int32))) ^^^ (y * (-2048144789 : Int32))))])) _
    refine XS.aloadN X0.here hx rfl (hb hby d3_22) rfl rfl ?_
    show Steps p.tables e below (s₁.setTop (mkF m 23 #[.val (.ref a1), .val (.int p2), .val (.int p3), .unset] [(.ref a1), (.int (((p3 * (-1640531535 : Int32)) ^^^ (x * (31 : Int32))) ^^^ (y * (-2048144789 : Int32))))])) _
    refine XS.iloadN X0.here hx rfl (hb hby d3_23) rfl ?_
    show Steps p.tables e below (s₁.setTop (mkF m 24 #[.val (.ref a1), .val (.int p2), .val (.int p3), .unset] [(.int p2), (.ref a1), (.int (((p3 * (-1640531535 : Int32)) ^^^ (x * (31 : Int32))) ^^^ (y * (-2048144789 : Int32))))])) _
    refine XS.iloadN X0.here hx rfl (hb hby d3_24) rfl ?_
    show Steps p.tables e below (s₁.setTop (mkF m 25 #[.val (.ref a1), .val (.int p2), .val (.int p3), .unset] [(.int p3), (.int p2), (.ref a1), (.int (((p3 * (-1640531535 : Int32)) ^^^ (x * (31 : Int32))) ^^^ (y * (-2048144789 : Int32))))])) _
    refine XS.iconst X0.here hx rfl (hb hby d3_25) ?_
    show Steps p.tables e below (s₁.setTop (mkF m 26 #[.val (.ref a1), .val (.int p2), .val (.int p3), .unset] [(.int (1 : Int32)), (.int p3), (.int p2), (.ref a1), (.int (((p3 * (-1640531535 : Int32)) ^^^ (x * (31 : Int32))) ^^^ (y * (-2048144789 : Int32))))])) _
    refine XS.ishr X0.here hx rfl (hb hby d3_26) rfl ?_
    show Steps p.tables e below (s₁.setTop (mkF m 27 #[.val (.ref a1), .val (.int p2), .val (.int p3), .unset] [(.int (p3 >>> ((1 : Int32) &&& 31))), (.int p2), (.ref a1), (.int (((p3 * (-1640531535 : Int32)) ^^^ (x * (31 : Int32))) ^^^ (y * (-2048144789 : Int32))))])) _
    refine XS.iadd X0.here hx rfl (hb hby d3_27) rfl ?_
    show Steps p.tables e below (s₁.setTop (mkF m 28 #[.val (.ref a1), .val (.int p2), .val (.int p3), .unset] [(.int (p2 + (p3 >>> ((1 : Int32) &&& 31)))), (.ref a1), (.int (((p3 * (-1640531535 : Int32)) ^^^ (x * (31 : Int32))) ^^^ (y * (-2048144789 : Int32))))])) _
    refine X0.caload hx (j := (p2 + (p3 >>> ((1 : Int32) &&& 31)))) (v := (.int w)) (by rw [e0]; exact Ar0.1) (State.isArrayOf_alike hZ.alike Ar0.2.1) Ar0.2.2 hi2 ha2 (g := (mkF m 28 #[.val (.ref a1), .val (.int p2), .val (.int p3), .unset] [(.int (p2 + (p3 >>> ((1 : Int32) &&& 31)))), (.ref a1), (.int (((p3 * (-1640531535 : Int32)) ^^^ (x * (31 : Int32))) ^^^ (y * (-2048144789 : Int32))))])) rfl rfl (hb hby d3_28) _ ?_
    show Steps p.tables e below (s₁.setTop (mkF m 29 #[.val (.ref a1), .val (.int p2), .val (.int p3), .unset] [(.int w), (.int (((p3 * (-1640531535 : Int32)) ^^^ (x * (31 : Int32))) ^^^ (y * (-2048144789 : Int32))))])) _
    refine X0.ldcInt hx hown (mvT hZ (hw _ (List.mem_of_getElem? (i := 14) rfl))) (g := (mkF m 29 #[.val (.ref a1), .val (.int p2), .val (.int p3), .unset] [(.int w), (.int (((p3 * (-1640531535 : Int32)) ^^^ (x * (31 : Int32))) ^^^ (y * (-2048144789 : Int32))))])) rfl (hb hby d3_29) _ ?_
    show Steps p.tables e below (s₁.setTop (mkF m 31 #[.val (.ref a1), .val (.int p2), .val (.int p3), .unset] [(.int (-1028477387 : Int32)), (.int w), (.int (((p3 * (-1640531535 : Int32)) ^^^ (x * (31 : Int32))) ^^^ (y * (-2048144789 : Int32))))])) _
    refine XS.imul X0.here hx rfl (hb hby d3_31) rfl ?_
    show Steps p.tables e below (s₁.setTop (mkF m 32 #[.val (.ref a1), .val (.int p2), .val (.int p3), .unset] [(.int (w * (-1028477387 : Int32))), (.int (((p3 * (-1640531535 : Int32)) ^^^ (x * (31 : Int32))) ^^^ (y * (-2048144789 : Int32))))])) _
    refine XS.ixor X0.here hx rfl (hb hby d3_32) rfl ?_
    show Steps p.tables e below (s₁.setTop (mkF m 33 #[.val (.ref a1), .val (.int p2), .val (.int p3), .unset] [(.int ((((p3 * (-1640531535 : Int32)) ^^^ (x * (31 : Int32))) ^^^ (y * (-2048144789 : Int32))) ^^^ (w * (-1028477387 : Int32))))])) _
    refine XS.istoreN X0.here hx rfl (hb hby d3_33) rfl (l' := #[.val (.ref a1), .val (.int p2), .val (.int p3), .val (.int ((((p3 * (-1640531535 : Int32)) ^^^ (x * (31 : Int32))) ^^^ (y * (-2048144789 : Int32))) ^^^ (w * (-1028477387 : Int32))))]) rfl ?_
    show Steps p.tables e below (s₁.setTop (mkF m 34 #[.val (.ref a1), .val (.int p2), .val (.int p3), .val (.int ((((p3 * (-1640531535 : Int32)) ^^^ (x * (31 : Int32))) ^^^ (y * (-2048144789 : Int32))) ^^^ (w * (-1028477387 : Int32))))] [])) _
    refine XS.iloadN X0.here hx rfl (hb hby d3_34) rfl ?_
    show Steps p.tables e below (s₁.setTop (mkF m 35 #[.val (.ref a1), .val (.int p2), .val (.int p3), .val (.int ((((p3 * (-1640531535 : Int32)) ^^^ (x * (31 : Int32))) ^^^ (y * (-2048144789 : Int32))) ^^^ (w * (-1028477387 : Int32))))] [(.int ((((p3 * (-1640531535 : Int32)) ^^^ (x * (31 : Int32))) ^^^ (y * (-2048144789 : Int32))) ^^^ (w * (-1028477387 : Int32))))])) _
    refine XS.iloadN X0.here hx rfl (hb hby d3_35) rfl ?_
    show Steps p.tables e below (s₁.setTop (mkF m 36 #[.val (.ref a1), .val (.int p2), .val (.int p3), .val (.int ((((p3 * (-1640531535 : Int32)) ^^^ (x * (31 : Int32))) ^^^ (y * (-2048144789 : Int32))) ^^^ (w * (-1028477387 : Int32))))] [(.int ((((p3 * (-1640531535 : Int32)) ^^^ (x * (31 : Int32))) ^^^ (y * (-2048144789 : Int32))) ^^^ (w * (-1028477387 : Int32)))), (.int ((((p3 * (-1640531535 : Int32)) ^^^ (x * (31 : Int32))) ^^^ (y * (-2048144789 : Int32))) ^^^ (w * (-1028477387 : Int32))))])) _
    refine XS.bipush X0.here hx rfl (hb hby d3_36) ?_
    show Steps p.tables e below (s₁.setTop (mkF m 38 #[.val (.ref a1), .val (.int p2), .val (.int p3), .val (.int ((((p3 * (-1640531535 : Int32)) ^^^ (x * (31 : Int32))) ^^^ (y * (-2048144789 : Int32))) ^^^ (w * (-1028477387 : Int32))))] [(.int (15 : Int32)), (.int ((((p3 * (-1640531535 : Int32)) ^^^ (x * (31 : Int32))) ^^^ (y * (-2048144789 : Int32))) ^^^ (w * (-1028477387 : Int32)))), (.int ((((p3 * (-1640531535 : Int32)) ^^^ (x * (31 : Int32))) ^^^ (y * (-2048144789 : Int32))) ^^^ (w * (-1028477387 : Int32))))])) _
    refine XS.iushr X0.here hx rfl (hb hby d3_38) rfl ?_
    show Steps p.tables e below (s₁.setTop (mkF m 39 #[.val (.ref a1), .val (.int p2), .val (.int p3), .val (.int ((((p3 * (-1640531535 : Int32)) ^^^ (x * (31 : Int32))) ^^^ (y * (-2048144789 : Int32))) ^^^ (w * (-1028477387 : Int32))))] [(.int ((((((p3 * (-1640531535 : Int32)) ^^^ (x * (31 : Int32))) ^^^ (y * (-2048144789 : Int32))) ^^^ (w * (-1028477387 : Int32))).toUInt32 >>> ((15 : Int32) &&& 31).toUInt32).toInt32)), (.int ((((p3 * (-1640531535 : Int32)) ^^^ (x * (31 : Int32))) ^^^ (y * (-2048144789 : Int32))) ^^^ (w * (-1028477387 : Int32))))])) _
    refine XS.ixor X0.here hx rfl (hb hby d3_39) rfl ?_
    show Steps p.tables e below (s₁.setTop (mkF m 40 #[.val (.ref a1), .val (.int p2), .val (.int p3), .val (.int ((((p3 * (-1640531535 : Int32)) ^^^ (x * (31 : Int32))) ^^^ (y * (-2048144789 : Int32))) ^^^ (w * (-1028477387 : Int32))))] [(.int (((((p3 * (-1640531535 : Int32)) ^^^ (x * (31 : Int32))) ^^^ (y * (-2048144789 : Int32))) ^^^ (w * (-1028477387 : Int32))) ^^^ ((((((p3 * (-1640531535 : Int32)) ^^^ (x * (31 : Int32))) ^^^ (y * (-2048144789 : Int32))) ^^^ (w * (-1028477387 : Int32))).toUInt32 >>> ((15 : Int32) &&& 31).toUInt32).toInt32)))])) _
    refine XS.istoreN X0.here hx rfl (hb hby d3_40) rfl (l' := #[.val (.ref a1), .val (.int p2), .val (.int p3), .val (.int (((((p3 * (-1640531535 : Int32)) ^^^ (x * (31 : Int32))) ^^^ (y * (-2048144789 : Int32))) ^^^ (w * (-1028477387 : Int32))) ^^^ ((((((p3 * (-1640531535 : Int32)) ^^^ (x * (31 : Int32))) ^^^ (y * (-2048144789 : Int32))) ^^^ (w * (-1028477387 : Int32))).toUInt32 >>> ((15 : Int32) &&& 31).toUInt32).toInt32)))]) rfl ?_
    show Steps p.tables e below (s₁.setTop (mkF m 41 #[.val (.ref a1), .val (.int p2), .val (.int p3), .val (.int (((((p3 * (-1640531535 : Int32)) ^^^ (x * (31 : Int32))) ^^^ (y * (-2048144789 : Int32))) ^^^ (w * (-1028477387 : Int32))) ^^^ ((((((p3 * (-1640531535 : Int32)) ^^^ (x * (31 : Int32))) ^^^ (y * (-2048144789 : Int32))) ^^^ (w * (-1028477387 : Int32))).toUInt32 >>> ((15 : Int32) &&& 31).toUInt32).toInt32)))] [])) _
    refine XS.iloadN X0.here hx rfl (hb hby d3_41) rfl ?_
    show Steps p.tables e below (s₁.setTop (mkF m 42 #[.val (.ref a1), .val (.int p2), .val (.int p3), .val (.int (((((p3 * (-1640531535 : Int32)) ^^^ (x * (31 : Int32))) ^^^ (y * (-2048144789 : Int32))) ^^^ (w * (-1028477387 : Int32))) ^^^ ((((((p3 * (-1640531535 : Int32)) ^^^ (x * (31 : Int32))) ^^^ (y * (-2048144789 : Int32))) ^^^ (w * (-1028477387 : Int32))).toUInt32 >>> ((15 : Int32) &&& 31).toUInt32).toInt32)))] [(.int (((((p3 * (-1640531535 : Int32)) ^^^ (x * (31 : Int32))) ^^^ (y * (-2048144789 : Int32))) ^^^ (w * (-1028477387 : Int32))) ^^^ ((((((p3 * (-1640531535 : Int32)) ^^^ (x * (31 : Int32))) ^^^ (y * (-2048144789 : Int32))) ^^^ (w * (-1028477387 : Int32))).toUInt32 >>> ((15 : Int32) &&& 31).toUInt32).toInt32)))])) _
    refine XS.bipush X0.here hx rfl (hb hby d3_42) ?_
    show Steps p.tables e below (s₁.setTop (mkF m 44 #[.val (.ref a1), .val (.int p2), .val (.int p3), .val (.int (((((p3 * (-1640531535 : Int32)) ^^^ (x * (31 : Int32))) ^^^ (y * (-2048144789 : Int32))) ^^^ (w * (-1028477387 : Int32))) ^^^ ((((((p3 * (-1640531535 : Int32)) ^^^ (x * (31 : Int32))) ^^^ (y * (-2048144789 : Int32))) ^^^ (w * (-1028477387 : Int32))).toUInt32 >>> ((15 : Int32) &&& 31).toUInt32).toInt32)))] [(.int (63 : Int32)), (.int (((((p3 * (-1640531535 : Int32)) ^^^ (x * (31 : Int32))) ^^^ (y * (-2048144789 : Int32))) ^^^ (w * (-1028477387 : Int32))) ^^^ ((((((p3 * (-1640531535 : Int32)) ^^^ (x * (31 : Int32))) ^^^ (y * (-2048144789 : Int32))) ^^^ (w * (-1028477387 : Int32))).toUInt32 >>> ((15 : Int32) &&& 31).toUInt32).toInt32)))])) _
    refine XS.iand X0.here hx rfl (hb hby d3_44) rfl ?_
    exact k)
  obtain ⟨fs, hr, hrun, hended, hW, hsame⟩ := X0.leave (v := (some (.int ((((((p3 * (-1640531535 : Int32)) ^^^ (x * (31 : Int32))) ^^^ (y * (-2048144789 : Int32))) ^^^ (w * (-1028477387 : Int32))) ^^^ ((((((p3 * (-1640531535 : Int32)) ^^^ (x * (31 : Int32))) ^^^ (y * (-2048144789 : Int32))) ^^^ (w * (-1028477387 : Int32))).toUInt32 >>> ((15 : Int32) &&& 31).toUInt32).toInt32)) &&& (63 : Int32))))) (fun h => by rw [Bd.returns] at h; cases h)
  refine ⟨_, _, pre0 _ (C1 _ ?_), hrun, hended, _, _, rfl, ?_, ⟨_, rfl⟩, hW, hsame.mono (by decide) (by decide)⟩
  · exact retI X0 hx Bd.returns (hb hby d3_45) hr
  · show Q3 Z a1 p2 p3 k0 vs a L0 x y w h0 n0 _ s₁.heap _
    rw [e0]
    exact ⟨rfl, N0, rfl⟩
theorem pn_0 : plainName "com/example/trailwright/trailwright/xml/XmlNamesSetPinLaw" = true := by first | (simp [plainName, overriddenIn]; done) | decide +kernel
theorem pd_0 : parseMethodDescriptor "(IIIII)Z" = some ⟨[.int, .int, .int, .int, .int], some .boolean⟩ := by decide +kernel
theorem ef_0 (m : MethodId) (x0 : Int32) (x1 : Int32) (x2 : Int32) (x3 : Int32) (x4 : Int32) : entryFrame m #[(.int x0), (.int x1), (.int x2), (.int x3), (.int x4)] maxLocals = mkF m 0 #[.val (.int x0), .val (.int x1), .val (.int x2), .val (.int x3), .val (.int x4), .unset, .unset, .unset, .unset, .unset, .unset, .unset, .unset, .unset, .unset] [] := by first | (simp [entryFrame, mkF, argsToLocals, Value.category, maxLocals]; done) | rfl
def Q0 (Z : State) (p1 p2 p3 p4 p5 : Int32) (h0 : Heap) (n0 : Nat) (v : Option Value) (h : Heap) (L : List Loc) : Prop := v = some (.int 1) ∧ Fr n0 L
set_option maxRecDepth 65536 in
set_option maxHeartbeats 40000000 in
theorem rm0 (l : Launch) (Z : State) (a0 : Array Value) (hw : ∀ d ∈ tables_1, d.before a0 Z = true) (ws : List Jvm.Cond) (p1 p2 p3 p4 p5 : Int32) (h0 : Heap) (n0 : Nat) (Z0 : n0 ≤ h0.size)  :
    MetFree l x (head1 (Jvm.Cond.code x code maxLocals ret :: ws) room_1) (fun a U => a = #[(.int p1), (.int p2), (.int p3), (.int p4), (.int p5)] ∧ Z.Warmed39 U.vm ∧ U.heap = h0) (fun _ _ _ _ _ => True) (fun _ U o U' => ∃ v L, o = .returned v ∧ Q0 Z p1 p2 p3 p4 p5 h0 n0 v U'.heap L ∧ FrameEnd U o U' L room_1.cells room_1.slots) := by
  refine MetFree.of_bodySF (plainFor_of_name pn_0) hisR ?_
  intro p e s m args below meth c s₁ Bd hml0 hP hK
  obtain ⟨rfl, hZ, hh⟩ := hP
  have hx := Bd.exec
  have hby := Bd.bytes
  have hml : c.maxLocals = 15 := hml0
  have hown : s.vm.findClass "com/example/trailwright/trailwright/xml/XmlNamesSetPinLaw" = some m.cls := findClass_of_methodNamed Bd.named
  have hnm := (name_of_methodNamed Bd.named Bd.method).1
  have X0 : Stand p l e room_1 s m #[(.int p1), (.int p2), (.int p3), (.int p4), (.int p5)] below meth c s₁ [] 0 0 := Stand.of_body Bd
  have e0 : s₁.heap = h0 := by rw [← hh, Bd.state]; rfl
  have N0 := Fr.nil n0
  obtain ⟨F0, hF0⟩ : ∃ F0, F0 = entryFrame m #[(.int p1), (.int p2), (.int p3), (.int p4), (.int p5)] maxLocals := ⟨_, rfl⟩
  have C0 : Go p e below s₁ (mkF m 0 #[.val (.int p1), .val (.int p2), .val (.int p3), .val (.int p4), .val (.int p5), .unset, .unset, .unset, .unset, .unset, .unset, .unset, .unset, .unset, .unset] []) s₁ F0 := fun t k => by rw [hF0]; exact castTop (ef_0 m p1 p2 p3 p4 p5) k
  have pre0 : ∀ t, Steps p.tables e below (s₁.setTop F0) t → Steps p.tables e below (s₁.setTop (entryFrame m #[(.int p1), (.int p2), (.int p3), (.int p4), (.int p5)] maxLocals)) t := fun t k => by rw [← hF0]; exact k
  have C1 : Go p e below s₁ (mkF m 41 #[.val (.int p1), .val (.int p2), .val (.int p3), .val (.int p4), .val (.int p5), .val (.int (p1 &&& (7 : Int32))), .val (.int ((1 : Int32) + (((p1.toUInt32 >>> ((3 : Int32) &&& 31).toUInt32).toInt32) &&& (7 : Int32)))), .val (.int (((p1.toUInt32 >>> ((6 : Int32) &&& 31).toUInt32).toInt32) &&& (7 : Int32))), .val (.int (p2.toUInt32.toUInt16.toUInt32.toInt32)), .val (.int (((p2.toUInt32 >>> ((16 : Int32) &&& 31).toUInt32).toInt32).toUInt32.toUInt16.toUInt32.toInt32)), .val (.int (p3.toUInt32.toUInt16.toUInt32.toInt32)), .unset, .unset, .unset, .unset] [(.int p4)]) s₁ F0 := fun t k => C0 t (by
    refine XS.iloadN X0.here hx rfl (hb hby at_0) rfl ?_
    show Steps p.tables e below (s₁.setTop (mkF m 1 #[.val (.int p1), .val (.int p2), .val (.int p3), .val (.int p4), .val (.int p5), .unset, .unset, .unset, .unset, .unset, .unset, .unset, .unset, .unset, .unset] [(.int p1)])) _
    refine XS.bipush X0.here hx rfl (hb hby at_1) ?_
    show Steps p.tables e below (s₁.setTop (mkF m 3 #[.val (.int p1), .val (.int p2), .val (.int p3), .val (.int p4), .val (.int p5), .unset, .unset, .unset, .unset, .unset, .unset, .unset, .unset, .unset, .unset] [(.int (7 : Int32)), (.int p1)])) _
    refine XS.iand X0.here hx rfl (hb hby at_3) rfl ?_
    show Steps p.tables e below (s₁.setTop (mkF m 4 #[.val (.int p1), .val (.int p2), .val (.int p3), .val (.int p4), .val (.int p5), .unset, .unset, .unset, .unset, .unset, .unset, .unset, .unset, .unset, .unset] [(.int (p1 &&& (7 : Int32)))])) _
    refine XS.istore X0.here hx rfl (hb hby at_4) rfl (l' := #[.val (.int p1), .val (.int p2), .val (.int p3), .val (.int p4), .val (.int p5), .val (.int (p1 &&& (7 : Int32))), .unset, .unset, .unset, .unset, .unset, .unset, .unset, .unset, .unset]) rfl ?_
    show Steps p.tables e below (s₁.setTop (mkF m 6 #[.val (.int p1), .val (.int p2), .val (.int p3), .val (.int p4), .val (.int p5), .val (.int (p1 &&& (7 : Int32))), .unset, .unset, .unset, .unset, .unset, .unset, .unset, .unset, .unset] [])) _
    refine XS.iconst X0.here hx rfl (hb hby at_6) ?_
    show Steps p.tables e below (s₁.setTop (mkF m 7 #[.val (.int p1), .val (.int p2), .val (.int p3), .val (.int p4), .val (.int p5), .val (.int (p1 &&& (7 : Int32))), .unset, .unset, .unset, .unset, .unset, .unset, .unset, .unset, .unset] [(.int (1 : Int32))])) _
    refine XS.iloadN X0.here hx rfl (hb hby at_7) rfl ?_
    show Steps p.tables e below (s₁.setTop (mkF m 8 #[.val (.int p1), .val (.int p2), .val (.int p3), .val (.int p4), .val (.int p5), .val (.int (p1 &&& (7 : Int32))), .unset, .unset, .unset, .unset, .unset, .unset, .unset, .unset, .unset] [(.int p1), (.int (1 : Int32))])) _
    refine XS.iconst X0.here hx rfl (hb hby at_8) ?_
    show Steps p.tables e below (s₁.setTop (mkF m 9 #[.val (.int p1), .val (.int p2), .val (.int p3), .val (.int p4), .val (.int p5), .val (.int (p1 &&& (7 : Int32))), .unset, .unset, .unset, .unset, .unset, .unset, .unset, .unset, .unset] [(.int (3 : Int32)), (.int p1), (.int (1 : Int32))])) _
    refine XS.iushr X0.here hx rfl (hb hby at_9) rfl ?_
    show Steps p.tables e below (s₁.setTop (mkF m 10 #[.val (.int p1), .val (.int p2), .val (.int p3), .val (.int p4), .val (.int p5), .val (.int (p1 &&& (7 : Int32))), .unset, .unset, .unset, .unset, .unset, .unset, .unset, .unset, .unset] [(.int ((p1.toUInt32 >>> ((3 : Int32) &&& 31).toUInt32).toInt32)), (.int (1 : Int32))])) _
    refine XS.bipush X0.here hx rfl (hb hby at_10) ?_
    show Steps p.tables e below (s₁.setTop (mkF m 12 #[.val (.int p1), .val (.int p2), .val (.int p3), .val (.int p4), .val (.int p5), .val (.int (p1 &&& (7 : Int32))), .unset, .unset, .unset, .unset, .unset, .unset, .unset, .unset, .unset] [(.int (7 : Int32)), (.int ((p1.toUInt32 >>> ((3 : Int32) &&& 31).toUInt32).toInt32)), (.int (1 : Int32))])) _
    refine XS.iand X0.here hx rfl (hb hby at_12) rfl ?_
    show Steps p.tables e below (s₁.setTop (mkF m 13 #[.val (.int p1), .val (.int p2), .val (.int p3), .val (.int p4), .val (.int p5), .val (.int (p1 &&& (7 : Int32))), .unset, .unset, .unset, .unset, .unset, .unset, .unset, .unset, .unset] [(.int (((p1.toUInt32 >>> ((3 : Int32) &&& 31).toUInt32).toInt32) &&& (7 : Int32))), (.int (1 : Int32))])) _
    refine XS.iadd X0.here hx rfl (hb hby at_13) rfl ?_
    show Steps p.tables e below (s₁.setTop (mkF m 14 #[.val (.int p1), .val (.int p2), .val (.int p3), .val (.int p4), .val (.int p5), .val (.int (p1 &&& (7 : Int32))), .unset, .unset, .unset, .unset, .unset, .unset, .unset, .unset, .unset] [(.int ((1 : Int32) + (((p1.toUInt32 >>> ((3 : Int32) &&& 31).toUInt32).toInt32) &&& (7 : Int32))))])) _
    refine XS.istore X0.here hx rfl (hb hby at_14) rfl (l' := #[.val (.int p1), .val (.int p2), .val (.int p3), .val (.int p4), .val (.int p5), .val (.int (p1 &&& (7 : Int32))), .val (.int ((1 : Int32) + (((p1.toUInt32 >>> ((3 : Int32) &&& 31).toUInt32).toInt32) &&& (7 : Int32)))), .unset, .unset, .unset, .unset, .unset, .unset, .unset, .unset]) rfl ?_
    show Steps p.tables e below (s₁.setTop (mkF m 16 #[.val (.int p1), .val (.int p2), .val (.int p3), .val (.int p4), .val (.int p5), .val (.int (p1 &&& (7 : Int32))), .val (.int ((1 : Int32) + (((p1.toUInt32 >>> ((3 : Int32) &&& 31).toUInt32).toInt32) &&& (7 : Int32)))), .unset, .unset, .unset, .unset, .unset, .unset, .unset, .unset] [])) _
    refine XS.iloadN X0.here hx rfl (hb hby at_16) rfl ?_
    show Steps p.tables e below (s₁.setTop (mkF m 17 #[.val (.int p1), .val (.int p2), .val (.int p3), .val (.int p4), .val (.int p5), .val (.int (p1 &&& (7 : Int32))), .val (.int ((1 : Int32) + (((p1.toUInt32 >>> ((3 : Int32) &&& 31).toUInt32).toInt32) &&& (7 : Int32)))), .unset, .unset, .unset, .unset, .unset, .unset, .unset, .unset] [(.int p1)])) _
    refine XS.bipush X0.here hx rfl (hb hby at_17) ?_
    show Steps p.tables e below (s₁.setTop (mkF m 19 #[.val (.int p1), .val (.int p2), .val (.int p3), .val (.int p4), .val (.int p5), .val (.int (p1 &&& (7 : Int32))), .val (.int ((1 : Int32) + (((p1.toUInt32 >>> ((3 : Int32) &&& 31).toUInt32).toInt32) &&& (7 : Int32)))), .unset, .unset, .unset, .unset, .unset, .unset, .unset, .unset] [(.int (6 : Int32)), (.int p1)])) _
    refine XS.iushr X0.here hx rfl (hb hby at_19) rfl ?_
    show Steps p.tables e below (s₁.setTop (mkF m 20 #[.val (.int p1), .val (.int p2), .val (.int p3), .val (.int p4), .val (.int p5), .val (.int (p1 &&& (7 : Int32))), .val (.int ((1 : Int32) + (((p1.toUInt32 >>> ((3 : Int32) &&& 31).toUInt32).toInt32) &&& (7 : Int32)))), .unset, .unset, .unset, .unset, .unset, .unset, .unset, .unset] [(.int ((p1.toUInt32 >>> ((6 : Int32) &&& 31).toUInt32).toInt32))])) _
    refine XS.bipush X0.here hx rfl (hb hby at_20) ?_
    show Steps p.tables e below (s₁.setTop (mkF m 22 #[.val (.int p1), .val (.int p2), .val (.int p3), .val (.int p4), .val (.int p5), .val (.int (p1 &&& (7 : Int32))), .val (.int ((1 : Int32) + (((p1.toUInt32 >>> ((3 : Int32) &&& 31).toUInt32).toInt32) &&& (7 : Int32)))), .unset, .unset, .unset, .unset, .unset, .unset, .unset, .unset] [(.int (7 : Int32)), (.int ((p1.toUInt32 >>> ((6 : Int32) &&& 31).toUInt32).toInt32))])) _
    refine XS.iand X0.here hx rfl (hb hby at_22) rfl ?_
    show Steps p.tables e below (s₁.setTop (mkF m 23 #[.val (.int p1), .val (.int p2), .val (.int p3), .val (.int p4), .val (.int p5), .val (.int (p1 &&& (7 : Int32))), .val (.int ((1 : Int32) + (((p1.toUInt32 >>> ((3 : Int32) &&& 31).toUInt32).toInt32) &&& (7 : Int32)))), .unset, .unset, .unset, .unset, .unset, .unset, .unset, .unset] [(.int (((p1.toUInt32 >>> ((6 : Int32) &&& 31).toUInt32).toInt32) &&& (7 : Int32)))])) _
    refine XS.istore X0.here hx rfl (hb hby at_23) rfl (l' := #[.val (.int p1), .val (.int p2), .val (.int p3), .val (.int p4), .val (.int p5), .val (.int (p1 &&& (7 : Int32))), .val (.int ((1 : Int32) + (((p1.toUInt32 >>> ((3 : Int32) &&& 31).toUInt32).toInt32) &&& (7 : Int32)))), .val (.int (((p1.toUInt32 >>> ((6 : Int32) &&& 31).toUInt32).toInt32) &&& (7 : Int32))), .unset, .unset, .unset, .unset, .unset, .unset, .unset]) rfl ?_
    show Steps p.tables e below (s₁.setTop (mkF m 25 #[.val (.int p1), .val (.int p2), .val (.int p3), .val (.int p4), .val (.int p5), .val (.int (p1 &&& (7 : Int32))), .val (.int ((1 : Int32) + (((p1.toUInt32 >>> ((3 : Int32) &&& 31).toUInt32).toInt32) &&& (7 : Int32)))), .val (.int (((p1.toUInt32 >>> ((6 : Int32) &&& 31).toUInt32).toInt32) &&& (7 : Int32))), .unset, .unset, .unset, .unset, .unset, .unset, .unset] [])) _
    refine XS.iloadN X0.here hx rfl (hb hby at_25) rfl ?_
    show Steps p.tables e below (s₁.setTop (mkF m 26 #[.val (.int p1), .val (.int p2), .val (.int p3), .val (.int p4), .val (.int p5), .val (.int (p1 &&& (7 : Int32))), .val (.int ((1 : Int32) + (((p1.toUInt32 >>> ((3 : Int32) &&& 31).toUInt32).toInt32) &&& (7 : Int32)))), .val (.int (((p1.toUInt32 >>> ((6 : Int32) &&& 31).toUInt32).toInt32) &&& (7 : Int32))), .unset, .unset, .unset, .unset, .unset, .unset, .unset] [(.int p2)])) _
    refine XS.i2c X0.here hx rfl (hb hby at_26) rfl ?_
    show Steps p.tables e below (s₁.setTop (mkF m 27 #[.val (.int p1), .val (.int p2), .val (.int p3), .val (.int p4), .val (.int p5), .val (.int (p1 &&& (7 : Int32))), .val (.int ((1 : Int32) + (((p1.toUInt32 >>> ((3 : Int32) &&& 31).toUInt32).toInt32) &&& (7 : Int32)))), .val (.int (((p1.toUInt32 >>> ((6 : Int32) &&& 31).toUInt32).toInt32) &&& (7 : Int32))), .unset, .unset, .unset, .unset, .unset, .unset, .unset] [(.int (p2.toUInt32.toUInt16.toUInt32.toInt32))])) _
    refine XS.istore X0.here hx rfl (hb hby at_27) rfl (l' := #[.val (.int p1), .val (.int p2), .val (.int p3), .val (.int p4), .val (.int p5), .val (.int (p1 &&& (7 : Int32))), .val (.int ((1 : Int32) + (((p1.toUInt32 >>> ((3 : Int32) &&& 31).toUInt32).toInt32) &&& (7 : Int32)))), .val (.int (((p1.toUInt32 >>> ((6 : Int32) &&& 31).toUInt32).toInt32) &&& (7 : Int32))), .val (.int (p2.toUInt32.toUInt16.toUInt32.toInt32)), .unset, .unset, .unset, .unset, .unset, .unset]) rfl ?_
    show Steps p.tables e below (s₁.setTop (mkF m 29 #[.val (.int p1), .val (.int p2), .val (.int p3), .val (.int p4), .val (.int p5), .val (.int (p1 &&& (7 : Int32))), .val (.int ((1 : Int32) + (((p1.toUInt32 >>> ((3 : Int32) &&& 31).toUInt32).toInt32) &&& (7 : Int32)))), .val (.int (((p1.toUInt32 >>> ((6 : Int32) &&& 31).toUInt32).toInt32) &&& (7 : Int32))), .val (.int (p2.toUInt32.toUInt16.toUInt32.toInt32)), .unset, .unset, .unset, .unset, .unset, .unset] [])) _
    refine XS.iloadN X0.here hx rfl (hb hby at_29) rfl ?_
    show Steps p.tables e below (s₁.setTop (mkF m 30 #[.val (.int p1), .val (.int p2), .val (.int p3), .val (.int p4), .val (.int p5), .val (.int (p1 &&& (7 : Int32))), .val (.int ((1 : Int32) + (((p1.toUInt32 >>> ((3 : Int32) &&& 31).toUInt32).toInt32) &&& (7 : Int32)))), .val (.int (((p1.toUInt32 >>> ((6 : Int32) &&& 31).toUInt32).toInt32) &&& (7 : Int32))), .val (.int (p2.toUInt32.toUInt16.toUInt32.toInt32)), .unset, .unset, .unset, .unset, .unset, .unset] [(.int p2)])) _
    refine XS.bipush X0.here hx rfl (hb hby at_30) ?_
    show Steps p.tables e below (s₁.setTop (mkF m 32 #[.val (.int p1), .val (.int p2), .val (.int p3), .val (.int p4), .val (.int p5), .val (.int (p1 &&& (7 : Int32))), .val (.int ((1 : Int32) + (((p1.toUInt32 >>> ((3 : Int32) &&& 31).toUInt32).toInt32) &&& (7 : Int32)))), .val (.int (((p1.toUInt32 >>> ((6 : Int32) &&& 31).toUInt32).toInt32) &&& (7 : Int32))), .val (.int (p2.toUInt32.toUInt16.toUInt32.toInt32)), .unset, .unset, .unset, .unset, .unset, .unset] [(.int (16 : Int32)), (.int p2)])) _
    refine XS.iushr X0.here hx rfl (hb hby at_32) rfl ?_
    show Steps p.tables e below (s₁.setTop (mkF m 33 #[.val (.int p1), .val (.int p2), .val (.int p3), .val (.int p4), .val (.int p5), .val (.int (p1 &&& (7 : Int32))), .val (.int ((1 : Int32) + (((p1.toUInt32 >>> ((3 : Int32) &&& 31).toUInt32).toInt32) &&& (7 : Int32)))), .val (.int (((p1.toUInt32 >>> ((6 : Int32) &&& 31).toUInt32).toInt32) &&& (7 : Int32))), .val (.int (p2.toUInt32.toUInt16.toUInt32.toInt32)), .unset, .unset, .unset, .unset, .unset, .unset] [(.int ((p2.toUInt32 >>> ((16 : Int32) &&& 31).toUInt32).toInt32))])) _
    refine XS.i2c X0.here hx rfl (hb hby at_33) rfl ?_
    show Steps p.tables e below (s₁.setTop (mkF m 34 #[.val (.int p1), .val (.int p2), .val (.int p3), .val (.int p4), .val (.int p5), .val (.int (p1 &&& (7 : Int32))), .val (.int ((1 : Int32) + (((p1.toUInt32 >>> ((3 : Int32) &&& 31).toUInt32).toInt32) &&& (7 : Int32)))), .val (.int (((p1.toUInt32 >>> ((6 : Int32) &&& 31).toUInt32).toInt32) &&& (7 : Int32))), .val (.int (p2.toUInt32.toUInt16.toUInt32.toInt32)), .unset, .unset, .unset, .unset, .unset, .unset] [(.int (((p2.toUInt32 >>> ((16 : Int32) &&& 31).toUInt32).toInt32).toUInt32.toUInt16.toUInt32.toInt32))])) _
    refine XS.istore X0.here hx rfl (hb hby at_34) rfl (l' := #[.val (.int p1), .val (.int p2), .val (.int p3), .val (.int p4), .val (.int p5), .val (.int (p1 &&& (7 : Int32))), .val (.int ((1 : Int32) + (((p1.toUInt32 >>> ((3 : Int32) &&& 31).toUInt32).toInt32) &&& (7 : Int32)))), .val (.int (((p1.toUInt32 >>> ((6 : Int32) &&& 31).toUInt32).toInt32) &&& (7 : Int32))), .val (.int (p2.toUInt32.toUInt16.toUInt32.toInt32)), .val (.int (((p2.toUInt32 >>> ((16 : Int32) &&& 31).toUInt32).toInt32).toUInt32.toUInt16.toUInt32.toInt32)), .unset, .unset, .unset, .unset, .unset]) rfl ?_
    show Steps p.tables e below (s₁.setTop (mkF m 36 #[.val (.int p1), .val (.int p2), .val (.int p3), .val (.int p4), .val (.int p5), .val (.int (p1 &&& (7 : Int32))), .val (.int ((1 : Int32) + (((p1.toUInt32 >>> ((3 : Int32) &&& 31).toUInt32).toInt32) &&& (7 : Int32)))), .val (.int (((p1.toUInt32 >>> ((6 : Int32) &&& 31).toUInt32).toInt32) &&& (7 : Int32))), .val (.int (p2.toUInt32.toUInt16.toUInt32.toInt32)), .val (.int (((p2.toUInt32 >>> ((16 : Int32) &&& 31).toUInt32).toInt32).toUInt32.toUInt16.toUInt32.toInt32)), .unset, .unset, .unset, .unset, .unset] [])) _
    refine XS.iloadN X0.here hx rfl (hb hby at_36) rfl ?_
    show Steps p.tables e below (s₁.setTop (mkF m 37 #[.val (.int p1), .val (.int p2), .val (.int p3), .val (.int p4), .val (.int p5), .val (.int (p1 &&& (7 : Int32))), .val (.int ((1 : Int32) + (((p1.toUInt32 >>> ((3 : Int32) &&& 31).toUInt32).toInt32) &&& (7 : Int32)))), .val (.int (((p1.toUInt32 >>> ((6 : Int32) &&& 31).toUInt32).toInt32) &&& (7 : Int32))), .val (.int (p2.toUInt32.toUInt16.toUInt32.toInt32)), .val (.int (((p2.toUInt32 >>> ((16 : Int32) &&& 31).toUInt32).toInt32).toUInt32.toUInt16.toUInt32.toInt32)), .unset, .unset, .unset, .unset, .unset] [(.int p3)])) _
    refine XS.i2c X0.here hx rfl (hb hby at_37) rfl ?_
    show Steps p.tables e below (s₁.setTop (mkF m 38 #[.val (.int p1), .val (.int p2), .val (.int p3), .val (.int p4), .val (.int p5), .val (.int (p1 &&& (7 : Int32))), .val (.int ((1 : Int32) + (((p1.toUInt32 >>> ((3 : Int32) &&& 31).toUInt32).toInt32) &&& (7 : Int32)))), .val (.int (((p1.toUInt32 >>> ((6 : Int32) &&& 31).toUInt32).toInt32) &&& (7 : Int32))), .val (.int (p2.toUInt32.toUInt16.toUInt32.toInt32)), .val (.int (((p2.toUInt32 >>> ((16 : Int32) &&& 31).toUInt32).toInt32).toUInt32.toUInt16.toUInt32.toInt32)), .unset, .unset, .unset, .unset, .unset] [(.int (p3.toUInt32.toUInt16.toUInt32.toInt32))])) _
    refine XS.istore X0.here hx rfl (hb hby at_38) rfl (l' := #[.val (.int p1), .val (.int p2), .val (.int p3), .val (.int p4), .val (.int p5), .val (.int (p1 &&& (7 : Int32))), .val (.int ((1 : Int32) + (((p1.toUInt32 >>> ((3 : Int32) &&& 31).toUInt32).toInt32) &&& (7 : Int32)))), .val (.int (((p1.toUInt32 >>> ((6 : Int32) &&& 31).toUInt32).toInt32) &&& (7 : Int32))), .val (.int (p2.toUInt32.toUInt16.toUInt32.toInt32)), .val (.int (((p2.toUInt32 >>> ((16 : Int32) &&& 31).toUInt32).toInt32).toUInt32.toUInt16.toUInt32.toInt32)), .val (.int (p3.toUInt32.toUInt16.toUInt32.toInt32)), .unset, .unset, .unset, .unset]) rfl ?_
    show Steps p.tables e below (s₁.setTop (mkF m 40 #[.val (.int p1), .val (.int p2), .val (.int p3), .val (.int p4), .val (.int p5), .val (.int (p1 &&& (7 : Int32))), .val (.int ((1 : Int32) + (((p1.toUInt32 >>> ((3 : Int32) &&& 31).toUInt32).toInt32) &&& (7 : Int32)))), .val (.int (((p1.toUInt32 >>> ((6 : Int32) &&& 31).toUInt32).toInt32) &&& (7 : Int32))), .val (.int (p2.toUInt32.toUInt16.toUInt32.toInt32)), .val (.int (((p2.toUInt32 >>> ((16 : Int32) &&& 31).toUInt32).toInt32).toUInt32.toUInt16.toUInt32.toInt32)), .val (.int (p3.toUInt32.toUInt16.toUInt32.toInt32)), .unset, .unset, .unset, .unset] [])) _
    refine XS.iloadN X0.here hx rfl (hb hby at_40) rfl ?_
    exact k)
  obtain ⟨s1, ln, s2, f, z, mm, a, L0, a2, hs, hl, hs2, ha, hL1, hL8, ha2, CJ⟩ : ∃ (s1 ln s2 f z mm : Int32) (a L0 a2 : Nat), s1.toInt = a ∧ ln.toInt = L0 ∧ s2.toInt = a2 ∧ a ≤ 7 ∧ 1 ≤ L0 ∧ L0 ≤ 8 ∧ a2 ≤ 7 ∧ Go p e below s₁ (mkF m 41 #[.val (.int p1), .val (.int p2), .val (.int p3), .val (.int p4), .val (.int p5), .val (.int s1), .val (.int ln), .val (.int s2), .val (.int f), .val (.int z), .val (.int mm), .unset, .unset, .unset, .unset] [(.int p4)]) s₁ F0 := by
    have q1 := c_and p1 7 (by decide)
    have q2 := c_and ((p1.toUInt32 >>> ((3 : Int32) &&& 31).toUInt32).toInt32) 7 (by decide)
    have q3 := c_and ((p1.toUInt32 >>> ((6 : Int32) &&& 31).toUInt32).toInt32) 7 (by decide)
    have q4 := c_iadd 1 (((p1.toUInt32 >>> ((3 : Int32) &&& 31).toUInt32).toInt32) &&& (7 : Int32))
    have r4 := rng32 (1 + (((p1.toUInt32 >>> ((3 : Int32) &&& 31).toUInt32).toInt32) &&& (7 : Int32)))
    have e7 : (7 : Int32).toInt = 7 := rfl
    have e1 : (1 : Int32).toInt = 1 := rfl
    refine ⟨_, _, _, _, _, _, (p1 &&& (7 : Int32)).toInt.toNat, ((1 : Int32) + (((p1.toUInt32 >>> ((3 : Int32) &&& 31).toUInt32).toInt32) &&& (7 : Int32))).toInt.toNat, (((p1.toUInt32 >>> ((6 : Int32) &&& 31).toUInt32).toInt32) &&& (7 : Int32)).toInt.toNat, ?_, ?_, ?_, ?_, ?_, ?_, ?_, C1⟩ <;> omega
  obtain ⟨_, _, ⟨T2, L2, k2, n2⟩, -, X2, ⟨Lc2, hQ2, l2, y2, z2⟩, st2⟩ := Jvm.LawKit.callS X0 hx (y := (⟨"com/example/trailwright/trailwright/xml/XmlNamesSetPinLaw", "filled", "(I)[C"⟩ : MethodName)) hown (mvT hZ (hw _ (List.mem_of_getElem? (i := 0) rfl))) (mvT hZ (hw _ (List.mem_of_getElem? (i := 1) rfl))) (mvT hZ (hw _ (List.mem_of_getElem? (i := 2) rfl))) (mvT hZ (hw _ (List.mem_of_getElem? (i := 3) rfl))) (by decide) (backOf (W := 0) (rm1 l Z a0 hw [] p4 h0 n0 Z0) hZ (hw _ (List.mem_of_getElem? (i := 3) rfl)) (hw _ (List.mem_of_getElem? (i := 2) rfl)) (by decide) (by decide)) (g := (mkF m 41 #[.val (.int p1), .val (.int p2), .val (.int p3), .val (.int p4), .val (.int p5), .val (.int s1), .val (.int ln), .val (.int s2), .val (.int f), .val (.int z), .val (.int mm), .unset, .unset, .unset, .unset] [(.int p4)])) rfl (by rw [hml]; rfl) (argsL := [(.int p4)]) (rest := []) (lenOf pd_1 rfl) rfl (by show 2 * 0 + _ ≤ _; exact Nat.le_of_eq rfl) (hb hby at_41) (fun _ _ => ⟨rfl, e0, (by decide : 0 + 1 ≤ _), (by decide : 0 + 16 ≤ _)⟩)
  dsimp only [Pt.U, Pt.locs, Pt.cells, Pt.slots] at X2 l2 y2 z2 st2 hQ2
  subst l2 y2 z2
  obtain ⟨b1, k1, vs1, rfl, N2q, K2, sz1, hl1, V1⟩ := hQ2
  have C2 : Go p e below T2 (mkF m 44 #[.val (.int p1), .val (.int p2), .val (.int p3), .val (.int p4), .val (.int p5), .val (.int s1), .val (.int ln), .val (.int s2), .val (.int f), .val (.int z), .val (.int mm), .unset, .unset, .unset, .unset] [(.ref b1)]) s₁ F0 := fun t k => CJ t (st2 t k)
  have N2 := Fr.app N0 N2q
  have Z2 : n0 ≤ T2.heap.size := Nat.le_trans Z0 K2.1
  have g1 : n0 ≤ b1 := Nat.le_trans Z0 sz1
  have C3 : Go p e below T2 (mkF m 48 #[.val (.int p1), .val (.int p2), .val (.int p3), .val (.int p4), .val (.int p5), .val (.int s1), .val (.int ln), .val (.int s2), .val (.int f), .val (.int z), .val (.int mm), .val (.ref b1), .unset, .unset, .unset] [(.int p5)]) s₁ F0 := fun t k => C2 t (by
    refine XS.astore X2.here hx rfl (hb hby at_44) rfl rfl (l' := #[.val (.int p1), .val (.int p2), .val (.int p3), .val (.int p4), .val (.int p5), .val (.int s1), .val (.int ln), .val (.int s2), .val (.int f), .val (.int z), .val (.int mm), .val (.ref b1), .unset, .unset, .unset]) rfl ?_
    show Steps p.tables e below (T2.setTop (mkF m 46 #[.val (.int p1), .val (.int p2), .val (.int p3), .val (.int p4), .val (.int p5), .val (.int s1), .val (.int ln), .val (.int s2), .val (.int f), .val (.int z), .val (.int mm), .val (.ref b1), .unset, .unset, .unset] [])) _
    refine XS.iload X2.here hx rfl (hb hby at_46) rfl ?_
    exact k)
  obtain ⟨_, _, ⟨T4, L4, k4, n4⟩, -, X4, ⟨Lc4, hQ4, l4, y4, z4⟩, st4⟩ := Jvm.LawKit.callS X2 hx (y := (⟨"com/example/trailwright/trailwright/xml/XmlNamesSetPinLaw", "filled", "(I)[C"⟩ : MethodName)) hown (mvT hZ (hw _ (List.mem_of_getElem? (i := 0) rfl))) (mvT hZ (hw _ (List.mem_of_getElem? (i := 1) rfl))) (mvT hZ (hw _ (List.mem_of_getElem? (i := 2) rfl))) (mvT hZ (hw _ (List.mem_of_getElem? (i := 3) rfl))) (by decide) (backOf (W := 0) (rm1 l Z a0 hw [] p5 T2.heap n0 Z2) hZ (hw _ (List.mem_of_getElem? (i := 3) rfl)) (hw _ (List.mem_of_getElem? (i := 2) rfl)) (by decide) (by decide)) (g := (mkF m 48 #[.val (.int p1), .val (.int p2), .val (.int p3), .val (.int p4), .val (.int p5), .val (.int s1), .val (.int ln), .val (.int s2), .val (.int f), .val (.int z), .val (.int mm), .val (.ref b1), .unset, .unset, .unset] [(.int p5)])) rfl (by rw [hml]; rfl) (argsL := [(.int p5)]) (rest := []) (lenOf pd_1 rfl) rfl (by show 2 * 0 + _ ≤ _; exact Nat.le_of_eq rfl) (hb hby at_48) (fun _ _ => ⟨rfl, rfl, (by decide : 1 + 1 ≤ _), (by decide : 16 + 16 ≤ _)⟩)
  dsimp only [Pt.U, Pt.locs, Pt.cells, Pt.slots] at X4 l4 y4 z4 st4 hQ4
  subst l4 y4 z4
  obtain ⟨b2, k2, vs2, rfl, N4q, K4, sz2, hl2, V2⟩ := hQ4
  have C4 : Go p e below T4 (mkF m 51 #[.val (.int p1), .val (.int p2), .val (.int p3), .val (.int p4), .val (.int p5), .val (.int s1), .val (.int ln), .val (.int s2), .val (.int f), .val (.int z), .val (.int mm), .val (.ref b1), .unset, .unset, .unset] [(.ref b2)]) s₁ F0 := fun t k => C3 t (st4 t k)
  have N4 := Fr.app N2 N4q
  have Z4 : n0 ≤ T4.heap.size := Nat.le_trans Z2 K4.1
  have g2 : n0 ≤ b2 := Nat.le_trans Z2 sz2
  have ne12 : b1 ≠ b2 := Nat.ne_of_lt (Nat.lt_of_lt_of_le V1.lt sz2)
  have V1a := V1.keep K4 nin0
  have C5 : Go p e below T4 (mkF m 65 #[.val (.int p1), .val (.int p2), .val (.int p3), .val (.int p4), .val (.int p5), .val (.int s1), .val (.int ln), .val (.int s2), .val (.int f), .val (.int z), .val (.int mm), .val (.ref b1), .val (.ref b2), .unset, .unset] [(.int z), (.int mm), (.int f), (.int ln), (.int s1), (.ref b1)]) s₁ F0 := fun t k => C4 t (by
    refine XS.astore X4.here hx rfl (hb hby at_51) rfl rfl (l' := #[.val (.int p1), .val (.int p2), .val (.int p3), .val (.int p4), .val (.int p5), .val (.int s1), .val (.int ln), .val (.int s2), .val (.int f), .val (.int z), .val (.int mm), .val (.ref b1), .val (.ref b2), .unset, .unset]) rfl ?_
    show Steps p.tables e below (T4.setTop (mkF m 53 #[.val (.int p1), .val (.int p2), .val (.int p3), .val (.int p4), .val (.int p5), .val (.int s1), .val (.int ln), .val (.int s2), .val (.int f), .val (.int z), .val (.int mm), .val (.ref b1), .val (.ref b2), .unset, .unset] [])) _
    refine XS.aload X4.here hx rfl (hb hby at_53) rfl rfl ?_
    show Steps p.tables e below (T4.setTop (mkF m 55 #[.val (.int p1), .val (.int p2), .val (.int p3), .val (.int p4), .val (.int p5), .val (.int s1), .val (.int ln), .val (.int s2), .val (.int f), .val (.int z), .val (.int mm), .val (.ref b1), .val (.ref b2), .unset, .unset] [(.ref b1)])) _
    refine XS.iload X4.here hx rfl (hb hby at_55) rfl ?_
    show Steps p.tables e below (T4.setTop (mkF m 57 #[.val (.int p1), .val (.int p2), .val (.int p3), .val (.int p4), .val (.int p5), .val (.int s1), .val (.int ln), .val (.int s2), .val (.int f), .val (.int z), .val (.int mm), .val (.ref b1), .val (.ref b2), .unset, .unset] [(.int s1), (.ref b1)])) _
    refine XS.iload X4.here hx rfl (hb hby at_57) rfl ?_
    show Steps p.tables e below (T4.setTop (mkF m 59 #[.val (.int p1), .val (.int p2), .val (.int p3), .val (.int p4), .val (.int p5), .val (.int s1), .val (.int ln), .val (.int s2), .val (.int f), .val (.int z), .val (.int mm), .val (.ref b1), .val (.ref b2), .unset, .unset] [(.int ln), (.int s1), (.ref b1)])) _
    refine XS.iload X4.here hx rfl (hb hby at_59) rfl ?_
    show Steps p.tables e below (T4.setTop (mkF m 61 #[.val (.int p1), .val (.int p2), .val (.int p3), .val (.int p4), .val (.int p5), .val (.int s1), .val (.int ln), .val (.int s2), .val (.int f), .val (.int z), .val (.int mm), .val (.ref b1), .val (.ref b2), .unset, .unset] [(.int f), (.int ln), (.int s1), (.ref b1)])) _
    refine XS.iload X4.here hx rfl (hb hby at_61) rfl ?_
    show Steps p.tables e below (T4.setTop (mkF m 63 #[.val (.int p1), .val (.int p2), .val (.int p3), .val (.int p4), .val (.int p5), .val (.int s1), .val (.int ln), .val (.int s2), .val (.int f), .val (.int z), .val (.int mm), .val (.ref b1), .val (.ref b2), .unset, .unset] [(.int mm), (.int f), (.int ln), (.int s1), (.ref b1)])) _
    refine XS.iload X4.here hx rfl (hb hby at_63) rfl ?_
    exact k)
  obtain ⟨_, _, ⟨T6, L6, k6, n6⟩, -, X6, ⟨Lc6, hQ6, l6, y6, z6⟩, st6⟩ := Jvm.LawKit.callS X4 hx (y := (⟨"com/example/trailwright/trailwright/xml/XmlNamesSetPinLaw", "place", "([CIICCC)V"⟩ : MethodName)) hown (mvT hZ (hw _ (List.mem_of_getElem? (i := 5) rfl))) (mvT hZ (hw _ (List.mem_of_getElem? (i := 6) rfl))) (mvT hZ (hw _ (List.mem_of_getElem? (i := 2) rfl))) (mvT hZ (hw _ (List.mem_of_getElem? (i := 7) rfl))) (by decide) (backOf (W := 0) (rm2 l Z a0 hw [] b1 s1 ln f mm z k1 vs1 a L0 T4.heap n0 Z4 V1a hl1 hs hl ha hL1 hL8 g1) hZ (hw _ (List.mem_of_getElem? (i := 7) rfl)) (hw _ (List.mem_of_getElem? (i := 2) rfl)) (by decide) (by decide)) (g := (mkF m 65 #[.val (.int p1), .val (.int p2), .val (.int p3), .val (.int p4), .val (.int p5), .val (.int s1), .val (.int ln), .val (.int s2), .val (.int f), .val (.int z), .val (.int mm), .val (.ref b1), .val (.ref b2), .unset, .unset] [(.int z), (.int mm), (.int f), (.int ln), (.int s1), (.ref b1)])) rfl (by rw [hml]; rfl) (argsL := [(.ref b1), (.int s1), (.int ln), (.int f), (.int mm), (.int z)]) (rest := []) (lenOf pd_2 rfl) rfl (by show 2 * 0 + _ ≤ _; exact Nat.le_of_eq rfl) (hb hby at_65) (fun _ _ => ⟨rfl, rfl, (by decide : 2 + 0 ≤ _), (by decide : 32 + 0 ≤ _)⟩)
  dsimp only [Pt.U, Pt.locs, Pt.cells, Pt.slots] at X6 l6 y6 z6 st6 hQ6
  subst l6 y6 z6
  obtain ⟨ws1, rfl, N6q, K6, hm1, V1b, wx1, ww1, wy1⟩ := hQ6
  have C6 : Go p e below T6 (mkF m 68 #[.val (.int p1), .val (.int p2), .val (.int p3), .val (.int p4), .val (.int p5), .val (.int s1), .val (.int ln), .val (.int s2), .val (.int f), .val (.int z), .val (.int mm), .val (.ref b1), .val (.ref b2), .unset, .unset] []) s₁ F0 := fun t k => C5 t (st6 t k)
  have N6 := Fr.app N4 N6q
  have Z6 : n0 ≤ T6.heap.size := Nat.le_trans Z4 K6.1
  have V2a := V2.keep K6 (ninS ne12.symm nin0)
  have C7 : Go p e below T6 (mkF m 80 #[.val (.int p1), .val (.int p2), .val (.int p3), .val (.int p4), .val (.int p5), .val (.int s1), .val (.int ln), .val (.int s2), .val (.int f), .val (.int z), .val (.int mm), .val (.ref b1), .val (.ref b2), .unset, .unset] [(.int z), (.int mm), (.int f), (.int ln), (.int s2), (.ref b2)]) s₁ F0 := fun t k => C6 t (by
    refine XS.aload X6.here hx rfl (hb hby at_68) rfl rfl ?_
    show Steps p.tables e below (T6.setTop (mkF m 70 #[.val (.int p1), .val (.int p2), .val (.int p3), .val (.int p4), .val (.int p5), .val (.int s1), .val (.int ln), .val (.int s2), .val (.int f), .val (.int z), .val (.int mm), .val (.ref b1), .val (.ref b2), .unset, .unset] [(.ref b2)])) _
    refine XS.iload X6.here hx rfl (hb hby at_70) rfl ?_
    show Steps p.tables e below (T6.setTop (mkF m 72 #[.val (.int p1), .val (.int p2), .val (.int p3), .val (.int p4), .val (.int p5), .val (.int s1), .val (.int ln), .val (.int s2), .val (.int f), .val (.int z), .val (.int mm), .val (.ref b1), .val (.ref b2), .unset, .unset] [(.int s2), (.ref b2)])) _
    refine XS.iload X6.here hx rfl (hb hby at_72) rfl ?_
    show Steps p.tables e below (T6.setTop (mkF m 74 #[.val (.int p1), .val (.int p2), .val (.int p3), .val (.int p4), .val (.int p5), .val (.int s1), .val (.int ln), .val (.int s2), .val (.int f), .val (.int z), .val (.int mm), .val (.ref b1), .val (.ref b2), .unset, .unset] [(.int ln), (.int s2), (.ref b2)])) _
    refine XS.iload X6.here hx rfl (hb hby at_74) rfl ?_
    show Steps p.tables e below (T6.setTop (mkF m 76 #[.val (.int p1), .val (.int p2), .val (.int p3), .val (.int p4), .val (.int p5), .val (.int s1), .val (.int ln), .val (.int s2), .val (.int f), .val (.int z), .val (.int mm), .val (.ref b1), .val (.ref b2), .unset, .unset] [(.int f), (.int ln), (.int s2), (.ref b2)])) _
    refine XS.iload X6.here hx rfl (hb hby at_76) rfl ?_
    show Steps p.tables e below (T6.setTop (mkF m 78 #[.val (.int p1), .val (.int p2), .val (.int p3), .val (.int p4), .val (.int p5), .val (.int s1), .val (.int ln), .val (.int s2), .val (.int f), .val (.int z), .val (.int mm), .val (.ref b1), .val (.ref b2), .unset, .unset] [(.int mm), (.int f), (.int ln), (.int s2), (.ref b2)])) _
    refine XS.iload X6.here hx rfl (hb hby at_78) rfl ?_
    exact k)
  obtain ⟨_, _, ⟨T8, L8, k8, n8⟩, -, X8, ⟨Lc8, hQ8, l8, y8, z8⟩, st8⟩ := Jvm.LawKit.callS X6 hx (y := (⟨"com/example/trailwright/trailwright/xml/XmlNamesSetPinLaw", "place", "([CIICCC)V"⟩ : MethodName)) hown (mvT hZ (hw _ (List.mem_of_getElem? (i := 5) rfl))) (mvT hZ (hw _ (List.mem_of_getElem? (i := 6) rfl))) (mvT hZ (hw _ (List.mem_of_getElem? (i := 2) rfl))) (mvT hZ (hw _ (List.mem_of_getElem? (i := 7) rfl))) (by decide) (backOf (W := 0) (rm2 l Z a0 hw [] b2 s2 ln f mm z k2 vs2 a2 L0 T6.heap n0 Z6 V2a hl2 hs2 hl ha2 hL1 hL8 g2) hZ (hw _ (List.mem_of_getElem? (i := 7) rfl)) (hw _ (List.mem_of_getElem? (i := 2) rfl)) (by decide) (by decide)) (g := (mkF m 80 #[.val (.int p1), .val (.int p2), .val (.int p3), .val (.int p4), .val (.int p5), .val (.int s1), .val (.int ln), .val (.int s2), .val (.int f), .val (.int z), .val (.int mm), .val (.ref b1), .val (.ref b2), .unset, .unset] [(.int z), (.int mm), (.int f), (.int ln), (.int s2), (.ref b2)])) rfl (by rw [hml]; rfl) (argsL := [(.ref b2), (.int s2), (.int ln), (.int f), (.int mm), (.int z)]) (rest := []) (lenOf pd_2 rfl) rfl (by show 2 * 0 + _ ≤ _; exact Nat.le_of_eq rfl) (hb hby at_80) (fun _ _ => ⟨rfl, rfl, (by decide : 2 + 0 ≤ _), (by decide : 32 + 0 ≤ _)⟩)
  dsimp only [Pt.U, Pt.locs, Pt.cells, Pt.slots] at X8 l8 y8 z8 st8 hQ8
  subst l8 y8 z8
  obtain ⟨ws2, rfl, N8q, K8, hm2, V2b, wx2, ww2, wy2⟩ := hQ8
  have C8 : Go p e below T8 (mkF m 83 #[.val (.int p1), .val (.int p2), .val (.int p3), .val (.int p4), .val (.int p5), .val (.int s1), .val (.int ln), .val (.int s2), .val (.int f), .val (.int z), .val (.int mm), .val (.ref b1), .val (.ref b2), .unset, .unset] []) s₁ F0 := fun t k => C7 t (st8 t k)
  have N8 := Fr.app N6 N8q
  have Z8 : n0 ≤ T8.heap.size := Nat.le_trans Z6 K8.1
  have V1c := V1b.keep K8 (ninS ne12 nin0)
  have C9 : Go p e below T8 (mkF m 89 #[.val (.int p1), .val (.int p2), .val (.int p3), .val (.int p4), .val (.int p5), .val (.int s1), .val (.int ln), .val (.int s2), .val (.int f), .val (.int z), .val (.int mm), .val (.ref b1), .val (.ref b2), .unset, .unset] [(.int ln), (.int s1), (.ref b1)]) s₁ F0 := fun t k => C8 t (by
    refine XS.aload X8.here hx rfl (hb hby at_83) rfl rfl ?_
    show Steps p.tables e below (T8.setTop (mkF m 85 #[.val (.int p1), .val (.int p2), .val (.int p3), .val (.int p4), .val (.int p5), .val (.int s1), .val (.int ln), .val (.int s2), .val (.int f), .val (.int z), .val (.int mm), .val (.ref b1), .val (.ref b2), .unset, .unset] [(.ref b1)])) _
    refine XS.iload X8.here hx rfl (hb hby at_85) rfl ?_
    show Steps p.tables e below (T8.setTop (mkF m 87 #[.val (.int p1), .val (.int p2), .val (.int p3), .val (.int p4), .val (.int p5), .val (.int s1), .val (.int ln), .val (.int s2), .val (.int f), .val (.int z), .val (.int mm), .val (.ref b1), .val (.ref b2), .unset, .unset] [(.int s1), (.ref b1)])) _
    refine XS.iload X8.here hx rfl (hb hby at_87) rfl ?_
    exact k)
  obtain ⟨_, _, ⟨T10, L10, k10, n10⟩, -, X10, ⟨Lc10, hQ10, l10, y10, z10⟩, st10⟩ := Jvm.LawKit.callS X8 hx (y := (⟨"com/example/trailwright/trailwright/xml/XmlNames", "set", "([CII)I"⟩ : MethodName)) hown (mvT hZ (hw _ (List.mem_of_getElem? (i := 8) rfl))) (mvT hZ (hw _ (List.mem_of_getElem? (i := 9) rfl))) (mvT hZ (hw _ (List.mem_of_getElem? (i := 10) rfl))) (mvT hZ (hw _ (List.mem_of_getElem? (i := 11) rfl))) (by decide) (backOf (W := 0) (rm3 l Z a0 hw [] b1 s1 ln k1 ws1 a L0 _ _ _ T8.heap n0 Z8 V1c hs hl ha hL1 hL8 wx1 ww1 wy1) hZ (hw _ (List.mem_of_getElem? (i := 11) rfl)) (hw _ (List.mem_of_getElem? (i := 10) rfl)) (by decide) (by decide)) (g := (mkF m 89 #[.val (.int p1), .val (.int p2), .val (.int p3), .val (.int p4), .val (.int p5), .val (.int s1), .val (.int ln), .val (.int s2), .val (.int f), .val (.int z), .val (.int mm), .val (.ref b1), .val (.ref b2), .unset, .unset] [(.int ln), (.int s1), (.ref b1)])) rfl (by rw [hml]; rfl) (argsL := [(.ref b1), (.int s1), (.int ln)]) (rest := []) (lenOf pd_3 rfl) rfl (by show 2 * 0 + _ ≤ _; exact Nat.le_of_eq rfl) (hb hby at_89) (fun _ _ => ⟨rfl, rfl, (by decide : 2 + 0 ≤ _), (by decide : 32 + 0 ≤ _)⟩)
  dsimp only [Pt.U, Pt.locs, Pt.cells, Pt.slots] at X10 l10 y10 z10 st10 hQ10
  subst l10 y10 z10
  obtain ⟨rfl, N10q, eh10⟩ := hQ10
  have C10 : Go p e below T10 (mkF m 92 #[.val (.int p1), .val (.int p2), .val (.int p3), .val (.int p4), .val (.int p5), .val (.int s1), .val (.int ln), .val (.int s2), .val (.int f), .val (.int z), .val (.int mm), .val (.ref b1), .val (.ref b2), .unset, .unset] [(.int (own_hash ln (own_x ln (nar .char f) (nar .char z)) (nar .char z) (own_w ln (nar .char mm) (nar .char z))))]) s₁ F0 := fun t k => C9 t (st10 t k)
  have N10 := Fr.app N8 N10q
  have Z10 : n0 ≤ T10.heap.size := by rw [eh10]; exact Z8
  have V2c : Arv Z T10.heap b2 k2 .char 16 ws2 (.int 0) := by rw [eh10]; exact V2b
  have C11 : Go p e below T10 (mkF m 100 #[.val (.int p1), .val (.int p2), .val (.int p3), .val (.int p4), .val (.int p5), .val (.int s1), .val (.int ln), .val (.int s2), .val (.int f), .val (.int z), .val (.int mm), .val (.ref b1), .val (.ref b2), .val (.int (own_hash ln (own_x ln (nar .char f) (nar .char z)) (nar .char z) (own_w ln (nar .char mm) (nar .char z)))), .unset] [(.int ln), (.int s2), (.ref b2)]) s₁ F0 := fun t k => C10 t (by
    refine XS.istore X10.here hx rfl (hb hby at_92) rfl (l' := #[.val (.int p1), .val (.int p2), .val (.int p3), .val (.int p4), .val (.int p5), .val (.int s1), .val (.int ln), .val (.int s2), .val (.int f), .val (.int z), .val (.int mm), .val (.ref b1), .val (.ref b2), .val (.int (own_hash ln (own_x ln (nar .char f) (nar .char z)) (nar .char z) (own_w ln (nar .char mm) (nar .char z)))), .unset]) rfl ?_
    show Steps p.tables e below (T10.setTop (mkF m 94 #[.val (.int p1), .val (.int p2), .val (.int p3), .val (.int p4), .val (.int p5), .val (.int s1), .val (.int ln), .val (.int s2), .val (.int f), .val (.int z), .val (.int mm), .val (.ref b1), .val (.ref b2), .val (.int (own_hash ln (own_x ln (nar .char f) (nar .char z)) (nar .char z) (own_w ln (nar .char mm) (nar .char z)))), .unset] [])) _
    refine XS.aload X10.here hx rfl (hb hby at_94) rfl rfl ?_
    show Steps p.tables e below (T10.setTop (mkF m 96 #[.val (.int p1), .val (.int p2), .val (.int p3), .val (.int p4), .val (.int p5), .val (.int s1), .val (.int ln), .val (.int s2), .val (.int f), .val (.int z), .val (.int mm), .val (.ref b1), .val (.ref b2), .val (.int (own_hash ln (own_x ln (nar .char f) (nar .char z)) (nar .char z) (own_w ln (nar .char mm) (nar .char z)))), .unset] [(.ref b2)])) _
    refine XS.iload X10.here hx rfl (hb hby at_96) rfl ?_
    show Steps p.tables e below (T10.setTop (mkF m 98 #[.val (.int p1), .val (.int p2), .val (.int p3), .val (.int p4), .val (.int p5), .val (.int s1), .val (.int ln), .val (.int s2), .val (.int f), .val (.int z), .val (.int mm), .val (.ref b1), .val (.ref b2), .val (.int (own_hash ln (own_x ln (nar .char f) (nar .char z)) (nar .char z) (own_w ln (nar .char mm) (nar .char z)))), .unset] [(.int s2), (.ref b2)])) _
    refine XS.iload X10.here hx rfl (hb hby at_98) rfl ?_
    exact k)
  obtain ⟨_, _, ⟨T12, L12, k12, n12⟩, -, X12, ⟨Lc12, hQ12, l12, y12, z12⟩, st12⟩ := Jvm.LawKit.callS X10 hx (y := (⟨"com/example/trailwright/trailwright/xml/XmlNames", "set", "([CII)I"⟩ : MethodName)) hown (mvT hZ (hw _ (List.mem_of_getElem? (i := 8) rfl))) (mvT hZ (hw _ (List.mem_of_getElem? (i := 9) rfl))) (mvT hZ (hw _ (List.mem_of_getElem? (i := 10) rfl))) (mvT hZ (hw _ (List.mem_of_getElem? (i := 11) rfl))) (by decide) (backOf (W := 0) (rm3 l Z a0 hw [] b2 s2 ln k2 ws2 a2 L0 _ _ _ T10.heap n0 Z10 V2c hs2 hl ha2 hL1 hL8 wx2 ww2 wy2) hZ (hw _ (List.mem_of_getElem? (i := 11) rfl)) (hw _ (List.mem_of_getElem? (i := 10) rfl)) (by decide) (by decide)) (g := (mkF m 100 #[.val (.int p1), .val (.int p2), .val (.int p3), .val (.int p4), .val (.int p5), .val (.int s1), .val (.int ln), .val (.int s2), .val (.int f), .val (.int z), .val (.int mm), .val (.ref b1), .val (.ref b2), .val (.int (own_hash ln (own_x ln (nar .char f) (nar .char z)) (nar .char z) (own_w ln (nar .char mm) (nar .char z)))), .unset] [(.int ln), (.int s2), (.ref b2)])) rfl (by rw [hml]; rfl) (argsL := [(.ref b2), (.int s2), (.int ln)]) (rest := []) (lenOf pd_3 rfl) rfl (by show 2 * 0 + _ ≤ _; exact Nat.le_of_eq rfl) (hb hby at_100) (fun _ _ => ⟨rfl, rfl, (by decide : 2 + 0 ≤ _), (by decide : 32 + 0 ≤ _)⟩)
  dsimp only [Pt.U, Pt.locs, Pt.cells, Pt.slots] at X12 l12 y12 z12 st12 hQ12
  subst l12 y12 z12
  obtain ⟨rfl, N12q, eh12⟩ := hQ12
  have C12 : Go p e below T12 (mkF m 103 #[.val (.int p1), .val (.int p2), .val (.int p3), .val (.int p4), .val (.int p5), .val (.int s1), .val (.int ln), .val (.int s2), .val (.int f), .val (.int z), .val (.int mm), .val (.ref b1), .val (.ref b2), .val (.int (own_hash ln (own_x ln (nar .char f) (nar .char z)) (nar .char z) (own_w ln (nar .char mm) (nar .char z)))), .unset] [(.int (own_hash ln (own_x ln (nar .char f) (nar .char z)) (nar .char z) (own_w ln (nar .char mm) (nar .char z))))]) s₁ F0 := fun t k => C11 t (st12 t k)
  have N12 := Fr.app N10 N12q
  have hh1 := own_hash_lo ln (own_x ln (nar .char f) (nar .char z)) (nar .char z) (own_w ln (nar .char mm) (nar .char z))
  have C13 : Go p e below T12 (mkF m 143 #[.val (.int p1), .val (.int p2), .val (.int p3), .val (.int p4), .val (.int p5), .val (.int s1), .val (.int ln), .val (.int s2), .val (.int f), .val (.int z), .val (.int mm), .val (.ref b1), .val (.ref b2), .val (.int (own_hash ln (own_x ln (nar .char f) (nar .char z)) (nar .char z) (own_w ln (nar .char mm) (nar .char z)))), .val (.int (own_hash ln (own_x ln (nar .char f) (nar .char z)) (nar .char z) (own_w ln (nar .char mm) (nar .char z))))] [(.int (1 : Int32))]) s₁ F0 := fun t k => C12 t (by
    refine XS.istore X12.here hx rfl (hb hby at_103) rfl (l' := #[.val (.int p1), .val (.int p2), .val (.int p3), .val (.int p4), .val (.int p5), .val (.int s1), .val (.int ln), .val (.int s2), .val (.int f), .val (.int z), .val (.int mm), .val (.ref b1), .val (.ref b2), .val (.int (own_hash ln (own_x ln (nar .char f) (nar .char z)) (nar .char z) (own_w ln (nar .char mm) (nar .char z)))), .val (.int (own_hash ln (own_x ln (nar .char f) (nar .char z)) (nar .char z) (own_w ln (nar .char mm) (nar .char z))))]) rfl ?_
    show Steps p.tables e below (T12.setTop (mkF m 105 #[.val (.int p1), .val (.int p2), .val (.int p3), .val (.int p4), .val (.int p5), .val (.int s1), .val (.int ln), .val (.int s2), .val (.int f), .val (.int z), .val (.int mm), .val (.ref b1), .val (.ref b2), .val (.int (own_hash ln (own_x ln (nar .char f) (nar .char z)) (nar .char z) (own_w ln (nar .char mm) (nar .char z)))), .val (.int (own_hash ln (own_x ln (nar .char f) (nar .char z)) (nar .char z) (own_w ln (nar .char mm) (nar .char z))))] [])) _
    refine XS.iconst X12.here hx rfl (hb hby at_105) ?_
    show Steps p.tables e below (T12.setTop (mkF m 106 #[.val (.int p1), .val (.int p2), .val (.int p3), .val (.int p4), .val (.int p5), .val (.int s1), .val (.int ln), .val (.int s2), .val (.int f), .val (.int z), .val (.int mm), .val (.ref b1), .val (.ref b2), .val (.int (own_hash ln (own_x ln (nar .char f) (nar .char z)) (nar .char z) (own_w ln (nar .char mm) (nar .char z)))), .val (.int (own_hash ln (own_x ln (nar .char f) (nar .char z)) (nar .char z) (own_w ln (nar .char mm) (nar .char z))))] [(.int (0 : Int32))])) _
    refine XS.iload X12.here hx rfl (hb hby at_106) rfl ?_
    show Steps p.tables e below (T12.setTop (mkF m 108 #[.val (.int p1), .val (.int p2), .val (.int p3), .val (.int p4), .val (.int p5), .val (.int s1), .val (.int ln), .val (.int s2), .val (.int f), .val (.int z), .val (.int mm), .val (.ref b1), .val (.ref b2), .val (.int (own_hash ln (own_x ln (nar .char f) (nar .char z)) (nar .char z) (own_w ln (nar .char mm) (nar .char z)))), .val (.int (own_hash ln (own_x ln (nar .char f) (nar .char z)) (nar .char z) (own_w ln (nar .char mm) (nar .char z))))] [(.int (own_hash ln (own_x ln (nar .char f) (nar .char z)) (nar .char z) (own_w ln (nar .char mm) (nar .char z)))), (.int (0 : Int32))])) _
    refine XS.icmpNo X12.here hx rfl (hb hby at_108) rfl (flt hh1.1).2.2.1 ?_
    show Steps p.tables e below (T12.setTop (mkF m 111 #[.val (.int p1), .val (.int p2), .val (.int p3), .val (.int p4), .val (.int p5), .val (.int s1), .val (.int ln), .val (.int s2), .val (.int f), .val (.int z), .val (.int mm), .val (.ref b1), .val (.ref b2), .val (.int (own_hash ln (own_x ln (nar .char f) (nar .char z)) (nar .char z) (own_w ln (nar .char mm) (nar .char z)))), .val (.int (own_hash ln (own_x ln (nar .char f) (nar .char z)) (nar .char z) (own_w ln (nar .char mm) (nar .char z))))] [])) _
    refine XS.iload X12.here hx rfl (hb hby at_111) rfl ?_
    show Steps p.tables e below (T12.setTop (mkF m 113 #[.val (.int p1), .val (.int p2), .val (.int p3), .val (.int p4), .val (.int p5), .val (.int s1), .val (.int ln), .val (.int s2), .val (.int f), .val (.int z), .val (.int mm), .val (.ref b1), .val (.ref b2), .val (.int (own_hash ln (own_x ln (nar .char f) (nar .char z)) (nar .char z) (own_w ln (nar .char mm) (nar .char z)))), .val (.int (own_hash ln (own_x ln (nar .char f) (nar .char z)) (nar .char z) (own_w ln (nar .char mm) (nar .char z))))] [(.int (own_hash ln (own_x ln (nar .char f) (nar .char z)) (nar .char z) (own_w ln (nar .char mm) (nar .char z))))])) _
    refine XS.bipush X12.here hx rfl (hb hby at_113) ?_
    show Steps p.tables e below (T12.setTop (mkF m 115 #[.val (.int p1), .val (.int p2), .val (.int p3), .val (.int p4), .val (.int p5), .val (.int s1), .val (.int ln), .val (.int s2), .val (.int f), .val (.int z), .val (.int mm), .val (.ref b1), .val (.ref b2), .val (.int (own_hash ln (own_x ln (nar .char f) (nar .char z)) (nar .char z) (own_w ln (nar .char mm) (nar .char z)))), .val (.int (own_hash ln (own_x ln (nar .char f) (nar .char z)) (nar .char z) (own_w ln (nar .char mm) (nar .char z))))] [(.int (64 : Int32)), (.int (own_hash ln (own_x ln (nar .char f) (nar .char z)) (nar .char z) (own_w ln (nar .char mm) (nar .char z))))])) _
    refine XS.icmpNo X12.here hx rfl (hb hby at_115) rfl (tlt hh1.2).2.1 ?_
    show Steps p.tables e below (T12.setTop (mkF m 118 #[.val (.int p1), .val (.int p2), .val (.int p3), .val (.int p4), .val (.int p5), .val (.int s1), .val (.int ln), .val (.int s2), .val (.int f), .val (.int z), .val (.int mm), .val (.ref b1), .val (.ref b2), .val (.int (own_hash ln (own_x ln (nar .char f) (nar .char z)) (nar .char z) (own_w ln (nar .char mm) (nar .char z)))), .val (.int (own_hash ln (own_x ln (nar .char f) (nar .char z)) (nar .char z) (own_w ln (nar .char mm) (nar .char z))))] [])) _
    refine XS.iconst X12.here hx rfl (hb hby at_118) ?_
    show Steps p.tables e below (T12.setTop (mkF m 119 #[.val (.int p1), .val (.int p2), .val (.int p3), .val (.int p4), .val (.int p5), .val (.int s1), .val (.int ln), .val (.int s2), .val (.int f), .val (.int z), .val (.int mm), .val (.ref b1), .val (.ref b2), .val (.int (own_hash ln (own_x ln (nar .char f) (nar .char z)) (nar .char z) (own_w ln (nar .char mm) (nar .char z)))), .val (.int (own_hash ln (own_x ln (nar .char f) (nar .char z)) (nar .char z) (own_w ln (nar .char mm) (nar .char z))))] [(.int (0 : Int32))])) _
    refine XS.iload X12.here hx rfl (hb hby at_119) rfl ?_
    show Steps p.tables e below (T12.setTop (mkF m 121 #[.val (.int p1), .val (.int p2), .val (.int p3), .val (.int p4), .val (.int p5), .val (.int s1), .val (.int ln), .val (.int s2), .val (.int f), .val (.int z), .val (.int mm), .val (.ref b1), .val (.ref b2), .val (.int (own_hash ln (own_x ln (nar .char f) (nar .char z)) (nar .char z) (own_w ln (nar .char mm) (nar .char z)))), .val (.int (own_hash ln (own_x ln (nar .char f) (nar .char z)) (nar .char z) (own_w ln (nar .char mm) (nar .char z))))] [(.int (own_hash ln (own_x ln (nar .char f) (nar .char z)) (nar .char z) (own_w ln (nar .char mm) (nar .char z)))), (.int (0 : Int32))])) _
    refine XS.icmpNo X12.here hx rfl (hb hby at_121) rfl (flt hh1.1).2.2.1 ?_
    show Steps p.tables e below (T12.setTop (mkF m 124 #[.val (.int p1), .val (.int p2), .val (.int p3), .val (.int p4), .val (.int p5), .val (.int s1), .val (.int ln), .val (.int s2), .val (.int f), .val (.int z), .val (.int mm), .val (.ref b1), .val (.ref b2), .val (.int (own_hash ln (own_x ln (nar .char f) (nar .char z)) (nar .char z) (own_w ln (nar .char mm) (nar .char z)))), .val (.int (own_hash ln (own_x ln (nar .char f) (nar .char z)) (nar .char z) (own_w ln (nar .char mm) (nar .char z))))] [])) _
    refine XS.iload X12.here hx rfl (hb hby at_124) rfl ?_
    show Steps p.tables e below (T12.setTop (mkF m 126 #[.val (.int p1), .val (.int p2), .val (.int p3), .val (.int p4), .val (.int p5), .val (.int s1), .val (.int ln), .val (.int s2), .val (.int f), .val (.int z), .val (.int mm), .val (.ref b1), .val (.ref b2), .val (.int (own_hash ln (own_x ln (nar .char f) (nar .char z)) (nar .char z) (own_w ln (nar .char mm) (nar .char z)))), .val (.int (own_hash ln (own_x ln (nar .char f) (nar .char z)) (nar .char z) (own_w ln (nar .char mm) (nar .char z))))] [(.int (own_hash ln (own_x ln (nar .char f) (nar .char z)) (nar .char z) (own_w ln (nar .char mm) (nar .char z))))])) _
    refine XS.bipush X12.here hx rfl (hb hby at_126) ?_
    show Steps p.tables e below (T12.setTop (mkF m 128 #[.val (.int p1), .val (.int p2), .val (.int p3), .val (.int p4), .val (.int p5), .val (.int s1), .val (.int ln), .val (.int s2), .val (.int f), .val (.int z), .val (.int mm), .val (.ref b1), .val (.ref b2), .val (.int (own_hash ln (own_x ln (nar .char f) (nar .char z)) (nar .char z) (own_w ln (nar .char mm) (nar .char z)))), .val (.int (own_hash ln (own_x ln (nar .char f) (nar .char z)) (nar .char z) (own_w ln (nar .char mm) (nar .char z))))] [(.int (64 : Int32)), (.int (own_hash ln (own_x ln (nar .char f) (nar .char z)) (nar .char z) (own_w ln (nar .char mm) (nar .char z))))])) _
    refine XS.icmpNo X12.here hx rfl (hb hby at_128) rfl (tlt hh1.2).2.1 ?_
    show Steps p.tables e below (T12.setTop (mkF m 131 #[.val (.int p1), .val (.int p2), .val (.int p3), .val (.int p4), .val (.int p5), .val (.int s1), .val (.int ln), .val (.int s2), .val (.int f), .val (.int z), .val (.int mm), .val (.ref b1), .val (.ref b2), .val (.int (own_hash ln (own_x ln (nar .char f) (nar .char z)) (nar .char z) (own_w ln (nar .char mm) (nar .char z)))), .val (.int (own_hash ln (own_x ln (nar .char f) (nar .char z)) (nar .char z) (own_w ln (nar .char mm) (nar .char z))))] [])) _
    refine XS.iload X12.here hx rfl (hb hby at_131) rfl ?_
    show Steps p.tables e below (T12.setTop (mkF m 133 #[.val (.int p1), .val (.int p2), .val (.int p3), .val (.int p4), .val (.int p5), .val (.int s1), .val (.int ln), .val (.int s2), .val (.int f), .val (.int z), .val (.int mm), .val (.ref b1), .val (.ref b2), .val (.int (own_hash ln (own_x ln (nar .char f) (nar .char z)) (nar .char z) (own_w ln (nar .char mm) (nar .char z)))), .val (.int (own_hash ln (own_x ln (nar .char f) (nar .char z)) (nar .char z) (own_w ln (nar .char mm) (nar .char z))))] [(.int (own_hash ln (own_x ln (nar .char f) (nar .char z)) (nar .char z) (own_w ln (nar .char mm) (nar .char z))))])) _
    refine XS.iload X12.here hx rfl (hb hby at_133) rfl ?_
    show Steps p.tables e below (T12.setTop (mkF m 135 #[.val (.int p1), .val (.int p2), .val (.int p3), .val (.int p4), .val (.int p5), .val (.int s1), .val (.int ln), .val (.int s2), .val (.int f), .val (.int z), .val (.int mm), .val (.ref b1), .val (.ref b2), .val (.int (own_hash ln (own_x ln (nar .char f) (nar .char z)) (nar .char z) (own_w ln (nar .char mm) (nar .char z)))), .val (.int (own_hash ln (own_x ln (nar .char f) (nar .char z)) (nar .char z) (own_w ln (nar .char mm) (nar .char z))))] [(.int (own_hash ln (own_x ln (nar .char f) (nar .char z)) (nar .char z) (own_w ln (nar .char mm) (nar .char z)))), (.int (own_hash ln (own_x ln (nar .char f) (nar .char z)) (nar .char z) (own_w ln (nar .char mm) (nar .char z))))])) _
    refine XS.icmpNo X12.here hx rfl (hb hby at_135) rfl (teq rfl).2 ?_
    show Steps p.tables e below (T12.setTop (mkF m 138 #[.val (.int p1), .val (.int p2), .val (.int p3), .val (.int p4), .val (.int p5), .val (.int s1), .val (.int ln), .val (.int s2), .val (.int f), .val (.int z), .val (.int mm), .val (.ref b1), .val (.ref b2), .val (.int (own_hash ln (own_x ln (nar .char f) (nar .char z)) (nar .char z) (own_w ln (nar .char mm) (nar .char z)))), .val (.int (own_hash ln (own_x ln (nar .char f) (nar .char z)) (nar .char z) (own_w ln (nar .char mm) (nar .char z))))] [])) _
    refine XS.iconst X12.here hx rfl (hb hby at_138) ?_
    show Steps p.tables e below (T12.setTop (mkF m 139 #[.val (.int p1), .val (.int p2), .val (.int p3), .val (.int p4), .val (.int p5), .val (.int s1), .val (.int ln), .val (.int s2), .val (.int f), .val (.int z), .val (.int mm), .val (.ref b1), .val (.ref b2), .val (.int (own_hash ln (own_x ln (nar .char f) (nar .char z)) (nar .char z) (own_w ln (nar .char mm) (nar .char z)))), .val (.int (own_hash ln (own_x ln (nar .char f) (nar .char z)) (nar .char z) (own_w ln (nar .char mm) (nar .char z))))] [(.int (1 : Int32))])) _
    refine XS.goto X12.here hx rfl (pc0 := 139) (pc' := 143) rfl (hb hby at_139) (by decide) (by decide) ?_
    exact k)
  obtain ⟨fs, hr, hrun, hended, hW, hsame⟩ := X12.leave (v := (some (.int (nar .boolean (1 : Int32))))) (fun h => by rw [Bd.returns] at h; cases h)
  refine ⟨_, _, pre0 _ (C13 _ ?_), hrun, hended, _, _, rfl, ?_, ⟨_, rfl⟩, hW, hsame.mono (by decide) (by decide)⟩
  · exact retN X12 hx (t := .boolean) Bd.returns (by simp) (hb hby at_143) hr
  · show Q0 Z p1 p2 p3 p4 p5 h0 n0 _ T12.heap _
    exact ⟨rfl, N12⟩
set_option maxRecDepth 65536 in
set_option maxHeartbeats 40000000 in
theorem comes_1 {Post : Tables → Env → Array Value → State → Outcome → State → Prop} (hpost : ∀ tb e args s v u, (limb_1_1.after args s (.returned v) u = true ∧ limb_1_2.after args s (.returned v) u = true ∧ True) → FrameEnd s (.returned v) u (Jvm.fieldLocs frame_1_writes args s ++ Jvm.arrayLocs frame_1_arrays args s ++ Jvm.staticLocs frame_1_statics s) 16 128 → Post tb e args s (.returned v) u) :
    ArmFor flags0 classFile x code maxLocals ret World_1 tables_1 room_1 Calls_1 rest_1 Pre_1 Post := by
  intro l hfl _ _ p e ha hc hk s m args below hf hA hF happ hP
  obtain ⟨hcalls, hrest, hpre⟩ := hP
  obtain ⟨-, -, -, hnamed, -, -, -, hat⟩ := (Spec.applies_iff hf).mp happ
  obtain ⟨hg, hn⟩ := and_e (Cond.before_iff.mp (show (Jvm.Cond.and given_1 narrow_1).before args s = true from hpre))
  obtain ⟨h1, j0⟩ := and_e hg
  obtain ⟨i0, j1⟩ := and_e j0
  obtain ⟨i1, j2⟩ := and_e j1
  obtain ⟨i2, j3⟩ := and_e j2
  obtain ⟨i3, j4⟩ := and_e j3
  have i4 := j4
  obtain ⟨w0, w1, w2, w3, w4, rfl⟩ : ∃ w0 w1 w2 w3 w4 : Value, args = #[w0, w1, w2, w3, w4] := by
    have hs : args.size = 5 := by simpa [Cond.value, given_1] using h1
    obtain ⟨L⟩ := args
    match L, hs with
    | [w0, w1, w2, w3, w4], _ => exact ⟨w0, w1, w2, w3, w4, rfl⟩
  have hw := fun d (hd : d ∈ tables_1) => atoms_spec (ws := Jvm.Cond.code x code maxLocals ret :: tables_1) hat d (List.mem_cons_of_mem _ hd)
  obtain ⟨v0, e0⟩ := is_v i0
  obtain rfl : w0 = (.int v0) := Option.some.inj e0
  obtain ⟨v1, e1⟩ := is_v i1
  obtain rfl : w1 = (.int v1) := Option.some.inj e1
  obtain ⟨v2, e2⟩ := is_v i2
  obtain rfl : w2 = (.int v2) := Option.some.inj e2
  obtain ⟨v3, e3⟩ := is_v i3
  obtain rfl : w3 = (.int v3) := Option.some.inj e3
  obtain ⟨v4, e4⟩ := is_v i4
  obtain rfl : w4 = (.int v4) := Option.some.inj e4
  obtain ⟨n, o, h1, h2, h3, _, L, rfl, ⟨rfl, N⟩, hq⟩ := rm0 l s _ hw tables_1 v0 v1 v2 v3 v4 s.heap s.heap.size (Nat.le_refl _) p e ha hc hk s m _ below hf ((Spec.applies_iff_loose hf).mp happ).1 ⟨rfl, State.Warmed39.refl s, rfl⟩ trivial
  refine ⟨n, _, h1, h2, h3, hpost _ _ _ _ _ _ ⟨Cond.after_iff.mpr rfl, Cond.after_iff.mpr (eq_i res_at (Term.int_eval (1)) rfl), trivial⟩ ⟨hq.1, hq.2.1, (hq.2.2.sift fun y hy => Or.inr (N y hy)).mono (by decide) (by decide)⟩⟩
theorem main_1_1 : Claimed_1_1 := comes_1 fun _ _ _ _ _ _ h hF => ⟨h.1, hF⟩
theorem main_1_2 : Claimed_1_2 := comes_1 fun _ _ _ _ _ _ h hF => ⟨h.2.1, hF⟩
end Jvm.Pilot.@@N@@
namespace Jvm.Pilot.@@N@@
open Jvm Jvm.ClassFile Sem Op Lib Jvm.Free Jvm.Stand Jvm.Pilot.@@N@@.Jvm.D
/-! MADE BY PROGRAM (witnessworld.py) out of the Statement's table words and the real class files: 11 classes; the members and pool entries that the words name. The judged class is class 1, her method 3. -/
namespace start1
open Jvm.ClassFile
def u (s : String) : CpInfo := .utf8 (stringToUtf16 s)
/-- a pool by its gaps: so many unusable entries, then the entry; so many at the end -/
def gap : Nat → List CpInfo → List CpInfo
  | 0, r => r
  | n + 1, r => .unusable :: gap n r
def poolList (es : List (Nat × CpInfo)) (last : Nat) : List CpInfo := es.foldr (fun e r => gap e.1 (e.2 :: r)) (gap last [])
def pool (es : List (Nat × CpInfo)) (last : Nat) : Array CpInfo := ⟨poolList es last⟩
def fileOf (pool : Array CpInfo) (this : Nat) (attrs : Array Attribute := #[]) (ms : Array MethodInfo := #[]) (fl : Nat := 33) (sup : Nat := 0) (ifs : Array Nat := #[]) (fds : Array FieldInfo := #[]) : ClassFile where
  minorVersion := 0
  majorVersion := 65
  constantPool := pool
  accessFlags := fl
  thisClass := this
  superClass := sup
  interfaces := ifs
  fields := fds
  methods := ms
  attributes := attrs
def plain (name : String) (sup : Option ClassId) : Class where
  name := name
  kind := .ordinary
  loader := none
  accessFlags := 33
  super := sup
  interfaces := #[]
  cf := none
  fields := #[]
  methods := #[]
  instanceTypes := #[]
  staticTypes := #[]
  resolved := #[]
  callSites := []
  init := .initialized
  statics := none
  mirror := none

def pool0 : Array CpInfo := pool [(5, u "<init>"), (0, u "()V"), (1, .class_ 10), (1, u "java/lang/Object")] 113

def k0m0 : Method := { name := "<init>", desc := "()V", sig := { parameters := [], returnType := none }, accessFlags := 1, code := none }
/-- java/lang/Object -/
def k0 : Class := { plain "java/lang/Object" none with
  accessFlags := 33
  interfaces := #[]
  cf := some (fileOf pool0 8 #[] #[{ accessFlags := 1, nameIndex := 5, descriptorIndex := 6, attributes := #[] }] 33 0 #[] #[])
  fields := #[]
  methods := #[k0m0]
  instanceTypes := #[]
  staticTypes := #[]
  resolved := Array.replicate 124 none
  statics := none }

def pool1 : Array CpInfo := pool [(2, .class_ 4), (1, u "java/lang/Object"), (0, u "<init>"), (0, u "()V"), (0, .methodref 8 9), (0, .class_ 10), (0, .nameAndType 11 12), (0, u "com/example/trailwright/trailwright/xml/XmlNamesSetPinLaw"), (0, u "filled"), (0, u "(I)[C"), (0, .methodref 8 14), (0, .nameAndType 15 16), (0, u "place"), (0, u "([CIICCC)V"), (0, .methodref 18 19), (0, .class_ 20), (0, .nameAndType 21 22), (0, u "com/example/trailwright/trailwright/xml/XmlNames"), (0, u "set"), (0, u "([CII)I"), (2, u "law"), (0, u "(IIIII)Z")] 5

def k1m0 : Method := { name := "<init>", desc := "()V", sig := { parameters := [], returnType := none }, accessFlags := 1, code := none }
def k1c1 : Code := { maxStack := 4, maxLocals := 2, code := method_2_code, exceptionTable := #[], attributes := #[] }
def k1m1 : Method := { name := "filled", desc := "(I)[C", sig := { parameters := [.int], returnType := some (.array .char) }, accessFlags := 10, code := some k1c1 }
def k1c2 : Code := { maxStack := 4, maxLocals := 6, code := method_3_code, exceptionTable := #[], attributes := #[] }
def k1m2 : Method := { name := "place", desc := "([CIICCC)V", sig := { parameters := [(.array .char), .int, .int, .char, .char, .char], returnType := none }, accessFlags := 10, code := some k1c2 }
def k1c3 : Code := { maxStack := 6, maxLocals := 15, code := code, exceptionTable := #[], attributes := #[] }
def k1m3 : Method := { name := "law", desc := "(IIIII)Z", sig := { parameters := [.int, .int, .int, .int, .int], returnType := some .boolean }, accessFlags := 9, code := some k1c3 }
/-- com/example/trailwright/trailwright/xml/XmlNamesSetPinLaw -/
def k1 : Class := { plain "com/example/trailwright/trailwright/xml/XmlNamesSetPinLaw" (some 0) with
  accessFlags := 49
  interfaces := #[]
  cf := some (fileOf pool1 8 #[] #[{ accessFlags := 1, nameIndex := 5, descriptorIndex := 6, attributes := #[] }, { accessFlags := 10, nameIndex := 11, descriptorIndex := 12, attributes := #[] }, { accessFlags := 10, nameIndex := 15, descriptorIndex := 16, attributes := #[] }, { accessFlags := 9, nameIndex := 25, descriptorIndex := 26, attributes := #[] }] 49 2 #[] #[])
  fields := #[]
  methods := #[k1m0, k1m1, k1m2, k1m3]
  instanceTypes := #[]
  staticTypes := #[]
  resolved := Array.replicate 32 none
  statics := none }

def pool2 : Array CpInfo := pool [(2, .class_ 4), (1, u "java/lang/Object"), (0, u "<init>"), (0, u "()V"), (0, .class_ 8), (0, u "com/example/trailwright/trailwright/xml/XmlNames"), (0, .class_ 10), (0, u "com/example/trailwright/trailwright/xml/XmlNames$Name"), (2, u "slots"), (0, u "[Lcom/example/trailwright/trailwright/xml/XmlNames$Name;"), (2, u "next"), (0, u "[B"), (2, u "set"), (0, u "([CII)I"), (12, .integer 2654435761), (0, .integer 2246822507), (0, .integer 3266489909), (0, u "SETS"), (0, u "I"), (2, u "WAYS"), (1, u "LONGEST")] 11

def k2m0 : Method := { name := "<init>", desc := "()V", sig := { parameters := [], returnType := none }, accessFlags := 0, code := none }
def k2c1 : Code := { maxStack := 5, maxLocals := 4, code := prog_197_method_3_code, exceptionTable := #[], attributes := #[] }
def k2m1 : Method := { name := "set", desc := "([CII)I", sig := { parameters := [(.array .char), .int, .int], returnType := some .int }, accessFlags := 8, code := some k2c1 }
/-- com/example/trailwright/trailwright/xml/XmlNames -/
def k2 : Class := { plain "com/example/trailwright/trailwright/xml/XmlNames" (some 0) with
  accessFlags := 48
  interfaces := #[]
  cf := some (fileOf pool2 7 #[.nestMembers #[9]] #[{ accessFlags := 0, nameIndex := 5, descriptorIndex := 6, attributes := #[] }, { accessFlags := 8, nameIndex := 21, descriptorIndex := 22, attributes := #[] }] 48 2 #[] #[{ accessFlags := 26, nameIndex := 38, descriptorIndex := 39, attributes := #[] }, { accessFlags := 24, nameIndex := 42, descriptorIndex := 39, attributes := #[] }, { accessFlags := 26, nameIndex := 44, descriptorIndex := 39, attributes := #[] }, { accessFlags := 18, nameIndex := 13, descriptorIndex := 14, attributes := #[] }, { accessFlags := 18, nameIndex := 17, descriptorIndex := 18, attributes := #[] }])
  fields := #[{ name := "SETS", type := .int, accessFlags := 26, slot := 0, constantValue := 0 }, { name := "WAYS", type := .int, accessFlags := 24, slot := 1, constantValue := 0 }, { name := "LONGEST", type := .int, accessFlags := 26, slot := 2, constantValue := 0 }, { name := "slots", type := (.array (.object "com/example/trailwright/trailwright/xml/XmlNames$Name")), accessFlags := 18, slot := 0, constantValue := 0 }, { name := "next", type := (.array .byte), accessFlags := 18, slot := 1, constantValue := 0 }]
  methods := #[k2m0, k2m1]
  instanceTypes := #[(.array (.object "com/example/trailwright/trailwright/xml/XmlNames$Name")), (.array .byte)]
  staticTypes := #[.int, .int, .int]
  resolved := Array.replicate 56 none
  statics := none }

def pool3 : Array CpInfo := pool [(1, u "java/lang/Cloneable"), (0, .class_ 1), (0, u "java/lang/Object"), (0, .class_ 3)] 3

/-- java/lang/Cloneable -/
def k3 : Class := { plain "java/lang/Cloneable" (some 0) with
  accessFlags := 1537
  interfaces := #[]
  cf := some (fileOf pool3 2 #[] #[] 1537 4 #[] #[])
  fields := #[]
  methods := #[]
  instanceTypes := #[]
  staticTypes := #[]
  resolved := Array.replicate 8 none
  statics := none }

def pool4 : Array CpInfo := pool [(1, u "java/io/Serializable"), (0, .class_ 1), (0, u "java/lang/Object"), (0, .class_ 3)] 3

/-- java/io/Serializable -/
def k4 : Class := { plain "java/io/Serializable" (some 0) with
  accessFlags := 1537
  interfaces := #[]
  cf := some (fileOf pool4 2 #[] #[] 1537 4 #[] #[])
  fields := #[]
  methods := #[]
  instanceTypes := #[]
  staticTypes := #[]
  resolved := Array.replicate 8 none
  statics := none }

/-- the primitive byte -/
def k5 : Class := { plain "byte" none with kind := .primitive 'B', accessFlags := 0x411 }
/-- [B -/
def k6 : Class := { plain "[B" (some 0) with kind := .array 5 .byte, interfaces := #[3, 4], accessFlags := 1041 }

/-- the primitive char -/
def k7 : Class := { plain "char" none with kind := .primitive 'C', accessFlags := 0x411 }
/-- [C -/
def k8 : Class := { plain "[C" (some 0) with kind := .array 7 .char, interfaces := #[3, 4], accessFlags := 1041 }

/-- the primitive int -/
def k9 : Class := { plain "int" none with kind := .primitive 'I', accessFlags := 0x411 }
/-- [I -/
def k10 : Class := { plain "[I" (some 0) with kind := .array 9 .int, interfaces := #[3, 4], accessFlags := 1041 }

def heap : Heap := #[]
def classes : Array Class := #[k0, k1, k2, k3, k4, k5, k6, k7, k8, k9, k10]
def interned : List (Array UInt16 × Addr) := []
def slotsUsed : Nat := 0
def theMethod : MethodId := ⟨1, 3⟩
def args0 : Array Value := #[.int 5, .int 6, .int 7, .int 8, .int 0]
def aboutOver (below : List Frame) : State where
  vm := { classes := classes, interned := interned.toArray }
  heap := heap
  slotsUsed := slotsUsed
  threads := #[{ frames := .invoking theMethod args0 :: below }]
def below0 : List Frame := [.native { method := ⟨0, 0⟩, args := #[] }]
def about1 : State := aboutOver below0
def p0 : Program := .bare "" "" ""
def e0 : Env := launch0.env 0 0 0
theorem w_frames : about1.frames = Frame.invoking theMethod args0 :: below0 := rfl
set_option maxRecDepth 65536 in
theorem w_args : argsFit about1.vm theMethod args0 = true := by decide +kernel
set_option maxRecDepth 65536 in
theorem w_heap : heapFits about1 = true := by decide +kernel
set_option maxRecDepth 65536 in
theorem w_runnable : about1.curStatus? = some .runnable := by decide +kernel
set_option maxRecDepth 65536 in
theorem w_alone : about1.alone = true := by decide +kernel
set_option maxRecDepth 65536 in
theorem w_named : about1.methodNamed? x = some theMethod := by decide +kernel
set_option maxRecDepth 65536 in
theorem w_hears : about1.hears theMethod below0 = true := by decide +kernel
set_option maxRecDepth 65536 in
theorem w_ripe : about1.ripe theMethod args0 below0 = true := by decide +kernel
theorem w_running : about1.status = .running := rfl
set_option maxRecDepth 65536 in
theorem w_room : about1.hasRoom e0.platform room_1 = true :=
  launch0.hasRoom_least _ room_1 (by decide +kernel) (by decide +kernel) (by decide +kernel) (by decide +kernel) (by decide +kernel) (by decide +kernel)
theorem allAtoms_all (ts : List Jvm.Cond) (a : Array Jvm.Value) (st : Jvm.State) : (allAtoms ts).before a st = ts.all (fun c => c.before a st) := by
  induction ts with
  | nil => rfl
  | cons c t ih =>
    show (Jvm.Cond.and c (allAtoms t)).before a st = _
    rw [Jvm.Cond.before_and, ih, List.all_cons]
def words1 : List Jvm.Cond := Jvm.Cond.code x code maxLocals ret :: tables_1
/-- a 'code' word, met by the world's own term for the bytes: nothing is compared byte by byte -/
theorem code_word {y : MethodName} {bytes : ByteArray} {mx : Nat} {rt : Option FieldType} {a : Array Value} {s : State} {m : MethodId} {meth : Method} {c : Code} (h1 : s.methodNamed? y = some m) (h2 : s.vm.method? m = some meth) (h3 : meth.code = some c) (h4 : c.code = bytes)
    (h5 : (c.maxLocals == mx && c.exceptionTable.isEmpty && decide (c.maxStack ≤ mostOperands) && decide (meth.sig.returnType = rt) && !meth.locks && decide (parseMethodDescriptor y.desc = some meth.sig)) = true) : (Jvm.Cond.code y bytes mx rt).before a s = true := by
  simp only [Bool.and_eq_true, beq_iff_eq, Bool.not_eq_true', decide_eq_true_eq] at h5
  obtain ⟨⟨⟨⟨⟨g1, g2⟩, g3⟩, g4⟩, g5⟩, g6⟩ := h5
  simp [Cond.before, Cond.holds, Cond.value, h1, h2, h3, h4, g1, g2, g3, g4, g5, g6]
def isCode : Jvm.Cond → Bool
  | .code _ _ _ _ => true
  | _ => false
theorem all_split {L : List Jvm.Cond} {P : Jvm.Cond → Bool} (h1 : L.all (fun c => isCode c || P c) = true) (h2 : ∀ c ∈ L.filter isCode, P c = true) : L.all P = true := by
  refine List.all_eq_true.mpr fun c hc => ?_
  have h := List.all_eq_true.mp h1 c hc
  rcases Bool.eq_false_or_eq_true (isCode c) with hi | hi
  · exact h2 c (List.mem_filter.mpr ⟨hc, hi⟩)
  · simpa [hi] using h
set_option maxRecDepth 65536 in
theorem w_c0 : (Jvm.Cond.code x code maxLocals ret).before args0 about1 = true := code_word (m := ⟨1, 3⟩) (meth := k1m3) (c := k1c3) (by decide +kernel) rfl rfl rfl (by decide +kernel)
set_option maxRecDepth 65536 in
theorem w_c1 : (Jvm.Cond.code ({ cls := "com/example/trailwright/trailwright/xml/XmlNamesSetPinLaw", name := "filled", desc := "(I)[C" } : Jvm.MethodName) method_2_code (2 : Nat) (Option.some (Jvm.ClassFile.FieldType.array Jvm.ClassFile.FieldType.char))).before args0 about1 = true := code_word (m := ⟨1, 1⟩) (meth := k1m1) (c := k1c1) (by decide +kernel) rfl rfl rfl (by decide +kernel)
set_option maxRecDepth 65536 in
theorem w_c2 : (Jvm.Cond.code ({ cls := "com/example/trailwright/trailwright/xml/XmlNamesSetPinLaw", name := "place", desc := "([CIICCC)V" } : Jvm.MethodName) method_3_code (6 : Nat) (Option.none : Option Jvm.ClassFile.FieldType)).before args0 about1 = true := code_word (m := ⟨1, 2⟩) (meth := k1m2) (c := k1c2) (by decide +kernel) rfl rfl rfl (by decide +kernel)
set_option maxRecDepth 65536 in
theorem w_c3 : (Jvm.Cond.code ({ cls := "com/example/trailwright/trailwright/xml/XmlNames", name := "set", desc := "([CII)I" } : Jvm.MethodName) prog_197_method_3_code (4 : Nat) (Option.some Jvm.ClassFile.FieldType.int)).before args0 about1 = true := code_word (m := ⟨2, 1⟩) (meth := k2m1) (c := k2c1) (by decide +kernel) rfl rfl rfl (by decide +kernel)
def codes1 : List Jvm.Cond := [Jvm.Cond.code x code maxLocals ret, Jvm.Cond.code ({ cls := "com/example/trailwright/trailwright/xml/XmlNamesSetPinLaw", name := "filled", desc := "(I)[C" } : Jvm.MethodName) method_2_code (2 : Nat) (Option.some (Jvm.ClassFile.FieldType.array Jvm.ClassFile.FieldType.char)), Jvm.Cond.code ({ cls := "com/example/trailwright/trailwright/xml/XmlNamesSetPinLaw", name := "place", desc := "([CIICCC)V" } : Jvm.MethodName) method_3_code (6 : Nat) (Option.none : Option Jvm.ClassFile.FieldType), Jvm.Cond.code ({ cls := "com/example/trailwright/trailwright/xml/XmlNames", name := "set", desc := "([CII)I" } : Jvm.MethodName) prog_197_method_3_code (4 : Nat) (Option.some Jvm.ClassFile.FieldType.int)]
set_option maxRecDepth 65536 in
theorem codes_eq : words1.filter isCode = codes1 := rfl
theorem w_codes : ∀ c ∈ words1.filter isCode, c.before args0 about1 = true := by
  rw [codes_eq]
  intro c hc
  simp only [codes1, List.mem_cons, List.not_mem_nil, or_false] at hc
  rcases hc with rfl | rfl | rfl | rfl
  · exact w_c0
  · exact w_c1
  · exact w_c2
  · exact w_c3
set_option maxRecDepth 65536 in
theorem w_t1 : words1.all (fun c => isCode c || c.before args0 about1) = true := by decide +kernel
theorem w_tables : (allAtoms (Jvm.Cond.code x code maxLocals ret :: tables_1)).before args0 about1 = true := by
  rw [allAtoms_all]
  show words1.all (fun c => c.before args0 about1) = true
  refine all_split ?_ w_codes
  rw [w_t1]
set_option maxRecDepth 65536 in
theorem w_case : (Jvm.Cond.and given_1 narrow_1).before args0 about1 = true := by decide +kernel
theorem w_applies : (headSpec (Jvm.Cond.code x code maxLocals ret :: tables_1) room_1).applies x e0.platform about1 = true :=
  (Spec.applies_iff w_frames).mpr ⟨w_running, w_runnable, w_alone, w_named, w_hears, w_ripe, w_room, w_tables⟩
theorem atStart : AtStart classFile x code maxLocals ret World_1 tables_1 room_1 Calls_1 rest_1 Pre_1 launch0 p0 e0 about1 theMethod args0 below0 :=
  ⟨lists_1, trivial, launch0.admits_env _ _ _, launch0.least_env, fairChoices_fair.cas, fairChoices_fair.clock, w_frames, w_args, w_heap, w_applies, trivial, trivial, w_case⟩
end start1
theorem witness_1 : WitnessClaimed_1 := ⟨start1.p0, start1.e0, start1.about1, start1.theMethod, start1.args0, start1.below0, start1.atStart⟩
end Jvm.Pilot.@@N@@
