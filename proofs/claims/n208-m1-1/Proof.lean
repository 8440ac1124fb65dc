import JvmDerived
import JvmDerived.Pilot.@@N@@Statement
import JvmDerived.Pilot.@@N@@Code
set_option linter.unusedVariables false
set_option linter.unusedSimpArgs false
namespace Jvm.RoadKit
open Sem ClassFile Op Lib Jvm.Stand Jvm.Free Jvm.LawKit
section New
variable {p : Program} {l : Launch} {e : Env} {R : Room} {s : State} {m : MethodId} {args : Array Value} {below : List Frame} {meth : Method} {c : Code} {T : State} {locs : List Loc} {cells slots : Nat}
theorem retI (X : Stand p l e R s m args below meth c T locs cells slots) (hx : p.tables.exec = Jvm.exec) {pc : Nat} {Ls : Array Slot} {z : Int32} {rest : List Value} (hret : meth.sig.returnType = some .int) (hd : decode c.code pc = .ok (.ireturn, 1)) {fs : List Frame}
    (hl : ∀ (f : JFrame) (acts : List Action), f.method = m → f.locked = none → f.entered = [] → (doReturn e (T.setTop f) acts (some (.int z))).1 = T.setFrames fs) : Steps p.tables e below (T.setTop (mkF m pc Ls (.int z :: rest))) (T.setFrames fs) := by
  have hm' : T.vm.method? m = some meth := X.method'
  have hn : narrow .int (.int z) = .int z := rfl
  show Steps p.tables e below (T.setTop { method := m, pc := pc, locals := Ls, stack := _ :: rest, locked := none }) _
  jvm_step X.here [X.here.top, hx, hd, hm', hret, hn]
  first | (intro acts; rw [hl _ acts rfl rfl rfl]) | rw [hl _ _ rfl rfl rfl]
  exact Steps.refl _
variable {Z : State} {h : Heap} {a : Addr} {k : ClassId} {z j : Int32} {vs : List Value} {dv : Value}
theorem own_nar (x : Int32) : nar .byte (x.toInt8.toInt32) = x.toInt8.toInt32 := by
  show (x.toInt8.toInt32).toInt8.toInt32 = _
  rw [Int8.toInt8_toInt32]
theorem own_bal (X : Stand p l e R s m args below meth c T locs cells slots) (hx : p.tables.exec = Jvm.exec) (hZ : Z.Warmed39 s.vm) (eT : T.heap = h) (A : Arv Z h a k .byte z vs dv) (hj : ¬ j < 0 ∧ j < z) {v : Value} (hv : vs.getD j.toNatClampNeg dv = v)
    {g : JFrame} (hg : g.method = m) {rest : List Value} (hs : g.stack = .int j :: .ref a :: rest) (hd : decode c.code g.pc = .ok (.baload, 1)) (target : State)
    (hrest : Steps p.tables e below (T.setTop { g with pc := g.pc + 1, stack := v :: rest }) target) : Steps p.tables e below (T.setTop g) target := by
  obtain ⟨cl, Ar, -, S, N, H, -⟩ := A
  have hin := inb_of S hj
  exact X.baloadBytes hx (j := j) (v := v) (by rw [eT]; exact Ar.1) (State.isArrayOf_alike hZ.alike Ar.2.1) Ar.2.2 hin (Has.at H hin hv) hg hs hd target hrest
theorem own_len {ty : FieldType} (X : Stand p l e R s m args below meth c T locs cells slots) (hx : p.tables.exec = Jvm.exec) (hZ : Z.Warmed39 s.vm) (eT : T.heap = h) (A : Arv Z h a k ty z vs dv)
    {g : JFrame} (hg : g.method = m) {rest : List Value} (hs : g.stack = .ref a :: rest) (hd : decode c.code g.pc = .ok (.arraylength, 1)) (target : State)
    (hrest : Steps p.tables e below (T.setTop { g with pc := g.pc + 1, stack := .int z :: rest }) target) : Steps p.tables e below (T.setTop g) target := by
  obtain ⟨cl, Ar, -, S, N, H, -⟩ := A
  refine X.arraylength hx (by rw [eT]; exact Ar.1) (State.isArrayOf_alike hZ.alike Ar.2.1) hg hs hd target ?_
  rw [len_of S N]
  exact hrest
theorem own_bst (X : Stand p l e R s m args below meth c T locs cells slots) (hx : p.tables.exec = Jvm.exec) (hZ : Z.Warmed39 s.vm) (eT : T.heap = h) (A : Arv Z h a k .byte z vs dv) (hj : ¬ j < 0 ∧ j < z) {i : Nat} (hi : j.toNatClampNeg = i) (hl : i < vs.length) {x w : Int32} (hw : nar .byte x = w)
    {g : JFrame} (hg : g.method = m) {rest : List Value} (hs : g.stack = .int x :: .int j :: .ref a :: rest) (hd : decode c.code g.pc = .ok (.bastore, 1)) :
    ∃ T' h', Stand p l e R s m args below meth c T' (locs ++ [⟨a, j.toNatClampNeg⟩]) cells slots ∧ T'.heap = h' ∧ Wr h h' a j.toNatClampNeg (.int w) ∧ Arv Z h' a k .byte z (vs.set i (.int w)) dv ∧
      ∀ target, Steps p.tables e below (T'.setTop { g with pc := g.pc + 1, stack := rest }) target → Steps p.tables e below (T.setTop g) target := by
  obtain ⟨cl, Ar, q, S, N, H, G⟩ := A
  obtain ⟨T', h', X', e', W', st⟩ := stB X hx hZ eT Ar (j := j) (inb_of S hj) hg hs hd
  subst hw
  exact ⟨T', h', X', e', W', Arv.set Ar q S N H G (fits_nar_byte _) W' i hi hl, st⟩
theorem own_selp {s : State} {args : Array Value} {C : String} {y w : MethodName} (hc : y.cls = w.cls) (hsel : (Cond.selects C w w).before args s = true) (hpriv : s.PrivateAt y) (hinst : (Cond.instanceMethod y).before args s = true) (hy : y.cls ≠ "java/lang/invoke/MethodHandle" ∧ y.cls ≠ "java/lang/invoke/VarHandle") : (Cond.selects y.cls y y).before args s = true := by
  obtain ⟨c2, r2, m2, q1, q2, q3, q4, kP, hkP, hkPi⟩ := Cond.selects_spec hsel
  exact selects_self_of_private (by rw [hc]; exact findClass_of_methodNamed q3) hkP hkPi hpriv hinst hy
end New
end Jvm.RoadKit
namespace Jvm.Pilot.@@N@@
open Jvm Jvm.ClassFile Sem Op Lib Jvm.Free Jvm.Stand Jvm.LawKit Jvm.RoadKit Bundle Jvm.Pilot.@@N@@.Jvm.D
def own_dbl (t : Int32) : Int32 := if (1024 : Int32) < t then (if (2048 : Int32) < t then (if (4096 : Int32) < t then (if (8192 : Int32) < t then (if (16384 : Int32) < t then (if (32768 : Int32) < t then (if (65536 : Int32) < t then (if (131072 : Int32) < t then (if (262144 : Int32) < t then (if (524288 : Int32) < t then (if (1048576 : Int32) < t then (if (2097152 : Int32) < t then (if (4194304 : Int32) < t then (if (8388608 : Int32) < t then (if (16777216 : Int32) < t then (15) else 14) else 13) else 12) else 11) else 10) else 9) else 8) else 7) else 6) else 5) else 4) else 3) else 2) else 1) else 0
theorem own_cmp (t : Int32) (a : Int64) (b : Int32) (e : a = b.toInt64) : a < t.toInt64 ↔ b < t := by
  subst e
  rw [Int64.lt_iff_toInt_lt, Int32.lt_iff_toInt_lt, Int32.toInt_toInt64, Int32.toInt_toInt64]
def own_lim (d : Int32) : Int64 := ((1024 : Int64) <<< (d &&& 0x3f).toInt64)
def own_rd (d st : Int32) : Int32 := if own_lim d < st.toInt64 then ((d <<< ((1 : Int32) &&& 31)) ||| (1 : Int32)) else ((d <<< ((1 : Int32) &&& 31)) ||| (0 : Int32))
theorem own_ex {P : Prop} [Decidable P] {a b : Int32} (ha : ∃ k : Fin 16, a = Int32.ofNat k.val) (hb : ∃ k : Fin 16, b = Int32.ofNat k.val) : ∃ k : Fin 16, (if P then a else b) = Int32.ofNat k.val := by
  by_cases h : P
  · rw [if_pos h]; exact ha
  · rw [if_neg h]; exact hb
theorem own_fin (t : Int32) : ∃ k : Fin 16, own_dbl t = Int32.ofNat k.val := (own_ex (own_ex (own_ex (own_ex (own_ex (own_ex (own_ex (own_ex (own_ex (own_ex (own_ex (own_ex (own_ex (own_ex (own_ex ⟨15, rfl⟩ ⟨14, rfl⟩) ⟨13, rfl⟩) ⟨12, rfl⟩) ⟨11, rfl⟩) ⟨10, rfl⟩) ⟨9, rfl⟩) ⟨8, rfl⟩) ⟨7, rfl⟩) ⟨6, rfl⟩) ⟨5, rfl⟩) ⟨4, rfl⟩) ⟨3, rfl⟩) ⟨2, rfl⟩) ⟨1, rfl⟩) ⟨0, rfl⟩)
theorem own_sh (k : Fin 16) : ((Int32.ofNat k.val <<< ((1 : Int32) &&& 31)) ||| (1 : Int32)) = Int32.ofNat k.val * 2 + 1 ∧ ((Int32.ofNat k.val <<< ((1 : Int32) &&& 31)) ||| (0 : Int32)) = Int32.ofNat k.val * 2 + 0 := by
  revert k; decide +kernel
theorem own_eq (t st z : Int32) (h : z = if own_lim (own_dbl t) < st.toInt64 then 1 else 0) : own_rd (own_dbl t) st = own_dbl t * 2 + z := by
  obtain ⟨k, hk⟩ := own_fin t
  rw [own_rd, h]
  split
  · rw [hk]; exact (own_sh k).1
  · rw [hk]; exact (own_sh k).2
theorem d2_0 : decode method_3_code 0 = .ok (.iload_n 0, 1) := by decide +kernel
theorem d2_1 : decode method_3_code 1 = .ok (.sipush 1024, 3) := by decide +kernel
theorem d2_4 : decode method_3_code 4 = .ok (.if_icmp .gt 5, 3) := by decide +kernel
theorem d2_9 : decode method_3_code 9 = .ok (.iload_n 0, 1) := by decide +kernel
theorem d2_10 : decode method_3_code 10 = .ok (.sipush 2048, 3) := by decide +kernel
theorem d2_13 : decode method_3_code 13 = .ok (.if_icmp .gt 5, 3) := by decide +kernel
theorem d2_18 : decode method_3_code 18 = .ok (.iload_n 0, 1) := by decide +kernel
theorem d2_19 : decode method_3_code 19 = .ok (.sipush 4096, 3) := by decide +kernel
theorem d2_22 : decode method_3_code 22 = .ok (.if_icmp .gt 5, 3) := by decide +kernel
theorem d2_27 : decode method_3_code 27 = .ok (.iload_n 0, 1) := by decide +kernel
theorem d2_28 : decode method_3_code 28 = .ok (.sipush 8192, 3) := by decide +kernel
theorem d2_31 : decode method_3_code 31 = .ok (.if_icmp .gt 5, 3) := by decide +kernel
theorem d2_36 : decode method_3_code 36 = .ok (.iload_n 0, 1) := by decide +kernel
theorem d2_37 : decode method_3_code 37 = .ok (.sipush 16384, 3) := by decide +kernel
theorem d2_40 : decode method_3_code 40 = .ok (.if_icmp .gt 5, 3) := by decide +kernel
theorem d2_45 : decode method_3_code 45 = .ok (.iload_n 0, 1) := by decide +kernel
theorem d2_46 : decode method_3_code 46 = .ok (.ldc 22, 2) := by decide +kernel
theorem d2_48 : decode method_3_code 48 = .ok (.if_icmp .gt 5, 3) := by decide +kernel
theorem d2_53 : decode method_3_code 53 = .ok (.iload_n 0, 1) := by decide +kernel
theorem d2_54 : decode method_3_code 54 = .ok (.ldc 23, 2) := by decide +kernel
theorem d2_56 : decode method_3_code 56 = .ok (.if_icmp .gt 6, 3) := by decide +kernel
theorem d2_62 : decode method_3_code 62 = .ok (.iload_n 0, 1) := by decide +kernel
theorem d2_63 : decode method_3_code 63 = .ok (.ldc 24, 2) := by decide +kernel
theorem d2_65 : decode method_3_code 65 = .ok (.if_icmp .gt 6, 3) := by decide +kernel
theorem d2_71 : decode method_3_code 71 = .ok (.iload_n 0, 1) := by decide +kernel
theorem d2_72 : decode method_3_code 72 = .ok (.ldc 25, 2) := by decide +kernel
theorem d2_74 : decode method_3_code 74 = .ok (.if_icmp .gt 6, 3) := by decide +kernel
theorem d2_80 : decode method_3_code 80 = .ok (.iload_n 0, 1) := by decide +kernel
theorem d2_81 : decode method_3_code 81 = .ok (.ldc 26, 2) := by decide +kernel
theorem d2_83 : decode method_3_code 83 = .ok (.if_icmp .gt 6, 3) := by decide +kernel
theorem d2_89 : decode method_3_code 89 = .ok (.iload_n 0, 1) := by decide +kernel
theorem d2_90 : decode method_3_code 90 = .ok (.ldc 27, 2) := by decide +kernel
theorem d2_92 : decode method_3_code 92 = .ok (.if_icmp .gt 6, 3) := by decide +kernel
theorem d2_98 : decode method_3_code 98 = .ok (.iload_n 0, 1) := by decide +kernel
theorem d2_99 : decode method_3_code 99 = .ok (.ldc 28, 2) := by decide +kernel
theorem d2_101 : decode method_3_code 101 = .ok (.if_icmp .gt 6, 3) := by decide +kernel
theorem d2_107 : decode method_3_code 107 = .ok (.iload_n 0, 1) := by decide +kernel
theorem d2_108 : decode method_3_code 108 = .ok (.ldc 29, 2) := by decide +kernel
theorem d2_110 : decode method_3_code 110 = .ok (.if_icmp .gt 6, 3) := by decide +kernel
theorem d2_116 : decode method_3_code 116 = .ok (.iload_n 0, 1) := by decide +kernel
theorem d2_117 : decode method_3_code 117 = .ok (.ldc 30, 2) := by decide +kernel
theorem d2_119 : decode method_3_code 119 = .ok (.if_icmp .gt 6, 3) := by decide +kernel
theorem d2_125 : decode method_3_code 125 = .ok (.iload_n 0, 1) := by decide +kernel
theorem d2_126 : decode method_3_code 126 = .ok (.ldc 31, 2) := by decide +kernel
theorem d2_128 : decode method_3_code 128 = .ok (.if_icmp .gt 6, 3) := by decide +kernel
theorem d2_134 : decode method_3_code 134 = .ok (.bipush 15, 2) := by decide +kernel
theorem d2_136 : decode method_3_code 136 = .ok (.ireturn, 1) := by decide +kernel
theorem d2_131 : decode method_3_code 131 = .ok (.bipush 14, 2) := by decide +kernel
theorem d2_133 : decode method_3_code 133 = .ok (.ireturn, 1) := by decide +kernel
theorem d2_122 : decode method_3_code 122 = .ok (.bipush 13, 2) := by decide +kernel
theorem d2_124 : decode method_3_code 124 = .ok (.ireturn, 1) := by decide +kernel
theorem d2_113 : decode method_3_code 113 = .ok (.bipush 12, 2) := by decide +kernel
theorem d2_115 : decode method_3_code 115 = .ok (.ireturn, 1) := by decide +kernel
theorem d2_104 : decode method_3_code 104 = .ok (.bipush 11, 2) := by decide +kernel
theorem d2_106 : decode method_3_code 106 = .ok (.ireturn, 1) := by decide +kernel
theorem d2_95 : decode method_3_code 95 = .ok (.bipush 10, 2) := by decide +kernel
theorem d2_97 : decode method_3_code 97 = .ok (.ireturn, 1) := by decide +kernel
theorem d2_86 : decode method_3_code 86 = .ok (.bipush 9, 2) := by decide +kernel
theorem d2_88 : decode method_3_code 88 = .ok (.ireturn, 1) := by decide +kernel
theorem d2_77 : decode method_3_code 77 = .ok (.bipush 8, 2) := by decide +kernel
theorem d2_79 : decode method_3_code 79 = .ok (.ireturn, 1) := by decide +kernel
theorem d2_68 : decode method_3_code 68 = .ok (.bipush 7, 2) := by decide +kernel
theorem d2_70 : decode method_3_code 70 = .ok (.ireturn, 1) := by decide +kernel
theorem d2_59 : decode method_3_code 59 = .ok (.bipush 6, 2) := by decide +kernel
theorem d2_61 : decode method_3_code 61 = .ok (.ireturn, 1) := by decide +kernel
theorem d2_51 : decode method_3_code 51 = .ok (.iconst 5, 1) := by decide +kernel
theorem d2_52 : decode method_3_code 52 = .ok (.ireturn, 1) := by decide +kernel
theorem d2_43 : decode method_3_code 43 = .ok (.iconst 4, 1) := by decide +kernel
theorem d2_44 : decode method_3_code 44 = .ok (.ireturn, 1) := by decide +kernel
theorem d2_34 : decode method_3_code 34 = .ok (.iconst 3, 1) := by decide +kernel
theorem d2_35 : decode method_3_code 35 = .ok (.ireturn, 1) := by decide +kernel
theorem d2_25 : decode method_3_code 25 = .ok (.iconst 2, 1) := by decide +kernel
theorem d2_26 : decode method_3_code 26 = .ok (.ireturn, 1) := by decide +kernel
theorem d2_16 : decode method_3_code 16 = .ok (.iconst 1, 1) := by decide +kernel
theorem d2_17 : decode method_3_code 17 = .ok (.ireturn, 1) := by decide +kernel
theorem d2_7 : decode method_3_code 7 = .ok (.iconst 0, 1) := by decide +kernel
theorem d2_8 : decode method_3_code 8 = .ok (.ireturn, 1) := by decide +kernel
theorem pn_0 : plainName "com/example/seshat/seshat/reader/ArchiveNamesReadingPinLaw" = true := by first | (simp [plainName, overriddenIn]; done) | decide +kernel
theorem ef_rm2 (m : MethodId) (x0 : Int32) : entryFrame m #[(.int x0)] 1 = mkF m 0 #[.val (.int x0)] [] := by first | (simp [entryFrame, mkF, argsToLocals, Value.category]; done) | rfl
def Q2 (Z : State) (p1 : Int32) (h0 : Heap) (n0 : Nat) (v : Option Value) (h : Heap) (L : List Loc) : Prop := v = some (.int (own_dbl p1)) ∧ Fr n0 L ∧ h = h0
set_option maxRecDepth 65536 in
set_option maxHeartbeats 40000000 in
theorem rm2 (l : Launch) (Z : State) (a0 : Array Value) (hw : ∀ d ∈ tables_1, d.before a0 Z = true) (ws : List Jvm.Cond) (p1 : Int32) (h0 : Heap) (n0 : Nat) (Z0 : n0 ≤ h0.size)  :
    MetFree l (⟨"com/example/seshat/seshat/reader/ArchiveNamesReadingPinLaw", "doublings", "(I)I"⟩ : MethodName) (head1 (Jvm.Cond.code (⟨"com/example/seshat/seshat/reader/ArchiveNamesReadingPinLaw", "doublings", "(I)I"⟩ : MethodName) method_3_code 1 (some .int) :: ws) ({ frames := 0, cells := 0, slots := 0, locals := 0 } : Room)) (fun a U => a = #[(.int p1)] ∧ Z.Warmed39 U.vm ∧ U.heap = h0) (fun _ _ _ _ _ => True) (fun _ U o U' => ∃ v L, o = .returned v ∧ Q2 Z p1 h0 n0 v U'.heap L ∧ FrameEnd U o U' L ({ frames := 0, cells := 0, slots := 0, locals := 0 } : Room).cells ({ frames := 0, cells := 0, slots := 0, locals := 0 } : Room).slots) := by
  refine MetFree.of_bodySF (plainFor_of_name pn_0) hisR ?_
  intro p e s m args below meth c s₁ Bd hml0 hP hK
  obtain ⟨rfl, hZ, hh⟩ := hP
  have hx := Bd.exec
  have hby := Bd.bytes
  have hml : c.maxLocals = 1 := hml0
  have hown : s.vm.findClass "com/example/seshat/seshat/reader/ArchiveNamesReadingPinLaw" = some m.cls := findClass_of_methodNamed Bd.named
  have hnm := (name_of_methodNamed Bd.named Bd.method).1
  have X0 : Stand p l e ({ frames := 0, cells := 0, slots := 0, locals := 0 } : Room) s m #[(.int p1)] below meth c s₁ [] 0 0 := Stand.of_body Bd
  have e0 : s₁.heap = h0 := by rw [← hh, Bd.state]; rfl
  have N0 := Fr.nil n0
  have pre0 : ∀ t, Steps p.tables e below (s₁.setTop (mkF m 0 #[.val (.int p1)] [])) t → Steps p.tables e below (s₁.setTop (entryFrame m #[(.int p1)] 1)) t := fun t k => castTop (ef_rm2 m p1) k
  have pre101 : ∀ t, Steps p.tables e below (s₁.setTop (mkF m 4 #[.val (.int p1)] [(.int (1024 : Int32)), (.int p1)])) t → Steps p.tables e below (s₁.setTop (entryFrame m #[(.int p1)] 1)) t := by
    intro t kt
    refine pre0 t ?_
    show Steps p.tables e below (s₁.setTop (mkF m 0 #[.val (.int p1)] [])) _
    refine XS.iloadN X0.here hx rfl (hb hby d2_0) rfl ?_
    show Steps p.tables e below (s₁.setTop (mkF m 1 #[.val (.int p1)] [(.int p1)])) _
    refine XS.sipush X0.here hx rfl (hb hby d2_1) ?_
    exact kt
  by_cases hc4 : (1024 : Int32) < p1
  · have pre102 : ∀ t, Steps p.tables e below (s₁.setTop (mkF m 13 #[.val (.int p1)] [(.int (2048 : Int32)), (.int p1)])) t → Steps p.tables e below (s₁.setTop (entryFrame m #[(.int p1)] 1)) t := by
      intro t kt
      refine pre101 t ?_
      show Steps p.tables e below (s₁.setTop (mkF m 4 #[.val (.int p1)] [(.int (1024 : Int32)), (.int p1)])) _
      refine XS.icmpYes X0.here hx rfl (pc0 := 4) (pc' := 9) rfl (hb hby d2_4) rfl (tlt hc4).2.2.1 (by decide) (by decide) ?_
      show Steps p.tables e below (s₁.setTop (mkF m 9 #[.val (.int p1)] [])) _
      refine XS.iloadN X0.here hx rfl (hb hby d2_9) rfl ?_
      show Steps p.tables e below (s₁.setTop (mkF m 10 #[.val (.int p1)] [(.int p1)])) _
      refine XS.sipush X0.here hx rfl (hb hby d2_10) ?_
      exact kt
    by_cases hc13 : (2048 : Int32) < p1
    · have pre103 : ∀ t, Steps p.tables e below (s₁.setTop (mkF m 22 #[.val (.int p1)] [(.int (4096 : Int32)), (.int p1)])) t → Steps p.tables e below (s₁.setTop (entryFrame m #[(.int p1)] 1)) t := by
        intro t kt
        refine pre102 t ?_
        show Steps p.tables e below (s₁.setTop (mkF m 13 #[.val (.int p1)] [(.int (2048 : Int32)), (.int p1)])) _
        refine XS.icmpYes X0.here hx rfl (pc0 := 13) (pc' := 18) rfl (hb hby d2_13) rfl (tlt hc13).2.2.1 (by decide) (by decide) ?_
        show Steps p.tables e below (s₁.setTop (mkF m 18 #[.val (.int p1)] [])) _
        refine XS.iloadN X0.here hx rfl (hb hby d2_18) rfl ?_
        show Steps p.tables e below (s₁.setTop (mkF m 19 #[.val (.int p1)] [(.int p1)])) _
        refine XS.sipush X0.here hx rfl (hb hby d2_19) ?_
        exact kt
      by_cases hc22 : (4096 : Int32) < p1
      · have pre104 : ∀ t, Steps p.tables e below (s₁.setTop (mkF m 31 #[.val (.int p1)] [(.int (8192 : Int32)), (.int p1)])) t → Steps p.tables e below (s₁.setTop (entryFrame m #[(.int p1)] 1)) t := by
          intro t kt
          refine pre103 t ?_
          show Steps p.tables e below (s₁.setTop (mkF m 22 #[.val (.int p1)] [(.int (4096 : Int32)), (.int p1)])) _
          refine XS.icmpYes X0.here hx rfl (pc0 := 22) (pc' := 27) rfl (hb hby d2_22) rfl (tlt hc22).2.2.1 (by decide) (by decide) ?_
          show Steps p.tables e below (s₁.setTop (mkF m 27 #[.val (.int p1)] [])) _
          refine XS.iloadN X0.here hx rfl (hb hby d2_27) rfl ?_
          show Steps p.tables e below (s₁.setTop (mkF m 28 #[.val (.int p1)] [(.int p1)])) _
          refine XS.sipush X0.here hx rfl (hb hby d2_28) ?_
          exact kt
        by_cases hc31 : (8192 : Int32) < p1
        · have pre105 : ∀ t, Steps p.tables e below (s₁.setTop (mkF m 40 #[.val (.int p1)] [(.int (16384 : Int32)), (.int p1)])) t → Steps p.tables e below (s₁.setTop (entryFrame m #[(.int p1)] 1)) t := by
            intro t kt
            refine pre104 t ?_
            show Steps p.tables e below (s₁.setTop (mkF m 31 #[.val (.int p1)] [(.int (8192 : Int32)), (.int p1)])) _
            refine XS.icmpYes X0.here hx rfl (pc0 := 31) (pc' := 36) rfl (hb hby d2_31) rfl (tlt hc31).2.2.1 (by decide) (by decide) ?_
            show Steps p.tables e below (s₁.setTop (mkF m 36 #[.val (.int p1)] [])) _
            refine XS.iloadN X0.here hx rfl (hb hby d2_36) rfl ?_
            show Steps p.tables e below (s₁.setTop (mkF m 37 #[.val (.int p1)] [(.int p1)])) _
            refine XS.sipush X0.here hx rfl (hb hby d2_37) ?_
            exact kt
          by_cases hc40 : (16384 : Int32) < p1
          · have pre106 : ∀ t, Steps p.tables e below (s₁.setTop (mkF m 48 #[.val (.int p1)] [(.int (32768 : Int32)), (.int p1)])) t → Steps p.tables e below (s₁.setTop (entryFrame m #[(.int p1)] 1)) t := by
              intro t kt
              refine pre105 t ?_
              show Steps p.tables e below (s₁.setTop (mkF m 40 #[.val (.int p1)] [(.int (16384 : Int32)), (.int p1)])) _
              refine XS.icmpYes X0.here hx rfl (pc0 := 40) (pc' := 45) rfl (hb hby d2_40) rfl (tlt hc40).2.2.1 (by decide) (by decide) ?_
              show Steps p.tables e below (s₁.setTop (mkF m 45 #[.val (.int p1)] [])) _
              refine XS.iloadN X0.here hx rfl (hb hby d2_45) rfl ?_
              show Steps p.tables e below (s₁.setTop (mkF m 46 #[.val (.int p1)] [(.int p1)])) _
              refine X0.ldcInt hx hown (mvT hZ (hw _ (List.mem_of_getElem? (i := 11) rfl))) (g := (mkF m 46 #[.val (.int p1)] [(.int p1)])) rfl (hb hby d2_46) _ ?_
              exact kt
            by_cases hc48 : (32768 : Int32) < p1
            · have pre107 : ∀ t, Steps p.tables e below (s₁.setTop (mkF m 56 #[.val (.int p1)] [(.int (65536 : Int32)), (.int p1)])) t → Steps p.tables e below (s₁.setTop (entryFrame m #[(.int p1)] 1)) t := by
                intro t kt
                refine pre106 t ?_
                show Steps p.tables e below (s₁.setTop (mkF m 48 #[.val (.int p1)] [(.int (32768 : Int32)), (.int p1)])) _
                refine XS.icmpYes X0.here hx rfl (pc0 := 48) (pc' := 53) rfl (hb hby d2_48) rfl (tlt hc48).2.2.1 (by decide) (by decide) ?_
                show Steps p.tables e below (s₁.setTop (mkF m 53 #[.val (.int p1)] [])) _
                refine XS.iloadN X0.here hx rfl (hb hby d2_53) rfl ?_
                show Steps p.tables e below (s₁.setTop (mkF m 54 #[.val (.int p1)] [(.int p1)])) _
                refine X0.ldcInt hx hown (mvT hZ (hw _ (List.mem_of_getElem? (i := 12) rfl))) (g := (mkF m 54 #[.val (.int p1)] [(.int p1)])) rfl (hb hby d2_54) _ ?_
                exact kt
              by_cases hc56 : (65536 : Int32) < p1
              · have pre108 : ∀ t, Steps p.tables e below (s₁.setTop (mkF m 65 #[.val (.int p1)] [(.int (131072 : Int32)), (.int p1)])) t → Steps p.tables e below (s₁.setTop (entryFrame m #[(.int p1)] 1)) t := by
                  intro t kt
                  refine pre107 t ?_
                  show Steps p.tables e below (s₁.setTop (mkF m 56 #[.val (.int p1)] [(.int (65536 : Int32)), (.int p1)])) _
                  refine XS.icmpYes X0.here hx rfl (pc0 := 56) (pc' := 62) rfl (hb hby d2_56) rfl (tlt hc56).2.2.1 (by decide) (by decide) ?_
                  show Steps p.tables e below (s₁.setTop (mkF m 62 #[.val (.int p1)] [])) _
                  refine XS.iloadN X0.here hx rfl (hb hby d2_62) rfl ?_
                  show Steps p.tables e below (s₁.setTop (mkF m 63 #[.val (.int p1)] [(.int p1)])) _
                  refine X0.ldcInt hx hown (mvT hZ (hw _ (List.mem_of_getElem? (i := 13) rfl))) (g := (mkF m 63 #[.val (.int p1)] [(.int p1)])) rfl (hb hby d2_63) _ ?_
                  exact kt
                by_cases hc65 : (131072 : Int32) < p1
                · have pre109 : ∀ t, Steps p.tables e below (s₁.setTop (mkF m 74 #[.val (.int p1)] [(.int (262144 : Int32)), (.int p1)])) t → Steps p.tables e below (s₁.setTop (entryFrame m #[(.int p1)] 1)) t := by
                    intro t kt
                    refine pre108 t ?_
                    show Steps p.tables e below (s₁.setTop (mkF m 65 #[.val (.int p1)] [(.int (131072 : Int32)), (.int p1)])) _
                    refine XS.icmpYes X0.here hx rfl (pc0 := 65) (pc' := 71) rfl (hb hby d2_65) rfl (tlt hc65).2.2.1 (by decide) (by decide) ?_
                    show Steps p.tables e below (s₁.setTop (mkF m 71 #[.val (.int p1)] [])) _
                    refine XS.iloadN X0.here hx rfl (hb hby d2_71) rfl ?_
                    show Steps p.tables e below (s₁.setTop (mkF m 72 #[.val (.int p1)] [(.int p1)])) _
                    refine X0.ldcInt hx hown (mvT hZ (hw _ (List.mem_of_getElem? (i := 14) rfl))) (g := (mkF m 72 #[.val (.int p1)] [(.int p1)])) rfl (hb hby d2_72) _ ?_
                    exact kt
                  by_cases hc74 : (262144 : Int32) < p1
                  · have pre110 : ∀ t, Steps p.tables e below (s₁.setTop (mkF m 83 #[.val (.int p1)] [(.int (524288 : Int32)), (.int p1)])) t → Steps p.tables e below (s₁.setTop (entryFrame m #[(.int p1)] 1)) t := by
                      intro t kt
                      refine pre109 t ?_
                      show Steps p.tables e below (s₁.setTop (mkF m 74 #[.val (.int p1)] [(.int (262144 : Int32)), (.int p1)])) _
                      refine XS.icmpYes X0.here hx rfl (pc0 := 74) (pc' := 80) rfl (hb hby d2_74) rfl (tlt hc74).2.2.1 (by decide) (by decide) ?_
                      show Steps p.tables e below (s₁.setTop (mkF m 80 #[.val (.int p1)] [])) _
                      refine XS.iloadN X0.here hx rfl (hb hby d2_80) rfl ?_
                      show Steps p.tables e below (s₁.setTop (mkF m 81 #[.val (.int p1)] [(.int p1)])) _
                      refine X0.ldcInt hx hown (mvT hZ (hw _ (List.mem_of_getElem? (i := 15) rfl))) (g := (mkF m 81 #[.val (.int p1)] [(.int p1)])) rfl (hb hby d2_81) _ ?_
                      exact kt
                    by_cases hc83 : (524288 : Int32) < p1
                    · have pre111 : ∀ t, Steps p.tables e below (s₁.setTop (mkF m 92 #[.val (.int p1)] [(.int (1048576 : Int32)), (.int p1)])) t → Steps p.tables e below (s₁.setTop (entryFrame m #[(.int p1)] 1)) t := by
                        intro t kt
                        refine pre110 t ?_
                        show Steps p.tables e below (s₁.setTop (mkF m 83 #[.val (.int p1)] [(.int (524288 : Int32)), (.int p1)])) _
                        refine XS.icmpYes X0.here hx rfl (pc0 := 83) (pc' := 89) rfl (hb hby d2_83) rfl (tlt hc83).2.2.1 (by decide) (by decide) ?_
                        show Steps p.tables e below (s₁.setTop (mkF m 89 #[.val (.int p1)] [])) _
                        refine XS.iloadN X0.here hx rfl (hb hby d2_89) rfl ?_
                        show Steps p.tables e below (s₁.setTop (mkF m 90 #[.val (.int p1)] [(.int p1)])) _
                        refine X0.ldcInt hx hown (mvT hZ (hw _ (List.mem_of_getElem? (i := 16) rfl))) (g := (mkF m 90 #[.val (.int p1)] [(.int p1)])) rfl (hb hby d2_90) _ ?_
                        exact kt
                      by_cases hc92 : (1048576 : Int32) < p1
                      · have pre112 : ∀ t, Steps p.tables e below (s₁.setTop (mkF m 101 #[.val (.int p1)] [(.int (2097152 : Int32)), (.int p1)])) t → Steps p.tables e below (s₁.setTop (entryFrame m #[(.int p1)] 1)) t := by
                          intro t kt
                          refine pre111 t ?_
                          show Steps p.tables e below (s₁.setTop (mkF m 92 #[.val (.int p1)] [(.int (1048576 : Int32)), (.int p1)])) _
                          refine XS.icmpYes X0.here hx rfl (pc0 := 92) (pc' := 98) rfl (hb hby d2_92) rfl (tlt hc92).2.2.1 (by decide) (by decide) ?_
                          show Steps p.tables e below (s₁.setTop (mkF m 98 #[.val (.int p1)] [])) _
                          refine XS.iloadN X0.here hx rfl (hb hby d2_98) rfl ?_
                          show Steps p.tables e below (s₁.setTop (mkF m 99 #[.val (.int p1)] [(.int p1)])) _
                          refine X0.ldcInt hx hown (mvT hZ (hw _ (List.mem_of_getElem? (i := 17) rfl))) (g := (mkF m 99 #[.val (.int p1)] [(.int p1)])) rfl (hb hby d2_99) _ ?_
                          exact kt
                        by_cases hc101 : (2097152 : Int32) < p1
                        · have pre113 : ∀ t, Steps p.tables e below (s₁.setTop (mkF m 110 #[.val (.int p1)] [(.int (4194304 : Int32)), (.int p1)])) t → Steps p.tables e below (s₁.setTop (entryFrame m #[(.int p1)] 1)) t := by
                            intro t kt
                            refine pre112 t ?_
                            show Steps p.tables e below (s₁.setTop (mkF m 101 #[.val (.int p1)] [(.int (2097152 : Int32)), (.int p1)])) _
                            refine XS.icmpYes X0.here hx rfl (pc0 := 101) (pc' := 107) rfl (hb hby d2_101) rfl (tlt hc101).2.2.1 (by decide) (by decide) ?_
                            show Steps p.tables e below (s₁.setTop (mkF m 107 #[.val (.int p1)] [])) _
                            refine XS.iloadN X0.here hx rfl (hb hby d2_107) rfl ?_
                            show Steps p.tables e below (s₁.setTop (mkF m 108 #[.val (.int p1)] [(.int p1)])) _
                            refine X0.ldcInt hx hown (mvT hZ (hw _ (List.mem_of_getElem? (i := 18) rfl))) (g := (mkF m 108 #[.val (.int p1)] [(.int p1)])) rfl (hb hby d2_108) _ ?_
                            exact kt
                          by_cases hc110 : (4194304 : Int32) < p1
                          · have pre114 : ∀ t, Steps p.tables e below (s₁.setTop (mkF m 119 #[.val (.int p1)] [(.int (8388608 : Int32)), (.int p1)])) t → Steps p.tables e below (s₁.setTop (entryFrame m #[(.int p1)] 1)) t := by
                              intro t kt
                              refine pre113 t ?_
                              show Steps p.tables e below (s₁.setTop (mkF m 110 #[.val (.int p1)] [(.int (4194304 : Int32)), (.int p1)])) _
                              refine XS.icmpYes X0.here hx rfl (pc0 := 110) (pc' := 116) rfl (hb hby d2_110) rfl (tlt hc110).2.2.1 (by decide) (by decide) ?_
                              show Steps p.tables e below (s₁.setTop (mkF m 116 #[.val (.int p1)] [])) _
                              refine XS.iloadN X0.here hx rfl (hb hby d2_116) rfl ?_
                              show Steps p.tables e below (s₁.setTop (mkF m 117 #[.val (.int p1)] [(.int p1)])) _
                              refine X0.ldcInt hx hown (mvT hZ (hw _ (List.mem_of_getElem? (i := 19) rfl))) (g := (mkF m 117 #[.val (.int p1)] [(.int p1)])) rfl (hb hby d2_117) _ ?_
                              exact kt
                            by_cases hc119 : (8388608 : Int32) < p1
                            · have pre115 : ∀ t, Steps p.tables e below (s₁.setTop (mkF m 128 #[.val (.int p1)] [(.int (16777216 : Int32)), (.int p1)])) t → Steps p.tables e below (s₁.setTop (entryFrame m #[(.int p1)] 1)) t := by
                                intro t kt
                                refine pre114 t ?_
                                show Steps p.tables e below (s₁.setTop (mkF m 119 #[.val (.int p1)] [(.int (8388608 : Int32)), (.int p1)])) _
                                refine XS.icmpYes X0.here hx rfl (pc0 := 119) (pc' := 125) rfl (hb hby d2_119) rfl (tlt hc119).2.2.1 (by decide) (by decide) ?_
                                show Steps p.tables e below (s₁.setTop (mkF m 125 #[.val (.int p1)] [])) _
                                refine XS.iloadN X0.here hx rfl (hb hby d2_125) rfl ?_
                                show Steps p.tables e below (s₁.setTop (mkF m 126 #[.val (.int p1)] [(.int p1)])) _
                                refine X0.ldcInt hx hown (mvT hZ (hw _ (List.mem_of_getElem? (i := 20) rfl))) (g := (mkF m 126 #[.val (.int p1)] [(.int p1)])) rfl (hb hby d2_126) _ ?_
                                exact kt
                              by_cases hc128 : (16777216 : Int32) < p1
                              · have pre116 : ∀ t, Steps p.tables e below (s₁.setTop (mkF m 136 #[.val (.int p1)] [(.int (15 : Int32))])) t → Steps p.tables e below (s₁.setTop (entryFrame m #[(.int p1)] 1)) t := by
                                  intro t kt
                                  refine pre115 t ?_
                                  show Steps p.tables e below (s₁.setTop (mkF m 128 #[.val (.int p1)] [(.int (16777216 : Int32)), (.int p1)])) _
                                  refine XS.icmpYes X0.here hx rfl (pc0 := 128) (pc' := 134) rfl (hb hby d2_128) rfl (tlt hc128).2.2.1 (by decide) (by decide) ?_
                                  show Steps p.tables e below (s₁.setTop (mkF m 134 #[.val (.int p1)] [])) _
                                  refine XS.bipush X0.here hx rfl (hb hby d2_134) ?_
                                  exact kt
                                obtain ⟨fsx, hr, hrun, hended, hW, hsame⟩ := X0.leave (v := some (.int (15 : Int32))) (fun h => by rw [Bd.returns] at h; cases h)
                                refine ⟨_, _, pre116 _ ?_, hrun, hended, _, _, rfl, ?_, ⟨_, rfl⟩, hW, hsame.mono (by decide) (by decide)⟩
                                · exact retI X0 hx Bd.returns (hb hby d2_136) hr
                                · show Q2 Z p1 h0 n0 _ s₁.heap _
                                  rw [e0]
                                  exact ⟨congrArg (fun z => some (Value.int z)) (by rw [own_dbl, if_pos hc4, if_pos hc13, if_pos hc22, if_pos hc31, if_pos hc40, if_pos hc48, if_pos hc56, if_pos hc65, if_pos hc74, if_pos hc83, if_pos hc92, if_pos hc101, if_pos hc110, if_pos hc119, if_pos hc128]), N0, rfl⟩
                              · have pre117 : ∀ t, Steps p.tables e below (s₁.setTop (mkF m 133 #[.val (.int p1)] [(.int (14 : Int32))])) t → Steps p.tables e below (s₁.setTop (entryFrame m #[(.int p1)] 1)) t := by
                                  intro t kt
                                  refine pre115 t ?_
                                  show Steps p.tables e below (s₁.setTop (mkF m 128 #[.val (.int p1)] [(.int (16777216 : Int32)), (.int p1)])) _
                                  refine XS.icmpNo X0.here hx rfl (hb hby d2_128) rfl (flt hc128).2.2.1 ?_
                                  show Steps p.tables e below (s₁.setTop (mkF m 131 #[.val (.int p1)] [])) _
                                  refine XS.bipush X0.here hx rfl (hb hby d2_131) ?_
                                  exact kt
                                obtain ⟨fsx, hr, hrun, hended, hW, hsame⟩ := X0.leave (v := some (.int (14 : Int32))) (fun h => by rw [Bd.returns] at h; cases h)
                                refine ⟨_, _, pre117 _ ?_, hrun, hended, _, _, rfl, ?_, ⟨_, rfl⟩, hW, hsame.mono (by decide) (by decide)⟩
                                · exact retI X0 hx Bd.returns (hb hby d2_133) hr
                                · show Q2 Z p1 h0 n0 _ s₁.heap _
                                  rw [e0]
                                  exact ⟨congrArg (fun z => some (Value.int z)) (by rw [own_dbl, if_pos hc4, if_pos hc13, if_pos hc22, if_pos hc31, if_pos hc40, if_pos hc48, if_pos hc56, if_pos hc65, if_pos hc74, if_pos hc83, if_pos hc92, if_pos hc101, if_pos hc110, if_pos hc119, if_neg hc128]), N0, rfl⟩
                            · have pre118 : ∀ t, Steps p.tables e below (s₁.setTop (mkF m 124 #[.val (.int p1)] [(.int (13 : Int32))])) t → Steps p.tables e below (s₁.setTop (entryFrame m #[(.int p1)] 1)) t := by
                                intro t kt
                                refine pre114 t ?_
                                show Steps p.tables e below (s₁.setTop (mkF m 119 #[.val (.int p1)] [(.int (8388608 : Int32)), (.int p1)])) _
                                refine XS.icmpNo X0.here hx rfl (hb hby d2_119) rfl (flt hc119).2.2.1 ?_
                                show Steps p.tables e below (s₁.setTop (mkF m 122 #[.val (.int p1)] [])) _
                                refine XS.bipush X0.here hx rfl (hb hby d2_122) ?_
                                exact kt
                              obtain ⟨fsx, hr, hrun, hended, hW, hsame⟩ := X0.leave (v := some (.int (13 : Int32))) (fun h => by rw [Bd.returns] at h; cases h)
                              refine ⟨_, _, pre118 _ ?_, hrun, hended, _, _, rfl, ?_, ⟨_, rfl⟩, hW, hsame.mono (by decide) (by decide)⟩
                              · exact retI X0 hx Bd.returns (hb hby d2_124) hr
                              · show Q2 Z p1 h0 n0 _ s₁.heap _
                                rw [e0]
                                exact ⟨congrArg (fun z => some (Value.int z)) (by rw [own_dbl, if_pos hc4, if_pos hc13, if_pos hc22, if_pos hc31, if_pos hc40, if_pos hc48, if_pos hc56, if_pos hc65, if_pos hc74, if_pos hc83, if_pos hc92, if_pos hc101, if_pos hc110, if_neg hc119]), N0, rfl⟩
                          · have pre119 : ∀ t, Steps p.tables e below (s₁.setTop (mkF m 115 #[.val (.int p1)] [(.int (12 : Int32))])) t → Steps p.tables e below (s₁.setTop (entryFrame m #[(.int p1)] 1)) t := by
                              intro t kt
                              refine pre113 t ?_
                              show Steps p.tables e below (s₁.setTop (mkF m 110 #[.val (.int p1)] [(.int (4194304 : Int32)), (.int p1)])) _
                              refine XS.icmpNo X0.here hx rfl (hb hby d2_110) rfl (flt hc110).2.2.1 ?_
                              show Steps p.tables e below (s₁.setTop (mkF m 113 #[.val (.int p1)] [])) _
                              refine XS.bipush X0.here hx rfl (hb hby d2_113) ?_
                              exact kt
                            obtain ⟨fsx, hr, hrun, hended, hW, hsame⟩ := X0.leave (v := some (.int (12 : Int32))) (fun h => by rw [Bd.returns] at h; cases h)
                            refine ⟨_, _, pre119 _ ?_, hrun, hended, _, _, rfl, ?_, ⟨_, rfl⟩, hW, hsame.mono (by decide) (by decide)⟩
                            · exact retI X0 hx Bd.returns (hb hby d2_115) hr
                            · show Q2 Z p1 h0 n0 _ s₁.heap _
                              rw [e0]
                              exact ⟨congrArg (fun z => some (Value.int z)) (by rw [own_dbl, if_pos hc4, if_pos hc13, if_pos hc22, if_pos hc31, if_pos hc40, if_pos hc48, if_pos hc56, if_pos hc65, if_pos hc74, if_pos hc83, if_pos hc92, if_pos hc101, if_neg hc110]), N0, rfl⟩
                        · have pre120 : ∀ t, Steps p.tables e below (s₁.setTop (mkF m 106 #[.val (.int p1)] [(.int (11 : Int32))])) t → Steps p.tables e below (s₁.setTop (entryFrame m #[(.int p1)] 1)) t := by
                            intro t kt
                            refine pre112 t ?_
                            show Steps p.tables e below (s₁.setTop (mkF m 101 #[.val (.int p1)] [(.int (2097152 : Int32)), (.int p1)])) _
                            refine XS.icmpNo X0.here hx rfl (hb hby d2_101) rfl (flt hc101).2.2.1 ?_
                            show Steps p.tables e below (s₁.setTop (mkF m 104 #[.val (.int p1)] [])) _
                            refine XS.bipush X0.here hx rfl (hb hby d2_104) ?_
                            exact kt
                          obtain ⟨fsx, hr, hrun, hended, hW, hsame⟩ := X0.leave (v := some (.int (11 : Int32))) (fun h => by rw [Bd.returns] at h; cases h)
                          refine ⟨_, _, pre120 _ ?_, hrun, hended, _, _, rfl, ?_, ⟨_, rfl⟩, hW, hsame.mono (by decide) (by decide)⟩
                          · exact retI X0 hx Bd.returns (hb hby d2_106) hr
                          · show Q2 Z p1 h0 n0 _ s₁.heap _
                            rw [e0]
                            exact ⟨congrArg (fun z => some (Value.int z)) (by rw [own_dbl, if_pos hc4, if_pos hc13, if_pos hc22, if_pos hc31, if_pos hc40, if_pos hc48, if_pos hc56, if_pos hc65, if_pos hc74, if_pos hc83, if_pos hc92, if_neg hc101]), N0, rfl⟩
                      · have pre121 : ∀ t, Steps p.tables e below (s₁.setTop (mkF m 97 #[.val (.int p1)] [(.int (10 : Int32))])) t → Steps p.tables e below (s₁.setTop (entryFrame m #[(.int p1)] 1)) t := by
                          intro t kt
                          refine pre111 t ?_
                          show Steps p.tables e below (s₁.setTop (mkF m 92 #[.val (.int p1)] [(.int (1048576 : Int32)), (.int p1)])) _
                          refine XS.icmpNo X0.here hx rfl (hb hby d2_92) rfl (flt hc92).2.2.1 ?_
                          show Steps p.tables e below (s₁.setTop (mkF m 95 #[.val (.int p1)] [])) _
                          refine XS.bipush X0.here hx rfl (hb hby d2_95) ?_
                          exact kt
                        obtain ⟨fsx, hr, hrun, hended, hW, hsame⟩ := X0.leave (v := some (.int (10 : Int32))) (fun h => by rw [Bd.returns] at h; cases h)
                        refine ⟨_, _, pre121 _ ?_, hrun, hended, _, _, rfl, ?_, ⟨_, rfl⟩, hW, hsame.mono (by decide) (by decide)⟩
                        · exact retI X0 hx Bd.returns (hb hby d2_97) hr
                        · show Q2 Z p1 h0 n0 _ s₁.heap _
                          rw [e0]
                          exact ⟨congrArg (fun z => some (Value.int z)) (by rw [own_dbl, if_pos hc4, if_pos hc13, if_pos hc22, if_pos hc31, if_pos hc40, if_pos hc48, if_pos hc56, if_pos hc65, if_pos hc74, if_pos hc83, if_neg hc92]), N0, rfl⟩
                    · have pre122 : ∀ t, Steps p.tables e below (s₁.setTop (mkF m 88 #[.val (.int p1)] [(.int (9 : Int32))])) t → Steps p.tables e below (s₁.setTop (entryFrame m #[(.int p1)] 1)) t := by
                        intro t kt
                        refine pre110 t ?_
                        show Steps p.tables e below (s₁.setTop (mkF m 83 #[.val (.int p1)] [(.int (524288 : Int32)), (.int p1)])) _
                        refine XS.icmpNo X0.here hx rfl (hb hby d2_83) rfl (flt hc83).2.2.1 ?_
                        show Steps p.tables e below (s₁.setTop (mkF m 86 #[.val (.int p1)] [])) _
                        refine XS.bipush X0.here hx rfl (hb hby d2_86) ?_
                        exact kt
                      obtain ⟨fsx, hr, hrun, hended, hW, hsame⟩ := X0.leave (v := some (.int (9 : Int32))) (fun h => by rw [Bd.returns] at h; cases h)
                      refine ⟨_, _, pre122 _ ?_, hrun, hended, _, _, rfl, ?_, ⟨_, rfl⟩, hW, hsame.mono (by decide) (by decide)⟩
                      · exact retI X0 hx Bd.returns (hb hby d2_88) hr
                      · show Q2 Z p1 h0 n0 _ s₁.heap _
                        rw [e0]
                        exact ⟨congrArg (fun z => some (Value.int z)) (by rw [own_dbl, if_pos hc4, if_pos hc13, if_pos hc22, if_pos hc31, if_pos hc40, if_pos hc48, if_pos hc56, if_pos hc65, if_pos hc74, if_neg hc83]), N0, rfl⟩
                  · have pre123 : ∀ t, Steps p.tables e below (s₁.setTop (mkF m 79 #[.val (.int p1)] [(.int (8 : Int32))])) t → Steps p.tables e below (s₁.setTop (entryFrame m #[(.int p1)] 1)) t := by
                      intro t kt
                      refine pre109 t ?_
                      show Steps p.tables e below (s₁.setTop (mkF m 74 #[.val (.int p1)] [(.int (262144 : Int32)), (.int p1)])) _
                      refine XS.icmpNo X0.here hx rfl (hb hby d2_74) rfl (flt hc74).2.2.1 ?_
                      show Steps p.tables e below (s₁.setTop (mkF m 77 #[.val (.int p1)] [])) _
                      refine XS.bipush X0.here hx rfl (hb hby d2_77) ?_
                      exact kt
                    obtain ⟨fsx, hr, hrun, hended, hW, hsame⟩ := X0.leave (v := some (.int (8 : Int32))) (fun h => by rw [Bd.returns] at h; cases h)
                    refine ⟨_, _, pre123 _ ?_, hrun, hended, _, _, rfl, ?_, ⟨_, rfl⟩, hW, hsame.mono (by decide) (by decide)⟩
                    · exact retI X0 hx Bd.returns (hb hby d2_79) hr
                    · show Q2 Z p1 h0 n0 _ s₁.heap _
                      rw [e0]
                      exact ⟨congrArg (fun z => some (Value.int z)) (by rw [own_dbl, if_pos hc4, if_pos hc13, if_pos hc22, if_pos hc31, if_pos hc40, if_pos hc48, if_pos hc56, if_pos hc65, if_neg hc74]), N0, rfl⟩
                · have pre124 : ∀ t, Steps p.tables e below (s₁.setTop (mkF m 70 #[.val (.int p1)] [(.int (7 : Int32))])) t → Steps p.tables e below (s₁.setTop (entryFrame m #[(.int p1)] 1)) t := by
                    intro t kt
                    refine pre108 t ?_
                    show Steps p.tables e below (s₁.setTop (mkF m 65 #[.val (.int p1)] [(.int (131072 : Int32)), (.int p1)])) _
                    refine XS.icmpNo X0.here hx rfl (hb hby d2_65) rfl (flt hc65).2.2.1 ?_
                    show Steps p.tables e below (s₁.setTop (mkF m 68 #[.val (.int p1)] [])) _
                    refine XS.bipush X0.here hx rfl (hb hby d2_68) ?_
                    exact kt
                  obtain ⟨fsx, hr, hrun, hended, hW, hsame⟩ := X0.leave (v := some (.int (7 : Int32))) (fun h => by rw [Bd.returns] at h; cases h)
                  refine ⟨_, _, pre124 _ ?_, hrun, hended, _, _, rfl, ?_, ⟨_, rfl⟩, hW, hsame.mono (by decide) (by decide)⟩
                  · exact retI X0 hx Bd.returns (hb hby d2_70) hr
                  · show Q2 Z p1 h0 n0 _ s₁.heap _
                    rw [e0]
                    exact ⟨congrArg (fun z => some (Value.int z)) (by rw [own_dbl, if_pos hc4, if_pos hc13, if_pos hc22, if_pos hc31, if_pos hc40, if_pos hc48, if_pos hc56, if_neg hc65]), N0, rfl⟩
              · have pre125 : ∀ t, Steps p.tables e below (s₁.setTop (mkF m 61 #[.val (.int p1)] [(.int (6 : Int32))])) t → Steps p.tables e below (s₁.setTop (entryFrame m #[(.int p1)] 1)) t := by
                  intro t kt
                  refine pre107 t ?_
                  show Steps p.tables e below (s₁.setTop (mkF m 56 #[.val (.int p1)] [(.int (65536 : Int32)), (.int p1)])) _
                  refine XS.icmpNo X0.here hx rfl (hb hby d2_56) rfl (flt hc56).2.2.1 ?_
                  show Steps p.tables e below (s₁.setTop (mkF m 59 #[.val (.int p1)] [])) _
                  refine XS.bipush X0.here hx rfl (hb hby d2_59) ?_
                  exact kt
                obtain ⟨fsx, hr, hrun, hended, hW, hsame⟩ := X0.leave (v := some (.int (6 : Int32))) (fun h => by rw [Bd.returns] at h; cases h)
                refine ⟨_, _, pre125 _ ?_, hrun, hended, _, _, rfl, ?_, ⟨_, rfl⟩, hW, hsame.mono (by decide) (by decide)⟩
                · exact retI X0 hx Bd.returns (hb hby d2_61) hr
                · show Q2 Z p1 h0 n0 _ s₁.heap _
                  rw [e0]
                  exact ⟨congrArg (fun z => some (Value.int z)) (by rw [own_dbl, if_pos hc4, if_pos hc13, if_pos hc22, if_pos hc31, if_pos hc40, if_pos hc48, if_neg hc56]), N0, rfl⟩
            · have pre126 : ∀ t, Steps p.tables e below (s₁.setTop (mkF m 52 #[.val (.int p1)] [(.int (5 : Int32))])) t → Steps p.tables e below (s₁.setTop (entryFrame m #[(.int p1)] 1)) t := by
                intro t kt
                refine pre106 t ?_
                show Steps p.tables e below (s₁.setTop (mkF m 48 #[.val (.int p1)] [(.int (32768 : Int32)), (.int p1)])) _
                refine XS.icmpNo X0.here hx rfl (hb hby d2_48) rfl (flt hc48).2.2.1 ?_
                show Steps p.tables e below (s₁.setTop (mkF m 51 #[.val (.int p1)] [])) _
                refine XS.iconst X0.here hx rfl (hb hby d2_51) ?_
                exact kt
              obtain ⟨fsx, hr, hrun, hended, hW, hsame⟩ := X0.leave (v := some (.int (5 : Int32))) (fun h => by rw [Bd.returns] at h; cases h)
              refine ⟨_, _, pre126 _ ?_, hrun, hended, _, _, rfl, ?_, ⟨_, rfl⟩, hW, hsame.mono (by decide) (by decide)⟩
              · exact retI X0 hx Bd.returns (hb hby d2_52) hr
              · show Q2 Z p1 h0 n0 _ s₁.heap _
                rw [e0]
                exact ⟨congrArg (fun z => some (Value.int z)) (by rw [own_dbl, if_pos hc4, if_pos hc13, if_pos hc22, if_pos hc31, if_pos hc40, if_neg hc48]), N0, rfl⟩
          · have pre127 : ∀ t, Steps p.tables e below (s₁.setTop (mkF m 44 #[.val (.int p1)] [(.int (4 : Int32))])) t → Steps p.tables e below (s₁.setTop (entryFrame m #[(.int p1)] 1)) t := by
              intro t kt
              refine pre105 t ?_
              show Steps p.tables e below (s₁.setTop (mkF m 40 #[.val (.int p1)] [(.int (16384 : Int32)), (.int p1)])) _
              refine XS.icmpNo X0.here hx rfl (hb hby d2_40) rfl (flt hc40).2.2.1 ?_
              show Steps p.tables e below (s₁.setTop (mkF m 43 #[.val (.int p1)] [])) _
              refine XS.iconst X0.here hx rfl (hb hby d2_43) ?_
              exact kt
            obtain ⟨fsx, hr, hrun, hended, hW, hsame⟩ := X0.leave (v := some (.int (4 : Int32))) (fun h => by rw [Bd.returns] at h; cases h)
            refine ⟨_, _, pre127 _ ?_, hrun, hended, _, _, rfl, ?_, ⟨_, rfl⟩, hW, hsame.mono (by decide) (by decide)⟩
            · exact retI X0 hx Bd.returns (hb hby d2_44) hr
            · show Q2 Z p1 h0 n0 _ s₁.heap _
              rw [e0]
              exact ⟨congrArg (fun z => some (Value.int z)) (by rw [own_dbl, if_pos hc4, if_pos hc13, if_pos hc22, if_pos hc31, if_neg hc40]), N0, rfl⟩
        · have pre128 : ∀ t, Steps p.tables e below (s₁.setTop (mkF m 35 #[.val (.int p1)] [(.int (3 : Int32))])) t → Steps p.tables e below (s₁.setTop (entryFrame m #[(.int p1)] 1)) t := by
            intro t kt
            refine pre104 t ?_
            show Steps p.tables e below (s₁.setTop (mkF m 31 #[.val (.int p1)] [(.int (8192 : Int32)), (.int p1)])) _
            refine XS.icmpNo X0.here hx rfl (hb hby d2_31) rfl (flt hc31).2.2.1 ?_
            show Steps p.tables e below (s₁.setTop (mkF m 34 #[.val (.int p1)] [])) _
            refine XS.iconst X0.here hx rfl (hb hby d2_34) ?_
            exact kt
          obtain ⟨fsx, hr, hrun, hended, hW, hsame⟩ := X0.leave (v := some (.int (3 : Int32))) (fun h => by rw [Bd.returns] at h; cases h)
          refine ⟨_, _, pre128 _ ?_, hrun, hended, _, _, rfl, ?_, ⟨_, rfl⟩, hW, hsame.mono (by decide) (by decide)⟩
          · exact retI X0 hx Bd.returns (hb hby d2_35) hr
          · show Q2 Z p1 h0 n0 _ s₁.heap _
            rw [e0]
            exact ⟨congrArg (fun z => some (Value.int z)) (by rw [own_dbl, if_pos hc4, if_pos hc13, if_pos hc22, if_neg hc31]), N0, rfl⟩
      · have pre129 : ∀ t, Steps p.tables e below (s₁.setTop (mkF m 26 #[.val (.int p1)] [(.int (2 : Int32))])) t → Steps p.tables e below (s₁.setTop (entryFrame m #[(.int p1)] 1)) t := by
          intro t kt
          refine pre103 t ?_
          show Steps p.tables e below (s₁.setTop (mkF m 22 #[.val (.int p1)] [(.int (4096 : Int32)), (.int p1)])) _
          refine XS.icmpNo X0.here hx rfl (hb hby d2_22) rfl (flt hc22).2.2.1 ?_
          show Steps p.tables e below (s₁.setTop (mkF m 25 #[.val (.int p1)] [])) _
          refine XS.iconst X0.here hx rfl (hb hby d2_25) ?_
          exact kt
        obtain ⟨fsx, hr, hrun, hended, hW, hsame⟩ := X0.leave (v := some (.int (2 : Int32))) (fun h => by rw [Bd.returns] at h; cases h)
        refine ⟨_, _, pre129 _ ?_, hrun, hended, _, _, rfl, ?_, ⟨_, rfl⟩, hW, hsame.mono (by decide) (by decide)⟩
        · exact retI X0 hx Bd.returns (hb hby d2_26) hr
        · show Q2 Z p1 h0 n0 _ s₁.heap _
          rw [e0]
          exact ⟨congrArg (fun z => some (Value.int z)) (by rw [own_dbl, if_pos hc4, if_pos hc13, if_neg hc22]), N0, rfl⟩
    · have pre130 : ∀ t, Steps p.tables e below (s₁.setTop (mkF m 17 #[.val (.int p1)] [(.int (1 : Int32))])) t → Steps p.tables e below (s₁.setTop (entryFrame m #[(.int p1)] 1)) t := by
        intro t kt
        refine pre102 t ?_
        show Steps p.tables e below (s₁.setTop (mkF m 13 #[.val (.int p1)] [(.int (2048 : Int32)), (.int p1)])) _
        refine XS.icmpNo X0.here hx rfl (hb hby d2_13) rfl (flt hc13).2.2.1 ?_
        show Steps p.tables e below (s₁.setTop (mkF m 16 #[.val (.int p1)] [])) _
        refine XS.iconst X0.here hx rfl (hb hby d2_16) ?_
        exact kt
      obtain ⟨fsx, hr, hrun, hended, hW, hsame⟩ := X0.leave (v := some (.int (1 : Int32))) (fun h => by rw [Bd.returns] at h; cases h)
      refine ⟨_, _, pre130 _ ?_, hrun, hended, _, _, rfl, ?_, ⟨_, rfl⟩, hW, hsame.mono (by decide) (by decide)⟩
      · exact retI X0 hx Bd.returns (hb hby d2_17) hr
      · show Q2 Z p1 h0 n0 _ s₁.heap _
        rw [e0]
        exact ⟨congrArg (fun z => some (Value.int z)) (by rw [own_dbl, if_pos hc4, if_neg hc13]), N0, rfl⟩
  · have pre131 : ∀ t, Steps p.tables e below (s₁.setTop (mkF m 8 #[.val (.int p1)] [(.int (0 : Int32))])) t → Steps p.tables e below (s₁.setTop (entryFrame m #[(.int p1)] 1)) t := by
      intro t kt
      refine pre101 t ?_
      show Steps p.tables e below (s₁.setTop (mkF m 4 #[.val (.int p1)] [(.int (1024 : Int32)), (.int p1)])) _
      refine XS.icmpNo X0.here hx rfl (hb hby d2_4) rfl (flt hc4).2.2.1 ?_
      show Steps p.tables e below (s₁.setTop (mkF m 7 #[.val (.int p1)] [])) _
      refine XS.iconst X0.here hx rfl (hb hby d2_7) ?_
      exact kt
    obtain ⟨fsx, hr, hrun, hended, hW, hsame⟩ := X0.leave (v := some (.int (0 : Int32))) (fun h => by rw [Bd.returns] at h; cases h)
    refine ⟨_, _, pre131 _ ?_, hrun, hended, _, _, rfl, ?_, ⟨_, rfl⟩, hW, hsame.mono (by decide) (by decide)⟩
    · exact retI X0 hx Bd.returns (hb hby d2_8) hr
    · show Q2 Z p1 h0 n0 _ s₁.heap _
      rw [e0]
      exact ⟨congrArg (fun z => some (Value.int z)) (by rw [own_dbl, if_neg hc4]), N0, rfl⟩
theorem d1_0 : decode prog_10_method_18_code 0 = .ok (.iconst 0, 1) := by decide +kernel
theorem d1_1 : decode prog_10_method_18_code 1 = .ok (.istore_n 2, 1) := by decide +kernel
theorem d1_2 : decode prog_10_method_18_code 2 = .ok (.ldc2_w 147, 3) := by decide +kernel
theorem d1_5 : decode prog_10_method_18_code 5 = .ok (.iload_n 2, 1) := by decide +kernel
theorem d1_6 : decode prog_10_method_18_code 6 = .ok (.lshl, 1) := by decide +kernel
theorem d1_7 : decode prog_10_method_18_code 7 = .ok (.iload_n 0, 1) := by decide +kernel
theorem d1_8 : decode prog_10_method_18_code 8 = .ok (.i2l, 1) := by decide +kernel
theorem d1_9 : decode prog_10_method_18_code 9 = .ok (.lcmp, 1) := by decide +kernel
theorem d1_10 : decode prog_10_method_18_code 10 = .ok (.ifCond .ge 15, 3) := by decide +kernel
theorem d1_13 : decode prog_10_method_18_code 13 = .ok (.iload_n 2, 1) := by decide +kernel
theorem d1_14 : decode prog_10_method_18_code 14 = .ok (.bipush 15, 2) := by decide +kernel
theorem d1_16 : decode prog_10_method_18_code 16 = .ok (.if_icmp .ge 9, 3) := by decide +kernel
theorem d1_19 : decode prog_10_method_18_code 19 = .ok (.iinc 2 1, 3) := by decide +kernel
theorem d1_22 : decode prog_10_method_18_code 22 = .ok (.goto (-20), 3) := by decide +kernel
theorem d1_25 : decode prog_10_method_18_code 25 = .ok (.iload_n 1, 1) := by decide +kernel
theorem d1_26 : decode prog_10_method_18_code 26 = .ok (.i2l, 1) := by decide +kernel
theorem d1_27 : decode prog_10_method_18_code 27 = .ok (.ldc2_w 147, 3) := by decide +kernel
theorem d1_30 : decode prog_10_method_18_code 30 = .ok (.iload_n 2, 1) := by decide +kernel
theorem d1_31 : decode prog_10_method_18_code 31 = .ok (.lshl, 1) := by decide +kernel
theorem d1_32 : decode prog_10_method_18_code 32 = .ok (.lcmp, 1) := by decide +kernel
theorem d1_33 : decode prog_10_method_18_code 33 = .ok (.ifCond .le 7, 3) := by decide +kernel
theorem d1_36 : decode prog_10_method_18_code 36 = .ok (.iconst 1, 1) := by decide +kernel
theorem d1_37 : decode prog_10_method_18_code 37 = .ok (.goto 4, 3) := by decide +kernel
theorem d1_41 : decode prog_10_method_18_code 41 = .ok (.istore_n 3, 1) := by decide +kernel
theorem d1_42 : decode prog_10_method_18_code 42 = .ok (.iload_n 2, 1) := by decide +kernel
theorem d1_43 : decode prog_10_method_18_code 43 = .ok (.iconst 1, 1) := by decide +kernel
theorem d1_44 : decode prog_10_method_18_code 44 = .ok (.ishl, 1) := by decide +kernel
theorem d1_45 : decode prog_10_method_18_code 45 = .ok (.iload_n 3, 1) := by decide +kernel
theorem d1_46 : decode prog_10_method_18_code 46 = .ok (.ifCond .eq 7, 3) := by decide +kernel
theorem d1_49 : decode prog_10_method_18_code 49 = .ok (.iconst 1, 1) := by decide +kernel
theorem d1_50 : decode prog_10_method_18_code 50 = .ok (.goto 4, 3) := by decide +kernel
theorem d1_54 : decode prog_10_method_18_code 54 = .ok (.ior, 1) := by decide +kernel
theorem d1_55 : decode prog_10_method_18_code 55 = .ok (.ireturn, 1) := by decide +kernel
theorem d1_40 : decode prog_10_method_18_code 40 = .ok (.iconst 0, 1) := by decide +kernel
theorem d1_53 : decode prog_10_method_18_code 53 = .ok (.iconst 0, 1) := by decide +kernel
theorem pn_1 : plainName "com/example/seshat/seshat/reader/ArchiveNames" = true := by first | (simp [plainName, overriddenIn]; done) | decide +kernel
theorem ef_rm1 (m : MethodId) (x0 : Int32) (x1 : Int32) : entryFrame m #[(.int x0), (.int x1)] 4 = mkF m 0 #[.val (.int x0), .val (.int x1), .unset, .unset] [] := by first | (simp [entryFrame, mkF, argsToLocals, Value.category]; done) | rfl
def Q1 (Z : State) (p1 : Int32) (p2 : Int32) (h0 : Heap) (n0 : Nat) (v : Option Value) (h : Heap) (L : List Loc) : Prop := v = some (.int (own_rd (own_dbl p1) p2)) ∧ Fr n0 L ∧ h = h0
set_option maxRecDepth 65536 in
set_option maxHeartbeats 40000000 in
theorem rm1 (l : Launch) (Z : State) (a0 : Array Value) (hw : ∀ d ∈ tables_1, d.before a0 Z = true) (ws : List Jvm.Cond) (p1 : Int32) (p2 : Int32) (h0 : Heap) (n0 : Nat) (Z0 : n0 ≤ h0.size)  :
    MetFree l (⟨"com/example/seshat/seshat/reader/ArchiveNames", "reading", "(II)I"⟩ : MethodName) (head1 (Jvm.Cond.code (⟨"com/example/seshat/seshat/reader/ArchiveNames", "reading", "(II)I"⟩ : MethodName) prog_10_method_18_code 4 (some .int) :: ws) ({ frames := 0, cells := 0, slots := 0, locals := 0 } : Room)) (fun a U => a = #[(.int p1), (.int p2)] ∧ Z.Warmed39 U.vm ∧ U.heap = h0) (fun _ _ _ _ _ => True) (fun _ U o U' => ∃ v L, o = .returned v ∧ Q1 Z p1 p2 h0 n0 v U'.heap L ∧ FrameEnd U o U' L ({ frames := 0, cells := 0, slots := 0, locals := 0 } : Room).cells ({ frames := 0, cells := 0, slots := 0, locals := 0 } : Room).slots) := by
  refine MetFree.of_bodySF (plainFor_of_name pn_1) hisR ?_
  intro p e s m args below meth c s₁ Bd hml0 hP hK
  obtain ⟨rfl, hZ, hh⟩ := hP
  have hx := Bd.exec
  have hby := Bd.bytes
  have hml : c.maxLocals = 4 := hml0
  have hown : s.vm.findClass "com/example/seshat/seshat/reader/ArchiveNames" = some m.cls := findClass_of_methodNamed Bd.named
  have hnm := (name_of_methodNamed Bd.named Bd.method).1
  have X0 : Stand p l e ({ frames := 0, cells := 0, slots := 0, locals := 0 } : Room) s m #[(.int p1), (.int p2)] below meth c s₁ [] 0 0 := Stand.of_body Bd
  have e0 : s₁.heap = h0 := by rw [← hh, Bd.state]; rfl
  have N0 := Fr.nil n0
  have pre0 : ∀ t, Steps p.tables e below (s₁.setTop (mkF m 0 #[.val (.int p1), .val (.int p2), .unset, .unset] [])) t → Steps p.tables e below (s₁.setTop (entryFrame m #[(.int p1), (.int p2)] 4)) t := fun t k => castTop (ef_rm1 m p1 p2) k
  have pre132 : ∀ t, Steps p.tables e below (s₁.setTop (mkF m 2 #[.val (.int p1), .val (.int p2), .val (.int (0 : Int32)), .unset] [])) t → Steps p.tables e below (s₁.setTop (entryFrame m #[(.int p1), (.int p2)] 4)) t := by
    intro t kt
    refine pre0 t ?_
    show Steps p.tables e below (s₁.setTop (mkF m 0 #[.val (.int p1), .val (.int p2), .unset, .unset] [])) _
    refine XS.iconst X0.here hx rfl (hb hby d1_0) ?_
    show Steps p.tables e below (s₁.setTop (mkF m 1 #[.val (.int p1), .val (.int p2), .unset, .unset] [(.int (0 : Int32))])) _
    refine XS.istoreN X0.here hx rfl (hb hby d1_1) rfl (l' := #[.val (.int p1), .val (.int p2), .val (.int (0 : Int32)), .unset]) rfl ?_
    exact kt
  obtain ⟨z1, h_z1, pre149⟩ : ∃ (z1 : Int32), (z1 = own_dbl p1) ∧ ∀ t, Steps p.tables e below (s₁.setTop (mkF m 25 #[.val (.int p1), .val (.int p2), .val (.int z1), .unset] [])) t → Steps p.tables e below (s₁.setTop (entryFrame m #[(.int p1), (.int p2)] 4)) t := by
    have pre133 : ∀ t, Steps p.tables e below (s₁.setTop (mkF m 10 #[.val (.int p1), .val (.int p2), .val (.int (0 : Int32)), .unset] [(.int (lcmpW ((1024 : Int64) <<< ((0 : Int32) &&& 0x3f).toInt64) (p1.toInt64)))])) t → Steps p.tables e below (s₁.setTop (entryFrame m #[(.int p1), (.int p2)] 4)) t := by
      intro t kt
      refine pre132 t ?_
      show Steps p.tables e below (s₁.setTop (mkF m 2 #[.val (.int p1), .val (.int p2), .val (.int (0 : Int32)), .unset] [])) _
      refine X0.ldc2Long hx hown (mvT hZ (hw _ (List.mem_of_getElem? (i := 5) rfl))) (g := (mkF m 2 #[.val (.int p1), .val (.int p2), .val (.int (0 : Int32)), .unset] [])) rfl (hb hby d1_2) _ ?_
      show Steps p.tables e below (s₁.setTop (mkF m 5 #[.val (.int p1), .val (.int p2), .val (.int (0 : Int32)), .unset] [(.long (1024 : Int64))])) _
      refine XS.iloadN X0.here hx rfl (hb hby d1_5) rfl ?_
      show Steps p.tables e below (s₁.setTop (mkF m 6 #[.val (.int p1), .val (.int p2), .val (.int (0 : Int32)), .unset] [(.int (0 : Int32)), (.long (1024 : Int64))])) _
      refine XS.lshl X0.here hx rfl (hb hby d1_6) rfl ?_
      show Steps p.tables e below (s₁.setTop (mkF m 7 #[.val (.int p1), .val (.int p2), .val (.int (0 : Int32)), .unset] [(.long ((1024 : Int64) <<< ((0 : Int32) &&& 0x3f).toInt64))])) _
      refine XS.iloadN X0.here hx rfl (hb hby d1_7) rfl ?_
      show Steps p.tables e below (s₁.setTop (mkF m 8 #[.val (.int p1), .val (.int p2), .val (.int (0 : Int32)), .unset] [(.int p1), (.long ((1024 : Int64) <<< ((0 : Int32) &&& 0x3f).toInt64))])) _
      refine XS.i2l X0.here hx rfl (hb hby d1_8) rfl ?_
      show Steps p.tables e below (s₁.setTop (mkF m 9 #[.val (.int p1), .val (.int p2), .val (.int (0 : Int32)), .unset] [(.long (p1.toInt64)), (.long ((1024 : Int64) <<< ((0 : Int32) &&& 0x3f).toInt64))])) _
      refine XS.lcmp X0.here hx rfl (hb hby d1_9) rfl ?_
      exact kt
    by_cases hc10 : (1024 : Int32) < p1
    · have pre134 : ∀ t, Steps p.tables e below (s₁.setTop (mkF m 10 #[.val (.int p1), .val (.int p2), .val (.int (1 : Int32)), .unset] [(.int (lcmpW ((1024 : Int64) <<< ((1 : Int32) &&& 0x3f).toInt64) (p1.toInt64)))])) t → Steps p.tables e below (s₁.setTop (entryFrame m #[(.int p1), (.int p2)] 4)) t := by
        intro t kt
        refine pre133 t ?_
        show Steps p.tables e below (s₁.setTop (mkF m 10 #[.val (.int p1), .val (.int p2), .val (.int (0 : Int32)), .unset] [(.int (lcmpW ((1024 : Int64) <<< ((0 : Int32) &&& 0x3f).toInt64) (p1.toInt64)))])) _
        refine XS.ifNo X0.here hx rfl (hb hby d1_10) rfl ((if0 _ _).trans (tlt ((lw_lt _ _).mpr ((own_cmp p1 _ (1024 : Int32) (by decide +kernel)).mpr hc10))).2.1) ?_
        show Steps p.tables e below (s₁.setTop (mkF m 13 #[.val (.int p1), .val (.int p2), .val (.int (0 : Int32)), .unset] [])) _
        refine XS.iloadN X0.here hx rfl (hb hby d1_13) rfl ?_
        show Steps p.tables e below (s₁.setTop (mkF m 14 #[.val (.int p1), .val (.int p2), .val (.int (0 : Int32)), .unset] [(.int (0 : Int32))])) _
        refine XS.bipush X0.here hx rfl (hb hby d1_14) ?_
        show Steps p.tables e below (s₁.setTop (mkF m 16 #[.val (.int p1), .val (.int p2), .val (.int (0 : Int32)), .unset] [(.int (15 : Int32)), (.int (0 : Int32))])) _
        refine XS.icmpNo X0.here hx rfl (hb hby d1_16) rfl (tlt (by decide)).2.1 ?_
        show Steps p.tables e below (s₁.setTop (mkF m 19 #[.val (.int p1), .val (.int p2), .val (.int (0 : Int32)), .unset] [])) _
        refine XS.iinc X0.here hx rfl (hb hby d1_19) rfl (l' := #[.val (.int p1), .val (.int p2), .val (.int (1 : Int32)), .unset]) rfl ?_
        show Steps p.tables e below (s₁.setTop (mkF m 22 #[.val (.int p1), .val (.int p2), .val (.int (1 : Int32)), .unset] [])) _
        refine XS.goto X0.here hx rfl (pc0 := 22) (pc' := 2) rfl (hb hby d1_22) (by decide) (by decide) ?_
        show Steps p.tables e below (s₁.setTop (mkF m 2 #[.val (.int p1), .val (.int p2), .val (.int (1 : Int32)), .unset] [])) _
        refine X0.ldc2Long hx hown (mvT hZ (hw _ (List.mem_of_getElem? (i := 5) rfl))) (g := (mkF m 2 #[.val (.int p1), .val (.int p2), .val (.int (1 : Int32)), .unset] [])) rfl (hb hby d1_2) _ ?_
        show Steps p.tables e below (s₁.setTop (mkF m 5 #[.val (.int p1), .val (.int p2), .val (.int (1 : Int32)), .unset] [(.long (1024 : Int64))])) _
        refine XS.iloadN X0.here hx rfl (hb hby d1_5) rfl ?_
        show Steps p.tables e below (s₁.setTop (mkF m 6 #[.val (.int p1), .val (.int p2), .val (.int (1 : Int32)), .unset] [(.int (1 : Int32)), (.long (1024 : Int64))])) _
        refine XS.lshl X0.here hx rfl (hb hby d1_6) rfl ?_
        show Steps p.tables e below (s₁.setTop (mkF m 7 #[.val (.int p1), .val (.int p2), .val (.int (1 : Int32)), .unset] [(.long ((1024 : Int64) <<< ((1 : Int32) &&& 0x3f).toInt64))])) _
        refine XS.iloadN X0.here hx rfl (hb hby d1_7) rfl ?_
        show Steps p.tables e below (s₁.setTop (mkF m 8 #[.val (.int p1), .val (.int p2), .val (.int (1 : Int32)), .unset] [(.int p1), (.long ((1024 : Int64) <<< ((1 : Int32) &&& 0x3f).toInt64))])) _
        refine XS.i2l X0.here hx rfl (hb hby d1_8) rfl ?_
        show Steps p.tables e below (s₁.setTop (mkF m 9 #[.val (.int p1), .val (.int p2), .val (.int (1 : Int32)), .unset] [(.long (p1.toInt64)), (.long ((1024 : Int64) <<< ((1 : Int32) &&& 0x3f).toInt64))])) _
        refine XS.lcmp X0.here hx rfl (hb hby d1_9) rfl ?_
        exact kt
      by_cases hc10_2 : (2048 : Int32) < p1
      · have pre135 : ∀ t, Steps p.tables e below (s₁.setTop (mkF m 10 #[.val (.int p1), .val (.int p2), .val (.int (2 : Int32)), .unset] [(.int (lcmpW ((1024 : Int64) <<< ((2 : Int32) &&& 0x3f).toInt64) (p1.toInt64)))])) t → Steps p.tables e below (s₁.setTop (entryFrame m #[(.int p1), (.int p2)] 4)) t := by
          intro t kt
          refine pre134 t ?_
          show Steps p.tables e below (s₁.setTop (mkF m 10 #[.val (.int p1), .val (.int p2), .val (.int (1 : Int32)), .unset] [(.int (lcmpW ((1024 : Int64) <<< ((1 : Int32) &&& 0x3f).toInt64) (p1.toInt64)))])) _
          refine XS.ifNo X0.here hx rfl (hb hby d1_10) rfl ((if0 _ _).trans (tlt ((lw_lt _ _).mpr ((own_cmp p1 _ (2048 : Int32) (by decide +kernel)).mpr hc10_2))).2.1) ?_
          show Steps p.tables e below (s₁.setTop (mkF m 13 #[.val (.int p1), .val (.int p2), .val (.int (1 : Int32)), .unset] [])) _
          refine XS.iloadN X0.here hx rfl (hb hby d1_13) rfl ?_
          show Steps p.tables e below (s₁.setTop (mkF m 14 #[.val (.int p1), .val (.int p2), .val (.int (1 : Int32)), .unset] [(.int (1 : Int32))])) _
          refine XS.bipush X0.here hx rfl (hb hby d1_14) ?_
          show Steps p.tables e below (s₁.setTop (mkF m 16 #[.val (.int p1), .val (.int p2), .val (.int (1 : Int32)), .unset] [(.int (15 : Int32)), (.int (1 : Int32))])) _
          refine XS.icmpNo X0.here hx rfl (hb hby d1_16) rfl (tlt (by decide)).2.1 ?_
          show Steps p.tables e below (s₁.setTop (mkF m 19 #[.val (.int p1), .val (.int p2), .val (.int (1 : Int32)), .unset] [])) _
          refine XS.iinc X0.here hx rfl (hb hby d1_19) rfl (l' := #[.val (.int p1), .val (.int p2), .val (.int (2 : Int32)), .unset]) rfl ?_
          show Steps p.tables e below (s₁.setTop (mkF m 22 #[.val (.int p1), .val (.int p2), .val (.int (2 : Int32)), .unset] [])) _
          refine XS.goto X0.here hx rfl (pc0 := 22) (pc' := 2) rfl (hb hby d1_22) (by decide) (by decide) ?_
          show Steps p.tables e below (s₁.setTop (mkF m 2 #[.val (.int p1), .val (.int p2), .val (.int (2 : Int32)), .unset] [])) _
          refine X0.ldc2Long hx hown (mvT hZ (hw _ (List.mem_of_getElem? (i := 5) rfl))) (g := (mkF m 2 #[.val (.int p1), .val (.int p2), .val (.int (2 : Int32)), .unset] [])) rfl (hb hby d1_2) _ ?_
          show Steps p.tables e below (s₁.setTop (mkF m 5 #[.val (.int p1), .val (.int p2), .val (.int (2 : Int32)), .unset] [(.long (1024 : Int64))])) _
          refine XS.iloadN X0.here hx rfl (hb hby d1_5) rfl ?_
          show Steps p.tables e below (s₁.setTop (mkF m 6 #[.val (.int p1), .val (.int p2), .val (.int (2 : Int32)), .unset] [(.int (2 : Int32)), (.long (1024 : Int64))])) _
          refine XS.lshl X0.here hx rfl (hb hby d1_6) rfl ?_
          show Steps p.tables e below (s₁.setTop (mkF m 7 #[.val (.int p1), .val (.int p2), .val (.int (2 : Int32)), .unset] [(.long ((1024 : Int64) <<< ((2 : Int32) &&& 0x3f).toInt64))])) _
          refine XS.iloadN X0.here hx rfl (hb hby d1_7) rfl ?_
          show Steps p.tables e below (s₁.setTop (mkF m 8 #[.val (.int p1), .val (.int p2), .val (.int (2 : Int32)), .unset] [(.int p1), (.long ((1024 : Int64) <<< ((2 : Int32) &&& 0x3f).toInt64))])) _
          refine XS.i2l X0.here hx rfl (hb hby d1_8) rfl ?_
          show Steps p.tables e below (s₁.setTop (mkF m 9 #[.val (.int p1), .val (.int p2), .val (.int (2 : Int32)), .unset] [(.long (p1.toInt64)), (.long ((1024 : Int64) <<< ((2 : Int32) &&& 0x3f).toInt64))])) _
          refine XS.lcmp X0.here hx rfl (hb hby d1_9) rfl ?_
          exact kt
        by_cases hc10_3 : (4096 : Int32) < p1
        · have pre136 : ∀ t, Steps p.tables e below (s₁.setTop (mkF m 10 #[.val (.int p1), .val (.int p2), .val (.int (3 : Int32)), .unset] [(.int (lcmpW ((1024 : Int64) <<< ((3 : Int32) &&& 0x3f).toInt64) (p1.toInt64)))])) t → Steps p.tables e below (s₁.setTop (entryFrame m #[(.int p1), (.int p2)] 4)) t := by
            intro t kt
            refine pre135 t ?_
            show Steps p.tables e below (s₁.setTop (mkF m 10 #[.val (.int p1), .val (.int p2), .val (.int (2 : Int32)), .unset] [(.int (lcmpW ((1024 : Int64) <<< ((2 : Int32) &&& 0x3f).toInt64) (p1.toInt64)))])) _
            refine XS.ifNo X0.here hx rfl (hb hby d1_10) rfl ((if0 _ _).trans (tlt ((lw_lt _ _).mpr ((own_cmp p1 _ (4096 : Int32) (by decide +kernel)).mpr hc10_3))).2.1) ?_
            show Steps p.tables e below (s₁.setTop (mkF m 13 #[.val (.int p1), .val (.int p2), .val (.int (2 : Int32)), .unset] [])) _
            refine XS.iloadN X0.here hx rfl (hb hby d1_13) rfl ?_
            show Steps p.tables e below (s₁.setTop (mkF m 14 #[.val (.int p1), .val (.int p2), .val (.int (2 : Int32)), .unset] [(.int (2 : Int32))])) _
            refine XS.bipush X0.here hx rfl (hb hby d1_14) ?_
            show Steps p.tables e below (s₁.setTop (mkF m 16 #[.val (.int p1), .val (.int p2), .val (.int (2 : Int32)), .unset] [(.int (15 : Int32)), (.int (2 : Int32))])) _
            refine XS.icmpNo X0.here hx rfl (hb hby d1_16) rfl (tlt (by decide)).2.1 ?_
            show Steps p.tables e below (s₁.setTop (mkF m 19 #[.val (.int p1), .val (.int p2), .val (.int (2 : Int32)), .unset] [])) _
            refine XS.iinc X0.here hx rfl (hb hby d1_19) rfl (l' := #[.val (.int p1), .val (.int p2), .val (.int (3 : Int32)), .unset]) rfl ?_
            show Steps p.tables e below (s₁.setTop (mkF m 22 #[.val (.int p1), .val (.int p2), .val (.int (3 : Int32)), .unset] [])) _
            refine XS.goto X0.here hx rfl (pc0 := 22) (pc' := 2) rfl (hb hby d1_22) (by decide) (by decide) ?_
            show Steps p.tables e below (s₁.setTop (mkF m 2 #[.val (.int p1), .val (.int p2), .val (.int (3 : Int32)), .unset] [])) _
            refine X0.ldc2Long hx hown (mvT hZ (hw _ (List.mem_of_getElem? (i := 5) rfl))) (g := (mkF m 2 #[.val (.int p1), .val (.int p2), .val (.int (3 : Int32)), .unset] [])) rfl (hb hby d1_2) _ ?_
            show Steps p.tables e below (s₁.setTop (mkF m 5 #[.val (.int p1), .val (.int p2), .val (.int (3 : Int32)), .unset] [(.long (1024 : Int64))])) _
            refine XS.iloadN X0.here hx rfl (hb hby d1_5) rfl ?_
            show Steps p.tables e below (s₁.setTop (mkF m 6 #[.val (.int p1), .val (.int p2), .val (.int (3 : Int32)), .unset] [(.int (3 : Int32)), (.long (1024 : Int64))])) _
            refine XS.lshl X0.here hx rfl (hb hby d1_6) rfl ?_
            show Steps p.tables e below (s₁.setTop (mkF m 7 #[.val (.int p1), .val (.int p2), .val (.int (3 : Int32)), .unset] [(.long ((1024 : Int64) <<< ((3 : Int32) &&& 0x3f).toInt64))])) _
            refine XS.iloadN X0.here hx rfl (hb hby d1_7) rfl ?_
            show Steps p.tables e below (s₁.setTop (mkF m 8 #[.val (.int p1), .val (.int p2), .val (.int (3 : Int32)), .unset] [(.int p1), (.long ((1024 : Int64) <<< ((3 : Int32) &&& 0x3f).toInt64))])) _
            refine XS.i2l X0.here hx rfl (hb hby d1_8) rfl ?_
            show Steps p.tables e below (s₁.setTop (mkF m 9 #[.val (.int p1), .val (.int p2), .val (.int (3 : Int32)), .unset] [(.long (p1.toInt64)), (.long ((1024 : Int64) <<< ((3 : Int32) &&& 0x3f).toInt64))])) _
            refine XS.lcmp X0.here hx rfl (hb hby d1_9) rfl ?_
            exact kt
          by_cases hc10_4 : (8192 : Int32) < p1
          · have pre137 : ∀ t, Steps p.tables e below (s₁.setTop (mkF m 10 #[.val (.int p1), .val (.int p2), .val (.int (4 : Int32)), .unset] [(.int (lcmpW ((1024 : Int64) <<< ((4 : Int32) &&& 0x3f).toInt64) (p1.toInt64)))])) t → Steps p.tables e below (s₁.setTop (entryFrame m #[(.int p1), (.int p2)] 4)) t := by
              intro t kt
              refine pre136 t ?_
              show Steps p.tables e below (s₁.setTop (mkF m 10 #[.val (.int p1), .val (.int p2), .val (.int (3 : Int32)), .unset] [(.int (lcmpW ((1024 : Int64) <<< ((3 : Int32) &&& 0x3f).toInt64) (p1.toInt64)))])) _
              refine XS.ifNo X0.here hx rfl (hb hby d1_10) rfl ((if0 _ _).trans (tlt ((lw_lt _ _).mpr ((own_cmp p1 _ (8192 : Int32) (by decide +kernel)).mpr hc10_4))).2.1) ?_
              show Steps p.tables e below (s₁.setTop (mkF m 13 #[.val (.int p1), .val (.int p2), .val (.int (3 : Int32)), .unset] [])) _
              refine XS.iloadN X0.here hx rfl (hb hby d1_13) rfl ?_
              show Steps p.tables e below (s₁.setTop (mkF m 14 #[.val (.int p1), .val (.int p2), .val (.int (3 : Int32)), .unset] [(.int (3 : Int32))])) _
              refine XS.bipush X0.here hx rfl (hb hby d1_14) ?_
              show Steps p.tables e below (s₁.setTop (mkF m 16 #[.val (.int p1), .val (.int p2), .val (.int (3 : Int32)), .unset] [(.int (15 : Int32)), (.int (3 : Int32))])) _
              refine XS.icmpNo X0.here hx rfl (hb hby d1_16) rfl (tlt (by decide)).2.1 ?_
              show Steps p.tables e below (s₁.setTop (mkF m 19 #[.val (.int p1), .val (.int p2), .val (.int (3 : Int32)), .unset] [])) _
              refine XS.iinc X0.here hx rfl (hb hby d1_19) rfl (l' := #[.val (.int p1), .val (.int p2), .val (.int (4 : Int32)), .unset]) rfl ?_
              show Steps p.tables e below (s₁.setTop (mkF m 22 #[.val (.int p1), .val (.int p2), .val (.int (4 : Int32)), .unset] [])) _
              refine XS.goto X0.here hx rfl (pc0 := 22) (pc' := 2) rfl (hb hby d1_22) (by decide) (by decide) ?_
              show Steps p.tables e below (s₁.setTop (mkF m 2 #[.val (.int p1), .val (.int p2), .val (.int (4 : Int32)), .unset] [])) _
              refine X0.ldc2Long hx hown (mvT hZ (hw _ (List.mem_of_getElem? (i := 5) rfl))) (g := (mkF m 2 #[.val (.int p1), .val (.int p2), .val (.int (4 : Int32)), .unset] [])) rfl (hb hby d1_2) _ ?_
              show Steps p.tables e below (s₁.setTop (mkF m 5 #[.val (.int p1), .val (.int p2), .val (.int (4 : Int32)), .unset] [(.long (1024 : Int64))])) _
              refine XS.iloadN X0.here hx rfl (hb hby d1_5) rfl ?_
              show Steps p.tables e below (s₁.setTop (mkF m 6 #[.val (.int p1), .val (.int p2), .val (.int (4 : Int32)), .unset] [(.int (4 : Int32)), (.long (1024 : Int64))])) _
              refine XS.lshl X0.here hx rfl (hb hby d1_6) rfl ?_
              show Steps p.tables e below (s₁.setTop (mkF m 7 #[.val (.int p1), .val (.int p2), .val (.int (4 : Int32)), .unset] [(.long ((1024 : Int64) <<< ((4 : Int32) &&& 0x3f).toInt64))])) _
              refine XS.iloadN X0.here hx rfl (hb hby d1_7) rfl ?_
              show Steps p.tables e below (s₁.setTop (mkF m 8 #[.val (.int p1), .val (.int p2), .val (.int (4 : Int32)), .unset] [(.int p1), (.long ((1024 : Int64) <<< ((4 : Int32) &&& 0x3f).toInt64))])) _
              refine XS.i2l X0.here hx rfl (hb hby d1_8) rfl ?_
              show Steps p.tables e below (s₁.setTop (mkF m 9 #[.val (.int p1), .val (.int p2), .val (.int (4 : Int32)), .unset] [(.long (p1.toInt64)), (.long ((1024 : Int64) <<< ((4 : Int32) &&& 0x3f).toInt64))])) _
              refine XS.lcmp X0.here hx rfl (hb hby d1_9) rfl ?_
              exact kt
            by_cases hc10_5 : (16384 : Int32) < p1
            · have pre138 : ∀ t, Steps p.tables e below (s₁.setTop (mkF m 10 #[.val (.int p1), .val (.int p2), .val (.int (5 : Int32)), .unset] [(.int (lcmpW ((1024 : Int64) <<< ((5 : Int32) &&& 0x3f).toInt64) (p1.toInt64)))])) t → Steps p.tables e below (s₁.setTop (entryFrame m #[(.int p1), (.int p2)] 4)) t := by
                intro t kt
                refine pre137 t ?_
                show Steps p.tables e below (s₁.setTop (mkF m 10 #[.val (.int p1), .val (.int p2), .val (.int (4 : Int32)), .unset] [(.int (lcmpW ((1024 : Int64) <<< ((4 : Int32) &&& 0x3f).toInt64) (p1.toInt64)))])) _
                refine XS.ifNo X0.here hx rfl (hb hby d1_10) rfl ((if0 _ _).trans (tlt ((lw_lt _ _).mpr ((own_cmp p1 _ (16384 : Int32) (by decide +kernel)).mpr hc10_5))).2.1) ?_
                show Steps p.tables e below (s₁.setTop (mkF m 13 #[.val (.int p1), .val (.int p2), .val (.int (4 : Int32)), .unset] [])) _
                refine XS.iloadN X0.here hx rfl (hb hby d1_13) rfl ?_
                show Steps p.tables e below (s₁.setTop (mkF m 14 #[.val (.int p1), .val (.int p2), .val (.int (4 : Int32)), .unset] [(.int (4 : Int32))])) _
                refine XS.bipush X0.here hx rfl (hb hby d1_14) ?_
                show Steps p.tables e below (s₁.setTop (mkF m 16 #[.val (.int p1), .val (.int p2), .val (.int (4 : Int32)), .unset] [(.int (15 : Int32)), (.int (4 : Int32))])) _
                refine XS.icmpNo X0.here hx rfl (hb hby d1_16) rfl (tlt (by decide)).2.1 ?_
                show Steps p.tables e below (s₁.setTop (mkF m 19 #[.val (.int p1), .val (.int p2), .val (.int (4 : Int32)), .unset] [])) _
                refine XS.iinc X0.here hx rfl (hb hby d1_19) rfl (l' := #[.val (.int p1), .val (.int p2), .val (.int (5 : Int32)), .unset]) rfl ?_
                show Steps p.tables e below (s₁.setTop (mkF m 22 #[.val (.int p1), .val (.int p2), .val (.int (5 : Int32)), .unset] [])) _
                refine XS.goto X0.here hx rfl (pc0 := 22) (pc' := 2) rfl (hb hby d1_22) (by decide) (by decide) ?_
                show Steps p.tables e below (s₁.setTop (mkF m 2 #[.val (.int p1), .val (.int p2), .val (.int (5 : Int32)), .unset] [])) _
                refine X0.ldc2Long hx hown (mvT hZ (hw _ (List.mem_of_getElem? (i := 5) rfl))) (g := (mkF m 2 #[.val (.int p1), .val (.int p2), .val (.int (5 : Int32)), .unset] [])) rfl (hb hby d1_2) _ ?_
                show Steps p.tables e below (s₁.setTop (mkF m 5 #[.val (.int p1), .val (.int p2), .val (.int (5 : Int32)), .unset] [(.long (1024 : Int64))])) _
                refine XS.iloadN X0.here hx rfl (hb hby d1_5) rfl ?_
                show Steps p.tables e below (s₁.setTop (mkF m 6 #[.val (.int p1), .val (.int p2), .val (.int (5 : Int32)), .unset] [(.int (5 : Int32)), (.long (1024 : Int64))])) _
                refine XS.lshl X0.here hx rfl (hb hby d1_6) rfl ?_
                show Steps p.tables e below (s₁.setTop (mkF m 7 #[.val (.int p1), .val (.int p2), .val (.int (5 : Int32)), .unset] [(.long ((1024 : Int64) <<< ((5 : Int32) &&& 0x3f).toInt64))])) _
                refine XS.iloadN X0.here hx rfl (hb hby d1_7) rfl ?_
                show Steps p.tables e below (s₁.setTop (mkF m 8 #[.val (.int p1), .val (.int p2), .val (.int (5 : Int32)), .unset] [(.int p1), (.long ((1024 : Int64) <<< ((5 : Int32) &&& 0x3f).toInt64))])) _
                refine XS.i2l X0.here hx rfl (hb hby d1_8) rfl ?_
                show Steps p.tables e below (s₁.setTop (mkF m 9 #[.val (.int p1), .val (.int p2), .val (.int (5 : Int32)), .unset] [(.long (p1.toInt64)), (.long ((1024 : Int64) <<< ((5 : Int32) &&& 0x3f).toInt64))])) _
                refine XS.lcmp X0.here hx rfl (hb hby d1_9) rfl ?_
                exact kt
              by_cases hc10_6 : (32768 : Int32) < p1
              · have pre139 : ∀ t, Steps p.tables e below (s₁.setTop (mkF m 10 #[.val (.int p1), .val (.int p2), .val (.int (6 : Int32)), .unset] [(.int (lcmpW ((1024 : Int64) <<< ((6 : Int32) &&& 0x3f).toInt64) (p1.toInt64)))])) t → Steps p.tables e below (s₁.setTop (entryFrame m #[(.int p1), (.int p2)] 4)) t := by
                  intro t kt
                  refine pre138 t ?_
                  show Steps p.tables e below (s₁.setTop (mkF m 10 #[.val (.int p1), .val (.int p2), .val (.int (5 : Int32)), .unset] [(.int (lcmpW ((1024 : Int64) <<< ((5 : Int32) &&& 0x3f).toInt64) (p1.toInt64)))])) _
                  refine XS.ifNo X0.here hx rfl (hb hby d1_10) rfl ((if0 _ _).trans (tlt ((lw_lt _ _).mpr ((own_cmp p1 _ (32768 : Int32) (by decide +kernel)).mpr hc10_6))).2.1) ?_
                  show Steps p.tables e below (s₁.setTop (mkF m 13 #[.val (.int p1), .val (.int p2), .val (.int (5 : Int32)), .unset] [])) _
                  refine XS.iloadN X0.here hx rfl (hb hby d1_13) rfl ?_
                  show Steps p.tables e below (s₁.setTop (mkF m 14 #[.val (.int p1), .val (.int p2), .val (.int (5 : Int32)), .unset] [(.int (5 : Int32))])) _
                  refine XS.bipush X0.here hx rfl (hb hby d1_14) ?_
                  show Steps p.tables e below (s₁.setTop (mkF m 16 #[.val (.int p1), .val (.int p2), .val (.int (5 : Int32)), .unset] [(.int (15 : Int32)), (.int (5 : Int32))])) _
                  refine XS.icmpNo X0.here hx rfl (hb hby d1_16) rfl (tlt (by decide)).2.1 ?_
                  show Steps p.tables e below (s₁.setTop (mkF m 19 #[.val (.int p1), .val (.int p2), .val (.int (5 : Int32)), .unset] [])) _
                  refine XS.iinc X0.here hx rfl (hb hby d1_19) rfl (l' := #[.val (.int p1), .val (.int p2), .val (.int (6 : Int32)), .unset]) rfl ?_
                  show Steps p.tables e below (s₁.setTop (mkF m 22 #[.val (.int p1), .val (.int p2), .val (.int (6 : Int32)), .unset] [])) _
                  refine XS.goto X0.here hx rfl (pc0 := 22) (pc' := 2) rfl (hb hby d1_22) (by decide) (by decide) ?_
                  show Steps p.tables e below (s₁.setTop (mkF m 2 #[.val (.int p1), .val (.int p2), .val (.int (6 : Int32)), .unset] [])) _
                  refine X0.ldc2Long hx hown (mvT hZ (hw _ (List.mem_of_getElem? (i := 5) rfl))) (g := (mkF m 2 #[.val (.int p1), .val (.int p2), .val (.int (6 : Int32)), .unset] [])) rfl (hb hby d1_2) _ ?_
                  show Steps p.tables e below (s₁.setTop (mkF m 5 #[.val (.int p1), .val (.int p2), .val (.int (6 : Int32)), .unset] [(.long (1024 : Int64))])) _
                  refine XS.iloadN X0.here hx rfl (hb hby d1_5) rfl ?_
                  show Steps p.tables e below (s₁.setTop (mkF m 6 #[.val (.int p1), .val (.int p2), .val (.int (6 : Int32)), .unset] [(.int (6 : Int32)), (.long (1024 : Int64))])) _
                  refine XS.lshl X0.here hx rfl (hb hby d1_6) rfl ?_
                  show Steps p.tables e below (s₁.setTop (mkF m 7 #[.val (.int p1), .val (.int p2), .val (.int (6 : Int32)), .unset] [(.long ((1024 : Int64) <<< ((6 : Int32) &&& 0x3f).toInt64))])) _
                  refine XS.iloadN X0.here hx rfl (hb hby d1_7) rfl ?_
                  show Steps p.tables e below (s₁.setTop (mkF m 8 #[.val (.int p1), .val (.int p2), .val (.int (6 : Int32)), .unset] [(.int p1), (.long ((1024 : Int64) <<< ((6 : Int32) &&& 0x3f).toInt64))])) _
                  refine XS.i2l X0.here hx rfl (hb hby d1_8) rfl ?_
                  show Steps p.tables e below (s₁.setTop (mkF m 9 #[.val (.int p1), .val (.int p2), .val (.int (6 : Int32)), .unset] [(.long (p1.toInt64)), (.long ((1024 : Int64) <<< ((6 : Int32) &&& 0x3f).toInt64))])) _
                  refine XS.lcmp X0.here hx rfl (hb hby d1_9) rfl ?_
                  exact kt
                by_cases hc10_7 : (65536 : Int32) < p1
                · have pre140 : ∀ t, Steps p.tables e below (s₁.setTop (mkF m 10 #[.val (.int p1), .val (.int p2), .val (.int (7 : Int32)), .unset] [(.int (lcmpW ((1024 : Int64) <<< ((7 : Int32) &&& 0x3f).toInt64) (p1.toInt64)))])) t → Steps p.tables e below (s₁.setTop (entryFrame m #[(.int p1), (.int p2)] 4)) t := by
                    intro t kt
                    refine pre139 t ?_
                    show Steps p.tables e below (s₁.setTop (mkF m 10 #[.val (.int p1), .val (.int p2), .val (.int (6 : Int32)), .unset] [(.int (lcmpW ((1024 : Int64) <<< ((6 : Int32) &&& 0x3f).toInt64) (p1.toInt64)))])) _
                    refine XS.ifNo X0.here hx rfl (hb hby d1_10) rfl ((if0 _ _).trans (tlt ((lw_lt _ _).mpr ((own_cmp p1 _ (65536 : Int32) (by decide +kernel)).mpr hc10_7))).2.1) ?_
                    show Steps p.tables e below (s₁.setTop (mkF m 13 #[.val (.int p1), .val (.int p2), .val (.int (6 : Int32)), .unset] [])) _
                    refine XS.iloadN X0.here hx rfl (hb hby d1_13) rfl ?_
                    show Steps p.tables e below (s₁.setTop (mkF m 14 #[.val (.int p1), .val (.int p2), .val (.int (6 : Int32)), .unset] [(.int (6 : Int32))])) _
                    refine XS.bipush X0.here hx rfl (hb hby d1_14) ?_
                    show Steps p.tables e below (s₁.setTop (mkF m 16 #[.val (.int p1), .val (.int p2), .val (.int (6 : Int32)), .unset] [(.int (15 : Int32)), (.int (6 : Int32))])) _
                    refine XS.icmpNo X0.here hx rfl (hb hby d1_16) rfl (tlt (by decide)).2.1 ?_
                    show Steps p.tables e below (s₁.setTop (mkF m 19 #[.val (.int p1), .val (.int p2), .val (.int (6 : Int32)), .unset] [])) _
                    refine XS.iinc X0.here hx rfl (hb hby d1_19) rfl (l' := #[.val (.int p1), .val (.int p2), .val (.int (7 : Int32)), .unset]) rfl ?_
                    show Steps p.tables e below (s₁.setTop (mkF m 22 #[.val (.int p1), .val (.int p2), .val (.int (7 : Int32)), .unset] [])) _
                    refine XS.goto X0.here hx rfl (pc0 := 22) (pc' := 2) rfl (hb hby d1_22) (by decide) (by decide) ?_
                    show Steps p.tables e below (s₁.setTop (mkF m 2 #[.val (.int p1), .val (.int p2), .val (.int (7 : Int32)), .unset] [])) _
                    refine X0.ldc2Long hx hown (mvT hZ (hw _ (List.mem_of_getElem? (i := 5) rfl))) (g := (mkF m 2 #[.val (.int p1), .val (.int p2), .val (.int (7 : Int32)), .unset] [])) rfl (hb hby d1_2) _ ?_
                    show Steps p.tables e below (s₁.setTop (mkF m 5 #[.val (.int p1), .val (.int p2), .val (.int (7 : Int32)), .unset] [(.long (1024 : Int64))])) _
                    refine XS.iloadN X0.here hx rfl (hb hby d1_5) rfl ?_
                    show Steps p.tables e below (s₁.setTop (mkF m 6 #[.val (.int p1), .val (.int p2), .val (.int (7 : Int32)), .unset] [(.int (7 : Int32)), (.long (1024 : Int64))])) _
                    refine XS.lshl X0.here hx rfl (hb hby d1_6) rfl ?_
                    show Steps p.tables e below (s₁.setTop (mkF m 7 #[.val (.int p1), .val (.int p2), .val (.int (7 : Int32)), .unset] [(.long ((1024 : Int64) <<< ((7 : Int32) &&& 0x3f).toInt64))])) _
                    refine XS.iloadN X0.here hx rfl (hb hby d1_7) rfl ?_
                    show Steps p.tables e below (s₁.setTop (mkF m 8 #[.val (.int p1), .val (.int p2), .val (.int (7 : Int32)), .unset] [(.int p1), (.long ((1024 : Int64) <<< ((7 : Int32) &&& 0x3f).toInt64))])) _
                    refine XS.i2l X0.here hx rfl (hb hby d1_8) rfl ?_
                    show Steps p.tables e below (s₁.setTop (mkF m 9 #[.val (.int p1), .val (.int p2), .val (.int (7 : Int32)), .unset] [(.long (p1.toInt64)), (.long ((1024 : Int64) <<< ((7 : Int32) &&& 0x3f).toInt64))])) _
                    refine XS.lcmp X0.here hx rfl (hb hby d1_9) rfl ?_
                    exact kt
                  by_cases hc10_8 : (131072 : Int32) < p1
                  · have pre141 : ∀ t, Steps p.tables e below (s₁.setTop (mkF m 10 #[.val (.int p1), .val (.int p2), .val (.int (8 : Int32)), .unset] [(.int (lcmpW ((1024 : Int64) <<< ((8 : Int32) &&& 0x3f).toInt64) (p1.toInt64)))])) t → Steps p.tables e below (s₁.setTop (entryFrame m #[(.int p1), (.int p2)] 4)) t := by
                      intro t kt
                      refine pre140 t ?_
                      show Steps p.tables e below (s₁.setTop (mkF m 10 #[.val (.int p1), .val (.int p2), .val (.int (7 : Int32)), .unset] [(.int (lcmpW ((1024 : Int64) <<< ((7 : Int32) &&& 0x3f).toInt64) (p1.toInt64)))])) _
                      refine XS.ifNo X0.here hx rfl (hb hby d1_10) rfl ((if0 _ _).trans (tlt ((lw_lt _ _).mpr ((own_cmp p1 _ (131072 : Int32) (by decide +kernel)).mpr hc10_8))).2.1) ?_
                      show Steps p.tables e below (s₁.setTop (mkF m 13 #[.val (.int p1), .val (.int p2), .val (.int (7 : Int32)), .unset] [])) _
                      refine XS.iloadN X0.here hx rfl (hb hby d1_13) rfl ?_
                      show Steps p.tables e below (s₁.setTop (mkF m 14 #[.val (.int p1), .val (.int p2), .val (.int (7 : Int32)), .unset] [(.int (7 : Int32))])) _
                      refine XS.bipush X0.here hx rfl (hb hby d1_14) ?_
                      show Steps p.tables e below (s₁.setTop (mkF m 16 #[.val (.int p1), .val (.int p2), .val (.int (7 : Int32)), .unset] [(.int (15 : Int32)), (.int (7 : Int32))])) _
                      refine XS.icmpNo X0.here hx rfl (hb hby d1_16) rfl (tlt (by decide)).2.1 ?_
                      show Steps p.tables e below (s₁.setTop (mkF m 19 #[.val (.int p1), .val (.int p2), .val (.int (7 : Int32)), .unset] [])) _
                      refine XS.iinc X0.here hx rfl (hb hby d1_19) rfl (l' := #[.val (.int p1), .val (.int p2), .val (.int (8 : Int32)), .unset]) rfl ?_
                      show Steps p.tables e below (s₁.setTop (mkF m 22 #[.val (.int p1), .val (.int p2), .val (.int (8 : Int32)), .unset] [])) _
                      refine XS.goto X0.here hx rfl (pc0 := 22) (pc' := 2) rfl (hb hby d1_22) (by decide) (by decide) ?_
                      show Steps p.tables e below (s₁.setTop (mkF m 2 #[.val (.int p1), .val (.int p2), .val (.int (8 : Int32)), .unset] [])) _
                      refine X0.ldc2Long hx hown (mvT hZ (hw _ (List.mem_of_getElem? (i := 5) rfl))) (g := (mkF m 2 #[.val (.int p1), .val (.int p2), .val (.int (8 : Int32)), .unset] [])) rfl (hb hby d1_2) _ ?_
                      show Steps p.tables e below (s₁.setTop (mkF m 5 #[.val (.int p1), .val (.int p2), .val (.int (8 : Int32)), .unset] [(.long (1024 : Int64))])) _
                      refine XS.iloadN X0.here hx rfl (hb hby d1_5) rfl ?_
                      show Steps p.tables e below (s₁.setTop (mkF m 6 #[.val (.int p1), .val (.int p2), .val (.int (8 : Int32)), .unset] [(.int (8 : Int32)), (.long (1024 : Int64))])) _
                      refine XS.lshl X0.here hx rfl (hb hby d1_6) rfl ?_
                      show Steps p.tables e below (s₁.setTop (mkF m 7 #[.val (.int p1), .val (.int p2), .val (.int (8 : Int32)), .unset] [(.long ((1024 : Int64) <<< ((8 : Int32) &&& 0x3f).toInt64))])) _
                      refine XS.iloadN X0.here hx rfl (hb hby d1_7) rfl ?_
                      show Steps p.tables e below (s₁.setTop (mkF m 8 #[.val (.int p1), .val (.int p2), .val (.int (8 : Int32)), .unset] [(.int p1), (.long ((1024 : Int64) <<< ((8 : Int32) &&& 0x3f).toInt64))])) _
                      refine XS.i2l X0.here hx rfl (hb hby d1_8) rfl ?_
                      show Steps p.tables e below (s₁.setTop (mkF m 9 #[.val (.int p1), .val (.int p2), .val (.int (8 : Int32)), .unset] [(.long (p1.toInt64)), (.long ((1024 : Int64) <<< ((8 : Int32) &&& 0x3f).toInt64))])) _
                      refine XS.lcmp X0.here hx rfl (hb hby d1_9) rfl ?_
                      exact kt
                    by_cases hc10_9 : (262144 : Int32) < p1
                    · have pre142 : ∀ t, Steps p.tables e below (s₁.setTop (mkF m 10 #[.val (.int p1), .val (.int p2), .val (.int (9 : Int32)), .unset] [(.int (lcmpW ((1024 : Int64) <<< ((9 : Int32) &&& 0x3f).toInt64) (p1.toInt64)))])) t → Steps p.tables e below (s₁.setTop (entryFrame m #[(.int p1), (.int p2)] 4)) t := by
                        intro t kt
                        refine pre141 t ?_
                        show Steps p.tables e below (s₁.setTop (mkF m 10 #[.val (.int p1), .val (.int p2), .val (.int (8 : Int32)), .unset] [(.int (lcmpW ((1024 : Int64) <<< ((8 : Int32) &&& 0x3f).toInt64) (p1.toInt64)))])) _
                        refine XS.ifNo X0.here hx rfl (hb hby d1_10) rfl ((if0 _ _).trans (tlt ((lw_lt _ _).mpr ((own_cmp p1 _ (262144 : Int32) (by decide +kernel)).mpr hc10_9))).2.1) ?_
                        show Steps p.tables e below (s₁.setTop (mkF m 13 #[.val (.int p1), .val (.int p2), .val (.int (8 : Int32)), .unset] [])) _
                        refine XS.iloadN X0.here hx rfl (hb hby d1_13) rfl ?_
                        show Steps p.tables e below (s₁.setTop (mkF m 14 #[.val (.int p1), .val (.int p2), .val (.int (8 : Int32)), .unset] [(.int (8 : Int32))])) _
                        refine XS.bipush X0.here hx rfl (hb hby d1_14) ?_
                        show Steps p.tables e below (s₁.setTop (mkF m 16 #[.val (.int p1), .val (.int p2), .val (.int (8 : Int32)), .unset] [(.int (15 : Int32)), (.int (8 : Int32))])) _
                        refine XS.icmpNo X0.here hx rfl (hb hby d1_16) rfl (tlt (by decide)).2.1 ?_
                        show Steps p.tables e below (s₁.setTop (mkF m 19 #[.val (.int p1), .val (.int p2), .val (.int (8 : Int32)), .unset] [])) _
                        refine XS.iinc X0.here hx rfl (hb hby d1_19) rfl (l' := #[.val (.int p1), .val (.int p2), .val (.int (9 : Int32)), .unset]) rfl ?_
                        show Steps p.tables e below (s₁.setTop (mkF m 22 #[.val (.int p1), .val (.int p2), .val (.int (9 : Int32)), .unset] [])) _
                        refine XS.goto X0.here hx rfl (pc0 := 22) (pc' := 2) rfl (hb hby d1_22) (by decide) (by decide) ?_
                        show Steps p.tables e below (s₁.setTop (mkF m 2 #[.val (.int p1), .val (.int p2), .val (.int (9 : Int32)), .unset] [])) _
                        refine X0.ldc2Long hx hown (mvT hZ (hw _ (List.mem_of_getElem? (i := 5) rfl))) (g := (mkF m 2 #[.val (.int p1), .val (.int p2), .val (.int (9 : Int32)), .unset] [])) rfl (hb hby d1_2) _ ?_
                        show Steps p.tables e below (s₁.setTop (mkF m 5 #[.val (.int p1), .val (.int p2), .val (.int (9 : Int32)), .unset] [(.long (1024 : Int64))])) _
                        refine XS.iloadN X0.here hx rfl (hb hby d1_5) rfl ?_
                        show Steps p.tables e below (s₁.setTop (mkF m 6 #[.val (.int p1), .val (.int p2), .val (.int (9 : Int32)), .unset] [(.int (9 : Int32)), (.long (1024 : Int64))])) _
                        refine XS.lshl X0.here hx rfl (hb hby d1_6) rfl ?_
                        show Steps p.tables e below (s₁.setTop (mkF m 7 #[.val (.int p1), .val (.int p2), .val (.int (9 : Int32)), .unset] [(.long ((1024 : Int64) <<< ((9 : Int32) &&& 0x3f).toInt64))])) _
                        refine XS.iloadN X0.here hx rfl (hb hby d1_7) rfl ?_
                        show Steps p.tables e below (s₁.setTop (mkF m 8 #[.val (.int p1), .val (.int p2), .val (.int (9 : Int32)), .unset] [(.int p1), (.long ((1024 : Int64) <<< ((9 : Int32) &&& 0x3f).toInt64))])) _
                        refine XS.i2l X0.here hx rfl (hb hby d1_8) rfl ?_
                        show Steps p.tables e below (s₁.setTop (mkF m 9 #[.val (.int p1), .val (.int p2), .val (.int (9 : Int32)), .unset] [(.long (p1.toInt64)), (.long ((1024 : Int64) <<< ((9 : Int32) &&& 0x3f).toInt64))])) _
                        refine XS.lcmp X0.here hx rfl (hb hby d1_9) rfl ?_
                        exact kt
                      by_cases hc10_10 : (524288 : Int32) < p1
                      · have pre143 : ∀ t, Steps p.tables e below (s₁.setTop (mkF m 10 #[.val (.int p1), .val (.int p2), .val (.int (10 : Int32)), .unset] [(.int (lcmpW ((1024 : Int64) <<< ((10 : Int32) &&& 0x3f).toInt64) (p1.toInt64)))])) t → Steps p.tables e below (s₁.setTop (entryFrame m #[(.int p1), (.int p2)] 4)) t := by
                          intro t kt
                          refine pre142 t ?_
                          show Steps p.tables e below (s₁.setTop (mkF m 10 #[.val (.int p1), .val (.int p2), .val (.int (9 : Int32)), .unset] [(.int (lcmpW ((1024 : Int64) <<< ((9 : Int32) &&& 0x3f).toInt64) (p1.toInt64)))])) _
                          refine XS.ifNo X0.here hx rfl (hb hby d1_10) rfl ((if0 _ _).trans (tlt ((lw_lt _ _).mpr ((own_cmp p1 _ (524288 : Int32) (by decide +kernel)).mpr hc10_10))).2.1) ?_
                          show Steps p.tables e below (s₁.setTop (mkF m 13 #[.val (.int p1), .val (.int p2), .val (.int (9 : Int32)), .unset] [])) _
                          refine XS.iloadN X0.here hx rfl (hb hby d1_13) rfl ?_
                          show Steps p.tables e below (s₁.setTop (mkF m 14 #[.val (.int p1), .val (.int p2), .val (.int (9 : Int32)), .unset] [(.int (9 : Int32))])) _
                          refine XS.bipush X0.here hx rfl (hb hby d1_14) ?_
                          show Steps p.tables e below (s₁.setTop (mkF m 16 #[.val (.int p1), .val (.int p2), .val (.int (9 : Int32)), .unset] [(.int (15 : Int32)), (.int (9 : Int32))])) _
                          refine XS.icmpNo X0.here hx rfl (hb hby d1_16) rfl (tlt (by decide)).2.1 ?_
                          show Steps p.tables e below (s₁.setTop (mkF m 19 #[.val (.int p1), .val (.int p2), .val (.int (9 : Int32)), .unset] [])) _
                          refine XS.iinc X0.here hx rfl (hb hby d1_19) rfl (l' := #[.val (.int p1), .val (.int p2), .val (.int (10 : Int32)), .unset]) rfl ?_
                          show Steps p.tables e below (s₁.setTop (mkF m 22 #[.val (.int p1), .val (.int p2), .val (.int (10 : Int32)), .unset] [])) _
                          refine XS.goto X0.here hx rfl (pc0 := 22) (pc' := 2) rfl (hb hby d1_22) (by decide) (by decide) ?_
                          show Steps p.tables e below (s₁.setTop (mkF m 2 #[.val (.int p1), .val (.int p2), .val (.int (10 : Int32)), .unset] [])) _
                          refine X0.ldc2Long hx hown (mvT hZ (hw _ (List.mem_of_getElem? (i := 5) rfl))) (g := (mkF m 2 #[.val (.int p1), .val (.int p2), .val (.int (10 : Int32)), .unset] [])) rfl (hb hby d1_2) _ ?_
                          show Steps p.tables e below (s₁.setTop (mkF m 5 #[.val (.int p1), .val (.int p2), .val (.int (10 : Int32)), .unset] [(.long (1024 : Int64))])) _
                          refine XS.iloadN X0.here hx rfl (hb hby d1_5) rfl ?_
                          show Steps p.tables e below (s₁.setTop (mkF m 6 #[.val (.int p1), .val (.int p2), .val (.int (10 : Int32)), .unset] [(.int (10 : Int32)), (.long (1024 : Int64))])) _
                          refine XS.lshl X0.here hx rfl (hb hby d1_6) rfl ?_
                          show Steps p.tables e below (s₁.setTop (mkF m 7 #[.val (.int p1), .val (.int p2), .val (.int (10 : Int32)), .unset] [(.long ((1024 : Int64) <<< ((10 : Int32) &&& 0x3f).toInt64))])) _
                          refine XS.iloadN X0.here hx rfl (hb hby d1_7) rfl ?_
                          show Steps p.tables e below (s₁.setTop (mkF m 8 #[.val (.int p1), .val (.int p2), .val (.int (10 : Int32)), .unset] [(.int p1), (.long ((1024 : Int64) <<< ((10 : Int32) &&& 0x3f).toInt64))])) _
                          refine XS.i2l X0.here hx rfl (hb hby d1_8) rfl ?_
                          show Steps p.tables e below (s₁.setTop (mkF m 9 #[.val (.int p1), .val (.int p2), .val (.int (10 : Int32)), .unset] [(.long (p1.toInt64)), (.long ((1024 : Int64) <<< ((10 : Int32) &&& 0x3f).toInt64))])) _
                          refine XS.lcmp X0.here hx rfl (hb hby d1_9) rfl ?_
                          exact kt
                        by_cases hc10_11 : (1048576 : Int32) < p1
                        · have pre144 : ∀ t, Steps p.tables e below (s₁.setTop (mkF m 10 #[.val (.int p1), .val (.int p2), .val (.int (11 : Int32)), .unset] [(.int (lcmpW ((1024 : Int64) <<< ((11 : Int32) &&& 0x3f).toInt64) (p1.toInt64)))])) t → Steps p.tables e below (s₁.setTop (entryFrame m #[(.int p1), (.int p2)] 4)) t := by
                            intro t kt
                            refine pre143 t ?_
                            show Steps p.tables e below (s₁.setTop (mkF m 10 #[.val (.int p1), .val (.int p2), .val (.int (10 : Int32)), .unset] [(.int (lcmpW ((1024 : Int64) <<< ((10 : Int32) &&& 0x3f).toInt64) (p1.toInt64)))])) _
                            refine XS.ifNo X0.here hx rfl (hb hby d1_10) rfl ((if0 _ _).trans (tlt ((lw_lt _ _).mpr ((own_cmp p1 _ (1048576 : Int32) (by decide +kernel)).mpr hc10_11))).2.1) ?_
                            show Steps p.tables e below (s₁.setTop (mkF m 13 #[.val (.int p1), .val (.int p2), .val (.int (10 : Int32)), .unset] [])) _
                            refine XS.iloadN X0.here hx rfl (hb hby d1_13) rfl ?_
                            show Steps p.tables e below (s₁.setTop (mkF m 14 #[.val (.int p1), .val (.int p2), .val (.int (10 : Int32)), .unset] [(.int (10 : Int32))])) _
                            refine XS.bipush X0.here hx rfl (hb hby d1_14) ?_
                            show Steps p.tables e below (s₁.setTop (mkF m 16 #[.val (.int p1), .val (.int p2), .val (.int (10 : Int32)), .unset] [(.int (15 : Int32)), (.int (10 : Int32))])) _
                            refine XS.icmpNo X0.here hx rfl (hb hby d1_16) rfl (tlt (by decide)).2.1 ?_
                            show Steps p.tables e below (s₁.setTop (mkF m 19 #[.val (.int p1), .val (.int p2), .val (.int (10 : Int32)), .unset] [])) _
                            refine XS.iinc X0.here hx rfl (hb hby d1_19) rfl (l' := #[.val (.int p1), .val (.int p2), .val (.int (11 : Int32)), .unset]) rfl ?_
                            show Steps p.tables e below (s₁.setTop (mkF m 22 #[.val (.int p1), .val (.int p2), .val (.int (11 : Int32)), .unset] [])) _
                            refine XS.goto X0.here hx rfl (pc0 := 22) (pc' := 2) rfl (hb hby d1_22) (by decide) (by decide) ?_
                            show Steps p.tables e below (s₁.setTop (mkF m 2 #[.val (.int p1), .val (.int p2), .val (.int (11 : Int32)), .unset] [])) _
                            refine X0.ldc2Long hx hown (mvT hZ (hw _ (List.mem_of_getElem? (i := 5) rfl))) (g := (mkF m 2 #[.val (.int p1), .val (.int p2), .val (.int (11 : Int32)), .unset] [])) rfl (hb hby d1_2) _ ?_
                            show Steps p.tables e below (s₁.setTop (mkF m 5 #[.val (.int p1), .val (.int p2), .val (.int (11 : Int32)), .unset] [(.long (1024 : Int64))])) _
                            refine XS.iloadN X0.here hx rfl (hb hby d1_5) rfl ?_
                            show Steps p.tables e below (s₁.setTop (mkF m 6 #[.val (.int p1), .val (.int p2), .val (.int (11 : Int32)), .unset] [(.int (11 : Int32)), (.long (1024 : Int64))])) _
                            refine XS.lshl X0.here hx rfl (hb hby d1_6) rfl ?_
                            show Steps p.tables e below (s₁.setTop (mkF m 7 #[.val (.int p1), .val (.int p2), .val (.int (11 : Int32)), .unset] [(.long ((1024 : Int64) <<< ((11 : Int32) &&& 0x3f).toInt64))])) _
                            refine XS.iloadN X0.here hx rfl (hb hby d1_7) rfl ?_
                            show Steps p.tables e below (s₁.setTop (mkF m 8 #[.val (.int p1), .val (.int p2), .val (.int (11 : Int32)), .unset] [(.int p1), (.long ((1024 : Int64) <<< ((11 : Int32) &&& 0x3f).toInt64))])) _
                            refine XS.i2l X0.here hx rfl (hb hby d1_8) rfl ?_
                            show Steps p.tables e below (s₁.setTop (mkF m 9 #[.val (.int p1), .val (.int p2), .val (.int (11 : Int32)), .unset] [(.long (p1.toInt64)), (.long ((1024 : Int64) <<< ((11 : Int32) &&& 0x3f).toInt64))])) _
                            refine XS.lcmp X0.here hx rfl (hb hby d1_9) rfl ?_
                            exact kt
                          by_cases hc10_12 : (2097152 : Int32) < p1
                          · have pre145 : ∀ t, Steps p.tables e below (s₁.setTop (mkF m 10 #[.val (.int p1), .val (.int p2), .val (.int (12 : Int32)), .unset] [(.int (lcmpW ((1024 : Int64) <<< ((12 : Int32) &&& 0x3f).toInt64) (p1.toInt64)))])) t → Steps p.tables e below (s₁.setTop (entryFrame m #[(.int p1), (.int p2)] 4)) t := by
                              intro t kt
                              refine pre144 t ?_
                              show Steps p.tables e below (s₁.setTop (mkF m 10 #[.val (.int p1), .val (.int p2), .val (.int (11 : Int32)), .unset] [(.int (lcmpW ((1024 : Int64) <<< ((11 : Int32) &&& 0x3f).toInt64) (p1.toInt64)))])) _
                              refine XS.ifNo X0.here hx rfl (hb hby d1_10) rfl ((if0 _ _).trans (tlt ((lw_lt _ _).mpr ((own_cmp p1 _ (2097152 : Int32) (by decide +kernel)).mpr hc10_12))).2.1) ?_
                              show Steps p.tables e below (s₁.setTop (mkF m 13 #[.val (.int p1), .val (.int p2), .val (.int (11 : Int32)), .unset] [])) _
                              refine XS.iloadN X0.here hx rfl (hb hby d1_13) rfl ?_
                              show Steps p.tables e below (s₁.setTop (mkF m 14 #[.val (.int p1), .val (.int p2), .val (.int (11 : Int32)), .unset] [(.int (11 : Int32))])) _
                              refine XS.bipush X0.here hx rfl (hb hby d1_14) ?_
                              show Steps p.tables e below (s₁.setTop (mkF m 16 #[.val (.int p1), .val (.int p2), .val (.int (11 : Int32)), .unset] [(.int (15 : Int32)), (.int (11 : Int32))])) _
                              refine XS.icmpNo X0.here hx rfl (hb hby d1_16) rfl (tlt (by decide)).2.1 ?_
                              show Steps p.tables e below (s₁.setTop (mkF m 19 #[.val (.int p1), .val (.int p2), .val (.int (11 : Int32)), .unset] [])) _
                              refine XS.iinc X0.here hx rfl (hb hby d1_19) rfl (l' := #[.val (.int p1), .val (.int p2), .val (.int (12 : Int32)), .unset]) rfl ?_
                              show Steps p.tables e below (s₁.setTop (mkF m 22 #[.val (.int p1), .val (.int p2), .val (.int (12 : Int32)), .unset] [])) _
                              refine XS.goto X0.here hx rfl (pc0 := 22) (pc' := 2) rfl (hb hby d1_22) (by decide) (by decide) ?_
                              show Steps p.tables e below (s₁.setTop (mkF m 2 #[.val (.int p1), .val (.int p2), .val (.int (12 : Int32)), .unset] [])) _
                              refine X0.ldc2Long hx hown (mvT hZ (hw _ (List.mem_of_getElem? (i := 5) rfl))) (g := (mkF m 2 #[.val (.int p1), .val (.int p2), .val (.int (12 : Int32)), .unset] [])) rfl (hb hby d1_2) _ ?_
                              show Steps p.tables e below (s₁.setTop (mkF m 5 #[.val (.int p1), .val (.int p2), .val (.int (12 : Int32)), .unset] [(.long (1024 : Int64))])) _
                              refine XS.iloadN X0.here hx rfl (hb hby d1_5) rfl ?_
                              show Steps p.tables e below (s₁.setTop (mkF m 6 #[.val (.int p1), .val (.int p2), .val (.int (12 : Int32)), .unset] [(.int (12 : Int32)), (.long (1024 : Int64))])) _
                              refine XS.lshl X0.here hx rfl (hb hby d1_6) rfl ?_
                              show Steps p.tables e below (s₁.setTop (mkF m 7 #[.val (.int p1), .val (.int p2), .val (.int (12 : Int32)), .unset] [(.long ((1024 : Int64) <<< ((12 : Int32) &&& 0x3f).toInt64))])) _
                              refine XS.iloadN X0.here hx rfl (hb hby d1_7) rfl ?_
                              show Steps p.tables e below (s₁.setTop (mkF m 8 #[.val (.int p1), .val (.int p2), .val (.int (12 : Int32)), .unset] [(.int p1), (.long ((1024 : Int64) <<< ((12 : Int32) &&& 0x3f).toInt64))])) _
                              refine XS.i2l X0.here hx rfl (hb hby d1_8) rfl ?_
                              show Steps p.tables e below (s₁.setTop (mkF m 9 #[.val (.int p1), .val (.int p2), .val (.int (12 : Int32)), .unset] [(.long (p1.toInt64)), (.long ((1024 : Int64) <<< ((12 : Int32) &&& 0x3f).toInt64))])) _
                              refine XS.lcmp X0.here hx rfl (hb hby d1_9) rfl ?_
                              exact kt
                            by_cases hc10_13 : (4194304 : Int32) < p1
                            · have pre146 : ∀ t, Steps p.tables e below (s₁.setTop (mkF m 10 #[.val (.int p1), .val (.int p2), .val (.int (13 : Int32)), .unset] [(.int (lcmpW ((1024 : Int64) <<< ((13 : Int32) &&& 0x3f).toInt64) (p1.toInt64)))])) t → Steps p.tables e below (s₁.setTop (entryFrame m #[(.int p1), (.int p2)] 4)) t := by
                                intro t kt
                                refine pre145 t ?_
                                show Steps p.tables e below (s₁.setTop (mkF m 10 #[.val (.int p1), .val (.int p2), .val (.int (12 : Int32)), .unset] [(.int (lcmpW ((1024 : Int64) <<< ((12 : Int32) &&& 0x3f).toInt64) (p1.toInt64)))])) _
                                refine XS.ifNo X0.here hx rfl (hb hby d1_10) rfl ((if0 _ _).trans (tlt ((lw_lt _ _).mpr ((own_cmp p1 _ (4194304 : Int32) (by decide +kernel)).mpr hc10_13))).2.1) ?_
                                show Steps p.tables e below (s₁.setTop (mkF m 13 #[.val (.int p1), .val (.int p2), .val (.int (12 : Int32)), .unset] [])) _
                                refine XS.iloadN X0.here hx rfl (hb hby d1_13) rfl ?_
                                show Steps p.tables e below (s₁.setTop (mkF m 14 #[.val (.int p1), .val (.int p2), .val (.int (12 : Int32)), .unset] [(.int (12 : Int32))])) _
                                refine XS.bipush X0.here hx rfl (hb hby d1_14) ?_
                                show Steps p.tables e below (s₁.setTop (mkF m 16 #[.val (.int p1), .val (.int p2), .val (.int (12 : Int32)), .unset] [(.int (15 : Int32)), (.int (12 : Int32))])) _
                                refine XS.icmpNo X0.here hx rfl (hb hby d1_16) rfl (tlt (by decide)).2.1 ?_
                                show Steps p.tables e below (s₁.setTop (mkF m 19 #[.val (.int p1), .val (.int p2), .val (.int (12 : Int32)), .unset] [])) _
                                refine XS.iinc X0.here hx rfl (hb hby d1_19) rfl (l' := #[.val (.int p1), .val (.int p2), .val (.int (13 : Int32)), .unset]) rfl ?_
                                show Steps p.tables e below (s₁.setTop (mkF m 22 #[.val (.int p1), .val (.int p2), .val (.int (13 : Int32)), .unset] [])) _
                                refine XS.goto X0.here hx rfl (pc0 := 22) (pc' := 2) rfl (hb hby d1_22) (by decide) (by decide) ?_
                                show Steps p.tables e below (s₁.setTop (mkF m 2 #[.val (.int p1), .val (.int p2), .val (.int (13 : Int32)), .unset] [])) _
                                refine X0.ldc2Long hx hown (mvT hZ (hw _ (List.mem_of_getElem? (i := 5) rfl))) (g := (mkF m 2 #[.val (.int p1), .val (.int p2), .val (.int (13 : Int32)), .unset] [])) rfl (hb hby d1_2) _ ?_
                                show Steps p.tables e below (s₁.setTop (mkF m 5 #[.val (.int p1), .val (.int p2), .val (.int (13 : Int32)), .unset] [(.long (1024 : Int64))])) _
                                refine XS.iloadN X0.here hx rfl (hb hby d1_5) rfl ?_
                                show Steps p.tables e below (s₁.setTop (mkF m 6 #[.val (.int p1), .val (.int p2), .val (.int (13 : Int32)), .unset] [(.int (13 : Int32)), (.long (1024 : Int64))])) _
                                refine XS.lshl X0.here hx rfl (hb hby d1_6) rfl ?_
                                show Steps p.tables e below (s₁.setTop (mkF m 7 #[.val (.int p1), .val (.int p2), .val (.int (13 : Int32)), .unset] [(.long ((1024 : Int64) <<< ((13 : Int32) &&& 0x3f).toInt64))])) _
                                refine XS.iloadN X0.here hx rfl (hb hby d1_7) rfl ?_
                                show Steps p.tables e below (s₁.setTop (mkF m 8 #[.val (.int p1), .val (.int p2), .val (.int (13 : Int32)), .unset] [(.int p1), (.long ((1024 : Int64) <<< ((13 : Int32) &&& 0x3f).toInt64))])) _
                                refine XS.i2l X0.here hx rfl (hb hby d1_8) rfl ?_
                                show Steps p.tables e below (s₁.setTop (mkF m 9 #[.val (.int p1), .val (.int p2), .val (.int (13 : Int32)), .unset] [(.long (p1.toInt64)), (.long ((1024 : Int64) <<< ((13 : Int32) &&& 0x3f).toInt64))])) _
                                refine XS.lcmp X0.here hx rfl (hb hby d1_9) rfl ?_
                                exact kt
                              by_cases hc10_14 : (8388608 : Int32) < p1
                              · have pre147 : ∀ t, Steps p.tables e below (s₁.setTop (mkF m 10 #[.val (.int p1), .val (.int p2), .val (.int (14 : Int32)), .unset] [(.int (lcmpW ((1024 : Int64) <<< ((14 : Int32) &&& 0x3f).toInt64) (p1.toInt64)))])) t → Steps p.tables e below (s₁.setTop (entryFrame m #[(.int p1), (.int p2)] 4)) t := by
                                  intro t kt
                                  refine pre146 t ?_
                                  show Steps p.tables e below (s₁.setTop (mkF m 10 #[.val (.int p1), .val (.int p2), .val (.int (13 : Int32)), .unset] [(.int (lcmpW ((1024 : Int64) <<< ((13 : Int32) &&& 0x3f).toInt64) (p1.toInt64)))])) _
                                  refine XS.ifNo X0.here hx rfl (hb hby d1_10) rfl ((if0 _ _).trans (tlt ((lw_lt _ _).mpr ((own_cmp p1 _ (8388608 : Int32) (by decide +kernel)).mpr hc10_14))).2.1) ?_
                                  show Steps p.tables e below (s₁.setTop (mkF m 13 #[.val (.int p1), .val (.int p2), .val (.int (13 : Int32)), .unset] [])) _
                                  refine XS.iloadN X0.here hx rfl (hb hby d1_13) rfl ?_
                                  show Steps p.tables e below (s₁.setTop (mkF m 14 #[.val (.int p1), .val (.int p2), .val (.int (13 : Int32)), .unset] [(.int (13 : Int32))])) _
                                  refine XS.bipush X0.here hx rfl (hb hby d1_14) ?_
                                  show Steps p.tables e below (s₁.setTop (mkF m 16 #[.val (.int p1), .val (.int p2), .val (.int (13 : Int32)), .unset] [(.int (15 : Int32)), (.int (13 : Int32))])) _
                                  refine XS.icmpNo X0.here hx rfl (hb hby d1_16) rfl (tlt (by decide)).2.1 ?_
                                  show Steps p.tables e below (s₁.setTop (mkF m 19 #[.val (.int p1), .val (.int p2), .val (.int (13 : Int32)), .unset] [])) _
                                  refine XS.iinc X0.here hx rfl (hb hby d1_19) rfl (l' := #[.val (.int p1), .val (.int p2), .val (.int (14 : Int32)), .unset]) rfl ?_
                                  show Steps p.tables e below (s₁.setTop (mkF m 22 #[.val (.int p1), .val (.int p2), .val (.int (14 : Int32)), .unset] [])) _
                                  refine XS.goto X0.here hx rfl (pc0 := 22) (pc' := 2) rfl (hb hby d1_22) (by decide) (by decide) ?_
                                  show Steps p.tables e below (s₁.setTop (mkF m 2 #[.val (.int p1), .val (.int p2), .val (.int (14 : Int32)), .unset] [])) _
                                  refine X0.ldc2Long hx hown (mvT hZ (hw _ (List.mem_of_getElem? (i := 5) rfl))) (g := (mkF m 2 #[.val (.int p1), .val (.int p2), .val (.int (14 : Int32)), .unset] [])) rfl (hb hby d1_2) _ ?_
                                  show Steps p.tables e below (s₁.setTop (mkF m 5 #[.val (.int p1), .val (.int p2), .val (.int (14 : Int32)), .unset] [(.long (1024 : Int64))])) _
                                  refine XS.iloadN X0.here hx rfl (hb hby d1_5) rfl ?_
                                  show Steps p.tables e below (s₁.setTop (mkF m 6 #[.val (.int p1), .val (.int p2), .val (.int (14 : Int32)), .unset] [(.int (14 : Int32)), (.long (1024 : Int64))])) _
                                  refine XS.lshl X0.here hx rfl (hb hby d1_6) rfl ?_
                                  show Steps p.tables e below (s₁.setTop (mkF m 7 #[.val (.int p1), .val (.int p2), .val (.int (14 : Int32)), .unset] [(.long ((1024 : Int64) <<< ((14 : Int32) &&& 0x3f).toInt64))])) _
                                  refine XS.iloadN X0.here hx rfl (hb hby d1_7) rfl ?_
                                  show Steps p.tables e below (s₁.setTop (mkF m 8 #[.val (.int p1), .val (.int p2), .val (.int (14 : Int32)), .unset] [(.int p1), (.long ((1024 : Int64) <<< ((14 : Int32) &&& 0x3f).toInt64))])) _
                                  refine XS.i2l X0.here hx rfl (hb hby d1_8) rfl ?_
                                  show Steps p.tables e below (s₁.setTop (mkF m 9 #[.val (.int p1), .val (.int p2), .val (.int (14 : Int32)), .unset] [(.long (p1.toInt64)), (.long ((1024 : Int64) <<< ((14 : Int32) &&& 0x3f).toInt64))])) _
                                  refine XS.lcmp X0.here hx rfl (hb hby d1_9) rfl ?_
                                  exact kt
                                by_cases hc10_15 : (16777216 : Int32) < p1
                                · have pre148 : ∀ t, Steps p.tables e below (s₁.setTop (mkF m 10 #[.val (.int p1), .val (.int p2), .val (.int (15 : Int32)), .unset] [(.int (lcmpW ((1024 : Int64) <<< ((15 : Int32) &&& 0x3f).toInt64) (p1.toInt64)))])) t → Steps p.tables e below (s₁.setTop (entryFrame m #[(.int p1), (.int p2)] 4)) t := by
                                    intro t kt
                                    refine pre147 t ?_
                                    show Steps p.tables e below (s₁.setTop (mkF m 10 #[.val (.int p1), .val (.int p2), .val (.int (14 : Int32)), .unset] [(.int (lcmpW ((1024 : Int64) <<< ((14 : Int32) &&& 0x3f).toInt64) (p1.toInt64)))])) _
                                    refine XS.ifNo X0.here hx rfl (hb hby d1_10) rfl ((if0 _ _).trans (tlt ((lw_lt _ _).mpr ((own_cmp p1 _ (16777216 : Int32) (by decide +kernel)).mpr hc10_15))).2.1) ?_
                                    show Steps p.tables e below (s₁.setTop (mkF m 13 #[.val (.int p1), .val (.int p2), .val (.int (14 : Int32)), .unset] [])) _
                                    refine XS.iloadN X0.here hx rfl (hb hby d1_13) rfl ?_
                                    show Steps p.tables e below (s₁.setTop (mkF m 14 #[.val (.int p1), .val (.int p2), .val (.int (14 : Int32)), .unset] [(.int (14 : Int32))])) _
                                    refine XS.bipush X0.here hx rfl (hb hby d1_14) ?_
                                    show Steps p.tables e below (s₁.setTop (mkF m 16 #[.val (.int p1), .val (.int p2), .val (.int (14 : Int32)), .unset] [(.int (15 : Int32)), (.int (14 : Int32))])) _
                                    refine XS.icmpNo X0.here hx rfl (hb hby d1_16) rfl (tlt (by decide)).2.1 ?_
                                    show Steps p.tables e below (s₁.setTop (mkF m 19 #[.val (.int p1), .val (.int p2), .val (.int (14 : Int32)), .unset] [])) _
                                    refine XS.iinc X0.here hx rfl (hb hby d1_19) rfl (l' := #[.val (.int p1), .val (.int p2), .val (.int (15 : Int32)), .unset]) rfl ?_
                                    show Steps p.tables e below (s₁.setTop (mkF m 22 #[.val (.int p1), .val (.int p2), .val (.int (15 : Int32)), .unset] [])) _
                                    refine XS.goto X0.here hx rfl (pc0 := 22) (pc' := 2) rfl (hb hby d1_22) (by decide) (by decide) ?_
                                    show Steps p.tables e below (s₁.setTop (mkF m 2 #[.val (.int p1), .val (.int p2), .val (.int (15 : Int32)), .unset] [])) _
                                    refine X0.ldc2Long hx hown (mvT hZ (hw _ (List.mem_of_getElem? (i := 5) rfl))) (g := (mkF m 2 #[.val (.int p1), .val (.int p2), .val (.int (15 : Int32)), .unset] [])) rfl (hb hby d1_2) _ ?_
                                    show Steps p.tables e below (s₁.setTop (mkF m 5 #[.val (.int p1), .val (.int p2), .val (.int (15 : Int32)), .unset] [(.long (1024 : Int64))])) _
                                    refine XS.iloadN X0.here hx rfl (hb hby d1_5) rfl ?_
                                    show Steps p.tables e below (s₁.setTop (mkF m 6 #[.val (.int p1), .val (.int p2), .val (.int (15 : Int32)), .unset] [(.int (15 : Int32)), (.long (1024 : Int64))])) _
                                    refine XS.lshl X0.here hx rfl (hb hby d1_6) rfl ?_
                                    show Steps p.tables e below (s₁.setTop (mkF m 7 #[.val (.int p1), .val (.int p2), .val (.int (15 : Int32)), .unset] [(.long ((1024 : Int64) <<< ((15 : Int32) &&& 0x3f).toInt64))])) _
                                    refine XS.iloadN X0.here hx rfl (hb hby d1_7) rfl ?_
                                    show Steps p.tables e below (s₁.setTop (mkF m 8 #[.val (.int p1), .val (.int p2), .val (.int (15 : Int32)), .unset] [(.int p1), (.long ((1024 : Int64) <<< ((15 : Int32) &&& 0x3f).toInt64))])) _
                                    refine XS.i2l X0.here hx rfl (hb hby d1_8) rfl ?_
                                    show Steps p.tables e below (s₁.setTop (mkF m 9 #[.val (.int p1), .val (.int p2), .val (.int (15 : Int32)), .unset] [(.long (p1.toInt64)), (.long ((1024 : Int64) <<< ((15 : Int32) &&& 0x3f).toInt64))])) _
                                    refine XS.lcmp X0.here hx rfl (hb hby d1_9) rfl ?_
                                    exact kt
                                  by_cases hc10_16 : (33554432 : Int32) < p1
                                  · have pre150 : ∀ t, Steps p.tables e below (s₁.setTop (mkF m 25 #[.val (.int p1), .val (.int p2), .val (.int (15 : Int32)), .unset] [])) t → Steps p.tables e below (s₁.setTop (entryFrame m #[(.int p1), (.int p2)] 4)) t := by
                                      intro t kt
                                      refine pre148 t ?_
                                      show Steps p.tables e below (s₁.setTop (mkF m 10 #[.val (.int p1), .val (.int p2), .val (.int (15 : Int32)), .unset] [(.int (lcmpW ((1024 : Int64) <<< ((15 : Int32) &&& 0x3f).toInt64) (p1.toInt64)))])) _
                                      refine XS.ifNo X0.here hx rfl (hb hby d1_10) rfl ((if0 _ _).trans (tlt ((lw_lt _ _).mpr ((own_cmp p1 _ (33554432 : Int32) (by decide +kernel)).mpr hc10_16))).2.1) ?_
                                      show Steps p.tables e below (s₁.setTop (mkF m 13 #[.val (.int p1), .val (.int p2), .val (.int (15 : Int32)), .unset] [])) _
                                      refine XS.iloadN X0.here hx rfl (hb hby d1_13) rfl ?_
                                      show Steps p.tables e below (s₁.setTop (mkF m 14 #[.val (.int p1), .val (.int p2), .val (.int (15 : Int32)), .unset] [(.int (15 : Int32))])) _
                                      refine XS.bipush X0.here hx rfl (hb hby d1_14) ?_
                                      show Steps p.tables e below (s₁.setTop (mkF m 16 #[.val (.int p1), .val (.int p2), .val (.int (15 : Int32)), .unset] [(.int (15 : Int32)), (.int (15 : Int32))])) _
                                      refine XS.icmpYes X0.here hx rfl (pc0 := 16) (pc' := 25) rfl (hb hby d1_16) rfl (flt (by decide)).2.1 (by decide) (by decide) ?_
                                      exact kt
                                    refine ⟨(15 : Int32), ?_, pre150⟩
                                    rw [own_dbl, if_pos hc10, if_pos hc10_2, if_pos hc10_3, if_pos hc10_4, if_pos hc10_5, if_pos hc10_6, if_pos hc10_7, if_pos hc10_8, if_pos hc10_9, if_pos hc10_10, if_pos hc10_11, if_pos hc10_12, if_pos hc10_13, if_pos hc10_14, if_pos hc10_15]
                                  · have pre151 : ∀ t, Steps p.tables e below (s₁.setTop (mkF m 25 #[.val (.int p1), .val (.int p2), .val (.int (15 : Int32)), .unset] [])) t → Steps p.tables e below (s₁.setTop (entryFrame m #[(.int p1), (.int p2)] 4)) t := by
                                      intro t kt
                                      refine pre148 t ?_
                                      show Steps p.tables e below (s₁.setTop (mkF m 10 #[.val (.int p1), .val (.int p2), .val (.int (15 : Int32)), .unset] [(.int (lcmpW ((1024 : Int64) <<< ((15 : Int32) &&& 0x3f).toInt64) (p1.toInt64)))])) _
                                      refine XS.ifYes X0.here hx rfl (pc0 := 10) (pc' := 25) rfl (hb hby d1_10) rfl ((if0 _ _).trans (flt (fun qz => (fun qz => hc10_16 ((own_cmp p1 _ (33554432 : Int32) (by decide +kernel)).mp qz)) ((lw_lt _ _).mp qz))).2.1) (by decide) (by decide) ?_
                                      exact kt
                                    refine ⟨(15 : Int32), ?_, pre151⟩
                                    rw [own_dbl, if_pos hc10, if_pos hc10_2, if_pos hc10_3, if_pos hc10_4, if_pos hc10_5, if_pos hc10_6, if_pos hc10_7, if_pos hc10_8, if_pos hc10_9, if_pos hc10_10, if_pos hc10_11, if_pos hc10_12, if_pos hc10_13, if_pos hc10_14, if_pos hc10_15]
                                · have pre152 : ∀ t, Steps p.tables e below (s₁.setTop (mkF m 25 #[.val (.int p1), .val (.int p2), .val (.int (14 : Int32)), .unset] [])) t → Steps p.tables e below (s₁.setTop (entryFrame m #[(.int p1), (.int p2)] 4)) t := by
                                    intro t kt
                                    refine pre147 t ?_
                                    show Steps p.tables e below (s₁.setTop (mkF m 10 #[.val (.int p1), .val (.int p2), .val (.int (14 : Int32)), .unset] [(.int (lcmpW ((1024 : Int64) <<< ((14 : Int32) &&& 0x3f).toInt64) (p1.toInt64)))])) _
                                    refine XS.ifYes X0.here hx rfl (pc0 := 10) (pc' := 25) rfl (hb hby d1_10) rfl ((if0 _ _).trans (flt (fun qz => (fun qz => hc10_15 ((own_cmp p1 _ (16777216 : Int32) (by decide +kernel)).mp qz)) ((lw_lt _ _).mp qz))).2.1) (by decide) (by decide) ?_
                                    exact kt
                                  refine ⟨(14 : Int32), ?_, pre152⟩
                                  rw [own_dbl, if_pos hc10, if_pos hc10_2, if_pos hc10_3, if_pos hc10_4, if_pos hc10_5, if_pos hc10_6, if_pos hc10_7, if_pos hc10_8, if_pos hc10_9, if_pos hc10_10, if_pos hc10_11, if_pos hc10_12, if_pos hc10_13, if_pos hc10_14, if_neg hc10_15]
                              · have pre153 : ∀ t, Steps p.tables e below (s₁.setTop (mkF m 25 #[.val (.int p1), .val (.int p2), .val (.int (13 : Int32)), .unset] [])) t → Steps p.tables e below (s₁.setTop (entryFrame m #[(.int p1), (.int p2)] 4)) t := by
                                  intro t kt
                                  refine pre146 t ?_
                                  show Steps p.tables e below (s₁.setTop (mkF m 10 #[.val (.int p1), .val (.int p2), .val (.int (13 : Int32)), .unset] [(.int (lcmpW ((1024 : Int64) <<< ((13 : Int32) &&& 0x3f).toInt64) (p1.toInt64)))])) _
                                  refine XS.ifYes X0.here hx rfl (pc0 := 10) (pc' := 25) rfl (hb hby d1_10) rfl ((if0 _ _).trans (flt (fun qz => (fun qz => hc10_14 ((own_cmp p1 _ (8388608 : Int32) (by decide +kernel)).mp qz)) ((lw_lt _ _).mp qz))).2.1) (by decide) (by decide) ?_
                                  exact kt
                                refine ⟨(13 : Int32), ?_, pre153⟩
                                rw [own_dbl, if_pos hc10, if_pos hc10_2, if_pos hc10_3, if_pos hc10_4, if_pos hc10_5, if_pos hc10_6, if_pos hc10_7, if_pos hc10_8, if_pos hc10_9, if_pos hc10_10, if_pos hc10_11, if_pos hc10_12, if_pos hc10_13, if_neg hc10_14]
                            · have pre154 : ∀ t, Steps p.tables e below (s₁.setTop (mkF m 25 #[.val (.int p1), .val (.int p2), .val (.int (12 : Int32)), .unset] [])) t → Steps p.tables e below (s₁.setTop (entryFrame m #[(.int p1), (.int p2)] 4)) t := by
                                intro t kt
                                refine pre145 t ?_
                                show Steps p.tables e below (s₁.setTop (mkF m 10 #[.val (.int p1), .val (.int p2), .val (.int (12 : Int32)), .unset] [(.int (lcmpW ((1024 : Int64) <<< ((12 : Int32) &&& 0x3f).toInt64) (p1.toInt64)))])) _
                                refine XS.ifYes X0.here hx rfl (pc0 := 10) (pc' := 25) rfl (hb hby d1_10) rfl ((if0 _ _).trans (flt (fun qz => (fun qz => hc10_13 ((own_cmp p1 _ (4194304 : Int32) (by decide +kernel)).mp qz)) ((lw_lt _ _).mp qz))).2.1) (by decide) (by decide) ?_
                                exact kt
                              refine ⟨(12 : Int32), ?_, pre154⟩
                              rw [own_dbl, if_pos hc10, if_pos hc10_2, if_pos hc10_3, if_pos hc10_4, if_pos hc10_5, if_pos hc10_6, if_pos hc10_7, if_pos hc10_8, if_pos hc10_9, if_pos hc10_10, if_pos hc10_11, if_pos hc10_12, if_neg hc10_13]
                          · have pre155 : ∀ t, Steps p.tables e below (s₁.setTop (mkF m 25 #[.val (.int p1), .val (.int p2), .val (.int (11 : Int32)), .unset] [])) t → Steps p.tables e below (s₁.setTop (entryFrame m #[(.int p1), (.int p2)] 4)) t := by
                              intro t kt
                              refine pre144 t ?_
                              show Steps p.tables e below (s₁.setTop (mkF m 10 #[.val (.int p1), .val (.int p2), .val (.int (11 : Int32)), .unset] [(.int (lcmpW ((1024 : Int64) <<< ((11 : Int32) &&& 0x3f).toInt64) (p1.toInt64)))])) _
                              refine XS.ifYes X0.here hx rfl (pc0 := 10) (pc' := 25) rfl (hb hby d1_10) rfl ((if0 _ _).trans (flt (fun qz => (fun qz => hc10_12 ((own_cmp p1 _ (2097152 : Int32) (by decide +kernel)).mp qz)) ((lw_lt _ _).mp qz))).2.1) (by decide) (by decide) ?_
                              exact kt
                            refine ⟨(11 : Int32), ?_, pre155⟩
                            rw [own_dbl, if_pos hc10, if_pos hc10_2, if_pos hc10_3, if_pos hc10_4, if_pos hc10_5, if_pos hc10_6, if_pos hc10_7, if_pos hc10_8, if_pos hc10_9, if_pos hc10_10, if_pos hc10_11, if_neg hc10_12]
                        · have pre156 : ∀ t, Steps p.tables e below (s₁.setTop (mkF m 25 #[.val (.int p1), .val (.int p2), .val (.int (10 : Int32)), .unset] [])) t → Steps p.tables e below (s₁.setTop (entryFrame m #[(.int p1), (.int p2)] 4)) t := by
                            intro t kt
                            refine pre143 t ?_
                            show Steps p.tables e below (s₁.setTop (mkF m 10 #[.val (.int p1), .val (.int p2), .val (.int (10 : Int32)), .unset] [(.int (lcmpW ((1024 : Int64) <<< ((10 : Int32) &&& 0x3f).toInt64) (p1.toInt64)))])) _
                            refine XS.ifYes X0.here hx rfl (pc0 := 10) (pc' := 25) rfl (hb hby d1_10) rfl ((if0 _ _).trans (flt (fun qz => (fun qz => hc10_11 ((own_cmp p1 _ (1048576 : Int32) (by decide +kernel)).mp qz)) ((lw_lt _ _).mp qz))).2.1) (by decide) (by decide) ?_
                            exact kt
                          refine ⟨(10 : Int32), ?_, pre156⟩
                          rw [own_dbl, if_pos hc10, if_pos hc10_2, if_pos hc10_3, if_pos hc10_4, if_pos hc10_5, if_pos hc10_6, if_pos hc10_7, if_pos hc10_8, if_pos hc10_9, if_pos hc10_10, if_neg hc10_11]
                      · have pre157 : ∀ t, Steps p.tables e below (s₁.setTop (mkF m 25 #[.val (.int p1), .val (.int p2), .val (.int (9 : Int32)), .unset] [])) t → Steps p.tables e below (s₁.setTop (entryFrame m #[(.int p1), (.int p2)] 4)) t := by
                          intro t kt
                          refine pre142 t ?_
                          show Steps p.tables e below (s₁.setTop (mkF m 10 #[.val (.int p1), .val (.int p2), .val (.int (9 : Int32)), .unset] [(.int (lcmpW ((1024 : Int64) <<< ((9 : Int32) &&& 0x3f).toInt64) (p1.toInt64)))])) _
                          refine XS.ifYes X0.here hx rfl (pc0 := 10) (pc' := 25) rfl (hb hby d1_10) rfl ((if0 _ _).trans (flt (fun qz => (fun qz => hc10_10 ((own_cmp p1 _ (524288 : Int32) (by decide +kernel)).mp qz)) ((lw_lt _ _).mp qz))).2.1) (by decide) (by decide) ?_
                          exact kt
                        refine ⟨(9 : Int32), ?_, pre157⟩
                        rw [own_dbl, if_pos hc10, if_pos hc10_2, if_pos hc10_3, if_pos hc10_4, if_pos hc10_5, if_pos hc10_6, if_pos hc10_7, if_pos hc10_8, if_pos hc10_9, if_neg hc10_10]
                    · have pre158 : ∀ t, Steps p.tables e below (s₁.setTop (mkF m 25 #[.val (.int p1), .val (.int p2), .val (.int (8 : Int32)), .unset] [])) t → Steps p.tables e below (s₁.setTop (entryFrame m #[(.int p1), (.int p2)] 4)) t := by
                        intro t kt
                        refine pre141 t ?_
                        show Steps p.tables e below (s₁.setTop (mkF m 10 #[.val (.int p1), .val (.int p2), .val (.int (8 : Int32)), .unset] [(.int (lcmpW ((1024 : Int64) <<< ((8 : Int32) &&& 0x3f).toInt64) (p1.toInt64)))])) _
                        refine XS.ifYes X0.here hx rfl (pc0 := 10) (pc' := 25) rfl (hb hby d1_10) rfl ((if0 _ _).trans (flt (fun qz => (fun qz => hc10_9 ((own_cmp p1 _ (262144 : Int32) (by decide +kernel)).mp qz)) ((lw_lt _ _).mp qz))).2.1) (by decide) (by decide) ?_
                        exact kt
                      refine ⟨(8 : Int32), ?_, pre158⟩
                      rw [own_dbl, if_pos hc10, if_pos hc10_2, if_pos hc10_3, if_pos hc10_4, if_pos hc10_5, if_pos hc10_6, if_pos hc10_7, if_pos hc10_8, if_neg hc10_9]
                  · have pre159 : ∀ t, Steps p.tables e below (s₁.setTop (mkF m 25 #[.val (.int p1), .val (.int p2), .val (.int (7 : Int32)), .unset] [])) t → Steps p.tables e below (s₁.setTop (entryFrame m #[(.int p1), (.int p2)] 4)) t := by
                      intro t kt
                      refine pre140 t ?_
                      show Steps p.tables e below (s₁.setTop (mkF m 10 #[.val (.int p1), .val (.int p2), .val (.int (7 : Int32)), .unset] [(.int (lcmpW ((1024 : Int64) <<< ((7 : Int32) &&& 0x3f).toInt64) (p1.toInt64)))])) _
                      refine XS.ifYes X0.here hx rfl (pc0 := 10) (pc' := 25) rfl (hb hby d1_10) rfl ((if0 _ _).trans (flt (fun qz => (fun qz => hc10_8 ((own_cmp p1 _ (131072 : Int32) (by decide +kernel)).mp qz)) ((lw_lt _ _).mp qz))).2.1) (by decide) (by decide) ?_
                      exact kt
                    refine ⟨(7 : Int32), ?_, pre159⟩
                    rw [own_dbl, if_pos hc10, if_pos hc10_2, if_pos hc10_3, if_pos hc10_4, if_pos hc10_5, if_pos hc10_6, if_pos hc10_7, if_neg hc10_8]
                · have pre160 : ∀ t, Steps p.tables e below (s₁.setTop (mkF m 25 #[.val (.int p1), .val (.int p2), .val (.int (6 : Int32)), .unset] [])) t → Steps p.tables e below (s₁.setTop (entryFrame m #[(.int p1), (.int p2)] 4)) t := by
                    intro t kt
                    refine pre139 t ?_
                    show Steps p.tables e below (s₁.setTop (mkF m 10 #[.val (.int p1), .val (.int p2), .val (.int (6 : Int32)), .unset] [(.int (lcmpW ((1024 : Int64) <<< ((6 : Int32) &&& 0x3f).toInt64) (p1.toInt64)))])) _
                    refine XS.ifYes X0.here hx rfl (pc0 := 10) (pc' := 25) rfl (hb hby d1_10) rfl ((if0 _ _).trans (flt (fun qz => (fun qz => hc10_7 ((own_cmp p1 _ (65536 : Int32) (by decide +kernel)).mp qz)) ((lw_lt _ _).mp qz))).2.1) (by decide) (by decide) ?_
                    exact kt
                  refine ⟨(6 : Int32), ?_, pre160⟩
                  rw [own_dbl, if_pos hc10, if_pos hc10_2, if_pos hc10_3, if_pos hc10_4, if_pos hc10_5, if_pos hc10_6, if_neg hc10_7]
              · have pre161 : ∀ t, Steps p.tables e below (s₁.setTop (mkF m 25 #[.val (.int p1), .val (.int p2), .val (.int (5 : Int32)), .unset] [])) t → Steps p.tables e below (s₁.setTop (entryFrame m #[(.int p1), (.int p2)] 4)) t := by
                  intro t kt
                  refine pre138 t ?_
                  show Steps p.tables e below (s₁.setTop (mkF m 10 #[.val (.int p1), .val (.int p2), .val (.int (5 : Int32)), .unset] [(.int (lcmpW ((1024 : Int64) <<< ((5 : Int32) &&& 0x3f).toInt64) (p1.toInt64)))])) _
                  refine XS.ifYes X0.here hx rfl (pc0 := 10) (pc' := 25) rfl (hb hby d1_10) rfl ((if0 _ _).trans (flt (fun qz => (fun qz => hc10_6 ((own_cmp p1 _ (32768 : Int32) (by decide +kernel)).mp qz)) ((lw_lt _ _).mp qz))).2.1) (by decide) (by decide) ?_
                  exact kt
                refine ⟨(5 : Int32), ?_, pre161⟩
                rw [own_dbl, if_pos hc10, if_pos hc10_2, if_pos hc10_3, if_pos hc10_4, if_pos hc10_5, if_neg hc10_6]
            · have pre162 : ∀ t, Steps p.tables e below (s₁.setTop (mkF m 25 #[.val (.int p1), .val (.int p2), .val (.int (4 : Int32)), .unset] [])) t → Steps p.tables e below (s₁.setTop (entryFrame m #[(.int p1), (.int p2)] 4)) t := by
                intro t kt
                refine pre137 t ?_
                show Steps p.tables e below (s₁.setTop (mkF m 10 #[.val (.int p1), .val (.int p2), .val (.int (4 : Int32)), .unset] [(.int (lcmpW ((1024 : Int64) <<< ((4 : Int32) &&& 0x3f).toInt64) (p1.toInt64)))])) _
                refine XS.ifYes X0.here hx rfl (pc0 := 10) (pc' := 25) rfl (hb hby d1_10) rfl ((if0 _ _).trans (flt (fun qz => (fun qz => hc10_5 ((own_cmp p1 _ (16384 : Int32) (by decide +kernel)).mp qz)) ((lw_lt _ _).mp qz))).2.1) (by decide) (by decide) ?_
                exact kt
              refine ⟨(4 : Int32), ?_, pre162⟩
              rw [own_dbl, if_pos hc10, if_pos hc10_2, if_pos hc10_3, if_pos hc10_4, if_neg hc10_5]
          · have pre163 : ∀ t, Steps p.tables e below (s₁.setTop (mkF m 25 #[.val (.int p1), .val (.int p2), .val (.int (3 : Int32)), .unset] [])) t → Steps p.tables e below (s₁.setTop (entryFrame m #[(.int p1), (.int p2)] 4)) t := by
              intro t kt
              refine pre136 t ?_
              show Steps p.tables e below (s₁.setTop (mkF m 10 #[.val (.int p1), .val (.int p2), .val (.int (3 : Int32)), .unset] [(.int (lcmpW ((1024 : Int64) <<< ((3 : Int32) &&& 0x3f).toInt64) (p1.toInt64)))])) _
              refine XS.ifYes X0.here hx rfl (pc0 := 10) (pc' := 25) rfl (hb hby d1_10) rfl ((if0 _ _).trans (flt (fun qz => (fun qz => hc10_4 ((own_cmp p1 _ (8192 : Int32) (by decide +kernel)).mp qz)) ((lw_lt _ _).mp qz))).2.1) (by decide) (by decide) ?_
              exact kt
            refine ⟨(3 : Int32), ?_, pre163⟩
            rw [own_dbl, if_pos hc10, if_pos hc10_2, if_pos hc10_3, if_neg hc10_4]
        · have pre164 : ∀ t, Steps p.tables e below (s₁.setTop (mkF m 25 #[.val (.int p1), .val (.int p2), .val (.int (2 : Int32)), .unset] [])) t → Steps p.tables e below (s₁.setTop (entryFrame m #[(.int p1), (.int p2)] 4)) t := by
            intro t kt
            refine pre135 t ?_
            show Steps p.tables e below (s₁.setTop (mkF m 10 #[.val (.int p1), .val (.int p2), .val (.int (2 : Int32)), .unset] [(.int (lcmpW ((1024 : Int64) <<< ((2 : Int32) &&& 0x3f).toInt64) (p1.toInt64)))])) _
            refine XS.ifYes X0.here hx rfl (pc0 := 10) (pc' := 25) rfl (hb hby d1_10) rfl ((if0 _ _).trans (flt (fun qz => (fun qz => hc10_3 ((own_cmp p1 _ (4096 : Int32) (by decide +kernel)).mp qz)) ((lw_lt _ _).mp qz))).2.1) (by decide) (by decide) ?_
            exact kt
          refine ⟨(2 : Int32), ?_, pre164⟩
          rw [own_dbl, if_pos hc10, if_pos hc10_2, if_neg hc10_3]
      · have pre165 : ∀ t, Steps p.tables e below (s₁.setTop (mkF m 25 #[.val (.int p1), .val (.int p2), .val (.int (1 : Int32)), .unset] [])) t → Steps p.tables e below (s₁.setTop (entryFrame m #[(.int p1), (.int p2)] 4)) t := by
          intro t kt
          refine pre134 t ?_
          show Steps p.tables e below (s₁.setTop (mkF m 10 #[.val (.int p1), .val (.int p2), .val (.int (1 : Int32)), .unset] [(.int (lcmpW ((1024 : Int64) <<< ((1 : Int32) &&& 0x3f).toInt64) (p1.toInt64)))])) _
          refine XS.ifYes X0.here hx rfl (pc0 := 10) (pc' := 25) rfl (hb hby d1_10) rfl ((if0 _ _).trans (flt (fun qz => (fun qz => hc10_2 ((own_cmp p1 _ (2048 : Int32) (by decide +kernel)).mp qz)) ((lw_lt _ _).mp qz))).2.1) (by decide) (by decide) ?_
          exact kt
        refine ⟨(1 : Int32), ?_, pre165⟩
        rw [own_dbl, if_pos hc10, if_neg hc10_2]
    · have pre166 : ∀ t, Steps p.tables e below (s₁.setTop (mkF m 25 #[.val (.int p1), .val (.int p2), .val (.int (0 : Int32)), .unset] [])) t → Steps p.tables e below (s₁.setTop (entryFrame m #[(.int p1), (.int p2)] 4)) t := by
        intro t kt
        refine pre133 t ?_
        show Steps p.tables e below (s₁.setTop (mkF m 10 #[.val (.int p1), .val (.int p2), .val (.int (0 : Int32)), .unset] [(.int (lcmpW ((1024 : Int64) <<< ((0 : Int32) &&& 0x3f).toInt64) (p1.toInt64)))])) _
        refine XS.ifYes X0.here hx rfl (pc0 := 10) (pc' := 25) rfl (hb hby d1_10) rfl ((if0 _ _).trans (flt (fun qz => (fun qz => hc10 ((own_cmp p1 _ (1024 : Int32) (by decide +kernel)).mp qz)) ((lw_lt _ _).mp qz))).2.1) (by decide) (by decide) ?_
        exact kt
      refine ⟨(0 : Int32), ?_, pre166⟩
      rw [own_dbl, if_neg hc10]
  have pre167 : ∀ t, Steps p.tables e below (s₁.setTop (mkF m 33 #[.val (.int p1), .val (.int p2), .val (.int z1), .unset] [(.int (lcmpW (p2.toInt64) ((1024 : Int64) <<< (z1 &&& 0x3f).toInt64)))])) t → Steps p.tables e below (s₁.setTop (entryFrame m #[(.int p1), (.int p2)] 4)) t := by
    intro t kt
    refine pre149 t ?_
    show Steps p.tables e below (s₁.setTop (mkF m 25 #[.val (.int p1), .val (.int p2), .val (.int z1), .unset] [])) _
    refine XS.iloadN X0.here hx rfl (hb hby d1_25) rfl ?_
    show Steps p.tables e below (s₁.setTop (mkF m 26 #[.val (.int p1), .val (.int p2), .val (.int z1), .unset] [(.int p2)])) _
    refine XS.i2l X0.here hx rfl (hb hby d1_26) rfl ?_
    show Steps p.tables e below (s₁.setTop (mkF m 27 #[.val (.int p1), .val (.int p2), .val (.int z1), .unset] [(.long (p2.toInt64))])) _
    refine X0.ldc2Long hx hown (mvT hZ (hw _ (List.mem_of_getElem? (i := 5) rfl))) (g := (mkF m 27 #[.val (.int p1), .val (.int p2), .val (.int z1), .unset] [(.long (p2.toInt64))])) rfl (hb hby d1_27) _ ?_
    show Steps p.tables e below (s₁.setTop (mkF m 30 #[.val (.int p1), .val (.int p2), .val (.int z1), .unset] [(.long (1024 : Int64)), (.long (p2.toInt64))])) _
    refine XS.iloadN X0.here hx rfl (hb hby d1_30) rfl ?_
    show Steps p.tables e below (s₁.setTop (mkF m 31 #[.val (.int p1), .val (.int p2), .val (.int z1), .unset] [(.int z1), (.long (1024 : Int64)), (.long (p2.toInt64))])) _
    refine XS.lshl X0.here hx rfl (hb hby d1_31) rfl ?_
    show Steps p.tables e below (s₁.setTop (mkF m 32 #[.val (.int p1), .val (.int p2), .val (.int z1), .unset] [(.long ((1024 : Int64) <<< (z1 &&& 0x3f).toInt64)), (.long (p2.toInt64))])) _
    refine XS.lcmp X0.here hx rfl (hb hby d1_32) rfl ?_
    exact kt
  by_cases hc33 : ((1024 : Int64) <<< (z1 &&& 0x3f).toInt64) < (p2.toInt64)
  · have pre168 : ∀ t, Steps p.tables e below (s₁.setTop (mkF m 55 #[.val (.int p1), .val (.int p2), .val (.int z1), .val (.int (1 : Int32))] [(.int ((z1 <<< ((1 : Int32) &&& 31)) ||| (1 : Int32)))])) t → Steps p.tables e below (s₁.setTop (entryFrame m #[(.int p1), (.int p2)] 4)) t := by
      intro t kt
      refine pre167 t ?_
      show Steps p.tables e below (s₁.setTop (mkF m 33 #[.val (.int p1), .val (.int p2), .val (.int z1), .unset] [(.int (lcmpW (p2.toInt64) ((1024 : Int64) <<< (z1 &&& 0x3f).toInt64)))])) _
      refine XS.ifNo X0.here hx rfl (hb hby d1_33) rfl ((if0 _ _).trans (tlt ((lw_gt _ _).mpr hc33)).2.2.2) ?_
      show Steps p.tables e below (s₁.setTop (mkF m 36 #[.val (.int p1), .val (.int p2), .val (.int z1), .unset] [])) _
      refine XS.iconst X0.here hx rfl (hb hby d1_36) ?_
      show Steps p.tables e below (s₁.setTop (mkF m 37 #[.val (.int p1), .val (.int p2), .val (.int z1), .unset] [(.int (1 : Int32))])) _
      refine XS.goto X0.here hx rfl (pc0 := 37) (pc' := 41) rfl (hb hby d1_37) (by decide) (by decide) ?_
      show Steps p.tables e below (s₁.setTop (mkF m 41 #[.val (.int p1), .val (.int p2), .val (.int z1), .unset] [(.int (1 : Int32))])) _
      refine XS.istoreN X0.here hx rfl (hb hby d1_41) rfl (l' := #[.val (.int p1), .val (.int p2), .val (.int z1), .val (.int (1 : Int32))]) rfl ?_
      show Steps p.tables e below (s₁.setTop (mkF m 42 #[.val (.int p1), .val (.int p2), .val (.int z1), .val (.int (1 : Int32))] [])) _
      refine XS.iloadN X0.here hx rfl (hb hby d1_42) rfl ?_
      show Steps p.tables e below (s₁.setTop (mkF m 43 #[.val (.int p1), .val (.int p2), .val (.int z1), .val (.int (1 : Int32))] [(.int z1)])) _
      refine XS.iconst X0.here hx rfl (hb hby d1_43) ?_
      show Steps p.tables e below (s₁.setTop (mkF m 44 #[.val (.int p1), .val (.int p2), .val (.int z1), .val (.int (1 : Int32))] [(.int (1 : Int32)), (.int z1)])) _
      refine XS.ishl X0.here hx rfl (hb hby d1_44) rfl ?_
      show Steps p.tables e below (s₁.setTop (mkF m 45 #[.val (.int p1), .val (.int p2), .val (.int z1), .val (.int (1 : Int32))] [(.int (z1 <<< ((1 : Int32) &&& 31)))])) _
      refine XS.iloadN X0.here hx rfl (hb hby d1_45) rfl ?_
      show Steps p.tables e below (s₁.setTop (mkF m 46 #[.val (.int p1), .val (.int p2), .val (.int z1), .val (.int (1 : Int32))] [(.int (1 : Int32)), (.int (z1 <<< ((1 : Int32) &&& 31)))])) _
      refine XS.ifNo X0.here hx rfl (hb hby d1_46) rfl ((if0 _ _).trans (feq (by decide)).1) ?_
      show Steps p.tables e below (s₁.setTop (mkF m 49 #[.val (.int p1), .val (.int p2), .val (.int z1), .val (.int (1 : Int32))] [(.int (z1 <<< ((1 : Int32) &&& 31)))])) _
      refine XS.iconst X0.here hx rfl (hb hby d1_49) ?_
      show Steps p.tables e below (s₁.setTop (mkF m 50 #[.val (.int p1), .val (.int p2), .val (.int z1), .val (.int (1 : Int32))] [(.int (1 : Int32)), (.int (z1 <<< ((1 : Int32) &&& 31)))])) _
      refine XS.goto X0.here hx rfl (pc0 := 50) (pc' := 54) rfl (hb hby d1_50) (by decide) (by decide) ?_
      show Steps p.tables e below (s₁.setTop (mkF m 54 #[.val (.int p1), .val (.int p2), .val (.int z1), .val (.int (1 : Int32))] [(.int (1 : Int32)), (.int (z1 <<< ((1 : Int32) &&& 31)))])) _
      refine XS.ior X0.here hx rfl (hb hby d1_54) rfl ?_
      exact kt
    obtain ⟨fsx, hr, hrun, hended, hW, hsame⟩ := X0.leave (v := some (.int ((z1 <<< ((1 : Int32) &&& 31)) ||| (1 : Int32)))) (fun h => by rw [Bd.returns] at h; cases h)
    refine ⟨_, _, pre168 _ ?_, hrun, hended, _, _, rfl, ?_, ⟨_, rfl⟩, hW, hsame.mono (by decide) (by decide)⟩
    · exact retI X0 hx Bd.returns (hb hby d1_55) hr
    · show Q1 Z p1 p2 h0 n0 _ s₁.heap _
      rw [e0]
      exact ⟨congrArg (fun z => some (Value.int z)) (by rw [own_rd, own_lim, ← h_z1, if_pos hc33]), N0, rfl⟩
  · have pre169 : ∀ t, Steps p.tables e below (s₁.setTop (mkF m 55 #[.val (.int p1), .val (.int p2), .val (.int z1), .val (.int (0 : Int32))] [(.int ((z1 <<< ((1 : Int32) &&& 31)) ||| (0 : Int32)))])) t → Steps p.tables e below (s₁.setTop (entryFrame m #[(.int p1), (.int p2)] 4)) t := by
      intro t kt
      refine pre167 t ?_
      show Steps p.tables e below (s₁.setTop (mkF m 33 #[.val (.int p1), .val (.int p2), .val (.int z1), .unset] [(.int (lcmpW (p2.toInt64) ((1024 : Int64) <<< (z1 &&& 0x3f).toInt64)))])) _
      refine XS.ifYes X0.here hx rfl (pc0 := 33) (pc' := 40) rfl (hb hby d1_33) rfl ((if0 _ _).trans (flt (fun qz => hc33 ((lw_gt _ _).mp qz))).2.2.2) (by decide) (by decide) ?_
      show Steps p.tables e below (s₁.setTop (mkF m 40 #[.val (.int p1), .val (.int p2), .val (.int z1), .unset] [])) _
      refine XS.iconst X0.here hx rfl (hb hby d1_40) ?_
      show Steps p.tables e below (s₁.setTop (mkF m 41 #[.val (.int p1), .val (.int p2), .val (.int z1), .unset] [(.int (0 : Int32))])) _
      refine XS.istoreN X0.here hx rfl (hb hby d1_41) rfl (l' := #[.val (.int p1), .val (.int p2), .val (.int z1), .val (.int (0 : Int32))]) rfl ?_
      show Steps p.tables e below (s₁.setTop (mkF m 42 #[.val (.int p1), .val (.int p2), .val (.int z1), .val (.int (0 : Int32))] [])) _
      refine XS.iloadN X0.here hx rfl (hb hby d1_42) rfl ?_
      show Steps p.tables e below (s₁.setTop (mkF m 43 #[.val (.int p1), .val (.int p2), .val (.int z1), .val (.int (0 : Int32))] [(.int z1)])) _
      refine XS.iconst X0.here hx rfl (hb hby d1_43) ?_
      show Steps p.tables e below (s₁.setTop (mkF m 44 #[.val (.int p1), .val (.int p2), .val (.int z1), .val (.int (0 : Int32))] [(.int (1 : Int32)), (.int z1)])) _
      refine XS.ishl X0.here hx rfl (hb hby d1_44) rfl ?_
      show Steps p.tables e below (s₁.setTop (mkF m 45 #[.val (.int p1), .val (.int p2), .val (.int z1), .val (.int (0 : Int32))] [(.int (z1 <<< ((1 : Int32) &&& 31)))])) _
      refine XS.iloadN X0.here hx rfl (hb hby d1_45) rfl ?_
      show Steps p.tables e below (s₁.setTop (mkF m 46 #[.val (.int p1), .val (.int p2), .val (.int z1), .val (.int (0 : Int32))] [(.int (0 : Int32)), (.int (z1 <<< ((1 : Int32) &&& 31)))])) _
      refine XS.ifYes X0.here hx rfl (pc0 := 46) (pc' := 53) rfl (hb hby d1_46) rfl ((if0 _ _).trans (teq (by decide)).1) (by decide) (by decide) ?_
      show Steps p.tables e below (s₁.setTop (mkF m 53 #[.val (.int p1), .val (.int p2), .val (.int z1), .val (.int (0 : Int32))] [(.int (z1 <<< ((1 : Int32) &&& 31)))])) _
      refine XS.iconst X0.here hx rfl (hb hby d1_53) ?_
      show Steps p.tables e below (s₁.setTop (mkF m 54 #[.val (.int p1), .val (.int p2), .val (.int z1), .val (.int (0 : Int32))] [(.int (0 : Int32)), (.int (z1 <<< ((1 : Int32) &&& 31)))])) _
      refine XS.ior X0.here hx rfl (hb hby d1_54) rfl ?_
      exact kt
    obtain ⟨fsx, hr, hrun, hended, hW, hsame⟩ := X0.leave (v := some (.int ((z1 <<< ((1 : Int32) &&& 31)) ||| (0 : Int32)))) (fun h => by rw [Bd.returns] at h; cases h)
    refine ⟨_, _, pre169 _ ?_, hrun, hended, _, _, rfl, ?_, ⟨_, rfl⟩, hW, hsame.mono (by decide) (by decide)⟩
    · exact retI X0 hx Bd.returns (hb hby d1_55) hr
    · show Q1 Z p1 p2 h0 n0 _ s₁.heap _
      rw [e0]
      exact ⟨congrArg (fun z => some (Value.int z)) (by rw [own_rd, own_lim, ← h_z1, if_neg hc33]), N0, rfl⟩
theorem pd_0 : parseMethodDescriptor "(II)I" = some ⟨[.int, .int], some .int⟩ := by decide +kernel
theorem pd_1 : parseMethodDescriptor "(I)I" = some ⟨[.int], some .int⟩ := by decide +kernel
theorem ef_rm0 (m : MethodId) (x0 : Int32) (x1 : Int32) (x2 : Int32) (x3 : Int32) (x4 : Int32) : entryFrame m #[(.int x0), (.int x1), (.int x2), (.int x3), (.int x4)] maxLocals = mkF m 0 #[.val (.int x0), .val (.int x1), .val (.int x2), .val (.int x3), .val (.int x4), .unset, .unset, .unset, .unset, .unset, .unset, .unset, .unset, .unset] [] := by first | (simp [entryFrame, mkF, argsToLocals, Value.category, maxLocals]; done) | rfl
def Q0 (Z : State) (p1 : Int32) (p2 : Int32) (p3 : Int32) (p4 : Int32) (p5 : Int32) (h0 : Heap) (n0 : Nat) (v : Option Value) (h : Heap) (L : List Loc) : Prop := v = some (.int 1) ∧ Fr n0 L
set_option maxRecDepth 65536 in
set_option maxHeartbeats 40000000 in
theorem rm0 (l : Launch) (Z : State) (a0 : Array Value) (hw : ∀ d ∈ tables_1, d.before a0 Z = true) (ws : List Jvm.Cond) (p1 : Int32) (p2 : Int32) (p3 : Int32) (p4 : Int32) (p5 : Int32) (h0 : Heap) (n0 : Nat) (Z0 : n0 ≤ h0.size)  :
    MetFree l x (head1 (Jvm.Cond.code x code maxLocals ret :: ws) room_1) (fun a U => a = #[(.int p1), (.int p2), (.int p3), (.int p4), (.int p5)] ∧ Z.Warmed39 U.vm ∧ U.heap = h0) (fun _ _ _ _ _ => True) (fun _ U o U' => ∃ v L, o = .returned v ∧ Q0 Z p1 p2 p3 p4 p5 h0 n0 v U'.heap L ∧ FrameEnd U o U' L room_1.cells room_1.slots) := by
  refine MetFree.of_bodySF (plainFor_of_name pn_0) hisR ?_
  intro p e s m args below meth c s₁ Bd hml0 hP hK
  obtain ⟨rfl, hZ, hh⟩ := hP
  have hx := Bd.exec
  have hby := Bd.bytes
  have hml : c.maxLocals = 14 := hml0
  have hown : s.vm.findClass "com/example/seshat/seshat/reader/ArchiveNamesReadingPinLaw" = some m.cls := findClass_of_methodNamed Bd.named
  have hnm := (name_of_methodNamed Bd.named Bd.method).1
  have X0 : Stand p l e room_1 s m #[(.int p1), (.int p2), (.int p3), (.int p4), (.int p5)] below meth c s₁ [] 0 0 := Stand.of_body Bd
  have e0 : s₁.heap = h0 := by rw [← hh, Bd.state]; rfl
  have N0 := Fr.nil n0
  have pre0 : ∀ t, Steps p.tables e below (s₁.setTop (mkF m 0 #[.val (.int p1), .val (.int p2), .val (.int p3), .val (.int p4), .val (.int p5), .unset, .unset, .unset, .unset, .unset, .unset, .unset, .unset, .unset] [])) t → Steps p.tables e below (s₁.setTop (entryFrame m #[(.int p1), (.int p2), (.int p3), (.int p4), (.int p5)] maxLocals)) t := fun t k => castTop (ef_rm0 m p1 p2 p3 p4 p5) k
  have pre170 : ∀ t, Steps p.tables e below (s₁.setTop (mkF m 33 #[.val (.int p1), .val (.int p2), .val (.int p3), .val (.int p4), .val (.int p5), .val (.int (((((p5.toUInt32 >>> ((2 : Int32) &&& 31).toUInt32).toInt32) &&& (255 : Int32)) - (((((p5.toUInt32 >>> ((2 : Int32) &&& 31).toUInt32).toInt32) &&& (255 : Int32)) / (3 : Int32)) * (3 : Int32))) - (1 : Int32))), .val (.int (((((p5.toUInt32 >>> ((10 : Int32) &&& 31).toUInt32).toInt32) &&& (255 : Int32)) - (((((p5.toUInt32 >>> ((10 : Int32) &&& 31).toUInt32).toInt32) &&& (255 : Int32)) / (3 : Int32)) * (3 : Int32))) - (1 : Int32))), .unset, .unset, .unset, .unset, .unset, .unset, .unset] [(.int (p5 &&& (1 : Int32)))])) t → Steps p.tables e below (s₁.setTop (entryFrame m #[(.int p1), (.int p2), (.int p3), (.int p4), (.int p5)] maxLocals)) t := by
    intro t kt
    refine pre0 t ?_
    show Steps p.tables e below (s₁.setTop (mkF m 0 #[.val (.int p1), .val (.int p2), .val (.int p3), .val (.int p4), .val (.int p5), .unset, .unset, .unset, .unset, .unset, .unset, .unset, .unset, .unset] [])) _
    refine XS.iload X0.here hx rfl (hb hby at_0) rfl ?_
    show Steps p.tables e below (s₁.setTop (mkF m 2 #[.val (.int p1), .val (.int p2), .val (.int p3), .val (.int p4), .val (.int p5), .unset, .unset, .unset, .unset, .unset, .unset, .unset, .unset, .unset] [(.int p5)])) _
    refine XS.iconst X0.here hx rfl (hb hby at_2) ?_
    show Steps p.tables e below (s₁.setTop (mkF m 3 #[.val (.int p1), .val (.int p2), .val (.int p3), .val (.int p4), .val (.int p5), .unset, .unset, .unset, .unset, .unset, .unset, .unset, .unset, .unset] [(.int (2 : Int32)), (.int p5)])) _
    refine XS.iushr X0.here hx rfl (hb hby at_3) rfl ?_
    show Steps p.tables e below (s₁.setTop (mkF m 4 #[.val (.int p1), .val (.int p2), .val (.int p3), .val (.int p4), .val (.int p5), .unset, .unset, .unset, .unset, .unset, .unset, .unset, .unset, .unset] [(.int ((p5.toUInt32 >>> ((2 : Int32) &&& 31).toUInt32).toInt32))])) _
    refine XS.sipush X0.here hx rfl (hb hby at_4) ?_
    show Steps p.tables e below (s₁.setTop (mkF m 7 #[.val (.int p1), .val (.int p2), .val (.int p3), .val (.int p4), .val (.int p5), .unset, .unset, .unset, .unset, .unset, .unset, .unset, .unset, .unset] [(.int (255 : Int32)), (.int ((p5.toUInt32 >>> ((2 : Int32) &&& 31).toUInt32).toInt32))])) _
    refine XS.iand X0.here hx rfl (hb hby at_7) rfl ?_
    show Steps p.tables e below (s₁.setTop (mkF m 8 #[.val (.int p1), .val (.int p2), .val (.int p3), .val (.int p4), .val (.int p5), .unset, .unset, .unset, .unset, .unset, .unset, .unset, .unset, .unset] [(.int (((p5.toUInt32 >>> ((2 : Int32) &&& 31).toUInt32).toInt32) &&& (255 : Int32)))])) _
    refine XS.iconst X0.here hx rfl (hb hby at_8) ?_
    show Steps p.tables e below (s₁.setTop (mkF m 9 #[.val (.int p1), .val (.int p2), .val (.int p3), .val (.int p4), .val (.int p5), .unset, .unset, .unset, .unset, .unset, .unset, .unset, .unset, .unset] [(.int (3 : Int32)), (.int (((p5.toUInt32 >>> ((2 : Int32) &&& 31).toUInt32).toInt32) &&& (255 : Int32)))])) _
    refine XS.irem X0.here hx rfl (hb hby at_9) rfl (by decide) ?_
    show Steps p.tables e below (s₁.setTop (mkF m 10 #[.val (.int p1), .val (.int p2), .val (.int p3), .val (.int p4), .val (.int p5), .unset, .unset, .unset, .unset, .unset, .unset, .unset, .unset, .unset] [(.int ((((p5.toUInt32 >>> ((2 : Int32) &&& 31).toUInt32).toInt32) &&& (255 : Int32)) - (((((p5.toUInt32 >>> ((2 : Int32) &&& 31).toUInt32).toInt32) &&& (255 : Int32)) / (3 : Int32)) * (3 : Int32))))])) _
    refine XS.iconst X0.here hx rfl (hb hby at_10) ?_
    show Steps p.tables e below (s₁.setTop (mkF m 11 #[.val (.int p1), .val (.int p2), .val (.int p3), .val (.int p4), .val (.int p5), .unset, .unset, .unset, .unset, .unset, .unset, .unset, .unset, .unset] [(.int (1 : Int32)), (.int ((((p5.toUInt32 >>> ((2 : Int32) &&& 31).toUInt32).toInt32) &&& (255 : Int32)) - (((((p5.toUInt32 >>> ((2 : Int32) &&& 31).toUInt32).toInt32) &&& (255 : Int32)) / (3 : Int32)) * (3 : Int32))))])) _
    refine XS.isub X0.here hx rfl (hb hby at_11) rfl ?_
    show Steps p.tables e below (s₁.setTop (mkF m 12 #[.val (.int p1), .val (.int p2), .val (.int p3), .val (.int p4), .val (.int p5), .unset, .unset, .unset, .unset, .unset, .unset, .unset, .unset, .unset] [(.int (((((p5.toUInt32 >>> ((2 : Int32) &&& 31).toUInt32).toInt32) &&& (255 : Int32)) - (((((p5.toUInt32 >>> ((2 : Int32) &&& 31).toUInt32).toInt32) &&& (255 : Int32)) / (3 : Int32)) * (3 : Int32))) - (1 : Int32)))])) _
    refine XS.istore X0.here hx rfl (hb hby at_12) rfl (l' := #[.val (.int p1), .val (.int p2), .val (.int p3), .val (.int p4), .val (.int p5), .val (.int (((((p5.toUInt32 >>> ((2 : Int32) &&& 31).toUInt32).toInt32) &&& (255 : Int32)) - (((((p5.toUInt32 >>> ((2 : Int32) &&& 31).toUInt32).toInt32) &&& (255 : Int32)) / (3 : Int32)) * (3 : Int32))) - (1 : Int32))), .unset, .unset, .unset, .unset, .unset, .unset, .unset, .unset]) rfl ?_
    show Steps p.tables e below (s₁.setTop (mkF m 14 #[.val (.int p1), .val (.int p2), .val (.int p3), .val (.int p4), .val (.int p5), .val (.int (((((p5.toUInt32 >>> ((2 : Int32) &&& 31).toUInt32).toInt32) &&& (255 : Int32)) - (((((p5.toUInt32 >>> ((2 : Int32) &&& 31).toUInt32).toInt32) &&& (255 : Int32)) / (3 : Int32)) * (3 : Int32))) - (1 : Int32))), .unset, .unset, .unset, .unset, .unset, .unset, .unset, .unset] [])) _
    refine XS.iload X0.here hx rfl (hb hby at_14) rfl ?_
    show Steps p.tables e below (s₁.setTop (mkF m 16 #[.val (.int p1), .val (.int p2), .val (.int p3), .val (.int p4), .val (.int p5), .val (.int (((((p5.toUInt32 >>> ((2 : Int32) &&& 31).toUInt32).toInt32) &&& (255 : Int32)) - (((((p5.toUInt32 >>> ((2 : Int32) &&& 31).toUInt32).toInt32) &&& (255 : Int32)) / (3 : Int32)) * (3 : Int32))) - (1 : Int32))), .unset, .unset, .unset, .unset, .unset, .unset, .unset, .unset] [(.int p5)])) _
    refine XS.bipush X0.here hx rfl (hb hby at_16) ?_
    show Steps p.tables e below (s₁.setTop (mkF m 18 #[.val (.int p1), .val (.int p2), .val (.int p3), .val (.int p4), .val (.int p5), .val (.int (((((p5.toUInt32 >>> ((2 : Int32) &&& 31).toUInt32).toInt32) &&& (255 : Int32)) - (((((p5.toUInt32 >>> ((2 : Int32) &&& 31).toUInt32).toInt32) &&& (255 : Int32)) / (3 : Int32)) * (3 : Int32))) - (1 : Int32))), .unset, .unset, .unset, .unset, .unset, .unset, .unset, .unset] [(.int (10 : Int32)), (.int p5)])) _
    refine XS.iushr X0.here hx rfl (hb hby at_18) rfl ?_
    show Steps p.tables e below (s₁.setTop (mkF m 19 #[.val (.int p1), .val (.int p2), .val (.int p3), .val (.int p4), .val (.int p5), .val (.int (((((p5.toUInt32 >>> ((2 : Int32) &&& 31).toUInt32).toInt32) &&& (255 : Int32)) - (((((p5.toUInt32 >>> ((2 : Int32) &&& 31).toUInt32).toInt32) &&& (255 : Int32)) / (3 : Int32)) * (3 : Int32))) - (1 : Int32))), .unset, .unset, .unset, .unset, .unset, .unset, .unset, .unset] [(.int ((p5.toUInt32 >>> ((10 : Int32) &&& 31).toUInt32).toInt32))])) _
    refine XS.sipush X0.here hx rfl (hb hby at_19) ?_
    show Steps p.tables e below (s₁.setTop (mkF m 22 #[.val (.int p1), .val (.int p2), .val (.int p3), .val (.int p4), .val (.int p5), .val (.int (((((p5.toUInt32 >>> ((2 : Int32) &&& 31).toUInt32).toInt32) &&& (255 : Int32)) - (((((p5.toUInt32 >>> ((2 : Int32) &&& 31).toUInt32).toInt32) &&& (255 : Int32)) / (3 : Int32)) * (3 : Int32))) - (1 : Int32))), .unset, .unset, .unset, .unset, .unset, .unset, .unset, .unset] [(.int (255 : Int32)), (.int ((p5.toUInt32 >>> ((10 : Int32) &&& 31).toUInt32).toInt32))])) _
    refine XS.iand X0.here hx rfl (hb hby at_22) rfl ?_
    show Steps p.tables e below (s₁.setTop (mkF m 23 #[.val (.int p1), .val (.int p2), .val (.int p3), .val (.int p4), .val (.int p5), .val (.int (((((p5.toUInt32 >>> ((2 : Int32) &&& 31).toUInt32).toInt32) &&& (255 : Int32)) - (((((p5.toUInt32 >>> ((2 : Int32) &&& 31).toUInt32).toInt32) &&& (255 : Int32)) / (3 : Int32)) * (3 : Int32))) - (1 : Int32))), .unset, .unset, .unset, .unset, .unset, .unset, .unset, .unset] [(.int (((p5.toUInt32 >>> ((10 : Int32) &&& 31).toUInt32).toInt32) &&& (255 : Int32)))])) _
    refine XS.iconst X0.here hx rfl (hb hby at_23) ?_
    show Steps p.tables e below (s₁.setTop (mkF m 24 #[.val (.int p1), .val (.int p2), .val (.int p3), .val (.int p4), .val (.int p5), .val (.int (((((p5.toUInt32 >>> ((2 : Int32) &&& 31).toUInt32).toInt32) &&& (255 : Int32)) - (((((p5.toUInt32 >>> ((2 : Int32) &&& 31).toUInt32).toInt32) &&& (255 : Int32)) / (3 : Int32)) * (3 : Int32))) - (1 : Int32))), .unset, .unset, .unset, .unset, .unset, .unset, .unset, .unset] [(.int (3 : Int32)), (.int (((p5.toUInt32 >>> ((10 : Int32) &&& 31).toUInt32).toInt32) &&& (255 : Int32)))])) _
    refine XS.irem X0.here hx rfl (hb hby at_24) rfl (by decide) ?_
    show Steps p.tables e below (s₁.setTop (mkF m 25 #[.val (.int p1), .val (.int p2), .val (.int p3), .val (.int p4), .val (.int p5), .val (.int (((((p5.toUInt32 >>> ((2 : Int32) &&& 31).toUInt32).toInt32) &&& (255 : Int32)) - (((((p5.toUInt32 >>> ((2 : Int32) &&& 31).toUInt32).toInt32) &&& (255 : Int32)) / (3 : Int32)) * (3 : Int32))) - (1 : Int32))), .unset, .unset, .unset, .unset, .unset, .unset, .unset, .unset] [(.int ((((p5.toUInt32 >>> ((10 : Int32) &&& 31).toUInt32).toInt32) &&& (255 : Int32)) - (((((p5.toUInt32 >>> ((10 : Int32) &&& 31).toUInt32).toInt32) &&& (255 : Int32)) / (3 : Int32)) * (3 : Int32))))])) _
    refine XS.iconst X0.here hx rfl (hb hby at_25) ?_
    show Steps p.tables e below (s₁.setTop (mkF m 26 #[.val (.int p1), .val (.int p2), .val (.int p3), .val (.int p4), .val (.int p5), .val (.int (((((p5.toUInt32 >>> ((2 : Int32) &&& 31).toUInt32).toInt32) &&& (255 : Int32)) - (((((p5.toUInt32 >>> ((2 : Int32) &&& 31).toUInt32).toInt32) &&& (255 : Int32)) / (3 : Int32)) * (3 : Int32))) - (1 : Int32))), .unset, .unset, .unset, .unset, .unset, .unset, .unset, .unset] [(.int (1 : Int32)), (.int ((((p5.toUInt32 >>> ((10 : Int32) &&& 31).toUInt32).toInt32) &&& (255 : Int32)) - (((((p5.toUInt32 >>> ((10 : Int32) &&& 31).toUInt32).toInt32) &&& (255 : Int32)) / (3 : Int32)) * (3 : Int32))))])) _
    refine XS.isub X0.here hx rfl (hb hby at_26) rfl ?_
    show Steps p.tables e below (s₁.setTop (mkF m 27 #[.val (.int p1), .val (.int p2), .val (.int p3), .val (.int p4), .val (.int p5), .val (.int (((((p5.toUInt32 >>> ((2 : Int32) &&& 31).toUInt32).toInt32) &&& (255 : Int32)) - (((((p5.toUInt32 >>> ((2 : Int32) &&& 31).toUInt32).toInt32) &&& (255 : Int32)) / (3 : Int32)) * (3 : Int32))) - (1 : Int32))), .unset, .unset, .unset, .unset, .unset, .unset, .unset, .unset] [(.int (((((p5.toUInt32 >>> ((10 : Int32) &&& 31).toUInt32).toInt32) &&& (255 : Int32)) - (((((p5.toUInt32 >>> ((10 : Int32) &&& 31).toUInt32).toInt32) &&& (255 : Int32)) / (3 : Int32)) * (3 : Int32))) - (1 : Int32)))])) _
    refine XS.istore X0.here hx rfl (hb hby at_27) rfl (l' := #[.val (.int p1), .val (.int p2), .val (.int p3), .val (.int p4), .val (.int p5), .val (.int (((((p5.toUInt32 >>> ((2 : Int32) &&& 31).toUInt32).toInt32) &&& (255 : Int32)) - (((((p5.toUInt32 >>> ((2 : Int32) &&& 31).toUInt32).toInt32) &&& (255 : Int32)) / (3 : Int32)) * (3 : Int32))) - (1 : Int32))), .val (.int (((((p5.toUInt32 >>> ((10 : Int32) &&& 31).toUInt32).toInt32) &&& (255 : Int32)) - (((((p5.toUInt32 >>> ((10 : Int32) &&& 31).toUInt32).toInt32) &&& (255 : Int32)) / (3 : Int32)) * (3 : Int32))) - (1 : Int32))), .unset, .unset, .unset, .unset, .unset, .unset, .unset]) rfl ?_
    show Steps p.tables e below (s₁.setTop (mkF m 29 #[.val (.int p1), .val (.int p2), .val (.int p3), .val (.int p4), .val (.int p5), .val (.int (((((p5.toUInt32 >>> ((2 : Int32) &&& 31).toUInt32).toInt32) &&& (255 : Int32)) - (((((p5.toUInt32 >>> ((2 : Int32) &&& 31).toUInt32).toInt32) &&& (255 : Int32)) / (3 : Int32)) * (3 : Int32))) - (1 : Int32))), .val (.int (((((p5.toUInt32 >>> ((10 : Int32) &&& 31).toUInt32).toInt32) &&& (255 : Int32)) - (((((p5.toUInt32 >>> ((10 : Int32) &&& 31).toUInt32).toInt32) &&& (255 : Int32)) / (3 : Int32)) * (3 : Int32))) - (1 : Int32))), .unset, .unset, .unset, .unset, .unset, .unset, .unset] [])) _
    refine XS.iload X0.here hx rfl (hb hby at_29) rfl ?_
    show Steps p.tables e below (s₁.setTop (mkF m 31 #[.val (.int p1), .val (.int p2), .val (.int p3), .val (.int p4), .val (.int p5), .val (.int (((((p5.toUInt32 >>> ((2 : Int32) &&& 31).toUInt32).toInt32) &&& (255 : Int32)) - (((((p5.toUInt32 >>> ((2 : Int32) &&& 31).toUInt32).toInt32) &&& (255 : Int32)) / (3 : Int32)) * (3 : Int32))) - (1 : Int32))), .val (.int (((((p5.toUInt32 >>> ((10 : Int32) &&& 31).toUInt32).toInt32) &&& (255 : Int32)) - (((((p5.toUInt32 >>> ((10 : Int32) &&& 31).toUInt32).toInt32) &&& (255 : Int32)) / (3 : Int32)) * (3 : Int32))) - (1 : Int32))), .unset, .unset, .unset, .unset, .unset, .unset, .unset] [(.int p5)])) _
    refine XS.iconst X0.here hx rfl (hb hby at_31) ?_
    show Steps p.tables e below (s₁.setTop (mkF m 32 #[.val (.int p1), .val (.int p2), .val (.int p3), .val (.int p4), .val (.int p5), .val (.int (((((p5.toUInt32 >>> ((2 : Int32) &&& 31).toUInt32).toInt32) &&& (255 : Int32)) - (((((p5.toUInt32 >>> ((2 : Int32) &&& 31).toUInt32).toInt32) &&& (255 : Int32)) / (3 : Int32)) * (3 : Int32))) - (1 : Int32))), .val (.int (((((p5.toUInt32 >>> ((10 : Int32) &&& 31).toUInt32).toInt32) &&& (255 : Int32)) - (((((p5.toUInt32 >>> ((10 : Int32) &&& 31).toUInt32).toInt32) &&& (255 : Int32)) / (3 : Int32)) * (3 : Int32))) - (1 : Int32))), .unset, .unset, .unset, .unset, .unset, .unset, .unset] [(.int (1 : Int32)), (.int p5)])) _
    refine XS.iand X0.here hx rfl (hb hby at_32) rfl ?_
    exact kt
  obtain ⟨t1, h_t1, pre171⟩ : ∃ (t1 : Int32), (True) ∧ ∀ t, Steps p.tables e below (s₁.setTop (mkF m 55 #[.val (.int p1), .val (.int p2), .val (.int p3), .val (.int p4), .val (.int p5), .val (.int (((((p5.toUInt32 >>> ((2 : Int32) &&& 31).toUInt32).toInt32) &&& (255 : Int32)) - (((((p5.toUInt32 >>> ((2 : Int32) &&& 31).toUInt32).toInt32) &&& (255 : Int32)) / (3 : Int32)) * (3 : Int32))) - (1 : Int32))), .val (.int (((((p5.toUInt32 >>> ((10 : Int32) &&& 31).toUInt32).toInt32) &&& (255 : Int32)) - (((((p5.toUInt32 >>> ((10 : Int32) &&& 31).toUInt32).toInt32) &&& (255 : Int32)) / (3 : Int32)) * (3 : Int32))) - (1 : Int32))), .unset, .unset, .unset, .unset, .unset, .unset, .unset] [(.int t1)])) t → Steps p.tables e below (s₁.setTop (entryFrame m #[(.int p1), (.int p2), (.int p3), (.int p4), (.int p5)] maxLocals)) t := by
    by_cases hc33 : (p5 &&& (1 : Int32)) = (0 : Int32)
    · have pre172 : ∀ t, Steps p.tables e below (s₁.setTop (mkF m 55 #[.val (.int p1), .val (.int p2), .val (.int p3), .val (.int p4), .val (.int p5), .val (.int (((((p5.toUInt32 >>> ((2 : Int32) &&& 31).toUInt32).toInt32) &&& (255 : Int32)) - (((((p5.toUInt32 >>> ((2 : Int32) &&& 31).toUInt32).toInt32) &&& (255 : Int32)) / (3 : Int32)) * (3 : Int32))) - (1 : Int32))), .val (.int (((((p5.toUInt32 >>> ((10 : Int32) &&& 31).toUInt32).toInt32) &&& (255 : Int32)) - (((((p5.toUInt32 >>> ((10 : Int32) &&& 31).toUInt32).toInt32) &&& (255 : Int32)) / (3 : Int32)) * (3 : Int32))) - (1 : Int32))), .unset, .unset, .unset, .unset, .unset, .unset, .unset] [(.int (((1 : Int32) <<< ((((p3 &&& (2147483647 : Int32)) - (((p3 &&& (2147483647 : Int32)) / (17 : Int32)) * (17 : Int32))) + (10 : Int32)) &&& 31)) + (((((p5.toUInt32 >>> ((2 : Int32) &&& 31).toUInt32).toInt32) &&& (255 : Int32)) - (((((p5.toUInt32 >>> ((2 : Int32) &&& 31).toUInt32).toInt32) &&& (255 : Int32)) / (3 : Int32)) * (3 : Int32))) - (1 : Int32))))])) t → Steps p.tables e below (s₁.setTop (entryFrame m #[(.int p1), (.int p2), (.int p3), (.int p4), (.int p5)] maxLocals)) t := by
        intro t kt
        refine pre170 t ?_
        show Steps p.tables e below (s₁.setTop (mkF m 33 #[.val (.int p1), .val (.int p2), .val (.int p3), .val (.int p4), .val (.int p5), .val (.int (((((p5.toUInt32 >>> ((2 : Int32) &&& 31).toUInt32).toInt32) &&& (255 : Int32)) - (((((p5.toUInt32 >>> ((2 : Int32) &&& 31).toUInt32).toInt32) &&& (255 : Int32)) / (3 : Int32)) * (3 : Int32))) - (1 : Int32))), .val (.int (((((p5.toUInt32 >>> ((10 : Int32) &&& 31).toUInt32).toInt32) &&& (255 : Int32)) - (((((p5.toUInt32 >>> ((10 : Int32) &&& 31).toUInt32).toInt32) &&& (255 : Int32)) / (3 : Int32)) * (3 : Int32))) - (1 : Int32))), .unset, .unset, .unset, .unset, .unset, .unset, .unset] [(.int (p5 &&& (1 : Int32)))])) _
        refine XS.ifYes X0.here hx rfl (pc0 := 33) (pc' := 40) rfl (hb hby at_33) rfl ((if0 _ _).trans (teq hc33).1) (by decide) (by decide) ?_
        show Steps p.tables e below (s₁.setTop (mkF m 40 #[.val (.int p1), .val (.int p2), .val (.int p3), .val (.int p4), .val (.int p5), .val (.int (((((p5.toUInt32 >>> ((2 : Int32) &&& 31).toUInt32).toInt32) &&& (255 : Int32)) - (((((p5.toUInt32 >>> ((2 : Int32) &&& 31).toUInt32).toInt32) &&& (255 : Int32)) / (3 : Int32)) * (3 : Int32))) - (1 : Int32))), .val (.int (((((p5.toUInt32 >>> ((10 : Int32) &&& 31).toUInt32).toInt32) &&& (255 : Int32)) - (((((p5.toUInt32 >>> ((10 : Int32) &&& 31).toUInt32).toInt32) &&& (255 : Int32)) / (3 : Int32)) * (3 : Int32))) - (1 : Int32))), .unset, .unset, .unset, .unset, .unset, .unset, .unset] [])) _
        refine XS.iconst X0.here hx rfl (hb hby at_40) ?_
        show Steps p.tables e below (s₁.setTop (mkF m 41 #[.val (.int p1), .val (.int p2), .val (.int p3), .val (.int p4), .val (.int p5), .val (.int (((((p5.toUInt32 >>> ((2 : Int32) &&& 31).toUInt32).toInt32) &&& (255 : Int32)) - (((((p5.toUInt32 >>> ((2 : Int32) &&& 31).toUInt32).toInt32) &&& (255 : Int32)) / (3 : Int32)) * (3 : Int32))) - (1 : Int32))), .val (.int (((((p5.toUInt32 >>> ((10 : Int32) &&& 31).toUInt32).toInt32) &&& (255 : Int32)) - (((((p5.toUInt32 >>> ((10 : Int32) &&& 31).toUInt32).toInt32) &&& (255 : Int32)) / (3 : Int32)) * (3 : Int32))) - (1 : Int32))), .unset, .unset, .unset, .unset, .unset, .unset, .unset] [(.int (1 : Int32))])) _
        refine XS.iloadN X0.here hx rfl (hb hby at_41) rfl ?_
        show Steps p.tables e below (s₁.setTop (mkF m 42 #[.val (.int p1), .val (.int p2), .val (.int p3), .val (.int p4), .val (.int p5), .val (.int (((((p5.toUInt32 >>> ((2 : Int32) &&& 31).toUInt32).toInt32) &&& (255 : Int32)) - (((((p5.toUInt32 >>> ((2 : Int32) &&& 31).toUInt32).toInt32) &&& (255 : Int32)) / (3 : Int32)) * (3 : Int32))) - (1 : Int32))), .val (.int (((((p5.toUInt32 >>> ((10 : Int32) &&& 31).toUInt32).toInt32) &&& (255 : Int32)) - (((((p5.toUInt32 >>> ((10 : Int32) &&& 31).toUInt32).toInt32) &&& (255 : Int32)) / (3 : Int32)) * (3 : Int32))) - (1 : Int32))), .unset, .unset, .unset, .unset, .unset, .unset, .unset] [(.int p3), (.int (1 : Int32))])) _
        refine X0.ldcInt hx hown (mvT hZ (hw _ (List.mem_of_getElem? (i := 0) rfl))) (g := (mkF m 42 #[.val (.int p1), .val (.int p2), .val (.int p3), .val (.int p4), .val (.int p5), .val (.int (((((p5.toUInt32 >>> ((2 : Int32) &&& 31).toUInt32).toInt32) &&& (255 : Int32)) - (((((p5.toUInt32 >>> ((2 : Int32) &&& 31).toUInt32).toInt32) &&& (255 : Int32)) / (3 : Int32)) * (3 : Int32))) - (1 : Int32))), .val (.int (((((p5.toUInt32 >>> ((10 : Int32) &&& 31).toUInt32).toInt32) &&& (255 : Int32)) - (((((p5.toUInt32 >>> ((10 : Int32) &&& 31).toUInt32).toInt32) &&& (255 : Int32)) / (3 : Int32)) * (3 : Int32))) - (1 : Int32))), .unset, .unset, .unset, .unset, .unset, .unset, .unset] [(.int p3), (.int (1 : Int32))])) rfl (hb hby at_42) _ ?_
        show Steps p.tables e below (s₁.setTop (mkF m 44 #[.val (.int p1), .val (.int p2), .val (.int p3), .val (.int p4), .val (.int p5), .val (.int (((((p5.toUInt32 >>> ((2 : Int32) &&& 31).toUInt32).toInt32) &&& (255 : Int32)) - (((((p5.toUInt32 >>> ((2 : Int32) &&& 31).toUInt32).toInt32) &&& (255 : Int32)) / (3 : Int32)) * (3 : Int32))) - (1 : Int32))), .val (.int (((((p5.toUInt32 >>> ((10 : Int32) &&& 31).toUInt32).toInt32) &&& (255 : Int32)) - (((((p5.toUInt32 >>> ((10 : Int32) &&& 31).toUInt32).toInt32) &&& (255 : Int32)) / (3 : Int32)) * (3 : Int32))) - (1 : Int32))), .unset, .unset, .unset, .unset, .unset, .unset, .unset] [(.int (2147483647 : Int32)), (.int p3), (.int (1 : Int32))])) _
        refine XS.iand X0.here hx rfl (hb hby at_44) rfl ?_
        show Steps p.tables e below (s₁.setTop (mkF m 45 #[.val (.int p1), .val (.int p2), .val (.int p3), .val (.int p4), .val (.int p5), .val (.int (((((p5.toUInt32 >>> ((2 : Int32) &&& 31).toUInt32).toInt32) &&& (255 : Int32)) - (((((p5.toUInt32 >>> ((2 : Int32) &&& 31).toUInt32).toInt32) &&& (255 : Int32)) / (3 : Int32)) * (3 : Int32))) - (1 : Int32))), .val (.int (((((p5.toUInt32 >>> ((10 : Int32) &&& 31).toUInt32).toInt32) &&& (255 : Int32)) - (((((p5.toUInt32 >>> ((10 : Int32) &&& 31).toUInt32).toInt32) &&& (255 : Int32)) / (3 : Int32)) * (3 : Int32))) - (1 : Int32))), .unset, .unset, .unset, .unset, .unset, .unset, .unset] [(.int (p3 &&& (2147483647 : Int32))), (.int (1 : Int32))])) _
        refine XS.bipush X0.here hx rfl (hb hby at_45) ?_
        show Steps p.tables e below (s₁.setTop (mkF m 47 #[.val (.int p1), .val (.int p2), .val (.int p3), .val (.int p4), .val (.int p5), .val (.int (((((p5.toUInt32 >>> ((2 : Int32) &&& 31).toUInt32).toInt32) &&& (255 : Int32)) - (((((p5.toUInt32 >>> ((2 : Int32) &&& 31).toUInt32).toInt32) &&& (255 : Int32)) / (3 : Int32)) * (3 : Int32))) - (1 : Int32))), .val (.int (((((p5.toUInt32 >>> ((10 : Int32) &&& 31).toUInt32).toInt32) &&& (255 : Int32)) - (((((p5.toUInt32 >>> ((10 : Int32) &&& 31).toUInt32).toInt32) &&& (255 : Int32)) / (3 : Int32)) * (3 : Int32))) - (1 : Int32))), .unset, .unset, .unset, .unset, .unset, .unset, .unset] [(.int (17 : Int32)), (.int (p3 &&& (2147483647 : Int32))), (.int (1 : Int32))])) _
        refine XS.irem X0.here hx rfl (hb hby at_47) rfl (by decide) ?_
        show Steps p.tables e below (s₁.setTop (mkF m 48 #[.val (.int p1), .val (.int p2), .val (.int p3), .val (.int p4), .val (.int p5), .val (.int (((((p5.toUInt32 >>> ((2 : Int32) &&& 31).toUInt32).toInt32) &&& (255 : Int32)) - (((((p5.toUInt32 >>> ((2 : Int32) &&& 31).toUInt32).toInt32) &&& (255 : Int32)) / (3 : Int32)) * (3 : Int32))) - (1 : Int32))), .val (.int (((((p5.toUInt32 >>> ((10 : Int32) &&& 31).toUInt32).toInt32) &&& (255 : Int32)) - (((((p5.toUInt32 >>> ((10 : Int32) &&& 31).toUInt32).toInt32) &&& (255 : Int32)) / (3 : Int32)) * (3 : Int32))) - (1 : Int32))), .unset, .unset, .unset, .unset, .unset, .unset, .unset] [(.int ((p3 &&& (2147483647 : Int32)) - (((p3 &&& (2147483647 : Int32)) / (17 : Int32)) * (17 : Int32)))), (.int (1 : Int32))])) _
        refine XS.bipush X0.here hx rfl (hb hby at_48) ?_
        show Steps p.tables e below (s₁.setTop (mkF m 50 #[.val (.int p1), .val (.int p2), .val (.int p3), .val (.int p4), .val (.int p5), .val (.int (((((p5.toUInt32 >>> ((2 : Int32) &&& 31).toUInt32).toInt32) &&& (255 : Int32)) - (((((p5.toUInt32 >>> ((2 : Int32) &&& 31).toUInt32).toInt32) &&& (255 : Int32)) / (3 : Int32)) * (3 : Int32))) - (1 : Int32))), .val (.int (((((p5.toUInt32 >>> ((10 : Int32) &&& 31).toUInt32).toInt32) &&& (255 : Int32)) - (((((p5.toUInt32 >>> ((10 : Int32) &&& 31).toUInt32).toInt32) &&& (255 : Int32)) / (3 : Int32)) * (3 : Int32))) - (1 : Int32))), .unset, .unset, .unset, .unset, .unset, .unset, .unset] [(.int (10 : Int32)), (.int ((p3 &&& (2147483647 : Int32)) - (((p3 &&& (2147483647 : Int32)) / (17 : Int32)) * (17 : Int32)))), (.int (1 : Int32))])) _
        refine XS.iadd X0.here hx rfl (hb hby at_50) rfl ?_
        show Steps p.tables e below (s₁.setTop (mkF m 51 #[.val (.int p1), .val (.int p2), .val (.int p3), .val (.int p4), .val (.int p5), .val (.int (((((p5.toUInt32 >>> ((2 : Int32) &&& 31).toUInt32).toInt32) &&& (255 : Int32)) - (((((p5.toUInt32 >>> ((2 : Int32) &&& 31).toUInt32).toInt32) &&& (255 : Int32)) / (3 : Int32)) * (3 : Int32))) - (1 : Int32))), .val (.int (((((p5.toUInt32 >>> ((10 : Int32) &&& 31).toUInt32).toInt32) &&& (255 : Int32)) - (((((p5.toUInt32 >>> ((10 : Int32) &&& 31).toUInt32).toInt32) &&& (255 : Int32)) / (3 : Int32)) * (3 : Int32))) - (1 : Int32))), .unset, .unset, .unset, .unset, .unset, .unset, .unset] [(.int (((p3 &&& (2147483647 : Int32)) - (((p3 &&& (2147483647 : Int32)) / (17 : Int32)) * (17 : Int32))) + (10 : Int32))), (.int (1 : Int32))])) _
        refine XS.ishl X0.here hx rfl (hb hby at_51) rfl ?_
        show Steps p.tables e below (s₁.setTop (mkF m 52 #[.val (.int p1), .val (.int p2), .val (.int p3), .val (.int p4), .val (.int p5), .val (.int (((((p5.toUInt32 >>> ((2 : Int32) &&& 31).toUInt32).toInt32) &&& (255 : Int32)) - (((((p5.toUInt32 >>> ((2 : Int32) &&& 31).toUInt32).toInt32) &&& (255 : Int32)) / (3 : Int32)) * (3 : Int32))) - (1 : Int32))), .val (.int (((((p5.toUInt32 >>> ((10 : Int32) &&& 31).toUInt32).toInt32) &&& (255 : Int32)) - (((((p5.toUInt32 >>> ((10 : Int32) &&& 31).toUInt32).toInt32) &&& (255 : Int32)) / (3 : Int32)) * (3 : Int32))) - (1 : Int32))), .unset, .unset, .unset, .unset, .unset, .unset, .unset] [(.int ((1 : Int32) <<< ((((p3 &&& (2147483647 : Int32)) - (((p3 &&& (2147483647 : Int32)) / (17 : Int32)) * (17 : Int32))) + (10 : Int32)) &&& 31)))])) _
        refine XS.iload X0.here hx rfl (hb hby at_52) rfl ?_
        show Steps p.tables e below (s₁.setTop (mkF m 54 #[.val (.int p1), .val (.int p2), .val (.int p3), .val (.int p4), .val (.int p5), .val (.int (((((p5.toUInt32 >>> ((2 : Int32) &&& 31).toUInt32).toInt32) &&& (255 : Int32)) - (((((p5.toUInt32 >>> ((2 : Int32) &&& 31).toUInt32).toInt32) &&& (255 : Int32)) / (3 : Int32)) * (3 : Int32))) - (1 : Int32))), .val (.int (((((p5.toUInt32 >>> ((10 : Int32) &&& 31).toUInt32).toInt32) &&& (255 : Int32)) - (((((p5.toUInt32 >>> ((10 : Int32) &&& 31).toUInt32).toInt32) &&& (255 : Int32)) / (3 : Int32)) * (3 : Int32))) - (1 : Int32))), .unset, .unset, .unset, .unset, .unset, .unset, .unset] [(.int (((((p5.toUInt32 >>> ((2 : Int32) &&& 31).toUInt32).toInt32) &&& (255 : Int32)) - (((((p5.toUInt32 >>> ((2 : Int32) &&& 31).toUInt32).toInt32) &&& (255 : Int32)) / (3 : Int32)) * (3 : Int32))) - (1 : Int32))), (.int ((1 : Int32) <<< ((((p3 &&& (2147483647 : Int32)) - (((p3 &&& (2147483647 : Int32)) / (17 : Int32)) * (17 : Int32))) + (10 : Int32)) &&& 31)))])) _
        refine XS.iadd X0.here hx rfl (hb hby at_54) rfl ?_
        exact kt
      refine ⟨(((1 : Int32) <<< ((((p3 &&& (2147483647 : Int32)) - (((p3 &&& (2147483647 : Int32)) / (17 : Int32)) * (17 : Int32))) + (10 : Int32)) &&& 31)) + (((((p5.toUInt32 >>> ((2 : Int32) &&& 31).toUInt32).toInt32) &&& (255 : Int32)) - (((((p5.toUInt32 >>> ((2 : Int32) &&& 31).toUInt32).toInt32) &&& (255 : Int32)) / (3 : Int32)) * (3 : Int32))) - (1 : Int32))), ?_, pre172⟩
      trivial
    · have pre173 : ∀ t, Steps p.tables e below (s₁.setTop (mkF m 55 #[.val (.int p1), .val (.int p2), .val (.int p3), .val (.int p4), .val (.int p5), .val (.int (((((p5.toUInt32 >>> ((2 : Int32) &&& 31).toUInt32).toInt32) &&& (255 : Int32)) - (((((p5.toUInt32 >>> ((2 : Int32) &&& 31).toUInt32).toInt32) &&& (255 : Int32)) / (3 : Int32)) * (3 : Int32))) - (1 : Int32))), .val (.int (((((p5.toUInt32 >>> ((10 : Int32) &&& 31).toUInt32).toInt32) &&& (255 : Int32)) - (((((p5.toUInt32 >>> ((10 : Int32) &&& 31).toUInt32).toInt32) &&& (255 : Int32)) / (3 : Int32)) * (3 : Int32))) - (1 : Int32))), .unset, .unset, .unset, .unset, .unset, .unset, .unset] [(.int p1)])) t → Steps p.tables e below (s₁.setTop (entryFrame m #[(.int p1), (.int p2), (.int p3), (.int p4), (.int p5)] maxLocals)) t := by
        intro t kt
        refine pre170 t ?_
        show Steps p.tables e below (s₁.setTop (mkF m 33 #[.val (.int p1), .val (.int p2), .val (.int p3), .val (.int p4), .val (.int p5), .val (.int (((((p5.toUInt32 >>> ((2 : Int32) &&& 31).toUInt32).toInt32) &&& (255 : Int32)) - (((((p5.toUInt32 >>> ((2 : Int32) &&& 31).toUInt32).toInt32) &&& (255 : Int32)) / (3 : Int32)) * (3 : Int32))) - (1 : Int32))), .val (.int (((((p5.toUInt32 >>> ((10 : Int32) &&& 31).toUInt32).toInt32) &&& (255 : Int32)) - (((((p5.toUInt32 >>> ((10 : Int32) &&& 31).toUInt32).toInt32) &&& (255 : Int32)) / (3 : Int32)) * (3 : Int32))) - (1 : Int32))), .unset, .unset, .unset, .unset, .unset, .unset, .unset] [(.int (p5 &&& (1 : Int32)))])) _
        refine XS.ifNo X0.here hx rfl (hb hby at_33) rfl ((if0 _ _).trans (feq hc33).1) ?_
        show Steps p.tables e below (s₁.setTop (mkF m 36 #[.val (.int p1), .val (.int p2), .val (.int p3), .val (.int p4), .val (.int p5), .val (.int (((((p5.toUInt32 >>> ((2 : Int32) &&& 31).toUInt32).toInt32) &&& (255 : Int32)) - (((((p5.toUInt32 >>> ((2 : Int32) &&& 31).toUInt32).toInt32) &&& (255 : Int32)) / (3 : Int32)) * (3 : Int32))) - (1 : Int32))), .val (.int (((((p5.toUInt32 >>> ((10 : Int32) &&& 31).toUInt32).toInt32) &&& (255 : Int32)) - (((((p5.toUInt32 >>> ((10 : Int32) &&& 31).toUInt32).toInt32) &&& (255 : Int32)) / (3 : Int32)) * (3 : Int32))) - (1 : Int32))), .unset, .unset, .unset, .unset, .unset, .unset, .unset] [])) _
        refine XS.iloadN X0.here hx rfl (hb hby at_36) rfl ?_
        show Steps p.tables e below (s₁.setTop (mkF m 37 #[.val (.int p1), .val (.int p2), .val (.int p3), .val (.int p4), .val (.int p5), .val (.int (((((p5.toUInt32 >>> ((2 : Int32) &&& 31).toUInt32).toInt32) &&& (255 : Int32)) - (((((p5.toUInt32 >>> ((2 : Int32) &&& 31).toUInt32).toInt32) &&& (255 : Int32)) / (3 : Int32)) * (3 : Int32))) - (1 : Int32))), .val (.int (((((p5.toUInt32 >>> ((10 : Int32) &&& 31).toUInt32).toInt32) &&& (255 : Int32)) - (((((p5.toUInt32 >>> ((10 : Int32) &&& 31).toUInt32).toInt32) &&& (255 : Int32)) / (3 : Int32)) * (3 : Int32))) - (1 : Int32))), .unset, .unset, .unset, .unset, .unset, .unset, .unset] [(.int p1)])) _
        refine XS.goto X0.here hx rfl (pc0 := 37) (pc' := 55) rfl (hb hby at_37) (by decide) (by decide) ?_
        exact kt
      refine ⟨p1, ?_, pre173⟩
      trivial
  have pre174 : ∀ t, Steps p.tables e below (s₁.setTop (mkF m 61 #[.val (.int p1), .val (.int p2), .val (.int p3), .val (.int p4), .val (.int p5), .val (.int (((((p5.toUInt32 >>> ((2 : Int32) &&& 31).toUInt32).toInt32) &&& (255 : Int32)) - (((((p5.toUInt32 >>> ((2 : Int32) &&& 31).toUInt32).toInt32) &&& (255 : Int32)) / (3 : Int32)) * (3 : Int32))) - (1 : Int32))), .val (.int (((((p5.toUInt32 >>> ((10 : Int32) &&& 31).toUInt32).toInt32) &&& (255 : Int32)) - (((((p5.toUInt32 >>> ((10 : Int32) &&& 31).toUInt32).toInt32) &&& (255 : Int32)) / (3 : Int32)) * (3 : Int32))) - (1 : Int32))), .val (.int t1), .unset, .unset, .unset, .unset, .unset, .unset] [(.int (p5 &&& (2 : Int32)))])) t → Steps p.tables e below (s₁.setTop (entryFrame m #[(.int p1), (.int p2), (.int p3), (.int p4), (.int p5)] maxLocals)) t := by
    intro t kt
    refine pre171 t ?_
    show Steps p.tables e below (s₁.setTop (mkF m 55 #[.val (.int p1), .val (.int p2), .val (.int p3), .val (.int p4), .val (.int p5), .val (.int (((((p5.toUInt32 >>> ((2 : Int32) &&& 31).toUInt32).toInt32) &&& (255 : Int32)) - (((((p5.toUInt32 >>> ((2 : Int32) &&& 31).toUInt32).toInt32) &&& (255 : Int32)) / (3 : Int32)) * (3 : Int32))) - (1 : Int32))), .val (.int (((((p5.toUInt32 >>> ((10 : Int32) &&& 31).toUInt32).toInt32) &&& (255 : Int32)) - (((((p5.toUInt32 >>> ((10 : Int32) &&& 31).toUInt32).toInt32) &&& (255 : Int32)) / (3 : Int32)) * (3 : Int32))) - (1 : Int32))), .unset, .unset, .unset, .unset, .unset, .unset, .unset] [(.int t1)])) _
    refine XS.istore X0.here hx rfl (hb hby at_55) rfl (l' := #[.val (.int p1), .val (.int p2), .val (.int p3), .val (.int p4), .val (.int p5), .val (.int (((((p5.toUInt32 >>> ((2 : Int32) &&& 31).toUInt32).toInt32) &&& (255 : Int32)) - (((((p5.toUInt32 >>> ((2 : Int32) &&& 31).toUInt32).toInt32) &&& (255 : Int32)) / (3 : Int32)) * (3 : Int32))) - (1 : Int32))), .val (.int (((((p5.toUInt32 >>> ((10 : Int32) &&& 31).toUInt32).toInt32) &&& (255 : Int32)) - (((((p5.toUInt32 >>> ((10 : Int32) &&& 31).toUInt32).toInt32) &&& (255 : Int32)) / (3 : Int32)) * (3 : Int32))) - (1 : Int32))), .val (.int t1), .unset, .unset, .unset, .unset, .unset, .unset]) rfl ?_
    show Steps p.tables e below (s₁.setTop (mkF m 57 #[.val (.int p1), .val (.int p2), .val (.int p3), .val (.int p4), .val (.int p5), .val (.int (((((p5.toUInt32 >>> ((2 : Int32) &&& 31).toUInt32).toInt32) &&& (255 : Int32)) - (((((p5.toUInt32 >>> ((2 : Int32) &&& 31).toUInt32).toInt32) &&& (255 : Int32)) / (3 : Int32)) * (3 : Int32))) - (1 : Int32))), .val (.int (((((p5.toUInt32 >>> ((10 : Int32) &&& 31).toUInt32).toInt32) &&& (255 : Int32)) - (((((p5.toUInt32 >>> ((10 : Int32) &&& 31).toUInt32).toInt32) &&& (255 : Int32)) / (3 : Int32)) * (3 : Int32))) - (1 : Int32))), .val (.int t1), .unset, .unset, .unset, .unset, .unset, .unset] [])) _
    refine XS.iload X0.here hx rfl (hb hby at_57) rfl ?_
    show Steps p.tables e below (s₁.setTop (mkF m 59 #[.val (.int p1), .val (.int p2), .val (.int p3), .val (.int p4), .val (.int p5), .val (.int (((((p5.toUInt32 >>> ((2 : Int32) &&& 31).toUInt32).toInt32) &&& (255 : Int32)) - (((((p5.toUInt32 >>> ((2 : Int32) &&& 31).toUInt32).toInt32) &&& (255 : Int32)) / (3 : Int32)) * (3 : Int32))) - (1 : Int32))), .val (.int (((((p5.toUInt32 >>> ((10 : Int32) &&& 31).toUInt32).toInt32) &&& (255 : Int32)) - (((((p5.toUInt32 >>> ((10 : Int32) &&& 31).toUInt32).toInt32) &&& (255 : Int32)) / (3 : Int32)) * (3 : Int32))) - (1 : Int32))), .val (.int t1), .unset, .unset, .unset, .unset, .unset, .unset] [(.int p5)])) _
    refine XS.iconst X0.here hx rfl (hb hby at_59) ?_
    show Steps p.tables e below (s₁.setTop (mkF m 60 #[.val (.int p1), .val (.int p2), .val (.int p3), .val (.int p4), .val (.int p5), .val (.int (((((p5.toUInt32 >>> ((2 : Int32) &&& 31).toUInt32).toInt32) &&& (255 : Int32)) - (((((p5.toUInt32 >>> ((2 : Int32) &&& 31).toUInt32).toInt32) &&& (255 : Int32)) / (3 : Int32)) * (3 : Int32))) - (1 : Int32))), .val (.int (((((p5.toUInt32 >>> ((10 : Int32) &&& 31).toUInt32).toInt32) &&& (255 : Int32)) - (((((p5.toUInt32 >>> ((10 : Int32) &&& 31).toUInt32).toInt32) &&& (255 : Int32)) / (3 : Int32)) * (3 : Int32))) - (1 : Int32))), .val (.int t1), .unset, .unset, .unset, .unset, .unset, .unset] [(.int (2 : Int32)), (.int p5)])) _
    refine XS.iand X0.here hx rfl (hb hby at_60) rfl ?_
    exact kt
  obtain ⟨t2, h_t2, pre175⟩ : ∃ (t2 : Int32), (True) ∧ ∀ t, Steps p.tables e below (s₁.setTop (mkF m 83 #[.val (.int p1), .val (.int p2), .val (.int p3), .val (.int p4), .val (.int p5), .val (.int (((((p5.toUInt32 >>> ((2 : Int32) &&& 31).toUInt32).toInt32) &&& (255 : Int32)) - (((((p5.toUInt32 >>> ((2 : Int32) &&& 31).toUInt32).toInt32) &&& (255 : Int32)) / (3 : Int32)) * (3 : Int32))) - (1 : Int32))), .val (.int (((((p5.toUInt32 >>> ((10 : Int32) &&& 31).toUInt32).toInt32) &&& (255 : Int32)) - (((((p5.toUInt32 >>> ((10 : Int32) &&& 31).toUInt32).toInt32) &&& (255 : Int32)) / (3 : Int32)) * (3 : Int32))) - (1 : Int32))), .val (.int t1), .unset, .unset, .unset, .unset, .unset, .unset] [(.int t2)])) t → Steps p.tables e below (s₁.setTop (entryFrame m #[(.int p1), (.int p2), (.int p3), (.int p4), (.int p5)] maxLocals)) t := by
    by_cases hc61 : (p5 &&& (2 : Int32)) = (0 : Int32)
    · have pre176 : ∀ t, Steps p.tables e below (s₁.setTop (mkF m 83 #[.val (.int p1), .val (.int p2), .val (.int p3), .val (.int p4), .val (.int p5), .val (.int (((((p5.toUInt32 >>> ((2 : Int32) &&& 31).toUInt32).toInt32) &&& (255 : Int32)) - (((((p5.toUInt32 >>> ((2 : Int32) &&& 31).toUInt32).toInt32) &&& (255 : Int32)) / (3 : Int32)) * (3 : Int32))) - (1 : Int32))), .val (.int (((((p5.toUInt32 >>> ((10 : Int32) &&& 31).toUInt32).toInt32) &&& (255 : Int32)) - (((((p5.toUInt32 >>> ((10 : Int32) &&& 31).toUInt32).toInt32) &&& (255 : Int32)) / (3 : Int32)) * (3 : Int32))) - (1 : Int32))), .val (.int t1), .unset, .unset, .unset, .unset, .unset, .unset] [(.int (((1 : Int32) <<< ((((p4 &&& (2147483647 : Int32)) - (((p4 &&& (2147483647 : Int32)) / (17 : Int32)) * (17 : Int32))) + (10 : Int32)) &&& 31)) + (((((p5.toUInt32 >>> ((10 : Int32) &&& 31).toUInt32).toInt32) &&& (255 : Int32)) - (((((p5.toUInt32 >>> ((10 : Int32) &&& 31).toUInt32).toInt32) &&& (255 : Int32)) / (3 : Int32)) * (3 : Int32))) - (1 : Int32))))])) t → Steps p.tables e below (s₁.setTop (entryFrame m #[(.int p1), (.int p2), (.int p3), (.int p4), (.int p5)] maxLocals)) t := by
        intro t kt
        refine pre174 t ?_
        show Steps p.tables e below (s₁.setTop (mkF m 61 #[.val (.int p1), .val (.int p2), .val (.int p3), .val (.int p4), .val (.int p5), .val (.int (((((p5.toUInt32 >>> ((2 : Int32) &&& 31).toUInt32).toInt32) &&& (255 : Int32)) - (((((p5.toUInt32 >>> ((2 : Int32) &&& 31).toUInt32).toInt32) &&& (255 : Int32)) / (3 : Int32)) * (3 : Int32))) - (1 : Int32))), .val (.int (((((p5.toUInt32 >>> ((10 : Int32) &&& 31).toUInt32).toInt32) &&& (255 : Int32)) - (((((p5.toUInt32 >>> ((10 : Int32) &&& 31).toUInt32).toInt32) &&& (255 : Int32)) / (3 : Int32)) * (3 : Int32))) - (1 : Int32))), .val (.int t1), .unset, .unset, .unset, .unset, .unset, .unset] [(.int (p5 &&& (2 : Int32)))])) _
        refine XS.ifYes X0.here hx rfl (pc0 := 61) (pc' := 68) rfl (hb hby at_61) rfl ((if0 _ _).trans (teq hc61).1) (by decide) (by decide) ?_
        show Steps p.tables e below (s₁.setTop (mkF m 68 #[.val (.int p1), .val (.int p2), .val (.int p3), .val (.int p4), .val (.int p5), .val (.int (((((p5.toUInt32 >>> ((2 : Int32) &&& 31).toUInt32).toInt32) &&& (255 : Int32)) - (((((p5.toUInt32 >>> ((2 : Int32) &&& 31).toUInt32).toInt32) &&& (255 : Int32)) / (3 : Int32)) * (3 : Int32))) - (1 : Int32))), .val (.int (((((p5.toUInt32 >>> ((10 : Int32) &&& 31).toUInt32).toInt32) &&& (255 : Int32)) - (((((p5.toUInt32 >>> ((10 : Int32) &&& 31).toUInt32).toInt32) &&& (255 : Int32)) / (3 : Int32)) * (3 : Int32))) - (1 : Int32))), .val (.int t1), .unset, .unset, .unset, .unset, .unset, .unset] [])) _
        refine XS.iconst X0.here hx rfl (hb hby at_68) ?_
        show Steps p.tables e below (s₁.setTop (mkF m 69 #[.val (.int p1), .val (.int p2), .val (.int p3), .val (.int p4), .val (.int p5), .val (.int (((((p5.toUInt32 >>> ((2 : Int32) &&& 31).toUInt32).toInt32) &&& (255 : Int32)) - (((((p5.toUInt32 >>> ((2 : Int32) &&& 31).toUInt32).toInt32) &&& (255 : Int32)) / (3 : Int32)) * (3 : Int32))) - (1 : Int32))), .val (.int (((((p5.toUInt32 >>> ((10 : Int32) &&& 31).toUInt32).toInt32) &&& (255 : Int32)) - (((((p5.toUInt32 >>> ((10 : Int32) &&& 31).toUInt32).toInt32) &&& (255 : Int32)) / (3 : Int32)) * (3 : Int32))) - (1 : Int32))), .val (.int t1), .unset, .unset, .unset, .unset, .unset, .unset] [(.int (1 : Int32))])) _
        refine XS.iloadN X0.here hx rfl (hb hby at_69) rfl ?_
        show Steps p.tables e below (s₁.setTop (mkF m 70 #[.val (.int p1), .val (.int p2), .val (.int p3), .val (.int p4), .val (.int p5), .val (.int (((((p5.toUInt32 >>> ((2 : Int32) &&& 31).toUInt32).toInt32) &&& (255 : Int32)) - (((((p5.toUInt32 >>> ((2 : Int32) &&& 31).toUInt32).toInt32) &&& (255 : Int32)) / (3 : Int32)) * (3 : Int32))) - (1 : Int32))), .val (.int (((((p5.toUInt32 >>> ((10 : Int32) &&& 31).toUInt32).toInt32) &&& (255 : Int32)) - (((((p5.toUInt32 >>> ((10 : Int32) &&& 31).toUInt32).toInt32) &&& (255 : Int32)) / (3 : Int32)) * (3 : Int32))) - (1 : Int32))), .val (.int t1), .unset, .unset, .unset, .unset, .unset, .unset] [(.int p4), (.int (1 : Int32))])) _
        refine X0.ldcInt hx hown (mvT hZ (hw _ (List.mem_of_getElem? (i := 0) rfl))) (g := (mkF m 70 #[.val (.int p1), .val (.int p2), .val (.int p3), .val (.int p4), .val (.int p5), .val (.int (((((p5.toUInt32 >>> ((2 : Int32) &&& 31).toUInt32).toInt32) &&& (255 : Int32)) - (((((p5.toUInt32 >>> ((2 : Int32) &&& 31).toUInt32).toInt32) &&& (255 : Int32)) / (3 : Int32)) * (3 : Int32))) - (1 : Int32))), .val (.int (((((p5.toUInt32 >>> ((10 : Int32) &&& 31).toUInt32).toInt32) &&& (255 : Int32)) - (((((p5.toUInt32 >>> ((10 : Int32) &&& 31).toUInt32).toInt32) &&& (255 : Int32)) / (3 : Int32)) * (3 : Int32))) - (1 : Int32))), .val (.int t1), .unset, .unset, .unset, .unset, .unset, .unset] [(.int p4), (.int (1 : Int32))])) rfl (hb hby at_70) _ ?_
        show Steps p.tables e below (s₁.setTop (mkF m 72 #[.val (.int p1), .val (.int p2), .val (.int p3), .val (.int p4), .val (.int p5), .val (.int (((((p5.toUInt32 >>> ((2 : Int32) &&& 31).toUInt32).toInt32) &&& (255 : Int32)) - (((((p5.toUInt32 >>> ((2 : Int32) &&& 31).toUInt32).toInt32) &&& (255 : Int32)) / (3 : Int32)) * (3 : Int32))) - (1 : Int32))), .val (.int (((((p5.toUInt32 >>> ((10 : Int32) &&& 31).toUInt32).toInt32) &&& (255 : Int32)) - (((((p5.toUInt32 >>> ((10 : Int32) &&& 31).toUInt32).toInt32) &&& (255 : Int32)) / (3 : Int32)) * (3 : Int32))) - (1 : Int32))), .val (.int t1), .unset, .unset, .unset, .unset, .unset, .unset] [(.int (2147483647 : Int32)), (.int p4), (.int (1 : Int32))])) _
        refine XS.iand X0.here hx rfl (hb hby at_72) rfl ?_
        show Steps p.tables e below (s₁.setTop (mkF m 73 #[.val (.int p1), .val (.int p2), .val (.int p3), .val (.int p4), .val (.int p5), .val (.int (((((p5.toUInt32 >>> ((2 : Int32) &&& 31).toUInt32).toInt32) &&& (255 : Int32)) - (((((p5.toUInt32 >>> ((2 : Int32) &&& 31).toUInt32).toInt32) &&& (255 : Int32)) / (3 : Int32)) * (3 : Int32))) - (1 : Int32))), .val (.int (((((p5.toUInt32 >>> ((10 : Int32) &&& 31).toUInt32).toInt32) &&& (255 : Int32)) - (((((p5.toUInt32 >>> ((10 : Int32) &&& 31).toUInt32).toInt32) &&& (255 : Int32)) / (3 : Int32)) * (3 : Int32))) - (1 : Int32))), .val (.int t1), .unset, .unset, .unset, .unset, .unset, .unset] [(.int (p4 &&& (2147483647 : Int32))), (.int (1 : Int32))])) _
        refine XS.bipush X0.here hx rfl (hb hby at_73) ?_
        show Steps p.tables e below (s₁.setTop (mkF m 75 #[.val (.int p1), .val (.int p2), .val (.int p3), .val (.int p4), .val (.int p5), .val (.int (((((p5.toUInt32 >>> ((2 : Int32) &&& 31).toUInt32).toInt32) &&& (255 : Int32)) - (((((p5.toUInt32 >>> ((2 : Int32) &&& 31).toUInt32).toInt32) &&& (255 : Int32)) / (3 : Int32)) * (3 : Int32))) - (1 : Int32))), .val (.int (((((p5.toUInt32 >>> ((10 : Int32) &&& 31).toUInt32).toInt32) &&& (255 : Int32)) - (((((p5.toUInt32 >>> ((10 : Int32) &&& 31).toUInt32).toInt32) &&& (255 : Int32)) / (3 : Int32)) * (3 : Int32))) - (1 : Int32))), .val (.int t1), .unset, .unset, .unset, .unset, .unset, .unset] [(.int (17 : Int32)), (.int (p4 &&& (2147483647 : Int32))), (.int (1 : Int32))])) _
        refine XS.irem X0.here hx rfl (hb hby at_75) rfl (by decide) ?_
        show Steps p.tables e below (s₁.setTop (mkF m 76 #[.val (.int p1), .val (.int p2), .val (.int p3), .val (.int p4), .val (.int p5), .val (.int (((((p5.toUInt32 >>> ((2 : Int32) &&& 31).toUInt32).toInt32) &&& (255 : Int32)) - (((((p5.toUInt32 >>> ((2 : Int32) &&& 31).toUInt32).toInt32) &&& (255 : Int32)) / (3 : Int32)) * (3 : Int32))) - (1 : Int32))), .val (.int (((((p5.toUInt32 >>> ((10 : Int32) &&& 31).toUInt32).toInt32) &&& (255 : Int32)) - (((((p5.toUInt32 >>> ((10 : Int32) &&& 31).toUInt32).toInt32) &&& (255 : Int32)) / (3 : Int32)) * (3 : Int32))) - (1 : Int32))), .val (.int t1), .unset, .unset, .unset, .unset, .unset, .unset] [(.int ((p4 &&& (2147483647 : Int32)) - (((p4 &&& (2147483647 : Int32)) / (17 : Int32)) * (17 : Int32)))), (.int (1 : Int32))])) _
        refine XS.bipush X0.here hx rfl (hb hby at_76) ?_
        show Steps p.tables e below (s₁.setTop (mkF m 78 #[.val (.int p1), .val (.int p2), .val (.int p3), .val (.int p4), .val (.int p5), .val (.int (((((p5.toUInt32 >>> ((2 : Int32) &&& 31).toUInt32).toInt32) &&& (255 : Int32)) - (((((p5.toUInt32 >>> ((2 : Int32) &&& 31).toUInt32).toInt32) &&& (255 : Int32)) / (3 : Int32)) * (3 : Int32))) - (1 : Int32))), .val (.int (((((p5.toUInt32 >>> ((10 : Int32) &&& 31).toUInt32).toInt32) &&& (255 : Int32)) - (((((p5.toUInt32 >>> ((10 : Int32) &&& 31).toUInt32).toInt32) &&& (255 : Int32)) / (3 : Int32)) * (3 : Int32))) - (1 : Int32))), .val (.int t1), .unset, .unset, .unset, .unset, .unset, .unset] [(.int (10 : Int32)), (.int ((p4 &&& (2147483647 : Int32)) - (((p4 &&& (2147483647 : Int32)) / (17 : Int32)) * (17 : Int32)))), (.int (1 : Int32))])) _
        refine XS.iadd X0.here hx rfl (hb hby at_78) rfl ?_
        show Steps p.tables e below (s₁.setTop (mkF m 79 #[.val (.int p1), .val (.int p2), .val (.int p3), .val (.int p4), .val (.int p5), .val (.int (((((p5.toUInt32 >>> ((2 : Int32) &&& 31).toUInt32).toInt32) &&& (255 : Int32)) - (((((p5.toUInt32 >>> ((2 : Int32) &&& 31).toUInt32).toInt32) &&& (255 : Int32)) / (3 : Int32)) * (3 : Int32))) - (1 : Int32))), .val (.int (((((p5.toUInt32 >>> ((10 : Int32) &&& 31).toUInt32).toInt32) &&& (255 : Int32)) - (((((p5.toUInt32 >>> ((10 : Int32) &&& 31).toUInt32).toInt32) &&& (255 : Int32)) / (3 : Int32)) * (3 : Int32))) - (1 : Int32))), .val (.int t1), .unset, .unset, .unset, .unset, .unset, .unset] [(.int (((p4 &&& (2147483647 : Int32)) - (((p4 &&& (2147483647 : Int32)) / (17 : Int32)) * (17 : Int32))) + (10 : Int32))), (.int (1 : Int32))])) _
        refine XS.ishl X0.here hx rfl (hb hby at_79) rfl ?_
        show Steps p.tables e below (s₁.setTop (mkF m 80 #[.val (.int p1), .val (.int p2), .val (.int p3), .val (.int p4), .val (.int p5), .val (.int (((((p5.toUInt32 >>> ((2 : Int32) &&& 31).toUInt32).toInt32) &&& (255 : Int32)) - (((((p5.toUInt32 >>> ((2 : Int32) &&& 31).toUInt32).toInt32) &&& (255 : Int32)) / (3 : Int32)) * (3 : Int32))) - (1 : Int32))), .val (.int (((((p5.toUInt32 >>> ((10 : Int32) &&& 31).toUInt32).toInt32) &&& (255 : Int32)) - (((((p5.toUInt32 >>> ((10 : Int32) &&& 31).toUInt32).toInt32) &&& (255 : Int32)) / (3 : Int32)) * (3 : Int32))) - (1 : Int32))), .val (.int t1), .unset, .unset, .unset, .unset, .unset, .unset] [(.int ((1 : Int32) <<< ((((p4 &&& (2147483647 : Int32)) - (((p4 &&& (2147483647 : Int32)) / (17 : Int32)) * (17 : Int32))) + (10 : Int32)) &&& 31)))])) _
        refine XS.iload X0.here hx rfl (hb hby at_80) rfl ?_
        show Steps p.tables e below (s₁.setTop (mkF m 82 #[.val (.int p1), .val (.int p2), .val (.int p3), .val (.int p4), .val (.int p5), .val (.int (((((p5.toUInt32 >>> ((2 : Int32) &&& 31).toUInt32).toInt32) &&& (255 : Int32)) - (((((p5.toUInt32 >>> ((2 : Int32) &&& 31).toUInt32).toInt32) &&& (255 : Int32)) / (3 : Int32)) * (3 : Int32))) - (1 : Int32))), .val (.int (((((p5.toUInt32 >>> ((10 : Int32) &&& 31).toUInt32).toInt32) &&& (255 : Int32)) - (((((p5.toUInt32 >>> ((10 : Int32) &&& 31).toUInt32).toInt32) &&& (255 : Int32)) / (3 : Int32)) * (3 : Int32))) - (1 : Int32))), .val (.int t1), .unset, .unset, .unset, .unset, .unset, .unset] [(.int (((((p5.toUInt32 >>> ((10 : Int32) &&& 31).toUInt32).toInt32) &&& (255 : Int32)) - (((((p5.toUInt32 >>> ((10 : Int32) &&& 31).toUInt32).toInt32) &&& (255 : Int32)) / (3 : Int32)) * (3 : Int32))) - (1 : Int32))), (.int ((1 : Int32) <<< ((((p4 &&& (2147483647 : Int32)) - (((p4 &&& (2147483647 : Int32)) / (17 : Int32)) * (17 : Int32))) + (10 : Int32)) &&& 31)))])) _
        refine XS.iadd X0.here hx rfl (hb hby at_82) rfl ?_
        exact kt
      refine ⟨(((1 : Int32) <<< ((((p4 &&& (2147483647 : Int32)) - (((p4 &&& (2147483647 : Int32)) / (17 : Int32)) * (17 : Int32))) + (10 : Int32)) &&& 31)) + (((((p5.toUInt32 >>> ((10 : Int32) &&& 31).toUInt32).toInt32) &&& (255 : Int32)) - (((((p5.toUInt32 >>> ((10 : Int32) &&& 31).toUInt32).toInt32) &&& (255 : Int32)) / (3 : Int32)) * (3 : Int32))) - (1 : Int32))), ?_, pre176⟩
      trivial
    · have pre177 : ∀ t, Steps p.tables e below (s₁.setTop (mkF m 83 #[.val (.int p1), .val (.int p2), .val (.int p3), .val (.int p4), .val (.int p5), .val (.int (((((p5.toUInt32 >>> ((2 : Int32) &&& 31).toUInt32).toInt32) &&& (255 : Int32)) - (((((p5.toUInt32 >>> ((2 : Int32) &&& 31).toUInt32).toInt32) &&& (255 : Int32)) / (3 : Int32)) * (3 : Int32))) - (1 : Int32))), .val (.int (((((p5.toUInt32 >>> ((10 : Int32) &&& 31).toUInt32).toInt32) &&& (255 : Int32)) - (((((p5.toUInt32 >>> ((10 : Int32) &&& 31).toUInt32).toInt32) &&& (255 : Int32)) / (3 : Int32)) * (3 : Int32))) - (1 : Int32))), .val (.int t1), .unset, .unset, .unset, .unset, .unset, .unset] [(.int p2)])) t → Steps p.tables e below (s₁.setTop (entryFrame m #[(.int p1), (.int p2), (.int p3), (.int p4), (.int p5)] maxLocals)) t := by
        intro t kt
        refine pre174 t ?_
        show Steps p.tables e below (s₁.setTop (mkF m 61 #[.val (.int p1), .val (.int p2), .val (.int p3), .val (.int p4), .val (.int p5), .val (.int (((((p5.toUInt32 >>> ((2 : Int32) &&& 31).toUInt32).toInt32) &&& (255 : Int32)) - (((((p5.toUInt32 >>> ((2 : Int32) &&& 31).toUInt32).toInt32) &&& (255 : Int32)) / (3 : Int32)) * (3 : Int32))) - (1 : Int32))), .val (.int (((((p5.toUInt32 >>> ((10 : Int32) &&& 31).toUInt32).toInt32) &&& (255 : Int32)) - (((((p5.toUInt32 >>> ((10 : Int32) &&& 31).toUInt32).toInt32) &&& (255 : Int32)) / (3 : Int32)) * (3 : Int32))) - (1 : Int32))), .val (.int t1), .unset, .unset, .unset, .unset, .unset, .unset] [(.int (p5 &&& (2 : Int32)))])) _
        refine XS.ifNo X0.here hx rfl (hb hby at_61) rfl ((if0 _ _).trans (feq hc61).1) ?_
        show Steps p.tables e below (s₁.setTop (mkF m 64 #[.val (.int p1), .val (.int p2), .val (.int p3), .val (.int p4), .val (.int p5), .val (.int (((((p5.toUInt32 >>> ((2 : Int32) &&& 31).toUInt32).toInt32) &&& (255 : Int32)) - (((((p5.toUInt32 >>> ((2 : Int32) &&& 31).toUInt32).toInt32) &&& (255 : Int32)) / (3 : Int32)) * (3 : Int32))) - (1 : Int32))), .val (.int (((((p5.toUInt32 >>> ((10 : Int32) &&& 31).toUInt32).toInt32) &&& (255 : Int32)) - (((((p5.toUInt32 >>> ((10 : Int32) &&& 31).toUInt32).toInt32) &&& (255 : Int32)) / (3 : Int32)) * (3 : Int32))) - (1 : Int32))), .val (.int t1), .unset, .unset, .unset, .unset, .unset, .unset] [])) _
        refine XS.iloadN X0.here hx rfl (hb hby at_64) rfl ?_
        show Steps p.tables e below (s₁.setTop (mkF m 65 #[.val (.int p1), .val (.int p2), .val (.int p3), .val (.int p4), .val (.int p5), .val (.int (((((p5.toUInt32 >>> ((2 : Int32) &&& 31).toUInt32).toInt32) &&& (255 : Int32)) - (((((p5.toUInt32 >>> ((2 : Int32) &&& 31).toUInt32).toInt32) &&& (255 : Int32)) / (3 : Int32)) * (3 : Int32))) - (1 : Int32))), .val (.int (((((p5.toUInt32 >>> ((10 : Int32) &&& 31).toUInt32).toInt32) &&& (255 : Int32)) - (((((p5.toUInt32 >>> ((10 : Int32) &&& 31).toUInt32).toInt32) &&& (255 : Int32)) / (3 : Int32)) * (3 : Int32))) - (1 : Int32))), .val (.int t1), .unset, .unset, .unset, .unset, .unset, .unset] [(.int p2)])) _
        refine XS.goto X0.here hx rfl (pc0 := 65) (pc' := 83) rfl (hb hby at_65) (by decide) (by decide) ?_
        exact kt
      refine ⟨p2, ?_, pre177⟩
      trivial
  obtain ⟨_, _, ⟨T178, L178, k178, n178⟩, -, X178, ⟨Lc178, hQ178, l178, y178, z178⟩, st178⟩ := Jvm.LawKit.callS X0 hx (y := (⟨"com/example/seshat/seshat/reader/ArchiveNames", "reading", "(II)I"⟩ : MethodName)) hown (mvT hZ (hw _ (List.mem_of_getElem? (i := 1) rfl))) (mvT hZ (hw _ (List.mem_of_getElem? (i := 2) rfl))) (mvT hZ (hw _ (List.mem_of_getElem? (i := 3) rfl))) (mvT hZ (hw _ (List.mem_of_getElem? (i := 4) rfl))) (by decide) (backOf (W := 0) (rm1 l Z a0 hw [] t1 t2 h0 n0 Z0) hZ (hw _ (List.mem_of_getElem? (i := 4) rfl)) (hw _ (List.mem_of_getElem? (i := 3) rfl)) (by decide) (by decide)) (g := (mkF m 89 #[.val (.int p1), .val (.int p2), .val (.int p3), .val (.int p4), .val (.int p5), .val (.int (((((p5.toUInt32 >>> ((2 : Int32) &&& 31).toUInt32).toInt32) &&& (255 : Int32)) - (((((p5.toUInt32 >>> ((2 : Int32) &&& 31).toUInt32).toInt32) &&& (255 : Int32)) / (3 : Int32)) * (3 : Int32))) - (1 : Int32))), .val (.int (((((p5.toUInt32 >>> ((10 : Int32) &&& 31).toUInt32).toInt32) &&& (255 : Int32)) - (((((p5.toUInt32 >>> ((10 : Int32) &&& 31).toUInt32).toInt32) &&& (255 : Int32)) / (3 : Int32)) * (3 : Int32))) - (1 : Int32))), .val (.int t1), .val (.int t2), .unset, .unset, .unset, .unset, .unset] [(.int t2), (.int t1)])) rfl (by rw [hml]; rfl) (argsL := [(.int t1), (.int t2)]) (rest := []) (lenOf pd_0 rfl) rfl (by show 2 * 0 + _ ≤ _; exact Nat.le_of_eq rfl) (hb hby at_89) (fun _ _ => ⟨rfl, e0, (by decide : 0 + 0 ≤ _), (by decide : 0 + 0 ≤ _)⟩)
  dsimp only [Pt.U, Pt.locs, Pt.cells, Pt.slots] at X178 l178 y178 z178 st178 hQ178
  subst l178 y178 z178
  obtain ⟨rfl, Nq178, eq178⟩ := hQ178
  have Nf178 := Fr.app N0 Nq178
  obtain ⟨_, _, ⟨T179, L179, k179, n179⟩, -, X179, ⟨Lc179, hQ179, l179, y179, z179⟩, st179⟩ := Jvm.LawKit.callS X178 hx (y := (⟨"com/example/seshat/seshat/reader/ArchiveNamesReadingPinLaw", "doublings", "(I)I"⟩ : MethodName)) hown (mvT hZ (hw _ (List.mem_of_getElem? (i := 6) rfl))) (mvT hZ (hw _ (List.mem_of_getElem? (i := 7) rfl))) (mvT hZ (hw _ (List.mem_of_getElem? (i := 8) rfl))) (mvT hZ (hw _ (List.mem_of_getElem? (i := 9) rfl))) (by decide) (backOf (W := 0) (rm2 l Z a0 hw [] t1 h0 n0 Z0) hZ (hw _ (List.mem_of_getElem? (i := 9) rfl)) (hw _ (List.mem_of_getElem? (i := 8) rfl)) (by decide) (by decide)) (g := (mkF m 96 #[.val (.int p1), .val (.int p2), .val (.int p3), .val (.int p4), .val (.int p5), .val (.int (((((p5.toUInt32 >>> ((2 : Int32) &&& 31).toUInt32).toInt32) &&& (255 : Int32)) - (((((p5.toUInt32 >>> ((2 : Int32) &&& 31).toUInt32).toInt32) &&& (255 : Int32)) / (3 : Int32)) * (3 : Int32))) - (1 : Int32))), .val (.int (((((p5.toUInt32 >>> ((10 : Int32) &&& 31).toUInt32).toInt32) &&& (255 : Int32)) - (((((p5.toUInt32 >>> ((10 : Int32) &&& 31).toUInt32).toInt32) &&& (255 : Int32)) / (3 : Int32)) * (3 : Int32))) - (1 : Int32))), .val (.int t1), .val (.int t2), .val (.int (own_rd (own_dbl t1) t2)), .unset, .unset, .unset, .unset] [(.int t1)])) rfl (by rw [hml]; rfl) (argsL := [(.int t1)]) (rest := []) (lenOf pd_1 rfl) rfl (by show 2 * 0 + _ ≤ _; exact Nat.le_of_eq rfl) (hb hby at_96) (fun _ _ => ⟨rfl, eq178, (by decide : 0 + 0 ≤ _), (by decide : 0 + 0 ≤ _)⟩)
  dsimp only [Pt.U, Pt.locs, Pt.cells, Pt.slots] at X179 l179 y179 z179 st179 hQ179
  subst l179 y179 z179
  obtain ⟨rfl, Nq179, eq179⟩ := hQ179
  have Nf179 := Fr.app Nf178 Nq179
  have pre180 : ∀ t, Steps p.tables e below (T179.setTop (mkF m 119 #[.val (.int p1), .val (.int p2), .val (.int p3), .val (.int p4), .val (.int p5), .val (.int (((((p5.toUInt32 >>> ((2 : Int32) &&& 31).toUInt32).toInt32) &&& (255 : Int32)) - (((((p5.toUInt32 >>> ((2 : Int32) &&& 31).toUInt32).toInt32) &&& (255 : Int32)) / (3 : Int32)) * (3 : Int32))) - (1 : Int32))), .val (.int (((((p5.toUInt32 >>> ((10 : Int32) &&& 31).toUInt32).toInt32) &&& (255 : Int32)) - (((((p5.toUInt32 >>> ((10 : Int32) &&& 31).toUInt32).toInt32) &&& (255 : Int32)) / (3 : Int32)) * (3 : Int32))) - (1 : Int32))), .val (.int t1), .val (.int t2), .val (.int (own_rd (own_dbl t1) t2)), .val (.int (own_dbl t1)), .val (.long ((1024 : Int64) <<< ((own_dbl t1) &&& 0x3f).toInt64)), .second, .unset] [(.int (lcmpW (t2.toInt64) ((1024 : Int64) <<< ((own_dbl t1) &&& 0x3f).toInt64))), (.int ((own_dbl t1) * (2 : Int32)))])) t → Steps p.tables e below (s₁.setTop (entryFrame m #[(.int p1), (.int p2), (.int p3), (.int p4), (.int p5)] maxLocals)) t := by
    intro t kt
    refine pre175 t ?_
    show Steps p.tables e below (s₁.setTop (mkF m 83 #[.val (.int p1), .val (.int p2), .val (.int p3), .val (.int p4), .val (.int p5), .val (.int (((((p5.toUInt32 >>> ((2 : Int32) &&& 31).toUInt32).toInt32) &&& (255 : Int32)) - (((((p5.toUInt32 >>> ((2 : Int32) &&& 31).toUInt32).toInt32) &&& (255 : Int32)) / (3 : Int32)) * (3 : Int32))) - (1 : Int32))), .val (.int (((((p5.toUInt32 >>> ((10 : Int32) &&& 31).toUInt32).toInt32) &&& (255 : Int32)) - (((((p5.toUInt32 >>> ((10 : Int32) &&& 31).toUInt32).toInt32) &&& (255 : Int32)) / (3 : Int32)) * (3 : Int32))) - (1 : Int32))), .val (.int t1), .unset, .unset, .unset, .unset, .unset, .unset] [(.int t2)])) _
    refine XS.istore X0.here hx rfl (hb hby at_83) rfl (l' := #[.val (.int p1), .val (.int p2), .val (.int p3), .val (.int p4), .val (.int p5), .val (.int (((((p5.toUInt32 >>> ((2 : Int32) &&& 31).toUInt32).toInt32) &&& (255 : Int32)) - (((((p5.toUInt32 >>> ((2 : Int32) &&& 31).toUInt32).toInt32) &&& (255 : Int32)) / (3 : Int32)) * (3 : Int32))) - (1 : Int32))), .val (.int (((((p5.toUInt32 >>> ((10 : Int32) &&& 31).toUInt32).toInt32) &&& (255 : Int32)) - (((((p5.toUInt32 >>> ((10 : Int32) &&& 31).toUInt32).toInt32) &&& (255 : Int32)) / (3 : Int32)) * (3 : Int32))) - (1 : Int32))), .val (.int t1), .val (.int t2), .unset, .unset, .unset, .unset, .unset]) rfl ?_
    show Steps p.tables e below (s₁.setTop (mkF m 85 #[.val (.int p1), .val (.int p2), .val (.int p3), .val (.int p4), .val (.int p5), .val (.int (((((p5.toUInt32 >>> ((2 : Int32) &&& 31).toUInt32).toInt32) &&& (255 : Int32)) - (((((p5.toUInt32 >>> ((2 : Int32) &&& 31).toUInt32).toInt32) &&& (255 : Int32)) / (3 : Int32)) * (3 : Int32))) - (1 : Int32))), .val (.int (((((p5.toUInt32 >>> ((10 : Int32) &&& 31).toUInt32).toInt32) &&& (255 : Int32)) - (((((p5.toUInt32 >>> ((10 : Int32) &&& 31).toUInt32).toInt32) &&& (255 : Int32)) / (3 : Int32)) * (3 : Int32))) - (1 : Int32))), .val (.int t1), .val (.int t2), .unset, .unset, .unset, .unset, .unset] [])) _
    refine XS.iload X0.here hx rfl (hb hby at_85) rfl ?_
    show Steps p.tables e below (s₁.setTop (mkF m 87 #[.val (.int p1), .val (.int p2), .val (.int p3), .val (.int p4), .val (.int p5), .val (.int (((((p5.toUInt32 >>> ((2 : Int32) &&& 31).toUInt32).toInt32) &&& (255 : Int32)) - (((((p5.toUInt32 >>> ((2 : Int32) &&& 31).toUInt32).toInt32) &&& (255 : Int32)) / (3 : Int32)) * (3 : Int32))) - (1 : Int32))), .val (.int (((((p5.toUInt32 >>> ((10 : Int32) &&& 31).toUInt32).toInt32) &&& (255 : Int32)) - (((((p5.toUInt32 >>> ((10 : Int32) &&& 31).toUInt32).toInt32) &&& (255 : Int32)) / (3 : Int32)) * (3 : Int32))) - (1 : Int32))), .val (.int t1), .val (.int t2), .unset, .unset, .unset, .unset, .unset] [(.int t1)])) _
    refine XS.iload X0.here hx rfl (hb hby at_87) rfl ?_
    show Steps p.tables e below (s₁.setTop (mkF m 89 #[.val (.int p1), .val (.int p2), .val (.int p3), .val (.int p4), .val (.int p5), .val (.int (((((p5.toUInt32 >>> ((2 : Int32) &&& 31).toUInt32).toInt32) &&& (255 : Int32)) - (((((p5.toUInt32 >>> ((2 : Int32) &&& 31).toUInt32).toInt32) &&& (255 : Int32)) / (3 : Int32)) * (3 : Int32))) - (1 : Int32))), .val (.int (((((p5.toUInt32 >>> ((10 : Int32) &&& 31).toUInt32).toInt32) &&& (255 : Int32)) - (((((p5.toUInt32 >>> ((10 : Int32) &&& 31).toUInt32).toInt32) &&& (255 : Int32)) / (3 : Int32)) * (3 : Int32))) - (1 : Int32))), .val (.int t1), .val (.int t2), .unset, .unset, .unset, .unset, .unset] [(.int t2), (.int t1)])) _
    refine st178 _ ?_
    show Steps p.tables e below (T178.setTop (mkF m 92 #[.val (.int p1), .val (.int p2), .val (.int p3), .val (.int p4), .val (.int p5), .val (.int (((((p5.toUInt32 >>> ((2 : Int32) &&& 31).toUInt32).toInt32) &&& (255 : Int32)) - (((((p5.toUInt32 >>> ((2 : Int32) &&& 31).toUInt32).toInt32) &&& (255 : Int32)) / (3 : Int32)) * (3 : Int32))) - (1 : Int32))), .val (.int (((((p5.toUInt32 >>> ((10 : Int32) &&& 31).toUInt32).toInt32) &&& (255 : Int32)) - (((((p5.toUInt32 >>> ((10 : Int32) &&& 31).toUInt32).toInt32) &&& (255 : Int32)) / (3 : Int32)) * (3 : Int32))) - (1 : Int32))), .val (.int t1), .val (.int t2), .unset, .unset, .unset, .unset, .unset] [(.int (own_rd (own_dbl t1) t2))])) _
    refine XS.istore X178.here hx rfl (hb hby at_92) rfl (l' := #[.val (.int p1), .val (.int p2), .val (.int p3), .val (.int p4), .val (.int p5), .val (.int (((((p5.toUInt32 >>> ((2 : Int32) &&& 31).toUInt32).toInt32) &&& (255 : Int32)) - (((((p5.toUInt32 >>> ((2 : Int32) &&& 31).toUInt32).toInt32) &&& (255 : Int32)) / (3 : Int32)) * (3 : Int32))) - (1 : Int32))), .val (.int (((((p5.toUInt32 >>> ((10 : Int32) &&& 31).toUInt32).toInt32) &&& (255 : Int32)) - (((((p5.toUInt32 >>> ((10 : Int32) &&& 31).toUInt32).toInt32) &&& (255 : Int32)) / (3 : Int32)) * (3 : Int32))) - (1 : Int32))), .val (.int t1), .val (.int t2), .val (.int (own_rd (own_dbl t1) t2)), .unset, .unset, .unset, .unset]) rfl ?_
    show Steps p.tables e below (T178.setTop (mkF m 94 #[.val (.int p1), .val (.int p2), .val (.int p3), .val (.int p4), .val (.int p5), .val (.int (((((p5.toUInt32 >>> ((2 : Int32) &&& 31).toUInt32).toInt32) &&& (255 : Int32)) - (((((p5.toUInt32 >>> ((2 : Int32) &&& 31).toUInt32).toInt32) &&& (255 : Int32)) / (3 : Int32)) * (3 : Int32))) - (1 : Int32))), .val (.int (((((p5.toUInt32 >>> ((10 : Int32) &&& 31).toUInt32).toInt32) &&& (255 : Int32)) - (((((p5.toUInt32 >>> ((10 : Int32) &&& 31).toUInt32).toInt32) &&& (255 : Int32)) / (3 : Int32)) * (3 : Int32))) - (1 : Int32))), .val (.int t1), .val (.int t2), .val (.int (own_rd (own_dbl t1) t2)), .unset, .unset, .unset, .unset] [])) _
    refine XS.iload X178.here hx rfl (hb hby at_94) rfl ?_
    show Steps p.tables e below (T178.setTop (mkF m 96 #[.val (.int p1), .val (.int p2), .val (.int p3), .val (.int p4), .val (.int p5), .val (.int (((((p5.toUInt32 >>> ((2 : Int32) &&& 31).toUInt32).toInt32) &&& (255 : Int32)) - (((((p5.toUInt32 >>> ((2 : Int32) &&& 31).toUInt32).toInt32) &&& (255 : Int32)) / (3 : Int32)) * (3 : Int32))) - (1 : Int32))), .val (.int (((((p5.toUInt32 >>> ((10 : Int32) &&& 31).toUInt32).toInt32) &&& (255 : Int32)) - (((((p5.toUInt32 >>> ((10 : Int32) &&& 31).toUInt32).toInt32) &&& (255 : Int32)) / (3 : Int32)) * (3 : Int32))) - (1 : Int32))), .val (.int t1), .val (.int t2), .val (.int (own_rd (own_dbl t1) t2)), .unset, .unset, .unset, .unset] [(.int t1)])) _
    refine st179 _ ?_
    show Steps p.tables e below (T179.setTop (mkF m 99 #[.val (.int p1), .val (.int p2), .val (.int p3), .val (.int p4), .val (.int p5), .val (.int (((((p5.toUInt32 >>> ((2 : Int32) &&& 31).toUInt32).toInt32) &&& (255 : Int32)) - (((((p5.toUInt32 >>> ((2 : Int32) &&& 31).toUInt32).toInt32) &&& (255 : Int32)) / (3 : Int32)) * (3 : Int32))) - (1 : Int32))), .val (.int (((((p5.toUInt32 >>> ((10 : Int32) &&& 31).toUInt32).toInt32) &&& (255 : Int32)) - (((((p5.toUInt32 >>> ((10 : Int32) &&& 31).toUInt32).toInt32) &&& (255 : Int32)) / (3 : Int32)) * (3 : Int32))) - (1 : Int32))), .val (.int t1), .val (.int t2), .val (.int (own_rd (own_dbl t1) t2)), .unset, .unset, .unset, .unset] [(.int (own_dbl t1))])) _
    refine XS.istore X179.here hx rfl (hb hby at_99) rfl (l' := #[.val (.int p1), .val (.int p2), .val (.int p3), .val (.int p4), .val (.int p5), .val (.int (((((p5.toUInt32 >>> ((2 : Int32) &&& 31).toUInt32).toInt32) &&& (255 : Int32)) - (((((p5.toUInt32 >>> ((2 : Int32) &&& 31).toUInt32).toInt32) &&& (255 : Int32)) / (3 : Int32)) * (3 : Int32))) - (1 : Int32))), .val (.int (((((p5.toUInt32 >>> ((10 : Int32) &&& 31).toUInt32).toInt32) &&& (255 : Int32)) - (((((p5.toUInt32 >>> ((10 : Int32) &&& 31).toUInt32).toInt32) &&& (255 : Int32)) / (3 : Int32)) * (3 : Int32))) - (1 : Int32))), .val (.int t1), .val (.int t2), .val (.int (own_rd (own_dbl t1) t2)), .val (.int (own_dbl t1)), .unset, .unset, .unset]) rfl ?_
    show Steps p.tables e below (T179.setTop (mkF m 101 #[.val (.int p1), .val (.int p2), .val (.int p3), .val (.int p4), .val (.int p5), .val (.int (((((p5.toUInt32 >>> ((2 : Int32) &&& 31).toUInt32).toInt32) &&& (255 : Int32)) - (((((p5.toUInt32 >>> ((2 : Int32) &&& 31).toUInt32).toInt32) &&& (255 : Int32)) / (3 : Int32)) * (3 : Int32))) - (1 : Int32))), .val (.int (((((p5.toUInt32 >>> ((10 : Int32) &&& 31).toUInt32).toInt32) &&& (255 : Int32)) - (((((p5.toUInt32 >>> ((10 : Int32) &&& 31).toUInt32).toInt32) &&& (255 : Int32)) / (3 : Int32)) * (3 : Int32))) - (1 : Int32))), .val (.int t1), .val (.int t2), .val (.int (own_rd (own_dbl t1) t2)), .val (.int (own_dbl t1)), .unset, .unset, .unset] [])) _
    refine X179.ldc2Long hx hown (mvT hZ (hw _ (List.mem_of_getElem? (i := 10) rfl))) (g := (mkF m 101 #[.val (.int p1), .val (.int p2), .val (.int p3), .val (.int p4), .val (.int p5), .val (.int (((((p5.toUInt32 >>> ((2 : Int32) &&& 31).toUInt32).toInt32) &&& (255 : Int32)) - (((((p5.toUInt32 >>> ((2 : Int32) &&& 31).toUInt32).toInt32) &&& (255 : Int32)) / (3 : Int32)) * (3 : Int32))) - (1 : Int32))), .val (.int (((((p5.toUInt32 >>> ((10 : Int32) &&& 31).toUInt32).toInt32) &&& (255 : Int32)) - (((((p5.toUInt32 >>> ((10 : Int32) &&& 31).toUInt32).toInt32) &&& (255 : Int32)) / (3 : Int32)) * (3 : Int32))) - (1 : Int32))), .val (.int t1), .val (.int t2), .val (.int (own_rd (own_dbl t1) t2)), .val (.int (own_dbl t1)), .unset, .unset, .unset] [])) rfl (hb hby at_101) _ ?_
    show Steps p.tables e below (T179.setTop (mkF m 104 #[.val (.int p1), .val (.int p2), .val (.int p3), .val (.int p4), .val (.int p5), .val (.int (((((p5.toUInt32 >>> ((2 : Int32) &&& 31).toUInt32).toInt32) &&& (255 : Int32)) - (((((p5.toUInt32 >>> ((2 : Int32) &&& 31).toUInt32).toInt32) &&& (255 : Int32)) / (3 : Int32)) * (3 : Int32))) - (1 : Int32))), .val (.int (((((p5.toUInt32 >>> ((10 : Int32) &&& 31).toUInt32).toInt32) &&& (255 : Int32)) - (((((p5.toUInt32 >>> ((10 : Int32) &&& 31).toUInt32).toInt32) &&& (255 : Int32)) / (3 : Int32)) * (3 : Int32))) - (1 : Int32))), .val (.int t1), .val (.int t2), .val (.int (own_rd (own_dbl t1) t2)), .val (.int (own_dbl t1)), .unset, .unset, .unset] [(.long (1024 : Int64))])) _
    refine XS.iload X179.here hx rfl (hb hby at_104) rfl ?_
    show Steps p.tables e below (T179.setTop (mkF m 106 #[.val (.int p1), .val (.int p2), .val (.int p3), .val (.int p4), .val (.int p5), .val (.int (((((p5.toUInt32 >>> ((2 : Int32) &&& 31).toUInt32).toInt32) &&& (255 : Int32)) - (((((p5.toUInt32 >>> ((2 : Int32) &&& 31).toUInt32).toInt32) &&& (255 : Int32)) / (3 : Int32)) * (3 : Int32))) - (1 : Int32))), .val (.int (((((p5.toUInt32 >>> ((10 : Int32) &&& 31).toUInt32).toInt32) &&& (255 : Int32)) - (((((p5.toUInt32 >>> ((10 : Int32) &&& 31).toUInt32).toInt32) &&& (255 : Int32)) / (3 : Int32)) * (3 : Int32))) - (1 : Int32))), .val (.int t1), .val (.int t2), .val (.int (own_rd (own_dbl t1) t2)), .val (.int (own_dbl t1)), .unset, .unset, .unset] [(.int (own_dbl t1)), (.long (1024 : Int64))])) _
    refine XS.lshl X179.here hx rfl (hb hby at_106) rfl ?_
    show Steps p.tables e below (T179.setTop (mkF m 107 #[.val (.int p1), .val (.int p2), .val (.int p3), .val (.int p4), .val (.int p5), .val (.int (((((p5.toUInt32 >>> ((2 : Int32) &&& 31).toUInt32).toInt32) &&& (255 : Int32)) - (((((p5.toUInt32 >>> ((2 : Int32) &&& 31).toUInt32).toInt32) &&& (255 : Int32)) / (3 : Int32)) * (3 : Int32))) - (1 : Int32))), .val (.int (((((p5.toUInt32 >>> ((10 : Int32) &&& 31).toUInt32).toInt32) &&& (255 : Int32)) - (((((p5.toUInt32 >>> ((10 : Int32) &&& 31).toUInt32).toInt32) &&& (255 : Int32)) / (3 : Int32)) * (3 : Int32))) - (1 : Int32))), .val (.int t1), .val (.int t2), .val (.int (own_rd (own_dbl t1) t2)), .val (.int (own_dbl t1)), .unset, .unset, .unset] [(.long ((1024 : Int64) <<< ((own_dbl t1) &&& 0x3f).toInt64))])) _
    refine XS.lstore X179.here hx rfl (hb hby at_107) rfl (l' := #[.val (.int p1), .val (.int p2), .val (.int p3), .val (.int p4), .val (.int p5), .val (.int (((((p5.toUInt32 >>> ((2 : Int32) &&& 31).toUInt32).toInt32) &&& (255 : Int32)) - (((((p5.toUInt32 >>> ((2 : Int32) &&& 31).toUInt32).toInt32) &&& (255 : Int32)) / (3 : Int32)) * (3 : Int32))) - (1 : Int32))), .val (.int (((((p5.toUInt32 >>> ((10 : Int32) &&& 31).toUInt32).toInt32) &&& (255 : Int32)) - (((((p5.toUInt32 >>> ((10 : Int32) &&& 31).toUInt32).toInt32) &&& (255 : Int32)) / (3 : Int32)) * (3 : Int32))) - (1 : Int32))), .val (.int t1), .val (.int t2), .val (.int (own_rd (own_dbl t1) t2)), .val (.int (own_dbl t1)), .val (.long ((1024 : Int64) <<< ((own_dbl t1) &&& 0x3f).toInt64)), .second, .unset]) rfl ?_
    show Steps p.tables e below (T179.setTop (mkF m 109 #[.val (.int p1), .val (.int p2), .val (.int p3), .val (.int p4), .val (.int p5), .val (.int (((((p5.toUInt32 >>> ((2 : Int32) &&& 31).toUInt32).toInt32) &&& (255 : Int32)) - (((((p5.toUInt32 >>> ((2 : Int32) &&& 31).toUInt32).toInt32) &&& (255 : Int32)) / (3 : Int32)) * (3 : Int32))) - (1 : Int32))), .val (.int (((((p5.toUInt32 >>> ((10 : Int32) &&& 31).toUInt32).toInt32) &&& (255 : Int32)) - (((((p5.toUInt32 >>> ((10 : Int32) &&& 31).toUInt32).toInt32) &&& (255 : Int32)) / (3 : Int32)) * (3 : Int32))) - (1 : Int32))), .val (.int t1), .val (.int t2), .val (.int (own_rd (own_dbl t1) t2)), .val (.int (own_dbl t1)), .val (.long ((1024 : Int64) <<< ((own_dbl t1) &&& 0x3f).toInt64)), .second, .unset] [])) _
    refine XS.iload X179.here hx rfl (hb hby at_109) rfl ?_
    show Steps p.tables e below (T179.setTop (mkF m 111 #[.val (.int p1), .val (.int p2), .val (.int p3), .val (.int p4), .val (.int p5), .val (.int (((((p5.toUInt32 >>> ((2 : Int32) &&& 31).toUInt32).toInt32) &&& (255 : Int32)) - (((((p5.toUInt32 >>> ((2 : Int32) &&& 31).toUInt32).toInt32) &&& (255 : Int32)) / (3 : Int32)) * (3 : Int32))) - (1 : Int32))), .val (.int (((((p5.toUInt32 >>> ((10 : Int32) &&& 31).toUInt32).toInt32) &&& (255 : Int32)) - (((((p5.toUInt32 >>> ((10 : Int32) &&& 31).toUInt32).toInt32) &&& (255 : Int32)) / (3 : Int32)) * (3 : Int32))) - (1 : Int32))), .val (.int t1), .val (.int t2), .val (.int (own_rd (own_dbl t1) t2)), .val (.int (own_dbl t1)), .val (.long ((1024 : Int64) <<< ((own_dbl t1) &&& 0x3f).toInt64)), .second, .unset] [(.int (own_dbl t1))])) _
    refine XS.iconst X179.here hx rfl (hb hby at_111) ?_
    show Steps p.tables e below (T179.setTop (mkF m 112 #[.val (.int p1), .val (.int p2), .val (.int p3), .val (.int p4), .val (.int p5), .val (.int (((((p5.toUInt32 >>> ((2 : Int32) &&& 31).toUInt32).toInt32) &&& (255 : Int32)) - (((((p5.toUInt32 >>> ((2 : Int32) &&& 31).toUInt32).toInt32) &&& (255 : Int32)) / (3 : Int32)) * (3 : Int32))) - (1 : Int32))), .val (.int (((((p5.toUInt32 >>> ((10 : Int32) &&& 31).toUInt32).toInt32) &&& (255 : Int32)) - (((((p5.toUInt32 >>> ((10 : Int32) &&& 31).toUInt32).toInt32) &&& (255 : Int32)) / (3 : Int32)) * (3 : Int32))) - (1 : Int32))), .val (.int t1), .val (.int t2), .val (.int (own_rd (own_dbl t1) t2)), .val (.int (own_dbl t1)), .val (.long ((1024 : Int64) <<< ((own_dbl t1) &&& 0x3f).toInt64)), .second, .unset] [(.int (2 : Int32)), (.int (own_dbl t1))])) _
    refine XS.imul X179.here hx rfl (hb hby at_112) rfl ?_
    show Steps p.tables e below (T179.setTop (mkF m 113 #[.val (.int p1), .val (.int p2), .val (.int p3), .val (.int p4), .val (.int p5), .val (.int (((((p5.toUInt32 >>> ((2 : Int32) &&& 31).toUInt32).toInt32) &&& (255 : Int32)) - (((((p5.toUInt32 >>> ((2 : Int32) &&& 31).toUInt32).toInt32) &&& (255 : Int32)) / (3 : Int32)) * (3 : Int32))) - (1 : Int32))), .val (.int (((((p5.toUInt32 >>> ((10 : Int32) &&& 31).toUInt32).toInt32) &&& (255 : Int32)) - (((((p5.toUInt32 >>> ((10 : Int32) &&& 31).toUInt32).toInt32) &&& (255 : Int32)) / (3 : Int32)) * (3 : Int32))) - (1 : Int32))), .val (.int t1), .val (.int t2), .val (.int (own_rd (own_dbl t1) t2)), .val (.int (own_dbl t1)), .val (.long ((1024 : Int64) <<< ((own_dbl t1) &&& 0x3f).toInt64)), .second, .unset] [(.int ((own_dbl t1) * (2 : Int32)))])) _
    refine XS.iload X179.here hx rfl (hb hby at_113) rfl ?_
    show Steps p.tables e below (T179.setTop (mkF m 115 #[.val (.int p1), .val (.int p2), .val (.int p3), .val (.int p4), .val (.int p5), .val (.int (((((p5.toUInt32 >>> ((2 : Int32) &&& 31).toUInt32).toInt32) &&& (255 : Int32)) - (((((p5.toUInt32 >>> ((2 : Int32) &&& 31).toUInt32).toInt32) &&& (255 : Int32)) / (3 : Int32)) * (3 : Int32))) - (1 : Int32))), .val (.int (((((p5.toUInt32 >>> ((10 : Int32) &&& 31).toUInt32).toInt32) &&& (255 : Int32)) - (((((p5.toUInt32 >>> ((10 : Int32) &&& 31).toUInt32).toInt32) &&& (255 : Int32)) / (3 : Int32)) * (3 : Int32))) - (1 : Int32))), .val (.int t1), .val (.int t2), .val (.int (own_rd (own_dbl t1) t2)), .val (.int (own_dbl t1)), .val (.long ((1024 : Int64) <<< ((own_dbl t1) &&& 0x3f).toInt64)), .second, .unset] [(.int t2), (.int ((own_dbl t1) * (2 : Int32)))])) _
    refine XS.i2l X179.here hx rfl (hb hby at_115) rfl ?_
    show Steps p.tables e below (T179.setTop (mkF m 116 #[.val (.int p1), .val (.int p2), .val (.int p3), .val (.int p4), .val (.int p5), .val (.int (((((p5.toUInt32 >>> ((2 : Int32) &&& 31).toUInt32).toInt32) &&& (255 : Int32)) - (((((p5.toUInt32 >>> ((2 : Int32) &&& 31).toUInt32).toInt32) &&& (255 : Int32)) / (3 : Int32)) * (3 : Int32))) - (1 : Int32))), .val (.int (((((p5.toUInt32 >>> ((10 : Int32) &&& 31).toUInt32).toInt32) &&& (255 : Int32)) - (((((p5.toUInt32 >>> ((10 : Int32) &&& 31).toUInt32).toInt32) &&& (255 : Int32)) / (3 : Int32)) * (3 : Int32))) - (1 : Int32))), .val (.int t1), .val (.int t2), .val (.int (own_rd (own_dbl t1) t2)), .val (.int (own_dbl t1)), .val (.long ((1024 : Int64) <<< ((own_dbl t1) &&& 0x3f).toInt64)), .second, .unset] [(.long (t2.toInt64)), (.int ((own_dbl t1) * (2 : Int32)))])) _
    refine XS.lload X179.here hx rfl (hb hby at_116) rfl ?_
    show Steps p.tables e below (T179.setTop (mkF m 118 #[.val (.int p1), .val (.int p2), .val (.int p3), .val (.int p4), .val (.int p5), .val (.int (((((p5.toUInt32 >>> ((2 : Int32) &&& 31).toUInt32).toInt32) &&& (255 : Int32)) - (((((p5.toUInt32 >>> ((2 : Int32) &&& 31).toUInt32).toInt32) &&& (255 : Int32)) / (3 : Int32)) * (3 : Int32))) - (1 : Int32))), .val (.int (((((p5.toUInt32 >>> ((10 : Int32) &&& 31).toUInt32).toInt32) &&& (255 : Int32)) - (((((p5.toUInt32 >>> ((10 : Int32) &&& 31).toUInt32).toInt32) &&& (255 : Int32)) / (3 : Int32)) * (3 : Int32))) - (1 : Int32))), .val (.int t1), .val (.int t2), .val (.int (own_rd (own_dbl t1) t2)), .val (.int (own_dbl t1)), .val (.long ((1024 : Int64) <<< ((own_dbl t1) &&& 0x3f).toInt64)), .second, .unset] [(.long ((1024 : Int64) <<< ((own_dbl t1) &&& 0x3f).toInt64)), (.long (t2.toInt64)), (.int ((own_dbl t1) * (2 : Int32)))])) _
    refine XS.lcmp X179.here hx rfl (hb hby at_118) rfl ?_
    exact kt
  obtain ⟨z1, h_z1, pre181⟩ : ∃ (z1 : Int32), (z1 = if own_lim (own_dbl t1) < t2.toInt64 then 1 else 0) ∧ ∀ t, Steps p.tables e below (T179.setTop (mkF m 127 #[.val (.int p1), .val (.int p2), .val (.int p3), .val (.int p4), .val (.int p5), .val (.int (((((p5.toUInt32 >>> ((2 : Int32) &&& 31).toUInt32).toInt32) &&& (255 : Int32)) - (((((p5.toUInt32 >>> ((2 : Int32) &&& 31).toUInt32).toInt32) &&& (255 : Int32)) / (3 : Int32)) * (3 : Int32))) - (1 : Int32))), .val (.int (((((p5.toUInt32 >>> ((10 : Int32) &&& 31).toUInt32).toInt32) &&& (255 : Int32)) - (((((p5.toUInt32 >>> ((10 : Int32) &&& 31).toUInt32).toInt32) &&& (255 : Int32)) / (3 : Int32)) * (3 : Int32))) - (1 : Int32))), .val (.int t1), .val (.int t2), .val (.int (own_rd (own_dbl t1) t2)), .val (.int (own_dbl t1)), .val (.long ((1024 : Int64) <<< ((own_dbl t1) &&& 0x3f).toInt64)), .second, .unset] [(.int z1), (.int ((own_dbl t1) * (2 : Int32)))])) t → Steps p.tables e below (s₁.setTop (entryFrame m #[(.int p1), (.int p2), (.int p3), (.int p4), (.int p5)] maxLocals)) t := by
    by_cases hc119 : ((1024 : Int64) <<< ((own_dbl t1) &&& 0x3f).toInt64) < (t2.toInt64)
    · have pre182 : ∀ t, Steps p.tables e below (T179.setTop (mkF m 127 #[.val (.int p1), .val (.int p2), .val (.int p3), .val (.int p4), .val (.int p5), .val (.int (((((p5.toUInt32 >>> ((2 : Int32) &&& 31).toUInt32).toInt32) &&& (255 : Int32)) - (((((p5.toUInt32 >>> ((2 : Int32) &&& 31).toUInt32).toInt32) &&& (255 : Int32)) / (3 : Int32)) * (3 : Int32))) - (1 : Int32))), .val (.int (((((p5.toUInt32 >>> ((10 : Int32) &&& 31).toUInt32).toInt32) &&& (255 : Int32)) - (((((p5.toUInt32 >>> ((10 : Int32) &&& 31).toUInt32).toInt32) &&& (255 : Int32)) / (3 : Int32)) * (3 : Int32))) - (1 : Int32))), .val (.int t1), .val (.int t2), .val (.int (own_rd (own_dbl t1) t2)), .val (.int (own_dbl t1)), .val (.long ((1024 : Int64) <<< ((own_dbl t1) &&& 0x3f).toInt64)), .second, .unset] [(.int (1 : Int32)), (.int ((own_dbl t1) * (2 : Int32)))])) t → Steps p.tables e below (s₁.setTop (entryFrame m #[(.int p1), (.int p2), (.int p3), (.int p4), (.int p5)] maxLocals)) t := by
        intro t kt
        refine pre180 t ?_
        show Steps p.tables e below (T179.setTop (mkF m 119 #[.val (.int p1), .val (.int p2), .val (.int p3), .val (.int p4), .val (.int p5), .val (.int (((((p5.toUInt32 >>> ((2 : Int32) &&& 31).toUInt32).toInt32) &&& (255 : Int32)) - (((((p5.toUInt32 >>> ((2 : Int32) &&& 31).toUInt32).toInt32) &&& (255 : Int32)) / (3 : Int32)) * (3 : Int32))) - (1 : Int32))), .val (.int (((((p5.toUInt32 >>> ((10 : Int32) &&& 31).toUInt32).toInt32) &&& (255 : Int32)) - (((((p5.toUInt32 >>> ((10 : Int32) &&& 31).toUInt32).toInt32) &&& (255 : Int32)) / (3 : Int32)) * (3 : Int32))) - (1 : Int32))), .val (.int t1), .val (.int t2), .val (.int (own_rd (own_dbl t1) t2)), .val (.int (own_dbl t1)), .val (.long ((1024 : Int64) <<< ((own_dbl t1) &&& 0x3f).toInt64)), .second, .unset] [(.int (lcmpW (t2.toInt64) ((1024 : Int64) <<< ((own_dbl t1) &&& 0x3f).toInt64))), (.int ((own_dbl t1) * (2 : Int32)))])) _
        refine XS.ifNo X179.here hx rfl (hb hby at_119) rfl ((if0 _ _).trans (tlt ((lw_gt _ _).mpr hc119)).2.2.2) ?_
        show Steps p.tables e below (T179.setTop (mkF m 122 #[.val (.int p1), .val (.int p2), .val (.int p3), .val (.int p4), .val (.int p5), .val (.int (((((p5.toUInt32 >>> ((2 : Int32) &&& 31).toUInt32).toInt32) &&& (255 : Int32)) - (((((p5.toUInt32 >>> ((2 : Int32) &&& 31).toUInt32).toInt32) &&& (255 : Int32)) / (3 : Int32)) * (3 : Int32))) - (1 : Int32))), .val (.int (((((p5.toUInt32 >>> ((10 : Int32) &&& 31).toUInt32).toInt32) &&& (255 : Int32)) - (((((p5.toUInt32 >>> ((10 : Int32) &&& 31).toUInt32).toInt32) &&& (255 : Int32)) / (3 : Int32)) * (3 : Int32))) - (1 : Int32))), .val (.int t1), .val (.int t2), .val (.int (own_rd (own_dbl t1) t2)), .val (.int (own_dbl t1)), .val (.long ((1024 : Int64) <<< ((own_dbl t1) &&& 0x3f).toInt64)), .second, .unset] [(.int ((own_dbl t1) * (2 : Int32)))])) _
        refine XS.iconst X179.here hx rfl (hb hby at_122) ?_
        show Steps p.tables e below (T179.setTop (mkF m 123 #[.val (.int p1), .val (.int p2), .val (.int p3), .val (.int p4), .val (.int p5), .val (.int (((((p5.toUInt32 >>> ((2 : Int32) &&& 31).toUInt32).toInt32) &&& (255 : Int32)) - (((((p5.toUInt32 >>> ((2 : Int32) &&& 31).toUInt32).toInt32) &&& (255 : Int32)) / (3 : Int32)) * (3 : Int32))) - (1 : Int32))), .val (.int (((((p5.toUInt32 >>> ((10 : Int32) &&& 31).toUInt32).toInt32) &&& (255 : Int32)) - (((((p5.toUInt32 >>> ((10 : Int32) &&& 31).toUInt32).toInt32) &&& (255 : Int32)) / (3 : Int32)) * (3 : Int32))) - (1 : Int32))), .val (.int t1), .val (.int t2), .val (.int (own_rd (own_dbl t1) t2)), .val (.int (own_dbl t1)), .val (.long ((1024 : Int64) <<< ((own_dbl t1) &&& 0x3f).toInt64)), .second, .unset] [(.int (1 : Int32)), (.int ((own_dbl t1) * (2 : Int32)))])) _
        refine XS.goto X179.here hx rfl (pc0 := 123) (pc' := 127) rfl (hb hby at_123) (by decide) (by decide) ?_
        exact kt
      refine ⟨(1 : Int32), ?_, pre182⟩
      rw [own_lim, if_pos hc119]
    · have pre183 : ∀ t, Steps p.tables e below (T179.setTop (mkF m 127 #[.val (.int p1), .val (.int p2), .val (.int p3), .val (.int p4), .val (.int p5), .val (.int (((((p5.toUInt32 >>> ((2 : Int32) &&& 31).toUInt32).toInt32) &&& (255 : Int32)) - (((((p5.toUInt32 >>> ((2 : Int32) &&& 31).toUInt32).toInt32) &&& (255 : Int32)) / (3 : Int32)) * (3 : Int32))) - (1 : Int32))), .val (.int (((((p5.toUInt32 >>> ((10 : Int32) &&& 31).toUInt32).toInt32) &&& (255 : Int32)) - (((((p5.toUInt32 >>> ((10 : Int32) &&& 31).toUInt32).toInt32) &&& (255 : Int32)) / (3 : Int32)) * (3 : Int32))) - (1 : Int32))), .val (.int t1), .val (.int t2), .val (.int (own_rd (own_dbl t1) t2)), .val (.int (own_dbl t1)), .val (.long ((1024 : Int64) <<< ((own_dbl t1) &&& 0x3f).toInt64)), .second, .unset] [(.int (0 : Int32)), (.int ((own_dbl t1) * (2 : Int32)))])) t → Steps p.tables e below (s₁.setTop (entryFrame m #[(.int p1), (.int p2), (.int p3), (.int p4), (.int p5)] maxLocals)) t := by
        intro t kt
        refine pre180 t ?_
        show Steps p.tables e below (T179.setTop (mkF m 119 #[.val (.int p1), .val (.int p2), .val (.int p3), .val (.int p4), .val (.int p5), .val (.int (((((p5.toUInt32 >>> ((2 : Int32) &&& 31).toUInt32).toInt32) &&& (255 : Int32)) - (((((p5.toUInt32 >>> ((2 : Int32) &&& 31).toUInt32).toInt32) &&& (255 : Int32)) / (3 : Int32)) * (3 : Int32))) - (1 : Int32))), .val (.int (((((p5.toUInt32 >>> ((10 : Int32) &&& 31).toUInt32).toInt32) &&& (255 : Int32)) - (((((p5.toUInt32 >>> ((10 : Int32) &&& 31).toUInt32).toInt32) &&& (255 : Int32)) / (3 : Int32)) * (3 : Int32))) - (1 : Int32))), .val (.int t1), .val (.int t2), .val (.int (own_rd (own_dbl t1) t2)), .val (.int (own_dbl t1)), .val (.long ((1024 : Int64) <<< ((own_dbl t1) &&& 0x3f).toInt64)), .second, .unset] [(.int (lcmpW (t2.toInt64) ((1024 : Int64) <<< ((own_dbl t1) &&& 0x3f).toInt64))), (.int ((own_dbl t1) * (2 : Int32)))])) _
        refine XS.ifYes X179.here hx rfl (pc0 := 119) (pc' := 126) rfl (hb hby at_119) rfl ((if0 _ _).trans (flt (fun qz => hc119 ((lw_gt _ _).mp qz))).2.2.2) (by decide) (by decide) ?_
        show Steps p.tables e below (T179.setTop (mkF m 126 #[.val (.int p1), .val (.int p2), .val (.int p3), .val (.int p4), .val (.int p5), .val (.int (((((p5.toUInt32 >>> ((2 : Int32) &&& 31).toUInt32).toInt32) &&& (255 : Int32)) - (((((p5.toUInt32 >>> ((2 : Int32) &&& 31).toUInt32).toInt32) &&& (255 : Int32)) / (3 : Int32)) * (3 : Int32))) - (1 : Int32))), .val (.int (((((p5.toUInt32 >>> ((10 : Int32) &&& 31).toUInt32).toInt32) &&& (255 : Int32)) - (((((p5.toUInt32 >>> ((10 : Int32) &&& 31).toUInt32).toInt32) &&& (255 : Int32)) / (3 : Int32)) * (3 : Int32))) - (1 : Int32))), .val (.int t1), .val (.int t2), .val (.int (own_rd (own_dbl t1) t2)), .val (.int (own_dbl t1)), .val (.long ((1024 : Int64) <<< ((own_dbl t1) &&& 0x3f).toInt64)), .second, .unset] [(.int ((own_dbl t1) * (2 : Int32)))])) _
        refine XS.iconst X179.here hx rfl (hb hby at_126) ?_
        exact kt
      refine ⟨(0 : Int32), ?_, pre183⟩
      rw [own_lim, if_neg hc119]
  have pre184 : ∀ t, Steps p.tables e below (T179.setTop (mkF m 142 #[.val (.int p1), .val (.int p2), .val (.int p3), .val (.int p4), .val (.int p5), .val (.int (((((p5.toUInt32 >>> ((2 : Int32) &&& 31).toUInt32).toInt32) &&& (255 : Int32)) - (((((p5.toUInt32 >>> ((2 : Int32) &&& 31).toUInt32).toInt32) &&& (255 : Int32)) / (3 : Int32)) * (3 : Int32))) - (1 : Int32))), .val (.int (((((p5.toUInt32 >>> ((10 : Int32) &&& 31).toUInt32).toInt32) &&& (255 : Int32)) - (((((p5.toUInt32 >>> ((10 : Int32) &&& 31).toUInt32).toInt32) &&& (255 : Int32)) / (3 : Int32)) * (3 : Int32))) - (1 : Int32))), .val (.int t1), .val (.int t2), .val (.int (own_rd (own_dbl t1) t2)), .val (.int (own_dbl t1)), .val (.long ((1024 : Int64) <<< ((own_dbl t1) &&& 0x3f).toInt64)), .second, .val (.int (((own_dbl t1) * (2 : Int32)) + z1))] [(.int (1 : Int32))])) t → Steps p.tables e below (s₁.setTop (entryFrame m #[(.int p1), (.int p2), (.int p3), (.int p4), (.int p5)] maxLocals)) t := by
    intro t kt
    refine pre181 t ?_
    show Steps p.tables e below (T179.setTop (mkF m 127 #[.val (.int p1), .val (.int p2), .val (.int p3), .val (.int p4), .val (.int p5), .val (.int (((((p5.toUInt32 >>> ((2 : Int32) &&& 31).toUInt32).toInt32) &&& (255 : Int32)) - (((((p5.toUInt32 >>> ((2 : Int32) &&& 31).toUInt32).toInt32) &&& (255 : Int32)) / (3 : Int32)) * (3 : Int32))) - (1 : Int32))), .val (.int (((((p5.toUInt32 >>> ((10 : Int32) &&& 31).toUInt32).toInt32) &&& (255 : Int32)) - (((((p5.toUInt32 >>> ((10 : Int32) &&& 31).toUInt32).toInt32) &&& (255 : Int32)) / (3 : Int32)) * (3 : Int32))) - (1 : Int32))), .val (.int t1), .val (.int t2), .val (.int (own_rd (own_dbl t1) t2)), .val (.int (own_dbl t1)), .val (.long ((1024 : Int64) <<< ((own_dbl t1) &&& 0x3f).toInt64)), .second, .unset] [(.int z1), (.int ((own_dbl t1) * (2 : Int32)))])) _
    refine XS.iadd X179.here hx rfl (hb hby at_127) rfl ?_
    show Steps p.tables e below (T179.setTop (mkF m 128 #[.val (.int p1), .val (.int p2), .val (.int p3), .val (.int p4), .val (.int p5), .val (.int (((((p5.toUInt32 >>> ((2 : Int32) &&& 31).toUInt32).toInt32) &&& (255 : Int32)) - (((((p5.toUInt32 >>> ((2 : Int32) &&& 31).toUInt32).toInt32) &&& (255 : Int32)) / (3 : Int32)) * (3 : Int32))) - (1 : Int32))), .val (.int (((((p5.toUInt32 >>> ((10 : Int32) &&& 31).toUInt32).toInt32) &&& (255 : Int32)) - (((((p5.toUInt32 >>> ((10 : Int32) &&& 31).toUInt32).toInt32) &&& (255 : Int32)) / (3 : Int32)) * (3 : Int32))) - (1 : Int32))), .val (.int t1), .val (.int t2), .val (.int (own_rd (own_dbl t1) t2)), .val (.int (own_dbl t1)), .val (.long ((1024 : Int64) <<< ((own_dbl t1) &&& 0x3f).toInt64)), .second, .unset] [(.int (((own_dbl t1) * (2 : Int32)) + z1))])) _
    refine XS.istore X179.here hx rfl (hb hby at_128) rfl (l' := #[.val (.int p1), .val (.int p2), .val (.int p3), .val (.int p4), .val (.int p5), .val (.int (((((p5.toUInt32 >>> ((2 : Int32) &&& 31).toUInt32).toInt32) &&& (255 : Int32)) - (((((p5.toUInt32 >>> ((2 : Int32) &&& 31).toUInt32).toInt32) &&& (255 : Int32)) / (3 : Int32)) * (3 : Int32))) - (1 : Int32))), .val (.int (((((p5.toUInt32 >>> ((10 : Int32) &&& 31).toUInt32).toInt32) &&& (255 : Int32)) - (((((p5.toUInt32 >>> ((10 : Int32) &&& 31).toUInt32).toInt32) &&& (255 : Int32)) / (3 : Int32)) * (3 : Int32))) - (1 : Int32))), .val (.int t1), .val (.int t2), .val (.int (own_rd (own_dbl t1) t2)), .val (.int (own_dbl t1)), .val (.long ((1024 : Int64) <<< ((own_dbl t1) &&& 0x3f).toInt64)), .second, .val (.int (((own_dbl t1) * (2 : Int32)) + z1))]) rfl ?_
    show Steps p.tables e below (T179.setTop (mkF m 130 #[.val (.int p1), .val (.int p2), .val (.int p3), .val (.int p4), .val (.int p5), .val (.int (((((p5.toUInt32 >>> ((2 : Int32) &&& 31).toUInt32).toInt32) &&& (255 : Int32)) - (((((p5.toUInt32 >>> ((2 : Int32) &&& 31).toUInt32).toInt32) &&& (255 : Int32)) / (3 : Int32)) * (3 : Int32))) - (1 : Int32))), .val (.int (((((p5.toUInt32 >>> ((10 : Int32) &&& 31).toUInt32).toInt32) &&& (255 : Int32)) - (((((p5.toUInt32 >>> ((10 : Int32) &&& 31).toUInt32).toInt32) &&& (255 : Int32)) / (3 : Int32)) * (3 : Int32))) - (1 : Int32))), .val (.int t1), .val (.int t2), .val (.int (own_rd (own_dbl t1) t2)), .val (.int (own_dbl t1)), .val (.long ((1024 : Int64) <<< ((own_dbl t1) &&& 0x3f).toInt64)), .second, .val (.int (((own_dbl t1) * (2 : Int32)) + z1))] [])) _
    refine XS.iload X179.here hx rfl (hb hby at_130) rfl ?_
    show Steps p.tables e below (T179.setTop (mkF m 132 #[.val (.int p1), .val (.int p2), .val (.int p3), .val (.int p4), .val (.int p5), .val (.int (((((p5.toUInt32 >>> ((2 : Int32) &&& 31).toUInt32).toInt32) &&& (255 : Int32)) - (((((p5.toUInt32 >>> ((2 : Int32) &&& 31).toUInt32).toInt32) &&& (255 : Int32)) / (3 : Int32)) * (3 : Int32))) - (1 : Int32))), .val (.int (((((p5.toUInt32 >>> ((10 : Int32) &&& 31).toUInt32).toInt32) &&& (255 : Int32)) - (((((p5.toUInt32 >>> ((10 : Int32) &&& 31).toUInt32).toInt32) &&& (255 : Int32)) / (3 : Int32)) * (3 : Int32))) - (1 : Int32))), .val (.int t1), .val (.int t2), .val (.int (own_rd (own_dbl t1) t2)), .val (.int (own_dbl t1)), .val (.long ((1024 : Int64) <<< ((own_dbl t1) &&& 0x3f).toInt64)), .second, .val (.int (((own_dbl t1) * (2 : Int32)) + z1))] [(.int (own_rd (own_dbl t1) t2))])) _
    refine XS.iload X179.here hx rfl (hb hby at_132) rfl ?_
    show Steps p.tables e below (T179.setTop (mkF m 134 #[.val (.int p1), .val (.int p2), .val (.int p3), .val (.int p4), .val (.int p5), .val (.int (((((p5.toUInt32 >>> ((2 : Int32) &&& 31).toUInt32).toInt32) &&& (255 : Int32)) - (((((p5.toUInt32 >>> ((2 : Int32) &&& 31).toUInt32).toInt32) &&& (255 : Int32)) / (3 : Int32)) * (3 : Int32))) - (1 : Int32))), .val (.int (((((p5.toUInt32 >>> ((10 : Int32) &&& 31).toUInt32).toInt32) &&& (255 : Int32)) - (((((p5.toUInt32 >>> ((10 : Int32) &&& 31).toUInt32).toInt32) &&& (255 : Int32)) / (3 : Int32)) * (3 : Int32))) - (1 : Int32))), .val (.int t1), .val (.int t2), .val (.int (own_rd (own_dbl t1) t2)), .val (.int (own_dbl t1)), .val (.long ((1024 : Int64) <<< ((own_dbl t1) &&& 0x3f).toInt64)), .second, .val (.int (((own_dbl t1) * (2 : Int32)) + z1))] [(.int (((own_dbl t1) * (2 : Int32)) + z1)), (.int (own_rd (own_dbl t1) t2))])) _
    refine XS.icmpNo X179.here hx rfl (hb hby at_134) rfl (teq (own_eq _ _ _ h_z1)).2 ?_
    show Steps p.tables e below (T179.setTop (mkF m 137 #[.val (.int p1), .val (.int p2), .val (.int p3), .val (.int p4), .val (.int p5), .val (.int (((((p5.toUInt32 >>> ((2 : Int32) &&& 31).toUInt32).toInt32) &&& (255 : Int32)) - (((((p5.toUInt32 >>> ((2 : Int32) &&& 31).toUInt32).toInt32) &&& (255 : Int32)) / (3 : Int32)) * (3 : Int32))) - (1 : Int32))), .val (.int (((((p5.toUInt32 >>> ((10 : Int32) &&& 31).toUInt32).toInt32) &&& (255 : Int32)) - (((((p5.toUInt32 >>> ((10 : Int32) &&& 31).toUInt32).toInt32) &&& (255 : Int32)) / (3 : Int32)) * (3 : Int32))) - (1 : Int32))), .val (.int t1), .val (.int t2), .val (.int (own_rd (own_dbl t1) t2)), .val (.int (own_dbl t1)), .val (.long ((1024 : Int64) <<< ((own_dbl t1) &&& 0x3f).toInt64)), .second, .val (.int (((own_dbl t1) * (2 : Int32)) + z1))] [])) _
    refine XS.iconst X179.here hx rfl (hb hby at_137) ?_
    show Steps p.tables e below (T179.setTop (mkF m 138 #[.val (.int p1), .val (.int p2), .val (.int p3), .val (.int p4), .val (.int p5), .val (.int (((((p5.toUInt32 >>> ((2 : Int32) &&& 31).toUInt32).toInt32) &&& (255 : Int32)) - (((((p5.toUInt32 >>> ((2 : Int32) &&& 31).toUInt32).toInt32) &&& (255 : Int32)) / (3 : Int32)) * (3 : Int32))) - (1 : Int32))), .val (.int (((((p5.toUInt32 >>> ((10 : Int32) &&& 31).toUInt32).toInt32) &&& (255 : Int32)) - (((((p5.toUInt32 >>> ((10 : Int32) &&& 31).toUInt32).toInt32) &&& (255 : Int32)) / (3 : Int32)) * (3 : Int32))) - (1 : Int32))), .val (.int t1), .val (.int t2), .val (.int (own_rd (own_dbl t1) t2)), .val (.int (own_dbl t1)), .val (.long ((1024 : Int64) <<< ((own_dbl t1) &&& 0x3f).toInt64)), .second, .val (.int (((own_dbl t1) * (2 : Int32)) + z1))] [(.int (1 : Int32))])) _
    refine XS.goto X179.here hx rfl (pc0 := 138) (pc' := 142) rfl (hb hby at_138) (by decide) (by decide) ?_
    exact kt
  obtain ⟨fsx, hr, hrun, hended, hW, hsame⟩ := X179.leave (v := some (.int (nar .boolean (1 : Int32)))) (fun h => by rw [Bd.returns] at h; cases h)
  refine ⟨_, _, pre184 _ ?_, hrun, hended, _, _, rfl, ?_, ⟨_, rfl⟩, hW, hsame.mono (by decide) (by decide)⟩
  · exact retN X179 hx (t := .boolean) Bd.returns (by simp) (hb hby at_142) hr
  · show Q0 Z p1 p2 p3 p4 p5 h0 n0 _ T179.heap _
    rw [eq179]
    exact ⟨rfl, Nf179⟩
set_option maxRecDepth 65536 in
set_option maxHeartbeats 40000000 in
theorem comes_1 {Post : Tables → Env → Array Value → State → Outcome → State → Prop} (hpost : ∀ tb e args s v u, (limb_1_1.after args s (.returned v) u = true ∧ limb_1_2.after args s (.returned v) u = true ∧ True) → FrameEnd s (.returned v) u (Jvm.fieldLocs frame_1_writes args s ++ Jvm.arrayLocs frame_1_arrays args s ++ Jvm.staticLocs frame_1_statics s) 0 0 → Post tb e args s (.returned v) u) :
    ArmFor flags0 classFile x code maxLocals ret World_1 tables_1 room_1 Calls_1 rest_1 Pre_1 Post := by
  intro l hfl _ _ p e ha hc hk s m args below hf hA hF happ hP
  obtain ⟨hcalls, hrest, hpre⟩ := hP
  obtain ⟨-, -, -, hnamed, -, -, -, hat⟩ := (Spec.applies_iff hf).mp happ
  obtain ⟨hg, hn⟩ := and_e (Cond.before_iff.mp (show (Jvm.Cond.and given_1 narrow_1).before args s = true from hpre))
  obtain ⟨gc, gr0⟩ := and_e hg
  obtain ⟨ga0, gr1⟩ := and_e gr0
  obtain ⟨ga1, gr2⟩ := and_e gr1
  obtain ⟨ga2, gr3⟩ := and_e gr2
  obtain ⟨ga3, gr4⟩ := and_e gr3
  obtain ⟨w0, w1, w2, w3, w4, rfl⟩ : ∃ w0 w1 w2 w3 w4 : Value, args = #[w0, w1, w2, w3, w4] := by
    have hs : args.size = 5 := by simpa [Cond.value, given_1] using gc
    obtain ⟨L⟩ := args
    match L, hs with
    | [w0, w1, w2, w3, w4], _ => exact ⟨w0, w1, w2, w3, w4, rfl⟩
  have hw := fun d (hd : d ∈ tables_1) => atoms_spec (ws := Jvm.Cond.code x code maxLocals ret :: tables_1) hat d (List.mem_cons_of_mem _ hd)
  have hfit : Fit s := fun {y c} hc i hi => by
    obtain ⟨ha, rfl⟩ := Array.getElem?_eq_some_iff.mp hc
    have q := List.all_eq_true.mp ((Array.all_eq_true_iff_forall_mem.mp hF) _ (Array.getElem_mem ha)) i (List.mem_range.mpr hi)
    simpa [Array.getElem?_eq_getElem hi] using q
  obtain ⟨i0, ei0⟩ := is_v ga0
  obtain rfl : w0 = (.int i0) := Option.some.inj ei0
  obtain ⟨i1, ei1⟩ := is_v ga1
  obtain rfl : w1 = (.int i1) := Option.some.inj ei1
  obtain ⟨i2, ei2⟩ := is_v ga2
  obtain rfl : w2 = (.int i2) := Option.some.inj ei2
  obtain ⟨i3, ei3⟩ := is_v ga3
  obtain rfl : w3 = (.int i3) := Option.some.inj ei3
  obtain ⟨i4, ei4⟩ := is_v gr4
  obtain rfl : w4 = (.int i4) := Option.some.inj ei4
  obtain ⟨n, o, h1, h2, h3, _, L, rfl, ⟨rfl, N⟩, hq⟩ := rm0 l s _ hw tables_1 i0 i1 i2 i3 i4 s.heap s.heap.size (Nat.le_refl _)  p e ha hc hk s m _ below hf ((Spec.applies_iff_loose hf).mp happ).1 ⟨rfl, State.Warmed39.refl s, rfl⟩ trivial
  refine ⟨n, _, h1, h2, h3, hpost _ _ _ _ _ _ ⟨Cond.after_iff.mpr rfl, Cond.after_iff.mpr (eq_i res_at (Term.int_eval (1)) rfl), trivial⟩ ⟨hq.1, hq.2.1, (hq.2.2.sift fun y hy => Or.inr (N y hy)).mono (by decide) (by decide)⟩⟩
theorem main_1_1 : Claimed_1_1 := comes_1 fun _ _ _ _ _ _ h hF => ⟨h.1, hF⟩
theorem main_1_2 : Claimed_1_2 := comes_1 fun _ _ _ _ _ _ h hF => ⟨h.2.1, hF⟩
end Jvm.Pilot.@@N@@
namespace Jvm.Pilot.@@N@@
open Jvm Jvm.ClassFile Sem Op Lib Jvm.Free Jvm.Stand Jvm.Pilot.@@N@@.Jvm.D
/-! MADE BY PROGRAM (witnessworld.py) out of the Statement's table words and the real class files: 9 classes; the members and pool entries that the words name. The judged class is class 1, her method 1. -/
namespace start1
open Jvm.ClassFile
def u (s : String) : CpInfo := .utf8 (stringToUtf16 s)
/-- a pool by its gaps: so many unusable entries, then the entry; so many at the end -/
def gap : Nat → List CpInfo → List CpInfo
  | 0, r => r
  | n + 1, r => .unusable :: gap n r
def poolList (es : List (Nat × CpInfo)) (last : Nat) : List CpInfo := es.foldr (fun e r => gap e.1 (e.2 :: r)) (gap last [])
def pool (es : List (Nat × CpInfo)) (last : Nat) : Array CpInfo := ⟨poolList es last⟩
def fileOf (pool : Array CpInfo) (this : Nat) (attrs : Array Attribute := #[]) (ms : Array MethodInfo := #[]) (fl : Nat := 33) (sup : Nat := 0) (ifs : Array Nat := #[]) (fds : Array FieldInfo := #[]) : ClassFile where
  minorVersion := 0
  majorVersion := 65
  constantPool := pool
  accessFlags := fl
  thisClass := this
  superClass := sup
  interfaces := ifs
  fields := fds
  methods := ms
  attributes := attrs
def plain (name : String) (sup : Option ClassId) : Class where
  name := name
  kind := .ordinary
  loader := none
  accessFlags := 33
  super := sup
  interfaces := #[]
  cf := none
  fields := #[]
  methods := #[]
  instanceTypes := #[]
  staticTypes := #[]
  resolved := #[]
  callSites := []
  init := .initialized
  statics := none
  mirror := none

def pool0 : Array CpInfo := pool [(5, u "<init>"), (0, u "()V"), (1, .class_ 10), (1, u "java/lang/Object")] 113

def k0m0 : Method := { name := "<init>", desc := "()V", sig := { parameters := [], returnType := none }, accessFlags := 1, code := none }
/-- java/lang/Object -/
def k0 : Class := { plain "java/lang/Object" none with
  accessFlags := 33
  interfaces := #[]
  cf := some (fileOf pool0 8 #[] #[{ accessFlags := 1, nameIndex := 5, descriptorIndex := 6, attributes := #[] }] 33 0 #[] #[])
  fields := #[]
  methods := #[k0m0]
  instanceTypes := #[]
  staticTypes := #[]
  resolved := Array.replicate 124 none
  statics := none }

def pool1 : Array CpInfo := pool [(2, .class_ 4), (1, u "java/lang/Object"), (0, u "<init>"), (0, u "()V"), (0, .integer 2147483647), (0, .methodref 9 10), (0, .class_ 11), (0, .nameAndType 12 13), (0, u "com/example/seshat/seshat/reader/ArchiveNames"), (0, u "reading"), (0, u "(II)I"), (0, .methodref 15 16), (0, .class_ 17), (0, .nameAndType 18 19), (0, u "com/example/seshat/seshat/reader/ArchiveNamesReadingPinLaw"), (0, u "doublings"), (0, u "(I)I"), (0, .long 1024), (1, .integer 32768), (0, .integer 65536), (0, .integer 131072), (0, .integer 262144), (0, .integer 524288), (0, .integer 1048576), (0, .integer 2097152), (0, .integer 4194304), (0, .integer 8388608), (0, .integer 16777216), (2, u "law"), (0, u "(IIIII)Z")] 3

def k1m0 : Method := { name := "<init>", desc := "()V", sig := { parameters := [], returnType := none }, accessFlags := 1, code := none }
def k1c1 : Code := { maxStack := 5, maxLocals := 14, code := code, exceptionTable := #[], attributes := #[] }
def k1m1 : Method := { name := "law", desc := "(IIIII)Z", sig := { parameters := [.int, .int, .int, .int, .int], returnType := some .boolean }, accessFlags := 9, code := some k1c1 }
def k1c2 : Code := { maxStack := 2, maxLocals := 1, code := method_3_code, exceptionTable := #[], attributes := #[] }
def k1m2 : Method := { name := "doublings", desc := "(I)I", sig := { parameters := [.int], returnType := some .int }, accessFlags := 10, code := some k1c2 }
/-- com/example/seshat/seshat/reader/ArchiveNamesReadingPinLaw -/
def k1 : Class := { plain "com/example/seshat/seshat/reader/ArchiveNamesReadingPinLaw" (some 0) with
  accessFlags := 49
  interfaces := #[]
  cf := some (fileOf pool1 15 #[] #[{ accessFlags := 1, nameIndex := 5, descriptorIndex := 6, attributes := #[] }, { accessFlags := 9, nameIndex := 34, descriptorIndex := 35, attributes := #[] }, { accessFlags := 10, nameIndex := 18, descriptorIndex := 19, attributes := #[] }] 49 2 #[] #[])
  fields := #[]
  methods := #[k1m0, k1m1, k1m2]
  instanceTypes := #[]
  staticTypes := #[]
  resolved := Array.replicate 39 none
  statics := none }

def pool2 : Array CpInfo := pool [(4, .class_ 6), (1, u "java/lang/Object"), (5, .class_ 14), (1, u "com/example/seshat/seshat/reader/ArchiveNames"), (0, u "m_root"), (0, u "Ljava/lang/String;"), (9, u "m_paths"), (0, u "Lcom/example/seshat/seshat/reader/PathCache;"), (4, u "m_readKey"), (0, u "J"), (2, u "NOTHING_KEPT"), (0, u "Lcom/example/seshat/seshat/reader/PathCache$Kept;"), (2, u "m_readPath"), (1, .class_ 44), (1, u "com/example/seshat/seshat/reader/ArchiveNames$Names"), (4, u "m_read"), (0, u "Lcom/example/seshat/seshat/reader/ArchiveNames$Names;"), (2, u "m_archive"), (0, u "Lcom/example/seshat/seshat/reader/Archive;"), (2, u "m_index"), (0, u "Lcom/example/seshat/seshat/reader/ArchiveIndex;"), (2, u "m_seed"), (85, .long 1024), (3, u "reading"), (106, u "UNSETTLED"), (0, u "I"), (2, u "MOST_DOUBLINGS"), (18, u "(II)I")] 42

def k2c0 : Code := { maxStack := 5, maxLocals := 4, code := prog_10_method_18_code, exceptionTable := #[], attributes := #[] }
def k2m0 : Method := { name := "reading", desc := "(II)I", sig := { parameters := [.int, .int], returnType := some .int }, accessFlags := 8, code := some k2c0 }
/-- com/example/seshat/seshat/reader/ArchiveNames -/
def k2 : Class := { plain "com/example/seshat/seshat/reader/ArchiveNames" (some 0) with
  accessFlags := 48
  interfaces := #[]
  cf := some (fileOf pool2 12 #[.nestMembers #[42]] #[{ accessFlags := 8, nameIndex := 151, descriptorIndex := 281, attributes := #[] }] 48 4 #[] #[{ accessFlags := 26, nameIndex := 36, descriptorIndex := 37, attributes := #[] }, { accessFlags := 26, nameIndex := 258, descriptorIndex := 259, attributes := #[] }, { accessFlags := 26, nameIndex := 262, descriptorIndex := 259, attributes := #[] }, { accessFlags := 18, nameIndex := 53, descriptorIndex := 54, attributes := #[] }, { accessFlags := 18, nameIndex := 57, descriptorIndex := 58, attributes := #[] }, { accessFlags := 18, nameIndex := 61, descriptorIndex := 33, attributes := #[] }, { accessFlags := 2, nameIndex := 15, descriptorIndex := 16, attributes := #[] }, { accessFlags := 18, nameIndex := 26, descriptorIndex := 27, attributes := #[] }, { accessFlags := 2, nameIndex := 32, descriptorIndex := 33, attributes := #[] }, { accessFlags := 2, nameIndex := 40, descriptorIndex := 37, attributes := #[] }, { accessFlags := 2, nameIndex := 49, descriptorIndex := 50, attributes := #[] }])
  fields := #[{ name := "NOTHING_KEPT", type := (.object "com/example/seshat/seshat/reader/PathCache$Kept"), accessFlags := 26, slot := 0, constantValue := 0 }, { name := "UNSETTLED", type := .int, accessFlags := 26, slot := 1, constantValue := 0 }, { name := "MOST_DOUBLINGS", type := .int, accessFlags := 26, slot := 2, constantValue := 0 }, { name := "m_archive", type := (.object "com/example/seshat/seshat/reader/Archive"), accessFlags := 18, slot := 0, constantValue := 0 }, { name := "m_index", type := (.object "com/example/seshat/seshat/reader/ArchiveIndex"), accessFlags := 18, slot := 1, constantValue := 0 }, { name := "m_seed", type := .long, accessFlags := 18, slot := 2, constantValue := 0 }, { name := "m_root", type := (.object "java/lang/String"), accessFlags := 2, slot := 3, constantValue := 0 }, { name := "m_paths", type := (.object "com/example/seshat/seshat/reader/PathCache"), accessFlags := 18, slot := 4, constantValue := 0 }, { name := "m_readKey", type := .long, accessFlags := 2, slot := 5, constantValue := 0 }, { name := "m_readPath", type := (.object "com/example/seshat/seshat/reader/PathCache$Kept"), accessFlags := 2, slot := 6, constantValue := 0 }, { name := "m_read", type := (.object "com/example/seshat/seshat/reader/ArchiveNames$Names"), accessFlags := 2, slot := 7, constantValue := 0 }]
  methods := #[k2m0]
  instanceTypes := #[(.object "com/example/seshat/seshat/reader/Archive"), (.object "com/example/seshat/seshat/reader/ArchiveIndex"), .long, (.object "java/lang/String"), (.object "com/example/seshat/seshat/reader/PathCache"), .long, (.object "com/example/seshat/seshat/reader/PathCache$Kept"), (.object "com/example/seshat/seshat/reader/ArchiveNames$Names")]
  staticTypes := #[(.object "com/example/seshat/seshat/reader/PathCache$Kept"), .int, .int]
  resolved := Array.replicate 324 none
  statics := none }

def pool3 : Array CpInfo := pool [(1, u "java/lang/Cloneable"), (0, .class_ 1), (0, u "java/lang/Object"), (0, .class_ 3)] 3

/-- java/lang/Cloneable -/
def k3 : Class := { plain "java/lang/Cloneable" (some 0) with
  accessFlags := 1537
  interfaces := #[]
  cf := some (fileOf pool3 2 #[] #[] 1537 4 #[] #[])
  fields := #[]
  methods := #[]
  instanceTypes := #[]
  staticTypes := #[]
  resolved := Array.replicate 8 none
  statics := none }

def pool4 : Array CpInfo := pool [(1, u "java/io/Serializable"), (0, .class_ 1), (0, u "java/lang/Object"), (0, .class_ 3)] 3

/-- java/io/Serializable -/
def k4 : Class := { plain "java/io/Serializable" (some 0) with
  accessFlags := 1537
  interfaces := #[]
  cf := some (fileOf pool4 2 #[] #[] 1537 4 #[] #[])
  fields := #[]
  methods := #[]
  instanceTypes := #[]
  staticTypes := #[]
  resolved := Array.replicate 8 none
  statics := none }

/-- the primitive byte -/
def k5 : Class := { plain "byte" none with kind := .primitive 'B', accessFlags := 0x411 }
/-- [B -/
def k6 : Class := { plain "[B" (some 0) with kind := .array 5 .byte, interfaces := #[3, 4], accessFlags := 1041 }

/-- the primitive int -/
def k7 : Class := { plain "int" none with kind := .primitive 'I', accessFlags := 0x411 }
/-- [I -/
def k8 : Class := { plain "[I" (some 0) with kind := .array 7 .int, interfaces := #[3, 4], accessFlags := 1041 }

def heap : Heap := #[]
def classes : Array Class := #[k0, k1, k2, k3, k4, k5, k6, k7, k8]
def interned : List (Array UInt16 × Addr) := []
def slotsUsed : Nat := 0
def theMethod : MethodId := ⟨1, 1⟩
def args0 : Array Value := #[.int 5000, .int 3000, .int 7, .int 9, .int 3]
def aboutOver (below : List Frame) : State where
  vm := { classes := classes, interned := interned.toArray }
  heap := heap
  slotsUsed := slotsUsed
  threads := #[{ frames := .invoking theMethod args0 :: below }]
def below0 : List Frame := [.native { method := ⟨0, 0⟩, args := #[] }]
def about1 : State := aboutOver below0
def p0 : Program := .bare "" "" ""
def e0 : Env := launch0.env 0 0 0
theorem w_frames : about1.frames = Frame.invoking theMethod args0 :: below0 := rfl
set_option maxRecDepth 65536 in
theorem w_args : argsFit about1.vm theMethod args0 = true := by decide +kernel
set_option maxRecDepth 65536 in
theorem w_heap : heapFits about1 = true := by decide +kernel
set_option maxRecDepth 65536 in
theorem w_runnable : about1.curStatus? = some .runnable := by decide +kernel
set_option maxRecDepth 65536 in
theorem w_alone : about1.alone = true := by decide +kernel
set_option maxRecDepth 65536 in
theorem w_named : about1.methodNamed? x = some theMethod := by decide +kernel
set_option maxRecDepth 65536 in
theorem w_hears : about1.hears theMethod below0 = true := by decide +kernel
set_option maxRecDepth 65536 in
theorem w_ripe : about1.ripe theMethod args0 below0 = true := by decide +kernel
theorem w_running : about1.status = .running := rfl
set_option maxRecDepth 65536 in
theorem w_room : about1.hasRoom e0.platform room_1 = true :=
  launch0.hasRoom_least _ room_1 (by decide +kernel) (by decide +kernel) (by decide +kernel) (by decide +kernel) (by decide +kernel) (by decide +kernel)
theorem allAtoms_all (ts : List Jvm.Cond) (a : Array Jvm.Value) (st : Jvm.State) : (allAtoms ts).before a st = ts.all (fun c => c.before a st) := by
  induction ts with
  | nil => rfl
  | cons c t ih =>
    show (Jvm.Cond.and c (allAtoms t)).before a st = _
    rw [Jvm.Cond.before_and, ih, List.all_cons]
def words1 : List Jvm.Cond := Jvm.Cond.code x code maxLocals ret :: tables_1
/-- a 'code' word, met by the world's own term for the bytes: nothing is compared byte by byte -/
theorem code_word {y : MethodName} {bytes : ByteArray} {mx : Nat} {rt : Option FieldType} {a : Array Value} {s : State} {m : MethodId} {meth : Method} {c : Code} (h1 : s.methodNamed? y = some m) (h2 : s.vm.method? m = some meth) (h3 : meth.code = some c) (h4 : c.code = bytes)
    (h5 : (c.maxLocals == mx && c.exceptionTable.isEmpty && decide (c.maxStack ≤ mostOperands) && decide (meth.sig.returnType = rt) && !meth.locks && decide (parseMethodDescriptor y.desc = some meth.sig)) = true) : (Jvm.Cond.code y bytes mx rt).before a s = true := by
  simp only [Bool.and_eq_true, beq_iff_eq, Bool.not_eq_true', decide_eq_true_eq] at h5
  obtain ⟨⟨⟨⟨⟨g1, g2⟩, g3⟩, g4⟩, g5⟩, g6⟩ := h5
  simp [Cond.before, Cond.holds, Cond.value, h1, h2, h3, h4, g1, g2, g3, g4, g5, g6]
def isCode : Jvm.Cond → Bool
  | .code _ _ _ _ => true
  | _ => false
theorem all_split {L : List Jvm.Cond} {P : Jvm.Cond → Bool} (h1 : L.all (fun c => isCode c || P c) = true) (h2 : ∀ c ∈ L.filter isCode, P c = true) : L.all P = true := by
  refine List.all_eq_true.mpr fun c hc => ?_
  have h := List.all_eq_true.mp h1 c hc
  rcases Bool.eq_false_or_eq_true (isCode c) with hi | hi
  · exact h2 c (List.mem_filter.mpr ⟨hc, hi⟩)
  · simpa [hi] using h
set_option maxRecDepth 65536 in
theorem w_c0 : (Jvm.Cond.code x code maxLocals ret).before args0 about1 = true := code_word (m := ⟨1, 1⟩) (meth := k1m1) (c := k1c1) (by decide +kernel) rfl rfl rfl (by decide +kernel)
set_option maxRecDepth 65536 in
theorem w_c1 : (Jvm.Cond.code ({ cls := "com/example/seshat/seshat/reader/ArchiveNames", name := "reading", desc := "(II)I" } : Jvm.MethodName) prog_10_method_18_code (4 : Nat) (Option.some Jvm.ClassFile.FieldType.int)).before args0 about1 = true := code_word (m := ⟨2, 0⟩) (meth := k2m0) (c := k2c0) (by decide +kernel) rfl rfl rfl (by decide +kernel)
set_option maxRecDepth 65536 in
theorem w_c2 : (Jvm.Cond.code ({ cls := "com/example/seshat/seshat/reader/ArchiveNamesReadingPinLaw", name := "doublings", desc := "(I)I" } : Jvm.MethodName) method_3_code (1 : Nat) (Option.some Jvm.ClassFile.FieldType.int)).before args0 about1 = true := code_word (m := ⟨1, 2⟩) (meth := k1m2) (c := k1c2) (by decide +kernel) rfl rfl rfl (by decide +kernel)
def codes1 : List Jvm.Cond := [Jvm.Cond.code x code maxLocals ret, Jvm.Cond.code ({ cls := "com/example/seshat/seshat/reader/ArchiveNames", name := "reading", desc := "(II)I" } : Jvm.MethodName) prog_10_method_18_code (4 : Nat) (Option.some Jvm.ClassFile.FieldType.int), Jvm.Cond.code ({ cls := "com/example/seshat/seshat/reader/ArchiveNamesReadingPinLaw", name := "doublings", desc := "(I)I" } : Jvm.MethodName) method_3_code (1 : Nat) (Option.some Jvm.ClassFile.FieldType.int)]
set_option maxRecDepth 65536 in
theorem codes_eq : words1.filter isCode = codes1 := rfl
theorem w_codes : ∀ c ∈ words1.filter isCode, c.before args0 about1 = true := by
  rw [codes_eq]
  intro c hc
  simp only [codes1, List.mem_cons, List.not_mem_nil, or_false] at hc
  rcases hc with rfl | rfl | rfl
  · exact w_c0
  · exact w_c1
  · exact w_c2
set_option maxRecDepth 65536 in
theorem w_t1 : words1.all (fun c => isCode c || c.before args0 about1) = true := by decide +kernel
theorem w_tables : (allAtoms (Jvm.Cond.code x code maxLocals ret :: tables_1)).before args0 about1 = true := by
  rw [allAtoms_all]
  show words1.all (fun c => c.before args0 about1) = true
  refine all_split ?_ w_codes
  rw [w_t1]
set_option maxRecDepth 65536 in
theorem w_case : (Jvm.Cond.and given_1 narrow_1).before args0 about1 = true := by decide +kernel
theorem w_applies : (headSpec (Jvm.Cond.code x code maxLocals ret :: tables_1) room_1).applies x e0.platform about1 = true :=
  (Spec.applies_iff w_frames).mpr ⟨w_running, w_runnable, w_alone, w_named, w_hears, w_ripe, w_room, w_tables⟩
theorem atStart : AtStart classFile x code maxLocals ret World_1 tables_1 room_1 Calls_1 rest_1 Pre_1 launch0 p0 e0 about1 theMethod args0 below0 :=
  ⟨lists_1, trivial, launch0.admits_env _ _ _, launch0.least_env, fairChoices_fair.cas, fairChoices_fair.clock, w_frames, w_args, w_heap, w_applies, trivial, trivial, w_case⟩
end start1
theorem witness_1 : WitnessClaimed_1 := ⟨start1.p0, start1.e0, start1.about1, start1.theMethod, start1.args0, start1.below0, start1.atStart⟩
end Jvm.Pilot.@@N@@
