import JvmDerived
import JvmDerived.Pilot.@@N@@Statement
import JvmDerived.Pilot.@@N@@Code
set_option linter.unusedVariables false
set_option linter.unusedSimpArgs false
namespace Jvm.RoadKit
open Sem ClassFile Op Lib Jvm.Stand Jvm.Free Jvm.LawKit
section New
variable {p : Program} {l : Launch} {e : Env} {R : Room} {s : State} {m : MethodId} {args : Array Value} {below : List Frame} {meth : Method} {c : Code} {T : State} {locs : List Loc} {cells slots : Nat}
theorem retI (X : Stand p l e R s m args below meth c T locs cells slots) (hx : p.tables.exec = Jvm.exec) {pc : Nat} {Ls : Array Slot} {z : Int32} {rest : List Value} (hret : meth.sig.returnType = some .int) (hd : decode c.code pc = .ok (.ireturn, 1)) {fs : List Frame}
    (hl : ∀ (f : JFrame) (acts : List Action), f.method = m → f.locked = none → f.entered = [] → (doReturn e (T.setTop f) acts (some (.int z))).1 = T.setFrames fs) : Steps p.tables e below (T.setTop (mkF m pc Ls (.int z :: rest))) (T.setFrames fs) := by
  have hm' : T.vm.method? m = some meth := X.method'
  have hn : narrow .int (.int z) = .int z := rfl
  show Steps p.tables e below (T.setTop { method := m, pc := pc, locals := Ls, stack := _ :: rest, locked := none }) _
  jvm_step X.here [X.here.top, hx, hd, hm', hret, hn]
  first | (intro acts; rw [hl _ acts rfl rfl rfl]) | rw [hl _ _ rfl rfl rfl]
  exact Steps.refl _
variable {Z : State} {h : Heap} {a : Addr} {k : ClassId} {z j : Int32} {vs : List Value} {dv : Value}
theorem own_nar (x : Int32) : nar .byte (x.toInt8.toInt32) = x.toInt8.toInt32 := by
  show (x.toInt8.toInt32).toInt8.toInt32 = _
  rw [Int8.toInt8_toInt32]
theorem own_bal (X : Stand p l e R s m args below meth c T locs cells slots) (hx : p.tables.exec = Jvm.exec) (hZ : Z.Warmed39 s.vm) (eT : T.heap = h) (A : Arv Z h a k .byte z vs dv) (hj : ¬ j < 0 ∧ j < z) {v : Value} (hv : vs.getD j.toNatClampNeg dv = v)
    {g : JFrame} (hg : g.method = m) {rest : List Value} (hs : g.stack = .int j :: .ref a :: rest) (hd : decode c.code g.pc = .ok (.baload, 1)) (target : State)
    (hrest : Steps p.tables e below (T.setTop { g with pc := g.pc + 1, stack := v :: rest }) target) : Steps p.tables e below (T.setTop g) target := by
  obtain ⟨cl, Ar, -, S, N, H, -⟩ := A
  have hin := inb_of S hj
  exact X.baloadBytes hx (j := j) (v := v) (by rw [eT]; exact Ar.1) (State.isArrayOf_alike hZ.alike Ar.2.1) Ar.2.2 hin (Has.at H hin hv) hg hs hd target hrest
theorem own_len {ty : FieldType} (X : Stand p l e R s m args below meth c T locs cells slots) (hx : p.tables.exec = Jvm.exec) (hZ : Z.Warmed39 s.vm) (eT : T.heap = h) (A : Arv Z h a k ty z vs dv)
    {g : JFrame} (hg : g.method = m) {rest : List Value} (hs : g.stack = .ref a :: rest) (hd : decode c.code g.pc = .ok (.arraylength, 1)) (target : State)
    (hrest : Steps p.tables e below (T.setTop { g with pc := g.pc + 1, stack := .int z :: rest }) target) : Steps p.tables e below (T.setTop g) target := by
  obtain ⟨cl, Ar, -, S, N, H, -⟩ := A
  refine X.arraylength hx (by rw [eT]; exact Ar.1) (State.isArrayOf_alike hZ.alike Ar.2.1) hg hs hd target ?_
  rw [len_of S N]
  exact hrest
theorem own_bst (X : Stand p l e R s m args below meth c T locs cells slots) (hx : p.tables.exec = Jvm.exec) (hZ : Z.Warmed39 s.vm) (eT : T.heap = h) (A : Arv Z h a k .byte z vs dv) (hj : ¬ j < 0 ∧ j < z) {i : Nat} (hi : j.toNatClampNeg = i) (hl : i < vs.length) {x w : Int32} (hw : nar .byte x = w)
    {g : JFrame} (hg : g.method = m) {rest : List Value} (hs : g.stack = .int x :: .int j :: .ref a :: rest) (hd : decode c.code g.pc = .ok (.bastore, 1)) :
    ∃ T' h', Stand p l e R s m args below meth c T' (locs ++ [⟨a, j.toNatClampNeg⟩]) cells slots ∧ T'.heap = h' ∧ Wr h h' a j.toNatClampNeg (.int w) ∧ Arv Z h' a k .byte z (vs.set i (.int w)) dv ∧
      ∀ target, Steps p.tables e below (T'.setTop { g with pc := g.pc + 1, stack := rest }) target → Steps p.tables e below (T.setTop g) target := by
  obtain ⟨cl, Ar, q, S, N, H, G⟩ := A
  obtain ⟨T', h', X', e', W', st⟩ := stB X hx hZ eT Ar (j := j) (inb_of S hj) hg hs hd
  subst hw
  exact ⟨T', h', X', e', W', Arv.set Ar q S N H G (fits_nar_byte _) W' i hi hl, st⟩
theorem own_selp {s : State} {args : Array Value} {C : String} {y w : MethodName} (hc : y.cls = w.cls) (hsel : (Cond.selects C w w).before args s = true) (hpriv : s.PrivateAt y) (hinst : (Cond.instanceMethod y).before args s = true) (hy : y.cls ≠ "java/lang/invoke/MethodHandle" ∧ y.cls ≠ "java/lang/invoke/VarHandle") : (Cond.selects y.cls y y).before args s = true := by
  obtain ⟨c2, r2, m2, q1, q2, q3, q4, kP, hkP, hkPi⟩ := Cond.selects_spec hsel
  exact selects_self_of_private (by rw [hc]; exact findClass_of_methodNamed q3) hkP hkPi hpriv hinst hy
end New
end Jvm.RoadKit
namespace Jvm.Pilot.@@N@@
open Jvm Jvm.ClassFile Sem Op Lib Jvm.Free Jvm.Stand Jvm.LawKit Jvm.RoadKit Bundle Jvm.Pilot.@@N@@.Jvm.D
theorem own_and3 (x : Int32) : (x &&& (3 : Int32)) = 0 ∨ (x &&& (3 : Int32)) = 1 ∨ (x &&& (3 : Int32)) = 2 ∨ (x &&& (3 : Int32)) = 3 := by
  have h1 : (x &&& 3).toBitVec.toNat ≤ 3 := by
    simp only [Int32.toBitVec_and, BitVec.toNat_and]
    exact Nat.and_le_right
  have h2 : (x &&& 3) = Int32.ofNat (x &&& 3).toBitVec.toNat := by
    apply Int32.toBitVec_inj.mp
    show _ = BitVec.ofNat 32 _
    rw [BitVec.ofNat_toNat]; simp
  generalize (x &&& 3).toBitVec.toNat = n at *
  rw [h2]
  match n, h1 with
  | 0, _ => exact Or.inl rfl
  | 1, _ => exact Or.inr (Or.inl rfl)
  | 2, _ => exact Or.inr (Or.inr (Or.inl rfl))
  | 3, _ => exact Or.inr (Or.inr (Or.inr rfl))
def own_pre (vs : List Value) (d : Value) (n : Nat) : List Value := (List.range n).map fun i => vs.getD ((0 : Int32).toNatClampNeg + i) d
theorem own_conv (vs : List Value) (d e : Value) (n : Nat) : ([] ++ List.replicate n e).take (0 : Int32).toNatClampNeg ++ own_pre vs d n ++ ([] ++ List.replicate n e).drop ((0 : Int32).toNatClampNeg + n) = own_pre vs d n := by
  have h0 : (0 : Int32).toNatClampNeg = 0 := rfl
  rw [h0]
  simp [own_pre, h0]
theorem own_min (a b : Int32) (h : b < a) : (if b < a then b else a) = b := if_pos h
theorem own_le {a b : Int32} (h : a < b) : (0 : Int32).toNatClampNeg + a.toNatClampNeg ≤ b.toNatClampNeg := by
  rw [Int32.lt_iff_toInt_lt] at h
  have h0 : (0 : Int32).toNatClampNeg = 0 := rfl
  rw [h0]; simp only [Int32.toNatClampNeg]; omega
theorem own_le' (a : Int32) : (0 : Int32).toNatClampNeg + a.toNatClampNeg ≤ a.toNatClampNeg := by
  have h0 : (0 : Int32).toNatClampNeg = 0 := rfl
  rw [h0]; omega
theorem d1_0 : decode method_2_code 0 = .ok (.iload_n 0, 1) := by decide +kernel
theorem d1_1 : decode method_2_code 1 = .ok (.sipush 256, 3) := by decide +kernel
theorem d1_4 : decode method_2_code 4 = .ok (.iand, 1) := by decide +kernel
theorem d1_5 : decode method_2_code 5 = .ok (.ifCond .eq 7, 3) := by decide +kernel
theorem d1_12 : decode method_2_code 12 = .ok (.iload_n 0, 1) := by decide +kernel
theorem d1_13 : decode method_2_code 13 = .ok (.i2b, 1) := by decide +kernel
theorem d1_14 : decode method_2_code 14 = .ok (.ireturn, 1) := by decide +kernel
theorem d1_8 : decode method_2_code 8 = .ok (.iconst (-1), 1) := by decide +kernel
theorem d1_9 : decode method_2_code 9 = .ok (.goto 5, 3) := by decide +kernel
theorem pn_0 : plainName "com/example/tessera/tessera/storage/PrefixesEndPinLaw" = true := by first | (simp [plainName, overriddenIn]; done) | decide +kernel
theorem ef_rm1 (m : MethodId) (x0 : Int32) : entryFrame m #[(.int x0)] 1 = mkF m 0 #[.val (.int x0)] [] := by first | (simp [entryFrame, mkF, argsToLocals, Value.category]; done) | rfl
def Q1 (Z : State) (p1 : Int32) (h0 : Heap) (n0 : Nat) (v : Option Value) (h : Heap) (L : List Loc) : Prop := ∃ x : Int32, v = some (.int x) ∧ Fr n0 L ∧ h = h0 ∧ nar .byte x = x
set_option maxRecDepth 65536 in
set_option maxHeartbeats 40000000 in
theorem rm1 (l : Launch) (Z : State) (a0 : Array Value) (hw : ∀ d ∈ tables_1, d.before a0 Z = true) (ws : List Jvm.Cond) (p1 : Int32) (h0 : Heap) (n0 : Nat) (Z0 : n0 ≤ h0.size)  :
    MetFree l (⟨"com/example/tessera/tessera/storage/PrefixesEndPinLaw", "draw", "(I)B"⟩ : MethodName) (head1 (Jvm.Cond.code (⟨"com/example/tessera/tessera/storage/PrefixesEndPinLaw", "draw", "(I)B"⟩ : MethodName) method_2_code 1 (some .byte) :: ws) ({ frames := 0, cells := 0, slots := 0, locals := 0 } : Room)) (fun a U => a = #[(.int p1)] ∧ Z.Warmed39 U.vm ∧ U.heap = h0) (fun _ _ _ _ _ => True) (fun _ U o U' => ∃ v L, o = .returned v ∧ Q1 Z p1 h0 n0 v U'.heap L ∧ FrameEnd U o U' L ({ frames := 0, cells := 0, slots := 0, locals := 0 } : Room).cells ({ frames := 0, cells := 0, slots := 0, locals := 0 } : Room).slots) := by
  refine MetFree.of_bodySF (plainFor_of_name pn_0) hisR ?_
  intro p e s m args below meth c s₁ Bd hml0 hP hK
  obtain ⟨rfl, hZ, hh⟩ := hP
  have hx := Bd.exec
  have hby := Bd.bytes
  have hml : c.maxLocals = 1 := hml0
  have hown : s.vm.findClass "com/example/tessera/tessera/storage/PrefixesEndPinLaw" = some m.cls := findClass_of_methodNamed Bd.named
  have hnm := (name_of_methodNamed Bd.named Bd.method).1
  have X0 : Stand p l e ({ frames := 0, cells := 0, slots := 0, locals := 0 } : Room) s m #[(.int p1)] below meth c s₁ [] 0 0 := Stand.of_body Bd
  have e0 : s₁.heap = h0 := by rw [← hh, Bd.state]; rfl
  have N0 := Fr.nil n0
  have pre0 : ∀ t, Steps p.tables e below (s₁.setTop (mkF m 0 #[.val (.int p1)] [])) t → Steps p.tables e below (s₁.setTop (entryFrame m #[(.int p1)] 1)) t := fun t k => castTop (ef_rm1 m p1) k
  have pre101 : ∀ t, Steps p.tables e below (s₁.setTop (mkF m 5 #[.val (.int p1)] [(.int (p1 &&& (256 : Int32)))])) t → Steps p.tables e below (s₁.setTop (entryFrame m #[(.int p1)] 1)) t := by
    intro t kt
    refine pre0 t ?_
    show Steps p.tables e below (s₁.setTop (mkF m 0 #[.val (.int p1)] [])) _
    refine XS.iloadN X0.here hx rfl (hb hby d1_0) rfl ?_
    show Steps p.tables e below (s₁.setTop (mkF m 1 #[.val (.int p1)] [(.int p1)])) _
    refine XS.sipush X0.here hx rfl (hb hby d1_1) ?_
    show Steps p.tables e below (s₁.setTop (mkF m 4 #[.val (.int p1)] [(.int (256 : Int32)), (.int p1)])) _
    refine XS.iand X0.here hx rfl (hb hby d1_4) rfl ?_
    exact kt
  by_cases hc5 : (p1 &&& (256 : Int32)) = (0 : Int32)
  · have pre102 : ∀ t, Steps p.tables e below (s₁.setTop (mkF m 14 #[.val (.int p1)] [(.int (p1.toInt8.toInt32))])) t → Steps p.tables e below (s₁.setTop (entryFrame m #[(.int p1)] 1)) t := by
      intro t kt
      refine pre101 t ?_
      show Steps p.tables e below (s₁.setTop (mkF m 5 #[.val (.int p1)] [(.int (p1 &&& (256 : Int32)))])) _
      refine XS.ifYes X0.here hx rfl (pc0 := 5) (pc' := 12) rfl (hb hby d1_5) rfl ((if0 _ _).trans (teq hc5).1) (by decide) (by decide) ?_
      show Steps p.tables e below (s₁.setTop (mkF m 12 #[.val (.int p1)] [])) _
      refine XS.iloadN X0.here hx rfl (hb hby d1_12) rfl ?_
      show Steps p.tables e below (s₁.setTop (mkF m 13 #[.val (.int p1)] [(.int p1)])) _
      refine XS.i2b X0.here hx rfl (hb hby d1_13) rfl ?_
      exact kt
    obtain ⟨fsx, hr, hrun, hended, hW, hsame⟩ := X0.leave (v := some (.int (nar .byte (p1.toInt8.toInt32)))) (fun h => by rw [Bd.returns] at h; cases h)
    refine ⟨_, _, pre102 _ ?_, hrun, hended, _, _, rfl, ?_, ⟨_, rfl⟩, hW, hsame.mono (by decide) (by decide)⟩
    · exact retN X0 hx (t := .byte) Bd.returns (by simp) (hb hby d1_14) hr
    · show Q1 Z p1 h0 n0 _ s₁.heap _
      rw [e0]
      exact ⟨_, rfl, N0, rfl, own_nar _⟩
  · have pre103 : ∀ t, Steps p.tables e below (s₁.setTop (mkF m 14 #[.val (.int p1)] [(.int (-1 : Int32))])) t → Steps p.tables e below (s₁.setTop (entryFrame m #[(.int p1)] 1)) t := by
      intro t kt
      refine pre101 t ?_
      show Steps p.tables e below (s₁.setTop (mkF m 5 #[.val (.int p1)] [(.int (p1 &&& (256 : Int32)))])) _
      refine XS.ifNo X0.here hx rfl (hb hby d1_5) rfl ((if0 _ _).trans (feq hc5).1) ?_
      show Steps p.tables e below (s₁.setTop (mkF m 8 #[.val (.int p1)] [])) _
      refine XS.iconst X0.here hx rfl (hb hby d1_8) ?_
      show Steps p.tables e below (s₁.setTop (mkF m 9 #[.val (.int p1)] [(.int (-1 : Int32))])) _
      refine XS.goto X0.here hx rfl (pc0 := 9) (pc' := 14) rfl (hb hby d1_9) (by decide) (by decide) ?_
      exact kt
    obtain ⟨fsx, hr, hrun, hended, hW, hsame⟩ := X0.leave (v := some (.int (nar .byte (-1 : Int32)))) (fun h => by rw [Bd.returns] at h; cases h)
    refine ⟨_, _, pre103 _ ?_, hrun, hended, _, _, rfl, ?_, ⟨_, rfl⟩, hW, hsame.mono (by decide) (by decide)⟩
    · exact retN X0 hx (t := .byte) Bd.returns (by simp) (hb hby d1_14) hr
    · show Q1 Z p1 h0 n0 _ s₁.heap _
      rw [e0]
      exact ⟨_, rfl, N0, rfl, own_nar _⟩
theorem d4_0 : decode jdk_29_method_69_code 0 = .ok (.iload_n 0, 1) := by decide +kernel
theorem d4_1 : decode jdk_29_method_69_code 1 = .ok (.iload_n 1, 1) := by decide +kernel
theorem d4_2 : decode jdk_29_method_69_code 2 = .ok (.if_icmp .gt 7, 3) := by decide +kernel
theorem d4_9 : decode jdk_29_method_69_code 9 = .ok (.iload_n 1, 1) := by decide +kernel
theorem d4_10 : decode jdk_29_method_69_code 10 = .ok (.ireturn, 1) := by decide +kernel
theorem d4_5 : decode jdk_29_method_69_code 5 = .ok (.iload_n 0, 1) := by decide +kernel
theorem d4_6 : decode jdk_29_method_69_code 6 = .ok (.goto 4, 3) := by decide +kernel
theorem ef_rm2 (m : MethodId) (x0 : Int32) (x1 : Int32) : entryFrame m #[(.int x0), (.int x1)] 2 = mkF m 0 #[.val (.int x0), .val (.int x1)] [] := by first | (simp [entryFrame, mkF, argsToLocals, Value.category]; done) | rfl
def Q2 (Z : State) (p1 : Int32) (p2 : Int32) (h0 : Heap) (n0 : Nat) (v : Option Value) (h : Heap) (L : List Loc) : Prop := v = some (.int (if p2 < p1 then p2 else p1)) ∧ Fr n0 L ∧ h = h0
set_option maxRecDepth 65536 in
set_option maxHeartbeats 40000000 in
theorem rm2 (l : Launch) (Z : State) (a0 : Array Value) (hw : ∀ d ∈ tables_1, d.before a0 Z = true) (ws : List Jvm.Cond) (p1 : Int32) (p2 : Int32) (h0 : Heap) (n0 : Nat) (Z0 : n0 ≤ h0.size)  :
    MetFree l (⟨"java/lang/Math", "min", "(II)I"⟩ : MethodName) (head1 (Jvm.Cond.code (⟨"java/lang/Math", "min", "(II)I"⟩ : MethodName) jdk_29_method_69_code 2 (some .int) :: ws) ({ frames := 0, cells := 0, slots := 0, locals := 0 } : Room)) (fun a U => a = #[(.int p1), (.int p2)] ∧ Z.Warmed39 U.vm ∧ U.heap = h0) (fun _ _ _ _ _ => True) (fun _ U o U' => ∃ v L, o = .returned v ∧ Q2 Z p1 p2 h0 n0 v U'.heap L ∧ FrameEnd U o U' L ({ frames := 0, cells := 0, slots := 0, locals := 0 } : Room).cells ({ frames := 0, cells := 0, slots := 0, locals := 0 } : Room).slots) := by
  refine MetFree.of_bodySF (Jvm.Free.JP.mathPlain rfl (by decide +kernel)) hisR ?_
  intro p e s m args below meth c s₁ Bd hml0 hP hK
  obtain ⟨rfl, hZ, hh⟩ := hP
  have hx := Bd.exec
  have hby := Bd.bytes
  have hml : c.maxLocals = 2 := hml0
  have hown : s.vm.findClass "java/lang/Math" = some m.cls := findClass_of_methodNamed Bd.named
  have hnm := (name_of_methodNamed Bd.named Bd.method).1
  have X0 : Stand p l e ({ frames := 0, cells := 0, slots := 0, locals := 0 } : Room) s m #[(.int p1), (.int p2)] below meth c s₁ [] 0 0 := Stand.of_body Bd
  have e0 : s₁.heap = h0 := by rw [← hh, Bd.state]; rfl
  have N0 := Fr.nil n0
  have pre0 : ∀ t, Steps p.tables e below (s₁.setTop (mkF m 0 #[.val (.int p1), .val (.int p2)] [])) t → Steps p.tables e below (s₁.setTop (entryFrame m #[(.int p1), (.int p2)] 2)) t := fun t k => castTop (ef_rm2 m p1 p2) k
  have pre104 : ∀ t, Steps p.tables e below (s₁.setTop (mkF m 2 #[.val (.int p1), .val (.int p2)] [(.int p2), (.int p1)])) t → Steps p.tables e below (s₁.setTop (entryFrame m #[(.int p1), (.int p2)] 2)) t := by
    intro t kt
    refine pre0 t ?_
    show Steps p.tables e below (s₁.setTop (mkF m 0 #[.val (.int p1), .val (.int p2)] [])) _
    refine XS.iloadN X0.here hx rfl (hb hby d4_0) rfl ?_
    show Steps p.tables e below (s₁.setTop (mkF m 1 #[.val (.int p1), .val (.int p2)] [(.int p1)])) _
    refine XS.iloadN X0.here hx rfl (hb hby d4_1) rfl ?_
    exact kt
  by_cases hc2 : p2 < p1
  · have pre105 : ∀ t, Steps p.tables e below (s₁.setTop (mkF m 10 #[.val (.int p1), .val (.int p2)] [(.int p2)])) t → Steps p.tables e below (s₁.setTop (entryFrame m #[(.int p1), (.int p2)] 2)) t := by
      intro t kt
      refine pre104 t ?_
      show Steps p.tables e below (s₁.setTop (mkF m 2 #[.val (.int p1), .val (.int p2)] [(.int p2), (.int p1)])) _
      refine XS.icmpYes X0.here hx rfl (pc0 := 2) (pc' := 9) rfl (hb hby d4_2) rfl (tlt hc2).2.2.1 (by decide) (by decide) ?_
      show Steps p.tables e below (s₁.setTop (mkF m 9 #[.val (.int p1), .val (.int p2)] [])) _
      refine XS.iloadN X0.here hx rfl (hb hby d4_9) rfl ?_
      exact kt
    obtain ⟨fsx, hr, hrun, hended, hW, hsame⟩ := X0.leave (v := some (.int p2)) (fun h => by rw [Bd.returns] at h; cases h)
    refine ⟨_, _, pre105 _ ?_, hrun, hended, _, _, rfl, ?_, ⟨_, rfl⟩, hW, hsame.mono (by decide) (by decide)⟩
    · exact retI X0 hx Bd.returns (hb hby d4_10) hr
    · show Q2 Z p1 p2 h0 n0 _ s₁.heap _
      rw [e0]
      exact ⟨by rw [if_pos hc2], N0, rfl⟩
  · have pre106 : ∀ t, Steps p.tables e below (s₁.setTop (mkF m 10 #[.val (.int p1), .val (.int p2)] [(.int p1)])) t → Steps p.tables e below (s₁.setTop (entryFrame m #[(.int p1), (.int p2)] 2)) t := by
      intro t kt
      refine pre104 t ?_
      show Steps p.tables e below (s₁.setTop (mkF m 2 #[.val (.int p1), .val (.int p2)] [(.int p2), (.int p1)])) _
      refine XS.icmpNo X0.here hx rfl (hb hby d4_2) rfl (flt hc2).2.2.1 ?_
      show Steps p.tables e below (s₁.setTop (mkF m 5 #[.val (.int p1), .val (.int p2)] [])) _
      refine XS.iloadN X0.here hx rfl (hb hby d4_5) rfl ?_
      show Steps p.tables e below (s₁.setTop (mkF m 6 #[.val (.int p1), .val (.int p2)] [(.int p1)])) _
      refine XS.goto X0.here hx rfl (pc0 := 6) (pc' := 10) rfl (hb hby d4_6) (by decide) (by decide) ?_
      exact kt
    obtain ⟨fsx, hr, hrun, hended, hW, hsame⟩ := X0.leave (v := some (.int p1)) (fun h => by rw [Bd.returns] at h; cases h)
    refine ⟨_, _, pre106 _ ?_, hrun, hended, _, _, rfl, ?_, ⟨_, rfl⟩, hW, hsame.mono (by decide) (by decide)⟩
    · exact retI X0 hx Bd.returns (hb hby d4_10) hr
    · show Q2 Z p1 p2 h0 n0 _ s₁.heap _
      rw [e0]
      exact ⟨by rw [if_neg hc2], N0, rfl⟩
theorem d3_0 : decode jdk_65_method_121_code 0 = .ok (.iload_n 1, 1) := by decide +kernel
theorem d3_1 : decode jdk_65_method_121_code 1 = .ok (.aload_n 0, 1) := by decide +kernel
theorem d3_2 : decode jdk_65_method_121_code 2 = .ok (.arraylength, 1) := by decide +kernel
theorem d3_3 : decode jdk_65_method_121_code 3 = .ok (.if_icmp .ne 11, 3) := by decide +kernel
theorem d3_6 : decode jdk_65_method_121_code 6 = .ok (.aload_n 0, 1) := by decide +kernel
theorem d3_7 : decode jdk_65_method_121_code 7 = .ok (.invokevirtual 310, 3) := by decide +kernel
theorem d3_10 : decode jdk_65_method_121_code 10 = .ok (.checkcast 311, 3) := by decide +kernel
theorem d3_13 : decode jdk_65_method_121_code 13 = .ok (.areturn, 1) := by decide +kernel
theorem pn_1 : plainName "java/util/Arrays" = true := by first | (simp [plainName, overriddenIn]; done) | decide +kernel
theorem ef_rm3 (m : MethodId) (x0 : Addr) (x1 : Int32) : entryFrame m #[(.ref x0), (.int x1)] 3 = mkF m 0 #[.val (.ref x0), .val (.int x1), .unset] [] := by first | (simp [entryFrame, mkF, argsToLocals, Value.category]; done) | rfl
def Q3 (Z : State) (a1 : Addr) (k1 : ClassId) (z : Int32) (vs : List Value) (h0 : Heap) (n0 : Nat) (v : Option Value) (h : Heap) (L : List Loc) : Prop := ∃ b : Addr, v = some (.ref b) ∧ Fr n0 L ∧ Keep h0 h [] ∧ h0.size ≤ b ∧ Arv Z h b k1 .byte z vs (.int (0 : Int32))
set_option maxRecDepth 65536 in
set_option maxHeartbeats 40000000 in
theorem rm3 (l : Launch) (Z : State) (a0 : Array Value) (hw : ∀ d ∈ tables_1, d.before a0 Z = true) (ws : List Jvm.Cond) (a1 : Addr) (k1 : ClassId) (z : Int32) (vs : List Value) (h0 : Heap) (n0 : Nat) (Z0 : n0 ≤ h0.size) (V1 : Arv Z h0 a1 k1 .byte z vs (.int (0 : Int32))) (E1 : Exa Z h0 a1 "[B") (hcap : z.toNatClampNeg ≤ 3) :
    MetFree l (⟨"java/util/Arrays", "copyOf", "([BI)[B"⟩ : MethodName) (head1 (Jvm.Cond.code (⟨"java/util/Arrays", "copyOf", "([BI)[B"⟩ : MethodName) jdk_65_method_121_code 3 (some (.array .byte)) :: ws) ({ frames := 1, cells := 1, slots := 3, locals := 14 } : Room)) (fun a U => a = #[(.ref a1), (.int z)] ∧ Z.Warmed39 U.vm ∧ U.heap = h0) (fun _ _ _ _ _ => True) (fun _ U o U' => ∃ v L, o = .returned v ∧ Q3 Z a1 k1 z vs h0 n0 v U'.heap L ∧ FrameEnd U o U' L ({ frames := 1, cells := 1, slots := 3, locals := 14 } : Room).cells ({ frames := 1, cells := 1, slots := 3, locals := 14 } : Room).slots) := by
  refine MetFree.of_bodySF (plainFor_of_name pn_1) hisR ?_
  intro p e s m args below meth c s₁ Bd hml0 hP hK
  obtain ⟨rfl, hZ, hh⟩ := hP
  have hx := Bd.exec
  have hby := Bd.bytes
  have hml : c.maxLocals = 3 := hml0
  have hown : s.vm.findClass "java/util/Arrays" = some m.cls := findClass_of_methodNamed Bd.named
  have hnm := (name_of_methodNamed Bd.named Bd.method).1
  have X0 : Stand p l e ({ frames := 1, cells := 1, slots := 3, locals := 14 } : Room) s m #[(.ref a1), (.int z)] below meth c s₁ [] 0 0 := Stand.of_body Bd
  have e0 : s₁.heap = h0 := by rw [← hh, Bd.state]; rfl
  have N0 := Fr.nil n0
  have pre0 : ∀ t, Steps p.tables e below (s₁.setTop (mkF m 0 #[.val (.ref a1), .val (.int z), .unset] [])) t → Steps p.tables e below (s₁.setTop (entryFrame m #[(.ref a1), (.int z)] 3)) t := fun t k => castTop (ef_rm3 m a1 z) k
  obtain ⟨T107, h107, X107, e107, E107, A107, Ax107, st107⟩ := cloneH X0 hx hZ hown (hw _ (List.mem_of_getElem? (i := 13) rfl)) (hw _ (List.mem_of_getElem? (i := 14) rfl)) (hw _ (List.mem_of_getElem? (i := 18) rfl)) (hw _ (List.mem_of_getElem? (i := 16) rfl)) (hw _ (List.mem_of_getElem? (i := 17) rfl)) (hw _ (List.mem_of_getElem? (i := 19) rfl)) e0 V1.arh E1 (g := (mkF m 7 #[.val (.ref a1), .val (.int z), .unset] [(.ref a1)])) rfl (by rw [hml]; rfl) rfl (hb hby d3_7) (by decide) (W := 0) (cap := 3) (by show 2 * 0 + _ ≤ _; exact Nat.le_of_eq rfl) (by decide) hcap (by decide) (by decide)
  obtain ⟨b, gq107⟩ : ∃ z, z = h0.size := ⟨_, rfl⟩
  rw [← gq107] at A107 Ax107 st107
  have g_b : n0 ≤ b := Nat.le_trans Z0 (Nat.le_of_eq gq107.symm)
  have sz_b : h0.size ≤ b := Nat.le_trans (Keep.refl h0 []).1 (Nat.le_of_eq gq107.symm)
  have ne108 : a1 ≠ b := Nat.ne_of_lt (Nat.lt_of_lt_of_le V1.lt (Nat.le_of_eq gq107.symm))
  have f109 := (V1.ext E107)
  have f110 := (E1.ext E107)
  have K107 : Keep h0 h107 [] := (Keep.refl h0 []).ext E107
  have Z107 : n0 ≤ h107.size := Nat.le_trans Z0 E107.1
  have V107 : Arv Z h107 b k1 .byte z vs (.int (0 : Int32)) := A107
  obtain ⟨T111, X111, e111, st111⟩ := castY X107 hx hZ hown (hw _ (List.mem_of_getElem? (i := 20) rfl)) e107 (Ins.self Ax107) (g := (mkF m 10 #[.val (.ref a1), .val (.int z), .unset] [(.ref b)])) rfl rfl (hb hby d3_10)
  have pre112 : ∀ t, Steps p.tables e below (T111.setTop (mkF m 13 #[.val (.ref a1), .val (.int z), .unset] [(.ref b)])) t → Steps p.tables e below (s₁.setTop (entryFrame m #[(.ref a1), (.int z)] 3)) t := by
    intro t kt
    refine pre0 t ?_
    show Steps p.tables e below (s₁.setTop (mkF m 0 #[.val (.ref a1), .val (.int z), .unset] [])) _
    refine XS.iloadN X0.here hx rfl (hb hby d3_0) rfl ?_
    show Steps p.tables e below (s₁.setTop (mkF m 1 #[.val (.ref a1), .val (.int z), .unset] [(.int z)])) _
    refine XS.aloadN X0.here hx rfl (hb hby d3_1) rfl rfl ?_
    show Steps p.tables e below (s₁.setTop (mkF m 2 #[.val (.ref a1), .val (.int z), .unset] [(.ref a1), (.int z)])) _
    refine own_len X0 hx hZ e0 V1 (g := (mkF m 2 #[.val (.ref a1), .val (.int z), .unset] [(.ref a1), (.int z)])) rfl rfl (hb hby d3_2) _ ?_
    show Steps p.tables e below (s₁.setTop (mkF m 3 #[.val (.ref a1), .val (.int z), .unset] [(.int z), (.int z)])) _
    refine XS.icmpNo X0.here hx rfl (hb hby d3_3) rfl (teq rfl).2 ?_
    show Steps p.tables e below (s₁.setTop (mkF m 6 #[.val (.ref a1), .val (.int z), .unset] [])) _
    refine XS.aloadN X0.here hx rfl (hb hby d3_6) rfl rfl ?_
    show Steps p.tables e below (s₁.setTop (mkF m 7 #[.val (.ref a1), .val (.int z), .unset] [(.ref a1)])) _
    refine st107 _ ?_
    show Steps p.tables e below (T107.setTop (mkF m 10 #[.val (.ref a1), .val (.int z), .unset] [(.ref b)])) _
    refine st111 _ ?_
    exact kt
  obtain ⟨fsx, hr, hrun, hended, hW, hsame⟩ := X111.leave (v := some (.ref b)) (fun h => by rw [Bd.returns] at h; cases h)
  refine ⟨_, _, pre112 _ ?_, hrun, hended, _, _, rfl, ?_, ⟨_, rfl⟩, hW, hsame.mono (by decide) (by decide)⟩
  · jvm_step X111.here [X111.here.top, hx, (hb hby d3_13), X111.method', Bd.returns, Value.isRef, FieldType.isReference]
    first | (intro acts; rw [hr _ acts rfl rfl rfl]) | rw [hr _ _ rfl rfl rfl]
    exact Steps.refl _
  · show Q3 Z a1 k1 z vs h0 n0 _ T111.heap _
    rw [e111]
    exact ⟨b, rfl, N0, K107, sz_b, V107⟩
theorem d3_14 : decode jdk_65_method_121_code 14 = .ok (.iload_n 1, 1) := by decide +kernel
theorem d3_15 : decode jdk_65_method_121_code 15 = .ok (.newarray .byte, 2) := by decide +kernel
theorem d3_17 : decode jdk_65_method_121_code 17 = .ok (.astore_n 2, 1) := by decide +kernel
theorem d3_18 : decode jdk_65_method_121_code 18 = .ok (.aload_n 0, 1) := by decide +kernel
theorem d3_19 : decode jdk_65_method_121_code 19 = .ok (.iconst 0, 1) := by decide +kernel
theorem d3_20 : decode jdk_65_method_121_code 20 = .ok (.aload_n 2, 1) := by decide +kernel
theorem d3_21 : decode jdk_65_method_121_code 21 = .ok (.iconst 0, 1) := by decide +kernel
theorem d3_22 : decode jdk_65_method_121_code 22 = .ok (.aload_n 0, 1) := by decide +kernel
theorem d3_23 : decode jdk_65_method_121_code 23 = .ok (.arraylength, 1) := by decide +kernel
theorem d3_24 : decode jdk_65_method_121_code 24 = .ok (.iload_n 1, 1) := by decide +kernel
theorem pd_0 : parseMethodDescriptor "(II)I" = some ⟨[.int, .int], some .int⟩ := by decide +kernel
theorem d3_25 : decode jdk_65_method_121_code 25 = .ok (.invokestatic 304, 3) := by decide +kernel
theorem d3_28 : decode jdk_65_method_121_code 28 = .ok (.invokestatic 150, 3) := by decide +kernel
theorem d3_31 : decode jdk_65_method_121_code 31 = .ok (.aload_n 2, 1) := by decide +kernel
theorem d3_32 : decode jdk_65_method_121_code 32 = .ok (.areturn, 1) := by decide +kernel
theorem ef_rm4 (m : MethodId) (x0 : Addr) (x1 : Int32) : entryFrame m #[(.ref x0), (.int x1)] 3 = mkF m 0 #[.val (.ref x0), .val (.int x1), .unset] [] := by first | (simp [entryFrame, mkF, argsToLocals, Value.category]; done) | rfl
def Q4 (Z : State) (a1 : Addr) (k1 : ClassId) (z : Int32) (vs : List Value) (nn : Int32) (h0 : Heap) (n0 : Nat) (v : Option Value) (h : Heap) (L : List Loc) : Prop := ∃ (b : Addr) (kb : ClassId), v = some (.ref b) ∧ Fr n0 L ∧ Keep h0 h [] ∧ h0.size ≤ b ∧ Arv Z h b kb .byte nn (own_pre vs (.int (0 : Int32)) nn.toNatClampNeg) (.int (0 : Int32))
set_option maxRecDepth 65536 in
set_option maxHeartbeats 40000000 in
theorem rm4 (l : Launch) (Z : State) (a0 : Array Value) (hw : ∀ d ∈ tables_1, d.before a0 Z = true) (ws : List Jvm.Cond) (a1 : Addr) (k1 : ClassId) (z : Int32) (vs : List Value) (nn : Int32) (h0 : Heap) (n0 : Nat) (Z0 : n0 ≤ h0.size) (V1 : Arv Z h0 a1 k1 .byte z vs (.int (0 : Int32))) (hn0 : ¬ nn < 0) (hnz : nn < z) (hcap : nn.toNatClampNeg ≤ 3) :
    MetFree l (⟨"java/util/Arrays", "copyOf", "([BI)[B"⟩ : MethodName) (head1 (Jvm.Cond.code (⟨"java/util/Arrays", "copyOf", "([BI)[B"⟩ : MethodName) jdk_65_method_121_code 3 (some (.array .byte)) :: ws) ({ frames := 1, cells := 1, slots := 3, locals := 18 } : Room)) (fun a U => a = #[(.ref a1), (.int nn)] ∧ Z.Warmed39 U.vm ∧ U.heap = h0) (fun _ _ _ _ _ => True) (fun _ U o U' => ∃ v L, o = .returned v ∧ Q4 Z a1 k1 z vs nn h0 n0 v U'.heap L ∧ FrameEnd U o U' L ({ frames := 1, cells := 1, slots := 3, locals := 18 } : Room).cells ({ frames := 1, cells := 1, slots := 3, locals := 18 } : Room).slots) := by
  refine MetFree.of_bodySF (plainFor_of_name pn_1) hisR ?_
  intro p e s m args below meth c s₁ Bd hml0 hP hK
  obtain ⟨rfl, hZ, hh⟩ := hP
  have hx := Bd.exec
  have hby := Bd.bytes
  have hml : c.maxLocals = 3 := hml0
  have hown : s.vm.findClass "java/util/Arrays" = some m.cls := findClass_of_methodNamed Bd.named
  have hnm := (name_of_methodNamed Bd.named Bd.method).1
  have X0 : Stand p l e ({ frames := 1, cells := 1, slots := 3, locals := 18 } : Room) s m #[(.ref a1), (.int nn)] below meth c s₁ [] 0 0 := Stand.of_body Bd
  have e0 : s₁.heap = h0 := by rw [← hh, Bd.state]; rfl
  have N0 := Fr.nil n0
  have pre0 : ∀ t, Steps p.tables e below (s₁.setTop (mkF m 0 #[.val (.ref a1), .val (.int nn), .unset] [])) t → Steps p.tables e below (s₁.setTop (entryFrame m #[(.ref a1), (.int nn)] 3)) t := fun t k => castTop (ef_rm4 m a1 nn) k
  obtain ⟨T113, h113, k113, X113, e113, E113, A113, Ax113, st113⟩ := newPE X0 hx hZ (hw _ (List.mem_of_getElem? (i := 4) rfl)) e0 (g := (mkF m 15 #[.val (.ref a1), .val (.int nn), .unset] [(.int nn)])) rfl (hb hby d3_15) rfl hn0 (cap := 3) hcap (by decide) (by decide) (by decide) (ad := "[B") rfl
  obtain ⟨b, gq113⟩ : ∃ z, z = h0.size := ⟨_, rfl⟩
  rw [← gq113] at A113 Ax113 st113
  have g_b : n0 ≤ b := Nat.le_trans Z0 (Nat.le_of_eq gq113.symm)
  have sz_b : h0.size ≤ b := Nat.le_trans (Keep.refl h0 []).1 (Nat.le_of_eq gq113.symm)
  have ne114 : a1 ≠ b := Nat.ne_of_lt (Nat.lt_of_lt_of_le V1.lt (Nat.le_of_eq gq113.symm))
  have f115 := (V1.ext E113)
  have K113 : Keep h0 h113 [] := (Keep.refl h0 []).ext E113
  have Z113 : n0 ≤ h113.size := Nat.le_trans Z0 E113.1
  have V113 : Arv Z h113 b k113 .byte nn ([] ++ List.replicate nn.toNatClampNeg (.int (0 : Int32))) (.int (0 : Int32)) := (Arv.new A113 hn0).pad (pad_rep [] (.int (0 : Int32)) nn.toNatClampNeg)
  obtain ⟨_, _, ⟨T116, L116, k116, n116⟩, -, X116, ⟨Lc116, hQ116, l116, y116, z116⟩, st116⟩ := Jvm.LawKit.callS X113 hx (y := (⟨"java/lang/Math", "min", "(II)I"⟩ : MethodName)) hown (mvT hZ (hw _ (List.mem_of_getElem? (i := 22) rfl))) (mvT hZ (hw _ (List.mem_of_getElem? (i := 23) rfl))) (mvT hZ (hw _ (List.mem_of_getElem? (i := 24) rfl))) (mvT hZ (hw _ (List.mem_of_getElem? (i := 25) rfl))) (by decide) (backOf (W := 4) (rm2 l Z a0 hw [] z nn h113 n0 Z113) hZ (hw _ (List.mem_of_getElem? (i := 25) rfl)) (hw _ (List.mem_of_getElem? (i := 24) rfl)) (by decide) (by decide)) (g := (mkF m 25 #[.val (.ref a1), .val (.int nn), .val (.ref b)] [(.int nn), (.int z), (.int (0 : Int32)), (.ref b), (.int (0 : Int32)), (.ref a1)])) rfl (by rw [hml]; rfl) (argsL := [(.int z), (.int nn)]) (rest := [(.int (0 : Int32)), (.ref b), (.int (0 : Int32)), (.ref a1)]) (lenOf pd_0 rfl) rfl (by show 2 * 0 + _ ≤ _; exact Nat.le_of_eq rfl) (hb hby d3_25) (fun _ _ => ⟨rfl, e113, (by decide : 1 + 0 ≤ _), (by decide : 3 + 0 ≤ _)⟩)
  dsimp only [Pt.U, Pt.locs, Pt.cells, Pt.slots] at X116 l116 y116 z116 st116 hQ116
  subst l116 y116 z116
  obtain ⟨rfl, Nq116, eq116⟩ := hQ116
  have Nf116 := Fr.app N0 Nq116
  have pre117 : ∀ t, Steps p.tables e below (T116.setTop (mkF m 28 #[.val (.ref a1), .val (.int nn), .val (.ref b)] [(.int (if nn < z then nn else z)), (.int (0 : Int32)), (.ref b), (.int (0 : Int32)), (.ref a1)])) t → Steps p.tables e below (s₁.setTop (entryFrame m #[(.ref a1), (.int nn)] 3)) t := by
    intro t kt
    refine pre0 t ?_
    show Steps p.tables e below (s₁.setTop (mkF m 0 #[.val (.ref a1), .val (.int nn), .unset] [])) _
    refine XS.iloadN X0.here hx rfl (hb hby d3_0) rfl ?_
    show Steps p.tables e below (s₁.setTop (mkF m 1 #[.val (.ref a1), .val (.int nn), .unset] [(.int nn)])) _
    refine XS.aloadN X0.here hx rfl (hb hby d3_1) rfl rfl ?_
    show Steps p.tables e below (s₁.setTop (mkF m 2 #[.val (.ref a1), .val (.int nn), .unset] [(.ref a1), (.int nn)])) _
    refine own_len X0 hx hZ e0 V1 (g := (mkF m 2 #[.val (.ref a1), .val (.int nn), .unset] [(.ref a1), (.int nn)])) rfl rfl (hb hby d3_2) _ ?_
    show Steps p.tables e below (s₁.setTop (mkF m 3 #[.val (.ref a1), .val (.int nn), .unset] [(.int z), (.int nn)])) _
    refine XS.icmpYes X0.here hx rfl (pc0 := 3) (pc' := 14) rfl (hb hby d3_3) rfl (feq (fun q => by rw [q, Int32.lt_iff_toInt_lt] at hnz; omega)).2 (by decide) (by decide) ?_
    show Steps p.tables e below (s₁.setTop (mkF m 14 #[.val (.ref a1), .val (.int nn), .unset] [])) _
    refine XS.iloadN X0.here hx rfl (hb hby d3_14) rfl ?_
    show Steps p.tables e below (s₁.setTop (mkF m 15 #[.val (.ref a1), .val (.int nn), .unset] [(.int nn)])) _
    refine st113 _ ?_
    show Steps p.tables e below (T113.setTop (mkF m 17 #[.val (.ref a1), .val (.int nn), .unset] [(.ref b)])) _
    refine XS.astoreN X113.here hx rfl (hb hby d3_17) rfl rfl (l' := #[.val (.ref a1), .val (.int nn), .val (.ref b)]) rfl ?_
    show Steps p.tables e below (T113.setTop (mkF m 18 #[.val (.ref a1), .val (.int nn), .val (.ref b)] [])) _
    refine XS.aloadN X113.here hx rfl (hb hby d3_18) rfl rfl ?_
    show Steps p.tables e below (T113.setTop (mkF m 19 #[.val (.ref a1), .val (.int nn), .val (.ref b)] [(.ref a1)])) _
    refine XS.iconst X113.here hx rfl (hb hby d3_19) ?_
    show Steps p.tables e below (T113.setTop (mkF m 20 #[.val (.ref a1), .val (.int nn), .val (.ref b)] [(.int (0 : Int32)), (.ref a1)])) _
    refine XS.aloadN X113.here hx rfl (hb hby d3_20) rfl rfl ?_
    show Steps p.tables e below (T113.setTop (mkF m 21 #[.val (.ref a1), .val (.int nn), .val (.ref b)] [(.ref b), (.int (0 : Int32)), (.ref a1)])) _
    refine XS.iconst X113.here hx rfl (hb hby d3_21) ?_
    show Steps p.tables e below (T113.setTop (mkF m 22 #[.val (.ref a1), .val (.int nn), .val (.ref b)] [(.int (0 : Int32)), (.ref b), (.int (0 : Int32)), (.ref a1)])) _
    refine XS.aloadN X113.here hx rfl (hb hby d3_22) rfl rfl ?_
    show Steps p.tables e below (T113.setTop (mkF m 23 #[.val (.ref a1), .val (.int nn), .val (.ref b)] [(.ref a1), (.int (0 : Int32)), (.ref b), (.int (0 : Int32)), (.ref a1)])) _
    refine own_len X113 hx hZ e113 f115 (g := (mkF m 23 #[.val (.ref a1), .val (.int nn), .val (.ref b)] [(.ref a1), (.int (0 : Int32)), (.ref b), (.int (0 : Int32)), (.ref a1)])) rfl rfl (hb hby d3_23) _ ?_
    show Steps p.tables e below (T113.setTop (mkF m 24 #[.val (.ref a1), .val (.int nn), .val (.ref b)] [(.int z), (.int (0 : Int32)), (.ref b), (.int (0 : Int32)), (.ref a1)])) _
    refine XS.iloadN X113.here hx rfl (hb hby d3_24) rfl ?_
    show Steps p.tables e below (T113.setTop (mkF m 25 #[.val (.ref a1), .val (.int nn), .val (.ref b)] [(.int nn), (.int z), (.int (0 : Int32)), (.ref b), (.int (0 : Int32)), (.ref a1)])) _
    refine st116 _ ?_
    exact kt
  have pre118 : ∀ t, Steps p.tables e below (T116.setTop (mkF m 28 #[.val (.ref a1), .val (.int nn), .val (.ref b)] [(.int nn), (.int (0 : Int32)), (.ref b), (.int (0 : Int32)), (.ref a1)])) t → Steps p.tables e below (s₁.setTop (entryFrame m #[(.ref a1), (.int nn)] 3)) t := by
    intro t kt
    have hsv : (if nn < z then nn else z) = nn := if_pos hnz
    refine pre117 t ?_
    rw [hsv]
    exact kt
  obtain ⟨T119, h119, L119, X119, e119, Nf119, Kq119, V119, st119⟩ := cpA X116 hx hZ hown (hw _ (List.mem_of_getElem? (i := 26) rfl)) (hw _ (List.mem_of_getElem? (i := 29) rfl)) (hw _ (List.mem_of_getElem? (i := 27) rfl)) (hw _ (List.mem_of_getElem? (i := 28) rfl)) eq116 (us := own_pre vs (.int (0 : Int32)) nn.toNatClampNeg) f115 V113 (Or.inl ⟨rfl, rfl⟩) (by decide) (by decide) hn0 (own_le hnz) (own_le' nn) rfl (by rw [List.nil_append, List.length_replicate]; exact own_le' nn) Nf116 g_b (g := (mkF m 28 #[.val (.ref a1), .val (.int nn), .val (.ref b)] [(.int nn), (.int (0 : Int32)), (.ref b), (.int (0 : Int32)), (.ref a1)])) rfl (by rw [hml]; rfl) rfl (hb hby d3_28) (by decide) (W := 0) (by show 2 * 0 + _ ≤ _; exact Nat.le_of_eq rfl) (by decide)
  have f120 := (f115.keep Kq119 (ninS ne114 nin0))
  have f121 := (Ax113.keep Kq119)
  have Z119 : n0 ≤ h119.size := Nat.le_trans Z113 Kq119.1
  have K119 : Keep h0 h119 [] := K113.trans Kq119 (allS (P := fun x => x ∈ ([] : List Addr) ∨ h0.size ≤ x) (Or.inr sz_b) all0)
  rw [own_conv] at V119
  have pre122 : ∀ t, Steps p.tables e below (T119.setTop (mkF m 32 #[.val (.ref a1), .val (.int nn), .val (.ref b)] [(.ref b)])) t → Steps p.tables e below (s₁.setTop (entryFrame m #[(.ref a1), (.int nn)] 3)) t := by
    intro t kt
    refine pre118 t ?_
    show Steps p.tables e below (T116.setTop (mkF m 28 #[.val (.ref a1), .val (.int nn), .val (.ref b)] [(.int nn), (.int (0 : Int32)), (.ref b), (.int (0 : Int32)), (.ref a1)])) _
    refine st119 _ ?_
    show Steps p.tables e below (T119.setTop (mkF m 31 #[.val (.ref a1), .val (.int nn), .val (.ref b)] [])) _
    refine XS.aloadN X119.here hx rfl (hb hby d3_31) rfl rfl ?_
    exact kt
  obtain ⟨fsx, hr, hrun, hended, hW, hsame⟩ := X119.leave (v := some (.ref b)) (fun h => by rw [Bd.returns] at h; cases h)
  refine ⟨_, _, pre122 _ ?_, hrun, hended, _, _, rfl, ?_, ⟨_, rfl⟩, hW, hsame.mono (by decide) (by decide)⟩
  · jvm_step X119.here [X119.here.top, hx, (hb hby d3_32), X119.method', Bd.returns, Value.isRef, FieldType.isReference]
    first | (intro acts; rw [hr _ acts rfl rfl rfl]) | rw [hr _ _ rfl rfl rfl]
    exact Steps.refl _
  · show Q4 Z a1 k1 z vs nn h0 n0 _ T119.heap _
    rw [e119]
    exact ⟨b, _, rfl, Nf119, K119, sz_b, V119⟩
theorem d2_0 : decode prog_82_method_3_code 0 = .ok (.aload_n 0, 1) := by decide +kernel
theorem d2_1 : decode prog_82_method_3_code 1 = .ok (.arraylength, 1) := by decide +kernel
theorem d2_2 : decode prog_82_method_3_code 2 = .ok (.iconst 1, 1) := by decide +kernel
theorem d2_3 : decode prog_82_method_3_code 3 = .ok (.isub, 1) := by decide +kernel
theorem d2_4 : decode prog_82_method_3_code 4 = .ok (.istore_n 1, 1) := by decide +kernel
theorem d2_5 : decode prog_82_method_3_code 5 = .ok (.iload_n 1, 1) := by decide +kernel
theorem d2_6 : decode prog_82_method_3_code 6 = .ok (.ifCond .lt 34, 3) := by decide +kernel
theorem d2_40 : decode prog_82_method_3_code 40 = .ok (.aconst_null, 1) := by decide +kernel
theorem d2_41 : decode prog_82_method_3_code 41 = .ok (.areturn, 1) := by decide +kernel
theorem pn_2 : plainName "com/example/tessera/tessera/storage/Prefixes" = true := by first | (simp [plainName, overriddenIn]; done) | decide +kernel
theorem ef_rmE0n (m : MethodId) (x0 : Addr) : entryFrame m #[(.ref x0)] 3 = mkF m 0 #[.val (.ref x0), .unset, .unset] [] := by first | (simp [entryFrame, mkF, argsToLocals, Value.category]; done) | rfl
def QE0n (Z : State) (a1 : Addr) (k1 : ClassId)  (h0 : Heap) (n0 : Nat) (v : Option Value) (h : Heap) (L : List Loc) : Prop := v = some .null ∧ Fr n0 L ∧ h = h0
set_option maxRecDepth 65536 in
set_option maxHeartbeats 40000000 in
theorem rmE0n (l : Launch) (Z : State) (a0 : Array Value) (hw : ∀ d ∈ tables_1, d.before a0 Z = true) (ws : List Jvm.Cond) (a1 : Addr) (k1 : ClassId)  (h0 : Heap) (n0 : Nat) (Z0 : n0 ≤ h0.size) (V1 : Arv Z h0 a1 k1 .byte (0 : Int32) [] (.int (0 : Int32))) (E1 : Exa Z h0 a1 "[B")  :
    MetFree l (⟨"com/example/tessera/tessera/storage/Prefixes", "end", "([B)[B"⟩ : MethodName) (head1 (Jvm.Cond.code (⟨"com/example/tessera/tessera/storage/Prefixes", "end", "([B)[B"⟩ : MethodName) prog_82_method_3_code 3 (some (.array .byte)) :: ws) ({ frames := 0, cells := 0, slots := 0, locals := 0 } : Room)) (fun a U => a = #[(.ref a1)] ∧ Z.Warmed39 U.vm ∧ U.heap = h0) (fun _ _ _ _ _ => True) (fun _ U o U' => ∃ v L, o = .returned v ∧ QE0n Z a1 k1 h0 n0 v U'.heap L ∧ FrameEnd U o U' L ({ frames := 0, cells := 0, slots := 0, locals := 0 } : Room).cells ({ frames := 0, cells := 0, slots := 0, locals := 0 } : Room).slots) := by
  refine MetFree.of_bodySF (plainFor_of_name pn_2) hisR ?_
  intro p e s m args below meth c s₁ Bd hml0 hP hK
  obtain ⟨rfl, hZ, hh⟩ := hP
  have hx := Bd.exec
  have hby := Bd.bytes
  have hml : c.maxLocals = 3 := hml0
  have hown : s.vm.findClass "com/example/tessera/tessera/storage/Prefixes" = some m.cls := findClass_of_methodNamed Bd.named
  have hnm := (name_of_methodNamed Bd.named Bd.method).1
  have X0 : Stand p l e ({ frames := 0, cells := 0, slots := 0, locals := 0 } : Room) s m #[(.ref a1)] below meth c s₁ [] 0 0 := Stand.of_body Bd
  have e0 : s₁.heap = h0 := by rw [← hh, Bd.state]; rfl
  have N0 := Fr.nil n0
  have pre0 : ∀ t, Steps p.tables e below (s₁.setTop (mkF m 0 #[.val (.ref a1), .unset, .unset] [])) t → Steps p.tables e below (s₁.setTop (entryFrame m #[(.ref a1)] 3)) t := fun t k => castTop (ef_rmE0n m a1) k
  have pre123 : ∀ t, Steps p.tables e below (s₁.setTop (mkF m 41 #[.val (.ref a1), .val (.int (-1 : Int32)), .unset] [.null])) t → Steps p.tables e below (s₁.setTop (entryFrame m #[(.ref a1)] 3)) t := by
    intro t kt
    refine pre0 t ?_
    show Steps p.tables e below (s₁.setTop (mkF m 0 #[.val (.ref a1), .unset, .unset] [])) _
    refine XS.aloadN X0.here hx rfl (hb hby d2_0) rfl rfl ?_
    show Steps p.tables e below (s₁.setTop (mkF m 1 #[.val (.ref a1), .unset, .unset] [(.ref a1)])) _
    refine own_len X0 hx hZ e0 V1 (g := (mkF m 1 #[.val (.ref a1), .unset, .unset] [(.ref a1)])) rfl rfl (hb hby d2_1) _ ?_
    show Steps p.tables e below (s₁.setTop (mkF m 2 #[.val (.ref a1), .unset, .unset] [(.int (0 : Int32))])) _
    refine XS.iconst X0.here hx rfl (hb hby d2_2) ?_
    show Steps p.tables e below (s₁.setTop (mkF m 3 #[.val (.ref a1), .unset, .unset] [(.int (1 : Int32)), (.int (0 : Int32))])) _
    refine XS.isub X0.here hx rfl (hb hby d2_3) rfl ?_
    show Steps p.tables e below (s₁.setTop (mkF m 4 #[.val (.ref a1), .unset, .unset] [(.int (-1 : Int32))])) _
    refine XS.istoreN X0.here hx rfl (hb hby d2_4) rfl (l' := #[.val (.ref a1), .val (.int (-1 : Int32)), .unset]) rfl ?_
    show Steps p.tables e below (s₁.setTop (mkF m 5 #[.val (.ref a1), .val (.int (-1 : Int32)), .unset] [])) _
    refine XS.iloadN X0.here hx rfl (hb hby d2_5) rfl ?_
    show Steps p.tables e below (s₁.setTop (mkF m 6 #[.val (.ref a1), .val (.int (-1 : Int32)), .unset] [(.int (-1 : Int32))])) _
    refine XS.ifYes X0.here hx rfl (pc0 := 6) (pc' := 40) rfl (hb hby d2_6) rfl ((if0 _ _).trans (tlt (by decide)).1) (by decide) (by decide) ?_
    show Steps p.tables e below (s₁.setTop (mkF m 40 #[.val (.ref a1), .val (.int (-1 : Int32)), .unset] [])) _
    refine XS.aconstNull X0.here hx rfl (hb hby d2_40) ?_
    exact kt
  obtain ⟨fsx, hr, hrun, hended, hW, hsame⟩ := X0.leave (v := some .null) (fun h => by rw [Bd.returns] at h; cases h)
  refine ⟨_, _, pre123 _ ?_, hrun, hended, _, _, rfl, ?_, ⟨_, rfl⟩, hW, hsame.mono (by decide) (by decide)⟩
  · jvm_step X0.here [X0.here.top, hx, (hb hby d2_41), X0.method', Bd.returns, Value.isRef, FieldType.isReference]
    first | (intro acts; rw [hr _ acts rfl rfl rfl]) | rw [hr _ _ rfl rfl rfl]
    exact Steps.refl _
  · show QE0n Z a1 k1 h0 n0 _ s₁.heap _
    rw [e0]
    exact ⟨rfl, N0, rfl⟩
theorem d2_9 : decode prog_82_method_3_code 9 = .ok (.aload_n 0, 1) := by decide +kernel
theorem d2_10 : decode prog_82_method_3_code 10 = .ok (.iload_n 1, 1) := by decide +kernel
theorem d2_11 : decode prog_82_method_3_code 11 = .ok (.baload, 1) := by decide +kernel
theorem d2_12 : decode prog_82_method_3_code 12 = .ok (.iconst (-1), 1) := by decide +kernel
theorem d2_13 : decode prog_82_method_3_code 13 = .ok (.if_icmp .eq 21, 3) := by decide +kernel
theorem d2_34 : decode prog_82_method_3_code 34 = .ok (.iinc 1 (-1), 3) := by decide +kernel
theorem d2_37 : decode prog_82_method_3_code 37 = .ok (.goto (-32), 3) := by decide +kernel
theorem ef_rmE1n (m : MethodId) (x0 : Addr) : entryFrame m #[(.ref x0)] 3 = mkF m 0 #[.val (.ref x0), .unset, .unset] [] := by first | (simp [entryFrame, mkF, argsToLocals, Value.category]; done) | rfl
def QE1n (Z : State) (a1 : Addr) (k1 : ClassId) (x0 : Int32) (h0 : Heap) (n0 : Nat) (v : Option Value) (h : Heap) (L : List Loc) : Prop := v = some .null ∧ Fr n0 L ∧ h = h0
set_option maxRecDepth 65536 in
set_option maxHeartbeats 40000000 in
theorem rmE1n (l : Launch) (Z : State) (a0 : Array Value) (hw : ∀ d ∈ tables_1, d.before a0 Z = true) (ws : List Jvm.Cond) (a1 : Addr) (k1 : ClassId) (x0 : Int32) (h0 : Heap) (n0 : Nat) (Z0 : n0 ≤ h0.size) (V1 : Arv Z h0 a1 k1 .byte (1 : Int32) [(.int x0)] (.int (0 : Int32))) (E1 : Exa Z h0 a1 "[B") (ex0 : x0 = (-1 : Int32)) :
    MetFree l (⟨"com/example/tessera/tessera/storage/Prefixes", "end", "([B)[B"⟩ : MethodName) (head1 (Jvm.Cond.code (⟨"com/example/tessera/tessera/storage/Prefixes", "end", "([B)[B"⟩ : MethodName) prog_82_method_3_code 3 (some (.array .byte)) :: ws) ({ frames := 0, cells := 0, slots := 0, locals := 0 } : Room)) (fun a U => a = #[(.ref a1)] ∧ Z.Warmed39 U.vm ∧ U.heap = h0) (fun _ _ _ _ _ => True) (fun _ U o U' => ∃ v L, o = .returned v ∧ QE1n Z a1 k1 x0 h0 n0 v U'.heap L ∧ FrameEnd U o U' L ({ frames := 0, cells := 0, slots := 0, locals := 0 } : Room).cells ({ frames := 0, cells := 0, slots := 0, locals := 0 } : Room).slots) := by
  refine MetFree.of_bodySF (plainFor_of_name pn_2) hisR ?_
  intro p e s m args below meth c s₁ Bd hml0 hP hK
  obtain ⟨rfl, hZ, hh⟩ := hP
  have hx := Bd.exec
  have hby := Bd.bytes
  have hml : c.maxLocals = 3 := hml0
  have hown : s.vm.findClass "com/example/tessera/tessera/storage/Prefixes" = some m.cls := findClass_of_methodNamed Bd.named
  have hnm := (name_of_methodNamed Bd.named Bd.method).1
  have X0 : Stand p l e ({ frames := 0, cells := 0, slots := 0, locals := 0 } : Room) s m #[(.ref a1)] below meth c s₁ [] 0 0 := Stand.of_body Bd
  have e0 : s₁.heap = h0 := by rw [← hh, Bd.state]; rfl
  have N0 := Fr.nil n0
  have pre0 : ∀ t, Steps p.tables e below (s₁.setTop (mkF m 0 #[.val (.ref a1), .unset, .unset] [])) t → Steps p.tables e below (s₁.setTop (entryFrame m #[(.ref a1)] 3)) t := fun t k => castTop (ef_rmE1n m a1) k
  have pre124 : ∀ t, Steps p.tables e below (s₁.setTop (mkF m 41 #[.val (.ref a1), .val (.int (-1 : Int32)), .unset] [.null])) t → Steps p.tables e below (s₁.setTop (entryFrame m #[(.ref a1)] 3)) t := by
    intro t kt
    refine pre0 t ?_
    show Steps p.tables e below (s₁.setTop (mkF m 0 #[.val (.ref a1), .unset, .unset] [])) _
    refine XS.aloadN X0.here hx rfl (hb hby d2_0) rfl rfl ?_
    show Steps p.tables e below (s₁.setTop (mkF m 1 #[.val (.ref a1), .unset, .unset] [(.ref a1)])) _
    refine own_len X0 hx hZ e0 V1 (g := (mkF m 1 #[.val (.ref a1), .unset, .unset] [(.ref a1)])) rfl rfl (hb hby d2_1) _ ?_
    show Steps p.tables e below (s₁.setTop (mkF m 2 #[.val (.ref a1), .unset, .unset] [(.int (1 : Int32))])) _
    refine XS.iconst X0.here hx rfl (hb hby d2_2) ?_
    show Steps p.tables e below (s₁.setTop (mkF m 3 #[.val (.ref a1), .unset, .unset] [(.int (1 : Int32)), (.int (1 : Int32))])) _
    refine XS.isub X0.here hx rfl (hb hby d2_3) rfl ?_
    show Steps p.tables e below (s₁.setTop (mkF m 4 #[.val (.ref a1), .unset, .unset] [(.int (0 : Int32))])) _
    refine XS.istoreN X0.here hx rfl (hb hby d2_4) rfl (l' := #[.val (.ref a1), .val (.int (0 : Int32)), .unset]) rfl ?_
    show Steps p.tables e below (s₁.setTop (mkF m 5 #[.val (.ref a1), .val (.int (0 : Int32)), .unset] [])) _
    refine XS.iloadN X0.here hx rfl (hb hby d2_5) rfl ?_
    show Steps p.tables e below (s₁.setTop (mkF m 6 #[.val (.ref a1), .val (.int (0 : Int32)), .unset] [(.int (0 : Int32))])) _
    refine XS.ifNo X0.here hx rfl (hb hby d2_6) rfl ((if0 _ _).trans (flt (by decide)).1) ?_
    show Steps p.tables e below (s₁.setTop (mkF m 9 #[.val (.ref a1), .val (.int (0 : Int32)), .unset] [])) _
    refine XS.aloadN X0.here hx rfl (hb hby d2_9) rfl rfl ?_
    show Steps p.tables e below (s₁.setTop (mkF m 10 #[.val (.ref a1), .val (.int (0 : Int32)), .unset] [(.ref a1)])) _
    refine XS.iloadN X0.here hx rfl (hb hby d2_10) rfl ?_
    show Steps p.tables e below (s₁.setTop (mkF m 11 #[.val (.ref a1), .val (.int (0 : Int32)), .unset] [(.int (0 : Int32)), (.ref a1)])) _
    refine own_bal X0 hx hZ e0 V1 (j := (0 : Int32)) ⟨by decide, by decide⟩ (v := (.int x0)) rfl (g := (mkF m 11 #[.val (.ref a1), .val (.int (0 : Int32)), .unset] [(.int (0 : Int32)), (.ref a1)])) rfl rfl (hb hby d2_11) _ ?_
    show Steps p.tables e below (s₁.setTop (mkF m 12 #[.val (.ref a1), .val (.int (0 : Int32)), .unset] [(.int x0)])) _
    refine XS.iconst X0.here hx rfl (hb hby d2_12) ?_
    show Steps p.tables e below (s₁.setTop (mkF m 13 #[.val (.ref a1), .val (.int (0 : Int32)), .unset] [(.int (-1 : Int32)), (.int x0)])) _
    refine XS.icmpYes X0.here hx rfl (pc0 := 13) (pc' := 34) rfl (hb hby d2_13) rfl (teq ex0).1 (by decide) (by decide) ?_
    show Steps p.tables e below (s₁.setTop (mkF m 34 #[.val (.ref a1), .val (.int (0 : Int32)), .unset] [])) _
    refine XS.iinc X0.here hx rfl (hb hby d2_34) rfl (l' := #[.val (.ref a1), .val (.int (-1 : Int32)), .unset]) rfl ?_
    show Steps p.tables e below (s₁.setTop (mkF m 37 #[.val (.ref a1), .val (.int (-1 : Int32)), .unset] [])) _
    refine XS.goto X0.here hx rfl (pc0 := 37) (pc' := 5) rfl (hb hby d2_37) (by decide) (by decide) ?_
    show Steps p.tables e below (s₁.setTop (mkF m 5 #[.val (.ref a1), .val (.int (-1 : Int32)), .unset] [])) _
    refine XS.iloadN X0.here hx rfl (hb hby d2_5) rfl ?_
    show Steps p.tables e below (s₁.setTop (mkF m 6 #[.val (.ref a1), .val (.int (-1 : Int32)), .unset] [(.int (-1 : Int32))])) _
    refine XS.ifYes X0.here hx rfl (pc0 := 6) (pc' := 40) rfl (hb hby d2_6) rfl ((if0 _ _).trans (tlt (by decide)).1) (by decide) (by decide) ?_
    show Steps p.tables e below (s₁.setTop (mkF m 40 #[.val (.ref a1), .val (.int (-1 : Int32)), .unset] [])) _
    refine XS.aconstNull X0.here hx rfl (hb hby d2_40) ?_
    exact kt
  obtain ⟨fsx, hr, hrun, hended, hW, hsame⟩ := X0.leave (v := some .null) (fun h => by rw [Bd.returns] at h; cases h)
  refine ⟨_, _, pre124 _ ?_, hrun, hended, _, _, rfl, ?_, ⟨_, rfl⟩, hW, hsame.mono (by decide) (by decide)⟩
  · jvm_step X0.here [X0.here.top, hx, (hb hby d2_41), X0.method', Bd.returns, Value.isRef, FieldType.isReference]
    first | (intro acts; rw [hr _ acts rfl rfl rfl]) | rw [hr _ _ rfl rfl rfl]
    exact Steps.refl _
  · show QE1n Z a1 k1 x0 h0 n0 _ s₁.heap _
    rw [e0]
    exact ⟨rfl, N0, rfl⟩
theorem d2_16 : decode prog_82_method_3_code 16 = .ok (.aload_n 0, 1) := by decide +kernel
theorem d2_17 : decode prog_82_method_3_code 17 = .ok (.iload_n 1, 1) := by decide +kernel
theorem d2_18 : decode prog_82_method_3_code 18 = .ok (.iconst 1, 1) := by decide +kernel
theorem d2_19 : decode prog_82_method_3_code 19 = .ok (.iadd, 1) := by decide +kernel
theorem pd_1 : parseMethodDescriptor "([BI)[B" = some ⟨[(.array .byte), .int], some (.array .byte)⟩ := by decide +kernel
theorem d2_20 : decode prog_82_method_3_code 20 = .ok (.invokestatic 13, 3) := by decide +kernel
theorem d2_23 : decode prog_82_method_3_code 23 = .ok (.astore_n 2, 1) := by decide +kernel
theorem d2_24 : decode prog_82_method_3_code 24 = .ok (.aload_n 2, 1) := by decide +kernel
theorem d2_25 : decode prog_82_method_3_code 25 = .ok (.iload_n 1, 1) := by decide +kernel
theorem d2_26 : decode prog_82_method_3_code 26 = .ok (.dup2, 1) := by decide +kernel
theorem d2_27 : decode prog_82_method_3_code 27 = .ok (.baload, 1) := by decide +kernel
theorem d2_28 : decode prog_82_method_3_code 28 = .ok (.iconst 1, 1) := by decide +kernel
theorem d2_29 : decode prog_82_method_3_code 29 = .ok (.iadd, 1) := by decide +kernel
theorem d2_30 : decode prog_82_method_3_code 30 = .ok (.i2b, 1) := by decide +kernel
theorem d2_31 : decode prog_82_method_3_code 31 = .ok (.bastore, 1) := by decide +kernel
theorem d2_32 : decode prog_82_method_3_code 32 = .ok (.aload_n 2, 1) := by decide +kernel
theorem d2_33 : decode prog_82_method_3_code 33 = .ok (.areturn, 1) := by decide +kernel
theorem ef_rmE10 (m : MethodId) (x0 : Addr) : entryFrame m #[(.ref x0)] 3 = mkF m 0 #[.val (.ref x0), .unset, .unset] [] := by first | (simp [entryFrame, mkF, argsToLocals, Value.category]; done) | rfl
def QE10 (Z : State) (a1 : Addr) (k1 : ClassId) (x0 : Int32) (h0 : Heap) (n0 : Nat) (v : Option Value) (h : Heap) (L : List Loc) : Prop := ∃ (b : Addr) (kb : ClassId), v = some (.ref b) ∧ Fr n0 L ∧ Keep h0 h [] ∧ h0.size ≤ b ∧ Arv Z h b kb .byte (1 : Int32) [(.int ((x0 + (1 : Int32)).toInt8.toInt32))] (.int (0 : Int32))
set_option maxRecDepth 65536 in
set_option maxHeartbeats 40000000 in
theorem rmE10 (l : Launch) (Z : State) (a0 : Array Value) (hw : ∀ d ∈ tables_1, d.before a0 Z = true) (ws : List Jvm.Cond) (a1 : Addr) (k1 : ClassId) (x0 : Int32) (h0 : Heap) (n0 : Nat) (Z0 : n0 ≤ h0.size) (V1 : Arv Z h0 a1 k1 .byte (1 : Int32) [(.int x0)] (.int (0 : Int32))) (E1 : Exa Z h0 a1 "[B")  (ex0 : ¬ (x0 = (-1 : Int32))) :
    MetFree l (⟨"com/example/tessera/tessera/storage/Prefixes", "end", "([B)[B"⟩ : MethodName) (head1 (Jvm.Cond.code (⟨"com/example/tessera/tessera/storage/Prefixes", "end", "([B)[B"⟩ : MethodName) prog_82_method_3_code 3 (some (.array .byte)) :: ws) ({ frames := 2, cells := 1, slots := 3, locals := 28 } : Room)) (fun a U => a = #[(.ref a1)] ∧ Z.Warmed39 U.vm ∧ U.heap = h0) (fun _ _ _ _ _ => True) (fun _ U o U' => ∃ v L, o = .returned v ∧ QE10 Z a1 k1 x0 h0 n0 v U'.heap L ∧ FrameEnd U o U' L ({ frames := 2, cells := 1, slots := 3, locals := 28 } : Room).cells ({ frames := 2, cells := 1, slots := 3, locals := 28 } : Room).slots) := by
  refine MetFree.of_bodySF (plainFor_of_name pn_2) hisR ?_
  intro p e s m args below meth c s₁ Bd hml0 hP hK
  obtain ⟨rfl, hZ, hh⟩ := hP
  have hx := Bd.exec
  have hby := Bd.bytes
  have hml : c.maxLocals = 3 := hml0
  have hown : s.vm.findClass "com/example/tessera/tessera/storage/Prefixes" = some m.cls := findClass_of_methodNamed Bd.named
  have hnm := (name_of_methodNamed Bd.named Bd.method).1
  have X0 : Stand p l e ({ frames := 2, cells := 1, slots := 3, locals := 28 } : Room) s m #[(.ref a1)] below meth c s₁ [] 0 0 := Stand.of_body Bd
  have e0 : s₁.heap = h0 := by rw [← hh, Bd.state]; rfl
  have N0 := Fr.nil n0
  have pre0 : ∀ t, Steps p.tables e below (s₁.setTop (mkF m 0 #[.val (.ref a1), .unset, .unset] [])) t → Steps p.tables e below (s₁.setTop (entryFrame m #[(.ref a1)] 3)) t := fun t k => castTop (ef_rmE10 m a1) k
  obtain ⟨_, _, ⟨T125, L125, k125, n125⟩, -, X125, ⟨Lc125, hQ125, l125, y125, z125⟩, st125⟩ := Jvm.LawKit.callS X0 hx (y := (⟨"java/util/Arrays", "copyOf", "([BI)[B"⟩ : MethodName)) hown (mvT hZ (hw _ (List.mem_of_getElem? (i := 9) rfl))) (mvT hZ (hw _ (List.mem_of_getElem? (i := 10) rfl))) (mvT hZ (hw _ (List.mem_of_getElem? (i := 11) rfl))) (mvT hZ (hw _ (List.mem_of_getElem? (i := 12) rfl))) (by decide) (backOf (W := 0) (rm3 l Z a0 hw [] a1 k1 (1 : Int32) [(.int x0)] h0 n0 Z0 V1 E1 (by decide)) hZ (hw _ (List.mem_of_getElem? (i := 12) rfl)) (hw _ (List.mem_of_getElem? (i := 11) rfl)) (by decide) (by decide)) (g := (mkF m 20 #[.val (.ref a1), .val (.int (0 : Int32)), .unset] [(.int (1 : Int32)), (.ref a1)])) rfl (by rw [hml]; rfl) (argsL := [(.ref a1), (.int (1 : Int32))]) (rest := []) (lenOf pd_1 rfl) rfl (by show 2 * 0 + _ ≤ _; exact Nat.le_of_eq rfl) (hb hby d2_20) (fun _ _ => ⟨rfl, e0, (by decide : 0 + 1 ≤ _), (by decide : 0 + 3 ≤ _)⟩)
  dsimp only [Pt.U, Pt.locs, Pt.cells, Pt.slots] at X125 l125 y125 z125 st125 hQ125
  subst l125 y125 z125
  obtain ⟨b, rfl, Nq125, Kq125, szb, Vb0⟩ := hQ125
  have f126 := (V1.keep Kq125 nin0)
  have f127 := (E1.keep Kq125)
  have Z125 : n0 ≤ T125.heap.size := Nat.le_trans Z0 Kq125.1
  have K125 : Keep h0 T125.heap [] := (Keep.refl h0 []).trans Kq125 all0
  have Nf125 := Fr.app N0 Nq125
  have g_b : n0 ≤ b := Nat.le_trans Z0 szb
  have ne_b : a1 ≠ b := Nat.ne_of_lt (Nat.lt_of_lt_of_le V1.lt szb)
  obtain ⟨T128, h128, X128, e128, W128, V128, st128⟩ := own_bst X125 hx hZ rfl Vb0 (j := (0 : Int32)) ⟨by decide, by decide⟩ (i := 0) rfl (Nat.le_of_ble_eq_true rfl) (w := ((x0 + (1 : Int32)).toInt8.toInt32)) (own_nar _) (g := (mkF m 31 #[.val (.ref a1), .val (.int (0 : Int32)), .val (.ref b)] [(.int ((x0 + (1 : Int32)).toInt8.toInt32)), (.int (0 : Int32)), (.ref b)])) rfl rfl (hb hby d2_31)
  have f129 := (f126.other W128 ne_b)
  have f130 := (f127.wr W128)
  have K128 : Keep h0 h128 [] := K125.wr W128 (Or.inr szb)
  have Nf128 := Fr.snoc X128 Nf125 g_b
  have Z128 : n0 ≤ h128.size := Nat.le_trans Z125 (Keep.of_wr W128).1
  have V128 : Arv Z h128 b k1 .byte (1 : Int32) [(.int ((x0 + (1 : Int32)).toInt8.toInt32))] (.int (0 : Int32)) := V128
  have pre131 : ∀ t, Steps p.tables e below (T128.setTop (mkF m 33 #[.val (.ref a1), .val (.int (0 : Int32)), .val (.ref b)] [(.ref b)])) t → Steps p.tables e below (s₁.setTop (entryFrame m #[(.ref a1)] 3)) t := by
    intro t kt
    refine pre0 t ?_
    show Steps p.tables e below (s₁.setTop (mkF m 0 #[.val (.ref a1), .unset, .unset] [])) _
    refine XS.aloadN X0.here hx rfl (hb hby d2_0) rfl rfl ?_
    show Steps p.tables e below (s₁.setTop (mkF m 1 #[.val (.ref a1), .unset, .unset] [(.ref a1)])) _
    refine own_len X0 hx hZ e0 V1 (g := (mkF m 1 #[.val (.ref a1), .unset, .unset] [(.ref a1)])) rfl rfl (hb hby d2_1) _ ?_
    show Steps p.tables e below (s₁.setTop (mkF m 2 #[.val (.ref a1), .unset, .unset] [(.int (1 : Int32))])) _
    refine XS.iconst X0.here hx rfl (hb hby d2_2) ?_
    show Steps p.tables e below (s₁.setTop (mkF m 3 #[.val (.ref a1), .unset, .unset] [(.int (1 : Int32)), (.int (1 : Int32))])) _
    refine XS.isub X0.here hx rfl (hb hby d2_3) rfl ?_
    show Steps p.tables e below (s₁.setTop (mkF m 4 #[.val (.ref a1), .unset, .unset] [(.int (0 : Int32))])) _
    refine XS.istoreN X0.here hx rfl (hb hby d2_4) rfl (l' := #[.val (.ref a1), .val (.int (0 : Int32)), .unset]) rfl ?_
    show Steps p.tables e below (s₁.setTop (mkF m 5 #[.val (.ref a1), .val (.int (0 : Int32)), .unset] [])) _
    refine XS.iloadN X0.here hx rfl (hb hby d2_5) rfl ?_
    show Steps p.tables e below (s₁.setTop (mkF m 6 #[.val (.ref a1), .val (.int (0 : Int32)), .unset] [(.int (0 : Int32))])) _
    refine XS.ifNo X0.here hx rfl (hb hby d2_6) rfl ((if0 _ _).trans (flt (by decide)).1) ?_
    show Steps p.tables e below (s₁.setTop (mkF m 9 #[.val (.ref a1), .val (.int (0 : Int32)), .unset] [])) _
    refine XS.aloadN X0.here hx rfl (hb hby d2_9) rfl rfl ?_
    show Steps p.tables e below (s₁.setTop (mkF m 10 #[.val (.ref a1), .val (.int (0 : Int32)), .unset] [(.ref a1)])) _
    refine XS.iloadN X0.here hx rfl (hb hby d2_10) rfl ?_
    show Steps p.tables e below (s₁.setTop (mkF m 11 #[.val (.ref a1), .val (.int (0 : Int32)), .unset] [(.int (0 : Int32)), (.ref a1)])) _
    refine own_bal X0 hx hZ e0 V1 (j := (0 : Int32)) ⟨by decide, by decide⟩ (v := (.int x0)) rfl (g := (mkF m 11 #[.val (.ref a1), .val (.int (0 : Int32)), .unset] [(.int (0 : Int32)), (.ref a1)])) rfl rfl (hb hby d2_11) _ ?_
    show Steps p.tables e below (s₁.setTop (mkF m 12 #[.val (.ref a1), .val (.int (0 : Int32)), .unset] [(.int x0)])) _
    refine XS.iconst X0.here hx rfl (hb hby d2_12) ?_
    show Steps p.tables e below (s₁.setTop (mkF m 13 #[.val (.ref a1), .val (.int (0 : Int32)), .unset] [(.int (-1 : Int32)), (.int x0)])) _
    refine XS.icmpNo X0.here hx rfl (hb hby d2_13) rfl (feq ex0).1 ?_
    show Steps p.tables e below (s₁.setTop (mkF m 16 #[.val (.ref a1), .val (.int (0 : Int32)), .unset] [])) _
    refine XS.aloadN X0.here hx rfl (hb hby d2_16) rfl rfl ?_
    show Steps p.tables e below (s₁.setTop (mkF m 17 #[.val (.ref a1), .val (.int (0 : Int32)), .unset] [(.ref a1)])) _
    refine XS.iloadN X0.here hx rfl (hb hby d2_17) rfl ?_
    show Steps p.tables e below (s₁.setTop (mkF m 18 #[.val (.ref a1), .val (.int (0 : Int32)), .unset] [(.int (0 : Int32)), (.ref a1)])) _
    refine XS.iconst X0.here hx rfl (hb hby d2_18) ?_
    show Steps p.tables e below (s₁.setTop (mkF m 19 #[.val (.ref a1), .val (.int (0 : Int32)), .unset] [(.int (1 : Int32)), (.int (0 : Int32)), (.ref a1)])) _
    refine XS.iadd X0.here hx rfl (hb hby d2_19) rfl ?_
    show Steps p.tables e below (s₁.setTop (mkF m 20 #[.val (.ref a1), .val (.int (0 : Int32)), .unset] [(.int (1 : Int32)), (.ref a1)])) _
    refine st125 _ ?_
    show Steps p.tables e below (T125.setTop (mkF m 23 #[.val (.ref a1), .val (.int (0 : Int32)), .unset] [(.ref b)])) _
    refine XS.astoreN X125.here hx rfl (hb hby d2_23) rfl rfl (l' := #[.val (.ref a1), .val (.int (0 : Int32)), .val (.ref b)]) rfl ?_
    show Steps p.tables e below (T125.setTop (mkF m 24 #[.val (.ref a1), .val (.int (0 : Int32)), .val (.ref b)] [])) _
    refine XS.aloadN X125.here hx rfl (hb hby d2_24) rfl rfl ?_
    show Steps p.tables e below (T125.setTop (mkF m 25 #[.val (.ref a1), .val (.int (0 : Int32)), .val (.ref b)] [(.ref b)])) _
    refine XS.iloadN X125.here hx rfl (hb hby d2_25) rfl ?_
    show Steps p.tables e below (T125.setTop (mkF m 26 #[.val (.ref a1), .val (.int (0 : Int32)), .val (.ref b)] [(.int (0 : Int32)), (.ref b)])) _
    refine Jvm.Free.XT.dup2 X125.here hx rfl (hb hby d2_26) rfl rfl rfl ?_
    show Steps p.tables e below (T125.setTop (mkF m 27 #[.val (.ref a1), .val (.int (0 : Int32)), .val (.ref b)] [(.int (0 : Int32)), (.ref b), (.int (0 : Int32)), (.ref b)])) _
    refine own_bal X125 hx hZ rfl Vb0 (j := (0 : Int32)) ⟨by decide, by decide⟩ (v := (.int x0)) rfl (g := (mkF m 27 #[.val (.ref a1), .val (.int (0 : Int32)), .val (.ref b)] [(.int (0 : Int32)), (.ref b), (.int (0 : Int32)), (.ref b)])) rfl rfl (hb hby d2_27) _ ?_
    show Steps p.tables e below (T125.setTop (mkF m 28 #[.val (.ref a1), .val (.int (0 : Int32)), .val (.ref b)] [(.int x0), (.int (0 : Int32)), (.ref b)])) _
    refine XS.iconst X125.here hx rfl (hb hby d2_28) ?_
    show Steps p.tables e below (T125.setTop (mkF m 29 #[.val (.ref a1), .val (.int (0 : Int32)), .val (.ref b)] [(.int (1 : Int32)), (.int x0), (.int (0 : Int32)), (.ref b)])) _
    refine XS.iadd X125.here hx rfl (hb hby d2_29) rfl ?_
    show Steps p.tables e below (T125.setTop (mkF m 30 #[.val (.ref a1), .val (.int (0 : Int32)), .val (.ref b)] [(.int (x0 + (1 : Int32))), (.int (0 : Int32)), (.ref b)])) _
    refine XS.i2b X125.here hx rfl (hb hby d2_30) rfl ?_
    show Steps p.tables e below (T125.setTop (mkF m 31 #[.val (.ref a1), .val (.int (0 : Int32)), .val (.ref b)] [(.int ((x0 + (1 : Int32)).toInt8.toInt32)), (.int (0 : Int32)), (.ref b)])) _
    refine st128 _ ?_
    show Steps p.tables e below (T128.setTop (mkF m 32 #[.val (.ref a1), .val (.int (0 : Int32)), .val (.ref b)] [])) _
    refine XS.aloadN X128.here hx rfl (hb hby d2_32) rfl rfl ?_
    exact kt
  obtain ⟨fsx, hr, hrun, hended, hW, hsame⟩ := X128.leave (v := some (.ref b)) (fun h => by rw [Bd.returns] at h; cases h)
  refine ⟨_, _, pre131 _ ?_, hrun, hended, _, _, rfl, ?_, ⟨_, rfl⟩, hW, hsame.mono (by decide) (by decide)⟩
  · jvm_step X128.here [X128.here.top, hx, (hb hby d2_33), X128.method', Bd.returns, Value.isRef, FieldType.isReference]
    first | (intro acts; rw [hr _ acts rfl rfl rfl]) | rw [hr _ _ rfl rfl rfl]
    exact Steps.refl _
  · show QE10 Z a1 k1 x0 h0 n0 _ T128.heap _
    rw [e128]
    exact ⟨b, k1, rfl, Nf128, K128, szb, V128⟩
theorem ef_rmE2n (m : MethodId) (x0 : Addr) : entryFrame m #[(.ref x0)] 3 = mkF m 0 #[.val (.ref x0), .unset, .unset] [] := by first | (simp [entryFrame, mkF, argsToLocals, Value.category]; done) | rfl
def QE2n (Z : State) (a1 : Addr) (k1 : ClassId) (x0 : Int32) (x1 : Int32) (h0 : Heap) (n0 : Nat) (v : Option Value) (h : Heap) (L : List Loc) : Prop := v = some .null ∧ Fr n0 L ∧ h = h0
set_option maxRecDepth 65536 in
set_option maxHeartbeats 40000000 in
theorem rmE2n (l : Launch) (Z : State) (a0 : Array Value) (hw : ∀ d ∈ tables_1, d.before a0 Z = true) (ws : List Jvm.Cond) (a1 : Addr) (k1 : ClassId) (x0 : Int32) (x1 : Int32) (h0 : Heap) (n0 : Nat) (Z0 : n0 ≤ h0.size) (V1 : Arv Z h0 a1 k1 .byte (2 : Int32) [(.int x0), (.int x1)] (.int (0 : Int32))) (E1 : Exa Z h0 a1 "[B") (ex0 : x0 = (-1 : Int32)) (ex1 : x1 = (-1 : Int32)) :
    MetFree l (⟨"com/example/tessera/tessera/storage/Prefixes", "end", "([B)[B"⟩ : MethodName) (head1 (Jvm.Cond.code (⟨"com/example/tessera/tessera/storage/Prefixes", "end", "([B)[B"⟩ : MethodName) prog_82_method_3_code 3 (some (.array .byte)) :: ws) ({ frames := 0, cells := 0, slots := 0, locals := 0 } : Room)) (fun a U => a = #[(.ref a1)] ∧ Z.Warmed39 U.vm ∧ U.heap = h0) (fun _ _ _ _ _ => True) (fun _ U o U' => ∃ v L, o = .returned v ∧ QE2n Z a1 k1 x0 x1 h0 n0 v U'.heap L ∧ FrameEnd U o U' L ({ frames := 0, cells := 0, slots := 0, locals := 0 } : Room).cells ({ frames := 0, cells := 0, slots := 0, locals := 0 } : Room).slots) := by
  refine MetFree.of_bodySF (plainFor_of_name pn_2) hisR ?_
  intro p e s m args below meth c s₁ Bd hml0 hP hK
  obtain ⟨rfl, hZ, hh⟩ := hP
  have hx := Bd.exec
  have hby := Bd.bytes
  have hml : c.maxLocals = 3 := hml0
  have hown : s.vm.findClass "com/example/tessera/tessera/storage/Prefixes" = some m.cls := findClass_of_methodNamed Bd.named
  have hnm := (name_of_methodNamed Bd.named Bd.method).1
  have X0 : Stand p l e ({ frames := 0, cells := 0, slots := 0, locals := 0 } : Room) s m #[(.ref a1)] below meth c s₁ [] 0 0 := Stand.of_body Bd
  have e0 : s₁.heap = h0 := by rw [← hh, Bd.state]; rfl
  have N0 := Fr.nil n0
  have pre0 : ∀ t, Steps p.tables e below (s₁.setTop (mkF m 0 #[.val (.ref a1), .unset, .unset] [])) t → Steps p.tables e below (s₁.setTop (entryFrame m #[(.ref a1)] 3)) t := fun t k => castTop (ef_rmE2n m a1) k
  have pre132 : ∀ t, Steps p.tables e below (s₁.setTop (mkF m 41 #[.val (.ref a1), .val (.int (-1 : Int32)), .unset] [.null])) t → Steps p.tables e below (s₁.setTop (entryFrame m #[(.ref a1)] 3)) t := by
    intro t kt
    refine pre0 t ?_
    show Steps p.tables e below (s₁.setTop (mkF m 0 #[.val (.ref a1), .unset, .unset] [])) _
    refine XS.aloadN X0.here hx rfl (hb hby d2_0) rfl rfl ?_
    show Steps p.tables e below (s₁.setTop (mkF m 1 #[.val (.ref a1), .unset, .unset] [(.ref a1)])) _
    refine own_len X0 hx hZ e0 V1 (g := (mkF m 1 #[.val (.ref a1), .unset, .unset] [(.ref a1)])) rfl rfl (hb hby d2_1) _ ?_
    show Steps p.tables e below (s₁.setTop (mkF m 2 #[.val (.ref a1), .unset, .unset] [(.int (2 : Int32))])) _
    refine XS.iconst X0.here hx rfl (hb hby d2_2) ?_
    show Steps p.tables e below (s₁.setTop (mkF m 3 #[.val (.ref a1), .unset, .unset] [(.int (1 : Int32)), (.int (2 : Int32))])) _
    refine XS.isub X0.here hx rfl (hb hby d2_3) rfl ?_
    show Steps p.tables e below (s₁.setTop (mkF m 4 #[.val (.ref a1), .unset, .unset] [(.int (1 : Int32))])) _
    refine XS.istoreN X0.here hx rfl (hb hby d2_4) rfl (l' := #[.val (.ref a1), .val (.int (1 : Int32)), .unset]) rfl ?_
    show Steps p.tables e below (s₁.setTop (mkF m 5 #[.val (.ref a1), .val (.int (1 : Int32)), .unset] [])) _
    refine XS.iloadN X0.here hx rfl (hb hby d2_5) rfl ?_
    show Steps p.tables e below (s₁.setTop (mkF m 6 #[.val (.ref a1), .val (.int (1 : Int32)), .unset] [(.int (1 : Int32))])) _
    refine XS.ifNo X0.here hx rfl (hb hby d2_6) rfl ((if0 _ _).trans (flt (by decide)).1) ?_
    show Steps p.tables e below (s₁.setTop (mkF m 9 #[.val (.ref a1), .val (.int (1 : Int32)), .unset] [])) _
    refine XS.aloadN X0.here hx rfl (hb hby d2_9) rfl rfl ?_
    show Steps p.tables e below (s₁.setTop (mkF m 10 #[.val (.ref a1), .val (.int (1 : Int32)), .unset] [(.ref a1)])) _
    refine XS.iloadN X0.here hx rfl (hb hby d2_10) rfl ?_
    show Steps p.tables e below (s₁.setTop (mkF m 11 #[.val (.ref a1), .val (.int (1 : Int32)), .unset] [(.int (1 : Int32)), (.ref a1)])) _
    refine own_bal X0 hx hZ e0 V1 (j := (1 : Int32)) ⟨by decide, by decide⟩ (v := (.int x1)) rfl (g := (mkF m 11 #[.val (.ref a1), .val (.int (1 : Int32)), .unset] [(.int (1 : Int32)), (.ref a1)])) rfl rfl (hb hby d2_11) _ ?_
    show Steps p.tables e below (s₁.setTop (mkF m 12 #[.val (.ref a1), .val (.int (1 : Int32)), .unset] [(.int x1)])) _
    refine XS.iconst X0.here hx rfl (hb hby d2_12) ?_
    show Steps p.tables e below (s₁.setTop (mkF m 13 #[.val (.ref a1), .val (.int (1 : Int32)), .unset] [(.int (-1 : Int32)), (.int x1)])) _
    refine XS.icmpYes X0.here hx rfl (pc0 := 13) (pc' := 34) rfl (hb hby d2_13) rfl (teq ex1).1 (by decide) (by decide) ?_
    show Steps p.tables e below (s₁.setTop (mkF m 34 #[.val (.ref a1), .val (.int (1 : Int32)), .unset] [])) _
    refine XS.iinc X0.here hx rfl (hb hby d2_34) rfl (l' := #[.val (.ref a1), .val (.int (0 : Int32)), .unset]) rfl ?_
    show Steps p.tables e below (s₁.setTop (mkF m 37 #[.val (.ref a1), .val (.int (0 : Int32)), .unset] [])) _
    refine XS.goto X0.here hx rfl (pc0 := 37) (pc' := 5) rfl (hb hby d2_37) (by decide) (by decide) ?_
    show Steps p.tables e below (s₁.setTop (mkF m 5 #[.val (.ref a1), .val (.int (0 : Int32)), .unset] [])) _
    refine XS.iloadN X0.here hx rfl (hb hby d2_5) rfl ?_
    show Steps p.tables e below (s₁.setTop (mkF m 6 #[.val (.ref a1), .val (.int (0 : Int32)), .unset] [(.int (0 : Int32))])) _
    refine XS.ifNo X0.here hx rfl (hb hby d2_6) rfl ((if0 _ _).trans (flt (by decide)).1) ?_
    show Steps p.tables e below (s₁.setTop (mkF m 9 #[.val (.ref a1), .val (.int (0 : Int32)), .unset] [])) _
    refine XS.aloadN X0.here hx rfl (hb hby d2_9) rfl rfl ?_
    show Steps p.tables e below (s₁.setTop (mkF m 10 #[.val (.ref a1), .val (.int (0 : Int32)), .unset] [(.ref a1)])) _
    refine XS.iloadN X0.here hx rfl (hb hby d2_10) rfl ?_
    show Steps p.tables e below (s₁.setTop (mkF m 11 #[.val (.ref a1), .val (.int (0 : Int32)), .unset] [(.int (0 : Int32)), (.ref a1)])) _
    refine own_bal X0 hx hZ e0 V1 (j := (0 : Int32)) ⟨by decide, by decide⟩ (v := (.int x0)) rfl (g := (mkF m 11 #[.val (.ref a1), .val (.int (0 : Int32)), .unset] [(.int (0 : Int32)), (.ref a1)])) rfl rfl (hb hby d2_11) _ ?_
    show Steps p.tables e below (s₁.setTop (mkF m 12 #[.val (.ref a1), .val (.int (0 : Int32)), .unset] [(.int x0)])) _
    refine XS.iconst X0.here hx rfl (hb hby d2_12) ?_
    show Steps p.tables e below (s₁.setTop (mkF m 13 #[.val (.ref a1), .val (.int (0 : Int32)), .unset] [(.int (-1 : Int32)), (.int x0)])) _
    refine XS.icmpYes X0.here hx rfl (pc0 := 13) (pc' := 34) rfl (hb hby d2_13) rfl (teq ex0).1 (by decide) (by decide) ?_
    show Steps p.tables e below (s₁.setTop (mkF m 34 #[.val (.ref a1), .val (.int (0 : Int32)), .unset] [])) _
    refine XS.iinc X0.here hx rfl (hb hby d2_34) rfl (l' := #[.val (.ref a1), .val (.int (-1 : Int32)), .unset]) rfl ?_
    show Steps p.tables e below (s₁.setTop (mkF m 37 #[.val (.ref a1), .val (.int (-1 : Int32)), .unset] [])) _
    refine XS.goto X0.here hx rfl (pc0 := 37) (pc' := 5) rfl (hb hby d2_37) (by decide) (by decide) ?_
    show Steps p.tables e below (s₁.setTop (mkF m 5 #[.val (.ref a1), .val (.int (-1 : Int32)), .unset] [])) _
    refine XS.iloadN X0.here hx rfl (hb hby d2_5) rfl ?_
    show Steps p.tables e below (s₁.setTop (mkF m 6 #[.val (.ref a1), .val (.int (-1 : Int32)), .unset] [(.int (-1 : Int32))])) _
    refine XS.ifYes X0.here hx rfl (pc0 := 6) (pc' := 40) rfl (hb hby d2_6) rfl ((if0 _ _).trans (tlt (by decide)).1) (by decide) (by decide) ?_
    show Steps p.tables e below (s₁.setTop (mkF m 40 #[.val (.ref a1), .val (.int (-1 : Int32)), .unset] [])) _
    refine XS.aconstNull X0.here hx rfl (hb hby d2_40) ?_
    exact kt
  obtain ⟨fsx, hr, hrun, hended, hW, hsame⟩ := X0.leave (v := some .null) (fun h => by rw [Bd.returns] at h; cases h)
  refine ⟨_, _, pre132 _ ?_, hrun, hended, _, _, rfl, ?_, ⟨_, rfl⟩, hW, hsame.mono (by decide) (by decide)⟩
  · jvm_step X0.here [X0.here.top, hx, (hb hby d2_41), X0.method', Bd.returns, Value.isRef, FieldType.isReference]
    first | (intro acts; rw [hr _ acts rfl rfl rfl]) | rw [hr _ _ rfl rfl rfl]
    exact Steps.refl _
  · show QE2n Z a1 k1 x0 x1 h0 n0 _ s₁.heap _
    rw [e0]
    exact ⟨rfl, N0, rfl⟩
theorem ef_rmE20 (m : MethodId) (x0 : Addr) : entryFrame m #[(.ref x0)] 3 = mkF m 0 #[.val (.ref x0), .unset, .unset] [] := by first | (simp [entryFrame, mkF, argsToLocals, Value.category]; done) | rfl
def QE20 (Z : State) (a1 : Addr) (k1 : ClassId) (x0 : Int32) (x1 : Int32) (h0 : Heap) (n0 : Nat) (v : Option Value) (h : Heap) (L : List Loc) : Prop := ∃ (b : Addr) (kb : ClassId), v = some (.ref b) ∧ Fr n0 L ∧ Keep h0 h [] ∧ h0.size ≤ b ∧ Arv Z h b kb .byte (1 : Int32) [(.int ((x0 + (1 : Int32)).toInt8.toInt32))] (.int (0 : Int32))
set_option maxRecDepth 65536 in
set_option maxHeartbeats 40000000 in
theorem rmE20 (l : Launch) (Z : State) (a0 : Array Value) (hw : ∀ d ∈ tables_1, d.before a0 Z = true) (ws : List Jvm.Cond) (a1 : Addr) (k1 : ClassId) (x0 : Int32) (x1 : Int32) (h0 : Heap) (n0 : Nat) (Z0 : n0 ≤ h0.size) (V1 : Arv Z h0 a1 k1 .byte (2 : Int32) [(.int x0), (.int x1)] (.int (0 : Int32))) (E1 : Exa Z h0 a1 "[B") (ex1 : x1 = (-1 : Int32)) (ex0 : ¬ (x0 = (-1 : Int32))) :
    MetFree l (⟨"com/example/tessera/tessera/storage/Prefixes", "end", "([B)[B"⟩ : MethodName) (head1 (Jvm.Cond.code (⟨"com/example/tessera/tessera/storage/Prefixes", "end", "([B)[B"⟩ : MethodName) prog_82_method_3_code 3 (some (.array .byte)) :: ws) ({ frames := 2, cells := 1, slots := 3, locals := 32 } : Room)) (fun a U => a = #[(.ref a1)] ∧ Z.Warmed39 U.vm ∧ U.heap = h0) (fun _ _ _ _ _ => True) (fun _ U o U' => ∃ v L, o = .returned v ∧ QE20 Z a1 k1 x0 x1 h0 n0 v U'.heap L ∧ FrameEnd U o U' L ({ frames := 2, cells := 1, slots := 3, locals := 32 } : Room).cells ({ frames := 2, cells := 1, slots := 3, locals := 32 } : Room).slots) := by
  refine MetFree.of_bodySF (plainFor_of_name pn_2) hisR ?_
  intro p e s m args below meth c s₁ Bd hml0 hP hK
  obtain ⟨rfl, hZ, hh⟩ := hP
  have hx := Bd.exec
  have hby := Bd.bytes
  have hml : c.maxLocals = 3 := hml0
  have hown : s.vm.findClass "com/example/tessera/tessera/storage/Prefixes" = some m.cls := findClass_of_methodNamed Bd.named
  have hnm := (name_of_methodNamed Bd.named Bd.method).1
  have X0 : Stand p l e ({ frames := 2, cells := 1, slots := 3, locals := 32 } : Room) s m #[(.ref a1)] below meth c s₁ [] 0 0 := Stand.of_body Bd
  have e0 : s₁.heap = h0 := by rw [← hh, Bd.state]; rfl
  have N0 := Fr.nil n0
  have pre0 : ∀ t, Steps p.tables e below (s₁.setTop (mkF m 0 #[.val (.ref a1), .unset, .unset] [])) t → Steps p.tables e below (s₁.setTop (entryFrame m #[(.ref a1)] 3)) t := fun t k => castTop (ef_rmE20 m a1) k
  obtain ⟨_, _, ⟨T133, L133, k133, n133⟩, -, X133, ⟨Lc133, hQ133, l133, y133, z133⟩, st133⟩ := Jvm.LawKit.callS X0 hx (y := (⟨"java/util/Arrays", "copyOf", "([BI)[B"⟩ : MethodName)) hown (mvT hZ (hw _ (List.mem_of_getElem? (i := 9) rfl))) (mvT hZ (hw _ (List.mem_of_getElem? (i := 10) rfl))) (mvT hZ (hw _ (List.mem_of_getElem? (i := 11) rfl))) (mvT hZ (hw _ (List.mem_of_getElem? (i := 12) rfl))) (by decide) (backOf (W := 0) (rm4 l Z a0 hw [] a1 k1 (2 : Int32) [(.int x0), (.int x1)] (1 : Int32) h0 n0 Z0 V1 (by decide) (by decide) (by decide)) hZ (hw _ (List.mem_of_getElem? (i := 12) rfl)) (hw _ (List.mem_of_getElem? (i := 11) rfl)) (by decide) (by decide)) (g := (mkF m 20 #[.val (.ref a1), .val (.int (0 : Int32)), .unset] [(.int (1 : Int32)), (.ref a1)])) rfl (by rw [hml]; rfl) (argsL := [(.ref a1), (.int (1 : Int32))]) (rest := []) (lenOf pd_1 rfl) rfl (by show 2 * 0 + _ ≤ _; exact Nat.le_of_eq rfl) (hb hby d2_20) (fun _ _ => ⟨rfl, e0, (by decide : 0 + 1 ≤ _), (by decide : 0 + 3 ≤ _)⟩)
  dsimp only [Pt.U, Pt.locs, Pt.cells, Pt.slots] at X133 l133 y133 z133 st133 hQ133
  subst l133 y133 z133
  obtain ⟨b, kb, rfl, Nq133, Kq133, szb, Vb1⟩ := hQ133
  have f134 := (V1.keep Kq133 nin0)
  have f135 := (E1.keep Kq133)
  have Z133 : n0 ≤ T133.heap.size := Nat.le_trans Z0 Kq133.1
  have K133 : Keep h0 T133.heap [] := (Keep.refl h0 []).trans Kq133 all0
  have Nf133 := Fr.app N0 Nq133
  have Vb0 : Arv Z T133.heap b kb .byte (1 : Int32) [(.int x0)] (.int (0 : Int32)) := Vb1
  have g_b : n0 ≤ b := Nat.le_trans Z0 szb
  have ne_b : a1 ≠ b := Nat.ne_of_lt (Nat.lt_of_lt_of_le V1.lt szb)
  obtain ⟨T136, h136, X136, e136, W136, V136, st136⟩ := own_bst X133 hx hZ rfl Vb0 (j := (0 : Int32)) ⟨by decide, by decide⟩ (i := 0) rfl (Nat.le_of_ble_eq_true rfl) (w := ((x0 + (1 : Int32)).toInt8.toInt32)) (own_nar _) (g := (mkF m 31 #[.val (.ref a1), .val (.int (0 : Int32)), .val (.ref b)] [(.int ((x0 + (1 : Int32)).toInt8.toInt32)), (.int (0 : Int32)), (.ref b)])) rfl rfl (hb hby d2_31)
  have f137 := (f134.other W136 ne_b)
  have f138 := (f135.wr W136)
  have K136 : Keep h0 h136 [] := K133.wr W136 (Or.inr szb)
  have Nf136 := Fr.snoc X136 Nf133 g_b
  have Z136 : n0 ≤ h136.size := Nat.le_trans Z133 (Keep.of_wr W136).1
  have V136 : Arv Z h136 b kb .byte (1 : Int32) [(.int ((x0 + (1 : Int32)).toInt8.toInt32))] (.int (0 : Int32)) := V136
  have pre139 : ∀ t, Steps p.tables e below (T136.setTop (mkF m 33 #[.val (.ref a1), .val (.int (0 : Int32)), .val (.ref b)] [(.ref b)])) t → Steps p.tables e below (s₁.setTop (entryFrame m #[(.ref a1)] 3)) t := by
    intro t kt
    refine pre0 t ?_
    show Steps p.tables e below (s₁.setTop (mkF m 0 #[.val (.ref a1), .unset, .unset] [])) _
    refine XS.aloadN X0.here hx rfl (hb hby d2_0) rfl rfl ?_
    show Steps p.tables e below (s₁.setTop (mkF m 1 #[.val (.ref a1), .unset, .unset] [(.ref a1)])) _
    refine own_len X0 hx hZ e0 V1 (g := (mkF m 1 #[.val (.ref a1), .unset, .unset] [(.ref a1)])) rfl rfl (hb hby d2_1) _ ?_
    show Steps p.tables e below (s₁.setTop (mkF m 2 #[.val (.ref a1), .unset, .unset] [(.int (2 : Int32))])) _
    refine XS.iconst X0.here hx rfl (hb hby d2_2) ?_
    show Steps p.tables e below (s₁.setTop (mkF m 3 #[.val (.ref a1), .unset, .unset] [(.int (1 : Int32)), (.int (2 : Int32))])) _
    refine XS.isub X0.here hx rfl (hb hby d2_3) rfl ?_
    show Steps p.tables e below (s₁.setTop (mkF m 4 #[.val (.ref a1), .unset, .unset] [(.int (1 : Int32))])) _
    refine XS.istoreN X0.here hx rfl (hb hby d2_4) rfl (l' := #[.val (.ref a1), .val (.int (1 : Int32)), .unset]) rfl ?_
    show Steps p.tables e below (s₁.setTop (mkF m 5 #[.val (.ref a1), .val (.int (1 : Int32)), .unset] [])) _
    refine XS.iloadN X0.here hx rfl (hb hby d2_5) rfl ?_
    show Steps p.tables e below (s₁.setTop (mkF m 6 #[.val (.ref a1), .val (.int (1 : Int32)), .unset] [(.int (1 : Int32))])) _
    refine XS.ifNo X0.here hx rfl (hb hby d2_6) rfl ((if0 _ _).trans (flt (by decide)).1) ?_
    show Steps p.tables e below (s₁.setTop (mkF m 9 #[.val (.ref a1), .val (.int (1 : Int32)), .unset] [])) _
    refine XS.aloadN X0.here hx rfl (hb hby d2_9) rfl rfl ?_
    show Steps p.tables e below (s₁.setTop (mkF m 10 #[.val (.ref a1), .val (.int (1 : Int32)), .unset] [(.ref a1)])) _
    refine XS.iloadN X0.here hx rfl (hb hby d2_10) rfl ?_
    show Steps p.tables e below (s₁.setTop (mkF m 11 #[.val (.ref a1), .val (.int (1 : Int32)), .unset] [(.int (1 : Int32)), (.ref a1)])) _
    refine own_bal X0 hx hZ e0 V1 (j := (1 : Int32)) ⟨by decide, by decide⟩ (v := (.int x1)) rfl (g := (mkF m 11 #[.val (.ref a1), .val (.int (1 : Int32)), .unset] [(.int (1 : Int32)), (.ref a1)])) rfl rfl (hb hby d2_11) _ ?_
    show Steps p.tables e below (s₁.setTop (mkF m 12 #[.val (.ref a1), .val (.int (1 : Int32)), .unset] [(.int x1)])) _
    refine XS.iconst X0.here hx rfl (hb hby d2_12) ?_
    show Steps p.tables e below (s₁.setTop (mkF m 13 #[.val (.ref a1), .val (.int (1 : Int32)), .unset] [(.int (-1 : Int32)), (.int x1)])) _
    refine XS.icmpYes X0.here hx rfl (pc0 := 13) (pc' := 34) rfl (hb hby d2_13) rfl (teq ex1).1 (by decide) (by decide) ?_
    show Steps p.tables e below (s₁.setTop (mkF m 34 #[.val (.ref a1), .val (.int (1 : Int32)), .unset] [])) _
    refine XS.iinc X0.here hx rfl (hb hby d2_34) rfl (l' := #[.val (.ref a1), .val (.int (0 : Int32)), .unset]) rfl ?_
    show Steps p.tables e below (s₁.setTop (mkF m 37 #[.val (.ref a1), .val (.int (0 : Int32)), .unset] [])) _
    refine XS.goto X0.here hx rfl (pc0 := 37) (pc' := 5) rfl (hb hby d2_37) (by decide) (by decide) ?_
    show Steps p.tables e below (s₁.setTop (mkF m 5 #[.val (.ref a1), .val (.int (0 : Int32)), .unset] [])) _
    refine XS.iloadN X0.here hx rfl (hb hby d2_5) rfl ?_
    show Steps p.tables e below (s₁.setTop (mkF m 6 #[.val (.ref a1), .val (.int (0 : Int32)), .unset] [(.int (0 : Int32))])) _
    refine XS.ifNo X0.here hx rfl (hb hby d2_6) rfl ((if0 _ _).trans (flt (by decide)).1) ?_
    show Steps p.tables e below (s₁.setTop (mkF m 9 #[.val (.ref a1), .val (.int (0 : Int32)), .unset] [])) _
    refine XS.aloadN X0.here hx rfl (hb hby d2_9) rfl rfl ?_
    show Steps p.tables e below (s₁.setTop (mkF m 10 #[.val (.ref a1), .val (.int (0 : Int32)), .unset] [(.ref a1)])) _
    refine XS.iloadN X0.here hx rfl (hb hby d2_10) rfl ?_
    show Steps p.tables e below (s₁.setTop (mkF m 11 #[.val (.ref a1), .val (.int (0 : Int32)), .unset] [(.int (0 : Int32)), (.ref a1)])) _
    refine own_bal X0 hx hZ e0 V1 (j := (0 : Int32)) ⟨by decide, by decide⟩ (v := (.int x0)) rfl (g := (mkF m 11 #[.val (.ref a1), .val (.int (0 : Int32)), .unset] [(.int (0 : Int32)), (.ref a1)])) rfl rfl (hb hby d2_11) _ ?_
    show Steps p.tables e below (s₁.setTop (mkF m 12 #[.val (.ref a1), .val (.int (0 : Int32)), .unset] [(.int x0)])) _
    refine XS.iconst X0.here hx rfl (hb hby d2_12) ?_
    show Steps p.tables e below (s₁.setTop (mkF m 13 #[.val (.ref a1), .val (.int (0 : Int32)), .unset] [(.int (-1 : Int32)), (.int x0)])) _
    refine XS.icmpNo X0.here hx rfl (hb hby d2_13) rfl (feq ex0).1 ?_
    show Steps p.tables e below (s₁.setTop (mkF m 16 #[.val (.ref a1), .val (.int (0 : Int32)), .unset] [])) _
    refine XS.aloadN X0.here hx rfl (hb hby d2_16) rfl rfl ?_
    show Steps p.tables e below (s₁.setTop (mkF m 17 #[.val (.ref a1), .val (.int (0 : Int32)), .unset] [(.ref a1)])) _
    refine XS.iloadN X0.here hx rfl (hb hby d2_17) rfl ?_
    show Steps p.tables e below (s₁.setTop (mkF m 18 #[.val (.ref a1), .val (.int (0 : Int32)), .unset] [(.int (0 : Int32)), (.ref a1)])) _
    refine XS.iconst X0.here hx rfl (hb hby d2_18) ?_
    show Steps p.tables e below (s₁.setTop (mkF m 19 #[.val (.ref a1), .val (.int (0 : Int32)), .unset] [(.int (1 : Int32)), (.int (0 : Int32)), (.ref a1)])) _
    refine XS.iadd X0.here hx rfl (hb hby d2_19) rfl ?_
    show Steps p.tables e below (s₁.setTop (mkF m 20 #[.val (.ref a1), .val (.int (0 : Int32)), .unset] [(.int (1 : Int32)), (.ref a1)])) _
    refine st133 _ ?_
    show Steps p.tables e below (T133.setTop (mkF m 23 #[.val (.ref a1), .val (.int (0 : Int32)), .unset] [(.ref b)])) _
    refine XS.astoreN X133.here hx rfl (hb hby d2_23) rfl rfl (l' := #[.val (.ref a1), .val (.int (0 : Int32)), .val (.ref b)]) rfl ?_
    show Steps p.tables e below (T133.setTop (mkF m 24 #[.val (.ref a1), .val (.int (0 : Int32)), .val (.ref b)] [])) _
    refine XS.aloadN X133.here hx rfl (hb hby d2_24) rfl rfl ?_
    show Steps p.tables e below (T133.setTop (mkF m 25 #[.val (.ref a1), .val (.int (0 : Int32)), .val (.ref b)] [(.ref b)])) _
    refine XS.iloadN X133.here hx rfl (hb hby d2_25) rfl ?_
    show Steps p.tables e below (T133.setTop (mkF m 26 #[.val (.ref a1), .val (.int (0 : Int32)), .val (.ref b)] [(.int (0 : Int32)), (.ref b)])) _
    refine Jvm.Free.XT.dup2 X133.here hx rfl (hb hby d2_26) rfl rfl rfl ?_
    show Steps p.tables e below (T133.setTop (mkF m 27 #[.val (.ref a1), .val (.int (0 : Int32)), .val (.ref b)] [(.int (0 : Int32)), (.ref b), (.int (0 : Int32)), (.ref b)])) _
    refine own_bal X133 hx hZ rfl Vb0 (j := (0 : Int32)) ⟨by decide, by decide⟩ (v := (.int x0)) rfl (g := (mkF m 27 #[.val (.ref a1), .val (.int (0 : Int32)), .val (.ref b)] [(.int (0 : Int32)), (.ref b), (.int (0 : Int32)), (.ref b)])) rfl rfl (hb hby d2_27) _ ?_
    show Steps p.tables e below (T133.setTop (mkF m 28 #[.val (.ref a1), .val (.int (0 : Int32)), .val (.ref b)] [(.int x0), (.int (0 : Int32)), (.ref b)])) _
    refine XS.iconst X133.here hx rfl (hb hby d2_28) ?_
    show Steps p.tables e below (T133.setTop (mkF m 29 #[.val (.ref a1), .val (.int (0 : Int32)), .val (.ref b)] [(.int (1 : Int32)), (.int x0), (.int (0 : Int32)), (.ref b)])) _
    refine XS.iadd X133.here hx rfl (hb hby d2_29) rfl ?_
    show Steps p.tables e below (T133.setTop (mkF m 30 #[.val (.ref a1), .val (.int (0 : Int32)), .val (.ref b)] [(.int (x0 + (1 : Int32))), (.int (0 : Int32)), (.ref b)])) _
    refine XS.i2b X133.here hx rfl (hb hby d2_30) rfl ?_
    show Steps p.tables e below (T133.setTop (mkF m 31 #[.val (.ref a1), .val (.int (0 : Int32)), .val (.ref b)] [(.int ((x0 + (1 : Int32)).toInt8.toInt32)), (.int (0 : Int32)), (.ref b)])) _
    refine st136 _ ?_
    show Steps p.tables e below (T136.setTop (mkF m 32 #[.val (.ref a1), .val (.int (0 : Int32)), .val (.ref b)] [])) _
    refine XS.aloadN X136.here hx rfl (hb hby d2_32) rfl rfl ?_
    exact kt
  obtain ⟨fsx, hr, hrun, hended, hW, hsame⟩ := X136.leave (v := some (.ref b)) (fun h => by rw [Bd.returns] at h; cases h)
  refine ⟨_, _, pre139 _ ?_, hrun, hended, _, _, rfl, ?_, ⟨_, rfl⟩, hW, hsame.mono (by decide) (by decide)⟩
  · jvm_step X136.here [X136.here.top, hx, (hb hby d2_33), X136.method', Bd.returns, Value.isRef, FieldType.isReference]
    first | (intro acts; rw [hr _ acts rfl rfl rfl]) | rw [hr _ _ rfl rfl rfl]
    exact Steps.refl _
  · show QE20 Z a1 k1 x0 x1 h0 n0 _ T136.heap _
    rw [e136]
    exact ⟨b, kb, rfl, Nf136, K136, szb, V136⟩
theorem ef_rmE21 (m : MethodId) (x0 : Addr) : entryFrame m #[(.ref x0)] 3 = mkF m 0 #[.val (.ref x0), .unset, .unset] [] := by first | (simp [entryFrame, mkF, argsToLocals, Value.category]; done) | rfl
def QE21 (Z : State) (a1 : Addr) (k1 : ClassId) (x0 : Int32) (x1 : Int32) (h0 : Heap) (n0 : Nat) (v : Option Value) (h : Heap) (L : List Loc) : Prop := ∃ (b : Addr) (kb : ClassId), v = some (.ref b) ∧ Fr n0 L ∧ Keep h0 h [] ∧ h0.size ≤ b ∧ Arv Z h b kb .byte (2 : Int32) [(.int x0), (.int ((x1 + (1 : Int32)).toInt8.toInt32))] (.int (0 : Int32))
set_option maxRecDepth 65536 in
set_option maxHeartbeats 40000000 in
theorem rmE21 (l : Launch) (Z : State) (a0 : Array Value) (hw : ∀ d ∈ tables_1, d.before a0 Z = true) (ws : List Jvm.Cond) (a1 : Addr) (k1 : ClassId) (x0 : Int32) (x1 : Int32) (h0 : Heap) (n0 : Nat) (Z0 : n0 ≤ h0.size) (V1 : Arv Z h0 a1 k1 .byte (2 : Int32) [(.int x0), (.int x1)] (.int (0 : Int32))) (E1 : Exa Z h0 a1 "[B")  (ex1 : ¬ (x1 = (-1 : Int32))) :
    MetFree l (⟨"com/example/tessera/tessera/storage/Prefixes", "end", "([B)[B"⟩ : MethodName) (head1 (Jvm.Cond.code (⟨"com/example/tessera/tessera/storage/Prefixes", "end", "([B)[B"⟩ : MethodName) prog_82_method_3_code 3 (some (.array .byte)) :: ws) ({ frames := 2, cells := 1, slots := 3, locals := 28 } : Room)) (fun a U => a = #[(.ref a1)] ∧ Z.Warmed39 U.vm ∧ U.heap = h0) (fun _ _ _ _ _ => True) (fun _ U o U' => ∃ v L, o = .returned v ∧ QE21 Z a1 k1 x0 x1 h0 n0 v U'.heap L ∧ FrameEnd U o U' L ({ frames := 2, cells := 1, slots := 3, locals := 28 } : Room).cells ({ frames := 2, cells := 1, slots := 3, locals := 28 } : Room).slots) := by
  refine MetFree.of_bodySF (plainFor_of_name pn_2) hisR ?_
  intro p e s m args below meth c s₁ Bd hml0 hP hK
  obtain ⟨rfl, hZ, hh⟩ := hP
  have hx := Bd.exec
  have hby := Bd.bytes
  have hml : c.maxLocals = 3 := hml0
  have hown : s.vm.findClass "com/example/tessera/tessera/storage/Prefixes" = some m.cls := findClass_of_methodNamed Bd.named
  have hnm := (name_of_methodNamed Bd.named Bd.method).1
  have X0 : Stand p l e ({ frames := 2, cells := 1, slots := 3, locals := 28 } : Room) s m #[(.ref a1)] below meth c s₁ [] 0 0 := Stand.of_body Bd
  have e0 : s₁.heap = h0 := by rw [← hh, Bd.state]; rfl
  have N0 := Fr.nil n0
  have pre0 : ∀ t, Steps p.tables e below (s₁.setTop (mkF m 0 #[.val (.ref a1), .unset, .unset] [])) t → Steps p.tables e below (s₁.setTop (entryFrame m #[(.ref a1)] 3)) t := fun t k => castTop (ef_rmE21 m a1) k
  obtain ⟨_, _, ⟨T140, L140, k140, n140⟩, -, X140, ⟨Lc140, hQ140, l140, y140, z140⟩, st140⟩ := Jvm.LawKit.callS X0 hx (y := (⟨"java/util/Arrays", "copyOf", "([BI)[B"⟩ : MethodName)) hown (mvT hZ (hw _ (List.mem_of_getElem? (i := 9) rfl))) (mvT hZ (hw _ (List.mem_of_getElem? (i := 10) rfl))) (mvT hZ (hw _ (List.mem_of_getElem? (i := 11) rfl))) (mvT hZ (hw _ (List.mem_of_getElem? (i := 12) rfl))) (by decide) (backOf (W := 0) (rm3 l Z a0 hw [] a1 k1 (2 : Int32) [(.int x0), (.int x1)] h0 n0 Z0 V1 E1 (by decide)) hZ (hw _ (List.mem_of_getElem? (i := 12) rfl)) (hw _ (List.mem_of_getElem? (i := 11) rfl)) (by decide) (by decide)) (g := (mkF m 20 #[.val (.ref a1), .val (.int (1 : Int32)), .unset] [(.int (2 : Int32)), (.ref a1)])) rfl (by rw [hml]; rfl) (argsL := [(.ref a1), (.int (2 : Int32))]) (rest := []) (lenOf pd_1 rfl) rfl (by show 2 * 0 + _ ≤ _; exact Nat.le_of_eq rfl) (hb hby d2_20) (fun _ _ => ⟨rfl, e0, (by decide : 0 + 1 ≤ _), (by decide : 0 + 3 ≤ _)⟩)
  dsimp only [Pt.U, Pt.locs, Pt.cells, Pt.slots] at X140 l140 y140 z140 st140 hQ140
  subst l140 y140 z140
  obtain ⟨b, rfl, Nq140, Kq140, szb, Vb0⟩ := hQ140
  have f141 := (V1.keep Kq140 nin0)
  have f142 := (E1.keep Kq140)
  have Z140 : n0 ≤ T140.heap.size := Nat.le_trans Z0 Kq140.1
  have K140 : Keep h0 T140.heap [] := (Keep.refl h0 []).trans Kq140 all0
  have Nf140 := Fr.app N0 Nq140
  have g_b : n0 ≤ b := Nat.le_trans Z0 szb
  have ne_b : a1 ≠ b := Nat.ne_of_lt (Nat.lt_of_lt_of_le V1.lt szb)
  obtain ⟨T143, h143, X143, e143, W143, V143, st143⟩ := own_bst X140 hx hZ rfl Vb0 (j := (1 : Int32)) ⟨by decide, by decide⟩ (i := 1) rfl (Nat.le_of_ble_eq_true rfl) (w := ((x1 + (1 : Int32)).toInt8.toInt32)) (own_nar _) (g := (mkF m 31 #[.val (.ref a1), .val (.int (1 : Int32)), .val (.ref b)] [(.int ((x1 + (1 : Int32)).toInt8.toInt32)), (.int (1 : Int32)), (.ref b)])) rfl rfl (hb hby d2_31)
  have f144 := (f141.other W143 ne_b)
  have f145 := (f142.wr W143)
  have K143 : Keep h0 h143 [] := K140.wr W143 (Or.inr szb)
  have Nf143 := Fr.snoc X143 Nf140 g_b
  have Z143 : n0 ≤ h143.size := Nat.le_trans Z140 (Keep.of_wr W143).1
  have V143 : Arv Z h143 b k1 .byte (2 : Int32) [(.int x0), (.int ((x1 + (1 : Int32)).toInt8.toInt32))] (.int (0 : Int32)) := V143
  have pre146 : ∀ t, Steps p.tables e below (T143.setTop (mkF m 33 #[.val (.ref a1), .val (.int (1 : Int32)), .val (.ref b)] [(.ref b)])) t → Steps p.tables e below (s₁.setTop (entryFrame m #[(.ref a1)] 3)) t := by
    intro t kt
    refine pre0 t ?_
    show Steps p.tables e below (s₁.setTop (mkF m 0 #[.val (.ref a1), .unset, .unset] [])) _
    refine XS.aloadN X0.here hx rfl (hb hby d2_0) rfl rfl ?_
    show Steps p.tables e below (s₁.setTop (mkF m 1 #[.val (.ref a1), .unset, .unset] [(.ref a1)])) _
    refine own_len X0 hx hZ e0 V1 (g := (mkF m 1 #[.val (.ref a1), .unset, .unset] [(.ref a1)])) rfl rfl (hb hby d2_1) _ ?_
    show Steps p.tables e below (s₁.setTop (mkF m 2 #[.val (.ref a1), .unset, .unset] [(.int (2 : Int32))])) _
    refine XS.iconst X0.here hx rfl (hb hby d2_2) ?_
    show Steps p.tables e below (s₁.setTop (mkF m 3 #[.val (.ref a1), .unset, .unset] [(.int (1 : Int32)), (.int (2 : Int32))])) _
    refine XS.isub X0.here hx rfl (hb hby d2_3) rfl ?_
    show Steps p.tables e below (s₁.setTop (mkF m 4 #[.val (.ref a1), .unset, .unset] [(.int (1 : Int32))])) _
    refine XS.istoreN X0.here hx rfl (hb hby d2_4) rfl (l' := #[.val (.ref a1), .val (.int (1 : Int32)), .unset]) rfl ?_
    show Steps p.tables e below (s₁.setTop (mkF m 5 #[.val (.ref a1), .val (.int (1 : Int32)), .unset] [])) _
    refine XS.iloadN X0.here hx rfl (hb hby d2_5) rfl ?_
    show Steps p.tables e below (s₁.setTop (mkF m 6 #[.val (.ref a1), .val (.int (1 : Int32)), .unset] [(.int (1 : Int32))])) _
    refine XS.ifNo X0.here hx rfl (hb hby d2_6) rfl ((if0 _ _).trans (flt (by decide)).1) ?_
    show Steps p.tables e below (s₁.setTop (mkF m 9 #[.val (.ref a1), .val (.int (1 : Int32)), .unset] [])) _
    refine XS.aloadN X0.here hx rfl (hb hby d2_9) rfl rfl ?_
    show Steps p.tables e below (s₁.setTop (mkF m 10 #[.val (.ref a1), .val (.int (1 : Int32)), .unset] [(.ref a1)])) _
    refine XS.iloadN X0.here hx rfl (hb hby d2_10) rfl ?_
    show Steps p.tables e below (s₁.setTop (mkF m 11 #[.val (.ref a1), .val (.int (1 : Int32)), .unset] [(.int (1 : Int32)), (.ref a1)])) _
    refine own_bal X0 hx hZ e0 V1 (j := (1 : Int32)) ⟨by decide, by decide⟩ (v := (.int x1)) rfl (g := (mkF m 11 #[.val (.ref a1), .val (.int (1 : Int32)), .unset] [(.int (1 : Int32)), (.ref a1)])) rfl rfl (hb hby d2_11) _ ?_
    show Steps p.tables e below (s₁.setTop (mkF m 12 #[.val (.ref a1), .val (.int (1 : Int32)), .unset] [(.int x1)])) _
    refine XS.iconst X0.here hx rfl (hb hby d2_12) ?_
    show Steps p.tables e below (s₁.setTop (mkF m 13 #[.val (.ref a1), .val (.int (1 : Int32)), .unset] [(.int (-1 : Int32)), (.int x1)])) _
    refine XS.icmpNo X0.here hx rfl (hb hby d2_13) rfl (feq ex1).1 ?_
    show Steps p.tables e below (s₁.setTop (mkF m 16 #[.val (.ref a1), .val (.int (1 : Int32)), .unset] [])) _
    refine XS.aloadN X0.here hx rfl (hb hby d2_16) rfl rfl ?_
    show Steps p.tables e below (s₁.setTop (mkF m 17 #[.val (.ref a1), .val (.int (1 : Int32)), .unset] [(.ref a1)])) _
    refine XS.iloadN X0.here hx rfl (hb hby d2_17) rfl ?_
    show Steps p.tables e below (s₁.setTop (mkF m 18 #[.val (.ref a1), .val (.int (1 : Int32)), .unset] [(.int (1 : Int32)), (.ref a1)])) _
    refine XS.iconst X0.here hx rfl (hb hby d2_18) ?_
    show Steps p.tables e below (s₁.setTop (mkF m 19 #[.val (.ref a1), .val (.int (1 : Int32)), .unset] [(.int (1 : Int32)), (.int (1 : Int32)), (.ref a1)])) _
    refine XS.iadd X0.here hx rfl (hb hby d2_19) rfl ?_
    show Steps p.tables e below (s₁.setTop (mkF m 20 #[.val (.ref a1), .val (.int (1 : Int32)), .unset] [(.int (2 : Int32)), (.ref a1)])) _
    refine st140 _ ?_
    show Steps p.tables e below (T140.setTop (mkF m 23 #[.val (.ref a1), .val (.int (1 : Int32)), .unset] [(.ref b)])) _
    refine XS.astoreN X140.here hx rfl (hb hby d2_23) rfl rfl (l' := #[.val (.ref a1), .val (.int (1 : Int32)), .val (.ref b)]) rfl ?_
    show Steps p.tables e below (T140.setTop (mkF m 24 #[.val (.ref a1), .val (.int (1 : Int32)), .val (.ref b)] [])) _
    refine XS.aloadN X140.here hx rfl (hb hby d2_24) rfl rfl ?_
    show Steps p.tables e below (T140.setTop (mkF m 25 #[.val (.ref a1), .val (.int (1 : Int32)), .val (.ref b)] [(.ref b)])) _
    refine XS.iloadN X140.here hx rfl (hb hby d2_25) rfl ?_
    show Steps p.tables e below (T140.setTop (mkF m 26 #[.val (.ref a1), .val (.int (1 : Int32)), .val (.ref b)] [(.int (1 : Int32)), (.ref b)])) _
    refine Jvm.Free.XT.dup2 X140.here hx rfl (hb hby d2_26) rfl rfl rfl ?_
    show Steps p.tables e below (T140.setTop (mkF m 27 #[.val (.ref a1), .val (.int (1 : Int32)), .val (.ref b)] [(.int (1 : Int32)), (.ref b), (.int (1 : Int32)), (.ref b)])) _
    refine own_bal X140 hx hZ rfl Vb0 (j := (1 : Int32)) ⟨by decide, by decide⟩ (v := (.int x1)) rfl (g := (mkF m 27 #[.val (.ref a1), .val (.int (1 : Int32)), .val (.ref b)] [(.int (1 : Int32)), (.ref b), (.int (1 : Int32)), (.ref b)])) rfl rfl (hb hby d2_27) _ ?_
    show Steps p.tables e below (T140.setTop (mkF m 28 #[.val (.ref a1), .val (.int (1 : Int32)), .val (.ref b)] [(.int x1), (.int (1 : Int32)), (.ref b)])) _
    refine XS.iconst X140.here hx rfl (hb hby d2_28) ?_
    show Steps p.tables e below (T140.setTop (mkF m 29 #[.val (.ref a1), .val (.int (1 : Int32)), .val (.ref b)] [(.int (1 : Int32)), (.int x1), (.int (1 : Int32)), (.ref b)])) _
    refine XS.iadd X140.here hx rfl (hb hby d2_29) rfl ?_
    show Steps p.tables e below (T140.setTop (mkF m 30 #[.val (.ref a1), .val (.int (1 : Int32)), .val (.ref b)] [(.int (x1 + (1 : Int32))), (.int (1 : Int32)), (.ref b)])) _
    refine XS.i2b X140.here hx rfl (hb hby d2_30) rfl ?_
    show Steps p.tables e below (T140.setTop (mkF m 31 #[.val (.ref a1), .val (.int (1 : Int32)), .val (.ref b)] [(.int ((x1 + (1 : Int32)).toInt8.toInt32)), (.int (1 : Int32)), (.ref b)])) _
    refine st143 _ ?_
    show Steps p.tables e below (T143.setTop (mkF m 32 #[.val (.ref a1), .val (.int (1 : Int32)), .val (.ref b)] [])) _
    refine XS.aloadN X143.here hx rfl (hb hby d2_32) rfl rfl ?_
    exact kt
  obtain ⟨fsx, hr, hrun, hended, hW, hsame⟩ := X143.leave (v := some (.ref b)) (fun h => by rw [Bd.returns] at h; cases h)
  refine ⟨_, _, pre146 _ ?_, hrun, hended, _, _, rfl, ?_, ⟨_, rfl⟩, hW, hsame.mono (by decide) (by decide)⟩
  · jvm_step X143.here [X143.here.top, hx, (hb hby d2_33), X143.method', Bd.returns, Value.isRef, FieldType.isReference]
    first | (intro acts; rw [hr _ acts rfl rfl rfl]) | rw [hr _ _ rfl rfl rfl]
    exact Steps.refl _
  · show QE21 Z a1 k1 x0 x1 h0 n0 _ T143.heap _
    rw [e143]
    exact ⟨b, k1, rfl, Nf143, K143, szb, V143⟩
theorem ef_rmE3n (m : MethodId) (x0 : Addr) : entryFrame m #[(.ref x0)] 3 = mkF m 0 #[.val (.ref x0), .unset, .unset] [] := by first | (simp [entryFrame, mkF, argsToLocals, Value.category]; done) | rfl
def QE3n (Z : State) (a1 : Addr) (k1 : ClassId) (x0 : Int32) (x1 : Int32) (x2 : Int32) (h0 : Heap) (n0 : Nat) (v : Option Value) (h : Heap) (L : List Loc) : Prop := v = some .null ∧ Fr n0 L ∧ h = h0
set_option maxRecDepth 65536 in
set_option maxHeartbeats 40000000 in
theorem rmE3n (l : Launch) (Z : State) (a0 : Array Value) (hw : ∀ d ∈ tables_1, d.before a0 Z = true) (ws : List Jvm.Cond) (a1 : Addr) (k1 : ClassId) (x0 : Int32) (x1 : Int32) (x2 : Int32) (h0 : Heap) (n0 : Nat) (Z0 : n0 ≤ h0.size) (V1 : Arv Z h0 a1 k1 .byte (3 : Int32) [(.int x0), (.int x1), (.int x2)] (.int (0 : Int32))) (E1 : Exa Z h0 a1 "[B") (ex0 : x0 = (-1 : Int32)) (ex1 : x1 = (-1 : Int32)) (ex2 : x2 = (-1 : Int32)) :
    MetFree l (⟨"com/example/tessera/tessera/storage/Prefixes", "end", "([B)[B"⟩ : MethodName) (head1 (Jvm.Cond.code (⟨"com/example/tessera/tessera/storage/Prefixes", "end", "([B)[B"⟩ : MethodName) prog_82_method_3_code 3 (some (.array .byte)) :: ws) ({ frames := 0, cells := 0, slots := 0, locals := 0 } : Room)) (fun a U => a = #[(.ref a1)] ∧ Z.Warmed39 U.vm ∧ U.heap = h0) (fun _ _ _ _ _ => True) (fun _ U o U' => ∃ v L, o = .returned v ∧ QE3n Z a1 k1 x0 x1 x2 h0 n0 v U'.heap L ∧ FrameEnd U o U' L ({ frames := 0, cells := 0, slots := 0, locals := 0 } : Room).cells ({ frames := 0, cells := 0, slots := 0, locals := 0 } : Room).slots) := by
  refine MetFree.of_bodySF (plainFor_of_name pn_2) hisR ?_
  intro p e s m args below meth c s₁ Bd hml0 hP hK
  obtain ⟨rfl, hZ, hh⟩ := hP
  have hx := Bd.exec
  have hby := Bd.bytes
  have hml : c.maxLocals = 3 := hml0
  have hown : s.vm.findClass "com/example/tessera/tessera/storage/Prefixes" = some m.cls := findClass_of_methodNamed Bd.named
  have hnm := (name_of_methodNamed Bd.named Bd.method).1
  have X0 : Stand p l e ({ frames := 0, cells := 0, slots := 0, locals := 0 } : Room) s m #[(.ref a1)] below meth c s₁ [] 0 0 := Stand.of_body Bd
  have e0 : s₁.heap = h0 := by rw [← hh, Bd.state]; rfl
  have N0 := Fr.nil n0
  have pre0 : ∀ t, Steps p.tables e below (s₁.setTop (mkF m 0 #[.val (.ref a1), .unset, .unset] [])) t → Steps p.tables e below (s₁.setTop (entryFrame m #[(.ref a1)] 3)) t := fun t k => castTop (ef_rmE3n m a1) k
  have pre147 : ∀ t, Steps p.tables e below (s₁.setTop (mkF m 41 #[.val (.ref a1), .val (.int (-1 : Int32)), .unset] [.null])) t → Steps p.tables e below (s₁.setTop (entryFrame m #[(.ref a1)] 3)) t := by
    intro t kt
    refine pre0 t ?_
    show Steps p.tables e below (s₁.setTop (mkF m 0 #[.val (.ref a1), .unset, .unset] [])) _
    refine XS.aloadN X0.here hx rfl (hb hby d2_0) rfl rfl ?_
    show Steps p.tables e below (s₁.setTop (mkF m 1 #[.val (.ref a1), .unset, .unset] [(.ref a1)])) _
    refine own_len X0 hx hZ e0 V1 (g := (mkF m 1 #[.val (.ref a1), .unset, .unset] [(.ref a1)])) rfl rfl (hb hby d2_1) _ ?_
    show Steps p.tables e below (s₁.setTop (mkF m 2 #[.val (.ref a1), .unset, .unset] [(.int (3 : Int32))])) _
    refine XS.iconst X0.here hx rfl (hb hby d2_2) ?_
    show Steps p.tables e below (s₁.setTop (mkF m 3 #[.val (.ref a1), .unset, .unset] [(.int (1 : Int32)), (.int (3 : Int32))])) _
    refine XS.isub X0.here hx rfl (hb hby d2_3) rfl ?_
    show Steps p.tables e below (s₁.setTop (mkF m 4 #[.val (.ref a1), .unset, .unset] [(.int (2 : Int32))])) _
    refine XS.istoreN X0.here hx rfl (hb hby d2_4) rfl (l' := #[.val (.ref a1), .val (.int (2 : Int32)), .unset]) rfl ?_
    show Steps p.tables e below (s₁.setTop (mkF m 5 #[.val (.ref a1), .val (.int (2 : Int32)), .unset] [])) _
    refine XS.iloadN X0.here hx rfl (hb hby d2_5) rfl ?_
    show Steps p.tables e below (s₁.setTop (mkF m 6 #[.val (.ref a1), .val (.int (2 : Int32)), .unset] [(.int (2 : Int32))])) _
    refine XS.ifNo X0.here hx rfl (hb hby d2_6) rfl ((if0 _ _).trans (flt (by decide)).1) ?_
    show Steps p.tables e below (s₁.setTop (mkF m 9 #[.val (.ref a1), .val (.int (2 : Int32)), .unset] [])) _
    refine XS.aloadN X0.here hx rfl (hb hby d2_9) rfl rfl ?_
    show Steps p.tables e below (s₁.setTop (mkF m 10 #[.val (.ref a1), .val (.int (2 : Int32)), .unset] [(.ref a1)])) _
    refine XS.iloadN X0.here hx rfl (hb hby d2_10) rfl ?_
    show Steps p.tables e below (s₁.setTop (mkF m 11 #[.val (.ref a1), .val (.int (2 : Int32)), .unset] [(.int (2 : Int32)), (.ref a1)])) _
    refine own_bal X0 hx hZ e0 V1 (j := (2 : Int32)) ⟨by decide, by decide⟩ (v := (.int x2)) rfl (g := (mkF m 11 #[.val (.ref a1), .val (.int (2 : Int32)), .unset] [(.int (2 : Int32)), (.ref a1)])) rfl rfl (hb hby d2_11) _ ?_
    show Steps p.tables e below (s₁.setTop (mkF m 12 #[.val (.ref a1), .val (.int (2 : Int32)), .unset] [(.int x2)])) _
    refine XS.iconst X0.here hx rfl (hb hby d2_12) ?_
    show Steps p.tables e below (s₁.setTop (mkF m 13 #[.val (.ref a1), .val (.int (2 : Int32)), .unset] [(.int (-1 : Int32)), (.int x2)])) _
    refine XS.icmpYes X0.here hx rfl (pc0 := 13) (pc' := 34) rfl (hb hby d2_13) rfl (teq ex2).1 (by decide) (by decide) ?_
    show Steps p.tables e below (s₁.setTop (mkF m 34 #[.val (.ref a1), .val (.int (2 : Int32)), .unset] [])) _
    refine XS.iinc X0.here hx rfl (hb hby d2_34) rfl (l' := #[.val (.ref a1), .val (.int (1 : Int32)), .unset]) rfl ?_
    show Steps p.tables e below (s₁.setTop (mkF m 37 #[.val (.ref a1), .val (.int (1 : Int32)), .unset] [])) _
    refine XS.goto X0.here hx rfl (pc0 := 37) (pc' := 5) rfl (hb hby d2_37) (by decide) (by decide) ?_
    show Steps p.tables e below (s₁.setTop (mkF m 5 #[.val (.ref a1), .val (.int (1 : Int32)), .unset] [])) _
    refine XS.iloadN X0.here hx rfl (hb hby d2_5) rfl ?_
    show Steps p.tables e below (s₁.setTop (mkF m 6 #[.val (.ref a1), .val (.int (1 : Int32)), .unset] [(.int (1 : Int32))])) _
    refine XS.ifNo X0.here hx rfl (hb hby d2_6) rfl ((if0 _ _).trans (flt (by decide)).1) ?_
    show Steps p.tables e below (s₁.setTop (mkF m 9 #[.val (.ref a1), .val (.int (1 : Int32)), .unset] [])) _
    refine XS.aloadN X0.here hx rfl (hb hby d2_9) rfl rfl ?_
    show Steps p.tables e below (s₁.setTop (mkF m 10 #[.val (.ref a1), .val (.int (1 : Int32)), .unset] [(.ref a1)])) _
    refine XS.iloadN X0.here hx rfl (hb hby d2_10) rfl ?_
    show Steps p.tables e below (s₁.setTop (mkF m 11 #[.val (.ref a1), .val (.int (1 : Int32)), .unset] [(.int (1 : Int32)), (.ref a1)])) _
    refine own_bal X0 hx hZ e0 V1 (j := (1 : Int32)) ⟨by decide, by decide⟩ (v := (.int x1)) rfl (g := (mkF m 11 #[.val (.ref a1), .val (.int (1 : Int32)), .unset] [(.int (1 : Int32)), (.ref a1)])) rfl rfl (hb hby d2_11) _ ?_
    show Steps p.tables e below (s₁.setTop (mkF m 12 #[.val (.ref a1), .val (.int (1 : Int32)), .unset] [(.int x1)])) _
    refine XS.iconst X0.here hx rfl (hb hby d2_12) ?_
    show Steps p.tables e below (s₁.setTop (mkF m 13 #[.val (.ref a1), .val (.int (1 : Int32)), .unset] [(.int (-1 : Int32)), (.int x1)])) _
    refine XS.icmpYes X0.here hx rfl (pc0 := 13) (pc' := 34) rfl (hb hby d2_13) rfl (teq ex1).1 (by decide) (by decide) ?_
    show Steps p.tables e below (s₁.setTop (mkF m 34 #[.val (.ref a1), .val (.int (1 : Int32)), .unset] [])) _
    refine XS.iinc X0.here hx rfl (hb hby d2_34) rfl (l' := #[.val (.ref a1), .val (.int (0 : Int32)), .unset]) rfl ?_
    show Steps p.tables e below (s₁.setTop (mkF m 37 #[.val (.ref a1), .val (.int (0 : Int32)), .unset] [])) _
    refine XS.goto X0.here hx rfl (pc0 := 37) (pc' := 5) rfl (hb hby d2_37) (by decide) (by decide) ?_
    show Steps p.tables e below (s₁.setTop (mkF m 5 #[.val (.ref a1), .val (.int (0 : Int32)), .unset] [])) _
    refine XS.iloadN X0.here hx rfl (hb hby d2_5) rfl ?_
    show Steps p.tables e below (s₁.setTop (mkF m 6 #[.val (.ref a1), .val (.int (0 : Int32)), .unset] [(.int (0 : Int32))])) _
    refine XS.ifNo X0.here hx rfl (hb hby d2_6) rfl ((if0 _ _).trans (flt (by decide)).1) ?_
    show Steps p.tables e below (s₁.setTop (mkF m 9 #[.val (.ref a1), .val (.int (0 : Int32)), .unset] [])) _
    refine XS.aloadN X0.here hx rfl (hb hby d2_9) rfl rfl ?_
    show Steps p.tables e below (s₁.setTop (mkF m 10 #[.val (.ref a1), .val (.int (0 : Int32)), .unset] [(.ref a1)])) _
    refine XS.iloadN X0.here hx rfl (hb hby d2_10) rfl ?_
    show Steps p.tables e below (s₁.setTop (mkF m 11 #[.val (.ref a1), .val (.int (0 : Int32)), .unset] [(.int (0 : Int32)), (.ref a1)])) _
    refine own_bal X0 hx hZ e0 V1 (j := (0 : Int32)) ⟨by decide, by decide⟩ (v := (.int x0)) rfl (g := (mkF m 11 #[.val (.ref a1), .val (.int (0 : Int32)), .unset] [(.int (0 : Int32)), (.ref a1)])) rfl rfl (hb hby d2_11) _ ?_
    show Steps p.tables e below (s₁.setTop (mkF m 12 #[.val (.ref a1), .val (.int (0 : Int32)), .unset] [(.int x0)])) _
    refine XS.iconst X0.here hx rfl (hb hby d2_12) ?_
    show Steps p.tables e below (s₁.setTop (mkF m 13 #[.val (.ref a1), .val (.int (0 : Int32)), .unset] [(.int (-1 : Int32)), (.int x0)])) _
    refine XS.icmpYes X0.here hx rfl (pc0 := 13) (pc' := 34) rfl (hb hby d2_13) rfl (teq ex0).1 (by decide) (by decide) ?_
    show Steps p.tables e below (s₁.setTop (mkF m 34 #[.val (.ref a1), .val (.int (0 : Int32)), .unset] [])) _
    refine XS.iinc X0.here hx rfl (hb hby d2_34) rfl (l' := #[.val (.ref a1), .val (.int (-1 : Int32)), .unset]) rfl ?_
    show Steps p.tables e below (s₁.setTop (mkF m 37 #[.val (.ref a1), .val (.int (-1 : Int32)), .unset] [])) _
    refine XS.goto X0.here hx rfl (pc0 := 37) (pc' := 5) rfl (hb hby d2_37) (by decide) (by decide) ?_
    show Steps p.tables e below (s₁.setTop (mkF m 5 #[.val (.ref a1), .val (.int (-1 : Int32)), .unset] [])) _
    refine XS.iloadN X0.here hx rfl (hb hby d2_5) rfl ?_
    show Steps p.tables e below (s₁.setTop (mkF m 6 #[.val (.ref a1), .val (.int (-1 : Int32)), .unset] [(.int (-1 : Int32))])) _
    refine XS.ifYes X0.here hx rfl (pc0 := 6) (pc' := 40) rfl (hb hby d2_6) rfl ((if0 _ _).trans (tlt (by decide)).1) (by decide) (by decide) ?_
    show Steps p.tables e below (s₁.setTop (mkF m 40 #[.val (.ref a1), .val (.int (-1 : Int32)), .unset] [])) _
    refine XS.aconstNull X0.here hx rfl (hb hby d2_40) ?_
    exact kt
  obtain ⟨fsx, hr, hrun, hended, hW, hsame⟩ := X0.leave (v := some .null) (fun h => by rw [Bd.returns] at h; cases h)
  refine ⟨_, _, pre147 _ ?_, hrun, hended, _, _, rfl, ?_, ⟨_, rfl⟩, hW, hsame.mono (by decide) (by decide)⟩
  · jvm_step X0.here [X0.here.top, hx, (hb hby d2_41), X0.method', Bd.returns, Value.isRef, FieldType.isReference]
    first | (intro acts; rw [hr _ acts rfl rfl rfl]) | rw [hr _ _ rfl rfl rfl]
    exact Steps.refl _
  · show QE3n Z a1 k1 x0 x1 x2 h0 n0 _ s₁.heap _
    rw [e0]
    exact ⟨rfl, N0, rfl⟩
theorem ef_rmE30 (m : MethodId) (x0 : Addr) : entryFrame m #[(.ref x0)] 3 = mkF m 0 #[.val (.ref x0), .unset, .unset] [] := by first | (simp [entryFrame, mkF, argsToLocals, Value.category]; done) | rfl
def QE30 (Z : State) (a1 : Addr) (k1 : ClassId) (x0 : Int32) (x1 : Int32) (x2 : Int32) (h0 : Heap) (n0 : Nat) (v : Option Value) (h : Heap) (L : List Loc) : Prop := ∃ (b : Addr) (kb : ClassId), v = some (.ref b) ∧ Fr n0 L ∧ Keep h0 h [] ∧ h0.size ≤ b ∧ Arv Z h b kb .byte (1 : Int32) [(.int ((x0 + (1 : Int32)).toInt8.toInt32))] (.int (0 : Int32))
set_option maxRecDepth 65536 in
set_option maxHeartbeats 40000000 in
theorem rmE30 (l : Launch) (Z : State) (a0 : Array Value) (hw : ∀ d ∈ tables_1, d.before a0 Z = true) (ws : List Jvm.Cond) (a1 : Addr) (k1 : ClassId) (x0 : Int32) (x1 : Int32) (x2 : Int32) (h0 : Heap) (n0 : Nat) (Z0 : n0 ≤ h0.size) (V1 : Arv Z h0 a1 k1 .byte (3 : Int32) [(.int x0), (.int x1), (.int x2)] (.int (0 : Int32))) (E1 : Exa Z h0 a1 "[B") (ex1 : x1 = (-1 : Int32)) (ex2 : x2 = (-1 : Int32)) (ex0 : ¬ (x0 = (-1 : Int32))) :
    MetFree l (⟨"com/example/tessera/tessera/storage/Prefixes", "end", "([B)[B"⟩ : MethodName) (head1 (Jvm.Cond.code (⟨"com/example/tessera/tessera/storage/Prefixes", "end", "([B)[B"⟩ : MethodName) prog_82_method_3_code 3 (some (.array .byte)) :: ws) ({ frames := 2, cells := 1, slots := 3, locals := 32 } : Room)) (fun a U => a = #[(.ref a1)] ∧ Z.Warmed39 U.vm ∧ U.heap = h0) (fun _ _ _ _ _ => True) (fun _ U o U' => ∃ v L, o = .returned v ∧ QE30 Z a1 k1 x0 x1 x2 h0 n0 v U'.heap L ∧ FrameEnd U o U' L ({ frames := 2, cells := 1, slots := 3, locals := 32 } : Room).cells ({ frames := 2, cells := 1, slots := 3, locals := 32 } : Room).slots) := by
  refine MetFree.of_bodySF (plainFor_of_name pn_2) hisR ?_
  intro p e s m args below meth c s₁ Bd hml0 hP hK
  obtain ⟨rfl, hZ, hh⟩ := hP
  have hx := Bd.exec
  have hby := Bd.bytes
  have hml : c.maxLocals = 3 := hml0
  have hown : s.vm.findClass "com/example/tessera/tessera/storage/Prefixes" = some m.cls := findClass_of_methodNamed Bd.named
  have hnm := (name_of_methodNamed Bd.named Bd.method).1
  have X0 : Stand p l e ({ frames := 2, cells := 1, slots := 3, locals := 32 } : Room) s m #[(.ref a1)] below meth c s₁ [] 0 0 := Stand.of_body Bd
  have e0 : s₁.heap = h0 := by rw [← hh, Bd.state]; rfl
  have N0 := Fr.nil n0
  have pre0 : ∀ t, Steps p.tables e below (s₁.setTop (mkF m 0 #[.val (.ref a1), .unset, .unset] [])) t → Steps p.tables e below (s₁.setTop (entryFrame m #[(.ref a1)] 3)) t := fun t k => castTop (ef_rmE30 m a1) k
  obtain ⟨_, _, ⟨T148, L148, k148, n148⟩, -, X148, ⟨Lc148, hQ148, l148, y148, z148⟩, st148⟩ := Jvm.LawKit.callS X0 hx (y := (⟨"java/util/Arrays", "copyOf", "([BI)[B"⟩ : MethodName)) hown (mvT hZ (hw _ (List.mem_of_getElem? (i := 9) rfl))) (mvT hZ (hw _ (List.mem_of_getElem? (i := 10) rfl))) (mvT hZ (hw _ (List.mem_of_getElem? (i := 11) rfl))) (mvT hZ (hw _ (List.mem_of_getElem? (i := 12) rfl))) (by decide) (backOf (W := 0) (rm4 l Z a0 hw [] a1 k1 (3 : Int32) [(.int x0), (.int x1), (.int x2)] (1 : Int32) h0 n0 Z0 V1 (by decide) (by decide) (by decide)) hZ (hw _ (List.mem_of_getElem? (i := 12) rfl)) (hw _ (List.mem_of_getElem? (i := 11) rfl)) (by decide) (by decide)) (g := (mkF m 20 #[.val (.ref a1), .val (.int (0 : Int32)), .unset] [(.int (1 : Int32)), (.ref a1)])) rfl (by rw [hml]; rfl) (argsL := [(.ref a1), (.int (1 : Int32))]) (rest := []) (lenOf pd_1 rfl) rfl (by show 2 * 0 + _ ≤ _; exact Nat.le_of_eq rfl) (hb hby d2_20) (fun _ _ => ⟨rfl, e0, (by decide : 0 + 1 ≤ _), (by decide : 0 + 3 ≤ _)⟩)
  dsimp only [Pt.U, Pt.locs, Pt.cells, Pt.slots] at X148 l148 y148 z148 st148 hQ148
  subst l148 y148 z148
  obtain ⟨b, kb, rfl, Nq148, Kq148, szb, Vb1⟩ := hQ148
  have f149 := (V1.keep Kq148 nin0)
  have f150 := (E1.keep Kq148)
  have Z148 : n0 ≤ T148.heap.size := Nat.le_trans Z0 Kq148.1
  have K148 : Keep h0 T148.heap [] := (Keep.refl h0 []).trans Kq148 all0
  have Nf148 := Fr.app N0 Nq148
  have Vb0 : Arv Z T148.heap b kb .byte (1 : Int32) [(.int x0)] (.int (0 : Int32)) := Vb1
  have g_b : n0 ≤ b := Nat.le_trans Z0 szb
  have ne_b : a1 ≠ b := Nat.ne_of_lt (Nat.lt_of_lt_of_le V1.lt szb)
  obtain ⟨T151, h151, X151, e151, W151, V151, st151⟩ := own_bst X148 hx hZ rfl Vb0 (j := (0 : Int32)) ⟨by decide, by decide⟩ (i := 0) rfl (Nat.le_of_ble_eq_true rfl) (w := ((x0 + (1 : Int32)).toInt8.toInt32)) (own_nar _) (g := (mkF m 31 #[.val (.ref a1), .val (.int (0 : Int32)), .val (.ref b)] [(.int ((x0 + (1 : Int32)).toInt8.toInt32)), (.int (0 : Int32)), (.ref b)])) rfl rfl (hb hby d2_31)
  have f152 := (f149.other W151 ne_b)
  have f153 := (f150.wr W151)
  have K151 : Keep h0 h151 [] := K148.wr W151 (Or.inr szb)
  have Nf151 := Fr.snoc X151 Nf148 g_b
  have Z151 : n0 ≤ h151.size := Nat.le_trans Z148 (Keep.of_wr W151).1
  have V151 : Arv Z h151 b kb .byte (1 : Int32) [(.int ((x0 + (1 : Int32)).toInt8.toInt32))] (.int (0 : Int32)) := V151
  have pre154 : ∀ t, Steps p.tables e below (T151.setTop (mkF m 33 #[.val (.ref a1), .val (.int (0 : Int32)), .val (.ref b)] [(.ref b)])) t → Steps p.tables e below (s₁.setTop (entryFrame m #[(.ref a1)] 3)) t := by
    intro t kt
    refine pre0 t ?_
    show Steps p.tables e below (s₁.setTop (mkF m 0 #[.val (.ref a1), .unset, .unset] [])) _
    refine XS.aloadN X0.here hx rfl (hb hby d2_0) rfl rfl ?_
    show Steps p.tables e below (s₁.setTop (mkF m 1 #[.val (.ref a1), .unset, .unset] [(.ref a1)])) _
    refine own_len X0 hx hZ e0 V1 (g := (mkF m 1 #[.val (.ref a1), .unset, .unset] [(.ref a1)])) rfl rfl (hb hby d2_1) _ ?_
    show Steps p.tables e below (s₁.setTop (mkF m 2 #[.val (.ref a1), .unset, .unset] [(.int (3 : Int32))])) _
    refine XS.iconst X0.here hx rfl (hb hby d2_2) ?_
    show Steps p.tables e below (s₁.setTop (mkF m 3 #[.val (.ref a1), .unset, .unset] [(.int (1 : Int32)), (.int (3 : Int32))])) _
    refine XS.isub X0.here hx rfl (hb hby d2_3) rfl ?_
    show Steps p.tables e below (s₁.setTop (mkF m 4 #[.val (.ref a1), .unset, .unset] [(.int (2 : Int32))])) _
    refine XS.istoreN X0.here hx rfl (hb hby d2_4) rfl (l' := #[.val (.ref a1), .val (.int (2 : Int32)), .unset]) rfl ?_
    show Steps p.tables e below (s₁.setTop (mkF m 5 #[.val (.ref a1), .val (.int (2 : Int32)), .unset] [])) _
    refine XS.iloadN X0.here hx rfl (hb hby d2_5) rfl ?_
    show Steps p.tables e below (s₁.setTop (mkF m 6 #[.val (.ref a1), .val (.int (2 : Int32)), .unset] [(.int (2 : Int32))])) _
    refine XS.ifNo X0.here hx rfl (hb hby d2_6) rfl ((if0 _ _).trans (flt (by decide)).1) ?_
    show Steps p.tables e below (s₁.setTop (mkF m 9 #[.val (.ref a1), .val (.int (2 : Int32)), .unset] [])) _
    refine XS.aloadN X0.here hx rfl (hb hby d2_9) rfl rfl ?_
    show Steps p.tables e below (s₁.setTop (mkF m 10 #[.val (.ref a1), .val (.int (2 : Int32)), .unset] [(.ref a1)])) _
    refine XS.iloadN X0.here hx rfl (hb hby d2_10) rfl ?_
    show Steps p.tables e below (s₁.setTop (mkF m 11 #[.val (.ref a1), .val (.int (2 : Int32)), .unset] [(.int (2 : Int32)), (.ref a1)])) _
    refine own_bal X0 hx hZ e0 V1 (j := (2 : Int32)) ⟨by decide, by decide⟩ (v := (.int x2)) rfl (g := (mkF m 11 #[.val (.ref a1), .val (.int (2 : Int32)), .unset] [(.int (2 : Int32)), (.ref a1)])) rfl rfl (hb hby d2_11) _ ?_
    show Steps p.tables e below (s₁.setTop (mkF m 12 #[.val (.ref a1), .val (.int (2 : Int32)), .unset] [(.int x2)])) _
    refine XS.iconst X0.here hx rfl (hb hby d2_12) ?_
    show Steps p.tables e below (s₁.setTop (mkF m 13 #[.val (.ref a1), .val (.int (2 : Int32)), .unset] [(.int (-1 : Int32)), (.int x2)])) _
    refine XS.icmpYes X0.here hx rfl (pc0 := 13) (pc' := 34) rfl (hb hby d2_13) rfl (teq ex2).1 (by decide) (by decide) ?_
    show Steps p.tables e below (s₁.setTop (mkF m 34 #[.val (.ref a1), .val (.int (2 : Int32)), .unset] [])) _
    refine XS.iinc X0.here hx rfl (hb hby d2_34) rfl (l' := #[.val (.ref a1), .val (.int (1 : Int32)), .unset]) rfl ?_
    show Steps p.tables e below (s₁.setTop (mkF m 37 #[.val (.ref a1), .val (.int (1 : Int32)), .unset] [])) _
    refine XS.goto X0.here hx rfl (pc0 := 37) (pc' := 5) rfl (hb hby d2_37) (by decide) (by decide) ?_
    show Steps p.tables e below (s₁.setTop (mkF m 5 #[.val (.ref a1), .val (.int (1 : Int32)), .unset] [])) _
    refine XS.iloadN X0.here hx rfl (hb hby d2_5) rfl ?_
    show Steps p.tables e below (s₁.setTop (mkF m 6 #[.val (.ref a1), .val (.int (1 : Int32)), .unset] [(.int (1 : Int32))])) _
    refine XS.ifNo X0.here hx rfl (hb hby d2_6) rfl ((if0 _ _).trans (flt (by decide)).1) ?_
    show Steps p.tables e below (s₁.setTop (mkF m 9 #[.val (.ref a1), .val (.int (1 : Int32)), .unset] [])) _
    refine XS.aloadN X0.here hx rfl (hb hby d2_9) rfl rfl ?_
    show Steps p.tables e below (s₁.setTop (mkF m 10 #[.val (.ref a1), .val (.int (1 : Int32)), .unset] [(.ref a1)])) _
    refine XS.iloadN X0.here hx rfl (hb hby d2_10) rfl ?_
    show Steps p.tables e below (s₁.setTop (mkF m 11 #[.val (.ref a1), .val (.int (1 : Int32)), .unset] [(.int (1 : Int32)), (.ref a1)])) _
    refine own_bal X0 hx hZ e0 V1 (j := (1 : Int32)) ⟨by decide, by decide⟩ (v := (.int x1)) rfl (g := (mkF m 11 #[.val (.ref a1), .val (.int (1 : Int32)), .unset] [(.int (1 : Int32)), (.ref a1)])) rfl rfl (hb hby d2_11) _ ?_
    show Steps p.tables e below (s₁.setTop (mkF m 12 #[.val (.ref a1), .val (.int (1 : Int32)), .unset] [(.int x1)])) _
    refine XS.iconst X0.here hx rfl (hb hby d2_12) ?_
    show Steps p.tables e below (s₁.setTop (mkF m 13 #[.val (.ref a1), .val (.int (1 : Int32)), .unset] [(.int (-1 : Int32)), (.int x1)])) _
    refine XS.icmpYes X0.here hx rfl (pc0 := 13) (pc' := 34) rfl (hb hby d2_13) rfl (teq ex1).1 (by decide) (by decide) ?_
    show Steps p.tables e below (s₁.setTop (mkF m 34 #[.val (.ref a1), .val (.int (1 : Int32)), .unset] [])) _
    refine XS.iinc X0.here hx rfl (hb hby d2_34) rfl (l' := #[.val (.ref a1), .val (.int (0 : Int32)), .unset]) rfl ?_
    show Steps p.tables e below (s₁.setTop (mkF m 37 #[.val (.ref a1), .val (.int (0 : Int32)), .unset] [])) _
    refine XS.goto X0.here hx rfl (pc0 := 37) (pc' := 5) rfl (hb hby d2_37) (by decide) (by decide) ?_
    show Steps p.tables e below (s₁.setTop (mkF m 5 #[.val (.ref a1), .val (.int (0 : Int32)), .unset] [])) _
    refine XS.iloadN X0.here hx rfl (hb hby d2_5) rfl ?_
    show Steps p.tables e below (s₁.setTop (mkF m 6 #[.val (.ref a1), .val (.int (0 : Int32)), .unset] [(.int (0 : Int32))])) _
    refine XS.ifNo X0.here hx rfl (hb hby d2_6) rfl ((if0 _ _).trans (flt (by decide)).1) ?_
    show Steps p.tables e below (s₁.setTop (mkF m 9 #[.val (.ref a1), .val (.int (0 : Int32)), .unset] [])) _
    refine XS.aloadN X0.here hx rfl (hb hby d2_9) rfl rfl ?_
    show Steps p.tables e below (s₁.setTop (mkF m 10 #[.val (.ref a1), .val (.int (0 : Int32)), .unset] [(.ref a1)])) _
    refine XS.iloadN X0.here hx rfl (hb hby d2_10) rfl ?_
    show Steps p.tables e below (s₁.setTop (mkF m 11 #[.val (.ref a1), .val (.int (0 : Int32)), .unset] [(.int (0 : Int32)), (.ref a1)])) _
    refine own_bal X0 hx hZ e0 V1 (j := (0 : Int32)) ⟨by decide, by decide⟩ (v := (.int x0)) rfl (g := (mkF m 11 #[.val (.ref a1), .val (.int (0 : Int32)), .unset] [(.int (0 : Int32)), (.ref a1)])) rfl rfl (hb hby d2_11) _ ?_
    show Steps p.tables e below (s₁.setTop (mkF m 12 #[.val (.ref a1), .val (.int (0 : Int32)), .unset] [(.int x0)])) _
    refine XS.iconst X0.here hx rfl (hb hby d2_12) ?_
    show Steps p.tables e below (s₁.setTop (mkF m 13 #[.val (.ref a1), .val (.int (0 : Int32)), .unset] [(.int (-1 : Int32)), (.int x0)])) _
    refine XS.icmpNo X0.here hx rfl (hb hby d2_13) rfl (feq ex0).1 ?_
    show Steps p.tables e below (s₁.setTop (mkF m 16 #[.val (.ref a1), .val (.int (0 : Int32)), .unset] [])) _
    refine XS.aloadN X0.here hx rfl (hb hby d2_16) rfl rfl ?_
    show Steps p.tables e below (s₁.setTop (mkF m 17 #[.val (.ref a1), .val (.int (0 : Int32)), .unset] [(.ref a1)])) _
    refine XS.iloadN X0.here hx rfl (hb hby d2_17) rfl ?_
    show Steps p.tables e below (s₁.setTop (mkF m 18 #[.val (.ref a1), .val (.int (0 : Int32)), .unset] [(.int (0 : Int32)), (.ref a1)])) _
    refine XS.iconst X0.here hx rfl (hb hby d2_18) ?_
    show Steps p.tables e below (s₁.setTop (mkF m 19 #[.val (.ref a1), .val (.int (0 : Int32)), .unset] [(.int (1 : Int32)), (.int (0 : Int32)), (.ref a1)])) _
    refine XS.iadd X0.here hx rfl (hb hby d2_19) rfl ?_
    show Steps p.tables e below (s₁.setTop (mkF m 20 #[.val (.ref a1), .val (.int (0 : Int32)), .unset] [(.int (1 : Int32)), (.ref a1)])) _
    refine st148 _ ?_
    show Steps p.tables e below (T148.setTop (mkF m 23 #[.val (.ref a1), .val (.int (0 : Int32)), .unset] [(.ref b)])) _
    refine XS.astoreN X148.here hx rfl (hb hby d2_23) rfl rfl (l' := #[.val (.ref a1), .val (.int (0 : Int32)), .val (.ref b)]) rfl ?_
    show Steps p.tables e below (T148.setTop (mkF m 24 #[.val (.ref a1), .val (.int (0 : Int32)), .val (.ref b)] [])) _
    refine XS.aloadN X148.here hx rfl (hb hby d2_24) rfl rfl ?_
    show Steps p.tables e below (T148.setTop (mkF m 25 #[.val (.ref a1), .val (.int (0 : Int32)), .val (.ref b)] [(.ref b)])) _
    refine XS.iloadN X148.here hx rfl (hb hby d2_25) rfl ?_
    show Steps p.tables e below (T148.setTop (mkF m 26 #[.val (.ref a1), .val (.int (0 : Int32)), .val (.ref b)] [(.int (0 : Int32)), (.ref b)])) _
    refine Jvm.Free.XT.dup2 X148.here hx rfl (hb hby d2_26) rfl rfl rfl ?_
    show Steps p.tables e below (T148.setTop (mkF m 27 #[.val (.ref a1), .val (.int (0 : Int32)), .val (.ref b)] [(.int (0 : Int32)), (.ref b), (.int (0 : Int32)), (.ref b)])) _
    refine own_bal X148 hx hZ rfl Vb0 (j := (0 : Int32)) ⟨by decide, by decide⟩ (v := (.int x0)) rfl (g := (mkF m 27 #[.val (.ref a1), .val (.int (0 : Int32)), .val (.ref b)] [(.int (0 : Int32)), (.ref b), (.int (0 : Int32)), (.ref b)])) rfl rfl (hb hby d2_27) _ ?_
    show Steps p.tables e below (T148.setTop (mkF m 28 #[.val (.ref a1), .val (.int (0 : Int32)), .val (.ref b)] [(.int x0), (.int (0 : Int32)), (.ref b)])) _
    refine XS.iconst X148.here hx rfl (hb hby d2_28) ?_
    show Steps p.tables e below (T148.setTop (mkF m 29 #[.val (.ref a1), .val (.int (0 : Int32)), .val (.ref b)] [(.int (1 : Int32)), (.int x0), (.int (0 : Int32)), (.ref b)])) _
    refine XS.iadd X148.here hx rfl (hb hby d2_29) rfl ?_
    show Steps p.tables e below (T148.setTop (mkF m 30 #[.val (.ref a1), .val (.int (0 : Int32)), .val (.ref b)] [(.int (x0 + (1 : Int32))), (.int (0 : Int32)), (.ref b)])) _
    refine XS.i2b X148.here hx rfl (hb hby d2_30) rfl ?_
    show Steps p.tables e below (T148.setTop (mkF m 31 #[.val (.ref a1), .val (.int (0 : Int32)), .val (.ref b)] [(.int ((x0 + (1 : Int32)).toInt8.toInt32)), (.int (0 : Int32)), (.ref b)])) _
    refine st151 _ ?_
    show Steps p.tables e below (T151.setTop (mkF m 32 #[.val (.ref a1), .val (.int (0 : Int32)), .val (.ref b)] [])) _
    refine XS.aloadN X151.here hx rfl (hb hby d2_32) rfl rfl ?_
    exact kt
  obtain ⟨fsx, hr, hrun, hended, hW, hsame⟩ := X151.leave (v := some (.ref b)) (fun h => by rw [Bd.returns] at h; cases h)
  refine ⟨_, _, pre154 _ ?_, hrun, hended, _, _, rfl, ?_, ⟨_, rfl⟩, hW, hsame.mono (by decide) (by decide)⟩
  · jvm_step X151.here [X151.here.top, hx, (hb hby d2_33), X151.method', Bd.returns, Value.isRef, FieldType.isReference]
    first | (intro acts; rw [hr _ acts rfl rfl rfl]) | rw [hr _ _ rfl rfl rfl]
    exact Steps.refl _
  · show QE30 Z a1 k1 x0 x1 x2 h0 n0 _ T151.heap _
    rw [e151]
    exact ⟨b, kb, rfl, Nf151, K151, szb, V151⟩
theorem ef_rmE31 (m : MethodId) (x0 : Addr) : entryFrame m #[(.ref x0)] 3 = mkF m 0 #[.val (.ref x0), .unset, .unset] [] := by first | (simp [entryFrame, mkF, argsToLocals, Value.category]; done) | rfl
def QE31 (Z : State) (a1 : Addr) (k1 : ClassId) (x0 : Int32) (x1 : Int32) (x2 : Int32) (h0 : Heap) (n0 : Nat) (v : Option Value) (h : Heap) (L : List Loc) : Prop := ∃ (b : Addr) (kb : ClassId), v = some (.ref b) ∧ Fr n0 L ∧ Keep h0 h [] ∧ h0.size ≤ b ∧ Arv Z h b kb .byte (2 : Int32) [(.int x0), (.int ((x1 + (1 : Int32)).toInt8.toInt32))] (.int (0 : Int32))
set_option maxRecDepth 65536 in
set_option maxHeartbeats 40000000 in
theorem rmE31 (l : Launch) (Z : State) (a0 : Array Value) (hw : ∀ d ∈ tables_1, d.before a0 Z = true) (ws : List Jvm.Cond) (a1 : Addr) (k1 : ClassId) (x0 : Int32) (x1 : Int32) (x2 : Int32) (h0 : Heap) (n0 : Nat) (Z0 : n0 ≤ h0.size) (V1 : Arv Z h0 a1 k1 .byte (3 : Int32) [(.int x0), (.int x1), (.int x2)] (.int (0 : Int32))) (E1 : Exa Z h0 a1 "[B") (ex2 : x2 = (-1 : Int32)) (ex1 : ¬ (x1 = (-1 : Int32))) :
    MetFree l (⟨"com/example/tessera/tessera/storage/Prefixes", "end", "([B)[B"⟩ : MethodName) (head1 (Jvm.Cond.code (⟨"com/example/tessera/tessera/storage/Prefixes", "end", "([B)[B"⟩ : MethodName) prog_82_method_3_code 3 (some (.array .byte)) :: ws) ({ frames := 2, cells := 1, slots := 3, locals := 32 } : Room)) (fun a U => a = #[(.ref a1)] ∧ Z.Warmed39 U.vm ∧ U.heap = h0) (fun _ _ _ _ _ => True) (fun _ U o U' => ∃ v L, o = .returned v ∧ QE31 Z a1 k1 x0 x1 x2 h0 n0 v U'.heap L ∧ FrameEnd U o U' L ({ frames := 2, cells := 1, slots := 3, locals := 32 } : Room).cells ({ frames := 2, cells := 1, slots := 3, locals := 32 } : Room).slots) := by
  refine MetFree.of_bodySF (plainFor_of_name pn_2) hisR ?_
  intro p e s m args below meth c s₁ Bd hml0 hP hK
  obtain ⟨rfl, hZ, hh⟩ := hP
  have hx := Bd.exec
  have hby := Bd.bytes
  have hml : c.maxLocals = 3 := hml0
  have hown : s.vm.findClass "com/example/tessera/tessera/storage/Prefixes" = some m.cls := findClass_of_methodNamed Bd.named
  have hnm := (name_of_methodNamed Bd.named Bd.method).1
  have X0 : Stand p l e ({ frames := 2, cells := 1, slots := 3, locals := 32 } : Room) s m #[(.ref a1)] below meth c s₁ [] 0 0 := Stand.of_body Bd
  have e0 : s₁.heap = h0 := by rw [← hh, Bd.state]; rfl
  have N0 := Fr.nil n0
  have pre0 : ∀ t, Steps p.tables e below (s₁.setTop (mkF m 0 #[.val (.ref a1), .unset, .unset] [])) t → Steps p.tables e below (s₁.setTop (entryFrame m #[(.ref a1)] 3)) t := fun t k => castTop (ef_rmE31 m a1) k
  obtain ⟨_, _, ⟨T155, L155, k155, n155⟩, -, X155, ⟨Lc155, hQ155, l155, y155, z155⟩, st155⟩ := Jvm.LawKit.callS X0 hx (y := (⟨"java/util/Arrays", "copyOf", "([BI)[B"⟩ : MethodName)) hown (mvT hZ (hw _ (List.mem_of_getElem? (i := 9) rfl))) (mvT hZ (hw _ (List.mem_of_getElem? (i := 10) rfl))) (mvT hZ (hw _ (List.mem_of_getElem? (i := 11) rfl))) (mvT hZ (hw _ (List.mem_of_getElem? (i := 12) rfl))) (by decide) (backOf (W := 0) (rm4 l Z a0 hw [] a1 k1 (3 : Int32) [(.int x0), (.int x1), (.int x2)] (2 : Int32) h0 n0 Z0 V1 (by decide) (by decide) (by decide)) hZ (hw _ (List.mem_of_getElem? (i := 12) rfl)) (hw _ (List.mem_of_getElem? (i := 11) rfl)) (by decide) (by decide)) (g := (mkF m 20 #[.val (.ref a1), .val (.int (1 : Int32)), .unset] [(.int (2 : Int32)), (.ref a1)])) rfl (by rw [hml]; rfl) (argsL := [(.ref a1), (.int (2 : Int32))]) (rest := []) (lenOf pd_1 rfl) rfl (by show 2 * 0 + _ ≤ _; exact Nat.le_of_eq rfl) (hb hby d2_20) (fun _ _ => ⟨rfl, e0, (by decide : 0 + 1 ≤ _), (by decide : 0 + 3 ≤ _)⟩)
  dsimp only [Pt.U, Pt.locs, Pt.cells, Pt.slots] at X155 l155 y155 z155 st155 hQ155
  subst l155 y155 z155
  obtain ⟨b, kb, rfl, Nq155, Kq155, szb, Vb1⟩ := hQ155
  have f156 := (V1.keep Kq155 nin0)
  have f157 := (E1.keep Kq155)
  have Z155 : n0 ≤ T155.heap.size := Nat.le_trans Z0 Kq155.1
  have K155 : Keep h0 T155.heap [] := (Keep.refl h0 []).trans Kq155 all0
  have Nf155 := Fr.app N0 Nq155
  have Vb0 : Arv Z T155.heap b kb .byte (2 : Int32) [(.int x0), (.int x1)] (.int (0 : Int32)) := Vb1
  have g_b : n0 ≤ b := Nat.le_trans Z0 szb
  have ne_b : a1 ≠ b := Nat.ne_of_lt (Nat.lt_of_lt_of_le V1.lt szb)
  obtain ⟨T158, h158, X158, e158, W158, V158, st158⟩ := own_bst X155 hx hZ rfl Vb0 (j := (1 : Int32)) ⟨by decide, by decide⟩ (i := 1) rfl (Nat.le_of_ble_eq_true rfl) (w := ((x1 + (1 : Int32)).toInt8.toInt32)) (own_nar _) (g := (mkF m 31 #[.val (.ref a1), .val (.int (1 : Int32)), .val (.ref b)] [(.int ((x1 + (1 : Int32)).toInt8.toInt32)), (.int (1 : Int32)), (.ref b)])) rfl rfl (hb hby d2_31)
  have f159 := (f156.other W158 ne_b)
  have f160 := (f157.wr W158)
  have K158 : Keep h0 h158 [] := K155.wr W158 (Or.inr szb)
  have Nf158 := Fr.snoc X158 Nf155 g_b
  have Z158 : n0 ≤ h158.size := Nat.le_trans Z155 (Keep.of_wr W158).1
  have V158 : Arv Z h158 b kb .byte (2 : Int32) [(.int x0), (.int ((x1 + (1 : Int32)).toInt8.toInt32))] (.int (0 : Int32)) := V158
  have pre161 : ∀ t, Steps p.tables e below (T158.setTop (mkF m 33 #[.val (.ref a1), .val (.int (1 : Int32)), .val (.ref b)] [(.ref b)])) t → Steps p.tables e below (s₁.setTop (entryFrame m #[(.ref a1)] 3)) t := by
    intro t kt
    refine pre0 t ?_
    show Steps p.tables e below (s₁.setTop (mkF m 0 #[.val (.ref a1), .unset, .unset] [])) _
    refine XS.aloadN X0.here hx rfl (hb hby d2_0) rfl rfl ?_
    show Steps p.tables e below (s₁.setTop (mkF m 1 #[.val (.ref a1), .unset, .unset] [(.ref a1)])) _
    refine own_len X0 hx hZ e0 V1 (g := (mkF m 1 #[.val (.ref a1), .unset, .unset] [(.ref a1)])) rfl rfl (hb hby d2_1) _ ?_
    show Steps p.tables e below (s₁.setTop (mkF m 2 #[.val (.ref a1), .unset, .unset] [(.int (3 : Int32))])) _
    refine XS.iconst X0.here hx rfl (hb hby d2_2) ?_
    show Steps p.tables e below (s₁.setTop (mkF m 3 #[.val (.ref a1), .unset, .unset] [(.int (1 : Int32)), (.int (3 : Int32))])) _
    refine XS.isub X0.here hx rfl (hb hby d2_3) rfl ?_
    show Steps p.tables e below (s₁.setTop (mkF m 4 #[.val (.ref a1), .unset, .unset] [(.int (2 : Int32))])) _
    refine XS.istoreN X0.here hx rfl (hb hby d2_4) rfl (l' := #[.val (.ref a1), .val (.int (2 : Int32)), .unset]) rfl ?_
    show Steps p.tables e below (s₁.setTop (mkF m 5 #[.val (.ref a1), .val (.int (2 : Int32)), .unset] [])) _
    refine XS.iloadN X0.here hx rfl (hb hby d2_5) rfl ?_
    show Steps p.tables e below (s₁.setTop (mkF m 6 #[.val (.ref a1), .val (.int (2 : Int32)), .unset] [(.int (2 : Int32))])) _
    refine XS.ifNo X0.here hx rfl (hb hby d2_6) rfl ((if0 _ _).trans (flt (by decide)).1) ?_
    show Steps p.tables e below (s₁.setTop (mkF m 9 #[.val (.ref a1), .val (.int (2 : Int32)), .unset] [])) _
    refine XS.aloadN X0.here hx rfl (hb hby d2_9) rfl rfl ?_
    show Steps p.tables e below (s₁.setTop (mkF m 10 #[.val (.ref a1), .val (.int (2 : Int32)), .unset] [(.ref a1)])) _
    refine XS.iloadN X0.here hx rfl (hb hby d2_10) rfl ?_
    show Steps p.tables e below (s₁.setTop (mkF m 11 #[.val (.ref a1), .val (.int (2 : Int32)), .unset] [(.int (2 : Int32)), (.ref a1)])) _
    refine own_bal X0 hx hZ e0 V1 (j := (2 : Int32)) ⟨by decide, by decide⟩ (v := (.int x2)) rfl (g := (mkF m 11 #[.val (.ref a1), .val (.int (2 : Int32)), .unset] [(.int (2 : Int32)), (.ref a1)])) rfl rfl (hb hby d2_11) _ ?_
    show Steps p.tables e below (s₁.setTop (mkF m 12 #[.val (.ref a1), .val (.int (2 : Int32)), .unset] [(.int x2)])) _
    refine XS.iconst X0.here hx rfl (hb hby d2_12) ?_
    show Steps p.tables e below (s₁.setTop (mkF m 13 #[.val (.ref a1), .val (.int (2 : Int32)), .unset] [(.int (-1 : Int32)), (.int x2)])) _
    refine XS.icmpYes X0.here hx rfl (pc0 := 13) (pc' := 34) rfl (hb hby d2_13) rfl (teq ex2).1 (by decide) (by decide) ?_
    show Steps p.tables e below (s₁.setTop (mkF m 34 #[.val (.ref a1), .val (.int (2 : Int32)), .unset] [])) _
    refine XS.iinc X0.here hx rfl (hb hby d2_34) rfl (l' := #[.val (.ref a1), .val (.int (1 : Int32)), .unset]) rfl ?_
    show Steps p.tables e below (s₁.setTop (mkF m 37 #[.val (.ref a1), .val (.int (1 : Int32)), .unset] [])) _
    refine XS.goto X0.here hx rfl (pc0 := 37) (pc' := 5) rfl (hb hby d2_37) (by decide) (by decide) ?_
    show Steps p.tables e below (s₁.setTop (mkF m 5 #[.val (.ref a1), .val (.int (1 : Int32)), .unset] [])) _
    refine XS.iloadN X0.here hx rfl (hb hby d2_5) rfl ?_
    show Steps p.tables e below (s₁.setTop (mkF m 6 #[.val (.ref a1), .val (.int (1 : Int32)), .unset] [(.int (1 : Int32))])) _
    refine XS.ifNo X0.here hx rfl (hb hby d2_6) rfl ((if0 _ _).trans (flt (by decide)).1) ?_
    show Steps p.tables e below (s₁.setTop (mkF m 9 #[.val (.ref a1), .val (.int (1 : Int32)), .unset] [])) _
    refine XS.aloadN X0.here hx rfl (hb hby d2_9) rfl rfl ?_
    show Steps p.tables e below (s₁.setTop (mkF m 10 #[.val (.ref a1), .val (.int (1 : Int32)), .unset] [(.ref a1)])) _
    refine XS.iloadN X0.here hx rfl (hb hby d2_10) rfl ?_
    show Steps p.tables e below (s₁.setTop (mkF m 11 #[.val (.ref a1), .val (.int (1 : Int32)), .unset] [(.int (1 : Int32)), (.ref a1)])) _
    refine own_bal X0 hx hZ e0 V1 (j := (1 : Int32)) ⟨by decide, by decide⟩ (v := (.int x1)) rfl (g := (mkF m 11 #[.val (.ref a1), .val (.int (1 : Int32)), .unset] [(.int (1 : Int32)), (.ref a1)])) rfl rfl (hb hby d2_11) _ ?_
    show Steps p.tables e below (s₁.setTop (mkF m 12 #[.val (.ref a1), .val (.int (1 : Int32)), .unset] [(.int x1)])) _
    refine XS.iconst X0.here hx rfl (hb hby d2_12) ?_
    show Steps p.tables e below (s₁.setTop (mkF m 13 #[.val (.ref a1), .val (.int (1 : Int32)), .unset] [(.int (-1 : Int32)), (.int x1)])) _
    refine XS.icmpNo X0.here hx rfl (hb hby d2_13) rfl (feq ex1).1 ?_
    show Steps p.tables e below (s₁.setTop (mkF m 16 #[.val (.ref a1), .val (.int (1 : Int32)), .unset] [])) _
    refine XS.aloadN X0.here hx rfl (hb hby d2_16) rfl rfl ?_
    show Steps p.tables e below (s₁.setTop (mkF m 17 #[.val (.ref a1), .val (.int (1 : Int32)), .unset] [(.ref a1)])) _
    refine XS.iloadN X0.here hx rfl (hb hby d2_17) rfl ?_
    show Steps p.tables e below (s₁.setTop (mkF m 18 #[.val (.ref a1), .val (.int (1 : Int32)), .unset] [(.int (1 : Int32)), (.ref a1)])) _
    refine XS.iconst X0.here hx rfl (hb hby d2_18) ?_
    show Steps p.tables e below (s₁.setTop (mkF m 19 #[.val (.ref a1), .val (.int (1 : Int32)), .unset] [(.int (1 : Int32)), (.int (1 : Int32)), (.ref a1)])) _
    refine XS.iadd X0.here hx rfl (hb hby d2_19) rfl ?_
    show Steps p.tables e below (s₁.setTop (mkF m 20 #[.val (.ref a1), .val (.int (1 : Int32)), .unset] [(.int (2 : Int32)), (.ref a1)])) _
    refine st155 _ ?_
    show Steps p.tables e below (T155.setTop (mkF m 23 #[.val (.ref a1), .val (.int (1 : Int32)), .unset] [(.ref b)])) _
    refine XS.astoreN X155.here hx rfl (hb hby d2_23) rfl rfl (l' := #[.val (.ref a1), .val (.int (1 : Int32)), .val (.ref b)]) rfl ?_
    show Steps p.tables e below (T155.setTop (mkF m 24 #[.val (.ref a1), .val (.int (1 : Int32)), .val (.ref b)] [])) _
    refine XS.aloadN X155.here hx rfl (hb hby d2_24) rfl rfl ?_
    show Steps p.tables e below (T155.setTop (mkF m 25 #[.val (.ref a1), .val (.int (1 : Int32)), .val (.ref b)] [(.ref b)])) _
    refine XS.iloadN X155.here hx rfl (hb hby d2_25) rfl ?_
    show Steps p.tables e below (T155.setTop (mkF m 26 #[.val (.ref a1), .val (.int (1 : Int32)), .val (.ref b)] [(.int (1 : Int32)), (.ref b)])) _
    refine Jvm.Free.XT.dup2 X155.here hx rfl (hb hby d2_26) rfl rfl rfl ?_
    show Steps p.tables e below (T155.setTop (mkF m 27 #[.val (.ref a1), .val (.int (1 : Int32)), .val (.ref b)] [(.int (1 : Int32)), (.ref b), (.int (1 : Int32)), (.ref b)])) _
    refine own_bal X155 hx hZ rfl Vb0 (j := (1 : Int32)) ⟨by decide, by decide⟩ (v := (.int x1)) rfl (g := (mkF m 27 #[.val (.ref a1), .val (.int (1 : Int32)), .val (.ref b)] [(.int (1 : Int32)), (.ref b), (.int (1 : Int32)), (.ref b)])) rfl rfl (hb hby d2_27) _ ?_
    show Steps p.tables e below (T155.setTop (mkF m 28 #[.val (.ref a1), .val (.int (1 : Int32)), .val (.ref b)] [(.int x1), (.int (1 : Int32)), (.ref b)])) _
    refine XS.iconst X155.here hx rfl (hb hby d2_28) ?_
    show Steps p.tables e below (T155.setTop (mkF m 29 #[.val (.ref a1), .val (.int (1 : Int32)), .val (.ref b)] [(.int (1 : Int32)), (.int x1), (.int (1 : Int32)), (.ref b)])) _
    refine XS.iadd X155.here hx rfl (hb hby d2_29) rfl ?_
    show Steps p.tables e below (T155.setTop (mkF m 30 #[.val (.ref a1), .val (.int (1 : Int32)), .val (.ref b)] [(.int (x1 + (1 : Int32))), (.int (1 : Int32)), (.ref b)])) _
    refine XS.i2b X155.here hx rfl (hb hby d2_30) rfl ?_
    show Steps p.tables e below (T155.setTop (mkF m 31 #[.val (.ref a1), .val (.int (1 : Int32)), .val (.ref b)] [(.int ((x1 + (1 : Int32)).toInt8.toInt32)), (.int (1 : Int32)), (.ref b)])) _
    refine st158 _ ?_
    show Steps p.tables e below (T158.setTop (mkF m 32 #[.val (.ref a1), .val (.int (1 : Int32)), .val (.ref b)] [])) _
    refine XS.aloadN X158.here hx rfl (hb hby d2_32) rfl rfl ?_
    exact kt
  obtain ⟨fsx, hr, hrun, hended, hW, hsame⟩ := X158.leave (v := some (.ref b)) (fun h => by rw [Bd.returns] at h; cases h)
  refine ⟨_, _, pre161 _ ?_, hrun, hended, _, _, rfl, ?_, ⟨_, rfl⟩, hW, hsame.mono (by decide) (by decide)⟩
  · jvm_step X158.here [X158.here.top, hx, (hb hby d2_33), X158.method', Bd.returns, Value.isRef, FieldType.isReference]
    first | (intro acts; rw [hr _ acts rfl rfl rfl]) | rw [hr _ _ rfl rfl rfl]
    exact Steps.refl _
  · show QE31 Z a1 k1 x0 x1 x2 h0 n0 _ T158.heap _
    rw [e158]
    exact ⟨b, kb, rfl, Nf158, K158, szb, V158⟩
theorem ef_rmE32 (m : MethodId) (x0 : Addr) : entryFrame m #[(.ref x0)] 3 = mkF m 0 #[.val (.ref x0), .unset, .unset] [] := by first | (simp [entryFrame, mkF, argsToLocals, Value.category]; done) | rfl
def QE32 (Z : State) (a1 : Addr) (k1 : ClassId) (x0 : Int32) (x1 : Int32) (x2 : Int32) (h0 : Heap) (n0 : Nat) (v : Option Value) (h : Heap) (L : List Loc) : Prop := ∃ (b : Addr) (kb : ClassId), v = some (.ref b) ∧ Fr n0 L ∧ Keep h0 h [] ∧ h0.size ≤ b ∧ Arv Z h b kb .byte (3 : Int32) [(.int x0), (.int x1), (.int ((x2 + (1 : Int32)).toInt8.toInt32))] (.int (0 : Int32))
set_option maxRecDepth 65536 in
set_option maxHeartbeats 40000000 in
theorem rmE32 (l : Launch) (Z : State) (a0 : Array Value) (hw : ∀ d ∈ tables_1, d.before a0 Z = true) (ws : List Jvm.Cond) (a1 : Addr) (k1 : ClassId) (x0 : Int32) (x1 : Int32) (x2 : Int32) (h0 : Heap) (n0 : Nat) (Z0 : n0 ≤ h0.size) (V1 : Arv Z h0 a1 k1 .byte (3 : Int32) [(.int x0), (.int x1), (.int x2)] (.int (0 : Int32))) (E1 : Exa Z h0 a1 "[B")  (ex2 : ¬ (x2 = (-1 : Int32))) :
    MetFree l (⟨"com/example/tessera/tessera/storage/Prefixes", "end", "([B)[B"⟩ : MethodName) (head1 (Jvm.Cond.code (⟨"com/example/tessera/tessera/storage/Prefixes", "end", "([B)[B"⟩ : MethodName) prog_82_method_3_code 3 (some (.array .byte)) :: ws) ({ frames := 2, cells := 1, slots := 3, locals := 28 } : Room)) (fun a U => a = #[(.ref a1)] ∧ Z.Warmed39 U.vm ∧ U.heap = h0) (fun _ _ _ _ _ => True) (fun _ U o U' => ∃ v L, o = .returned v ∧ QE32 Z a1 k1 x0 x1 x2 h0 n0 v U'.heap L ∧ FrameEnd U o U' L ({ frames := 2, cells := 1, slots := 3, locals := 28 } : Room).cells ({ frames := 2, cells := 1, slots := 3, locals := 28 } : Room).slots) := by
  refine MetFree.of_bodySF (plainFor_of_name pn_2) hisR ?_
  intro p e s m args below meth c s₁ Bd hml0 hP hK
  obtain ⟨rfl, hZ, hh⟩ := hP
  have hx := Bd.exec
  have hby := Bd.bytes
  have hml : c.maxLocals = 3 := hml0
  have hown : s.vm.findClass "com/example/tessera/tessera/storage/Prefixes" = some m.cls := findClass_of_methodNamed Bd.named
  have hnm := (name_of_methodNamed Bd.named Bd.method).1
  have X0 : Stand p l e ({ frames := 2, cells := 1, slots := 3, locals := 28 } : Room) s m #[(.ref a1)] below meth c s₁ [] 0 0 := Stand.of_body Bd
  have e0 : s₁.heap = h0 := by rw [← hh, Bd.state]; rfl
  have N0 := Fr.nil n0
  have pre0 : ∀ t, Steps p.tables e below (s₁.setTop (mkF m 0 #[.val (.ref a1), .unset, .unset] [])) t → Steps p.tables e below (s₁.setTop (entryFrame m #[(.ref a1)] 3)) t := fun t k => castTop (ef_rmE32 m a1) k
  obtain ⟨_, _, ⟨T162, L162, k162, n162⟩, -, X162, ⟨Lc162, hQ162, l162, y162, z162⟩, st162⟩ := Jvm.LawKit.callS X0 hx (y := (⟨"java/util/Arrays", "copyOf", "([BI)[B"⟩ : MethodName)) hown (mvT hZ (hw _ (List.mem_of_getElem? (i := 9) rfl))) (mvT hZ (hw _ (List.mem_of_getElem? (i := 10) rfl))) (mvT hZ (hw _ (List.mem_of_getElem? (i := 11) rfl))) (mvT hZ (hw _ (List.mem_of_getElem? (i := 12) rfl))) (by decide) (backOf (W := 0) (rm3 l Z a0 hw [] a1 k1 (3 : Int32) [(.int x0), (.int x1), (.int x2)] h0 n0 Z0 V1 E1 (by decide)) hZ (hw _ (List.mem_of_getElem? (i := 12) rfl)) (hw _ (List.mem_of_getElem? (i := 11) rfl)) (by decide) (by decide)) (g := (mkF m 20 #[.val (.ref a1), .val (.int (2 : Int32)), .unset] [(.int (3 : Int32)), (.ref a1)])) rfl (by rw [hml]; rfl) (argsL := [(.ref a1), (.int (3 : Int32))]) (rest := []) (lenOf pd_1 rfl) rfl (by show 2 * 0 + _ ≤ _; exact Nat.le_of_eq rfl) (hb hby d2_20) (fun _ _ => ⟨rfl, e0, (by decide : 0 + 1 ≤ _), (by decide : 0 + 3 ≤ _)⟩)
  dsimp only [Pt.U, Pt.locs, Pt.cells, Pt.slots] at X162 l162 y162 z162 st162 hQ162
  subst l162 y162 z162
  obtain ⟨b, rfl, Nq162, Kq162, szb, Vb0⟩ := hQ162
  have f163 := (V1.keep Kq162 nin0)
  have f164 := (E1.keep Kq162)
  have Z162 : n0 ≤ T162.heap.size := Nat.le_trans Z0 Kq162.1
  have K162 : Keep h0 T162.heap [] := (Keep.refl h0 []).trans Kq162 all0
  have Nf162 := Fr.app N0 Nq162
  have g_b : n0 ≤ b := Nat.le_trans Z0 szb
  have ne_b : a1 ≠ b := Nat.ne_of_lt (Nat.lt_of_lt_of_le V1.lt szb)
  obtain ⟨T165, h165, X165, e165, W165, V165, st165⟩ := own_bst X162 hx hZ rfl Vb0 (j := (2 : Int32)) ⟨by decide, by decide⟩ (i := 2) rfl (Nat.le_of_ble_eq_true rfl) (w := ((x2 + (1 : Int32)).toInt8.toInt32)) (own_nar _) (g := (mkF m 31 #[.val (.ref a1), .val (.int (2 : Int32)), .val (.ref b)] [(.int ((x2 + (1 : Int32)).toInt8.toInt32)), (.int (2 : Int32)), (.ref b)])) rfl rfl (hb hby d2_31)
  have f166 := (f163.other W165 ne_b)
  have f167 := (f164.wr W165)
  have K165 : Keep h0 h165 [] := K162.wr W165 (Or.inr szb)
  have Nf165 := Fr.snoc X165 Nf162 g_b
  have Z165 : n0 ≤ h165.size := Nat.le_trans Z162 (Keep.of_wr W165).1
  have V165 : Arv Z h165 b k1 .byte (3 : Int32) [(.int x0), (.int x1), (.int ((x2 + (1 : Int32)).toInt8.toInt32))] (.int (0 : Int32)) := V165
  have pre168 : ∀ t, Steps p.tables e below (T165.setTop (mkF m 33 #[.val (.ref a1), .val (.int (2 : Int32)), .val (.ref b)] [(.ref b)])) t → Steps p.tables e below (s₁.setTop (entryFrame m #[(.ref a1)] 3)) t := by
    intro t kt
    refine pre0 t ?_
    show Steps p.tables e below (s₁.setTop (mkF m 0 #[.val (.ref a1), .unset, .unset] [])) _
    refine XS.aloadN X0.here hx rfl (hb hby d2_0) rfl rfl ?_
    show Steps p.tables e below (s₁.setTop (mkF m 1 #[.val (.ref a1), .unset, .unset] [(.ref a1)])) _
    refine own_len X0 hx hZ e0 V1 (g := (mkF m 1 #[.val (.ref a1), .unset, .unset] [(.ref a1)])) rfl rfl (hb hby d2_1) _ ?_
    show Steps p.tables e below (s₁.setTop (mkF m 2 #[.val (.ref a1), .unset, .unset] [(.int (3 : Int32))])) _
    refine XS.iconst X0.here hx rfl (hb hby d2_2) ?_
    show Steps p.tables e below (s₁.setTop (mkF m 3 #[.val (.ref a1), .unset, .unset] [(.int (1 : Int32)), (.int (3 : Int32))])) _
    refine XS.isub X0.here hx rfl (hb hby d2_3) rfl ?_
    show Steps p.tables e below (s₁.setTop (mkF m 4 #[.val (.ref a1), .unset, .unset] [(.int (2 : Int32))])) _
    refine XS.istoreN X0.here hx rfl (hb hby d2_4) rfl (l' := #[.val (.ref a1), .val (.int (2 : Int32)), .unset]) rfl ?_
    show Steps p.tables e below (s₁.setTop (mkF m 5 #[.val (.ref a1), .val (.int (2 : Int32)), .unset] [])) _
    refine XS.iloadN X0.here hx rfl (hb hby d2_5) rfl ?_
    show Steps p.tables e below (s₁.setTop (mkF m 6 #[.val (.ref a1), .val (.int (2 : Int32)), .unset] [(.int (2 : Int32))])) _
    refine XS.ifNo X0.here hx rfl (hb hby d2_6) rfl ((if0 _ _).trans (flt (by decide)).1) ?_
    show Steps p.tables e below (s₁.setTop (mkF m 9 #[.val (.ref a1), .val (.int (2 : Int32)), .unset] [])) _
    refine XS.aloadN X0.here hx rfl (hb hby d2_9) rfl rfl ?_
    show Steps p.tables e below (s₁.setTop (mkF m 10 #[.val (.ref a1), .val (.int (2 : Int32)), .unset] [(.ref a1)])) _
    refine XS.iloadN X0.here hx rfl (hb hby d2_10) rfl ?_
    show Steps p.tables e below (s₁.setTop (mkF m 11 #[.val (.ref a1), .val (.int (2 : Int32)), .unset] [(.int (2 : Int32)), (.ref a1)])) _
    refine own_bal X0 hx hZ e0 V1 (j := (2 : Int32)) ⟨by decide, by decide⟩ (v := (.int x2)) rfl (g := (mkF m 11 #[.val (.ref a1), .val (.int (2 : Int32)), .unset] [(.int (2 : Int32)), (.ref a1)])) rfl rfl (hb hby d2_11) _ ?_
    show Steps p.tables e below (s₁.setTop (mkF m 12 #[.val (.ref a1), .val (.int (2 : Int32)), .unset] [(.int x2)])) _
    refine XS.iconst X0.here hx rfl (hb hby d2_12) ?_
    show Steps p.tables e below (s₁.setTop (mkF m 13 #[.val (.ref a1), .val (.int (2 : Int32)), .unset] [(.int (-1 : Int32)), (.int x2)])) _
    refine XS.icmpNo X0.here hx rfl (hb hby d2_13) rfl (feq ex2).1 ?_
    show Steps p.tables e below (s₁.setTop (mkF m 16 #[.val (.ref a1), .val (.int (2 : Int32)), .unset] [])) _
    refine XS.aloadN X0.here hx rfl (hb hby d2_16) rfl rfl ?_
    show Steps p.tables e below (s₁.setTop (mkF m 17 #[.val (.ref a1), .val (.int (2 : Int32)), .unset] [(.ref a1)])) _
    refine XS.iloadN X0.here hx rfl (hb hby d2_17) rfl ?_
    show Steps p.tables e below (s₁.setTop (mkF m 18 #[.val (.ref a1), .val (.int (2 : Int32)), .unset] [(.int (2 : Int32)), (.ref a1)])) _
    refine XS.iconst X0.here hx rfl (hb hby d2_18) ?_
    show Steps p.tables e below (s₁.setTop (mkF m 19 #[.val (.ref a1), .val (.int (2 : Int32)), .unset] [(.int (1 : Int32)), (.int (2 : Int32)), (.ref a1)])) _
    refine XS.iadd X0.here hx rfl (hb hby d2_19) rfl ?_
    show Steps p.tables e below (s₁.setTop (mkF m 20 #[.val (.ref a1), .val (.int (2 : Int32)), .unset] [(.int (3 : Int32)), (.ref a1)])) _
    refine st162 _ ?_
    show Steps p.tables e below (T162.setTop (mkF m 23 #[.val (.ref a1), .val (.int (2 : Int32)), .unset] [(.ref b)])) _
    refine XS.astoreN X162.here hx rfl (hb hby d2_23) rfl rfl (l' := #[.val (.ref a1), .val (.int (2 : Int32)), .val (.ref b)]) rfl ?_
    show Steps p.tables e below (T162.setTop (mkF m 24 #[.val (.ref a1), .val (.int (2 : Int32)), .val (.ref b)] [])) _
    refine XS.aloadN X162.here hx rfl (hb hby d2_24) rfl rfl ?_
    show Steps p.tables e below (T162.setTop (mkF m 25 #[.val (.ref a1), .val (.int (2 : Int32)), .val (.ref b)] [(.ref b)])) _
    refine XS.iloadN X162.here hx rfl (hb hby d2_25) rfl ?_
    show Steps p.tables e below (T162.setTop (mkF m 26 #[.val (.ref a1), .val (.int (2 : Int32)), .val (.ref b)] [(.int (2 : Int32)), (.ref b)])) _
    refine Jvm.Free.XT.dup2 X162.here hx rfl (hb hby d2_26) rfl rfl rfl ?_
    show Steps p.tables e below (T162.setTop (mkF m 27 #[.val (.ref a1), .val (.int (2 : Int32)), .val (.ref b)] [(.int (2 : Int32)), (.ref b), (.int (2 : Int32)), (.ref b)])) _
    refine own_bal X162 hx hZ rfl Vb0 (j := (2 : Int32)) ⟨by decide, by decide⟩ (v := (.int x2)) rfl (g := (mkF m 27 #[.val (.ref a1), .val (.int (2 : Int32)), .val (.ref b)] [(.int (2 : Int32)), (.ref b), (.int (2 : Int32)), (.ref b)])) rfl rfl (hb hby d2_27) _ ?_
    show Steps p.tables e below (T162.setTop (mkF m 28 #[.val (.ref a1), .val (.int (2 : Int32)), .val (.ref b)] [(.int x2), (.int (2 : Int32)), (.ref b)])) _
    refine XS.iconst X162.here hx rfl (hb hby d2_28) ?_
    show Steps p.tables e below (T162.setTop (mkF m 29 #[.val (.ref a1), .val (.int (2 : Int32)), .val (.ref b)] [(.int (1 : Int32)), (.int x2), (.int (2 : Int32)), (.ref b)])) _
    refine XS.iadd X162.here hx rfl (hb hby d2_29) rfl ?_
    show Steps p.tables e below (T162.setTop (mkF m 30 #[.val (.ref a1), .val (.int (2 : Int32)), .val (.ref b)] [(.int (x2 + (1 : Int32))), (.int (2 : Int32)), (.ref b)])) _
    refine XS.i2b X162.here hx rfl (hb hby d2_30) rfl ?_
    show Steps p.tables e below (T162.setTop (mkF m 31 #[.val (.ref a1), .val (.int (2 : Int32)), .val (.ref b)] [(.int ((x2 + (1 : Int32)).toInt8.toInt32)), (.int (2 : Int32)), (.ref b)])) _
    refine st165 _ ?_
    show Steps p.tables e below (T165.setTop (mkF m 32 #[.val (.ref a1), .val (.int (2 : Int32)), .val (.ref b)] [])) _
    refine XS.aloadN X165.here hx rfl (hb hby d2_32) rfl rfl ?_
    exact kt
  obtain ⟨fsx, hr, hrun, hended, hW, hsame⟩ := X165.leave (v := some (.ref b)) (fun h => by rw [Bd.returns] at h; cases h)
  refine ⟨_, _, pre168 _ ?_, hrun, hended, _, _, rfl, ?_, ⟨_, rfl⟩, hW, hsame.mono (by decide) (by decide)⟩
  · jvm_step X165.here [X165.here.top, hx, (hb hby d2_33), X165.method', Bd.returns, Value.isRef, FieldType.isReference]
    first | (intro acts; rw [hr _ acts rfl rfl rfl]) | rw [hr _ _ rfl rfl rfl]
    exact Steps.refl _
  · show QE32 Z a1 k1 x0 x1 x2 h0 n0 _ T165.heap _
    rw [e165]
    exact ⟨b, k1, rfl, Nf165, K165, szb, V165⟩
theorem pd_2 : parseMethodDescriptor "(I)B" = some ⟨[.int], some .byte⟩ := by decide +kernel
theorem pd_3 : parseMethodDescriptor "([B)[B" = some ⟨[(.array .byte)], some (.array .byte)⟩ := by decide +kernel
theorem ef_rm0 (m : MethodId) (x0 : Int32) (x1 : Int32) (x2 : Int32) (x3 : Int32) : entryFrame m #[(.int x0), (.int x1), (.int x2), (.int x3)] maxLocals = mkF m 0 #[.val (.int x0), .val (.int x1), .val (.int x2), .val (.int x3), .unset, .unset, .unset, .unset, .unset, .unset, .unset, .unset, .unset, .unset, .unset] [] := by first | (simp [entryFrame, mkF, argsToLocals, Value.category, maxLocals]; done) | rfl
def Q0 (Z : State) (p1 : Int32) (p2 : Int32) (p3 : Int32) (p4 : Int32) (h0 : Heap) (n0 : Nat) (v : Option Value) (h : Heap) (L : List Loc) : Prop := v = some (.int 1) ∧ Fr n0 L
set_option maxRecDepth 65536 in
set_option maxHeartbeats 40000000 in
theorem rm0 (l : Launch) (Z : State) (a0 : Array Value) (hw : ∀ d ∈ tables_1, d.before a0 Z = true) (ws : List Jvm.Cond) (p1 : Int32) (p2 : Int32) (p3 : Int32) (p4 : Int32) (h0 : Heap) (n0 : Nat) (Z0 : n0 ≤ h0.size)  :
    MetFree l x (head1 (Jvm.Cond.code x code maxLocals ret :: ws) room_1) (fun a U => a = #[(.int p1), (.int p2), (.int p3), (.int p4)] ∧ Z.Warmed39 U.vm ∧ U.heap = h0) (fun _ _ _ _ _ => True) (fun _ U o U' => ∃ v L, o = .returned v ∧ Q0 Z p1 p2 p3 p4 h0 n0 v U'.heap L ∧ FrameEnd U o U' L room_1.cells room_1.slots) := by
  refine MetFree.of_bodySF (plainFor_of_name pn_0) hisR ?_
  intro p e s m args below meth c s₁ Bd hml0 hP hK
  obtain ⟨rfl, hZ, hh⟩ := hP
  have hx := Bd.exec
  have hby := Bd.bytes
  have hml : c.maxLocals = 15 := hml0
  have hown : s.vm.findClass "com/example/tessera/tessera/storage/PrefixesEndPinLaw" = some m.cls := findClass_of_methodNamed Bd.named
  have hnm := (name_of_methodNamed Bd.named Bd.method).1
  have X0 : Stand p l e room_1 s m #[(.int p1), (.int p2), (.int p3), (.int p4)] below meth c s₁ [] 0 0 := Stand.of_body Bd
  have e0 : s₁.heap = h0 := by rw [← hh, Bd.state]; rfl
  have N0 := Fr.nil n0
  have pre0 : ∀ t, Steps p.tables e below (s₁.setTop (mkF m 0 #[.val (.int p1), .val (.int p2), .val (.int p3), .val (.int p4), .unset, .unset, .unset, .unset, .unset, .unset, .unset, .unset, .unset, .unset, .unset] [])) t → Steps p.tables e below (s₁.setTop (entryFrame m #[(.int p1), (.int p2), (.int p3), (.int p4)] maxLocals)) t := fun t k => castTop (ef_rm0 m p1 p2 p3 p4) k
  have pre169 : ∀ t, Steps p.tables e below (s₁.setTop (mkF m 3 #[.val (.int p1), .val (.int p2), .val (.int p3), .val (.int p4), .unset, .unset, .unset, .unset, .unset, .unset, .unset, .unset, .unset, .unset, .unset] [(.int (p1 &&& (3 : Int32)))])) t → Steps p.tables e below (s₁.setTop (entryFrame m #[(.int p1), (.int p2), (.int p3), (.int p4)] maxLocals)) t := by
    intro t kt
    refine pre0 t ?_
    show Steps p.tables e below (s₁.setTop (mkF m 0 #[.val (.int p1), .val (.int p2), .val (.int p3), .val (.int p4), .unset, .unset, .unset, .unset, .unset, .unset, .unset, .unset, .unset, .unset, .unset] [])) _
    refine XS.iloadN X0.here hx rfl (hb hby at_0) rfl ?_
    show Steps p.tables e below (s₁.setTop (mkF m 1 #[.val (.int p1), .val (.int p2), .val (.int p3), .val (.int p4), .unset, .unset, .unset, .unset, .unset, .unset, .unset, .unset, .unset, .unset, .unset] [(.int p1)])) _
    refine XS.iconst X0.here hx rfl (hb hby at_1) ?_
    show Steps p.tables e below (s₁.setTop (mkF m 2 #[.val (.int p1), .val (.int p2), .val (.int p3), .val (.int p4), .unset, .unset, .unset, .unset, .unset, .unset, .unset, .unset, .unset, .unset, .unset] [(.int (3 : Int32)), (.int p1)])) _
    refine XS.iand X0.here hx rfl (hb hby at_2) rfl ?_
    exact kt
  rcases own_and3 p1 with hn | hn | hn | hn
  · have pre170 : ∀ t, Steps p.tables e below (s₁.setTop (mkF m 3 #[.val (.int p1), .val (.int p2), .val (.int p3), .val (.int p4), .unset, .unset, .unset, .unset, .unset, .unset, .unset, .unset, .unset, .unset, .unset] [(.int (0 : Int32))])) t → Steps p.tables e below (s₁.setTop (entryFrame m #[(.int p1), (.int p2), (.int p3), (.int p4)] maxLocals)) t := by
      intro t kt
      have hsv : (p1 &&& (3 : Int32)) = (0 : Int32) := hn
      refine pre169 t ?_
      rw [hsv]
      exact kt
    obtain ⟨_, _, ⟨T171, L171, k171, n171⟩, -, X171, ⟨Lc171, hQ171, l171, y171, z171⟩, st171⟩ := Jvm.LawKit.callS X0 hx (y := (⟨"com/example/tessera/tessera/storage/PrefixesEndPinLaw", "draw", "(I)B"⟩ : MethodName)) hown (mvT hZ (hw _ (List.mem_of_getElem? (i := 0) rfl))) (mvT hZ (hw _ (List.mem_of_getElem? (i := 1) rfl))) (mvT hZ (hw _ (List.mem_of_getElem? (i := 2) rfl))) (mvT hZ (hw _ (List.mem_of_getElem? (i := 3) rfl))) (by decide) (backOf (W := 0) (rm1 l Z a0 hw [] p2 h0 n0 Z0) hZ (hw _ (List.mem_of_getElem? (i := 3) rfl)) (hw _ (List.mem_of_getElem? (i := 2) rfl)) (by decide) (by decide)) (g := (mkF m 6 #[.val (.int p1), .val (.int p2), .val (.int p3), .val (.int p4), .val (.int (0 : Int32)), .unset, .unset, .unset, .unset, .unset, .unset, .unset, .unset, .unset, .unset] [(.int p2)])) rfl (by rw [hml]; rfl) (argsL := [(.int p2)]) (rest := []) (lenOf pd_2 rfl) rfl (by show 2 * 0 + _ ≤ _; exact Nat.le_of_eq rfl) (hb hby at_6) (fun _ _ => ⟨rfl, e0, (by decide : 0 + 0 ≤ _), (by decide : 0 + 0 ≤ _)⟩)
    dsimp only [Pt.U, Pt.locs, Pt.cells, Pt.slots] at X171 l171 y171 z171 st171 hQ171
    subst l171 y171 z171
    obtain ⟨x0, rfl, Nq171, eq171, hx0⟩ := hQ171
    have Nf171 := Fr.app N0 Nq171
    obtain ⟨_, _, ⟨T172, L172, k172, n172⟩, -, X172, ⟨Lc172, hQ172, l172, y172, z172⟩, st172⟩ := Jvm.LawKit.callS X171 hx (y := (⟨"com/example/tessera/tessera/storage/PrefixesEndPinLaw", "draw", "(I)B"⟩ : MethodName)) hown (mvT hZ (hw _ (List.mem_of_getElem? (i := 0) rfl))) (mvT hZ (hw _ (List.mem_of_getElem? (i := 1) rfl))) (mvT hZ (hw _ (List.mem_of_getElem? (i := 2) rfl))) (mvT hZ (hw _ (List.mem_of_getElem? (i := 3) rfl))) (by decide) (backOf (W := 0) (rm1 l Z a0 hw [] p3 h0 n0 Z0) hZ (hw _ (List.mem_of_getElem? (i := 3) rfl)) (hw _ (List.mem_of_getElem? (i := 2) rfl)) (by decide) (by decide)) (g := (mkF m 12 #[.val (.int p1), .val (.int p2), .val (.int p3), .val (.int p4), .val (.int (0 : Int32)), .val (.int x0), .unset, .unset, .unset, .unset, .unset, .unset, .unset, .unset, .unset] [(.int p3)])) rfl (by rw [hml]; rfl) (argsL := [(.int p3)]) (rest := []) (lenOf pd_2 rfl) rfl (by show 2 * 0 + _ ≤ _; exact Nat.le_of_eq rfl) (hb hby at_12) (fun _ _ => ⟨rfl, eq171, (by decide : 0 + 0 ≤ _), (by decide : 0 + 0 ≤ _)⟩)
    dsimp only [Pt.U, Pt.locs, Pt.cells, Pt.slots] at X172 l172 y172 z172 st172 hQ172
    subst l172 y172 z172
    obtain ⟨x1, rfl, Nq172, eq172, hx1⟩ := hQ172
    have Nf172 := Fr.app Nf171 Nq172
    obtain ⟨_, _, ⟨T173, L173, k173, n173⟩, -, X173, ⟨Lc173, hQ173, l173, y173, z173⟩, st173⟩ := Jvm.LawKit.callS X172 hx (y := (⟨"com/example/tessera/tessera/storage/PrefixesEndPinLaw", "draw", "(I)B"⟩ : MethodName)) hown (mvT hZ (hw _ (List.mem_of_getElem? (i := 0) rfl))) (mvT hZ (hw _ (List.mem_of_getElem? (i := 1) rfl))) (mvT hZ (hw _ (List.mem_of_getElem? (i := 2) rfl))) (mvT hZ (hw _ (List.mem_of_getElem? (i := 3) rfl))) (by decide) (backOf (W := 0) (rm1 l Z a0 hw [] p4 h0 n0 Z0) hZ (hw _ (List.mem_of_getElem? (i := 3) rfl)) (hw _ (List.mem_of_getElem? (i := 2) rfl)) (by decide) (by decide)) (g := (mkF m 18 #[.val (.int p1), .val (.int p2), .val (.int p3), .val (.int p4), .val (.int (0 : Int32)), .val (.int x0), .val (.int x1), .unset, .unset, .unset, .unset, .unset, .unset, .unset, .unset] [(.int p4)])) rfl (by rw [hml]; rfl) (argsL := [(.int p4)]) (rest := []) (lenOf pd_2 rfl) rfl (by show 2 * 0 + _ ≤ _; exact Nat.le_of_eq rfl) (hb hby at_18) (fun _ _ => ⟨rfl, eq172, (by decide : 0 + 0 ≤ _), (by decide : 0 + 0 ≤ _)⟩)
    dsimp only [Pt.U, Pt.locs, Pt.cells, Pt.slots] at X173 l173 y173 z173 st173 hQ173
    subst l173 y173 z173
    obtain ⟨x2, rfl, Nq173, eq173, hx2⟩ := hQ173
    have Nf173 := Fr.app Nf172 Nq173
    have pre174 : ∀ t, Steps p.tables e below (T173.setTop (mkF m 21 #[.val (.int p1), .val (.int p2), .val (.int p3), .val (.int p4), .val (.int (0 : Int32)), .val (.int x0), .val (.int x1), .unset, .unset, .unset, .unset, .unset, .unset, .unset, .unset] [(.int x2)])) t → Steps p.tables e below (s₁.setTop (entryFrame m #[(.int p1), (.int p2), (.int p3), (.int p4)] maxLocals)) t := by
      intro t kt
      refine pre170 t ?_
      show Steps p.tables e below (s₁.setTop (mkF m 3 #[.val (.int p1), .val (.int p2), .val (.int p3), .val (.int p4), .unset, .unset, .unset, .unset, .unset, .unset, .unset, .unset, .unset, .unset, .unset] [(.int (0 : Int32))])) _
      refine XS.istore X0.here hx rfl (hb hby at_3) rfl (l' := #[.val (.int p1), .val (.int p2), .val (.int p3), .val (.int p4), .val (.int (0 : Int32)), .unset, .unset, .unset, .unset, .unset, .unset, .unset, .unset, .unset, .unset]) rfl ?_
      show Steps p.tables e below (s₁.setTop (mkF m 5 #[.val (.int p1), .val (.int p2), .val (.int p3), .val (.int p4), .val (.int (0 : Int32)), .unset, .unset, .unset, .unset, .unset, .unset, .unset, .unset, .unset, .unset] [])) _
      refine XS.iloadN X0.here hx rfl (hb hby at_5) rfl ?_
      show Steps p.tables e below (s₁.setTop (mkF m 6 #[.val (.int p1), .val (.int p2), .val (.int p3), .val (.int p4), .val (.int (0 : Int32)), .unset, .unset, .unset, .unset, .unset, .unset, .unset, .unset, .unset, .unset] [(.int p2)])) _
      refine st171 _ ?_
      show Steps p.tables e below (T171.setTop (mkF m 9 #[.val (.int p1), .val (.int p2), .val (.int p3), .val (.int p4), .val (.int (0 : Int32)), .unset, .unset, .unset, .unset, .unset, .unset, .unset, .unset, .unset, .unset] [(.int x0)])) _
      refine XS.istore X171.here hx rfl (hb hby at_9) rfl (l' := #[.val (.int p1), .val (.int p2), .val (.int p3), .val (.int p4), .val (.int (0 : Int32)), .val (.int x0), .unset, .unset, .unset, .unset, .unset, .unset, .unset, .unset, .unset]) rfl ?_
      show Steps p.tables e below (T171.setTop (mkF m 11 #[.val (.int p1), .val (.int p2), .val (.int p3), .val (.int p4), .val (.int (0 : Int32)), .val (.int x0), .unset, .unset, .unset, .unset, .unset, .unset, .unset, .unset, .unset] [])) _
      refine XS.iloadN X171.here hx rfl (hb hby at_11) rfl ?_
      show Steps p.tables e below (T171.setTop (mkF m 12 #[.val (.int p1), .val (.int p2), .val (.int p3), .val (.int p4), .val (.int (0 : Int32)), .val (.int x0), .unset, .unset, .unset, .unset, .unset, .unset, .unset, .unset, .unset] [(.int p3)])) _
      refine st172 _ ?_
      show Steps p.tables e below (T172.setTop (mkF m 15 #[.val (.int p1), .val (.int p2), .val (.int p3), .val (.int p4), .val (.int (0 : Int32)), .val (.int x0), .unset, .unset, .unset, .unset, .unset, .unset, .unset, .unset, .unset] [(.int x1)])) _
      refine XS.istore X172.here hx rfl (hb hby at_15) rfl (l' := #[.val (.int p1), .val (.int p2), .val (.int p3), .val (.int p4), .val (.int (0 : Int32)), .val (.int x0), .val (.int x1), .unset, .unset, .unset, .unset, .unset, .unset, .unset, .unset]) rfl ?_
      show Steps p.tables e below (T172.setTop (mkF m 17 #[.val (.int p1), .val (.int p2), .val (.int p3), .val (.int p4), .val (.int (0 : Int32)), .val (.int x0), .val (.int x1), .unset, .unset, .unset, .unset, .unset, .unset, .unset, .unset] [])) _
      refine XS.iloadN X172.here hx rfl (hb hby at_17) rfl ?_
      show Steps p.tables e below (T172.setTop (mkF m 18 #[.val (.int p1), .val (.int p2), .val (.int p3), .val (.int p4), .val (.int (0 : Int32)), .val (.int x0), .val (.int x1), .unset, .unset, .unset, .unset, .unset, .unset, .unset, .unset] [(.int p4)])) _
      refine st173 _ ?_
      exact kt
    obtain ⟨T175, h175, k175, X175, e175, E175, A175, Ax175, st175⟩ := newPE X173 hx hZ (hw _ (List.mem_of_getElem? (i := 4) rfl)) eq173 (g := (mkF m 25 #[.val (.int p1), .val (.int p2), .val (.int p3), .val (.int p4), .val (.int (0 : Int32)), .val (.int x0), .val (.int x1), .val (.int x2), .unset, .unset, .unset, .unset, .unset, .unset, .unset] [(.int (0 : Int32))])) rfl (hb hby at_25) rfl (by decide) (cap := 0) (by decide) (by decide) (by decide) (by decide) (ad := "[B") rfl
    obtain ⟨b175, gq175⟩ : ∃ z, z = h0.size := ⟨_, rfl⟩
    rw [← gq175] at A175 Ax175 st175
    have g_b175 : n0 ≤ b175 := Nat.le_trans Z0 (Nat.le_of_eq gq175.symm)
    have sz_b175 : h0.size ≤ b175 := Nat.le_trans (Keep.refl h0 []).1 (Nat.le_of_eq gq175.symm)
    have K175 : Keep h0 h175 [] := (Keep.refl h0 []).ext E175
    have Z175 : n0 ≤ h175.size := Nat.le_trans Z0 E175.1
    have V175 : Arv Z h175 b175 k175 .byte (0 : Int32) [] (.int (0 : Int32)) := (Arv.new A175 (by decide)).pad (pad_rep [] (.int (0 : Int32)) 0)
    obtain ⟨_, _, ⟨T176, L176, k176, n176⟩, -, X176, ⟨Lc176, hQ176, l176, y176, z176⟩, st176⟩ := Jvm.LawKit.callS X175 hx (y := (⟨"com/example/tessera/tessera/storage/Prefixes", "end", "([B)[B"⟩ : MethodName)) hown (mvT hZ (hw _ (List.mem_of_getElem? (i := 5) rfl))) (mvT hZ (hw _ (List.mem_of_getElem? (i := 6) rfl))) (mvT hZ (hw _ (List.mem_of_getElem? (i := 7) rfl))) (mvT hZ (hw _ (List.mem_of_getElem? (i := 8) rfl))) (by decide) (backOf (W := 0) (rmE0n l Z a0 hw [] b175 k175  h175 n0 Z175 V175 Ax175 ) hZ (hw _ (List.mem_of_getElem? (i := 8) rfl)) (hw _ (List.mem_of_getElem? (i := 7) rfl)) (by decide) (by decide)) (g := (mkF m 66 #[.val (.int p1), .val (.int p2), .val (.int p3), .val (.int p4), .val (.int (0 : Int32)), .val (.int x0), .val (.int x1), .val (.int x2), .val (.ref b175), .unset, .unset, .unset, .unset, .unset, .unset] [(.ref b175)])) rfl (by rw [hml]; rfl) (argsL := [(.ref b175)]) (rest := []) (lenOf pd_3 rfl) rfl (by show 2 * 0 + _ ≤ _; exact Nat.le_of_eq rfl) (hb hby at_66) (fun _ _ => ⟨rfl, e175, (by decide : 1 + 0 ≤ _), (by decide : 0 + 0 ≤ _)⟩)
    dsimp only [Pt.U, Pt.locs, Pt.cells, Pt.slots] at X176 l176 y176 z176 st176 hQ176
    subst l176 y176 z176
    obtain ⟨rfl, Nq176, eq176⟩ := hQ176
    have Nf176 := Fr.app Nf173 Nq176
    have pre177 : ∀ t, Steps p.tables e below (T176.setTop (mkF m 197 #[.val (.int p1), .val (.int p2), .val (.int p3), .val (.int p4), .val (.int (0 : Int32)), .val (.int x0), .val (.int x1), .val (.int x2), .val (.ref b175), .val .null, .val (.int (1 : Int32)), .val (.int (-1 : Int32)), .unset, .unset, .unset] [(.int (1 : Int32))])) t → Steps p.tables e below (s₁.setTop (entryFrame m #[(.int p1), (.int p2), (.int p3), (.int p4)] maxLocals)) t := by
      intro t kt
      refine pre174 t ?_
      show Steps p.tables e below (T173.setTop (mkF m 21 #[.val (.int p1), .val (.int p2), .val (.int p3), .val (.int p4), .val (.int (0 : Int32)), .val (.int x0), .val (.int x1), .unset, .unset, .unset, .unset, .unset, .unset, .unset, .unset] [(.int x2)])) _
      refine XS.istore X173.here hx rfl (hb hby at_21) rfl (l' := #[.val (.int p1), .val (.int p2), .val (.int p3), .val (.int p4), .val (.int (0 : Int32)), .val (.int x0), .val (.int x1), .val (.int x2), .unset, .unset, .unset, .unset, .unset, .unset, .unset]) rfl ?_
      show Steps p.tables e below (T173.setTop (mkF m 23 #[.val (.int p1), .val (.int p2), .val (.int p3), .val (.int p4), .val (.int (0 : Int32)), .val (.int x0), .val (.int x1), .val (.int x2), .unset, .unset, .unset, .unset, .unset, .unset, .unset] [])) _
      refine XS.iload X173.here hx rfl (hb hby at_23) rfl ?_
      show Steps p.tables e below (T173.setTop (mkF m 25 #[.val (.int p1), .val (.int p2), .val (.int p3), .val (.int p4), .val (.int (0 : Int32)), .val (.int x0), .val (.int x1), .val (.int x2), .unset, .unset, .unset, .unset, .unset, .unset, .unset] [(.int (0 : Int32))])) _
      refine st175 _ ?_
      show Steps p.tables e below (T175.setTop (mkF m 27 #[.val (.int p1), .val (.int p2), .val (.int p3), .val (.int p4), .val (.int (0 : Int32)), .val (.int x0), .val (.int x1), .val (.int x2), .unset, .unset, .unset, .unset, .unset, .unset, .unset] [(.ref b175)])) _
      refine XS.astore X175.here hx rfl (hb hby at_27) rfl rfl (l' := #[.val (.int p1), .val (.int p2), .val (.int p3), .val (.int p4), .val (.int (0 : Int32)), .val (.int x0), .val (.int x1), .val (.int x2), .val (.ref b175), .unset, .unset, .unset, .unset, .unset, .unset]) rfl ?_
      show Steps p.tables e below (T175.setTop (mkF m 29 #[.val (.int p1), .val (.int p2), .val (.int p3), .val (.int p4), .val (.int (0 : Int32)), .val (.int x0), .val (.int x1), .val (.int x2), .val (.ref b175), .unset, .unset, .unset, .unset, .unset, .unset] [])) _
      refine XS.iload X175.here hx rfl (hb hby at_29) rfl ?_
      show Steps p.tables e below (T175.setTop (mkF m 31 #[.val (.int p1), .val (.int p2), .val (.int p3), .val (.int p4), .val (.int (0 : Int32)), .val (.int x0), .val (.int x1), .val (.int x2), .val (.ref b175), .unset, .unset, .unset, .unset, .unset, .unset] [(.int (0 : Int32))])) _
      refine XS.ifYes X175.here hx rfl (pc0 := 31) (pc' := 40) rfl (hb hby at_31) rfl ((if0 _ _).trans (flt (by decide)).2.2.2) (by decide) (by decide) ?_
      show Steps p.tables e below (T175.setTop (mkF m 40 #[.val (.int p1), .val (.int p2), .val (.int p3), .val (.int p4), .val (.int (0 : Int32)), .val (.int x0), .val (.int x1), .val (.int x2), .val (.ref b175), .unset, .unset, .unset, .unset, .unset, .unset] [])) _
      refine XS.iload X175.here hx rfl (hb hby at_40) rfl ?_
      show Steps p.tables e below (T175.setTop (mkF m 42 #[.val (.int p1), .val (.int p2), .val (.int p3), .val (.int p4), .val (.int (0 : Int32)), .val (.int x0), .val (.int x1), .val (.int x2), .val (.ref b175), .unset, .unset, .unset, .unset, .unset, .unset] [(.int (0 : Int32))])) _
      refine XS.iconst X175.here hx rfl (hb hby at_42) ?_
      show Steps p.tables e below (T175.setTop (mkF m 43 #[.val (.int p1), .val (.int p2), .val (.int p3), .val (.int p4), .val (.int (0 : Int32)), .val (.int x0), .val (.int x1), .val (.int x2), .val (.ref b175), .unset, .unset, .unset, .unset, .unset, .unset] [(.int (1 : Int32)), (.int (0 : Int32))])) _
      refine XS.icmpYes X175.here hx rfl (pc0 := 43) (pc' := 52) rfl (hb hby at_43) rfl (flt (by decide)).2.2.2 (by decide) (by decide) ?_
      show Steps p.tables e below (T175.setTop (mkF m 52 #[.val (.int p1), .val (.int p2), .val (.int p3), .val (.int p4), .val (.int (0 : Int32)), .val (.int x0), .val (.int x1), .val (.int x2), .val (.ref b175), .unset, .unset, .unset, .unset, .unset, .unset] [])) _
      refine XS.iload X175.here hx rfl (hb hby at_52) rfl ?_
      show Steps p.tables e below (T175.setTop (mkF m 54 #[.val (.int p1), .val (.int p2), .val (.int p3), .val (.int p4), .val (.int (0 : Int32)), .val (.int x0), .val (.int x1), .val (.int x2), .val (.ref b175), .unset, .unset, .unset, .unset, .unset, .unset] [(.int (0 : Int32))])) _
      refine XS.iconst X175.here hx rfl (hb hby at_54) ?_
      show Steps p.tables e below (T175.setTop (mkF m 55 #[.val (.int p1), .val (.int p2), .val (.int p3), .val (.int p4), .val (.int (0 : Int32)), .val (.int x0), .val (.int x1), .val (.int x2), .val (.ref b175), .unset, .unset, .unset, .unset, .unset, .unset] [(.int (2 : Int32)), (.int (0 : Int32))])) _
      refine XS.icmpYes X175.here hx rfl (pc0 := 55) (pc' := 64) rfl (hb hby at_55) rfl (flt (by decide)).2.2.2 (by decide) (by decide) ?_
      show Steps p.tables e below (T175.setTop (mkF m 64 #[.val (.int p1), .val (.int p2), .val (.int p3), .val (.int p4), .val (.int (0 : Int32)), .val (.int x0), .val (.int x1), .val (.int x2), .val (.ref b175), .unset, .unset, .unset, .unset, .unset, .unset] [])) _
      refine XS.aload X175.here hx rfl (hb hby at_64) rfl rfl ?_
      show Steps p.tables e below (T175.setTop (mkF m 66 #[.val (.int p1), .val (.int p2), .val (.int p3), .val (.int p4), .val (.int (0 : Int32)), .val (.int x0), .val (.int x1), .val (.int x2), .val (.ref b175), .unset, .unset, .unset, .unset, .unset, .unset] [(.ref b175)])) _
      refine st176 _ ?_
      show Steps p.tables e below (T176.setTop (mkF m 69 #[.val (.int p1), .val (.int p2), .val (.int p3), .val (.int p4), .val (.int (0 : Int32)), .val (.int x0), .val (.int x1), .val (.int x2), .val (.ref b175), .unset, .unset, .unset, .unset, .unset, .unset] [.null])) _
      refine XS.astore X176.here hx rfl (hb hby at_69) rfl rfl (l' := #[.val (.int p1), .val (.int p2), .val (.int p3), .val (.int p4), .val (.int (0 : Int32)), .val (.int x0), .val (.int x1), .val (.int x2), .val (.ref b175), .val .null, .unset, .unset, .unset, .unset, .unset]) rfl ?_
      show Steps p.tables e below (T176.setTop (mkF m 71 #[.val (.int p1), .val (.int p2), .val (.int p3), .val (.int p4), .val (.int (0 : Int32)), .val (.int x0), .val (.int x1), .val (.int x2), .val (.ref b175), .val .null, .unset, .unset, .unset, .unset, .unset] [])) _
      refine XS.iload X176.here hx rfl (hb hby at_71) rfl ?_
      show Steps p.tables e below (T176.setTop (mkF m 73 #[.val (.int p1), .val (.int p2), .val (.int p3), .val (.int p4), .val (.int (0 : Int32)), .val (.int x0), .val (.int x1), .val (.int x2), .val (.ref b175), .val .null, .unset, .unset, .unset, .unset, .unset] [(.int (0 : Int32))])) _
      refine XS.ifYes X176.here hx rfl (pc0 := 73) (pc' := 85) rfl (hb hby at_73) rfl ((if0 _ _).trans (flt (by decide)).2.2.2) (by decide) (by decide) ?_
      show Steps p.tables e below (T176.setTop (mkF m 85 #[.val (.int p1), .val (.int p2), .val (.int p3), .val (.int p4), .val (.int (0 : Int32)), .val (.int x0), .val (.int x1), .val (.int x2), .val (.ref b175), .val .null, .unset, .unset, .unset, .unset, .unset] [])) _
      refine XS.iload X176.here hx rfl (hb hby at_85) rfl ?_
      show Steps p.tables e below (T176.setTop (mkF m 87 #[.val (.int p1), .val (.int p2), .val (.int p3), .val (.int p4), .val (.int (0 : Int32)), .val (.int x0), .val (.int x1), .val (.int x2), .val (.ref b175), .val .null, .unset, .unset, .unset, .unset, .unset] [(.int (0 : Int32))])) _
      refine XS.iconst X176.here hx rfl (hb hby at_87) ?_
      show Steps p.tables e below (T176.setTop (mkF m 88 #[.val (.int p1), .val (.int p2), .val (.int p3), .val (.int p4), .val (.int (0 : Int32)), .val (.int x0), .val (.int x1), .val (.int x2), .val (.ref b175), .val .null, .unset, .unset, .unset, .unset, .unset] [(.int (1 : Int32)), (.int (0 : Int32))])) _
      refine XS.icmpYes X176.here hx rfl (pc0 := 88) (pc' := 100) rfl (hb hby at_88) rfl (flt (by decide)).2.2.2 (by decide) (by decide) ?_
      show Steps p.tables e below (T176.setTop (mkF m 100 #[.val (.int p1), .val (.int p2), .val (.int p3), .val (.int p4), .val (.int (0 : Int32)), .val (.int x0), .val (.int x1), .val (.int x2), .val (.ref b175), .val .null, .unset, .unset, .unset, .unset, .unset] [])) _
      refine XS.iload X176.here hx rfl (hb hby at_100) rfl ?_
      show Steps p.tables e below (T176.setTop (mkF m 102 #[.val (.int p1), .val (.int p2), .val (.int p3), .val (.int p4), .val (.int (0 : Int32)), .val (.int x0), .val (.int x1), .val (.int x2), .val (.ref b175), .val .null, .unset, .unset, .unset, .unset, .unset] [(.int (0 : Int32))])) _
      refine XS.iconst X176.here hx rfl (hb hby at_102) ?_
      show Steps p.tables e below (T176.setTop (mkF m 103 #[.val (.int p1), .val (.int p2), .val (.int p3), .val (.int p4), .val (.int (0 : Int32)), .val (.int x0), .val (.int x1), .val (.int x2), .val (.ref b175), .val .null, .unset, .unset, .unset, .unset, .unset] [(.int (2 : Int32)), (.int (0 : Int32))])) _
      refine XS.icmpYes X176.here hx rfl (pc0 := 103) (pc' := 115) rfl (hb hby at_103) rfl (flt (by decide)).2.2.2 (by decide) (by decide) ?_
      show Steps p.tables e below (T176.setTop (mkF m 115 #[.val (.int p1), .val (.int p2), .val (.int p3), .val (.int p4), .val (.int (0 : Int32)), .val (.int x0), .val (.int x1), .val (.int x2), .val (.ref b175), .val .null, .unset, .unset, .unset, .unset, .unset] [])) _
      refine XS.iconst X176.here hx rfl (hb hby at_115) ?_
      show Steps p.tables e below (T176.setTop (mkF m 116 #[.val (.int p1), .val (.int p2), .val (.int p3), .val (.int p4), .val (.int (0 : Int32)), .val (.int x0), .val (.int x1), .val (.int x2), .val (.ref b175), .val .null, .unset, .unset, .unset, .unset, .unset] [(.int (1 : Int32))])) _
      refine XS.goto X176.here hx rfl (pc0 := 116) (pc' := 120) rfl (hb hby at_116) (by decide) (by decide) ?_
      show Steps p.tables e below (T176.setTop (mkF m 120 #[.val (.int p1), .val (.int p2), .val (.int p3), .val (.int p4), .val (.int (0 : Int32)), .val (.int x0), .val (.int x1), .val (.int x2), .val (.ref b175), .val .null, .unset, .unset, .unset, .unset, .unset] [(.int (1 : Int32))])) _
      refine XS.istore X176.here hx rfl (hb hby at_120) rfl (l' := #[.val (.int p1), .val (.int p2), .val (.int p3), .val (.int p4), .val (.int (0 : Int32)), .val (.int x0), .val (.int x1), .val (.int x2), .val (.ref b175), .val .null, .val (.int (1 : Int32)), .unset, .unset, .unset, .unset]) rfl ?_
      show Steps p.tables e below (T176.setTop (mkF m 122 #[.val (.int p1), .val (.int p2), .val (.int p3), .val (.int p4), .val (.int (0 : Int32)), .val (.int x0), .val (.int x1), .val (.int x2), .val (.ref b175), .val .null, .val (.int (1 : Int32)), .unset, .unset, .unset, .unset] [])) _
      refine XS.iload X176.here hx rfl (hb hby at_122) rfl ?_
      show Steps p.tables e below (T176.setTop (mkF m 124 #[.val (.int p1), .val (.int p2), .val (.int p3), .val (.int p4), .val (.int (0 : Int32)), .val (.int x0), .val (.int x1), .val (.int x2), .val (.ref b175), .val .null, .val (.int (1 : Int32)), .unset, .unset, .unset, .unset] [(.int (1 : Int32))])) _
      refine XS.ifYes X176.here hx rfl (pc0 := 124) (pc' := 129) rfl (hb hby at_124) rfl ((if0 _ _).trans (feq (by decide)).2) (by decide) (by decide) ?_
      show Steps p.tables e below (T176.setTop (mkF m 129 #[.val (.int p1), .val (.int p2), .val (.int p3), .val (.int p4), .val (.int (0 : Int32)), .val (.int x0), .val (.int x1), .val (.int x2), .val (.ref b175), .val .null, .val (.int (1 : Int32)), .unset, .unset, .unset, .unset] [])) _
      refine XS.iconst X176.here hx rfl (hb hby at_129) ?_
      show Steps p.tables e below (T176.setTop (mkF m 130 #[.val (.int p1), .val (.int p2), .val (.int p3), .val (.int p4), .val (.int (0 : Int32)), .val (.int x0), .val (.int x1), .val (.int x2), .val (.ref b175), .val .null, .val (.int (1 : Int32)), .unset, .unset, .unset, .unset] [(.int (-1 : Int32))])) _
      refine XS.istore X176.here hx rfl (hb hby at_130) rfl (l' := #[.val (.int p1), .val (.int p2), .val (.int p3), .val (.int p4), .val (.int (0 : Int32)), .val (.int x0), .val (.int x1), .val (.int x2), .val (.ref b175), .val .null, .val (.int (1 : Int32)), .val (.int (-1 : Int32)), .unset, .unset, .unset]) rfl ?_
      show Steps p.tables e below (T176.setTop (mkF m 132 #[.val (.int p1), .val (.int p2), .val (.int p3), .val (.int p4), .val (.int (0 : Int32)), .val (.int x0), .val (.int x1), .val (.int x2), .val (.ref b175), .val .null, .val (.int (1 : Int32)), .val (.int (-1 : Int32)), .unset, .unset, .unset] [])) _
      refine XS.iload X176.here hx rfl (hb hby at_132) rfl ?_
      show Steps p.tables e below (T176.setTop (mkF m 134 #[.val (.int p1), .val (.int p2), .val (.int p3), .val (.int p4), .val (.int (0 : Int32)), .val (.int x0), .val (.int x1), .val (.int x2), .val (.ref b175), .val .null, .val (.int (1 : Int32)), .val (.int (-1 : Int32)), .unset, .unset, .unset] [(.int (0 : Int32))])) _
      refine XS.iconst X176.here hx rfl (hb hby at_134) ?_
      show Steps p.tables e below (T176.setTop (mkF m 135 #[.val (.int p1), .val (.int p2), .val (.int p3), .val (.int p4), .val (.int (0 : Int32)), .val (.int x0), .val (.int x1), .val (.int x2), .val (.ref b175), .val .null, .val (.int (1 : Int32)), .val (.int (-1 : Int32)), .unset, .unset, .unset] [(.int (2 : Int32)), (.int (0 : Int32))])) _
      refine XS.icmpYes X176.here hx rfl (pc0 := 135) (pc' := 150) rfl (hb hby at_135) rfl (flt (by decide)).2.2.2 (by decide) (by decide) ?_
      show Steps p.tables e below (T176.setTop (mkF m 150 #[.val (.int p1), .val (.int p2), .val (.int p3), .val (.int p4), .val (.int (0 : Int32)), .val (.int x0), .val (.int x1), .val (.int x2), .val (.ref b175), .val .null, .val (.int (1 : Int32)), .val (.int (-1 : Int32)), .unset, .unset, .unset] [])) _
      refine XS.iload X176.here hx rfl (hb hby at_150) rfl ?_
      show Steps p.tables e below (T176.setTop (mkF m 152 #[.val (.int p1), .val (.int p2), .val (.int p3), .val (.int p4), .val (.int (0 : Int32)), .val (.int x0), .val (.int x1), .val (.int x2), .val (.ref b175), .val .null, .val (.int (1 : Int32)), .val (.int (-1 : Int32)), .unset, .unset, .unset] [(.int (0 : Int32))])) _
      refine XS.iconst X176.here hx rfl (hb hby at_152) ?_
      show Steps p.tables e below (T176.setTop (mkF m 153 #[.val (.int p1), .val (.int p2), .val (.int p3), .val (.int p4), .val (.int (0 : Int32)), .val (.int x0), .val (.int x1), .val (.int x2), .val (.ref b175), .val .null, .val (.int (1 : Int32)), .val (.int (-1 : Int32)), .unset, .unset, .unset] [(.int (1 : Int32)), (.int (0 : Int32))])) _
      refine XS.icmpYes X176.here hx rfl (pc0 := 153) (pc' := 168) rfl (hb hby at_153) rfl (flt (by decide)).2.2.2 (by decide) (by decide) ?_
      show Steps p.tables e below (T176.setTop (mkF m 168 #[.val (.int p1), .val (.int p2), .val (.int p3), .val (.int p4), .val (.int (0 : Int32)), .val (.int x0), .val (.int x1), .val (.int x2), .val (.ref b175), .val .null, .val (.int (1 : Int32)), .val (.int (-1 : Int32)), .unset, .unset, .unset] [])) _
      refine XS.iload X176.here hx rfl (hb hby at_168) rfl ?_
      show Steps p.tables e below (T176.setTop (mkF m 170 #[.val (.int p1), .val (.int p2), .val (.int p3), .val (.int p4), .val (.int (0 : Int32)), .val (.int x0), .val (.int x1), .val (.int x2), .val (.ref b175), .val .null, .val (.int (1 : Int32)), .val (.int (-1 : Int32)), .unset, .unset, .unset] [(.int (0 : Int32))])) _
      refine XS.ifYes X176.here hx rfl (pc0 := 170) (pc' := 182) rfl (hb hby at_170) rfl ((if0 _ _).trans (flt (by decide)).2.2.2) (by decide) (by decide) ?_
      show Steps p.tables e below (T176.setTop (mkF m 182 #[.val (.int p1), .val (.int p2), .val (.int p3), .val (.int p4), .val (.int (0 : Int32)), .val (.int x0), .val (.int x1), .val (.int x2), .val (.ref b175), .val .null, .val (.int (1 : Int32)), .val (.int (-1 : Int32)), .unset, .unset, .unset] [])) _
      refine XS.iload X176.here hx rfl (hb hby at_182) rfl ?_
      show Steps p.tables e below (T176.setTop (mkF m 184 #[.val (.int p1), .val (.int p2), .val (.int p3), .val (.int p4), .val (.int (0 : Int32)), .val (.int x0), .val (.int x1), .val (.int x2), .val (.ref b175), .val .null, .val (.int (1 : Int32)), .val (.int (-1 : Int32)), .unset, .unset, .unset] [(.int (-1 : Int32))])) _
      refine XS.ifNo X176.here hx rfl (hb hby at_184) rfl ((if0 _ _).trans (tlt (by decide)).2.1) ?_
      show Steps p.tables e below (T176.setTop (mkF m 187 #[.val (.int p1), .val (.int p2), .val (.int p3), .val (.int p4), .val (.int (0 : Int32)), .val (.int x0), .val (.int x1), .val (.int x2), .val (.ref b175), .val .null, .val (.int (1 : Int32)), .val (.int (-1 : Int32)), .unset, .unset, .unset] [])) _
      refine XS.aload X176.here hx rfl (hb hby at_187) rfl rfl ?_
      show Steps p.tables e below (T176.setTop (mkF m 189 #[.val (.int p1), .val (.int p2), .val (.int p3), .val (.int p4), .val (.int (0 : Int32)), .val (.int x0), .val (.int x1), .val (.int x2), .val (.ref b175), .val .null, .val (.int (1 : Int32)), .val (.int (-1 : Int32)), .unset, .unset, .unset] [.null])) _
      refine XS.ifnonnullNo X176.here hx rfl (hb hby at_189) rfl ?_
      show Steps p.tables e below (T176.setTop (mkF m 192 #[.val (.int p1), .val (.int p2), .val (.int p3), .val (.int p4), .val (.int (0 : Int32)), .val (.int x0), .val (.int x1), .val (.int x2), .val (.ref b175), .val .null, .val (.int (1 : Int32)), .val (.int (-1 : Int32)), .unset, .unset, .unset] [])) _
      refine XS.iconst X176.here hx rfl (hb hby at_192) ?_
      show Steps p.tables e below (T176.setTop (mkF m 193 #[.val (.int p1), .val (.int p2), .val (.int p3), .val (.int p4), .val (.int (0 : Int32)), .val (.int x0), .val (.int x1), .val (.int x2), .val (.ref b175), .val .null, .val (.int (1 : Int32)), .val (.int (-1 : Int32)), .unset, .unset, .unset] [(.int (1 : Int32))])) _
      refine XS.goto X176.here hx rfl (pc0 := 193) (pc' := 197) rfl (hb hby at_193) (by decide) (by decide) ?_
      exact kt
    obtain ⟨fsx, hr, hrun, hended, hW, hsame⟩ := X176.leave (v := some (.int (nar .boolean (1 : Int32)))) (fun h => by rw [Bd.returns] at h; cases h)
    refine ⟨_, _, pre177 _ ?_, hrun, hended, _, _, rfl, ?_, ⟨_, rfl⟩, hW, hsame.mono (by decide) (by decide)⟩
    · exact retN X176 hx (t := .boolean) Bd.returns (by simp) (hb hby at_197) hr
    · show Q0 Z p1 p2 p3 p4 h0 n0 _ T176.heap _
      rw [eq176]
      exact ⟨rfl, Nf176⟩
  · have pre178 : ∀ t, Steps p.tables e below (s₁.setTop (mkF m 3 #[.val (.int p1), .val (.int p2), .val (.int p3), .val (.int p4), .unset, .unset, .unset, .unset, .unset, .unset, .unset, .unset, .unset, .unset, .unset] [(.int (1 : Int32))])) t → Steps p.tables e below (s₁.setTop (entryFrame m #[(.int p1), (.int p2), (.int p3), (.int p4)] maxLocals)) t := by
      intro t kt
      have hsv : (p1 &&& (3 : Int32)) = (1 : Int32) := hn
      refine pre169 t ?_
      rw [hsv]
      exact kt
    obtain ⟨_, _, ⟨T179, L179, k179, n179⟩, -, X179, ⟨Lc179, hQ179, l179, y179, z179⟩, st179⟩ := Jvm.LawKit.callS X0 hx (y := (⟨"com/example/tessera/tessera/storage/PrefixesEndPinLaw", "draw", "(I)B"⟩ : MethodName)) hown (mvT hZ (hw _ (List.mem_of_getElem? (i := 0) rfl))) (mvT hZ (hw _ (List.mem_of_getElem? (i := 1) rfl))) (mvT hZ (hw _ (List.mem_of_getElem? (i := 2) rfl))) (mvT hZ (hw _ (List.mem_of_getElem? (i := 3) rfl))) (by decide) (backOf (W := 0) (rm1 l Z a0 hw [] p2 h0 n0 Z0) hZ (hw _ (List.mem_of_getElem? (i := 3) rfl)) (hw _ (List.mem_of_getElem? (i := 2) rfl)) (by decide) (by decide)) (g := (mkF m 6 #[.val (.int p1), .val (.int p2), .val (.int p3), .val (.int p4), .val (.int (1 : Int32)), .unset, .unset, .unset, .unset, .unset, .unset, .unset, .unset, .unset, .unset] [(.int p2)])) rfl (by rw [hml]; rfl) (argsL := [(.int p2)]) (rest := []) (lenOf pd_2 rfl) rfl (by show 2 * 0 + _ ≤ _; exact Nat.le_of_eq rfl) (hb hby at_6) (fun _ _ => ⟨rfl, e0, (by decide : 0 + 0 ≤ _), (by decide : 0 + 0 ≤ _)⟩)
    dsimp only [Pt.U, Pt.locs, Pt.cells, Pt.slots] at X179 l179 y179 z179 st179 hQ179
    subst l179 y179 z179
    obtain ⟨x0, rfl, Nq179, eq179, hx0⟩ := hQ179
    have Nf179 := Fr.app N0 Nq179
    obtain ⟨_, _, ⟨T180, L180, k180, n180⟩, -, X180, ⟨Lc180, hQ180, l180, y180, z180⟩, st180⟩ := Jvm.LawKit.callS X179 hx (y := (⟨"com/example/tessera/tessera/storage/PrefixesEndPinLaw", "draw", "(I)B"⟩ : MethodName)) hown (mvT hZ (hw _ (List.mem_of_getElem? (i := 0) rfl))) (mvT hZ (hw _ (List.mem_of_getElem? (i := 1) rfl))) (mvT hZ (hw _ (List.mem_of_getElem? (i := 2) rfl))) (mvT hZ (hw _ (List.mem_of_getElem? (i := 3) rfl))) (by decide) (backOf (W := 0) (rm1 l Z a0 hw [] p3 h0 n0 Z0) hZ (hw _ (List.mem_of_getElem? (i := 3) rfl)) (hw _ (List.mem_of_getElem? (i := 2) rfl)) (by decide) (by decide)) (g := (mkF m 12 #[.val (.int p1), .val (.int p2), .val (.int p3), .val (.int p4), .val (.int (1 : Int32)), .val (.int x0), .unset, .unset, .unset, .unset, .unset, .unset, .unset, .unset, .unset] [(.int p3)])) rfl (by rw [hml]; rfl) (argsL := [(.int p3)]) (rest := []) (lenOf pd_2 rfl) rfl (by show 2 * 0 + _ ≤ _; exact Nat.le_of_eq rfl) (hb hby at_12) (fun _ _ => ⟨rfl, eq179, (by decide : 0 + 0 ≤ _), (by decide : 0 + 0 ≤ _)⟩)
    dsimp only [Pt.U, Pt.locs, Pt.cells, Pt.slots] at X180 l180 y180 z180 st180 hQ180
    subst l180 y180 z180
    obtain ⟨x1, rfl, Nq180, eq180, hx1⟩ := hQ180
    have Nf180 := Fr.app Nf179 Nq180
    obtain ⟨_, _, ⟨T181, L181, k181, n181⟩, -, X181, ⟨Lc181, hQ181, l181, y181, z181⟩, st181⟩ := Jvm.LawKit.callS X180 hx (y := (⟨"com/example/tessera/tessera/storage/PrefixesEndPinLaw", "draw", "(I)B"⟩ : MethodName)) hown (mvT hZ (hw _ (List.mem_of_getElem? (i := 0) rfl))) (mvT hZ (hw _ (List.mem_of_getElem? (i := 1) rfl))) (mvT hZ (hw _ (List.mem_of_getElem? (i := 2) rfl))) (mvT hZ (hw _ (List.mem_of_getElem? (i := 3) rfl))) (by decide) (backOf (W := 0) (rm1 l Z a0 hw [] p4 h0 n0 Z0) hZ (hw _ (List.mem_of_getElem? (i := 3) rfl)) (hw _ (List.mem_of_getElem? (i := 2) rfl)) (by decide) (by decide)) (g := (mkF m 18 #[.val (.int p1), .val (.int p2), .val (.int p3), .val (.int p4), .val (.int (1 : Int32)), .val (.int x0), .val (.int x1), .unset, .unset, .unset, .unset, .unset, .unset, .unset, .unset] [(.int p4)])) rfl (by rw [hml]; rfl) (argsL := [(.int p4)]) (rest := []) (lenOf pd_2 rfl) rfl (by show 2 * 0 + _ ≤ _; exact Nat.le_of_eq rfl) (hb hby at_18) (fun _ _ => ⟨rfl, eq180, (by decide : 0 + 0 ≤ _), (by decide : 0 + 0 ≤ _)⟩)
    dsimp only [Pt.U, Pt.locs, Pt.cells, Pt.slots] at X181 l181 y181 z181 st181 hQ181
    subst l181 y181 z181
    obtain ⟨x2, rfl, Nq181, eq181, hx2⟩ := hQ181
    have Nf181 := Fr.app Nf180 Nq181
    have pre182 : ∀ t, Steps p.tables e below (T181.setTop (mkF m 21 #[.val (.int p1), .val (.int p2), .val (.int p3), .val (.int p4), .val (.int (1 : Int32)), .val (.int x0), .val (.int x1), .unset, .unset, .unset, .unset, .unset, .unset, .unset, .unset] [(.int x2)])) t → Steps p.tables e below (s₁.setTop (entryFrame m #[(.int p1), (.int p2), (.int p3), (.int p4)] maxLocals)) t := by
      intro t kt
      refine pre178 t ?_
      show Steps p.tables e below (s₁.setTop (mkF m 3 #[.val (.int p1), .val (.int p2), .val (.int p3), .val (.int p4), .unset, .unset, .unset, .unset, .unset, .unset, .unset, .unset, .unset, .unset, .unset] [(.int (1 : Int32))])) _
      refine XS.istore X0.here hx rfl (hb hby at_3) rfl (l' := #[.val (.int p1), .val (.int p2), .val (.int p3), .val (.int p4), .val (.int (1 : Int32)), .unset, .unset, .unset, .unset, .unset, .unset, .unset, .unset, .unset, .unset]) rfl ?_
      show Steps p.tables e below (s₁.setTop (mkF m 5 #[.val (.int p1), .val (.int p2), .val (.int p3), .val (.int p4), .val (.int (1 : Int32)), .unset, .unset, .unset, .unset, .unset, .unset, .unset, .unset, .unset, .unset] [])) _
      refine XS.iloadN X0.here hx rfl (hb hby at_5) rfl ?_
      show Steps p.tables e below (s₁.setTop (mkF m 6 #[.val (.int p1), .val (.int p2), .val (.int p3), .val (.int p4), .val (.int (1 : Int32)), .unset, .unset, .unset, .unset, .unset, .unset, .unset, .unset, .unset, .unset] [(.int p2)])) _
      refine st179 _ ?_
      show Steps p.tables e below (T179.setTop (mkF m 9 #[.val (.int p1), .val (.int p2), .val (.int p3), .val (.int p4), .val (.int (1 : Int32)), .unset, .unset, .unset, .unset, .unset, .unset, .unset, .unset, .unset, .unset] [(.int x0)])) _
      refine XS.istore X179.here hx rfl (hb hby at_9) rfl (l' := #[.val (.int p1), .val (.int p2), .val (.int p3), .val (.int p4), .val (.int (1 : Int32)), .val (.int x0), .unset, .unset, .unset, .unset, .unset, .unset, .unset, .unset, .unset]) rfl ?_
      show Steps p.tables e below (T179.setTop (mkF m 11 #[.val (.int p1), .val (.int p2), .val (.int p3), .val (.int p4), .val (.int (1 : Int32)), .val (.int x0), .unset, .unset, .unset, .unset, .unset, .unset, .unset, .unset, .unset] [])) _
      refine XS.iloadN X179.here hx rfl (hb hby at_11) rfl ?_
      show Steps p.tables e below (T179.setTop (mkF m 12 #[.val (.int p1), .val (.int p2), .val (.int p3), .val (.int p4), .val (.int (1 : Int32)), .val (.int x0), .unset, .unset, .unset, .unset, .unset, .unset, .unset, .unset, .unset] [(.int p3)])) _
      refine st180 _ ?_
      show Steps p.tables e below (T180.setTop (mkF m 15 #[.val (.int p1), .val (.int p2), .val (.int p3), .val (.int p4), .val (.int (1 : Int32)), .val (.int x0), .unset, .unset, .unset, .unset, .unset, .unset, .unset, .unset, .unset] [(.int x1)])) _
      refine XS.istore X180.here hx rfl (hb hby at_15) rfl (l' := #[.val (.int p1), .val (.int p2), .val (.int p3), .val (.int p4), .val (.int (1 : Int32)), .val (.int x0), .val (.int x1), .unset, .unset, .unset, .unset, .unset, .unset, .unset, .unset]) rfl ?_
      show Steps p.tables e below (T180.setTop (mkF m 17 #[.val (.int p1), .val (.int p2), .val (.int p3), .val (.int p4), .val (.int (1 : Int32)), .val (.int x0), .val (.int x1), .unset, .unset, .unset, .unset, .unset, .unset, .unset, .unset] [])) _
      refine XS.iloadN X180.here hx rfl (hb hby at_17) rfl ?_
      show Steps p.tables e below (T180.setTop (mkF m 18 #[.val (.int p1), .val (.int p2), .val (.int p3), .val (.int p4), .val (.int (1 : Int32)), .val (.int x0), .val (.int x1), .unset, .unset, .unset, .unset, .unset, .unset, .unset, .unset] [(.int p4)])) _
      refine st181 _ ?_
      exact kt
    obtain ⟨T183, h183, k183, X183, e183, E183, A183, Ax183, st183⟩ := newPE X181 hx hZ (hw _ (List.mem_of_getElem? (i := 4) rfl)) eq181 (g := (mkF m 25 #[.val (.int p1), .val (.int p2), .val (.int p3), .val (.int p4), .val (.int (1 : Int32)), .val (.int x0), .val (.int x1), .val (.int x2), .unset, .unset, .unset, .unset, .unset, .unset, .unset] [(.int (1 : Int32))])) rfl (hb hby at_25) rfl (by decide) (cap := 1) (by decide) (by decide) (by decide) (by decide) (ad := "[B") rfl
    obtain ⟨b183, gq183⟩ : ∃ z, z = h0.size := ⟨_, rfl⟩
    rw [← gq183] at A183 Ax183 st183
    have g_b183 : n0 ≤ b183 := Nat.le_trans Z0 (Nat.le_of_eq gq183.symm)
    have sz_b183 : h0.size ≤ b183 := Nat.le_trans (Keep.refl h0 []).1 (Nat.le_of_eq gq183.symm)
    have K183 : Keep h0 h183 [] := (Keep.refl h0 []).ext E183
    have Z183 : n0 ≤ h183.size := Nat.le_trans Z0 E183.1
    have V183 : Arv Z h183 b183 k183 .byte (1 : Int32) [(.int (0 : Int32))] (.int (0 : Int32)) := (Arv.new A183 (by decide)).pad (pad_rep [] (.int (0 : Int32)) 1)
    obtain ⟨T184, h184, X184, e184, W184, V184, st184⟩ := own_bst X183 hx hZ e183 V183 (j := (0 : Int32)) ⟨by decide, by decide⟩ (i := 0) rfl (Nat.le_of_ble_eq_true rfl) (w := x0) hx0 (g := (mkF m 39 #[.val (.int p1), .val (.int p2), .val (.int p3), .val (.int p4), .val (.int (1 : Int32)), .val (.int x0), .val (.int x1), .val (.int x2), .val (.ref b183), .unset, .unset, .unset, .unset, .unset, .unset] [(.int x0), (.int (0 : Int32)), (.ref b183)])) rfl rfl (hb hby at_39)
    have f185 := (Ax183.wr W184)
    have K184 : Keep h0 h184 [] := K183.wr W184 (Or.inr sz_b183)
    have Nf184 := Fr.snoc X184 Nf181 g_b183
    have Z184 : n0 ≤ h184.size := Nat.le_trans Z183 (Keep.of_wr W184).1
    have V184 : Arv Z h184 b183 k183 .byte (1 : Int32) [(.int x0)] (.int (0 : Int32)) := V184
    have pre186 : ∀ t, Steps p.tables e below (T184.setTop (mkF m 66 #[.val (.int p1), .val (.int p2), .val (.int p3), .val (.int p4), .val (.int (1 : Int32)), .val (.int x0), .val (.int x1), .val (.int x2), .val (.ref b183), .unset, .unset, .unset, .unset, .unset, .unset] [(.ref b183)])) t → Steps p.tables e below (s₁.setTop (entryFrame m #[(.int p1), (.int p2), (.int p3), (.int p4)] maxLocals)) t := by
      intro t kt
      refine pre182 t ?_
      show Steps p.tables e below (T181.setTop (mkF m 21 #[.val (.int p1), .val (.int p2), .val (.int p3), .val (.int p4), .val (.int (1 : Int32)), .val (.int x0), .val (.int x1), .unset, .unset, .unset, .unset, .unset, .unset, .unset, .unset] [(.int x2)])) _
      refine XS.istore X181.here hx rfl (hb hby at_21) rfl (l' := #[.val (.int p1), .val (.int p2), .val (.int p3), .val (.int p4), .val (.int (1 : Int32)), .val (.int x0), .val (.int x1), .val (.int x2), .unset, .unset, .unset, .unset, .unset, .unset, .unset]) rfl ?_
      show Steps p.tables e below (T181.setTop (mkF m 23 #[.val (.int p1), .val (.int p2), .val (.int p3), .val (.int p4), .val (.int (1 : Int32)), .val (.int x0), .val (.int x1), .val (.int x2), .unset, .unset, .unset, .unset, .unset, .unset, .unset] [])) _
      refine XS.iload X181.here hx rfl (hb hby at_23) rfl ?_
      show Steps p.tables e below (T181.setTop (mkF m 25 #[.val (.int p1), .val (.int p2), .val (.int p3), .val (.int p4), .val (.int (1 : Int32)), .val (.int x0), .val (.int x1), .val (.int x2), .unset, .unset, .unset, .unset, .unset, .unset, .unset] [(.int (1 : Int32))])) _
      refine st183 _ ?_
      show Steps p.tables e below (T183.setTop (mkF m 27 #[.val (.int p1), .val (.int p2), .val (.int p3), .val (.int p4), .val (.int (1 : Int32)), .val (.int x0), .val (.int x1), .val (.int x2), .unset, .unset, .unset, .unset, .unset, .unset, .unset] [(.ref b183)])) _
      refine XS.astore X183.here hx rfl (hb hby at_27) rfl rfl (l' := #[.val (.int p1), .val (.int p2), .val (.int p3), .val (.int p4), .val (.int (1 : Int32)), .val (.int x0), .val (.int x1), .val (.int x2), .val (.ref b183), .unset, .unset, .unset, .unset, .unset, .unset]) rfl ?_
      show Steps p.tables e below (T183.setTop (mkF m 29 #[.val (.int p1), .val (.int p2), .val (.int p3), .val (.int p4), .val (.int (1 : Int32)), .val (.int x0), .val (.int x1), .val (.int x2), .val (.ref b183), .unset, .unset, .unset, .unset, .unset, .unset] [])) _
      refine XS.iload X183.here hx rfl (hb hby at_29) rfl ?_
      show Steps p.tables e below (T183.setTop (mkF m 31 #[.val (.int p1), .val (.int p2), .val (.int p3), .val (.int p4), .val (.int (1 : Int32)), .val (.int x0), .val (.int x1), .val (.int x2), .val (.ref b183), .unset, .unset, .unset, .unset, .unset, .unset] [(.int (1 : Int32))])) _
      refine XS.ifNo X183.here hx rfl (hb hby at_31) rfl ((if0 _ _).trans (tlt (by decide)).2.2.2) ?_
      show Steps p.tables e below (T183.setTop (mkF m 34 #[.val (.int p1), .val (.int p2), .val (.int p3), .val (.int p4), .val (.int (1 : Int32)), .val (.int x0), .val (.int x1), .val (.int x2), .val (.ref b183), .unset, .unset, .unset, .unset, .unset, .unset] [])) _
      refine XS.aload X183.here hx rfl (hb hby at_34) rfl rfl ?_
      show Steps p.tables e below (T183.setTop (mkF m 36 #[.val (.int p1), .val (.int p2), .val (.int p3), .val (.int p4), .val (.int (1 : Int32)), .val (.int x0), .val (.int x1), .val (.int x2), .val (.ref b183), .unset, .unset, .unset, .unset, .unset, .unset] [(.ref b183)])) _
      refine XS.iconst X183.here hx rfl (hb hby at_36) ?_
      show Steps p.tables e below (T183.setTop (mkF m 37 #[.val (.int p1), .val (.int p2), .val (.int p3), .val (.int p4), .val (.int (1 : Int32)), .val (.int x0), .val (.int x1), .val (.int x2), .val (.ref b183), .unset, .unset, .unset, .unset, .unset, .unset] [(.int (0 : Int32)), (.ref b183)])) _
      refine XS.iload X183.here hx rfl (hb hby at_37) rfl ?_
      show Steps p.tables e below (T183.setTop (mkF m 39 #[.val (.int p1), .val (.int p2), .val (.int p3), .val (.int p4), .val (.int (1 : Int32)), .val (.int x0), .val (.int x1), .val (.int x2), .val (.ref b183), .unset, .unset, .unset, .unset, .unset, .unset] [(.int x0), (.int (0 : Int32)), (.ref b183)])) _
      refine st184 _ ?_
      show Steps p.tables e below (T184.setTop (mkF m 40 #[.val (.int p1), .val (.int p2), .val (.int p3), .val (.int p4), .val (.int (1 : Int32)), .val (.int x0), .val (.int x1), .val (.int x2), .val (.ref b183), .unset, .unset, .unset, .unset, .unset, .unset] [])) _
      refine XS.iload X184.here hx rfl (hb hby at_40) rfl ?_
      show Steps p.tables e below (T184.setTop (mkF m 42 #[.val (.int p1), .val (.int p2), .val (.int p3), .val (.int p4), .val (.int (1 : Int32)), .val (.int x0), .val (.int x1), .val (.int x2), .val (.ref b183), .unset, .unset, .unset, .unset, .unset, .unset] [(.int (1 : Int32))])) _
      refine XS.iconst X184.here hx rfl (hb hby at_42) ?_
      show Steps p.tables e below (T184.setTop (mkF m 43 #[.val (.int p1), .val (.int p2), .val (.int p3), .val (.int p4), .val (.int (1 : Int32)), .val (.int x0), .val (.int x1), .val (.int x2), .val (.ref b183), .unset, .unset, .unset, .unset, .unset, .unset] [(.int (1 : Int32)), (.int (1 : Int32))])) _
      refine XS.icmpYes X184.here hx rfl (pc0 := 43) (pc' := 52) rfl (hb hby at_43) rfl (flt (by decide)).2.2.2 (by decide) (by decide) ?_
      show Steps p.tables e below (T184.setTop (mkF m 52 #[.val (.int p1), .val (.int p2), .val (.int p3), .val (.int p4), .val (.int (1 : Int32)), .val (.int x0), .val (.int x1), .val (.int x2), .val (.ref b183), .unset, .unset, .unset, .unset, .unset, .unset] [])) _
      refine XS.iload X184.here hx rfl (hb hby at_52) rfl ?_
      show Steps p.tables e below (T184.setTop (mkF m 54 #[.val (.int p1), .val (.int p2), .val (.int p3), .val (.int p4), .val (.int (1 : Int32)), .val (.int x0), .val (.int x1), .val (.int x2), .val (.ref b183), .unset, .unset, .unset, .unset, .unset, .unset] [(.int (1 : Int32))])) _
      refine XS.iconst X184.here hx rfl (hb hby at_54) ?_
      show Steps p.tables e below (T184.setTop (mkF m 55 #[.val (.int p1), .val (.int p2), .val (.int p3), .val (.int p4), .val (.int (1 : Int32)), .val (.int x0), .val (.int x1), .val (.int x2), .val (.ref b183), .unset, .unset, .unset, .unset, .unset, .unset] [(.int (2 : Int32)), (.int (1 : Int32))])) _
      refine XS.icmpYes X184.here hx rfl (pc0 := 55) (pc' := 64) rfl (hb hby at_55) rfl (flt (by decide)).2.2.2 (by decide) (by decide) ?_
      show Steps p.tables e below (T184.setTop (mkF m 64 #[.val (.int p1), .val (.int p2), .val (.int p3), .val (.int p4), .val (.int (1 : Int32)), .val (.int x0), .val (.int x1), .val (.int x2), .val (.ref b183), .unset, .unset, .unset, .unset, .unset, .unset] [])) _
      refine XS.aload X184.here hx rfl (hb hby at_64) rfl rfl ?_
      exact kt
    by_cases ex0 : x0 = (-1 : Int32)
    · obtain ⟨_, _, ⟨T187, L187, k187, n187⟩, -, X187, ⟨Lc187, hQ187, l187, y187, z187⟩, st187⟩ := Jvm.LawKit.callS X184 hx (y := (⟨"com/example/tessera/tessera/storage/Prefixes", "end", "([B)[B"⟩ : MethodName)) hown (mvT hZ (hw _ (List.mem_of_getElem? (i := 5) rfl))) (mvT hZ (hw _ (List.mem_of_getElem? (i := 6) rfl))) (mvT hZ (hw _ (List.mem_of_getElem? (i := 7) rfl))) (mvT hZ (hw _ (List.mem_of_getElem? (i := 8) rfl))) (by decide) (backOf (W := 0) (rmE1n l Z a0 hw [] b183 k183 x0 h184 n0 Z184 V184 f185 ex0) hZ (hw _ (List.mem_of_getElem? (i := 8) rfl)) (hw _ (List.mem_of_getElem? (i := 7) rfl)) (by decide) (by decide)) (g := (mkF m 66 #[.val (.int p1), .val (.int p2), .val (.int p3), .val (.int p4), .val (.int (1 : Int32)), .val (.int x0), .val (.int x1), .val (.int x2), .val (.ref b183), .unset, .unset, .unset, .unset, .unset, .unset] [(.ref b183)])) rfl (by rw [hml]; rfl) (argsL := [(.ref b183)]) (rest := []) (lenOf pd_3 rfl) rfl (by show 2 * 0 + _ ≤ _; exact Nat.le_of_eq rfl) (hb hby at_66) (fun _ _ => ⟨rfl, e184, (by decide : 1 + 0 ≤ _), (by decide : 1 + 0 ≤ _)⟩)
      dsimp only [Pt.U, Pt.locs, Pt.cells, Pt.slots] at X187 l187 y187 z187 st187 hQ187
      subst l187 y187 z187
      obtain ⟨rfl, Nq187, eq187⟩ := hQ187
      have Nf187 := Fr.app Nf184 Nq187
      have pre188 : ∀ t, Steps p.tables e below (T187.setTop (mkF m 197 #[.val (.int p1), .val (.int p2), .val (.int p3), .val (.int p4), .val (.int (1 : Int32)), .val (.int x0), .val (.int x1), .val (.int x2), .val (.ref b183), .val .null, .val (.int (1 : Int32)), .val (.int (-1 : Int32)), .unset, .unset, .unset] [(.int (1 : Int32))])) t → Steps p.tables e below (s₁.setTop (entryFrame m #[(.int p1), (.int p2), (.int p3), (.int p4)] maxLocals)) t := by
        intro t kt
        refine pre186 t ?_
        show Steps p.tables e below (T184.setTop (mkF m 66 #[.val (.int p1), .val (.int p2), .val (.int p3), .val (.int p4), .val (.int (1 : Int32)), .val (.int x0), .val (.int x1), .val (.int x2), .val (.ref b183), .unset, .unset, .unset, .unset, .unset, .unset] [(.ref b183)])) _
        refine st187 _ ?_
        show Steps p.tables e below (T187.setTop (mkF m 69 #[.val (.int p1), .val (.int p2), .val (.int p3), .val (.int p4), .val (.int (1 : Int32)), .val (.int x0), .val (.int x1), .val (.int x2), .val (.ref b183), .unset, .unset, .unset, .unset, .unset, .unset] [.null])) _
        refine XS.astore X187.here hx rfl (hb hby at_69) rfl rfl (l' := #[.val (.int p1), .val (.int p2), .val (.int p3), .val (.int p4), .val (.int (1 : Int32)), .val (.int x0), .val (.int x1), .val (.int x2), .val (.ref b183), .val .null, .unset, .unset, .unset, .unset, .unset]) rfl ?_
        show Steps p.tables e below (T187.setTop (mkF m 71 #[.val (.int p1), .val (.int p2), .val (.int p3), .val (.int p4), .val (.int (1 : Int32)), .val (.int x0), .val (.int x1), .val (.int x2), .val (.ref b183), .val .null, .unset, .unset, .unset, .unset, .unset] [])) _
        refine XS.iload X187.here hx rfl (hb hby at_71) rfl ?_
        show Steps p.tables e below (T187.setTop (mkF m 73 #[.val (.int p1), .val (.int p2), .val (.int p3), .val (.int p4), .val (.int (1 : Int32)), .val (.int x0), .val (.int x1), .val (.int x2), .val (.ref b183), .val .null, .unset, .unset, .unset, .unset, .unset] [(.int (1 : Int32))])) _
        refine XS.ifNo X187.here hx rfl (hb hby at_73) rfl ((if0 _ _).trans (tlt (by decide)).2.2.2) ?_
        show Steps p.tables e below (T187.setTop (mkF m 76 #[.val (.int p1), .val (.int p2), .val (.int p3), .val (.int p4), .val (.int (1 : Int32)), .val (.int x0), .val (.int x1), .val (.int x2), .val (.ref b183), .val .null, .unset, .unset, .unset, .unset, .unset] [])) _
        refine XS.aload X187.here hx rfl (hb hby at_76) rfl rfl ?_
        show Steps p.tables e below (T187.setTop (mkF m 78 #[.val (.int p1), .val (.int p2), .val (.int p3), .val (.int p4), .val (.int (1 : Int32)), .val (.int x0), .val (.int x1), .val (.int x2), .val (.ref b183), .val .null, .unset, .unset, .unset, .unset, .unset] [(.ref b183)])) _
        refine XS.iconst X187.here hx rfl (hb hby at_78) ?_
        show Steps p.tables e below (T187.setTop (mkF m 79 #[.val (.int p1), .val (.int p2), .val (.int p3), .val (.int p4), .val (.int (1 : Int32)), .val (.int x0), .val (.int x1), .val (.int x2), .val (.ref b183), .val .null, .unset, .unset, .unset, .unset, .unset] [(.int (0 : Int32)), (.ref b183)])) _
        refine own_bal X187 hx hZ eq187 V184 (j := (0 : Int32)) ⟨by decide, by decide⟩ (v := (.int x0)) rfl (g := (mkF m 79 #[.val (.int p1), .val (.int p2), .val (.int p3), .val (.int p4), .val (.int (1 : Int32)), .val (.int x0), .val (.int x1), .val (.int x2), .val (.ref b183), .val .null, .unset, .unset, .unset, .unset, .unset] [(.int (0 : Int32)), (.ref b183)])) rfl rfl (hb hby at_79) _ ?_
        show Steps p.tables e below (T187.setTop (mkF m 80 #[.val (.int p1), .val (.int p2), .val (.int p3), .val (.int p4), .val (.int (1 : Int32)), .val (.int x0), .val (.int x1), .val (.int x2), .val (.ref b183), .val .null, .unset, .unset, .unset, .unset, .unset] [(.int x0)])) _
        refine XS.iload X187.here hx rfl (hb hby at_80) rfl ?_
        show Steps p.tables e below (T187.setTop (mkF m 82 #[.val (.int p1), .val (.int p2), .val (.int p3), .val (.int p4), .val (.int (1 : Int32)), .val (.int x0), .val (.int x1), .val (.int x2), .val (.ref b183), .val .null, .unset, .unset, .unset, .unset, .unset] [(.int x0), (.int x0)])) _
        refine XS.icmpNo X187.here hx rfl (hb hby at_82) rfl (teq rfl).2 ?_
        show Steps p.tables e below (T187.setTop (mkF m 85 #[.val (.int p1), .val (.int p2), .val (.int p3), .val (.int p4), .val (.int (1 : Int32)), .val (.int x0), .val (.int x1), .val (.int x2), .val (.ref b183), .val .null, .unset, .unset, .unset, .unset, .unset] [])) _
        refine XS.iload X187.here hx rfl (hb hby at_85) rfl ?_
        show Steps p.tables e below (T187.setTop (mkF m 87 #[.val (.int p1), .val (.int p2), .val (.int p3), .val (.int p4), .val (.int (1 : Int32)), .val (.int x0), .val (.int x1), .val (.int x2), .val (.ref b183), .val .null, .unset, .unset, .unset, .unset, .unset] [(.int (1 : Int32))])) _
        refine XS.iconst X187.here hx rfl (hb hby at_87) ?_
        show Steps p.tables e below (T187.setTop (mkF m 88 #[.val (.int p1), .val (.int p2), .val (.int p3), .val (.int p4), .val (.int (1 : Int32)), .val (.int x0), .val (.int x1), .val (.int x2), .val (.ref b183), .val .null, .unset, .unset, .unset, .unset, .unset] [(.int (1 : Int32)), (.int (1 : Int32))])) _
        refine XS.icmpYes X187.here hx rfl (pc0 := 88) (pc' := 100) rfl (hb hby at_88) rfl (flt (by decide)).2.2.2 (by decide) (by decide) ?_
        show Steps p.tables e below (T187.setTop (mkF m 100 #[.val (.int p1), .val (.int p2), .val (.int p3), .val (.int p4), .val (.int (1 : Int32)), .val (.int x0), .val (.int x1), .val (.int x2), .val (.ref b183), .val .null, .unset, .unset, .unset, .unset, .unset] [])) _
        refine XS.iload X187.here hx rfl (hb hby at_100) rfl ?_
        show Steps p.tables e below (T187.setTop (mkF m 102 #[.val (.int p1), .val (.int p2), .val (.int p3), .val (.int p4), .val (.int (1 : Int32)), .val (.int x0), .val (.int x1), .val (.int x2), .val (.ref b183), .val .null, .unset, .unset, .unset, .unset, .unset] [(.int (1 : Int32))])) _
        refine XS.iconst X187.here hx rfl (hb hby at_102) ?_
        show Steps p.tables e below (T187.setTop (mkF m 103 #[.val (.int p1), .val (.int p2), .val (.int p3), .val (.int p4), .val (.int (1 : Int32)), .val (.int x0), .val (.int x1), .val (.int x2), .val (.ref b183), .val .null, .unset, .unset, .unset, .unset, .unset] [(.int (2 : Int32)), (.int (1 : Int32))])) _
        refine XS.icmpYes X187.here hx rfl (pc0 := 103) (pc' := 115) rfl (hb hby at_103) rfl (flt (by decide)).2.2.2 (by decide) (by decide) ?_
        show Steps p.tables e below (T187.setTop (mkF m 115 #[.val (.int p1), .val (.int p2), .val (.int p3), .val (.int p4), .val (.int (1 : Int32)), .val (.int x0), .val (.int x1), .val (.int x2), .val (.ref b183), .val .null, .unset, .unset, .unset, .unset, .unset] [])) _
        refine XS.iconst X187.here hx rfl (hb hby at_115) ?_
        show Steps p.tables e below (T187.setTop (mkF m 116 #[.val (.int p1), .val (.int p2), .val (.int p3), .val (.int p4), .val (.int (1 : Int32)), .val (.int x0), .val (.int x1), .val (.int x2), .val (.ref b183), .val .null, .unset, .unset, .unset, .unset, .unset] [(.int (1 : Int32))])) _
        refine XS.goto X187.here hx rfl (pc0 := 116) (pc' := 120) rfl (hb hby at_116) (by decide) (by decide) ?_
        show Steps p.tables e below (T187.setTop (mkF m 120 #[.val (.int p1), .val (.int p2), .val (.int p3), .val (.int p4), .val (.int (1 : Int32)), .val (.int x0), .val (.int x1), .val (.int x2), .val (.ref b183), .val .null, .unset, .unset, .unset, .unset, .unset] [(.int (1 : Int32))])) _
        refine XS.istore X187.here hx rfl (hb hby at_120) rfl (l' := #[.val (.int p1), .val (.int p2), .val (.int p3), .val (.int p4), .val (.int (1 : Int32)), .val (.int x0), .val (.int x1), .val (.int x2), .val (.ref b183), .val .null, .val (.int (1 : Int32)), .unset, .unset, .unset, .unset]) rfl ?_
        show Steps p.tables e below (T187.setTop (mkF m 122 #[.val (.int p1), .val (.int p2), .val (.int p3), .val (.int p4), .val (.int (1 : Int32)), .val (.int x0), .val (.int x1), .val (.int x2), .val (.ref b183), .val .null, .val (.int (1 : Int32)), .unset, .unset, .unset, .unset] [])) _
        refine XS.iload X187.here hx rfl (hb hby at_122) rfl ?_
        show Steps p.tables e below (T187.setTop (mkF m 124 #[.val (.int p1), .val (.int p2), .val (.int p3), .val (.int p4), .val (.int (1 : Int32)), .val (.int x0), .val (.int x1), .val (.int x2), .val (.ref b183), .val .null, .val (.int (1 : Int32)), .unset, .unset, .unset, .unset] [(.int (1 : Int32))])) _
        refine XS.ifYes X187.here hx rfl (pc0 := 124) (pc' := 129) rfl (hb hby at_124) rfl ((if0 _ _).trans (feq (by decide)).2) (by decide) (by decide) ?_
        show Steps p.tables e below (T187.setTop (mkF m 129 #[.val (.int p1), .val (.int p2), .val (.int p3), .val (.int p4), .val (.int (1 : Int32)), .val (.int x0), .val (.int x1), .val (.int x2), .val (.ref b183), .val .null, .val (.int (1 : Int32)), .unset, .unset, .unset, .unset] [])) _
        refine XS.iconst X187.here hx rfl (hb hby at_129) ?_
        show Steps p.tables e below (T187.setTop (mkF m 130 #[.val (.int p1), .val (.int p2), .val (.int p3), .val (.int p4), .val (.int (1 : Int32)), .val (.int x0), .val (.int x1), .val (.int x2), .val (.ref b183), .val .null, .val (.int (1 : Int32)), .unset, .unset, .unset, .unset] [(.int (-1 : Int32))])) _
        refine XS.istore X187.here hx rfl (hb hby at_130) rfl (l' := #[.val (.int p1), .val (.int p2), .val (.int p3), .val (.int p4), .val (.int (1 : Int32)), .val (.int x0), .val (.int x1), .val (.int x2), .val (.ref b183), .val .null, .val (.int (1 : Int32)), .val (.int (-1 : Int32)), .unset, .unset, .unset]) rfl ?_
        show Steps p.tables e below (T187.setTop (mkF m 132 #[.val (.int p1), .val (.int p2), .val (.int p3), .val (.int p4), .val (.int (1 : Int32)), .val (.int x0), .val (.int x1), .val (.int x2), .val (.ref b183), .val .null, .val (.int (1 : Int32)), .val (.int (-1 : Int32)), .unset, .unset, .unset] [])) _
        refine XS.iload X187.here hx rfl (hb hby at_132) rfl ?_
        show Steps p.tables e below (T187.setTop (mkF m 134 #[.val (.int p1), .val (.int p2), .val (.int p3), .val (.int p4), .val (.int (1 : Int32)), .val (.int x0), .val (.int x1), .val (.int x2), .val (.ref b183), .val .null, .val (.int (1 : Int32)), .val (.int (-1 : Int32)), .unset, .unset, .unset] [(.int (1 : Int32))])) _
        refine XS.iconst X187.here hx rfl (hb hby at_134) ?_
        show Steps p.tables e below (T187.setTop (mkF m 135 #[.val (.int p1), .val (.int p2), .val (.int p3), .val (.int p4), .val (.int (1 : Int32)), .val (.int x0), .val (.int x1), .val (.int x2), .val (.ref b183), .val .null, .val (.int (1 : Int32)), .val (.int (-1 : Int32)), .unset, .unset, .unset] [(.int (2 : Int32)), (.int (1 : Int32))])) _
        refine XS.icmpYes X187.here hx rfl (pc0 := 135) (pc' := 150) rfl (hb hby at_135) rfl (flt (by decide)).2.2.2 (by decide) (by decide) ?_
        show Steps p.tables e below (T187.setTop (mkF m 150 #[.val (.int p1), .val (.int p2), .val (.int p3), .val (.int p4), .val (.int (1 : Int32)), .val (.int x0), .val (.int x1), .val (.int x2), .val (.ref b183), .val .null, .val (.int (1 : Int32)), .val (.int (-1 : Int32)), .unset, .unset, .unset] [])) _
        refine XS.iload X187.here hx rfl (hb hby at_150) rfl ?_
        show Steps p.tables e below (T187.setTop (mkF m 152 #[.val (.int p1), .val (.int p2), .val (.int p3), .val (.int p4), .val (.int (1 : Int32)), .val (.int x0), .val (.int x1), .val (.int x2), .val (.ref b183), .val .null, .val (.int (1 : Int32)), .val (.int (-1 : Int32)), .unset, .unset, .unset] [(.int (1 : Int32))])) _
        refine XS.iconst X187.here hx rfl (hb hby at_152) ?_
        show Steps p.tables e below (T187.setTop (mkF m 153 #[.val (.int p1), .val (.int p2), .val (.int p3), .val (.int p4), .val (.int (1 : Int32)), .val (.int x0), .val (.int x1), .val (.int x2), .val (.ref b183), .val .null, .val (.int (1 : Int32)), .val (.int (-1 : Int32)), .unset, .unset, .unset] [(.int (1 : Int32)), (.int (1 : Int32))])) _
        refine XS.icmpYes X187.here hx rfl (pc0 := 153) (pc' := 168) rfl (hb hby at_153) rfl (flt (by decide)).2.2.2 (by decide) (by decide) ?_
        show Steps p.tables e below (T187.setTop (mkF m 168 #[.val (.int p1), .val (.int p2), .val (.int p3), .val (.int p4), .val (.int (1 : Int32)), .val (.int x0), .val (.int x1), .val (.int x2), .val (.ref b183), .val .null, .val (.int (1 : Int32)), .val (.int (-1 : Int32)), .unset, .unset, .unset] [])) _
        refine XS.iload X187.here hx rfl (hb hby at_168) rfl ?_
        show Steps p.tables e below (T187.setTop (mkF m 170 #[.val (.int p1), .val (.int p2), .val (.int p3), .val (.int p4), .val (.int (1 : Int32)), .val (.int x0), .val (.int x1), .val (.int x2), .val (.ref b183), .val .null, .val (.int (1 : Int32)), .val (.int (-1 : Int32)), .unset, .unset, .unset] [(.int (1 : Int32))])) _
        refine XS.ifNo X187.here hx rfl (hb hby at_170) rfl ((if0 _ _).trans (tlt (by decide)).2.2.2) ?_
        show Steps p.tables e below (T187.setTop (mkF m 173 #[.val (.int p1), .val (.int p2), .val (.int p3), .val (.int p4), .val (.int (1 : Int32)), .val (.int x0), .val (.int x1), .val (.int x2), .val (.ref b183), .val .null, .val (.int (1 : Int32)), .val (.int (-1 : Int32)), .unset, .unset, .unset] [])) _
        refine XS.iload X187.here hx rfl (hb hby at_173) rfl ?_
        show Steps p.tables e below (T187.setTop (mkF m 175 #[.val (.int p1), .val (.int p2), .val (.int p3), .val (.int p4), .val (.int (1 : Int32)), .val (.int x0), .val (.int x1), .val (.int x2), .val (.ref b183), .val .null, .val (.int (1 : Int32)), .val (.int (-1 : Int32)), .unset, .unset, .unset] [(.int x0)])) _
        refine XS.iconst X187.here hx rfl (hb hby at_175) ?_
        show Steps p.tables e below (T187.setTop (mkF m 176 #[.val (.int p1), .val (.int p2), .val (.int p3), .val (.int p4), .val (.int (1 : Int32)), .val (.int x0), .val (.int x1), .val (.int x2), .val (.ref b183), .val .null, .val (.int (1 : Int32)), .val (.int (-1 : Int32)), .unset, .unset, .unset] [(.int (-1 : Int32)), (.int x0)])) _
        refine XS.icmpYes X187.here hx rfl (pc0 := 176) (pc' := 182) rfl (hb hby at_176) rfl (teq ex0).1 (by decide) (by decide) ?_
        show Steps p.tables e below (T187.setTop (mkF m 182 #[.val (.int p1), .val (.int p2), .val (.int p3), .val (.int p4), .val (.int (1 : Int32)), .val (.int x0), .val (.int x1), .val (.int x2), .val (.ref b183), .val .null, .val (.int (1 : Int32)), .val (.int (-1 : Int32)), .unset, .unset, .unset] [])) _
        refine XS.iload X187.here hx rfl (hb hby at_182) rfl ?_
        show Steps p.tables e below (T187.setTop (mkF m 184 #[.val (.int p1), .val (.int p2), .val (.int p3), .val (.int p4), .val (.int (1 : Int32)), .val (.int x0), .val (.int x1), .val (.int x2), .val (.ref b183), .val .null, .val (.int (1 : Int32)), .val (.int (-1 : Int32)), .unset, .unset, .unset] [(.int (-1 : Int32))])) _
        refine XS.ifNo X187.here hx rfl (hb hby at_184) rfl ((if0 _ _).trans (tlt (by decide)).2.1) ?_
        show Steps p.tables e below (T187.setTop (mkF m 187 #[.val (.int p1), .val (.int p2), .val (.int p3), .val (.int p4), .val (.int (1 : Int32)), .val (.int x0), .val (.int x1), .val (.int x2), .val (.ref b183), .val .null, .val (.int (1 : Int32)), .val (.int (-1 : Int32)), .unset, .unset, .unset] [])) _
        refine XS.aload X187.here hx rfl (hb hby at_187) rfl rfl ?_
        show Steps p.tables e below (T187.setTop (mkF m 189 #[.val (.int p1), .val (.int p2), .val (.int p3), .val (.int p4), .val (.int (1 : Int32)), .val (.int x0), .val (.int x1), .val (.int x2), .val (.ref b183), .val .null, .val (.int (1 : Int32)), .val (.int (-1 : Int32)), .unset, .unset, .unset] [.null])) _
        refine XS.ifnonnullNo X187.here hx rfl (hb hby at_189) rfl ?_
        show Steps p.tables e below (T187.setTop (mkF m 192 #[.val (.int p1), .val (.int p2), .val (.int p3), .val (.int p4), .val (.int (1 : Int32)), .val (.int x0), .val (.int x1), .val (.int x2), .val (.ref b183), .val .null, .val (.int (1 : Int32)), .val (.int (-1 : Int32)), .unset, .unset, .unset] [])) _
        refine XS.iconst X187.here hx rfl (hb hby at_192) ?_
        show Steps p.tables e below (T187.setTop (mkF m 193 #[.val (.int p1), .val (.int p2), .val (.int p3), .val (.int p4), .val (.int (1 : Int32)), .val (.int x0), .val (.int x1), .val (.int x2), .val (.ref b183), .val .null, .val (.int (1 : Int32)), .val (.int (-1 : Int32)), .unset, .unset, .unset] [(.int (1 : Int32))])) _
        refine XS.goto X187.here hx rfl (pc0 := 193) (pc' := 197) rfl (hb hby at_193) (by decide) (by decide) ?_
        exact kt
      obtain ⟨fsx, hr, hrun, hended, hW, hsame⟩ := X187.leave (v := some (.int (nar .boolean (1 : Int32)))) (fun h => by rw [Bd.returns] at h; cases h)
      refine ⟨_, _, pre188 _ ?_, hrun, hended, _, _, rfl, ?_, ⟨_, rfl⟩, hW, hsame.mono (by decide) (by decide)⟩
      · exact retN X187 hx (t := .boolean) Bd.returns (by simp) (hb hby at_197) hr
      · show Q0 Z p1 p2 p3 p4 h0 n0 _ T187.heap _
        rw [eq187]
        exact ⟨rfl, Nf187⟩
    · obtain ⟨_, _, ⟨T189, L189, k189, n189⟩, -, X189, ⟨Lc189, hQ189, l189, y189, z189⟩, st189⟩ := Jvm.LawKit.callS X184 hx (y := (⟨"com/example/tessera/tessera/storage/Prefixes", "end", "([B)[B"⟩ : MethodName)) hown (mvT hZ (hw _ (List.mem_of_getElem? (i := 5) rfl))) (mvT hZ (hw _ (List.mem_of_getElem? (i := 6) rfl))) (mvT hZ (hw _ (List.mem_of_getElem? (i := 7) rfl))) (mvT hZ (hw _ (List.mem_of_getElem? (i := 8) rfl))) (by decide) (backOf (W := 0) (rmE10 l Z a0 hw [] b183 k183 x0 h184 n0 Z184 V184 f185  ex0) hZ (hw _ (List.mem_of_getElem? (i := 8) rfl)) (hw _ (List.mem_of_getElem? (i := 7) rfl)) (by decide) (by decide)) (g := (mkF m 66 #[.val (.int p1), .val (.int p2), .val (.int p3), .val (.int p4), .val (.int (1 : Int32)), .val (.int x0), .val (.int x1), .val (.int x2), .val (.ref b183), .unset, .unset, .unset, .unset, .unset, .unset] [(.ref b183)])) rfl (by rw [hml]; rfl) (argsL := [(.ref b183)]) (rest := []) (lenOf pd_3 rfl) rfl (by show 2 * 0 + _ ≤ _; exact Nat.le_of_eq rfl) (hb hby at_66) (fun _ _ => ⟨rfl, e184, (by decide : 1 + 1 ≤ _), (by decide : 1 + 3 ≤ _)⟩)
      dsimp only [Pt.U, Pt.locs, Pt.cells, Pt.slots] at X189 l189 y189 z189 st189 hQ189
      subst l189 y189 z189
      obtain ⟨r, kr, rfl, Nq189, Kq189, szr, Vr⟩ := hQ189
      have f190 := (f185.keep Kq189)
      have f191 := (V184.keep Kq189 nin0)
      have Z189 : n0 ≤ T189.heap.size := Nat.le_trans Z184 Kq189.1
      have K189 : Keep h0 T189.heap [] := K184.trans Kq189 all0
      have Nf189 := Fr.app Nf184 Nq189
      have pre192 : ∀ t, Steps p.tables e below (T189.setTop (mkF m 303 #[.val (.int p1), .val (.int p2), .val (.int p3), .val (.int p4), .val (.int (1 : Int32)), .val (.int x0), .val (.int x1), .val (.int x2), .val (.ref b183), .val (.ref r), .val (.int (1 : Int32)), .val (.int (0 : Int32)), .val (.int ((x0 + (1 : Int32)).toInt8.toInt32)), .val (.int x1), .val (.int ((x2 + (1 : Int32)).toInt8.toInt32))] [(.int (1 : Int32))])) t → Steps p.tables e below (s₁.setTop (entryFrame m #[(.int p1), (.int p2), (.int p3), (.int p4)] maxLocals)) t := by
        intro t kt
        refine pre186 t ?_
        show Steps p.tables e below (T184.setTop (mkF m 66 #[.val (.int p1), .val (.int p2), .val (.int p3), .val (.int p4), .val (.int (1 : Int32)), .val (.int x0), .val (.int x1), .val (.int x2), .val (.ref b183), .unset, .unset, .unset, .unset, .unset, .unset] [(.ref b183)])) _
        refine st189 _ ?_
        show Steps p.tables e below (T189.setTop (mkF m 69 #[.val (.int p1), .val (.int p2), .val (.int p3), .val (.int p4), .val (.int (1 : Int32)), .val (.int x0), .val (.int x1), .val (.int x2), .val (.ref b183), .unset, .unset, .unset, .unset, .unset, .unset] [(.ref r)])) _
        refine XS.astore X189.here hx rfl (hb hby at_69) rfl rfl (l' := #[.val (.int p1), .val (.int p2), .val (.int p3), .val (.int p4), .val (.int (1 : Int32)), .val (.int x0), .val (.int x1), .val (.int x2), .val (.ref b183), .val (.ref r), .unset, .unset, .unset, .unset, .unset]) rfl ?_
        show Steps p.tables e below (T189.setTop (mkF m 71 #[.val (.int p1), .val (.int p2), .val (.int p3), .val (.int p4), .val (.int (1 : Int32)), .val (.int x0), .val (.int x1), .val (.int x2), .val (.ref b183), .val (.ref r), .unset, .unset, .unset, .unset, .unset] [])) _
        refine XS.iload X189.here hx rfl (hb hby at_71) rfl ?_
        show Steps p.tables e below (T189.setTop (mkF m 73 #[.val (.int p1), .val (.int p2), .val (.int p3), .val (.int p4), .val (.int (1 : Int32)), .val (.int x0), .val (.int x1), .val (.int x2), .val (.ref b183), .val (.ref r), .unset, .unset, .unset, .unset, .unset] [(.int (1 : Int32))])) _
        refine XS.ifNo X189.here hx rfl (hb hby at_73) rfl ((if0 _ _).trans (tlt (by decide)).2.2.2) ?_
        show Steps p.tables e below (T189.setTop (mkF m 76 #[.val (.int p1), .val (.int p2), .val (.int p3), .val (.int p4), .val (.int (1 : Int32)), .val (.int x0), .val (.int x1), .val (.int x2), .val (.ref b183), .val (.ref r), .unset, .unset, .unset, .unset, .unset] [])) _
        refine XS.aload X189.here hx rfl (hb hby at_76) rfl rfl ?_
        show Steps p.tables e below (T189.setTop (mkF m 78 #[.val (.int p1), .val (.int p2), .val (.int p3), .val (.int p4), .val (.int (1 : Int32)), .val (.int x0), .val (.int x1), .val (.int x2), .val (.ref b183), .val (.ref r), .unset, .unset, .unset, .unset, .unset] [(.ref b183)])) _
        refine XS.iconst X189.here hx rfl (hb hby at_78) ?_
        show Steps p.tables e below (T189.setTop (mkF m 79 #[.val (.int p1), .val (.int p2), .val (.int p3), .val (.int p4), .val (.int (1 : Int32)), .val (.int x0), .val (.int x1), .val (.int x2), .val (.ref b183), .val (.ref r), .unset, .unset, .unset, .unset, .unset] [(.int (0 : Int32)), (.ref b183)])) _
        refine own_bal X189 hx hZ rfl f191 (j := (0 : Int32)) ⟨by decide, by decide⟩ (v := (.int x0)) rfl (g := (mkF m 79 #[.val (.int p1), .val (.int p2), .val (.int p3), .val (.int p4), .val (.int (1 : Int32)), .val (.int x0), .val (.int x1), .val (.int x2), .val (.ref b183), .val (.ref r), .unset, .unset, .unset, .unset, .unset] [(.int (0 : Int32)), (.ref b183)])) rfl rfl (hb hby at_79) _ ?_
        show Steps p.tables e below (T189.setTop (mkF m 80 #[.val (.int p1), .val (.int p2), .val (.int p3), .val (.int p4), .val (.int (1 : Int32)), .val (.int x0), .val (.int x1), .val (.int x2), .val (.ref b183), .val (.ref r), .unset, .unset, .unset, .unset, .unset] [(.int x0)])) _
        refine XS.iload X189.here hx rfl (hb hby at_80) rfl ?_
        show Steps p.tables e below (T189.setTop (mkF m 82 #[.val (.int p1), .val (.int p2), .val (.int p3), .val (.int p4), .val (.int (1 : Int32)), .val (.int x0), .val (.int x1), .val (.int x2), .val (.ref b183), .val (.ref r), .unset, .unset, .unset, .unset, .unset] [(.int x0), (.int x0)])) _
        refine XS.icmpNo X189.here hx rfl (hb hby at_82) rfl (teq rfl).2 ?_
        show Steps p.tables e below (T189.setTop (mkF m 85 #[.val (.int p1), .val (.int p2), .val (.int p3), .val (.int p4), .val (.int (1 : Int32)), .val (.int x0), .val (.int x1), .val (.int x2), .val (.ref b183), .val (.ref r), .unset, .unset, .unset, .unset, .unset] [])) _
        refine XS.iload X189.here hx rfl (hb hby at_85) rfl ?_
        show Steps p.tables e below (T189.setTop (mkF m 87 #[.val (.int p1), .val (.int p2), .val (.int p3), .val (.int p4), .val (.int (1 : Int32)), .val (.int x0), .val (.int x1), .val (.int x2), .val (.ref b183), .val (.ref r), .unset, .unset, .unset, .unset, .unset] [(.int (1 : Int32))])) _
        refine XS.iconst X189.here hx rfl (hb hby at_87) ?_
        show Steps p.tables e below (T189.setTop (mkF m 88 #[.val (.int p1), .val (.int p2), .val (.int p3), .val (.int p4), .val (.int (1 : Int32)), .val (.int x0), .val (.int x1), .val (.int x2), .val (.ref b183), .val (.ref r), .unset, .unset, .unset, .unset, .unset] [(.int (1 : Int32)), (.int (1 : Int32))])) _
        refine XS.icmpYes X189.here hx rfl (pc0 := 88) (pc' := 100) rfl (hb hby at_88) rfl (flt (by decide)).2.2.2 (by decide) (by decide) ?_
        show Steps p.tables e below (T189.setTop (mkF m 100 #[.val (.int p1), .val (.int p2), .val (.int p3), .val (.int p4), .val (.int (1 : Int32)), .val (.int x0), .val (.int x1), .val (.int x2), .val (.ref b183), .val (.ref r), .unset, .unset, .unset, .unset, .unset] [])) _
        refine XS.iload X189.here hx rfl (hb hby at_100) rfl ?_
        show Steps p.tables e below (T189.setTop (mkF m 102 #[.val (.int p1), .val (.int p2), .val (.int p3), .val (.int p4), .val (.int (1 : Int32)), .val (.int x0), .val (.int x1), .val (.int x2), .val (.ref b183), .val (.ref r), .unset, .unset, .unset, .unset, .unset] [(.int (1 : Int32))])) _
        refine XS.iconst X189.here hx rfl (hb hby at_102) ?_
        show Steps p.tables e below (T189.setTop (mkF m 103 #[.val (.int p1), .val (.int p2), .val (.int p3), .val (.int p4), .val (.int (1 : Int32)), .val (.int x0), .val (.int x1), .val (.int x2), .val (.ref b183), .val (.ref r), .unset, .unset, .unset, .unset, .unset] [(.int (2 : Int32)), (.int (1 : Int32))])) _
        refine XS.icmpYes X189.here hx rfl (pc0 := 103) (pc' := 115) rfl (hb hby at_103) rfl (flt (by decide)).2.2.2 (by decide) (by decide) ?_
        show Steps p.tables e below (T189.setTop (mkF m 115 #[.val (.int p1), .val (.int p2), .val (.int p3), .val (.int p4), .val (.int (1 : Int32)), .val (.int x0), .val (.int x1), .val (.int x2), .val (.ref b183), .val (.ref r), .unset, .unset, .unset, .unset, .unset] [])) _
        refine XS.iconst X189.here hx rfl (hb hby at_115) ?_
        show Steps p.tables e below (T189.setTop (mkF m 116 #[.val (.int p1), .val (.int p2), .val (.int p3), .val (.int p4), .val (.int (1 : Int32)), .val (.int x0), .val (.int x1), .val (.int x2), .val (.ref b183), .val (.ref r), .unset, .unset, .unset, .unset, .unset] [(.int (1 : Int32))])) _
        refine XS.goto X189.here hx rfl (pc0 := 116) (pc' := 120) rfl (hb hby at_116) (by decide) (by decide) ?_
        show Steps p.tables e below (T189.setTop (mkF m 120 #[.val (.int p1), .val (.int p2), .val (.int p3), .val (.int p4), .val (.int (1 : Int32)), .val (.int x0), .val (.int x1), .val (.int x2), .val (.ref b183), .val (.ref r), .unset, .unset, .unset, .unset, .unset] [(.int (1 : Int32))])) _
        refine XS.istore X189.here hx rfl (hb hby at_120) rfl (l' := #[.val (.int p1), .val (.int p2), .val (.int p3), .val (.int p4), .val (.int (1 : Int32)), .val (.int x0), .val (.int x1), .val (.int x2), .val (.ref b183), .val (.ref r), .val (.int (1 : Int32)), .unset, .unset, .unset, .unset]) rfl ?_
        show Steps p.tables e below (T189.setTop (mkF m 122 #[.val (.int p1), .val (.int p2), .val (.int p3), .val (.int p4), .val (.int (1 : Int32)), .val (.int x0), .val (.int x1), .val (.int x2), .val (.ref b183), .val (.ref r), .val (.int (1 : Int32)), .unset, .unset, .unset, .unset] [])) _
        refine XS.iload X189.here hx rfl (hb hby at_122) rfl ?_
        show Steps p.tables e below (T189.setTop (mkF m 124 #[.val (.int p1), .val (.int p2), .val (.int p3), .val (.int p4), .val (.int (1 : Int32)), .val (.int x0), .val (.int x1), .val (.int x2), .val (.ref b183), .val (.ref r), .val (.int (1 : Int32)), .unset, .unset, .unset, .unset] [(.int (1 : Int32))])) _
        refine XS.ifYes X189.here hx rfl (pc0 := 124) (pc' := 129) rfl (hb hby at_124) rfl ((if0 _ _).trans (feq (by decide)).2) (by decide) (by decide) ?_
        show Steps p.tables e below (T189.setTop (mkF m 129 #[.val (.int p1), .val (.int p2), .val (.int p3), .val (.int p4), .val (.int (1 : Int32)), .val (.int x0), .val (.int x1), .val (.int x2), .val (.ref b183), .val (.ref r), .val (.int (1 : Int32)), .unset, .unset, .unset, .unset] [])) _
        refine XS.iconst X189.here hx rfl (hb hby at_129) ?_
        show Steps p.tables e below (T189.setTop (mkF m 130 #[.val (.int p1), .val (.int p2), .val (.int p3), .val (.int p4), .val (.int (1 : Int32)), .val (.int x0), .val (.int x1), .val (.int x2), .val (.ref b183), .val (.ref r), .val (.int (1 : Int32)), .unset, .unset, .unset, .unset] [(.int (-1 : Int32))])) _
        refine XS.istore X189.here hx rfl (hb hby at_130) rfl (l' := #[.val (.int p1), .val (.int p2), .val (.int p3), .val (.int p4), .val (.int (1 : Int32)), .val (.int x0), .val (.int x1), .val (.int x2), .val (.ref b183), .val (.ref r), .val (.int (1 : Int32)), .val (.int (-1 : Int32)), .unset, .unset, .unset]) rfl ?_
        show Steps p.tables e below (T189.setTop (mkF m 132 #[.val (.int p1), .val (.int p2), .val (.int p3), .val (.int p4), .val (.int (1 : Int32)), .val (.int x0), .val (.int x1), .val (.int x2), .val (.ref b183), .val (.ref r), .val (.int (1 : Int32)), .val (.int (-1 : Int32)), .unset, .unset, .unset] [])) _
        refine XS.iload X189.here hx rfl (hb hby at_132) rfl ?_
        show Steps p.tables e below (T189.setTop (mkF m 134 #[.val (.int p1), .val (.int p2), .val (.int p3), .val (.int p4), .val (.int (1 : Int32)), .val (.int x0), .val (.int x1), .val (.int x2), .val (.ref b183), .val (.ref r), .val (.int (1 : Int32)), .val (.int (-1 : Int32)), .unset, .unset, .unset] [(.int (1 : Int32))])) _
        refine XS.iconst X189.here hx rfl (hb hby at_134) ?_
        show Steps p.tables e below (T189.setTop (mkF m 135 #[.val (.int p1), .val (.int p2), .val (.int p3), .val (.int p4), .val (.int (1 : Int32)), .val (.int x0), .val (.int x1), .val (.int x2), .val (.ref b183), .val (.ref r), .val (.int (1 : Int32)), .val (.int (-1 : Int32)), .unset, .unset, .unset] [(.int (2 : Int32)), (.int (1 : Int32))])) _
        refine XS.icmpYes X189.here hx rfl (pc0 := 135) (pc' := 150) rfl (hb hby at_135) rfl (flt (by decide)).2.2.2 (by decide) (by decide) ?_
        show Steps p.tables e below (T189.setTop (mkF m 150 #[.val (.int p1), .val (.int p2), .val (.int p3), .val (.int p4), .val (.int (1 : Int32)), .val (.int x0), .val (.int x1), .val (.int x2), .val (.ref b183), .val (.ref r), .val (.int (1 : Int32)), .val (.int (-1 : Int32)), .unset, .unset, .unset] [])) _
        refine XS.iload X189.here hx rfl (hb hby at_150) rfl ?_
        show Steps p.tables e below (T189.setTop (mkF m 152 #[.val (.int p1), .val (.int p2), .val (.int p3), .val (.int p4), .val (.int (1 : Int32)), .val (.int x0), .val (.int x1), .val (.int x2), .val (.ref b183), .val (.ref r), .val (.int (1 : Int32)), .val (.int (-1 : Int32)), .unset, .unset, .unset] [(.int (1 : Int32))])) _
        refine XS.iconst X189.here hx rfl (hb hby at_152) ?_
        show Steps p.tables e below (T189.setTop (mkF m 153 #[.val (.int p1), .val (.int p2), .val (.int p3), .val (.int p4), .val (.int (1 : Int32)), .val (.int x0), .val (.int x1), .val (.int x2), .val (.ref b183), .val (.ref r), .val (.int (1 : Int32)), .val (.int (-1 : Int32)), .unset, .unset, .unset] [(.int (1 : Int32)), (.int (1 : Int32))])) _
        refine XS.icmpYes X189.here hx rfl (pc0 := 153) (pc' := 168) rfl (hb hby at_153) rfl (flt (by decide)).2.2.2 (by decide) (by decide) ?_
        show Steps p.tables e below (T189.setTop (mkF m 168 #[.val (.int p1), .val (.int p2), .val (.int p3), .val (.int p4), .val (.int (1 : Int32)), .val (.int x0), .val (.int x1), .val (.int x2), .val (.ref b183), .val (.ref r), .val (.int (1 : Int32)), .val (.int (-1 : Int32)), .unset, .unset, .unset] [])) _
        refine XS.iload X189.here hx rfl (hb hby at_168) rfl ?_
        show Steps p.tables e below (T189.setTop (mkF m 170 #[.val (.int p1), .val (.int p2), .val (.int p3), .val (.int p4), .val (.int (1 : Int32)), .val (.int x0), .val (.int x1), .val (.int x2), .val (.ref b183), .val (.ref r), .val (.int (1 : Int32)), .val (.int (-1 : Int32)), .unset, .unset, .unset] [(.int (1 : Int32))])) _
        refine XS.ifNo X189.here hx rfl (hb hby at_170) rfl ((if0 _ _).trans (tlt (by decide)).2.2.2) ?_
        show Steps p.tables e below (T189.setTop (mkF m 173 #[.val (.int p1), .val (.int p2), .val (.int p3), .val (.int p4), .val (.int (1 : Int32)), .val (.int x0), .val (.int x1), .val (.int x2), .val (.ref b183), .val (.ref r), .val (.int (1 : Int32)), .val (.int (-1 : Int32)), .unset, .unset, .unset] [])) _
        refine XS.iload X189.here hx rfl (hb hby at_173) rfl ?_
        show Steps p.tables e below (T189.setTop (mkF m 175 #[.val (.int p1), .val (.int p2), .val (.int p3), .val (.int p4), .val (.int (1 : Int32)), .val (.int x0), .val (.int x1), .val (.int x2), .val (.ref b183), .val (.ref r), .val (.int (1 : Int32)), .val (.int (-1 : Int32)), .unset, .unset, .unset] [(.int x0)])) _
        refine XS.iconst X189.here hx rfl (hb hby at_175) ?_
        show Steps p.tables e below (T189.setTop (mkF m 176 #[.val (.int p1), .val (.int p2), .val (.int p3), .val (.int p4), .val (.int (1 : Int32)), .val (.int x0), .val (.int x1), .val (.int x2), .val (.ref b183), .val (.ref r), .val (.int (1 : Int32)), .val (.int (-1 : Int32)), .unset, .unset, .unset] [(.int (-1 : Int32)), (.int x0)])) _
        refine XS.icmpNo X189.here hx rfl (hb hby at_176) rfl (feq ex0).1 ?_
        show Steps p.tables e below (T189.setTop (mkF m 179 #[.val (.int p1), .val (.int p2), .val (.int p3), .val (.int p4), .val (.int (1 : Int32)), .val (.int x0), .val (.int x1), .val (.int x2), .val (.ref b183), .val (.ref r), .val (.int (1 : Int32)), .val (.int (-1 : Int32)), .unset, .unset, .unset] [])) _
        refine XS.iconst X189.here hx rfl (hb hby at_179) ?_
        show Steps p.tables e below (T189.setTop (mkF m 180 #[.val (.int p1), .val (.int p2), .val (.int p3), .val (.int p4), .val (.int (1 : Int32)), .val (.int x0), .val (.int x1), .val (.int x2), .val (.ref b183), .val (.ref r), .val (.int (1 : Int32)), .val (.int (-1 : Int32)), .unset, .unset, .unset] [(.int (0 : Int32))])) _
        refine XS.istore X189.here hx rfl (hb hby at_180) rfl (l' := #[.val (.int p1), .val (.int p2), .val (.int p3), .val (.int p4), .val (.int (1 : Int32)), .val (.int x0), .val (.int x1), .val (.int x2), .val (.ref b183), .val (.ref r), .val (.int (1 : Int32)), .val (.int (0 : Int32)), .unset, .unset, .unset]) rfl ?_
        show Steps p.tables e below (T189.setTop (mkF m 182 #[.val (.int p1), .val (.int p2), .val (.int p3), .val (.int p4), .val (.int (1 : Int32)), .val (.int x0), .val (.int x1), .val (.int x2), .val (.ref b183), .val (.ref r), .val (.int (1 : Int32)), .val (.int (0 : Int32)), .unset, .unset, .unset] [])) _
        refine XS.iload X189.here hx rfl (hb hby at_182) rfl ?_
        show Steps p.tables e below (T189.setTop (mkF m 184 #[.val (.int p1), .val (.int p2), .val (.int p3), .val (.int p4), .val (.int (1 : Int32)), .val (.int x0), .val (.int x1), .val (.int x2), .val (.ref b183), .val (.ref r), .val (.int (1 : Int32)), .val (.int (0 : Int32)), .unset, .unset, .unset] [(.int (0 : Int32))])) _
        refine XS.ifYes X189.here hx rfl (pc0 := 184) (pc' := 198) rfl (hb hby at_184) rfl ((if0 _ _).trans (flt (by decide)).2.1) (by decide) (by decide) ?_
        show Steps p.tables e below (T189.setTop (mkF m 198 #[.val (.int p1), .val (.int p2), .val (.int p3), .val (.int p4), .val (.int (1 : Int32)), .val (.int x0), .val (.int x1), .val (.int x2), .val (.ref b183), .val (.ref r), .val (.int (1 : Int32)), .val (.int (0 : Int32)), .unset, .unset, .unset] [])) _
        refine XS.aload X189.here hx rfl (hb hby at_198) rfl rfl ?_
        show Steps p.tables e below (T189.setTop (mkF m 200 #[.val (.int p1), .val (.int p2), .val (.int p3), .val (.int p4), .val (.int (1 : Int32)), .val (.int x0), .val (.int x1), .val (.int x2), .val (.ref b183), .val (.ref r), .val (.int (1 : Int32)), .val (.int (0 : Int32)), .unset, .unset, .unset] [(.ref r)])) _
        refine XS.ifnullNo X189.here hx rfl (hb hby at_200) rfl ?_
        show Steps p.tables e below (T189.setTop (mkF m 203 #[.val (.int p1), .val (.int p2), .val (.int p3), .val (.int p4), .val (.int (1 : Int32)), .val (.int x0), .val (.int x1), .val (.int x2), .val (.ref b183), .val (.ref r), .val (.int (1 : Int32)), .val (.int (0 : Int32)), .unset, .unset, .unset] [])) _
        refine XS.aload X189.here hx rfl (hb hby at_203) rfl rfl ?_
        show Steps p.tables e below (T189.setTop (mkF m 205 #[.val (.int p1), .val (.int p2), .val (.int p3), .val (.int p4), .val (.int (1 : Int32)), .val (.int x0), .val (.int x1), .val (.int x2), .val (.ref b183), .val (.ref r), .val (.int (1 : Int32)), .val (.int (0 : Int32)), .unset, .unset, .unset] [(.ref r)])) _
        refine own_len X189 hx hZ rfl Vr (g := (mkF m 205 #[.val (.int p1), .val (.int p2), .val (.int p3), .val (.int p4), .val (.int (1 : Int32)), .val (.int x0), .val (.int x1), .val (.int x2), .val (.ref b183), .val (.ref r), .val (.int (1 : Int32)), .val (.int (0 : Int32)), .unset, .unset, .unset] [(.ref r)])) rfl rfl (hb hby at_205) _ ?_
        show Steps p.tables e below (T189.setTop (mkF m 206 #[.val (.int p1), .val (.int p2), .val (.int p3), .val (.int p4), .val (.int (1 : Int32)), .val (.int x0), .val (.int x1), .val (.int x2), .val (.ref b183), .val (.ref r), .val (.int (1 : Int32)), .val (.int (0 : Int32)), .unset, .unset, .unset] [(.int (1 : Int32))])) _
        refine XS.iload X189.here hx rfl (hb hby at_206) rfl ?_
        show Steps p.tables e below (T189.setTop (mkF m 208 #[.val (.int p1), .val (.int p2), .val (.int p3), .val (.int p4), .val (.int (1 : Int32)), .val (.int x0), .val (.int x1), .val (.int x2), .val (.ref b183), .val (.ref r), .val (.int (1 : Int32)), .val (.int (0 : Int32)), .unset, .unset, .unset] [(.int (0 : Int32)), (.int (1 : Int32))])) _
        refine XS.iconst X189.here hx rfl (hb hby at_208) ?_
        show Steps p.tables e below (T189.setTop (mkF m 209 #[.val (.int p1), .val (.int p2), .val (.int p3), .val (.int p4), .val (.int (1 : Int32)), .val (.int x0), .val (.int x1), .val (.int x2), .val (.ref b183), .val (.ref r), .val (.int (1 : Int32)), .val (.int (0 : Int32)), .unset, .unset, .unset] [(.int (1 : Int32)), (.int (0 : Int32)), (.int (1 : Int32))])) _
        refine XS.iadd X189.here hx rfl (hb hby at_209) rfl ?_
        show Steps p.tables e below (T189.setTop (mkF m 210 #[.val (.int p1), .val (.int p2), .val (.int p3), .val (.int p4), .val (.int (1 : Int32)), .val (.int x0), .val (.int x1), .val (.int x2), .val (.ref b183), .val (.ref r), .val (.int (1 : Int32)), .val (.int (0 : Int32)), .unset, .unset, .unset] [(.int (1 : Int32)), (.int (1 : Int32))])) _
        refine XS.icmpYes X189.here hx rfl (pc0 := 210) (pc' := 215) rfl (hb hby at_210) rfl (teq (by decide)).1 (by decide) (by decide) ?_
        show Steps p.tables e below (T189.setTop (mkF m 215 #[.val (.int p1), .val (.int p2), .val (.int p3), .val (.int p4), .val (.int (1 : Int32)), .val (.int x0), .val (.int x1), .val (.int x2), .val (.ref b183), .val (.ref r), .val (.int (1 : Int32)), .val (.int (0 : Int32)), .unset, .unset, .unset] [])) _
        refine XS.iload X189.here hx rfl (hb hby at_215) rfl ?_
        show Steps p.tables e below (T189.setTop (mkF m 217 #[.val (.int p1), .val (.int p2), .val (.int p3), .val (.int p4), .val (.int (1 : Int32)), .val (.int x0), .val (.int x1), .val (.int x2), .val (.ref b183), .val (.ref r), .val (.int (1 : Int32)), .val (.int (0 : Int32)), .unset, .unset, .unset] [(.int (0 : Int32))])) _
        refine XS.ifNo X189.here hx rfl (hb hby at_217) rfl ((if0 _ _).trans (teq (by decide)).2) ?_
        show Steps p.tables e below (T189.setTop (mkF m 220 #[.val (.int p1), .val (.int p2), .val (.int p3), .val (.int p4), .val (.int (1 : Int32)), .val (.int x0), .val (.int x1), .val (.int x2), .val (.ref b183), .val (.ref r), .val (.int (1 : Int32)), .val (.int (0 : Int32)), .unset, .unset, .unset] [])) _
        refine XS.iload X189.here hx rfl (hb hby at_220) rfl ?_
        show Steps p.tables e below (T189.setTop (mkF m 222 #[.val (.int p1), .val (.int p2), .val (.int p3), .val (.int p4), .val (.int (1 : Int32)), .val (.int x0), .val (.int x1), .val (.int x2), .val (.ref b183), .val (.ref r), .val (.int (1 : Int32)), .val (.int (0 : Int32)), .unset, .unset, .unset] [(.int x0)])) _
        refine XS.iconst X189.here hx rfl (hb hby at_222) ?_
        show Steps p.tables e below (T189.setTop (mkF m 223 #[.val (.int p1), .val (.int p2), .val (.int p3), .val (.int p4), .val (.int (1 : Int32)), .val (.int x0), .val (.int x1), .val (.int x2), .val (.ref b183), .val (.ref r), .val (.int (1 : Int32)), .val (.int (0 : Int32)), .unset, .unset, .unset] [(.int (1 : Int32)), (.int x0)])) _
        refine XS.iadd X189.here hx rfl (hb hby at_223) rfl ?_
        show Steps p.tables e below (T189.setTop (mkF m 224 #[.val (.int p1), .val (.int p2), .val (.int p3), .val (.int p4), .val (.int (1 : Int32)), .val (.int x0), .val (.int x1), .val (.int x2), .val (.ref b183), .val (.ref r), .val (.int (1 : Int32)), .val (.int (0 : Int32)), .unset, .unset, .unset] [(.int (x0 + (1 : Int32)))])) _
        refine XS.i2b X189.here hx rfl (hb hby at_224) rfl ?_
        show Steps p.tables e below (T189.setTop (mkF m 225 #[.val (.int p1), .val (.int p2), .val (.int p3), .val (.int p4), .val (.int (1 : Int32)), .val (.int x0), .val (.int x1), .val (.int x2), .val (.ref b183), .val (.ref r), .val (.int (1 : Int32)), .val (.int (0 : Int32)), .unset, .unset, .unset] [(.int ((x0 + (1 : Int32)).toInt8.toInt32))])) _
        refine XS.goto X189.here hx rfl (pc0 := 225) (pc' := 230) rfl (hb hby at_225) (by decide) (by decide) ?_
        show Steps p.tables e below (T189.setTop (mkF m 230 #[.val (.int p1), .val (.int p2), .val (.int p3), .val (.int p4), .val (.int (1 : Int32)), .val (.int x0), .val (.int x1), .val (.int x2), .val (.ref b183), .val (.ref r), .val (.int (1 : Int32)), .val (.int (0 : Int32)), .unset, .unset, .unset] [(.int ((x0 + (1 : Int32)).toInt8.toInt32))])) _
        refine XS.istore X189.here hx rfl (hb hby at_230) rfl (l' := #[.val (.int p1), .val (.int p2), .val (.int p3), .val (.int p4), .val (.int (1 : Int32)), .val (.int x0), .val (.int x1), .val (.int x2), .val (.ref b183), .val (.ref r), .val (.int (1 : Int32)), .val (.int (0 : Int32)), .val (.int ((x0 + (1 : Int32)).toInt8.toInt32)), .unset, .unset]) rfl ?_
        show Steps p.tables e below (T189.setTop (mkF m 232 #[.val (.int p1), .val (.int p2), .val (.int p3), .val (.int p4), .val (.int (1 : Int32)), .val (.int x0), .val (.int x1), .val (.int x2), .val (.ref b183), .val (.ref r), .val (.int (1 : Int32)), .val (.int (0 : Int32)), .val (.int ((x0 + (1 : Int32)).toInt8.toInt32)), .unset, .unset] [])) _
        refine XS.iload X189.here hx rfl (hb hby at_232) rfl ?_
        show Steps p.tables e below (T189.setTop (mkF m 234 #[.val (.int p1), .val (.int p2), .val (.int p3), .val (.int p4), .val (.int (1 : Int32)), .val (.int x0), .val (.int x1), .val (.int x2), .val (.ref b183), .val (.ref r), .val (.int (1 : Int32)), .val (.int (0 : Int32)), .val (.int ((x0 + (1 : Int32)).toInt8.toInt32)), .unset, .unset] [(.int (0 : Int32))])) _
        refine XS.iconst X189.here hx rfl (hb hby at_234) ?_
        show Steps p.tables e below (T189.setTop (mkF m 235 #[.val (.int p1), .val (.int p2), .val (.int p3), .val (.int p4), .val (.int (1 : Int32)), .val (.int x0), .val (.int x1), .val (.int x2), .val (.ref b183), .val (.ref r), .val (.int (1 : Int32)), .val (.int (0 : Int32)), .val (.int ((x0 + (1 : Int32)).toInt8.toInt32)), .unset, .unset] [(.int (1 : Int32)), (.int (0 : Int32))])) _
        refine XS.icmpYes X189.here hx rfl (pc0 := 235) (pc' := 246) rfl (hb hby at_235) rfl (feq (by decide)).2 (by decide) (by decide) ?_
        show Steps p.tables e below (T189.setTop (mkF m 246 #[.val (.int p1), .val (.int p2), .val (.int p3), .val (.int p4), .val (.int (1 : Int32)), .val (.int x0), .val (.int x1), .val (.int x2), .val (.ref b183), .val (.ref r), .val (.int (1 : Int32)), .val (.int (0 : Int32)), .val (.int ((x0 + (1 : Int32)).toInt8.toInt32)), .unset, .unset] [])) _
        refine XS.iload X189.here hx rfl (hb hby at_246) rfl ?_
        show Steps p.tables e below (T189.setTop (mkF m 248 #[.val (.int p1), .val (.int p2), .val (.int p3), .val (.int p4), .val (.int (1 : Int32)), .val (.int x0), .val (.int x1), .val (.int x2), .val (.ref b183), .val (.ref r), .val (.int (1 : Int32)), .val (.int (0 : Int32)), .val (.int ((x0 + (1 : Int32)).toInt8.toInt32)), .unset, .unset] [(.int x1)])) _
        refine XS.istore X189.here hx rfl (hb hby at_248) rfl (l' := #[.val (.int p1), .val (.int p2), .val (.int p3), .val (.int p4), .val (.int (1 : Int32)), .val (.int x0), .val (.int x1), .val (.int x2), .val (.ref b183), .val (.ref r), .val (.int (1 : Int32)), .val (.int (0 : Int32)), .val (.int ((x0 + (1 : Int32)).toInt8.toInt32)), .val (.int x1), .unset]) rfl ?_
        show Steps p.tables e below (T189.setTop (mkF m 250 #[.val (.int p1), .val (.int p2), .val (.int p3), .val (.int p4), .val (.int (1 : Int32)), .val (.int x0), .val (.int x1), .val (.int x2), .val (.ref b183), .val (.ref r), .val (.int (1 : Int32)), .val (.int (0 : Int32)), .val (.int ((x0 + (1 : Int32)).toInt8.toInt32)), .val (.int x1), .unset] [])) _
        refine XS.iload X189.here hx rfl (hb hby at_250) rfl ?_
        show Steps p.tables e below (T189.setTop (mkF m 252 #[.val (.int p1), .val (.int p2), .val (.int p3), .val (.int p4), .val (.int (1 : Int32)), .val (.int x0), .val (.int x1), .val (.int x2), .val (.ref b183), .val (.ref r), .val (.int (1 : Int32)), .val (.int (0 : Int32)), .val (.int ((x0 + (1 : Int32)).toInt8.toInt32)), .val (.int x1), .unset] [(.int x2)])) _
        refine XS.iconst X189.here hx rfl (hb hby at_252) ?_
        show Steps p.tables e below (T189.setTop (mkF m 253 #[.val (.int p1), .val (.int p2), .val (.int p3), .val (.int p4), .val (.int (1 : Int32)), .val (.int x0), .val (.int x1), .val (.int x2), .val (.ref b183), .val (.ref r), .val (.int (1 : Int32)), .val (.int (0 : Int32)), .val (.int ((x0 + (1 : Int32)).toInt8.toInt32)), .val (.int x1), .unset] [(.int (1 : Int32)), (.int x2)])) _
        refine XS.iadd X189.here hx rfl (hb hby at_253) rfl ?_
        show Steps p.tables e below (T189.setTop (mkF m 254 #[.val (.int p1), .val (.int p2), .val (.int p3), .val (.int p4), .val (.int (1 : Int32)), .val (.int x0), .val (.int x1), .val (.int x2), .val (.ref b183), .val (.ref r), .val (.int (1 : Int32)), .val (.int (0 : Int32)), .val (.int ((x0 + (1 : Int32)).toInt8.toInt32)), .val (.int x1), .unset] [(.int (x2 + (1 : Int32)))])) _
        refine XS.i2b X189.here hx rfl (hb hby at_254) rfl ?_
        show Steps p.tables e below (T189.setTop (mkF m 255 #[.val (.int p1), .val (.int p2), .val (.int p3), .val (.int p4), .val (.int (1 : Int32)), .val (.int x0), .val (.int x1), .val (.int x2), .val (.ref b183), .val (.ref r), .val (.int (1 : Int32)), .val (.int (0 : Int32)), .val (.int ((x0 + (1 : Int32)).toInt8.toInt32)), .val (.int x1), .unset] [(.int ((x2 + (1 : Int32)).toInt8.toInt32))])) _
        refine XS.istore X189.here hx rfl (hb hby at_255) rfl (l' := #[.val (.int p1), .val (.int p2), .val (.int p3), .val (.int p4), .val (.int (1 : Int32)), .val (.int x0), .val (.int x1), .val (.int x2), .val (.ref b183), .val (.ref r), .val (.int (1 : Int32)), .val (.int (0 : Int32)), .val (.int ((x0 + (1 : Int32)).toInt8.toInt32)), .val (.int x1), .val (.int ((x2 + (1 : Int32)).toInt8.toInt32))]) rfl ?_
        show Steps p.tables e below (T189.setTop (mkF m 257 #[.val (.int p1), .val (.int p2), .val (.int p3), .val (.int p4), .val (.int (1 : Int32)), .val (.int x0), .val (.int x1), .val (.int x2), .val (.ref b183), .val (.ref r), .val (.int (1 : Int32)), .val (.int (0 : Int32)), .val (.int ((x0 + (1 : Int32)).toInt8.toInt32)), .val (.int x1), .val (.int ((x2 + (1 : Int32)).toInt8.toInt32))] [])) _
        refine XS.aload X189.here hx rfl (hb hby at_257) rfl rfl ?_
        show Steps p.tables e below (T189.setTop (mkF m 259 #[.val (.int p1), .val (.int p2), .val (.int p3), .val (.int p4), .val (.int (1 : Int32)), .val (.int x0), .val (.int x1), .val (.int x2), .val (.ref b183), .val (.ref r), .val (.int (1 : Int32)), .val (.int (0 : Int32)), .val (.int ((x0 + (1 : Int32)).toInt8.toInt32)), .val (.int x1), .val (.int ((x2 + (1 : Int32)).toInt8.toInt32))] [(.ref r)])) _
        refine XS.iconst X189.here hx rfl (hb hby at_259) ?_
        show Steps p.tables e below (T189.setTop (mkF m 260 #[.val (.int p1), .val (.int p2), .val (.int p3), .val (.int p4), .val (.int (1 : Int32)), .val (.int x0), .val (.int x1), .val (.int x2), .val (.ref b183), .val (.ref r), .val (.int (1 : Int32)), .val (.int (0 : Int32)), .val (.int ((x0 + (1 : Int32)).toInt8.toInt32)), .val (.int x1), .val (.int ((x2 + (1 : Int32)).toInt8.toInt32))] [(.int (0 : Int32)), (.ref r)])) _
        refine own_bal X189 hx hZ rfl Vr (j := (0 : Int32)) ⟨by decide, by decide⟩ (v := (.int ((x0 + (1 : Int32)).toInt8.toInt32))) rfl (g := (mkF m 260 #[.val (.int p1), .val (.int p2), .val (.int p3), .val (.int p4), .val (.int (1 : Int32)), .val (.int x0), .val (.int x1), .val (.int x2), .val (.ref b183), .val (.ref r), .val (.int (1 : Int32)), .val (.int (0 : Int32)), .val (.int ((x0 + (1 : Int32)).toInt8.toInt32)), .val (.int x1), .val (.int ((x2 + (1 : Int32)).toInt8.toInt32))] [(.int (0 : Int32)), (.ref r)])) rfl rfl (hb hby at_260) _ ?_
        show Steps p.tables e below (T189.setTop (mkF m 261 #[.val (.int p1), .val (.int p2), .val (.int p3), .val (.int p4), .val (.int (1 : Int32)), .val (.int x0), .val (.int x1), .val (.int x2), .val (.ref b183), .val (.ref r), .val (.int (1 : Int32)), .val (.int (0 : Int32)), .val (.int ((x0 + (1 : Int32)).toInt8.toInt32)), .val (.int x1), .val (.int ((x2 + (1 : Int32)).toInt8.toInt32))] [(.int ((x0 + (1 : Int32)).toInt8.toInt32))])) _
        refine XS.iload X189.here hx rfl (hb hby at_261) rfl ?_
        show Steps p.tables e below (T189.setTop (mkF m 263 #[.val (.int p1), .val (.int p2), .val (.int p3), .val (.int p4), .val (.int (1 : Int32)), .val (.int x0), .val (.int x1), .val (.int x2), .val (.ref b183), .val (.ref r), .val (.int (1 : Int32)), .val (.int (0 : Int32)), .val (.int ((x0 + (1 : Int32)).toInt8.toInt32)), .val (.int x1), .val (.int ((x2 + (1 : Int32)).toInt8.toInt32))] [(.int ((x0 + (1 : Int32)).toInt8.toInt32)), (.int ((x0 + (1 : Int32)).toInt8.toInt32))])) _
        refine XS.icmpYes X189.here hx rfl (pc0 := 263) (pc' := 268) rfl (hb hby at_263) rfl (teq rfl).1 (by decide) (by decide) ?_
        show Steps p.tables e below (T189.setTop (mkF m 268 #[.val (.int p1), .val (.int p2), .val (.int p3), .val (.int p4), .val (.int (1 : Int32)), .val (.int x0), .val (.int x1), .val (.int x2), .val (.ref b183), .val (.ref r), .val (.int (1 : Int32)), .val (.int (0 : Int32)), .val (.int ((x0 + (1 : Int32)).toInt8.toInt32)), .val (.int x1), .val (.int ((x2 + (1 : Int32)).toInt8.toInt32))] [])) _
        refine XS.iload X189.here hx rfl (hb hby at_268) rfl ?_
        show Steps p.tables e below (T189.setTop (mkF m 270 #[.val (.int p1), .val (.int p2), .val (.int p3), .val (.int p4), .val (.int (1 : Int32)), .val (.int x0), .val (.int x1), .val (.int x2), .val (.ref b183), .val (.ref r), .val (.int (1 : Int32)), .val (.int (0 : Int32)), .val (.int ((x0 + (1 : Int32)).toInt8.toInt32)), .val (.int x1), .val (.int ((x2 + (1 : Int32)).toInt8.toInt32))] [(.int (0 : Int32))])) _
        refine XS.iconst X189.here hx rfl (hb hby at_270) ?_
        show Steps p.tables e below (T189.setTop (mkF m 271 #[.val (.int p1), .val (.int p2), .val (.int p3), .val (.int p4), .val (.int (1 : Int32)), .val (.int x0), .val (.int x1), .val (.int x2), .val (.ref b183), .val (.ref r), .val (.int (1 : Int32)), .val (.int (0 : Int32)), .val (.int ((x0 + (1 : Int32)).toInt8.toInt32)), .val (.int x1), .val (.int ((x2 + (1 : Int32)).toInt8.toInt32))] [(.int (1 : Int32)), (.int (0 : Int32))])) _
        refine XS.icmpYes X189.here hx rfl (pc0 := 271) (pc' := 285) rfl (hb hby at_271) rfl (tlt (by decide)).1 (by decide) (by decide) ?_
        show Steps p.tables e below (T189.setTop (mkF m 285 #[.val (.int p1), .val (.int p2), .val (.int p3), .val (.int p4), .val (.int (1 : Int32)), .val (.int x0), .val (.int x1), .val (.int x2), .val (.ref b183), .val (.ref r), .val (.int (1 : Int32)), .val (.int (0 : Int32)), .val (.int ((x0 + (1 : Int32)).toInt8.toInt32)), .val (.int x1), .val (.int ((x2 + (1 : Int32)).toInt8.toInt32))] [])) _
        refine XS.iload X189.here hx rfl (hb hby at_285) rfl ?_
        show Steps p.tables e below (T189.setTop (mkF m 287 #[.val (.int p1), .val (.int p2), .val (.int p3), .val (.int p4), .val (.int (1 : Int32)), .val (.int x0), .val (.int x1), .val (.int x2), .val (.ref b183), .val (.ref r), .val (.int (1 : Int32)), .val (.int (0 : Int32)), .val (.int ((x0 + (1 : Int32)).toInt8.toInt32)), .val (.int x1), .val (.int ((x2 + (1 : Int32)).toInt8.toInt32))] [(.int (0 : Int32))])) _
        refine XS.iconst X189.here hx rfl (hb hby at_287) ?_
        show Steps p.tables e below (T189.setTop (mkF m 288 #[.val (.int p1), .val (.int p2), .val (.int p3), .val (.int p4), .val (.int (1 : Int32)), .val (.int x0), .val (.int x1), .val (.int x2), .val (.ref b183), .val (.ref r), .val (.int (1 : Int32)), .val (.int (0 : Int32)), .val (.int ((x0 + (1 : Int32)).toInt8.toInt32)), .val (.int x1), .val (.int ((x2 + (1 : Int32)).toInt8.toInt32))] [(.int (2 : Int32)), (.int (0 : Int32))])) _
        refine XS.icmpYes X189.here hx rfl (pc0 := 288) (pc' := 302) rfl (hb hby at_288) rfl (tlt (by decide)).1 (by decide) (by decide) ?_
        show Steps p.tables e below (T189.setTop (mkF m 302 #[.val (.int p1), .val (.int p2), .val (.int p3), .val (.int p4), .val (.int (1 : Int32)), .val (.int x0), .val (.int x1), .val (.int x2), .val (.ref b183), .val (.ref r), .val (.int (1 : Int32)), .val (.int (0 : Int32)), .val (.int ((x0 + (1 : Int32)).toInt8.toInt32)), .val (.int x1), .val (.int ((x2 + (1 : Int32)).toInt8.toInt32))] [])) _
        refine XS.iconst X189.here hx rfl (hb hby at_302) ?_
        exact kt
      obtain ⟨fsx, hr, hrun, hended, hW, hsame⟩ := X189.leave (v := some (.int (nar .boolean (1 : Int32)))) (fun h => by rw [Bd.returns] at h; cases h)
      refine ⟨_, _, pre192 _ ?_, hrun, hended, _, _, rfl, ?_, ⟨_, rfl⟩, hW, hsame.mono (by decide) (by decide)⟩
      · exact retN X189 hx (t := .boolean) Bd.returns (by simp) (hb hby at_303) hr
      · show Q0 Z p1 p2 p3 p4 h0 n0 _ T189.heap _
        skip
        exact ⟨rfl, Nf189⟩
  · have pre193 : ∀ t, Steps p.tables e below (s₁.setTop (mkF m 3 #[.val (.int p1), .val (.int p2), .val (.int p3), .val (.int p4), .unset, .unset, .unset, .unset, .unset, .unset, .unset, .unset, .unset, .unset, .unset] [(.int (2 : Int32))])) t → Steps p.tables e below (s₁.setTop (entryFrame m #[(.int p1), (.int p2), (.int p3), (.int p4)] maxLocals)) t := by
      intro t kt
      have hsv : (p1 &&& (3 : Int32)) = (2 : Int32) := hn
      refine pre169 t ?_
      rw [hsv]
      exact kt
    obtain ⟨_, _, ⟨T194, L194, k194, n194⟩, -, X194, ⟨Lc194, hQ194, l194, y194, z194⟩, st194⟩ := Jvm.LawKit.callS X0 hx (y := (⟨"com/example/tessera/tessera/storage/PrefixesEndPinLaw", "draw", "(I)B"⟩ : MethodName)) hown (mvT hZ (hw _ (List.mem_of_getElem? (i := 0) rfl))) (mvT hZ (hw _ (List.mem_of_getElem? (i := 1) rfl))) (mvT hZ (hw _ (List.mem_of_getElem? (i := 2) rfl))) (mvT hZ (hw _ (List.mem_of_getElem? (i := 3) rfl))) (by decide) (backOf (W := 0) (rm1 l Z a0 hw [] p2 h0 n0 Z0) hZ (hw _ (List.mem_of_getElem? (i := 3) rfl)) (hw _ (List.mem_of_getElem? (i := 2) rfl)) (by decide) (by decide)) (g := (mkF m 6 #[.val (.int p1), .val (.int p2), .val (.int p3), .val (.int p4), .val (.int (2 : Int32)), .unset, .unset, .unset, .unset, .unset, .unset, .unset, .unset, .unset, .unset] [(.int p2)])) rfl (by rw [hml]; rfl) (argsL := [(.int p2)]) (rest := []) (lenOf pd_2 rfl) rfl (by show 2 * 0 + _ ≤ _; exact Nat.le_of_eq rfl) (hb hby at_6) (fun _ _ => ⟨rfl, e0, (by decide : 0 + 0 ≤ _), (by decide : 0 + 0 ≤ _)⟩)
    dsimp only [Pt.U, Pt.locs, Pt.cells, Pt.slots] at X194 l194 y194 z194 st194 hQ194
    subst l194 y194 z194
    obtain ⟨x0, rfl, Nq194, eq194, hx0⟩ := hQ194
    have Nf194 := Fr.app N0 Nq194
    obtain ⟨_, _, ⟨T195, L195, k195, n195⟩, -, X195, ⟨Lc195, hQ195, l195, y195, z195⟩, st195⟩ := Jvm.LawKit.callS X194 hx (y := (⟨"com/example/tessera/tessera/storage/PrefixesEndPinLaw", "draw", "(I)B"⟩ : MethodName)) hown (mvT hZ (hw _ (List.mem_of_getElem? (i := 0) rfl))) (mvT hZ (hw _ (List.mem_of_getElem? (i := 1) rfl))) (mvT hZ (hw _ (List.mem_of_getElem? (i := 2) rfl))) (mvT hZ (hw _ (List.mem_of_getElem? (i := 3) rfl))) (by decide) (backOf (W := 0) (rm1 l Z a0 hw [] p3 h0 n0 Z0) hZ (hw _ (List.mem_of_getElem? (i := 3) rfl)) (hw _ (List.mem_of_getElem? (i := 2) rfl)) (by decide) (by decide)) (g := (mkF m 12 #[.val (.int p1), .val (.int p2), .val (.int p3), .val (.int p4), .val (.int (2 : Int32)), .val (.int x0), .unset, .unset, .unset, .unset, .unset, .unset, .unset, .unset, .unset] [(.int p3)])) rfl (by rw [hml]; rfl) (argsL := [(.int p3)]) (rest := []) (lenOf pd_2 rfl) rfl (by show 2 * 0 + _ ≤ _; exact Nat.le_of_eq rfl) (hb hby at_12) (fun _ _ => ⟨rfl, eq194, (by decide : 0 + 0 ≤ _), (by decide : 0 + 0 ≤ _)⟩)
    dsimp only [Pt.U, Pt.locs, Pt.cells, Pt.slots] at X195 l195 y195 z195 st195 hQ195
    subst l195 y195 z195
    obtain ⟨x1, rfl, Nq195, eq195, hx1⟩ := hQ195
    have Nf195 := Fr.app Nf194 Nq195
    obtain ⟨_, _, ⟨T196, L196, k196, n196⟩, -, X196, ⟨Lc196, hQ196, l196, y196, z196⟩, st196⟩ := Jvm.LawKit.callS X195 hx (y := (⟨"com/example/tessera/tessera/storage/PrefixesEndPinLaw", "draw", "(I)B"⟩ : MethodName)) hown (mvT hZ (hw _ (List.mem_of_getElem? (i := 0) rfl))) (mvT hZ (hw _ (List.mem_of_getElem? (i := 1) rfl))) (mvT hZ (hw _ (List.mem_of_getElem? (i := 2) rfl))) (mvT hZ (hw _ (List.mem_of_getElem? (i := 3) rfl))) (by decide) (backOf (W := 0) (rm1 l Z a0 hw [] p4 h0 n0 Z0) hZ (hw _ (List.mem_of_getElem? (i := 3) rfl)) (hw _ (List.mem_of_getElem? (i := 2) rfl)) (by decide) (by decide)) (g := (mkF m 18 #[.val (.int p1), .val (.int p2), .val (.int p3), .val (.int p4), .val (.int (2 : Int32)), .val (.int x0), .val (.int x1), .unset, .unset, .unset, .unset, .unset, .unset, .unset, .unset] [(.int p4)])) rfl (by rw [hml]; rfl) (argsL := [(.int p4)]) (rest := []) (lenOf pd_2 rfl) rfl (by show 2 * 0 + _ ≤ _; exact Nat.le_of_eq rfl) (hb hby at_18) (fun _ _ => ⟨rfl, eq195, (by decide : 0 + 0 ≤ _), (by decide : 0 + 0 ≤ _)⟩)
    dsimp only [Pt.U, Pt.locs, Pt.cells, Pt.slots] at X196 l196 y196 z196 st196 hQ196
    subst l196 y196 z196
    obtain ⟨x2, rfl, Nq196, eq196, hx2⟩ := hQ196
    have Nf196 := Fr.app Nf195 Nq196
    have pre197 : ∀ t, Steps p.tables e below (T196.setTop (mkF m 21 #[.val (.int p1), .val (.int p2), .val (.int p3), .val (.int p4), .val (.int (2 : Int32)), .val (.int x0), .val (.int x1), .unset, .unset, .unset, .unset, .unset, .unset, .unset, .unset] [(.int x2)])) t → Steps p.tables e below (s₁.setTop (entryFrame m #[(.int p1), (.int p2), (.int p3), (.int p4)] maxLocals)) t := by
      intro t kt
      refine pre193 t ?_
      show Steps p.tables e below (s₁.setTop (mkF m 3 #[.val (.int p1), .val (.int p2), .val (.int p3), .val (.int p4), .unset, .unset, .unset, .unset, .unset, .unset, .unset, .unset, .unset, .unset, .unset] [(.int (2 : Int32))])) _
      refine XS.istore X0.here hx rfl (hb hby at_3) rfl (l' := #[.val (.int p1), .val (.int p2), .val (.int p3), .val (.int p4), .val (.int (2 : Int32)), .unset, .unset, .unset, .unset, .unset, .unset, .unset, .unset, .unset, .unset]) rfl ?_
      show Steps p.tables e below (s₁.setTop (mkF m 5 #[.val (.int p1), .val (.int p2), .val (.int p3), .val (.int p4), .val (.int (2 : Int32)), .unset, .unset, .unset, .unset, .unset, .unset, .unset, .unset, .unset, .unset] [])) _
      refine XS.iloadN X0.here hx rfl (hb hby at_5) rfl ?_
      show Steps p.tables e below (s₁.setTop (mkF m 6 #[.val (.int p1), .val (.int p2), .val (.int p3), .val (.int p4), .val (.int (2 : Int32)), .unset, .unset, .unset, .unset, .unset, .unset, .unset, .unset, .unset, .unset] [(.int p2)])) _
      refine st194 _ ?_
      show Steps p.tables e below (T194.setTop (mkF m 9 #[.val (.int p1), .val (.int p2), .val (.int p3), .val (.int p4), .val (.int (2 : Int32)), .unset, .unset, .unset, .unset, .unset, .unset, .unset, .unset, .unset, .unset] [(.int x0)])) _
      refine XS.istore X194.here hx rfl (hb hby at_9) rfl (l' := #[.val (.int p1), .val (.int p2), .val (.int p3), .val (.int p4), .val (.int (2 : Int32)), .val (.int x0), .unset, .unset, .unset, .unset, .unset, .unset, .unset, .unset, .unset]) rfl ?_
      show Steps p.tables e below (T194.setTop (mkF m 11 #[.val (.int p1), .val (.int p2), .val (.int p3), .val (.int p4), .val (.int (2 : Int32)), .val (.int x0), .unset, .unset, .unset, .unset, .unset, .unset, .unset, .unset, .unset] [])) _
      refine XS.iloadN X194.here hx rfl (hb hby at_11) rfl ?_
      show Steps p.tables e below (T194.setTop (mkF m 12 #[.val (.int p1), .val (.int p2), .val (.int p3), .val (.int p4), .val (.int (2 : Int32)), .val (.int x0), .unset, .unset, .unset, .unset, .unset, .unset, .unset, .unset, .unset] [(.int p3)])) _
      refine st195 _ ?_
      show Steps p.tables e below (T195.setTop (mkF m 15 #[.val (.int p1), .val (.int p2), .val (.int p3), .val (.int p4), .val (.int (2 : Int32)), .val (.int x0), .unset, .unset, .unset, .unset, .unset, .unset, .unset, .unset, .unset] [(.int x1)])) _
      refine XS.istore X195.here hx rfl (hb hby at_15) rfl (l' := #[.val (.int p1), .val (.int p2), .val (.int p3), .val (.int p4), .val (.int (2 : Int32)), .val (.int x0), .val (.int x1), .unset, .unset, .unset, .unset, .unset, .unset, .unset, .unset]) rfl ?_
      show Steps p.tables e below (T195.setTop (mkF m 17 #[.val (.int p1), .val (.int p2), .val (.int p3), .val (.int p4), .val (.int (2 : Int32)), .val (.int x0), .val (.int x1), .unset, .unset, .unset, .unset, .unset, .unset, .unset, .unset] [])) _
      refine XS.iloadN X195.here hx rfl (hb hby at_17) rfl ?_
      show Steps p.tables e below (T195.setTop (mkF m 18 #[.val (.int p1), .val (.int p2), .val (.int p3), .val (.int p4), .val (.int (2 : Int32)), .val (.int x0), .val (.int x1), .unset, .unset, .unset, .unset, .unset, .unset, .unset, .unset] [(.int p4)])) _
      refine st196 _ ?_
      exact kt
    obtain ⟨T198, h198, k198, X198, e198, E198, A198, Ax198, st198⟩ := newPE X196 hx hZ (hw _ (List.mem_of_getElem? (i := 4) rfl)) eq196 (g := (mkF m 25 #[.val (.int p1), .val (.int p2), .val (.int p3), .val (.int p4), .val (.int (2 : Int32)), .val (.int x0), .val (.int x1), .val (.int x2), .unset, .unset, .unset, .unset, .unset, .unset, .unset] [(.int (2 : Int32))])) rfl (hb hby at_25) rfl (by decide) (cap := 2) (by decide) (by decide) (by decide) (by decide) (ad := "[B") rfl
    obtain ⟨b198, gq198⟩ : ∃ z, z = h0.size := ⟨_, rfl⟩
    rw [← gq198] at A198 Ax198 st198
    have g_b198 : n0 ≤ b198 := Nat.le_trans Z0 (Nat.le_of_eq gq198.symm)
    have sz_b198 : h0.size ≤ b198 := Nat.le_trans (Keep.refl h0 []).1 (Nat.le_of_eq gq198.symm)
    have K198 : Keep h0 h198 [] := (Keep.refl h0 []).ext E198
    have Z198 : n0 ≤ h198.size := Nat.le_trans Z0 E198.1
    have V198 : Arv Z h198 b198 k198 .byte (2 : Int32) [(.int (0 : Int32)), (.int (0 : Int32))] (.int (0 : Int32)) := (Arv.new A198 (by decide)).pad (pad_rep [] (.int (0 : Int32)) 2)
    obtain ⟨T199, h199, X199, e199, W199, V199, st199⟩ := own_bst X198 hx hZ e198 V198 (j := (0 : Int32)) ⟨by decide, by decide⟩ (i := 0) rfl (Nat.le_of_ble_eq_true rfl) (w := x0) hx0 (g := (mkF m 39 #[.val (.int p1), .val (.int p2), .val (.int p3), .val (.int p4), .val (.int (2 : Int32)), .val (.int x0), .val (.int x1), .val (.int x2), .val (.ref b198), .unset, .unset, .unset, .unset, .unset, .unset] [(.int x0), (.int (0 : Int32)), (.ref b198)])) rfl rfl (hb hby at_39)
    have f200 := (Ax198.wr W199)
    have K199 : Keep h0 h199 [] := K198.wr W199 (Or.inr sz_b198)
    have Nf199 := Fr.snoc X199 Nf196 g_b198
    have Z199 : n0 ≤ h199.size := Nat.le_trans Z198 (Keep.of_wr W199).1
    have V199 : Arv Z h199 b198 k198 .byte (2 : Int32) [(.int x0), (.int (0 : Int32))] (.int (0 : Int32)) := V199
    obtain ⟨T201, h201, X201, e201, W201, V201, st201⟩ := own_bst X199 hx hZ e199 V199 (j := (1 : Int32)) ⟨by decide, by decide⟩ (i := 1) rfl (Nat.le_of_ble_eq_true rfl) (w := x1) hx1 (g := (mkF m 51 #[.val (.int p1), .val (.int p2), .val (.int p3), .val (.int p4), .val (.int (2 : Int32)), .val (.int x0), .val (.int x1), .val (.int x2), .val (.ref b198), .unset, .unset, .unset, .unset, .unset, .unset] [(.int x1), (.int (1 : Int32)), (.ref b198)])) rfl rfl (hb hby at_51)
    have f202 := (f200.wr W201)
    have K201 : Keep h0 h201 [] := K199.wr W201 (Or.inr sz_b198)
    have Nf201 := Fr.snoc X201 Nf199 g_b198
    have Z201 : n0 ≤ h201.size := Nat.le_trans Z199 (Keep.of_wr W201).1
    have V201 : Arv Z h201 b198 k198 .byte (2 : Int32) [(.int x0), (.int x1)] (.int (0 : Int32)) := V201
    have pre203 : ∀ t, Steps p.tables e below (T201.setTop (mkF m 66 #[.val (.int p1), .val (.int p2), .val (.int p3), .val (.int p4), .val (.int (2 : Int32)), .val (.int x0), .val (.int x1), .val (.int x2), .val (.ref b198), .unset, .unset, .unset, .unset, .unset, .unset] [(.ref b198)])) t → Steps p.tables e below (s₁.setTop (entryFrame m #[(.int p1), (.int p2), (.int p3), (.int p4)] maxLocals)) t := by
      intro t kt
      refine pre197 t ?_
      show Steps p.tables e below (T196.setTop (mkF m 21 #[.val (.int p1), .val (.int p2), .val (.int p3), .val (.int p4), .val (.int (2 : Int32)), .val (.int x0), .val (.int x1), .unset, .unset, .unset, .unset, .unset, .unset, .unset, .unset] [(.int x2)])) _
      refine XS.istore X196.here hx rfl (hb hby at_21) rfl (l' := #[.val (.int p1), .val (.int p2), .val (.int p3), .val (.int p4), .val (.int (2 : Int32)), .val (.int x0), .val (.int x1), .val (.int x2), .unset, .unset, .unset, .unset, .unset, .unset, .unset]) rfl ?_
      show Steps p.tables e below (T196.setTop (mkF m 23 #[.val (.int p1), .val (.int p2), .val (.int p3), .val (.int p4), .val (.int (2 : Int32)), .val (.int x0), .val (.int x1), .val (.int x2), .unset, .unset, .unset, .unset, .unset, .unset, .unset] [])) _
      refine XS.iload X196.here hx rfl (hb hby at_23) rfl ?_
      show Steps p.tables e below (T196.setTop (mkF m 25 #[.val (.int p1), .val (.int p2), .val (.int p3), .val (.int p4), .val (.int (2 : Int32)), .val (.int x0), .val (.int x1), .val (.int x2), .unset, .unset, .unset, .unset, .unset, .unset, .unset] [(.int (2 : Int32))])) _
      refine st198 _ ?_
      show Steps p.tables e below (T198.setTop (mkF m 27 #[.val (.int p1), .val (.int p2), .val (.int p3), .val (.int p4), .val (.int (2 : Int32)), .val (.int x0), .val (.int x1), .val (.int x2), .unset, .unset, .unset, .unset, .unset, .unset, .unset] [(.ref b198)])) _
      refine XS.astore X198.here hx rfl (hb hby at_27) rfl rfl (l' := #[.val (.int p1), .val (.int p2), .val (.int p3), .val (.int p4), .val (.int (2 : Int32)), .val (.int x0), .val (.int x1), .val (.int x2), .val (.ref b198), .unset, .unset, .unset, .unset, .unset, .unset]) rfl ?_
      show Steps p.tables e below (T198.setTop (mkF m 29 #[.val (.int p1), .val (.int p2), .val (.int p3), .val (.int p4), .val (.int (2 : Int32)), .val (.int x0), .val (.int x1), .val (.int x2), .val (.ref b198), .unset, .unset, .unset, .unset, .unset, .unset] [])) _
      refine XS.iload X198.here hx rfl (hb hby at_29) rfl ?_
      show Steps p.tables e below (T198.setTop (mkF m 31 #[.val (.int p1), .val (.int p2), .val (.int p3), .val (.int p4), .val (.int (2 : Int32)), .val (.int x0), .val (.int x1), .val (.int x2), .val (.ref b198), .unset, .unset, .unset, .unset, .unset, .unset] [(.int (2 : Int32))])) _
      refine XS.ifNo X198.here hx rfl (hb hby at_31) rfl ((if0 _ _).trans (tlt (by decide)).2.2.2) ?_
      show Steps p.tables e below (T198.setTop (mkF m 34 #[.val (.int p1), .val (.int p2), .val (.int p3), .val (.int p4), .val (.int (2 : Int32)), .val (.int x0), .val (.int x1), .val (.int x2), .val (.ref b198), .unset, .unset, .unset, .unset, .unset, .unset] [])) _
      refine XS.aload X198.here hx rfl (hb hby at_34) rfl rfl ?_
      show Steps p.tables e below (T198.setTop (mkF m 36 #[.val (.int p1), .val (.int p2), .val (.int p3), .val (.int p4), .val (.int (2 : Int32)), .val (.int x0), .val (.int x1), .val (.int x2), .val (.ref b198), .unset, .unset, .unset, .unset, .unset, .unset] [(.ref b198)])) _
      refine XS.iconst X198.here hx rfl (hb hby at_36) ?_
      show Steps p.tables e below (T198.setTop (mkF m 37 #[.val (.int p1), .val (.int p2), .val (.int p3), .val (.int p4), .val (.int (2 : Int32)), .val (.int x0), .val (.int x1), .val (.int x2), .val (.ref b198), .unset, .unset, .unset, .unset, .unset, .unset] [(.int (0 : Int32)), (.ref b198)])) _
      refine XS.iload X198.here hx rfl (hb hby at_37) rfl ?_
      show Steps p.tables e below (T198.setTop (mkF m 39 #[.val (.int p1), .val (.int p2), .val (.int p3), .val (.int p4), .val (.int (2 : Int32)), .val (.int x0), .val (.int x1), .val (.int x2), .val (.ref b198), .unset, .unset, .unset, .unset, .unset, .unset] [(.int x0), (.int (0 : Int32)), (.ref b198)])) _
      refine st199 _ ?_
      show Steps p.tables e below (T199.setTop (mkF m 40 #[.val (.int p1), .val (.int p2), .val (.int p3), .val (.int p4), .val (.int (2 : Int32)), .val (.int x0), .val (.int x1), .val (.int x2), .val (.ref b198), .unset, .unset, .unset, .unset, .unset, .unset] [])) _
      refine XS.iload X199.here hx rfl (hb hby at_40) rfl ?_
      show Steps p.tables e below (T199.setTop (mkF m 42 #[.val (.int p1), .val (.int p2), .val (.int p3), .val (.int p4), .val (.int (2 : Int32)), .val (.int x0), .val (.int x1), .val (.int x2), .val (.ref b198), .unset, .unset, .unset, .unset, .unset, .unset] [(.int (2 : Int32))])) _
      refine XS.iconst X199.here hx rfl (hb hby at_42) ?_
      show Steps p.tables e below (T199.setTop (mkF m 43 #[.val (.int p1), .val (.int p2), .val (.int p3), .val (.int p4), .val (.int (2 : Int32)), .val (.int x0), .val (.int x1), .val (.int x2), .val (.ref b198), .unset, .unset, .unset, .unset, .unset, .unset] [(.int (1 : Int32)), (.int (2 : Int32))])) _
      refine XS.icmpNo X199.here hx rfl (hb hby at_43) rfl (tlt (by decide)).2.2.2 ?_
      show Steps p.tables e below (T199.setTop (mkF m 46 #[.val (.int p1), .val (.int p2), .val (.int p3), .val (.int p4), .val (.int (2 : Int32)), .val (.int x0), .val (.int x1), .val (.int x2), .val (.ref b198), .unset, .unset, .unset, .unset, .unset, .unset] [])) _
      refine XS.aload X199.here hx rfl (hb hby at_46) rfl rfl ?_
      show Steps p.tables e below (T199.setTop (mkF m 48 #[.val (.int p1), .val (.int p2), .val (.int p3), .val (.int p4), .val (.int (2 : Int32)), .val (.int x0), .val (.int x1), .val (.int x2), .val (.ref b198), .unset, .unset, .unset, .unset, .unset, .unset] [(.ref b198)])) _
      refine XS.iconst X199.here hx rfl (hb hby at_48) ?_
      show Steps p.tables e below (T199.setTop (mkF m 49 #[.val (.int p1), .val (.int p2), .val (.int p3), .val (.int p4), .val (.int (2 : Int32)), .val (.int x0), .val (.int x1), .val (.int x2), .val (.ref b198), .unset, .unset, .unset, .unset, .unset, .unset] [(.int (1 : Int32)), (.ref b198)])) _
      refine XS.iload X199.here hx rfl (hb hby at_49) rfl ?_
      show Steps p.tables e below (T199.setTop (mkF m 51 #[.val (.int p1), .val (.int p2), .val (.int p3), .val (.int p4), .val (.int (2 : Int32)), .val (.int x0), .val (.int x1), .val (.int x2), .val (.ref b198), .unset, .unset, .unset, .unset, .unset, .unset] [(.int x1), (.int (1 : Int32)), (.ref b198)])) _
      refine st201 _ ?_
      show Steps p.tables e below (T201.setTop (mkF m 52 #[.val (.int p1), .val (.int p2), .val (.int p3), .val (.int p4), .val (.int (2 : Int32)), .val (.int x0), .val (.int x1), .val (.int x2), .val (.ref b198), .unset, .unset, .unset, .unset, .unset, .unset] [])) _
      refine XS.iload X201.here hx rfl (hb hby at_52) rfl ?_
      show Steps p.tables e below (T201.setTop (mkF m 54 #[.val (.int p1), .val (.int p2), .val (.int p3), .val (.int p4), .val (.int (2 : Int32)), .val (.int x0), .val (.int x1), .val (.int x2), .val (.ref b198), .unset, .unset, .unset, .unset, .unset, .unset] [(.int (2 : Int32))])) _
      refine XS.iconst X201.here hx rfl (hb hby at_54) ?_
      show Steps p.tables e below (T201.setTop (mkF m 55 #[.val (.int p1), .val (.int p2), .val (.int p3), .val (.int p4), .val (.int (2 : Int32)), .val (.int x0), .val (.int x1), .val (.int x2), .val (.ref b198), .unset, .unset, .unset, .unset, .unset, .unset] [(.int (2 : Int32)), (.int (2 : Int32))])) _
      refine XS.icmpYes X201.here hx rfl (pc0 := 55) (pc' := 64) rfl (hb hby at_55) rfl (flt (by decide)).2.2.2 (by decide) (by decide) ?_
      show Steps p.tables e below (T201.setTop (mkF m 64 #[.val (.int p1), .val (.int p2), .val (.int p3), .val (.int p4), .val (.int (2 : Int32)), .val (.int x0), .val (.int x1), .val (.int x2), .val (.ref b198), .unset, .unset, .unset, .unset, .unset, .unset] [])) _
      refine XS.aload X201.here hx rfl (hb hby at_64) rfl rfl ?_
      exact kt
    by_cases ex1 : x1 = (-1 : Int32)
    · by_cases ex0 : x0 = (-1 : Int32)
      · obtain ⟨_, _, ⟨T204, L204, k204, n204⟩, -, X204, ⟨Lc204, hQ204, l204, y204, z204⟩, st204⟩ := Jvm.LawKit.callS X201 hx (y := (⟨"com/example/tessera/tessera/storage/Prefixes", "end", "([B)[B"⟩ : MethodName)) hown (mvT hZ (hw _ (List.mem_of_getElem? (i := 5) rfl))) (mvT hZ (hw _ (List.mem_of_getElem? (i := 6) rfl))) (mvT hZ (hw _ (List.mem_of_getElem? (i := 7) rfl))) (mvT hZ (hw _ (List.mem_of_getElem? (i := 8) rfl))) (by decide) (backOf (W := 0) (rmE2n l Z a0 hw [] b198 k198 x0 x1 h201 n0 Z201 V201 f202 ex0 ex1) hZ (hw _ (List.mem_of_getElem? (i := 8) rfl)) (hw _ (List.mem_of_getElem? (i := 7) rfl)) (by decide) (by decide)) (g := (mkF m 66 #[.val (.int p1), .val (.int p2), .val (.int p3), .val (.int p4), .val (.int (2 : Int32)), .val (.int x0), .val (.int x1), .val (.int x2), .val (.ref b198), .unset, .unset, .unset, .unset, .unset, .unset] [(.ref b198)])) rfl (by rw [hml]; rfl) (argsL := [(.ref b198)]) (rest := []) (lenOf pd_3 rfl) rfl (by show 2 * 0 + _ ≤ _; exact Nat.le_of_eq rfl) (hb hby at_66) (fun _ _ => ⟨rfl, e201, (by decide : 1 + 0 ≤ _), (by decide : 2 + 0 ≤ _)⟩)
        dsimp only [Pt.U, Pt.locs, Pt.cells, Pt.slots] at X204 l204 y204 z204 st204 hQ204
        subst l204 y204 z204
        obtain ⟨rfl, Nq204, eq204⟩ := hQ204
        have Nf204 := Fr.app Nf201 Nq204
        have pre205 : ∀ t, Steps p.tables e below (T204.setTop (mkF m 197 #[.val (.int p1), .val (.int p2), .val (.int p3), .val (.int p4), .val (.int (2 : Int32)), .val (.int x0), .val (.int x1), .val (.int x2), .val (.ref b198), .val .null, .val (.int (1 : Int32)), .val (.int (-1 : Int32)), .unset, .unset, .unset] [(.int (1 : Int32))])) t → Steps p.tables e below (s₁.setTop (entryFrame m #[(.int p1), (.int p2), (.int p3), (.int p4)] maxLocals)) t := by
          intro t kt
          refine pre203 t ?_
          show Steps p.tables e below (T201.setTop (mkF m 66 #[.val (.int p1), .val (.int p2), .val (.int p3), .val (.int p4), .val (.int (2 : Int32)), .val (.int x0), .val (.int x1), .val (.int x2), .val (.ref b198), .unset, .unset, .unset, .unset, .unset, .unset] [(.ref b198)])) _
          refine st204 _ ?_
          show Steps p.tables e below (T204.setTop (mkF m 69 #[.val (.int p1), .val (.int p2), .val (.int p3), .val (.int p4), .val (.int (2 : Int32)), .val (.int x0), .val (.int x1), .val (.int x2), .val (.ref b198), .unset, .unset, .unset, .unset, .unset, .unset] [.null])) _
          refine XS.astore X204.here hx rfl (hb hby at_69) rfl rfl (l' := #[.val (.int p1), .val (.int p2), .val (.int p3), .val (.int p4), .val (.int (2 : Int32)), .val (.int x0), .val (.int x1), .val (.int x2), .val (.ref b198), .val .null, .unset, .unset, .unset, .unset, .unset]) rfl ?_
          show Steps p.tables e below (T204.setTop (mkF m 71 #[.val (.int p1), .val (.int p2), .val (.int p3), .val (.int p4), .val (.int (2 : Int32)), .val (.int x0), .val (.int x1), .val (.int x2), .val (.ref b198), .val .null, .unset, .unset, .unset, .unset, .unset] [])) _
          refine XS.iload X204.here hx rfl (hb hby at_71) rfl ?_
          show Steps p.tables e below (T204.setTop (mkF m 73 #[.val (.int p1), .val (.int p2), .val (.int p3), .val (.int p4), .val (.int (2 : Int32)), .val (.int x0), .val (.int x1), .val (.int x2), .val (.ref b198), .val .null, .unset, .unset, .unset, .unset, .unset] [(.int (2 : Int32))])) _
          refine XS.ifNo X204.here hx rfl (hb hby at_73) rfl ((if0 _ _).trans (tlt (by decide)).2.2.2) ?_
          show Steps p.tables e below (T204.setTop (mkF m 76 #[.val (.int p1), .val (.int p2), .val (.int p3), .val (.int p4), .val (.int (2 : Int32)), .val (.int x0), .val (.int x1), .val (.int x2), .val (.ref b198), .val .null, .unset, .unset, .unset, .unset, .unset] [])) _
          refine XS.aload X204.here hx rfl (hb hby at_76) rfl rfl ?_
          show Steps p.tables e below (T204.setTop (mkF m 78 #[.val (.int p1), .val (.int p2), .val (.int p3), .val (.int p4), .val (.int (2 : Int32)), .val (.int x0), .val (.int x1), .val (.int x2), .val (.ref b198), .val .null, .unset, .unset, .unset, .unset, .unset] [(.ref b198)])) _
          refine XS.iconst X204.here hx rfl (hb hby at_78) ?_
          show Steps p.tables e below (T204.setTop (mkF m 79 #[.val (.int p1), .val (.int p2), .val (.int p3), .val (.int p4), .val (.int (2 : Int32)), .val (.int x0), .val (.int x1), .val (.int x2), .val (.ref b198), .val .null, .unset, .unset, .unset, .unset, .unset] [(.int (0 : Int32)), (.ref b198)])) _
          refine own_bal X204 hx hZ eq204 V201 (j := (0 : Int32)) ⟨by decide, by decide⟩ (v := (.int x0)) rfl (g := (mkF m 79 #[.val (.int p1), .val (.int p2), .val (.int p3), .val (.int p4), .val (.int (2 : Int32)), .val (.int x0), .val (.int x1), .val (.int x2), .val (.ref b198), .val .null, .unset, .unset, .unset, .unset, .unset] [(.int (0 : Int32)), (.ref b198)])) rfl rfl (hb hby at_79) _ ?_
          show Steps p.tables e below (T204.setTop (mkF m 80 #[.val (.int p1), .val (.int p2), .val (.int p3), .val (.int p4), .val (.int (2 : Int32)), .val (.int x0), .val (.int x1), .val (.int x2), .val (.ref b198), .val .null, .unset, .unset, .unset, .unset, .unset] [(.int x0)])) _
          refine XS.iload X204.here hx rfl (hb hby at_80) rfl ?_
          show Steps p.tables e below (T204.setTop (mkF m 82 #[.val (.int p1), .val (.int p2), .val (.int p3), .val (.int p4), .val (.int (2 : Int32)), .val (.int x0), .val (.int x1), .val (.int x2), .val (.ref b198), .val .null, .unset, .unset, .unset, .unset, .unset] [(.int x0), (.int x0)])) _
          refine XS.icmpNo X204.here hx rfl (hb hby at_82) rfl (teq rfl).2 ?_
          show Steps p.tables e below (T204.setTop (mkF m 85 #[.val (.int p1), .val (.int p2), .val (.int p3), .val (.int p4), .val (.int (2 : Int32)), .val (.int x0), .val (.int x1), .val (.int x2), .val (.ref b198), .val .null, .unset, .unset, .unset, .unset, .unset] [])) _
          refine XS.iload X204.here hx rfl (hb hby at_85) rfl ?_
          show Steps p.tables e below (T204.setTop (mkF m 87 #[.val (.int p1), .val (.int p2), .val (.int p3), .val (.int p4), .val (.int (2 : Int32)), .val (.int x0), .val (.int x1), .val (.int x2), .val (.ref b198), .val .null, .unset, .unset, .unset, .unset, .unset] [(.int (2 : Int32))])) _
          refine XS.iconst X204.here hx rfl (hb hby at_87) ?_
          show Steps p.tables e below (T204.setTop (mkF m 88 #[.val (.int p1), .val (.int p2), .val (.int p3), .val (.int p4), .val (.int (2 : Int32)), .val (.int x0), .val (.int x1), .val (.int x2), .val (.ref b198), .val .null, .unset, .unset, .unset, .unset, .unset] [(.int (1 : Int32)), (.int (2 : Int32))])) _
          refine XS.icmpNo X204.here hx rfl (hb hby at_88) rfl (tlt (by decide)).2.2.2 ?_
          show Steps p.tables e below (T204.setTop (mkF m 91 #[.val (.int p1), .val (.int p2), .val (.int p3), .val (.int p4), .val (.int (2 : Int32)), .val (.int x0), .val (.int x1), .val (.int x2), .val (.ref b198), .val .null, .unset, .unset, .unset, .unset, .unset] [])) _
          refine XS.aload X204.here hx rfl (hb hby at_91) rfl rfl ?_
          show Steps p.tables e below (T204.setTop (mkF m 93 #[.val (.int p1), .val (.int p2), .val (.int p3), .val (.int p4), .val (.int (2 : Int32)), .val (.int x0), .val (.int x1), .val (.int x2), .val (.ref b198), .val .null, .unset, .unset, .unset, .unset, .unset] [(.ref b198)])) _
          refine XS.iconst X204.here hx rfl (hb hby at_93) ?_
          show Steps p.tables e below (T204.setTop (mkF m 94 #[.val (.int p1), .val (.int p2), .val (.int p3), .val (.int p4), .val (.int (2 : Int32)), .val (.int x0), .val (.int x1), .val (.int x2), .val (.ref b198), .val .null, .unset, .unset, .unset, .unset, .unset] [(.int (1 : Int32)), (.ref b198)])) _
          refine own_bal X204 hx hZ eq204 V201 (j := (1 : Int32)) ⟨by decide, by decide⟩ (v := (.int x1)) rfl (g := (mkF m 94 #[.val (.int p1), .val (.int p2), .val (.int p3), .val (.int p4), .val (.int (2 : Int32)), .val (.int x0), .val (.int x1), .val (.int x2), .val (.ref b198), .val .null, .unset, .unset, .unset, .unset, .unset] [(.int (1 : Int32)), (.ref b198)])) rfl rfl (hb hby at_94) _ ?_
          show Steps p.tables e below (T204.setTop (mkF m 95 #[.val (.int p1), .val (.int p2), .val (.int p3), .val (.int p4), .val (.int (2 : Int32)), .val (.int x0), .val (.int x1), .val (.int x2), .val (.ref b198), .val .null, .unset, .unset, .unset, .unset, .unset] [(.int x1)])) _
          refine XS.iload X204.here hx rfl (hb hby at_95) rfl ?_
          show Steps p.tables e below (T204.setTop (mkF m 97 #[.val (.int p1), .val (.int p2), .val (.int p3), .val (.int p4), .val (.int (2 : Int32)), .val (.int x0), .val (.int x1), .val (.int x2), .val (.ref b198), .val .null, .unset, .unset, .unset, .unset, .unset] [(.int x1), (.int x1)])) _
          refine XS.icmpNo X204.here hx rfl (hb hby at_97) rfl (teq rfl).2 ?_
          show Steps p.tables e below (T204.setTop (mkF m 100 #[.val (.int p1), .val (.int p2), .val (.int p3), .val (.int p4), .val (.int (2 : Int32)), .val (.int x0), .val (.int x1), .val (.int x2), .val (.ref b198), .val .null, .unset, .unset, .unset, .unset, .unset] [])) _
          refine XS.iload X204.here hx rfl (hb hby at_100) rfl ?_
          show Steps p.tables e below (T204.setTop (mkF m 102 #[.val (.int p1), .val (.int p2), .val (.int p3), .val (.int p4), .val (.int (2 : Int32)), .val (.int x0), .val (.int x1), .val (.int x2), .val (.ref b198), .val .null, .unset, .unset, .unset, .unset, .unset] [(.int (2 : Int32))])) _
          refine XS.iconst X204.here hx rfl (hb hby at_102) ?_
          show Steps p.tables e below (T204.setTop (mkF m 103 #[.val (.int p1), .val (.int p2), .val (.int p3), .val (.int p4), .val (.int (2 : Int32)), .val (.int x0), .val (.int x1), .val (.int x2), .val (.ref b198), .val .null, .unset, .unset, .unset, .unset, .unset] [(.int (2 : Int32)), (.int (2 : Int32))])) _
          refine XS.icmpYes X204.here hx rfl (pc0 := 103) (pc' := 115) rfl (hb hby at_103) rfl (flt (by decide)).2.2.2 (by decide) (by decide) ?_
          show Steps p.tables e below (T204.setTop (mkF m 115 #[.val (.int p1), .val (.int p2), .val (.int p3), .val (.int p4), .val (.int (2 : Int32)), .val (.int x0), .val (.int x1), .val (.int x2), .val (.ref b198), .val .null, .unset, .unset, .unset, .unset, .unset] [])) _
          refine XS.iconst X204.here hx rfl (hb hby at_115) ?_
          show Steps p.tables e below (T204.setTop (mkF m 116 #[.val (.int p1), .val (.int p2), .val (.int p3), .val (.int p4), .val (.int (2 : Int32)), .val (.int x0), .val (.int x1), .val (.int x2), .val (.ref b198), .val .null, .unset, .unset, .unset, .unset, .unset] [(.int (1 : Int32))])) _
          refine XS.goto X204.here hx rfl (pc0 := 116) (pc' := 120) rfl (hb hby at_116) (by decide) (by decide) ?_
          show Steps p.tables e below (T204.setTop (mkF m 120 #[.val (.int p1), .val (.int p2), .val (.int p3), .val (.int p4), .val (.int (2 : Int32)), .val (.int x0), .val (.int x1), .val (.int x2), .val (.ref b198), .val .null, .unset, .unset, .unset, .unset, .unset] [(.int (1 : Int32))])) _
          refine XS.istore X204.here hx rfl (hb hby at_120) rfl (l' := #[.val (.int p1), .val (.int p2), .val (.int p3), .val (.int p4), .val (.int (2 : Int32)), .val (.int x0), .val (.int x1), .val (.int x2), .val (.ref b198), .val .null, .val (.int (1 : Int32)), .unset, .unset, .unset, .unset]) rfl ?_
          show Steps p.tables e below (T204.setTop (mkF m 122 #[.val (.int p1), .val (.int p2), .val (.int p3), .val (.int p4), .val (.int (2 : Int32)), .val (.int x0), .val (.int x1), .val (.int x2), .val (.ref b198), .val .null, .val (.int (1 : Int32)), .unset, .unset, .unset, .unset] [])) _
          refine XS.iload X204.here hx rfl (hb hby at_122) rfl ?_
          show Steps p.tables e below (T204.setTop (mkF m 124 #[.val (.int p1), .val (.int p2), .val (.int p3), .val (.int p4), .val (.int (2 : Int32)), .val (.int x0), .val (.int x1), .val (.int x2), .val (.ref b198), .val .null, .val (.int (1 : Int32)), .unset, .unset, .unset, .unset] [(.int (1 : Int32))])) _
          refine XS.ifYes X204.here hx rfl (pc0 := 124) (pc' := 129) rfl (hb hby at_124) rfl ((if0 _ _).trans (feq (by decide)).2) (by decide) (by decide) ?_
          show Steps p.tables e below (T204.setTop (mkF m 129 #[.val (.int p1), .val (.int p2), .val (.int p3), .val (.int p4), .val (.int (2 : Int32)), .val (.int x0), .val (.int x1), .val (.int x2), .val (.ref b198), .val .null, .val (.int (1 : Int32)), .unset, .unset, .unset, .unset] [])) _
          refine XS.iconst X204.here hx rfl (hb hby at_129) ?_
          show Steps p.tables e below (T204.setTop (mkF m 130 #[.val (.int p1), .val (.int p2), .val (.int p3), .val (.int p4), .val (.int (2 : Int32)), .val (.int x0), .val (.int x1), .val (.int x2), .val (.ref b198), .val .null, .val (.int (1 : Int32)), .unset, .unset, .unset, .unset] [(.int (-1 : Int32))])) _
          refine XS.istore X204.here hx rfl (hb hby at_130) rfl (l' := #[.val (.int p1), .val (.int p2), .val (.int p3), .val (.int p4), .val (.int (2 : Int32)), .val (.int x0), .val (.int x1), .val (.int x2), .val (.ref b198), .val .null, .val (.int (1 : Int32)), .val (.int (-1 : Int32)), .unset, .unset, .unset]) rfl ?_
          show Steps p.tables e below (T204.setTop (mkF m 132 #[.val (.int p1), .val (.int p2), .val (.int p3), .val (.int p4), .val (.int (2 : Int32)), .val (.int x0), .val (.int x1), .val (.int x2), .val (.ref b198), .val .null, .val (.int (1 : Int32)), .val (.int (-1 : Int32)), .unset, .unset, .unset] [])) _
          refine XS.iload X204.here hx rfl (hb hby at_132) rfl ?_
          show Steps p.tables e below (T204.setTop (mkF m 134 #[.val (.int p1), .val (.int p2), .val (.int p3), .val (.int p4), .val (.int (2 : Int32)), .val (.int x0), .val (.int x1), .val (.int x2), .val (.ref b198), .val .null, .val (.int (1 : Int32)), .val (.int (-1 : Int32)), .unset, .unset, .unset] [(.int (2 : Int32))])) _
          refine XS.iconst X204.here hx rfl (hb hby at_134) ?_
          show Steps p.tables e below (T204.setTop (mkF m 135 #[.val (.int p1), .val (.int p2), .val (.int p3), .val (.int p4), .val (.int (2 : Int32)), .val (.int x0), .val (.int x1), .val (.int x2), .val (.ref b198), .val .null, .val (.int (1 : Int32)), .val (.int (-1 : Int32)), .unset, .unset, .unset] [(.int (2 : Int32)), (.int (2 : Int32))])) _
          refine XS.icmpYes X204.here hx rfl (pc0 := 135) (pc' := 150) rfl (hb hby at_135) rfl (flt (by decide)).2.2.2 (by decide) (by decide) ?_
          show Steps p.tables e below (T204.setTop (mkF m 150 #[.val (.int p1), .val (.int p2), .val (.int p3), .val (.int p4), .val (.int (2 : Int32)), .val (.int x0), .val (.int x1), .val (.int x2), .val (.ref b198), .val .null, .val (.int (1 : Int32)), .val (.int (-1 : Int32)), .unset, .unset, .unset] [])) _
          refine XS.iload X204.here hx rfl (hb hby at_150) rfl ?_
          show Steps p.tables e below (T204.setTop (mkF m 152 #[.val (.int p1), .val (.int p2), .val (.int p3), .val (.int p4), .val (.int (2 : Int32)), .val (.int x0), .val (.int x1), .val (.int x2), .val (.ref b198), .val .null, .val (.int (1 : Int32)), .val (.int (-1 : Int32)), .unset, .unset, .unset] [(.int (2 : Int32))])) _
          refine XS.iconst X204.here hx rfl (hb hby at_152) ?_
          show Steps p.tables e below (T204.setTop (mkF m 153 #[.val (.int p1), .val (.int p2), .val (.int p3), .val (.int p4), .val (.int (2 : Int32)), .val (.int x0), .val (.int x1), .val (.int x2), .val (.ref b198), .val .null, .val (.int (1 : Int32)), .val (.int (-1 : Int32)), .unset, .unset, .unset] [(.int (1 : Int32)), (.int (2 : Int32))])) _
          refine XS.icmpNo X204.here hx rfl (hb hby at_153) rfl (tlt (by decide)).2.2.2 ?_
          show Steps p.tables e below (T204.setTop (mkF m 156 #[.val (.int p1), .val (.int p2), .val (.int p3), .val (.int p4), .val (.int (2 : Int32)), .val (.int x0), .val (.int x1), .val (.int x2), .val (.ref b198), .val .null, .val (.int (1 : Int32)), .val (.int (-1 : Int32)), .unset, .unset, .unset] [])) _
          refine XS.iload X204.here hx rfl (hb hby at_156) rfl ?_
          show Steps p.tables e below (T204.setTop (mkF m 158 #[.val (.int p1), .val (.int p2), .val (.int p3), .val (.int p4), .val (.int (2 : Int32)), .val (.int x0), .val (.int x1), .val (.int x2), .val (.ref b198), .val .null, .val (.int (1 : Int32)), .val (.int (-1 : Int32)), .unset, .unset, .unset] [(.int x1)])) _
          refine XS.iconst X204.here hx rfl (hb hby at_158) ?_
          show Steps p.tables e below (T204.setTop (mkF m 159 #[.val (.int p1), .val (.int p2), .val (.int p3), .val (.int p4), .val (.int (2 : Int32)), .val (.int x0), .val (.int x1), .val (.int x2), .val (.ref b198), .val .null, .val (.int (1 : Int32)), .val (.int (-1 : Int32)), .unset, .unset, .unset] [(.int (-1 : Int32)), (.int x1)])) _
          refine XS.icmpYes X204.here hx rfl (pc0 := 159) (pc' := 168) rfl (hb hby at_159) rfl (teq ex1).1 (by decide) (by decide) ?_
          show Steps p.tables e below (T204.setTop (mkF m 168 #[.val (.int p1), .val (.int p2), .val (.int p3), .val (.int p4), .val (.int (2 : Int32)), .val (.int x0), .val (.int x1), .val (.int x2), .val (.ref b198), .val .null, .val (.int (1 : Int32)), .val (.int (-1 : Int32)), .unset, .unset, .unset] [])) _
          refine XS.iload X204.here hx rfl (hb hby at_168) rfl ?_
          show Steps p.tables e below (T204.setTop (mkF m 170 #[.val (.int p1), .val (.int p2), .val (.int p3), .val (.int p4), .val (.int (2 : Int32)), .val (.int x0), .val (.int x1), .val (.int x2), .val (.ref b198), .val .null, .val (.int (1 : Int32)), .val (.int (-1 : Int32)), .unset, .unset, .unset] [(.int (2 : Int32))])) _
          refine XS.ifNo X204.here hx rfl (hb hby at_170) rfl ((if0 _ _).trans (tlt (by decide)).2.2.2) ?_
          show Steps p.tables e below (T204.setTop (mkF m 173 #[.val (.int p1), .val (.int p2), .val (.int p3), .val (.int p4), .val (.int (2 : Int32)), .val (.int x0), .val (.int x1), .val (.int x2), .val (.ref b198), .val .null, .val (.int (1 : Int32)), .val (.int (-1 : Int32)), .unset, .unset, .unset] [])) _
          refine XS.iload X204.here hx rfl (hb hby at_173) rfl ?_
          show Steps p.tables e below (T204.setTop (mkF m 175 #[.val (.int p1), .val (.int p2), .val (.int p3), .val (.int p4), .val (.int (2 : Int32)), .val (.int x0), .val (.int x1), .val (.int x2), .val (.ref b198), .val .null, .val (.int (1 : Int32)), .val (.int (-1 : Int32)), .unset, .unset, .unset] [(.int x0)])) _
          refine XS.iconst X204.here hx rfl (hb hby at_175) ?_
          show Steps p.tables e below (T204.setTop (mkF m 176 #[.val (.int p1), .val (.int p2), .val (.int p3), .val (.int p4), .val (.int (2 : Int32)), .val (.int x0), .val (.int x1), .val (.int x2), .val (.ref b198), .val .null, .val (.int (1 : Int32)), .val (.int (-1 : Int32)), .unset, .unset, .unset] [(.int (-1 : Int32)), (.int x0)])) _
          refine XS.icmpYes X204.here hx rfl (pc0 := 176) (pc' := 182) rfl (hb hby at_176) rfl (teq ex0).1 (by decide) (by decide) ?_
          show Steps p.tables e below (T204.setTop (mkF m 182 #[.val (.int p1), .val (.int p2), .val (.int p3), .val (.int p4), .val (.int (2 : Int32)), .val (.int x0), .val (.int x1), .val (.int x2), .val (.ref b198), .val .null, .val (.int (1 : Int32)), .val (.int (-1 : Int32)), .unset, .unset, .unset] [])) _
          refine XS.iload X204.here hx rfl (hb hby at_182) rfl ?_
          show Steps p.tables e below (T204.setTop (mkF m 184 #[.val (.int p1), .val (.int p2), .val (.int p3), .val (.int p4), .val (.int (2 : Int32)), .val (.int x0), .val (.int x1), .val (.int x2), .val (.ref b198), .val .null, .val (.int (1 : Int32)), .val (.int (-1 : Int32)), .unset, .unset, .unset] [(.int (-1 : Int32))])) _
          refine XS.ifNo X204.here hx rfl (hb hby at_184) rfl ((if0 _ _).trans (tlt (by decide)).2.1) ?_
          show Steps p.tables e below (T204.setTop (mkF m 187 #[.val (.int p1), .val (.int p2), .val (.int p3), .val (.int p4), .val (.int (2 : Int32)), .val (.int x0), .val (.int x1), .val (.int x2), .val (.ref b198), .val .null, .val (.int (1 : Int32)), .val (.int (-1 : Int32)), .unset, .unset, .unset] [])) _
          refine XS.aload X204.here hx rfl (hb hby at_187) rfl rfl ?_
          show Steps p.tables e below (T204.setTop (mkF m 189 #[.val (.int p1), .val (.int p2), .val (.int p3), .val (.int p4), .val (.int (2 : Int32)), .val (.int x0), .val (.int x1), .val (.int x2), .val (.ref b198), .val .null, .val (.int (1 : Int32)), .val (.int (-1 : Int32)), .unset, .unset, .unset] [.null])) _
          refine XS.ifnonnullNo X204.here hx rfl (hb hby at_189) rfl ?_
          show Steps p.tables e below (T204.setTop (mkF m 192 #[.val (.int p1), .val (.int p2), .val (.int p3), .val (.int p4), .val (.int (2 : Int32)), .val (.int x0), .val (.int x1), .val (.int x2), .val (.ref b198), .val .null, .val (.int (1 : Int32)), .val (.int (-1 : Int32)), .unset, .unset, .unset] [])) _
          refine XS.iconst X204.here hx rfl (hb hby at_192) ?_
          show Steps p.tables e below (T204.setTop (mkF m 193 #[.val (.int p1), .val (.int p2), .val (.int p3), .val (.int p4), .val (.int (2 : Int32)), .val (.int x0), .val (.int x1), .val (.int x2), .val (.ref b198), .val .null, .val (.int (1 : Int32)), .val (.int (-1 : Int32)), .unset, .unset, .unset] [(.int (1 : Int32))])) _
          refine XS.goto X204.here hx rfl (pc0 := 193) (pc' := 197) rfl (hb hby at_193) (by decide) (by decide) ?_
          exact kt
        obtain ⟨fsx, hr, hrun, hended, hW, hsame⟩ := X204.leave (v := some (.int (nar .boolean (1 : Int32)))) (fun h => by rw [Bd.returns] at h; cases h)
        refine ⟨_, _, pre205 _ ?_, hrun, hended, _, _, rfl, ?_, ⟨_, rfl⟩, hW, hsame.mono (by decide) (by decide)⟩
        · exact retN X204 hx (t := .boolean) Bd.returns (by simp) (hb hby at_197) hr
        · show Q0 Z p1 p2 p3 p4 h0 n0 _ T204.heap _
          rw [eq204]
          exact ⟨rfl, Nf204⟩
      · obtain ⟨_, _, ⟨T206, L206, k206, n206⟩, -, X206, ⟨Lc206, hQ206, l206, y206, z206⟩, st206⟩ := Jvm.LawKit.callS X201 hx (y := (⟨"com/example/tessera/tessera/storage/Prefixes", "end", "([B)[B"⟩ : MethodName)) hown (mvT hZ (hw _ (List.mem_of_getElem? (i := 5) rfl))) (mvT hZ (hw _ (List.mem_of_getElem? (i := 6) rfl))) (mvT hZ (hw _ (List.mem_of_getElem? (i := 7) rfl))) (mvT hZ (hw _ (List.mem_of_getElem? (i := 8) rfl))) (by decide) (backOf (W := 0) (rmE20 l Z a0 hw [] b198 k198 x0 x1 h201 n0 Z201 V201 f202 ex1 ex0) hZ (hw _ (List.mem_of_getElem? (i := 8) rfl)) (hw _ (List.mem_of_getElem? (i := 7) rfl)) (by decide) (by decide)) (g := (mkF m 66 #[.val (.int p1), .val (.int p2), .val (.int p3), .val (.int p4), .val (.int (2 : Int32)), .val (.int x0), .val (.int x1), .val (.int x2), .val (.ref b198), .unset, .unset, .unset, .unset, .unset, .unset] [(.ref b198)])) rfl (by rw [hml]; rfl) (argsL := [(.ref b198)]) (rest := []) (lenOf pd_3 rfl) rfl (by show 2 * 0 + _ ≤ _; exact Nat.le_of_eq rfl) (hb hby at_66) (fun _ _ => ⟨rfl, e201, (by decide : 1 + 1 ≤ _), (by decide : 2 + 3 ≤ _)⟩)
        dsimp only [Pt.U, Pt.locs, Pt.cells, Pt.slots] at X206 l206 y206 z206 st206 hQ206
        subst l206 y206 z206
        obtain ⟨r, kr, rfl, Nq206, Kq206, szr, Vr⟩ := hQ206
        have f207 := (f202.keep Kq206)
        have f208 := (V201.keep Kq206 nin0)
        have Z206 : n0 ≤ T206.heap.size := Nat.le_trans Z201 Kq206.1
        have K206 : Keep h0 T206.heap [] := K201.trans Kq206 all0
        have Nf206 := Fr.app Nf201 Nq206
        have pre209 : ∀ t, Steps p.tables e below (T206.setTop (mkF m 303 #[.val (.int p1), .val (.int p2), .val (.int p3), .val (.int p4), .val (.int (2 : Int32)), .val (.int x0), .val (.int x1), .val (.int x2), .val (.ref b198), .val (.ref r), .val (.int (1 : Int32)), .val (.int (0 : Int32)), .val (.int ((x0 + (1 : Int32)).toInt8.toInt32)), .val (.int x1), .val (.int ((x2 + (1 : Int32)).toInt8.toInt32))] [(.int (1 : Int32))])) t → Steps p.tables e below (s₁.setTop (entryFrame m #[(.int p1), (.int p2), (.int p3), (.int p4)] maxLocals)) t := by
          intro t kt
          refine pre203 t ?_
          show Steps p.tables e below (T201.setTop (mkF m 66 #[.val (.int p1), .val (.int p2), .val (.int p3), .val (.int p4), .val (.int (2 : Int32)), .val (.int x0), .val (.int x1), .val (.int x2), .val (.ref b198), .unset, .unset, .unset, .unset, .unset, .unset] [(.ref b198)])) _
          refine st206 _ ?_
          show Steps p.tables e below (T206.setTop (mkF m 69 #[.val (.int p1), .val (.int p2), .val (.int p3), .val (.int p4), .val (.int (2 : Int32)), .val (.int x0), .val (.int x1), .val (.int x2), .val (.ref b198), .unset, .unset, .unset, .unset, .unset, .unset] [(.ref r)])) _
          refine XS.astore X206.here hx rfl (hb hby at_69) rfl rfl (l' := #[.val (.int p1), .val (.int p2), .val (.int p3), .val (.int p4), .val (.int (2 : Int32)), .val (.int x0), .val (.int x1), .val (.int x2), .val (.ref b198), .val (.ref r), .unset, .unset, .unset, .unset, .unset]) rfl ?_
          show Steps p.tables e below (T206.setTop (mkF m 71 #[.val (.int p1), .val (.int p2), .val (.int p3), .val (.int p4), .val (.int (2 : Int32)), .val (.int x0), .val (.int x1), .val (.int x2), .val (.ref b198), .val (.ref r), .unset, .unset, .unset, .unset, .unset] [])) _
          refine XS.iload X206.here hx rfl (hb hby at_71) rfl ?_
          show Steps p.tables e below (T206.setTop (mkF m 73 #[.val (.int p1), .val (.int p2), .val (.int p3), .val (.int p4), .val (.int (2 : Int32)), .val (.int x0), .val (.int x1), .val (.int x2), .val (.ref b198), .val (.ref r), .unset, .unset, .unset, .unset, .unset] [(.int (2 : Int32))])) _
          refine XS.ifNo X206.here hx rfl (hb hby at_73) rfl ((if0 _ _).trans (tlt (by decide)).2.2.2) ?_
          show Steps p.tables e below (T206.setTop (mkF m 76 #[.val (.int p1), .val (.int p2), .val (.int p3), .val (.int p4), .val (.int (2 : Int32)), .val (.int x0), .val (.int x1), .val (.int x2), .val (.ref b198), .val (.ref r), .unset, .unset, .unset, .unset, .unset] [])) _
          refine XS.aload X206.here hx rfl (hb hby at_76) rfl rfl ?_
          show Steps p.tables e below (T206.setTop (mkF m 78 #[.val (.int p1), .val (.int p2), .val (.int p3), .val (.int p4), .val (.int (2 : Int32)), .val (.int x0), .val (.int x1), .val (.int x2), .val (.ref b198), .val (.ref r), .unset, .unset, .unset, .unset, .unset] [(.ref b198)])) _
          refine XS.iconst X206.here hx rfl (hb hby at_78) ?_
          show Steps p.tables e below (T206.setTop (mkF m 79 #[.val (.int p1), .val (.int p2), .val (.int p3), .val (.int p4), .val (.int (2 : Int32)), .val (.int x0), .val (.int x1), .val (.int x2), .val (.ref b198), .val (.ref r), .unset, .unset, .unset, .unset, .unset] [(.int (0 : Int32)), (.ref b198)])) _
          refine own_bal X206 hx hZ rfl f208 (j := (0 : Int32)) ⟨by decide, by decide⟩ (v := (.int x0)) rfl (g := (mkF m 79 #[.val (.int p1), .val (.int p2), .val (.int p3), .val (.int p4), .val (.int (2 : Int32)), .val (.int x0), .val (.int x1), .val (.int x2), .val (.ref b198), .val (.ref r), .unset, .unset, .unset, .unset, .unset] [(.int (0 : Int32)), (.ref b198)])) rfl rfl (hb hby at_79) _ ?_
          show Steps p.tables e below (T206.setTop (mkF m 80 #[.val (.int p1), .val (.int p2), .val (.int p3), .val (.int p4), .val (.int (2 : Int32)), .val (.int x0), .val (.int x1), .val (.int x2), .val (.ref b198), .val (.ref r), .unset, .unset, .unset, .unset, .unset] [(.int x0)])) _
          refine XS.iload X206.here hx rfl (hb hby at_80) rfl ?_
          show Steps p.tables e below (T206.setTop (mkF m 82 #[.val (.int p1), .val (.int p2), .val (.int p3), .val (.int p4), .val (.int (2 : Int32)), .val (.int x0), .val (.int x1), .val (.int x2), .val (.ref b198), .val (.ref r), .unset, .unset, .unset, .unset, .unset] [(.int x0), (.int x0)])) _
          refine XS.icmpNo X206.here hx rfl (hb hby at_82) rfl (teq rfl).2 ?_
          show Steps p.tables e below (T206.setTop (mkF m 85 #[.val (.int p1), .val (.int p2), .val (.int p3), .val (.int p4), .val (.int (2 : Int32)), .val (.int x0), .val (.int x1), .val (.int x2), .val (.ref b198), .val (.ref r), .unset, .unset, .unset, .unset, .unset] [])) _
          refine XS.iload X206.here hx rfl (hb hby at_85) rfl ?_
          show Steps p.tables e below (T206.setTop (mkF m 87 #[.val (.int p1), .val (.int p2), .val (.int p3), .val (.int p4), .val (.int (2 : Int32)), .val (.int x0), .val (.int x1), .val (.int x2), .val (.ref b198), .val (.ref r), .unset, .unset, .unset, .unset, .unset] [(.int (2 : Int32))])) _
          refine XS.iconst X206.here hx rfl (hb hby at_87) ?_
          show Steps p.tables e below (T206.setTop (mkF m 88 #[.val (.int p1), .val (.int p2), .val (.int p3), .val (.int p4), .val (.int (2 : Int32)), .val (.int x0), .val (.int x1), .val (.int x2), .val (.ref b198), .val (.ref r), .unset, .unset, .unset, .unset, .unset] [(.int (1 : Int32)), (.int (2 : Int32))])) _
          refine XS.icmpNo X206.here hx rfl (hb hby at_88) rfl (tlt (by decide)).2.2.2 ?_
          show Steps p.tables e below (T206.setTop (mkF m 91 #[.val (.int p1), .val (.int p2), .val (.int p3), .val (.int p4), .val (.int (2 : Int32)), .val (.int x0), .val (.int x1), .val (.int x2), .val (.ref b198), .val (.ref r), .unset, .unset, .unset, .unset, .unset] [])) _
          refine XS.aload X206.here hx rfl (hb hby at_91) rfl rfl ?_
          show Steps p.tables e below (T206.setTop (mkF m 93 #[.val (.int p1), .val (.int p2), .val (.int p3), .val (.int p4), .val (.int (2 : Int32)), .val (.int x0), .val (.int x1), .val (.int x2), .val (.ref b198), .val (.ref r), .unset, .unset, .unset, .unset, .unset] [(.ref b198)])) _
          refine XS.iconst X206.here hx rfl (hb hby at_93) ?_
          show Steps p.tables e below (T206.setTop (mkF m 94 #[.val (.int p1), .val (.int p2), .val (.int p3), .val (.int p4), .val (.int (2 : Int32)), .val (.int x0), .val (.int x1), .val (.int x2), .val (.ref b198), .val (.ref r), .unset, .unset, .unset, .unset, .unset] [(.int (1 : Int32)), (.ref b198)])) _
          refine own_bal X206 hx hZ rfl f208 (j := (1 : Int32)) ⟨by decide, by decide⟩ (v := (.int x1)) rfl (g := (mkF m 94 #[.val (.int p1), .val (.int p2), .val (.int p3), .val (.int p4), .val (.int (2 : Int32)), .val (.int x0), .val (.int x1), .val (.int x2), .val (.ref b198), .val (.ref r), .unset, .unset, .unset, .unset, .unset] [(.int (1 : Int32)), (.ref b198)])) rfl rfl (hb hby at_94) _ ?_
          show Steps p.tables e below (T206.setTop (mkF m 95 #[.val (.int p1), .val (.int p2), .val (.int p3), .val (.int p4), .val (.int (2 : Int32)), .val (.int x0), .val (.int x1), .val (.int x2), .val (.ref b198), .val (.ref r), .unset, .unset, .unset, .unset, .unset] [(.int x1)])) _
          refine XS.iload X206.here hx rfl (hb hby at_95) rfl ?_
          show Steps p.tables e below (T206.setTop (mkF m 97 #[.val (.int p1), .val (.int p2), .val (.int p3), .val (.int p4), .val (.int (2 : Int32)), .val (.int x0), .val (.int x1), .val (.int x2), .val (.ref b198), .val (.ref r), .unset, .unset, .unset, .unset, .unset] [(.int x1), (.int x1)])) _
          refine XS.icmpNo X206.here hx rfl (hb hby at_97) rfl (teq rfl).2 ?_
          show Steps p.tables e below (T206.setTop (mkF m 100 #[.val (.int p1), .val (.int p2), .val (.int p3), .val (.int p4), .val (.int (2 : Int32)), .val (.int x0), .val (.int x1), .val (.int x2), .val (.ref b198), .val (.ref r), .unset, .unset, .unset, .unset, .unset] [])) _
          refine XS.iload X206.here hx rfl (hb hby at_100) rfl ?_
          show Steps p.tables e below (T206.setTop (mkF m 102 #[.val (.int p1), .val (.int p2), .val (.int p3), .val (.int p4), .val (.int (2 : Int32)), .val (.int x0), .val (.int x1), .val (.int x2), .val (.ref b198), .val (.ref r), .unset, .unset, .unset, .unset, .unset] [(.int (2 : Int32))])) _
          refine XS.iconst X206.here hx rfl (hb hby at_102) ?_
          show Steps p.tables e below (T206.setTop (mkF m 103 #[.val (.int p1), .val (.int p2), .val (.int p3), .val (.int p4), .val (.int (2 : Int32)), .val (.int x0), .val (.int x1), .val (.int x2), .val (.ref b198), .val (.ref r), .unset, .unset, .unset, .unset, .unset] [(.int (2 : Int32)), (.int (2 : Int32))])) _
          refine XS.icmpYes X206.here hx rfl (pc0 := 103) (pc' := 115) rfl (hb hby at_103) rfl (flt (by decide)).2.2.2 (by decide) (by decide) ?_
          show Steps p.tables e below (T206.setTop (mkF m 115 #[.val (.int p1), .val (.int p2), .val (.int p3), .val (.int p4), .val (.int (2 : Int32)), .val (.int x0), .val (.int x1), .val (.int x2), .val (.ref b198), .val (.ref r), .unset, .unset, .unset, .unset, .unset] [])) _
          refine XS.iconst X206.here hx rfl (hb hby at_115) ?_
          show Steps p.tables e below (T206.setTop (mkF m 116 #[.val (.int p1), .val (.int p2), .val (.int p3), .val (.int p4), .val (.int (2 : Int32)), .val (.int x0), .val (.int x1), .val (.int x2), .val (.ref b198), .val (.ref r), .unset, .unset, .unset, .unset, .unset] [(.int (1 : Int32))])) _
          refine XS.goto X206.here hx rfl (pc0 := 116) (pc' := 120) rfl (hb hby at_116) (by decide) (by decide) ?_
          show Steps p.tables e below (T206.setTop (mkF m 120 #[.val (.int p1), .val (.int p2), .val (.int p3), .val (.int p4), .val (.int (2 : Int32)), .val (.int x0), .val (.int x1), .val (.int x2), .val (.ref b198), .val (.ref r), .unset, .unset, .unset, .unset, .unset] [(.int (1 : Int32))])) _
          refine XS.istore X206.here hx rfl (hb hby at_120) rfl (l' := #[.val (.int p1), .val (.int p2), .val (.int p3), .val (.int p4), .val (.int (2 : Int32)), .val (.int x0), .val (.int x1), .val (.int x2), .val (.ref b198), .val (.ref r), .val (.int (1 : Int32)), .unset, .unset, .unset, .unset]) rfl ?_
          show Steps p.tables e below (T206.setTop (mkF m 122 #[.val (.int p1), .val (.int p2), .val (.int p3), .val (.int p4), .val (.int (2 : Int32)), .val (.int x0), .val (.int x1), .val (.int x2), .val (.ref b198), .val (.ref r), .val (.int (1 : Int32)), .unset, .unset, .unset, .unset] [])) _
          refine XS.iload X206.here hx rfl (hb hby at_122) rfl ?_
          show Steps p.tables e below (T206.setTop (mkF m 124 #[.val (.int p1), .val (.int p2), .val (.int p3), .val (.int p4), .val (.int (2 : Int32)), .val (.int x0), .val (.int x1), .val (.int x2), .val (.ref b198), .val (.ref r), .val (.int (1 : Int32)), .unset, .unset, .unset, .unset] [(.int (1 : Int32))])) _
          refine XS.ifYes X206.here hx rfl (pc0 := 124) (pc' := 129) rfl (hb hby at_124) rfl ((if0 _ _).trans (feq (by decide)).2) (by decide) (by decide) ?_
          show Steps p.tables e below (T206.setTop (mkF m 129 #[.val (.int p1), .val (.int p2), .val (.int p3), .val (.int p4), .val (.int (2 : Int32)), .val (.int x0), .val (.int x1), .val (.int x2), .val (.ref b198), .val (.ref r), .val (.int (1 : Int32)), .unset, .unset, .unset, .unset] [])) _
          refine XS.iconst X206.here hx rfl (hb hby at_129) ?_
          show Steps p.tables e below (T206.setTop (mkF m 130 #[.val (.int p1), .val (.int p2), .val (.int p3), .val (.int p4), .val (.int (2 : Int32)), .val (.int x0), .val (.int x1), .val (.int x2), .val (.ref b198), .val (.ref r), .val (.int (1 : Int32)), .unset, .unset, .unset, .unset] [(.int (-1 : Int32))])) _
          refine XS.istore X206.here hx rfl (hb hby at_130) rfl (l' := #[.val (.int p1), .val (.int p2), .val (.int p3), .val (.int p4), .val (.int (2 : Int32)), .val (.int x0), .val (.int x1), .val (.int x2), .val (.ref b198), .val (.ref r), .val (.int (1 : Int32)), .val (.int (-1 : Int32)), .unset, .unset, .unset]) rfl ?_
          show Steps p.tables e below (T206.setTop (mkF m 132 #[.val (.int p1), .val (.int p2), .val (.int p3), .val (.int p4), .val (.int (2 : Int32)), .val (.int x0), .val (.int x1), .val (.int x2), .val (.ref b198), .val (.ref r), .val (.int (1 : Int32)), .val (.int (-1 : Int32)), .unset, .unset, .unset] [])) _
          refine XS.iload X206.here hx rfl (hb hby at_132) rfl ?_
          show Steps p.tables e below (T206.setTop (mkF m 134 #[.val (.int p1), .val (.int p2), .val (.int p3), .val (.int p4), .val (.int (2 : Int32)), .val (.int x0), .val (.int x1), .val (.int x2), .val (.ref b198), .val (.ref r), .val (.int (1 : Int32)), .val (.int (-1 : Int32)), .unset, .unset, .unset] [(.int (2 : Int32))])) _
          refine XS.iconst X206.here hx rfl (hb hby at_134) ?_
          show Steps p.tables e below (T206.setTop (mkF m 135 #[.val (.int p1), .val (.int p2), .val (.int p3), .val (.int p4), .val (.int (2 : Int32)), .val (.int x0), .val (.int x1), .val (.int x2), .val (.ref b198), .val (.ref r), .val (.int (1 : Int32)), .val (.int (-1 : Int32)), .unset, .unset, .unset] [(.int (2 : Int32)), (.int (2 : Int32))])) _
          refine XS.icmpYes X206.here hx rfl (pc0 := 135) (pc' := 150) rfl (hb hby at_135) rfl (flt (by decide)).2.2.2 (by decide) (by decide) ?_
          show Steps p.tables e below (T206.setTop (mkF m 150 #[.val (.int p1), .val (.int p2), .val (.int p3), .val (.int p4), .val (.int (2 : Int32)), .val (.int x0), .val (.int x1), .val (.int x2), .val (.ref b198), .val (.ref r), .val (.int (1 : Int32)), .val (.int (-1 : Int32)), .unset, .unset, .unset] [])) _
          refine XS.iload X206.here hx rfl (hb hby at_150) rfl ?_
          show Steps p.tables e below (T206.setTop (mkF m 152 #[.val (.int p1), .val (.int p2), .val (.int p3), .val (.int p4), .val (.int (2 : Int32)), .val (.int x0), .val (.int x1), .val (.int x2), .val (.ref b198), .val (.ref r), .val (.int (1 : Int32)), .val (.int (-1 : Int32)), .unset, .unset, .unset] [(.int (2 : Int32))])) _
          refine XS.iconst X206.here hx rfl (hb hby at_152) ?_
          show Steps p.tables e below (T206.setTop (mkF m 153 #[.val (.int p1), .val (.int p2), .val (.int p3), .val (.int p4), .val (.int (2 : Int32)), .val (.int x0), .val (.int x1), .val (.int x2), .val (.ref b198), .val (.ref r), .val (.int (1 : Int32)), .val (.int (-1 : Int32)), .unset, .unset, .unset] [(.int (1 : Int32)), (.int (2 : Int32))])) _
          refine XS.icmpNo X206.here hx rfl (hb hby at_153) rfl (tlt (by decide)).2.2.2 ?_
          show Steps p.tables e below (T206.setTop (mkF m 156 #[.val (.int p1), .val (.int p2), .val (.int p3), .val (.int p4), .val (.int (2 : Int32)), .val (.int x0), .val (.int x1), .val (.int x2), .val (.ref b198), .val (.ref r), .val (.int (1 : Int32)), .val (.int (-1 : Int32)), .unset, .unset, .unset] [])) _
          refine XS.iload X206.here hx rfl (hb hby at_156) rfl ?_
          show Steps p.tables e below (T206.setTop (mkF m 158 #[.val (.int p1), .val (.int p2), .val (.int p3), .val (.int p4), .val (.int (2 : Int32)), .val (.int x0), .val (.int x1), .val (.int x2), .val (.ref b198), .val (.ref r), .val (.int (1 : Int32)), .val (.int (-1 : Int32)), .unset, .unset, .unset] [(.int x1)])) _
          refine XS.iconst X206.here hx rfl (hb hby at_158) ?_
          show Steps p.tables e below (T206.setTop (mkF m 159 #[.val (.int p1), .val (.int p2), .val (.int p3), .val (.int p4), .val (.int (2 : Int32)), .val (.int x0), .val (.int x1), .val (.int x2), .val (.ref b198), .val (.ref r), .val (.int (1 : Int32)), .val (.int (-1 : Int32)), .unset, .unset, .unset] [(.int (-1 : Int32)), (.int x1)])) _
          refine XS.icmpYes X206.here hx rfl (pc0 := 159) (pc' := 168) rfl (hb hby at_159) rfl (teq ex1).1 (by decide) (by decide) ?_
          show Steps p.tables e below (T206.setTop (mkF m 168 #[.val (.int p1), .val (.int p2), .val (.int p3), .val (.int p4), .val (.int (2 : Int32)), .val (.int x0), .val (.int x1), .val (.int x2), .val (.ref b198), .val (.ref r), .val (.int (1 : Int32)), .val (.int (-1 : Int32)), .unset, .unset, .unset] [])) _
          refine XS.iload X206.here hx rfl (hb hby at_168) rfl ?_
          show Steps p.tables e below (T206.setTop (mkF m 170 #[.val (.int p1), .val (.int p2), .val (.int p3), .val (.int p4), .val (.int (2 : Int32)), .val (.int x0), .val (.int x1), .val (.int x2), .val (.ref b198), .val (.ref r), .val (.int (1 : Int32)), .val (.int (-1 : Int32)), .unset, .unset, .unset] [(.int (2 : Int32))])) _
          refine XS.ifNo X206.here hx rfl (hb hby at_170) rfl ((if0 _ _).trans (tlt (by decide)).2.2.2) ?_
          show Steps p.tables e below (T206.setTop (mkF m 173 #[.val (.int p1), .val (.int p2), .val (.int p3), .val (.int p4), .val (.int (2 : Int32)), .val (.int x0), .val (.int x1), .val (.int x2), .val (.ref b198), .val (.ref r), .val (.int (1 : Int32)), .val (.int (-1 : Int32)), .unset, .unset, .unset] [])) _
          refine XS.iload X206.here hx rfl (hb hby at_173) rfl ?_
          show Steps p.tables e below (T206.setTop (mkF m 175 #[.val (.int p1), .val (.int p2), .val (.int p3), .val (.int p4), .val (.int (2 : Int32)), .val (.int x0), .val (.int x1), .val (.int x2), .val (.ref b198), .val (.ref r), .val (.int (1 : Int32)), .val (.int (-1 : Int32)), .unset, .unset, .unset] [(.int x0)])) _
          refine XS.iconst X206.here hx rfl (hb hby at_175) ?_
          show Steps p.tables e below (T206.setTop (mkF m 176 #[.val (.int p1), .val (.int p2), .val (.int p3), .val (.int p4), .val (.int (2 : Int32)), .val (.int x0), .val (.int x1), .val (.int x2), .val (.ref b198), .val (.ref r), .val (.int (1 : Int32)), .val (.int (-1 : Int32)), .unset, .unset, .unset] [(.int (-1 : Int32)), (.int x0)])) _
          refine XS.icmpNo X206.here hx rfl (hb hby at_176) rfl (feq ex0).1 ?_
          show Steps p.tables e below (T206.setTop (mkF m 179 #[.val (.int p1), .val (.int p2), .val (.int p3), .val (.int p4), .val (.int (2 : Int32)), .val (.int x0), .val (.int x1), .val (.int x2), .val (.ref b198), .val (.ref r), .val (.int (1 : Int32)), .val (.int (-1 : Int32)), .unset, .unset, .unset] [])) _
          refine XS.iconst X206.here hx rfl (hb hby at_179) ?_
          show Steps p.tables e below (T206.setTop (mkF m 180 #[.val (.int p1), .val (.int p2), .val (.int p3), .val (.int p4), .val (.int (2 : Int32)), .val (.int x0), .val (.int x1), .val (.int x2), .val (.ref b198), .val (.ref r), .val (.int (1 : Int32)), .val (.int (-1 : Int32)), .unset, .unset, .unset] [(.int (0 : Int32))])) _
          refine XS.istore X206.here hx rfl (hb hby at_180) rfl (l' := #[.val (.int p1), .val (.int p2), .val (.int p3), .val (.int p4), .val (.int (2 : Int32)), .val (.int x0), .val (.int x1), .val (.int x2), .val (.ref b198), .val (.ref r), .val (.int (1 : Int32)), .val (.int (0 : Int32)), .unset, .unset, .unset]) rfl ?_
          show Steps p.tables e below (T206.setTop (mkF m 182 #[.val (.int p1), .val (.int p2), .val (.int p3), .val (.int p4), .val (.int (2 : Int32)), .val (.int x0), .val (.int x1), .val (.int x2), .val (.ref b198), .val (.ref r), .val (.int (1 : Int32)), .val (.int (0 : Int32)), .unset, .unset, .unset] [])) _
          refine XS.iload X206.here hx rfl (hb hby at_182) rfl ?_
          show Steps p.tables e below (T206.setTop (mkF m 184 #[.val (.int p1), .val (.int p2), .val (.int p3), .val (.int p4), .val (.int (2 : Int32)), .val (.int x0), .val (.int x1), .val (.int x2), .val (.ref b198), .val (.ref r), .val (.int (1 : Int32)), .val (.int (0 : Int32)), .unset, .unset, .unset] [(.int (0 : Int32))])) _
          refine XS.ifYes X206.here hx rfl (pc0 := 184) (pc' := 198) rfl (hb hby at_184) rfl ((if0 _ _).trans (flt (by decide)).2.1) (by decide) (by decide) ?_
          show Steps p.tables e below (T206.setTop (mkF m 198 #[.val (.int p1), .val (.int p2), .val (.int p3), .val (.int p4), .val (.int (2 : Int32)), .val (.int x0), .val (.int x1), .val (.int x2), .val (.ref b198), .val (.ref r), .val (.int (1 : Int32)), .val (.int (0 : Int32)), .unset, .unset, .unset] [])) _
          refine XS.aload X206.here hx rfl (hb hby at_198) rfl rfl ?_
          show Steps p.tables e below (T206.setTop (mkF m 200 #[.val (.int p1), .val (.int p2), .val (.int p3), .val (.int p4), .val (.int (2 : Int32)), .val (.int x0), .val (.int x1), .val (.int x2), .val (.ref b198), .val (.ref r), .val (.int (1 : Int32)), .val (.int (0 : Int32)), .unset, .unset, .unset] [(.ref r)])) _
          refine XS.ifnullNo X206.here hx rfl (hb hby at_200) rfl ?_
          show Steps p.tables e below (T206.setTop (mkF m 203 #[.val (.int p1), .val (.int p2), .val (.int p3), .val (.int p4), .val (.int (2 : Int32)), .val (.int x0), .val (.int x1), .val (.int x2), .val (.ref b198), .val (.ref r), .val (.int (1 : Int32)), .val (.int (0 : Int32)), .unset, .unset, .unset] [])) _
          refine XS.aload X206.here hx rfl (hb hby at_203) rfl rfl ?_
          show Steps p.tables e below (T206.setTop (mkF m 205 #[.val (.int p1), .val (.int p2), .val (.int p3), .val (.int p4), .val (.int (2 : Int32)), .val (.int x0), .val (.int x1), .val (.int x2), .val (.ref b198), .val (.ref r), .val (.int (1 : Int32)), .val (.int (0 : Int32)), .unset, .unset, .unset] [(.ref r)])) _
          refine own_len X206 hx hZ rfl Vr (g := (mkF m 205 #[.val (.int p1), .val (.int p2), .val (.int p3), .val (.int p4), .val (.int (2 : Int32)), .val (.int x0), .val (.int x1), .val (.int x2), .val (.ref b198), .val (.ref r), .val (.int (1 : Int32)), .val (.int (0 : Int32)), .unset, .unset, .unset] [(.ref r)])) rfl rfl (hb hby at_205) _ ?_
          show Steps p.tables e below (T206.setTop (mkF m 206 #[.val (.int p1), .val (.int p2), .val (.int p3), .val (.int p4), .val (.int (2 : Int32)), .val (.int x0), .val (.int x1), .val (.int x2), .val (.ref b198), .val (.ref r), .val (.int (1 : Int32)), .val (.int (0 : Int32)), .unset, .unset, .unset] [(.int (1 : Int32))])) _
          refine XS.iload X206.here hx rfl (hb hby at_206) rfl ?_
          show Steps p.tables e below (T206.setTop (mkF m 208 #[.val (.int p1), .val (.int p2), .val (.int p3), .val (.int p4), .val (.int (2 : Int32)), .val (.int x0), .val (.int x1), .val (.int x2), .val (.ref b198), .val (.ref r), .val (.int (1 : Int32)), .val (.int (0 : Int32)), .unset, .unset, .unset] [(.int (0 : Int32)), (.int (1 : Int32))])) _
          refine XS.iconst X206.here hx rfl (hb hby at_208) ?_
          show Steps p.tables e below (T206.setTop (mkF m 209 #[.val (.int p1), .val (.int p2), .val (.int p3), .val (.int p4), .val (.int (2 : Int32)), .val (.int x0), .val (.int x1), .val (.int x2), .val (.ref b198), .val (.ref r), .val (.int (1 : Int32)), .val (.int (0 : Int32)), .unset, .unset, .unset] [(.int (1 : Int32)), (.int (0 : Int32)), (.int (1 : Int32))])) _
          refine XS.iadd X206.here hx rfl (hb hby at_209) rfl ?_
          show Steps p.tables e below (T206.setTop (mkF m 210 #[.val (.int p1), .val (.int p2), .val (.int p3), .val (.int p4), .val (.int (2 : Int32)), .val (.int x0), .val (.int x1), .val (.int x2), .val (.ref b198), .val (.ref r), .val (.int (1 : Int32)), .val (.int (0 : Int32)), .unset, .unset, .unset] [(.int (1 : Int32)), (.int (1 : Int32))])) _
          refine XS.icmpYes X206.here hx rfl (pc0 := 210) (pc' := 215) rfl (hb hby at_210) rfl (teq (by decide)).1 (by decide) (by decide) ?_
          show Steps p.tables e below (T206.setTop (mkF m 215 #[.val (.int p1), .val (.int p2), .val (.int p3), .val (.int p4), .val (.int (2 : Int32)), .val (.int x0), .val (.int x1), .val (.int x2), .val (.ref b198), .val (.ref r), .val (.int (1 : Int32)), .val (.int (0 : Int32)), .unset, .unset, .unset] [])) _
          refine XS.iload X206.here hx rfl (hb hby at_215) rfl ?_
          show Steps p.tables e below (T206.setTop (mkF m 217 #[.val (.int p1), .val (.int p2), .val (.int p3), .val (.int p4), .val (.int (2 : Int32)), .val (.int x0), .val (.int x1), .val (.int x2), .val (.ref b198), .val (.ref r), .val (.int (1 : Int32)), .val (.int (0 : Int32)), .unset, .unset, .unset] [(.int (0 : Int32))])) _
          refine XS.ifNo X206.here hx rfl (hb hby at_217) rfl ((if0 _ _).trans (teq (by decide)).2) ?_
          show Steps p.tables e below (T206.setTop (mkF m 220 #[.val (.int p1), .val (.int p2), .val (.int p3), .val (.int p4), .val (.int (2 : Int32)), .val (.int x0), .val (.int x1), .val (.int x2), .val (.ref b198), .val (.ref r), .val (.int (1 : Int32)), .val (.int (0 : Int32)), .unset, .unset, .unset] [])) _
          refine XS.iload X206.here hx rfl (hb hby at_220) rfl ?_
          show Steps p.tables e below (T206.setTop (mkF m 222 #[.val (.int p1), .val (.int p2), .val (.int p3), .val (.int p4), .val (.int (2 : Int32)), .val (.int x0), .val (.int x1), .val (.int x2), .val (.ref b198), .val (.ref r), .val (.int (1 : Int32)), .val (.int (0 : Int32)), .unset, .unset, .unset] [(.int x0)])) _
          refine XS.iconst X206.here hx rfl (hb hby at_222) ?_
          show Steps p.tables e below (T206.setTop (mkF m 223 #[.val (.int p1), .val (.int p2), .val (.int p3), .val (.int p4), .val (.int (2 : Int32)), .val (.int x0), .val (.int x1), .val (.int x2), .val (.ref b198), .val (.ref r), .val (.int (1 : Int32)), .val (.int (0 : Int32)), .unset, .unset, .unset] [(.int (1 : Int32)), (.int x0)])) _
          refine XS.iadd X206.here hx rfl (hb hby at_223) rfl ?_
          show Steps p.tables e below (T206.setTop (mkF m 224 #[.val (.int p1), .val (.int p2), .val (.int p3), .val (.int p4), .val (.int (2 : Int32)), .val (.int x0), .val (.int x1), .val (.int x2), .val (.ref b198), .val (.ref r), .val (.int (1 : Int32)), .val (.int (0 : Int32)), .unset, .unset, .unset] [(.int (x0 + (1 : Int32)))])) _
          refine XS.i2b X206.here hx rfl (hb hby at_224) rfl ?_
          show Steps p.tables e below (T206.setTop (mkF m 225 #[.val (.int p1), .val (.int p2), .val (.int p3), .val (.int p4), .val (.int (2 : Int32)), .val (.int x0), .val (.int x1), .val (.int x2), .val (.ref b198), .val (.ref r), .val (.int (1 : Int32)), .val (.int (0 : Int32)), .unset, .unset, .unset] [(.int ((x0 + (1 : Int32)).toInt8.toInt32))])) _
          refine XS.goto X206.here hx rfl (pc0 := 225) (pc' := 230) rfl (hb hby at_225) (by decide) (by decide) ?_
          show Steps p.tables e below (T206.setTop (mkF m 230 #[.val (.int p1), .val (.int p2), .val (.int p3), .val (.int p4), .val (.int (2 : Int32)), .val (.int x0), .val (.int x1), .val (.int x2), .val (.ref b198), .val (.ref r), .val (.int (1 : Int32)), .val (.int (0 : Int32)), .unset, .unset, .unset] [(.int ((x0 + (1 : Int32)).toInt8.toInt32))])) _
          refine XS.istore X206.here hx rfl (hb hby at_230) rfl (l' := #[.val (.int p1), .val (.int p2), .val (.int p3), .val (.int p4), .val (.int (2 : Int32)), .val (.int x0), .val (.int x1), .val (.int x2), .val (.ref b198), .val (.ref r), .val (.int (1 : Int32)), .val (.int (0 : Int32)), .val (.int ((x0 + (1 : Int32)).toInt8.toInt32)), .unset, .unset]) rfl ?_
          show Steps p.tables e below (T206.setTop (mkF m 232 #[.val (.int p1), .val (.int p2), .val (.int p3), .val (.int p4), .val (.int (2 : Int32)), .val (.int x0), .val (.int x1), .val (.int x2), .val (.ref b198), .val (.ref r), .val (.int (1 : Int32)), .val (.int (0 : Int32)), .val (.int ((x0 + (1 : Int32)).toInt8.toInt32)), .unset, .unset] [])) _
          refine XS.iload X206.here hx rfl (hb hby at_232) rfl ?_
          show Steps p.tables e below (T206.setTop (mkF m 234 #[.val (.int p1), .val (.int p2), .val (.int p3), .val (.int p4), .val (.int (2 : Int32)), .val (.int x0), .val (.int x1), .val (.int x2), .val (.ref b198), .val (.ref r), .val (.int (1 : Int32)), .val (.int (0 : Int32)), .val (.int ((x0 + (1 : Int32)).toInt8.toInt32)), .unset, .unset] [(.int (0 : Int32))])) _
          refine XS.iconst X206.here hx rfl (hb hby at_234) ?_
          show Steps p.tables e below (T206.setTop (mkF m 235 #[.val (.int p1), .val (.int p2), .val (.int p3), .val (.int p4), .val (.int (2 : Int32)), .val (.int x0), .val (.int x1), .val (.int x2), .val (.ref b198), .val (.ref r), .val (.int (1 : Int32)), .val (.int (0 : Int32)), .val (.int ((x0 + (1 : Int32)).toInt8.toInt32)), .unset, .unset] [(.int (1 : Int32)), (.int (0 : Int32))])) _
          refine XS.icmpYes X206.here hx rfl (pc0 := 235) (pc' := 246) rfl (hb hby at_235) rfl (feq (by decide)).2 (by decide) (by decide) ?_
          show Steps p.tables e below (T206.setTop (mkF m 246 #[.val (.int p1), .val (.int p2), .val (.int p3), .val (.int p4), .val (.int (2 : Int32)), .val (.int x0), .val (.int x1), .val (.int x2), .val (.ref b198), .val (.ref r), .val (.int (1 : Int32)), .val (.int (0 : Int32)), .val (.int ((x0 + (1 : Int32)).toInt8.toInt32)), .unset, .unset] [])) _
          refine XS.iload X206.here hx rfl (hb hby at_246) rfl ?_
          show Steps p.tables e below (T206.setTop (mkF m 248 #[.val (.int p1), .val (.int p2), .val (.int p3), .val (.int p4), .val (.int (2 : Int32)), .val (.int x0), .val (.int x1), .val (.int x2), .val (.ref b198), .val (.ref r), .val (.int (1 : Int32)), .val (.int (0 : Int32)), .val (.int ((x0 + (1 : Int32)).toInt8.toInt32)), .unset, .unset] [(.int x1)])) _
          refine XS.istore X206.here hx rfl (hb hby at_248) rfl (l' := #[.val (.int p1), .val (.int p2), .val (.int p3), .val (.int p4), .val (.int (2 : Int32)), .val (.int x0), .val (.int x1), .val (.int x2), .val (.ref b198), .val (.ref r), .val (.int (1 : Int32)), .val (.int (0 : Int32)), .val (.int ((x0 + (1 : Int32)).toInt8.toInt32)), .val (.int x1), .unset]) rfl ?_
          show Steps p.tables e below (T206.setTop (mkF m 250 #[.val (.int p1), .val (.int p2), .val (.int p3), .val (.int p4), .val (.int (2 : Int32)), .val (.int x0), .val (.int x1), .val (.int x2), .val (.ref b198), .val (.ref r), .val (.int (1 : Int32)), .val (.int (0 : Int32)), .val (.int ((x0 + (1 : Int32)).toInt8.toInt32)), .val (.int x1), .unset] [])) _
          refine XS.iload X206.here hx rfl (hb hby at_250) rfl ?_
          show Steps p.tables e below (T206.setTop (mkF m 252 #[.val (.int p1), .val (.int p2), .val (.int p3), .val (.int p4), .val (.int (2 : Int32)), .val (.int x0), .val (.int x1), .val (.int x2), .val (.ref b198), .val (.ref r), .val (.int (1 : Int32)), .val (.int (0 : Int32)), .val (.int ((x0 + (1 : Int32)).toInt8.toInt32)), .val (.int x1), .unset] [(.int x2)])) _
          refine XS.iconst X206.here hx rfl (hb hby at_252) ?_
          show Steps p.tables e below (T206.setTop (mkF m 253 #[.val (.int p1), .val (.int p2), .val (.int p3), .val (.int p4), .val (.int (2 : Int32)), .val (.int x0), .val (.int x1), .val (.int x2), .val (.ref b198), .val (.ref r), .val (.int (1 : Int32)), .val (.int (0 : Int32)), .val (.int ((x0 + (1 : Int32)).toInt8.toInt32)), .val (.int x1), .unset] [(.int (1 : Int32)), (.int x2)])) _
          refine XS.iadd X206.here hx rfl (hb hby at_253) rfl ?_
          show Steps p.tables e below (T206.setTop (mkF m 254 #[.val (.int p1), .val (.int p2), .val (.int p3), .val (.int p4), .val (.int (2 : Int32)), .val (.int x0), .val (.int x1), .val (.int x2), .val (.ref b198), .val (.ref r), .val (.int (1 : Int32)), .val (.int (0 : Int32)), .val (.int ((x0 + (1 : Int32)).toInt8.toInt32)), .val (.int x1), .unset] [(.int (x2 + (1 : Int32)))])) _
          refine XS.i2b X206.here hx rfl (hb hby at_254) rfl ?_
          show Steps p.tables e below (T206.setTop (mkF m 255 #[.val (.int p1), .val (.int p2), .val (.int p3), .val (.int p4), .val (.int (2 : Int32)), .val (.int x0), .val (.int x1), .val (.int x2), .val (.ref b198), .val (.ref r), .val (.int (1 : Int32)), .val (.int (0 : Int32)), .val (.int ((x0 + (1 : Int32)).toInt8.toInt32)), .val (.int x1), .unset] [(.int ((x2 + (1 : Int32)).toInt8.toInt32))])) _
          refine XS.istore X206.here hx rfl (hb hby at_255) rfl (l' := #[.val (.int p1), .val (.int p2), .val (.int p3), .val (.int p4), .val (.int (2 : Int32)), .val (.int x0), .val (.int x1), .val (.int x2), .val (.ref b198), .val (.ref r), .val (.int (1 : Int32)), .val (.int (0 : Int32)), .val (.int ((x0 + (1 : Int32)).toInt8.toInt32)), .val (.int x1), .val (.int ((x2 + (1 : Int32)).toInt8.toInt32))]) rfl ?_
          show Steps p.tables e below (T206.setTop (mkF m 257 #[.val (.int p1), .val (.int p2), .val (.int p3), .val (.int p4), .val (.int (2 : Int32)), .val (.int x0), .val (.int x1), .val (.int x2), .val (.ref b198), .val (.ref r), .val (.int (1 : Int32)), .val (.int (0 : Int32)), .val (.int ((x0 + (1 : Int32)).toInt8.toInt32)), .val (.int x1), .val (.int ((x2 + (1 : Int32)).toInt8.toInt32))] [])) _
          refine XS.aload X206.here hx rfl (hb hby at_257) rfl rfl ?_
          show Steps p.tables e below (T206.setTop (mkF m 259 #[.val (.int p1), .val (.int p2), .val (.int p3), .val (.int p4), .val (.int (2 : Int32)), .val (.int x0), .val (.int x1), .val (.int x2), .val (.ref b198), .val (.ref r), .val (.int (1 : Int32)), .val (.int (0 : Int32)), .val (.int ((x0 + (1 : Int32)).toInt8.toInt32)), .val (.int x1), .val (.int ((x2 + (1 : Int32)).toInt8.toInt32))] [(.ref r)])) _
          refine XS.iconst X206.here hx rfl (hb hby at_259) ?_
          show Steps p.tables e below (T206.setTop (mkF m 260 #[.val (.int p1), .val (.int p2), .val (.int p3), .val (.int p4), .val (.int (2 : Int32)), .val (.int x0), .val (.int x1), .val (.int x2), .val (.ref b198), .val (.ref r), .val (.int (1 : Int32)), .val (.int (0 : Int32)), .val (.int ((x0 + (1 : Int32)).toInt8.toInt32)), .val (.int x1), .val (.int ((x2 + (1 : Int32)).toInt8.toInt32))] [(.int (0 : Int32)), (.ref r)])) _
          refine own_bal X206 hx hZ rfl Vr (j := (0 : Int32)) ⟨by decide, by decide⟩ (v := (.int ((x0 + (1 : Int32)).toInt8.toInt32))) rfl (g := (mkF m 260 #[.val (.int p1), .val (.int p2), .val (.int p3), .val (.int p4), .val (.int (2 : Int32)), .val (.int x0), .val (.int x1), .val (.int x2), .val (.ref b198), .val (.ref r), .val (.int (1 : Int32)), .val (.int (0 : Int32)), .val (.int ((x0 + (1 : Int32)).toInt8.toInt32)), .val (.int x1), .val (.int ((x2 + (1 : Int32)).toInt8.toInt32))] [(.int (0 : Int32)), (.ref r)])) rfl rfl (hb hby at_260) _ ?_
          show Steps p.tables e below (T206.setTop (mkF m 261 #[.val (.int p1), .val (.int p2), .val (.int p3), .val (.int p4), .val (.int (2 : Int32)), .val (.int x0), .val (.int x1), .val (.int x2), .val (.ref b198), .val (.ref r), .val (.int (1 : Int32)), .val (.int (0 : Int32)), .val (.int ((x0 + (1 : Int32)).toInt8.toInt32)), .val (.int x1), .val (.int ((x2 + (1 : Int32)).toInt8.toInt32))] [(.int ((x0 + (1 : Int32)).toInt8.toInt32))])) _
          refine XS.iload X206.here hx rfl (hb hby at_261) rfl ?_
          show Steps p.tables e below (T206.setTop (mkF m 263 #[.val (.int p1), .val (.int p2), .val (.int p3), .val (.int p4), .val (.int (2 : Int32)), .val (.int x0), .val (.int x1), .val (.int x2), .val (.ref b198), .val (.ref r), .val (.int (1 : Int32)), .val (.int (0 : Int32)), .val (.int ((x0 + (1 : Int32)).toInt8.toInt32)), .val (.int x1), .val (.int ((x2 + (1 : Int32)).toInt8.toInt32))] [(.int ((x0 + (1 : Int32)).toInt8.toInt32)), (.int ((x0 + (1 : Int32)).toInt8.toInt32))])) _
          refine XS.icmpYes X206.here hx rfl (pc0 := 263) (pc' := 268) rfl (hb hby at_263) rfl (teq rfl).1 (by decide) (by decide) ?_
          show Steps p.tables e below (T206.setTop (mkF m 268 #[.val (.int p1), .val (.int p2), .val (.int p3), .val (.int p4), .val (.int (2 : Int32)), .val (.int x0), .val (.int x1), .val (.int x2), .val (.ref b198), .val (.ref r), .val (.int (1 : Int32)), .val (.int (0 : Int32)), .val (.int ((x0 + (1 : Int32)).toInt8.toInt32)), .val (.int x1), .val (.int ((x2 + (1 : Int32)).toInt8.toInt32))] [])) _
          refine XS.iload X206.here hx rfl (hb hby at_268) rfl ?_
          show Steps p.tables e below (T206.setTop (mkF m 270 #[.val (.int p1), .val (.int p2), .val (.int p3), .val (.int p4), .val (.int (2 : Int32)), .val (.int x0), .val (.int x1), .val (.int x2), .val (.ref b198), .val (.ref r), .val (.int (1 : Int32)), .val (.int (0 : Int32)), .val (.int ((x0 + (1 : Int32)).toInt8.toInt32)), .val (.int x1), .val (.int ((x2 + (1 : Int32)).toInt8.toInt32))] [(.int (0 : Int32))])) _
          refine XS.iconst X206.here hx rfl (hb hby at_270) ?_
          show Steps p.tables e below (T206.setTop (mkF m 271 #[.val (.int p1), .val (.int p2), .val (.int p3), .val (.int p4), .val (.int (2 : Int32)), .val (.int x0), .val (.int x1), .val (.int x2), .val (.ref b198), .val (.ref r), .val (.int (1 : Int32)), .val (.int (0 : Int32)), .val (.int ((x0 + (1 : Int32)).toInt8.toInt32)), .val (.int x1), .val (.int ((x2 + (1 : Int32)).toInt8.toInt32))] [(.int (1 : Int32)), (.int (0 : Int32))])) _
          refine XS.icmpYes X206.here hx rfl (pc0 := 271) (pc' := 285) rfl (hb hby at_271) rfl (tlt (by decide)).1 (by decide) (by decide) ?_
          show Steps p.tables e below (T206.setTop (mkF m 285 #[.val (.int p1), .val (.int p2), .val (.int p3), .val (.int p4), .val (.int (2 : Int32)), .val (.int x0), .val (.int x1), .val (.int x2), .val (.ref b198), .val (.ref r), .val (.int (1 : Int32)), .val (.int (0 : Int32)), .val (.int ((x0 + (1 : Int32)).toInt8.toInt32)), .val (.int x1), .val (.int ((x2 + (1 : Int32)).toInt8.toInt32))] [])) _
          refine XS.iload X206.here hx rfl (hb hby at_285) rfl ?_
          show Steps p.tables e below (T206.setTop (mkF m 287 #[.val (.int p1), .val (.int p2), .val (.int p3), .val (.int p4), .val (.int (2 : Int32)), .val (.int x0), .val (.int x1), .val (.int x2), .val (.ref b198), .val (.ref r), .val (.int (1 : Int32)), .val (.int (0 : Int32)), .val (.int ((x0 + (1 : Int32)).toInt8.toInt32)), .val (.int x1), .val (.int ((x2 + (1 : Int32)).toInt8.toInt32))] [(.int (0 : Int32))])) _
          refine XS.iconst X206.here hx rfl (hb hby at_287) ?_
          show Steps p.tables e below (T206.setTop (mkF m 288 #[.val (.int p1), .val (.int p2), .val (.int p3), .val (.int p4), .val (.int (2 : Int32)), .val (.int x0), .val (.int x1), .val (.int x2), .val (.ref b198), .val (.ref r), .val (.int (1 : Int32)), .val (.int (0 : Int32)), .val (.int ((x0 + (1 : Int32)).toInt8.toInt32)), .val (.int x1), .val (.int ((x2 + (1 : Int32)).toInt8.toInt32))] [(.int (2 : Int32)), (.int (0 : Int32))])) _
          refine XS.icmpYes X206.here hx rfl (pc0 := 288) (pc' := 302) rfl (hb hby at_288) rfl (tlt (by decide)).1 (by decide) (by decide) ?_
          show Steps p.tables e below (T206.setTop (mkF m 302 #[.val (.int p1), .val (.int p2), .val (.int p3), .val (.int p4), .val (.int (2 : Int32)), .val (.int x0), .val (.int x1), .val (.int x2), .val (.ref b198), .val (.ref r), .val (.int (1 : Int32)), .val (.int (0 : Int32)), .val (.int ((x0 + (1 : Int32)).toInt8.toInt32)), .val (.int x1), .val (.int ((x2 + (1 : Int32)).toInt8.toInt32))] [])) _
          refine XS.iconst X206.here hx rfl (hb hby at_302) ?_
          exact kt
        obtain ⟨fsx, hr, hrun, hended, hW, hsame⟩ := X206.leave (v := some (.int (nar .boolean (1 : Int32)))) (fun h => by rw [Bd.returns] at h; cases h)
        refine ⟨_, _, pre209 _ ?_, hrun, hended, _, _, rfl, ?_, ⟨_, rfl⟩, hW, hsame.mono (by decide) (by decide)⟩
        · exact retN X206 hx (t := .boolean) Bd.returns (by simp) (hb hby at_303) hr
        · show Q0 Z p1 p2 p3 p4 h0 n0 _ T206.heap _
          skip
          exact ⟨rfl, Nf206⟩
    · obtain ⟨_, _, ⟨T210, L210, k210, n210⟩, -, X210, ⟨Lc210, hQ210, l210, y210, z210⟩, st210⟩ := Jvm.LawKit.callS X201 hx (y := (⟨"com/example/tessera/tessera/storage/Prefixes", "end", "([B)[B"⟩ : MethodName)) hown (mvT hZ (hw _ (List.mem_of_getElem? (i := 5) rfl))) (mvT hZ (hw _ (List.mem_of_getElem? (i := 6) rfl))) (mvT hZ (hw _ (List.mem_of_getElem? (i := 7) rfl))) (mvT hZ (hw _ (List.mem_of_getElem? (i := 8) rfl))) (by decide) (backOf (W := 0) (rmE21 l Z a0 hw [] b198 k198 x0 x1 h201 n0 Z201 V201 f202  ex1) hZ (hw _ (List.mem_of_getElem? (i := 8) rfl)) (hw _ (List.mem_of_getElem? (i := 7) rfl)) (by decide) (by decide)) (g := (mkF m 66 #[.val (.int p1), .val (.int p2), .val (.int p3), .val (.int p4), .val (.int (2 : Int32)), .val (.int x0), .val (.int x1), .val (.int x2), .val (.ref b198), .unset, .unset, .unset, .unset, .unset, .unset] [(.ref b198)])) rfl (by rw [hml]; rfl) (argsL := [(.ref b198)]) (rest := []) (lenOf pd_3 rfl) rfl (by show 2 * 0 + _ ≤ _; exact Nat.le_of_eq rfl) (hb hby at_66) (fun _ _ => ⟨rfl, e201, (by decide : 1 + 1 ≤ _), (by decide : 2 + 3 ≤ _)⟩)
      dsimp only [Pt.U, Pt.locs, Pt.cells, Pt.slots] at X210 l210 y210 z210 st210 hQ210
      subst l210 y210 z210
      obtain ⟨r, kr, rfl, Nq210, Kq210, szr, Vr⟩ := hQ210
      have f211 := (f202.keep Kq210)
      have f212 := (V201.keep Kq210 nin0)
      have Z210 : n0 ≤ T210.heap.size := Nat.le_trans Z201 Kq210.1
      have K210 : Keep h0 T210.heap [] := K201.trans Kq210 all0
      have Nf210 := Fr.app Nf201 Nq210
      have pre213 : ∀ t, Steps p.tables e below (T210.setTop (mkF m 303 #[.val (.int p1), .val (.int p2), .val (.int p3), .val (.int p4), .val (.int (2 : Int32)), .val (.int x0), .val (.int x1), .val (.int x2), .val (.ref b198), .val (.ref r), .val (.int (1 : Int32)), .val (.int (1 : Int32)), .val (.int x0), .val (.int ((x1 + (1 : Int32)).toInt8.toInt32)), .val (.int ((x2 + (1 : Int32)).toInt8.toInt32))] [(.int (1 : Int32))])) t → Steps p.tables e below (s₁.setTop (entryFrame m #[(.int p1), (.int p2), (.int p3), (.int p4)] maxLocals)) t := by
        intro t kt
        refine pre203 t ?_
        show Steps p.tables e below (T201.setTop (mkF m 66 #[.val (.int p1), .val (.int p2), .val (.int p3), .val (.int p4), .val (.int (2 : Int32)), .val (.int x0), .val (.int x1), .val (.int x2), .val (.ref b198), .unset, .unset, .unset, .unset, .unset, .unset] [(.ref b198)])) _
        refine st210 _ ?_
        show Steps p.tables e below (T210.setTop (mkF m 69 #[.val (.int p1), .val (.int p2), .val (.int p3), .val (.int p4), .val (.int (2 : Int32)), .val (.int x0), .val (.int x1), .val (.int x2), .val (.ref b198), .unset, .unset, .unset, .unset, .unset, .unset] [(.ref r)])) _
        refine XS.astore X210.here hx rfl (hb hby at_69) rfl rfl (l' := #[.val (.int p1), .val (.int p2), .val (.int p3), .val (.int p4), .val (.int (2 : Int32)), .val (.int x0), .val (.int x1), .val (.int x2), .val (.ref b198), .val (.ref r), .unset, .unset, .unset, .unset, .unset]) rfl ?_
        show Steps p.tables e below (T210.setTop (mkF m 71 #[.val (.int p1), .val (.int p2), .val (.int p3), .val (.int p4), .val (.int (2 : Int32)), .val (.int x0), .val (.int x1), .val (.int x2), .val (.ref b198), .val (.ref r), .unset, .unset, .unset, .unset, .unset] [])) _
        refine XS.iload X210.here hx rfl (hb hby at_71) rfl ?_
        show Steps p.tables e below (T210.setTop (mkF m 73 #[.val (.int p1), .val (.int p2), .val (.int p3), .val (.int p4), .val (.int (2 : Int32)), .val (.int x0), .val (.int x1), .val (.int x2), .val (.ref b198), .val (.ref r), .unset, .unset, .unset, .unset, .unset] [(.int (2 : Int32))])) _
        refine XS.ifNo X210.here hx rfl (hb hby at_73) rfl ((if0 _ _).trans (tlt (by decide)).2.2.2) ?_
        show Steps p.tables e below (T210.setTop (mkF m 76 #[.val (.int p1), .val (.int p2), .val (.int p3), .val (.int p4), .val (.int (2 : Int32)), .val (.int x0), .val (.int x1), .val (.int x2), .val (.ref b198), .val (.ref r), .unset, .unset, .unset, .unset, .unset] [])) _
        refine XS.aload X210.here hx rfl (hb hby at_76) rfl rfl ?_
        show Steps p.tables e below (T210.setTop (mkF m 78 #[.val (.int p1), .val (.int p2), .val (.int p3), .val (.int p4), .val (.int (2 : Int32)), .val (.int x0), .val (.int x1), .val (.int x2), .val (.ref b198), .val (.ref r), .unset, .unset, .unset, .unset, .unset] [(.ref b198)])) _
        refine XS.iconst X210.here hx rfl (hb hby at_78) ?_
        show Steps p.tables e below (T210.setTop (mkF m 79 #[.val (.int p1), .val (.int p2), .val (.int p3), .val (.int p4), .val (.int (2 : Int32)), .val (.int x0), .val (.int x1), .val (.int x2), .val (.ref b198), .val (.ref r), .unset, .unset, .unset, .unset, .unset] [(.int (0 : Int32)), (.ref b198)])) _
        refine own_bal X210 hx hZ rfl f212 (j := (0 : Int32)) ⟨by decide, by decide⟩ (v := (.int x0)) rfl (g := (mkF m 79 #[.val (.int p1), .val (.int p2), .val (.int p3), .val (.int p4), .val (.int (2 : Int32)), .val (.int x0), .val (.int x1), .val (.int x2), .val (.ref b198), .val (.ref r), .unset, .unset, .unset, .unset, .unset] [(.int (0 : Int32)), (.ref b198)])) rfl rfl (hb hby at_79) _ ?_
        show Steps p.tables e below (T210.setTop (mkF m 80 #[.val (.int p1), .val (.int p2), .val (.int p3), .val (.int p4), .val (.int (2 : Int32)), .val (.int x0), .val (.int x1), .val (.int x2), .val (.ref b198), .val (.ref r), .unset, .unset, .unset, .unset, .unset] [(.int x0)])) _
        refine XS.iload X210.here hx rfl (hb hby at_80) rfl ?_
        show Steps p.tables e below (T210.setTop (mkF m 82 #[.val (.int p1), .val (.int p2), .val (.int p3), .val (.int p4), .val (.int (2 : Int32)), .val (.int x0), .val (.int x1), .val (.int x2), .val (.ref b198), .val (.ref r), .unset, .unset, .unset, .unset, .unset] [(.int x0), (.int x0)])) _
        refine XS.icmpNo X210.here hx rfl (hb hby at_82) rfl (teq rfl).2 ?_
        show Steps p.tables e below (T210.setTop (mkF m 85 #[.val (.int p1), .val (.int p2), .val (.int p3), .val (.int p4), .val (.int (2 : Int32)), .val (.int x0), .val (.int x1), .val (.int x2), .val (.ref b198), .val (.ref r), .unset, .unset, .unset, .unset, .unset] [])) _
        refine XS.iload X210.here hx rfl (hb hby at_85) rfl ?_
        show Steps p.tables e below (T210.setTop (mkF m 87 #[.val (.int p1), .val (.int p2), .val (.int p3), .val (.int p4), .val (.int (2 : Int32)), .val (.int x0), .val (.int x1), .val (.int x2), .val (.ref b198), .val (.ref r), .unset, .unset, .unset, .unset, .unset] [(.int (2 : Int32))])) _
        refine XS.iconst X210.here hx rfl (hb hby at_87) ?_
        show Steps p.tables e below (T210.setTop (mkF m 88 #[.val (.int p1), .val (.int p2), .val (.int p3), .val (.int p4), .val (.int (2 : Int32)), .val (.int x0), .val (.int x1), .val (.int x2), .val (.ref b198), .val (.ref r), .unset, .unset, .unset, .unset, .unset] [(.int (1 : Int32)), (.int (2 : Int32))])) _
        refine XS.icmpNo X210.here hx rfl (hb hby at_88) rfl (tlt (by decide)).2.2.2 ?_
        show Steps p.tables e below (T210.setTop (mkF m 91 #[.val (.int p1), .val (.int p2), .val (.int p3), .val (.int p4), .val (.int (2 : Int32)), .val (.int x0), .val (.int x1), .val (.int x2), .val (.ref b198), .val (.ref r), .unset, .unset, .unset, .unset, .unset] [])) _
        refine XS.aload X210.here hx rfl (hb hby at_91) rfl rfl ?_
        show Steps p.tables e below (T210.setTop (mkF m 93 #[.val (.int p1), .val (.int p2), .val (.int p3), .val (.int p4), .val (.int (2 : Int32)), .val (.int x0), .val (.int x1), .val (.int x2), .val (.ref b198), .val (.ref r), .unset, .unset, .unset, .unset, .unset] [(.ref b198)])) _
        refine XS.iconst X210.here hx rfl (hb hby at_93) ?_
        show Steps p.tables e below (T210.setTop (mkF m 94 #[.val (.int p1), .val (.int p2), .val (.int p3), .val (.int p4), .val (.int (2 : Int32)), .val (.int x0), .val (.int x1), .val (.int x2), .val (.ref b198), .val (.ref r), .unset, .unset, .unset, .unset, .unset] [(.int (1 : Int32)), (.ref b198)])) _
        refine own_bal X210 hx hZ rfl f212 (j := (1 : Int32)) ⟨by decide, by decide⟩ (v := (.int x1)) rfl (g := (mkF m 94 #[.val (.int p1), .val (.int p2), .val (.int p3), .val (.int p4), .val (.int (2 : Int32)), .val (.int x0), .val (.int x1), .val (.int x2), .val (.ref b198), .val (.ref r), .unset, .unset, .unset, .unset, .unset] [(.int (1 : Int32)), (.ref b198)])) rfl rfl (hb hby at_94) _ ?_
        show Steps p.tables e below (T210.setTop (mkF m 95 #[.val (.int p1), .val (.int p2), .val (.int p3), .val (.int p4), .val (.int (2 : Int32)), .val (.int x0), .val (.int x1), .val (.int x2), .val (.ref b198), .val (.ref r), .unset, .unset, .unset, .unset, .unset] [(.int x1)])) _
        refine XS.iload X210.here hx rfl (hb hby at_95) rfl ?_
        show Steps p.tables e below (T210.setTop (mkF m 97 #[.val (.int p1), .val (.int p2), .val (.int p3), .val (.int p4), .val (.int (2 : Int32)), .val (.int x0), .val (.int x1), .val (.int x2), .val (.ref b198), .val (.ref r), .unset, .unset, .unset, .unset, .unset] [(.int x1), (.int x1)])) _
        refine XS.icmpNo X210.here hx rfl (hb hby at_97) rfl (teq rfl).2 ?_
        show Steps p.tables e below (T210.setTop (mkF m 100 #[.val (.int p1), .val (.int p2), .val (.int p3), .val (.int p4), .val (.int (2 : Int32)), .val (.int x0), .val (.int x1), .val (.int x2), .val (.ref b198), .val (.ref r), .unset, .unset, .unset, .unset, .unset] [])) _
        refine XS.iload X210.here hx rfl (hb hby at_100) rfl ?_
        show Steps p.tables e below (T210.setTop (mkF m 102 #[.val (.int p1), .val (.int p2), .val (.int p3), .val (.int p4), .val (.int (2 : Int32)), .val (.int x0), .val (.int x1), .val (.int x2), .val (.ref b198), .val (.ref r), .unset, .unset, .unset, .unset, .unset] [(.int (2 : Int32))])) _
        refine XS.iconst X210.here hx rfl (hb hby at_102) ?_
        show Steps p.tables e below (T210.setTop (mkF m 103 #[.val (.int p1), .val (.int p2), .val (.int p3), .val (.int p4), .val (.int (2 : Int32)), .val (.int x0), .val (.int x1), .val (.int x2), .val (.ref b198), .val (.ref r), .unset, .unset, .unset, .unset, .unset] [(.int (2 : Int32)), (.int (2 : Int32))])) _
        refine XS.icmpYes X210.here hx rfl (pc0 := 103) (pc' := 115) rfl (hb hby at_103) rfl (flt (by decide)).2.2.2 (by decide) (by decide) ?_
        show Steps p.tables e below (T210.setTop (mkF m 115 #[.val (.int p1), .val (.int p2), .val (.int p3), .val (.int p4), .val (.int (2 : Int32)), .val (.int x0), .val (.int x1), .val (.int x2), .val (.ref b198), .val (.ref r), .unset, .unset, .unset, .unset, .unset] [])) _
        refine XS.iconst X210.here hx rfl (hb hby at_115) ?_
        show Steps p.tables e below (T210.setTop (mkF m 116 #[.val (.int p1), .val (.int p2), .val (.int p3), .val (.int p4), .val (.int (2 : Int32)), .val (.int x0), .val (.int x1), .val (.int x2), .val (.ref b198), .val (.ref r), .unset, .unset, .unset, .unset, .unset] [(.int (1 : Int32))])) _
        refine XS.goto X210.here hx rfl (pc0 := 116) (pc' := 120) rfl (hb hby at_116) (by decide) (by decide) ?_
        show Steps p.tables e below (T210.setTop (mkF m 120 #[.val (.int p1), .val (.int p2), .val (.int p3), .val (.int p4), .val (.int (2 : Int32)), .val (.int x0), .val (.int x1), .val (.int x2), .val (.ref b198), .val (.ref r), .unset, .unset, .unset, .unset, .unset] [(.int (1 : Int32))])) _
        refine XS.istore X210.here hx rfl (hb hby at_120) rfl (l' := #[.val (.int p1), .val (.int p2), .val (.int p3), .val (.int p4), .val (.int (2 : Int32)), .val (.int x0), .val (.int x1), .val (.int x2), .val (.ref b198), .val (.ref r), .val (.int (1 : Int32)), .unset, .unset, .unset, .unset]) rfl ?_
        show Steps p.tables e below (T210.setTop (mkF m 122 #[.val (.int p1), .val (.int p2), .val (.int p3), .val (.int p4), .val (.int (2 : Int32)), .val (.int x0), .val (.int x1), .val (.int x2), .val (.ref b198), .val (.ref r), .val (.int (1 : Int32)), .unset, .unset, .unset, .unset] [])) _
        refine XS.iload X210.here hx rfl (hb hby at_122) rfl ?_
        show Steps p.tables e below (T210.setTop (mkF m 124 #[.val (.int p1), .val (.int p2), .val (.int p3), .val (.int p4), .val (.int (2 : Int32)), .val (.int x0), .val (.int x1), .val (.int x2), .val (.ref b198), .val (.ref r), .val (.int (1 : Int32)), .unset, .unset, .unset, .unset] [(.int (1 : Int32))])) _
        refine XS.ifYes X210.here hx rfl (pc0 := 124) (pc' := 129) rfl (hb hby at_124) rfl ((if0 _ _).trans (feq (by decide)).2) (by decide) (by decide) ?_
        show Steps p.tables e below (T210.setTop (mkF m 129 #[.val (.int p1), .val (.int p2), .val (.int p3), .val (.int p4), .val (.int (2 : Int32)), .val (.int x0), .val (.int x1), .val (.int x2), .val (.ref b198), .val (.ref r), .val (.int (1 : Int32)), .unset, .unset, .unset, .unset] [])) _
        refine XS.iconst X210.here hx rfl (hb hby at_129) ?_
        show Steps p.tables e below (T210.setTop (mkF m 130 #[.val (.int p1), .val (.int p2), .val (.int p3), .val (.int p4), .val (.int (2 : Int32)), .val (.int x0), .val (.int x1), .val (.int x2), .val (.ref b198), .val (.ref r), .val (.int (1 : Int32)), .unset, .unset, .unset, .unset] [(.int (-1 : Int32))])) _
        refine XS.istore X210.here hx rfl (hb hby at_130) rfl (l' := #[.val (.int p1), .val (.int p2), .val (.int p3), .val (.int p4), .val (.int (2 : Int32)), .val (.int x0), .val (.int x1), .val (.int x2), .val (.ref b198), .val (.ref r), .val (.int (1 : Int32)), .val (.int (-1 : Int32)), .unset, .unset, .unset]) rfl ?_
        show Steps p.tables e below (T210.setTop (mkF m 132 #[.val (.int p1), .val (.int p2), .val (.int p3), .val (.int p4), .val (.int (2 : Int32)), .val (.int x0), .val (.int x1), .val (.int x2), .val (.ref b198), .val (.ref r), .val (.int (1 : Int32)), .val (.int (-1 : Int32)), .unset, .unset, .unset] [])) _
        refine XS.iload X210.here hx rfl (hb hby at_132) rfl ?_
        show Steps p.tables e below (T210.setTop (mkF m 134 #[.val (.int p1), .val (.int p2), .val (.int p3), .val (.int p4), .val (.int (2 : Int32)), .val (.int x0), .val (.int x1), .val (.int x2), .val (.ref b198), .val (.ref r), .val (.int (1 : Int32)), .val (.int (-1 : Int32)), .unset, .unset, .unset] [(.int (2 : Int32))])) _
        refine XS.iconst X210.here hx rfl (hb hby at_134) ?_
        show Steps p.tables e below (T210.setTop (mkF m 135 #[.val (.int p1), .val (.int p2), .val (.int p3), .val (.int p4), .val (.int (2 : Int32)), .val (.int x0), .val (.int x1), .val (.int x2), .val (.ref b198), .val (.ref r), .val (.int (1 : Int32)), .val (.int (-1 : Int32)), .unset, .unset, .unset] [(.int (2 : Int32)), (.int (2 : Int32))])) _
        refine XS.icmpYes X210.here hx rfl (pc0 := 135) (pc' := 150) rfl (hb hby at_135) rfl (flt (by decide)).2.2.2 (by decide) (by decide) ?_
        show Steps p.tables e below (T210.setTop (mkF m 150 #[.val (.int p1), .val (.int p2), .val (.int p3), .val (.int p4), .val (.int (2 : Int32)), .val (.int x0), .val (.int x1), .val (.int x2), .val (.ref b198), .val (.ref r), .val (.int (1 : Int32)), .val (.int (-1 : Int32)), .unset, .unset, .unset] [])) _
        refine XS.iload X210.here hx rfl (hb hby at_150) rfl ?_
        show Steps p.tables e below (T210.setTop (mkF m 152 #[.val (.int p1), .val (.int p2), .val (.int p3), .val (.int p4), .val (.int (2 : Int32)), .val (.int x0), .val (.int x1), .val (.int x2), .val (.ref b198), .val (.ref r), .val (.int (1 : Int32)), .val (.int (-1 : Int32)), .unset, .unset, .unset] [(.int (2 : Int32))])) _
        refine XS.iconst X210.here hx rfl (hb hby at_152) ?_
        show Steps p.tables e below (T210.setTop (mkF m 153 #[.val (.int p1), .val (.int p2), .val (.int p3), .val (.int p4), .val (.int (2 : Int32)), .val (.int x0), .val (.int x1), .val (.int x2), .val (.ref b198), .val (.ref r), .val (.int (1 : Int32)), .val (.int (-1 : Int32)), .unset, .unset, .unset] [(.int (1 : Int32)), (.int (2 : Int32))])) _
        refine XS.icmpNo X210.here hx rfl (hb hby at_153) rfl (tlt (by decide)).2.2.2 ?_
        show Steps p.tables e below (T210.setTop (mkF m 156 #[.val (.int p1), .val (.int p2), .val (.int p3), .val (.int p4), .val (.int (2 : Int32)), .val (.int x0), .val (.int x1), .val (.int x2), .val (.ref b198), .val (.ref r), .val (.int (1 : Int32)), .val (.int (-1 : Int32)), .unset, .unset, .unset] [])) _
        refine XS.iload X210.here hx rfl (hb hby at_156) rfl ?_
        show Steps p.tables e below (T210.setTop (mkF m 158 #[.val (.int p1), .val (.int p2), .val (.int p3), .val (.int p4), .val (.int (2 : Int32)), .val (.int x0), .val (.int x1), .val (.int x2), .val (.ref b198), .val (.ref r), .val (.int (1 : Int32)), .val (.int (-1 : Int32)), .unset, .unset, .unset] [(.int x1)])) _
        refine XS.iconst X210.here hx rfl (hb hby at_158) ?_
        show Steps p.tables e below (T210.setTop (mkF m 159 #[.val (.int p1), .val (.int p2), .val (.int p3), .val (.int p4), .val (.int (2 : Int32)), .val (.int x0), .val (.int x1), .val (.int x2), .val (.ref b198), .val (.ref r), .val (.int (1 : Int32)), .val (.int (-1 : Int32)), .unset, .unset, .unset] [(.int (-1 : Int32)), (.int x1)])) _
        refine XS.icmpNo X210.here hx rfl (hb hby at_159) rfl (feq ex1).1 ?_
        show Steps p.tables e below (T210.setTop (mkF m 162 #[.val (.int p1), .val (.int p2), .val (.int p3), .val (.int p4), .val (.int (2 : Int32)), .val (.int x0), .val (.int x1), .val (.int x2), .val (.ref b198), .val (.ref r), .val (.int (1 : Int32)), .val (.int (-1 : Int32)), .unset, .unset, .unset] [])) _
        refine XS.iconst X210.here hx rfl (hb hby at_162) ?_
        show Steps p.tables e below (T210.setTop (mkF m 163 #[.val (.int p1), .val (.int p2), .val (.int p3), .val (.int p4), .val (.int (2 : Int32)), .val (.int x0), .val (.int x1), .val (.int x2), .val (.ref b198), .val (.ref r), .val (.int (1 : Int32)), .val (.int (-1 : Int32)), .unset, .unset, .unset] [(.int (1 : Int32))])) _
        refine XS.istore X210.here hx rfl (hb hby at_163) rfl (l' := #[.val (.int p1), .val (.int p2), .val (.int p3), .val (.int p4), .val (.int (2 : Int32)), .val (.int x0), .val (.int x1), .val (.int x2), .val (.ref b198), .val (.ref r), .val (.int (1 : Int32)), .val (.int (1 : Int32)), .unset, .unset, .unset]) rfl ?_
        show Steps p.tables e below (T210.setTop (mkF m 165 #[.val (.int p1), .val (.int p2), .val (.int p3), .val (.int p4), .val (.int (2 : Int32)), .val (.int x0), .val (.int x1), .val (.int x2), .val (.ref b198), .val (.ref r), .val (.int (1 : Int32)), .val (.int (1 : Int32)), .unset, .unset, .unset] [])) _
        refine XS.goto X210.here hx rfl (pc0 := 165) (pc' := 182) rfl (hb hby at_165) (by decide) (by decide) ?_
        show Steps p.tables e below (T210.setTop (mkF m 182 #[.val (.int p1), .val (.int p2), .val (.int p3), .val (.int p4), .val (.int (2 : Int32)), .val (.int x0), .val (.int x1), .val (.int x2), .val (.ref b198), .val (.ref r), .val (.int (1 : Int32)), .val (.int (1 : Int32)), .unset, .unset, .unset] [])) _
        refine XS.iload X210.here hx rfl (hb hby at_182) rfl ?_
        show Steps p.tables e below (T210.setTop (mkF m 184 #[.val (.int p1), .val (.int p2), .val (.int p3), .val (.int p4), .val (.int (2 : Int32)), .val (.int x0), .val (.int x1), .val (.int x2), .val (.ref b198), .val (.ref r), .val (.int (1 : Int32)), .val (.int (1 : Int32)), .unset, .unset, .unset] [(.int (1 : Int32))])) _
        refine XS.ifYes X210.here hx rfl (pc0 := 184) (pc' := 198) rfl (hb hby at_184) rfl ((if0 _ _).trans (flt (by decide)).2.1) (by decide) (by decide) ?_
        show Steps p.tables e below (T210.setTop (mkF m 198 #[.val (.int p1), .val (.int p2), .val (.int p3), .val (.int p4), .val (.int (2 : Int32)), .val (.int x0), .val (.int x1), .val (.int x2), .val (.ref b198), .val (.ref r), .val (.int (1 : Int32)), .val (.int (1 : Int32)), .unset, .unset, .unset] [])) _
        refine XS.aload X210.here hx rfl (hb hby at_198) rfl rfl ?_
        show Steps p.tables e below (T210.setTop (mkF m 200 #[.val (.int p1), .val (.int p2), .val (.int p3), .val (.int p4), .val (.int (2 : Int32)), .val (.int x0), .val (.int x1), .val (.int x2), .val (.ref b198), .val (.ref r), .val (.int (1 : Int32)), .val (.int (1 : Int32)), .unset, .unset, .unset] [(.ref r)])) _
        refine XS.ifnullNo X210.here hx rfl (hb hby at_200) rfl ?_
        show Steps p.tables e below (T210.setTop (mkF m 203 #[.val (.int p1), .val (.int p2), .val (.int p3), .val (.int p4), .val (.int (2 : Int32)), .val (.int x0), .val (.int x1), .val (.int x2), .val (.ref b198), .val (.ref r), .val (.int (1 : Int32)), .val (.int (1 : Int32)), .unset, .unset, .unset] [])) _
        refine XS.aload X210.here hx rfl (hb hby at_203) rfl rfl ?_
        show Steps p.tables e below (T210.setTop (mkF m 205 #[.val (.int p1), .val (.int p2), .val (.int p3), .val (.int p4), .val (.int (2 : Int32)), .val (.int x0), .val (.int x1), .val (.int x2), .val (.ref b198), .val (.ref r), .val (.int (1 : Int32)), .val (.int (1 : Int32)), .unset, .unset, .unset] [(.ref r)])) _
        refine own_len X210 hx hZ rfl Vr (g := (mkF m 205 #[.val (.int p1), .val (.int p2), .val (.int p3), .val (.int p4), .val (.int (2 : Int32)), .val (.int x0), .val (.int x1), .val (.int x2), .val (.ref b198), .val (.ref r), .val (.int (1 : Int32)), .val (.int (1 : Int32)), .unset, .unset, .unset] [(.ref r)])) rfl rfl (hb hby at_205) _ ?_
        show Steps p.tables e below (T210.setTop (mkF m 206 #[.val (.int p1), .val (.int p2), .val (.int p3), .val (.int p4), .val (.int (2 : Int32)), .val (.int x0), .val (.int x1), .val (.int x2), .val (.ref b198), .val (.ref r), .val (.int (1 : Int32)), .val (.int (1 : Int32)), .unset, .unset, .unset] [(.int (2 : Int32))])) _
        refine XS.iload X210.here hx rfl (hb hby at_206) rfl ?_
        show Steps p.tables e below (T210.setTop (mkF m 208 #[.val (.int p1), .val (.int p2), .val (.int p3), .val (.int p4), .val (.int (2 : Int32)), .val (.int x0), .val (.int x1), .val (.int x2), .val (.ref b198), .val (.ref r), .val (.int (1 : Int32)), .val (.int (1 : Int32)), .unset, .unset, .unset] [(.int (1 : Int32)), (.int (2 : Int32))])) _
        refine XS.iconst X210.here hx rfl (hb hby at_208) ?_
        show Steps p.tables e below (T210.setTop (mkF m 209 #[.val (.int p1), .val (.int p2), .val (.int p3), .val (.int p4), .val (.int (2 : Int32)), .val (.int x0), .val (.int x1), .val (.int x2), .val (.ref b198), .val (.ref r), .val (.int (1 : Int32)), .val (.int (1 : Int32)), .unset, .unset, .unset] [(.int (1 : Int32)), (.int (1 : Int32)), (.int (2 : Int32))])) _
        refine XS.iadd X210.here hx rfl (hb hby at_209) rfl ?_
        show Steps p.tables e below (T210.setTop (mkF m 210 #[.val (.int p1), .val (.int p2), .val (.int p3), .val (.int p4), .val (.int (2 : Int32)), .val (.int x0), .val (.int x1), .val (.int x2), .val (.ref b198), .val (.ref r), .val (.int (1 : Int32)), .val (.int (1 : Int32)), .unset, .unset, .unset] [(.int (2 : Int32)), (.int (2 : Int32))])) _
        refine XS.icmpYes X210.here hx rfl (pc0 := 210) (pc' := 215) rfl (hb hby at_210) rfl (teq (by decide)).1 (by decide) (by decide) ?_
        show Steps p.tables e below (T210.setTop (mkF m 215 #[.val (.int p1), .val (.int p2), .val (.int p3), .val (.int p4), .val (.int (2 : Int32)), .val (.int x0), .val (.int x1), .val (.int x2), .val (.ref b198), .val (.ref r), .val (.int (1 : Int32)), .val (.int (1 : Int32)), .unset, .unset, .unset] [])) _
        refine XS.iload X210.here hx rfl (hb hby at_215) rfl ?_
        show Steps p.tables e below (T210.setTop (mkF m 217 #[.val (.int p1), .val (.int p2), .val (.int p3), .val (.int p4), .val (.int (2 : Int32)), .val (.int x0), .val (.int x1), .val (.int x2), .val (.ref b198), .val (.ref r), .val (.int (1 : Int32)), .val (.int (1 : Int32)), .unset, .unset, .unset] [(.int (1 : Int32))])) _
        refine XS.ifYes X210.here hx rfl (pc0 := 217) (pc' := 228) rfl (hb hby at_217) rfl ((if0 _ _).trans (feq (by decide)).2) (by decide) (by decide) ?_
        show Steps p.tables e below (T210.setTop (mkF m 228 #[.val (.int p1), .val (.int p2), .val (.int p3), .val (.int p4), .val (.int (2 : Int32)), .val (.int x0), .val (.int x1), .val (.int x2), .val (.ref b198), .val (.ref r), .val (.int (1 : Int32)), .val (.int (1 : Int32)), .unset, .unset, .unset] [])) _
        refine XS.iload X210.here hx rfl (hb hby at_228) rfl ?_
        show Steps p.tables e below (T210.setTop (mkF m 230 #[.val (.int p1), .val (.int p2), .val (.int p3), .val (.int p4), .val (.int (2 : Int32)), .val (.int x0), .val (.int x1), .val (.int x2), .val (.ref b198), .val (.ref r), .val (.int (1 : Int32)), .val (.int (1 : Int32)), .unset, .unset, .unset] [(.int x0)])) _
        refine XS.istore X210.here hx rfl (hb hby at_230) rfl (l' := #[.val (.int p1), .val (.int p2), .val (.int p3), .val (.int p4), .val (.int (2 : Int32)), .val (.int x0), .val (.int x1), .val (.int x2), .val (.ref b198), .val (.ref r), .val (.int (1 : Int32)), .val (.int (1 : Int32)), .val (.int x0), .unset, .unset]) rfl ?_
        show Steps p.tables e below (T210.setTop (mkF m 232 #[.val (.int p1), .val (.int p2), .val (.int p3), .val (.int p4), .val (.int (2 : Int32)), .val (.int x0), .val (.int x1), .val (.int x2), .val (.ref b198), .val (.ref r), .val (.int (1 : Int32)), .val (.int (1 : Int32)), .val (.int x0), .unset, .unset] [])) _
        refine XS.iload X210.here hx rfl (hb hby at_232) rfl ?_
        show Steps p.tables e below (T210.setTop (mkF m 234 #[.val (.int p1), .val (.int p2), .val (.int p3), .val (.int p4), .val (.int (2 : Int32)), .val (.int x0), .val (.int x1), .val (.int x2), .val (.ref b198), .val (.ref r), .val (.int (1 : Int32)), .val (.int (1 : Int32)), .val (.int x0), .unset, .unset] [(.int (1 : Int32))])) _
        refine XS.iconst X210.here hx rfl (hb hby at_234) ?_
        show Steps p.tables e below (T210.setTop (mkF m 235 #[.val (.int p1), .val (.int p2), .val (.int p3), .val (.int p4), .val (.int (2 : Int32)), .val (.int x0), .val (.int x1), .val (.int x2), .val (.ref b198), .val (.ref r), .val (.int (1 : Int32)), .val (.int (1 : Int32)), .val (.int x0), .unset, .unset] [(.int (1 : Int32)), (.int (1 : Int32))])) _
        refine XS.icmpNo X210.here hx rfl (hb hby at_235) rfl (teq (by decide)).2 ?_
        show Steps p.tables e below (T210.setTop (mkF m 238 #[.val (.int p1), .val (.int p2), .val (.int p3), .val (.int p4), .val (.int (2 : Int32)), .val (.int x0), .val (.int x1), .val (.int x2), .val (.ref b198), .val (.ref r), .val (.int (1 : Int32)), .val (.int (1 : Int32)), .val (.int x0), .unset, .unset] [])) _
        refine XS.iload X210.here hx rfl (hb hby at_238) rfl ?_
        show Steps p.tables e below (T210.setTop (mkF m 240 #[.val (.int p1), .val (.int p2), .val (.int p3), .val (.int p4), .val (.int (2 : Int32)), .val (.int x0), .val (.int x1), .val (.int x2), .val (.ref b198), .val (.ref r), .val (.int (1 : Int32)), .val (.int (1 : Int32)), .val (.int x0), .unset, .unset] [(.int x1)])) _
        refine XS.iconst X210.here hx rfl (hb hby at_240) ?_
        show Steps p.tables e below (T210.setTop (mkF m 241 #[.val (.int p1), .val (.int p2), .val (.int p3), .val (.int p4), .val (.int (2 : Int32)), .val (.int x0), .val (.int x1), .val (.int x2), .val (.ref b198), .val (.ref r), .val (.int (1 : Int32)), .val (.int (1 : Int32)), .val (.int x0), .unset, .unset] [(.int (1 : Int32)), (.int x1)])) _
        refine XS.iadd X210.here hx rfl (hb hby at_241) rfl ?_
        show Steps p.tables e below (T210.setTop (mkF m 242 #[.val (.int p1), .val (.int p2), .val (.int p3), .val (.int p4), .val (.int (2 : Int32)), .val (.int x0), .val (.int x1), .val (.int x2), .val (.ref b198), .val (.ref r), .val (.int (1 : Int32)), .val (.int (1 : Int32)), .val (.int x0), .unset, .unset] [(.int (x1 + (1 : Int32)))])) _
        refine XS.i2b X210.here hx rfl (hb hby at_242) rfl ?_
        show Steps p.tables e below (T210.setTop (mkF m 243 #[.val (.int p1), .val (.int p2), .val (.int p3), .val (.int p4), .val (.int (2 : Int32)), .val (.int x0), .val (.int x1), .val (.int x2), .val (.ref b198), .val (.ref r), .val (.int (1 : Int32)), .val (.int (1 : Int32)), .val (.int x0), .unset, .unset] [(.int ((x1 + (1 : Int32)).toInt8.toInt32))])) _
        refine XS.goto X210.here hx rfl (pc0 := 243) (pc' := 248) rfl (hb hby at_243) (by decide) (by decide) ?_
        show Steps p.tables e below (T210.setTop (mkF m 248 #[.val (.int p1), .val (.int p2), .val (.int p3), .val (.int p4), .val (.int (2 : Int32)), .val (.int x0), .val (.int x1), .val (.int x2), .val (.ref b198), .val (.ref r), .val (.int (1 : Int32)), .val (.int (1 : Int32)), .val (.int x0), .unset, .unset] [(.int ((x1 + (1 : Int32)).toInt8.toInt32))])) _
        refine XS.istore X210.here hx rfl (hb hby at_248) rfl (l' := #[.val (.int p1), .val (.int p2), .val (.int p3), .val (.int p4), .val (.int (2 : Int32)), .val (.int x0), .val (.int x1), .val (.int x2), .val (.ref b198), .val (.ref r), .val (.int (1 : Int32)), .val (.int (1 : Int32)), .val (.int x0), .val (.int ((x1 + (1 : Int32)).toInt8.toInt32)), .unset]) rfl ?_
        show Steps p.tables e below (T210.setTop (mkF m 250 #[.val (.int p1), .val (.int p2), .val (.int p3), .val (.int p4), .val (.int (2 : Int32)), .val (.int x0), .val (.int x1), .val (.int x2), .val (.ref b198), .val (.ref r), .val (.int (1 : Int32)), .val (.int (1 : Int32)), .val (.int x0), .val (.int ((x1 + (1 : Int32)).toInt8.toInt32)), .unset] [])) _
        refine XS.iload X210.here hx rfl (hb hby at_250) rfl ?_
        show Steps p.tables e below (T210.setTop (mkF m 252 #[.val (.int p1), .val (.int p2), .val (.int p3), .val (.int p4), .val (.int (2 : Int32)), .val (.int x0), .val (.int x1), .val (.int x2), .val (.ref b198), .val (.ref r), .val (.int (1 : Int32)), .val (.int (1 : Int32)), .val (.int x0), .val (.int ((x1 + (1 : Int32)).toInt8.toInt32)), .unset] [(.int x2)])) _
        refine XS.iconst X210.here hx rfl (hb hby at_252) ?_
        show Steps p.tables e below (T210.setTop (mkF m 253 #[.val (.int p1), .val (.int p2), .val (.int p3), .val (.int p4), .val (.int (2 : Int32)), .val (.int x0), .val (.int x1), .val (.int x2), .val (.ref b198), .val (.ref r), .val (.int (1 : Int32)), .val (.int (1 : Int32)), .val (.int x0), .val (.int ((x1 + (1 : Int32)).toInt8.toInt32)), .unset] [(.int (1 : Int32)), (.int x2)])) _
        refine XS.iadd X210.here hx rfl (hb hby at_253) rfl ?_
        show Steps p.tables e below (T210.setTop (mkF m 254 #[.val (.int p1), .val (.int p2), .val (.int p3), .val (.int p4), .val (.int (2 : Int32)), .val (.int x0), .val (.int x1), .val (.int x2), .val (.ref b198), .val (.ref r), .val (.int (1 : Int32)), .val (.int (1 : Int32)), .val (.int x0), .val (.int ((x1 + (1 : Int32)).toInt8.toInt32)), .unset] [(.int (x2 + (1 : Int32)))])) _
        refine XS.i2b X210.here hx rfl (hb hby at_254) rfl ?_
        show Steps p.tables e below (T210.setTop (mkF m 255 #[.val (.int p1), .val (.int p2), .val (.int p3), .val (.int p4), .val (.int (2 : Int32)), .val (.int x0), .val (.int x1), .val (.int x2), .val (.ref b198), .val (.ref r), .val (.int (1 : Int32)), .val (.int (1 : Int32)), .val (.int x0), .val (.int ((x1 + (1 : Int32)).toInt8.toInt32)), .unset] [(.int ((x2 + (1 : Int32)).toInt8.toInt32))])) _
        refine XS.istore X210.here hx rfl (hb hby at_255) rfl (l' := #[.val (.int p1), .val (.int p2), .val (.int p3), .val (.int p4), .val (.int (2 : Int32)), .val (.int x0), .val (.int x1), .val (.int x2), .val (.ref b198), .val (.ref r), .val (.int (1 : Int32)), .val (.int (1 : Int32)), .val (.int x0), .val (.int ((x1 + (1 : Int32)).toInt8.toInt32)), .val (.int ((x2 + (1 : Int32)).toInt8.toInt32))]) rfl ?_
        show Steps p.tables e below (T210.setTop (mkF m 257 #[.val (.int p1), .val (.int p2), .val (.int p3), .val (.int p4), .val (.int (2 : Int32)), .val (.int x0), .val (.int x1), .val (.int x2), .val (.ref b198), .val (.ref r), .val (.int (1 : Int32)), .val (.int (1 : Int32)), .val (.int x0), .val (.int ((x1 + (1 : Int32)).toInt8.toInt32)), .val (.int ((x2 + (1 : Int32)).toInt8.toInt32))] [])) _
        refine XS.aload X210.here hx rfl (hb hby at_257) rfl rfl ?_
        show Steps p.tables e below (T210.setTop (mkF m 259 #[.val (.int p1), .val (.int p2), .val (.int p3), .val (.int p4), .val (.int (2 : Int32)), .val (.int x0), .val (.int x1), .val (.int x2), .val (.ref b198), .val (.ref r), .val (.int (1 : Int32)), .val (.int (1 : Int32)), .val (.int x0), .val (.int ((x1 + (1 : Int32)).toInt8.toInt32)), .val (.int ((x2 + (1 : Int32)).toInt8.toInt32))] [(.ref r)])) _
        refine XS.iconst X210.here hx rfl (hb hby at_259) ?_
        show Steps p.tables e below (T210.setTop (mkF m 260 #[.val (.int p1), .val (.int p2), .val (.int p3), .val (.int p4), .val (.int (2 : Int32)), .val (.int x0), .val (.int x1), .val (.int x2), .val (.ref b198), .val (.ref r), .val (.int (1 : Int32)), .val (.int (1 : Int32)), .val (.int x0), .val (.int ((x1 + (1 : Int32)).toInt8.toInt32)), .val (.int ((x2 + (1 : Int32)).toInt8.toInt32))] [(.int (0 : Int32)), (.ref r)])) _
        refine own_bal X210 hx hZ rfl Vr (j := (0 : Int32)) ⟨by decide, by decide⟩ (v := (.int x0)) rfl (g := (mkF m 260 #[.val (.int p1), .val (.int p2), .val (.int p3), .val (.int p4), .val (.int (2 : Int32)), .val (.int x0), .val (.int x1), .val (.int x2), .val (.ref b198), .val (.ref r), .val (.int (1 : Int32)), .val (.int (1 : Int32)), .val (.int x0), .val (.int ((x1 + (1 : Int32)).toInt8.toInt32)), .val (.int ((x2 + (1 : Int32)).toInt8.toInt32))] [(.int (0 : Int32)), (.ref r)])) rfl rfl (hb hby at_260) _ ?_
        show Steps p.tables e below (T210.setTop (mkF m 261 #[.val (.int p1), .val (.int p2), .val (.int p3), .val (.int p4), .val (.int (2 : Int32)), .val (.int x0), .val (.int x1), .val (.int x2), .val (.ref b198), .val (.ref r), .val (.int (1 : Int32)), .val (.int (1 : Int32)), .val (.int x0), .val (.int ((x1 + (1 : Int32)).toInt8.toInt32)), .val (.int ((x2 + (1 : Int32)).toInt8.toInt32))] [(.int x0)])) _
        refine XS.iload X210.here hx rfl (hb hby at_261) rfl ?_
        show Steps p.tables e below (T210.setTop (mkF m 263 #[.val (.int p1), .val (.int p2), .val (.int p3), .val (.int p4), .val (.int (2 : Int32)), .val (.int x0), .val (.int x1), .val (.int x2), .val (.ref b198), .val (.ref r), .val (.int (1 : Int32)), .val (.int (1 : Int32)), .val (.int x0), .val (.int ((x1 + (1 : Int32)).toInt8.toInt32)), .val (.int ((x2 + (1 : Int32)).toInt8.toInt32))] [(.int x0), (.int x0)])) _
        refine XS.icmpYes X210.here hx rfl (pc0 := 263) (pc' := 268) rfl (hb hby at_263) rfl (teq rfl).1 (by decide) (by decide) ?_
        show Steps p.tables e below (T210.setTop (mkF m 268 #[.val (.int p1), .val (.int p2), .val (.int p3), .val (.int p4), .val (.int (2 : Int32)), .val (.int x0), .val (.int x1), .val (.int x2), .val (.ref b198), .val (.ref r), .val (.int (1 : Int32)), .val (.int (1 : Int32)), .val (.int x0), .val (.int ((x1 + (1 : Int32)).toInt8.toInt32)), .val (.int ((x2 + (1 : Int32)).toInt8.toInt32))] [])) _
        refine XS.iload X210.here hx rfl (hb hby at_268) rfl ?_
        show Steps p.tables e below (T210.setTop (mkF m 270 #[.val (.int p1), .val (.int p2), .val (.int p3), .val (.int p4), .val (.int (2 : Int32)), .val (.int x0), .val (.int x1), .val (.int x2), .val (.ref b198), .val (.ref r), .val (.int (1 : Int32)), .val (.int (1 : Int32)), .val (.int x0), .val (.int ((x1 + (1 : Int32)).toInt8.toInt32)), .val (.int ((x2 + (1 : Int32)).toInt8.toInt32))] [(.int (1 : Int32))])) _
        refine XS.iconst X210.here hx rfl (hb hby at_270) ?_
        show Steps p.tables e below (T210.setTop (mkF m 271 #[.val (.int p1), .val (.int p2), .val (.int p3), .val (.int p4), .val (.int (2 : Int32)), .val (.int x0), .val (.int x1), .val (.int x2), .val (.ref b198), .val (.ref r), .val (.int (1 : Int32)), .val (.int (1 : Int32)), .val (.int x0), .val (.int ((x1 + (1 : Int32)).toInt8.toInt32)), .val (.int ((x2 + (1 : Int32)).toInt8.toInt32))] [(.int (1 : Int32)), (.int (1 : Int32))])) _
        refine XS.icmpNo X210.here hx rfl (hb hby at_271) rfl (flt (by decide)).1 ?_
        show Steps p.tables e below (T210.setTop (mkF m 274 #[.val (.int p1), .val (.int p2), .val (.int p3), .val (.int p4), .val (.int (2 : Int32)), .val (.int x0), .val (.int x1), .val (.int x2), .val (.ref b198), .val (.ref r), .val (.int (1 : Int32)), .val (.int (1 : Int32)), .val (.int x0), .val (.int ((x1 + (1 : Int32)).toInt8.toInt32)), .val (.int ((x2 + (1 : Int32)).toInt8.toInt32))] [])) _
        refine XS.aload X210.here hx rfl (hb hby at_274) rfl rfl ?_
        show Steps p.tables e below (T210.setTop (mkF m 276 #[.val (.int p1), .val (.int p2), .val (.int p3), .val (.int p4), .val (.int (2 : Int32)), .val (.int x0), .val (.int x1), .val (.int x2), .val (.ref b198), .val (.ref r), .val (.int (1 : Int32)), .val (.int (1 : Int32)), .val (.int x0), .val (.int ((x1 + (1 : Int32)).toInt8.toInt32)), .val (.int ((x2 + (1 : Int32)).toInt8.toInt32))] [(.ref r)])) _
        refine XS.iconst X210.here hx rfl (hb hby at_276) ?_
        show Steps p.tables e below (T210.setTop (mkF m 277 #[.val (.int p1), .val (.int p2), .val (.int p3), .val (.int p4), .val (.int (2 : Int32)), .val (.int x0), .val (.int x1), .val (.int x2), .val (.ref b198), .val (.ref r), .val (.int (1 : Int32)), .val (.int (1 : Int32)), .val (.int x0), .val (.int ((x1 + (1 : Int32)).toInt8.toInt32)), .val (.int ((x2 + (1 : Int32)).toInt8.toInt32))] [(.int (1 : Int32)), (.ref r)])) _
        refine own_bal X210 hx hZ rfl Vr (j := (1 : Int32)) ⟨by decide, by decide⟩ (v := (.int ((x1 + (1 : Int32)).toInt8.toInt32))) rfl (g := (mkF m 277 #[.val (.int p1), .val (.int p2), .val (.int p3), .val (.int p4), .val (.int (2 : Int32)), .val (.int x0), .val (.int x1), .val (.int x2), .val (.ref b198), .val (.ref r), .val (.int (1 : Int32)), .val (.int (1 : Int32)), .val (.int x0), .val (.int ((x1 + (1 : Int32)).toInt8.toInt32)), .val (.int ((x2 + (1 : Int32)).toInt8.toInt32))] [(.int (1 : Int32)), (.ref r)])) rfl rfl (hb hby at_277) _ ?_
        show Steps p.tables e below (T210.setTop (mkF m 278 #[.val (.int p1), .val (.int p2), .val (.int p3), .val (.int p4), .val (.int (2 : Int32)), .val (.int x0), .val (.int x1), .val (.int x2), .val (.ref b198), .val (.ref r), .val (.int (1 : Int32)), .val (.int (1 : Int32)), .val (.int x0), .val (.int ((x1 + (1 : Int32)).toInt8.toInt32)), .val (.int ((x2 + (1 : Int32)).toInt8.toInt32))] [(.int ((x1 + (1 : Int32)).toInt8.toInt32))])) _
        refine XS.iload X210.here hx rfl (hb hby at_278) rfl ?_
        show Steps p.tables e below (T210.setTop (mkF m 280 #[.val (.int p1), .val (.int p2), .val (.int p3), .val (.int p4), .val (.int (2 : Int32)), .val (.int x0), .val (.int x1), .val (.int x2), .val (.ref b198), .val (.ref r), .val (.int (1 : Int32)), .val (.int (1 : Int32)), .val (.int x0), .val (.int ((x1 + (1 : Int32)).toInt8.toInt32)), .val (.int ((x2 + (1 : Int32)).toInt8.toInt32))] [(.int ((x1 + (1 : Int32)).toInt8.toInt32)), (.int ((x1 + (1 : Int32)).toInt8.toInt32))])) _
        refine XS.icmpYes X210.here hx rfl (pc0 := 280) (pc' := 285) rfl (hb hby at_280) rfl (teq rfl).1 (by decide) (by decide) ?_
        show Steps p.tables e below (T210.setTop (mkF m 285 #[.val (.int p1), .val (.int p2), .val (.int p3), .val (.int p4), .val (.int (2 : Int32)), .val (.int x0), .val (.int x1), .val (.int x2), .val (.ref b198), .val (.ref r), .val (.int (1 : Int32)), .val (.int (1 : Int32)), .val (.int x0), .val (.int ((x1 + (1 : Int32)).toInt8.toInt32)), .val (.int ((x2 + (1 : Int32)).toInt8.toInt32))] [])) _
        refine XS.iload X210.here hx rfl (hb hby at_285) rfl ?_
        show Steps p.tables e below (T210.setTop (mkF m 287 #[.val (.int p1), .val (.int p2), .val (.int p3), .val (.int p4), .val (.int (2 : Int32)), .val (.int x0), .val (.int x1), .val (.int x2), .val (.ref b198), .val (.ref r), .val (.int (1 : Int32)), .val (.int (1 : Int32)), .val (.int x0), .val (.int ((x1 + (1 : Int32)).toInt8.toInt32)), .val (.int ((x2 + (1 : Int32)).toInt8.toInt32))] [(.int (1 : Int32))])) _
        refine XS.iconst X210.here hx rfl (hb hby at_287) ?_
        show Steps p.tables e below (T210.setTop (mkF m 288 #[.val (.int p1), .val (.int p2), .val (.int p3), .val (.int p4), .val (.int (2 : Int32)), .val (.int x0), .val (.int x1), .val (.int x2), .val (.ref b198), .val (.ref r), .val (.int (1 : Int32)), .val (.int (1 : Int32)), .val (.int x0), .val (.int ((x1 + (1 : Int32)).toInt8.toInt32)), .val (.int ((x2 + (1 : Int32)).toInt8.toInt32))] [(.int (2 : Int32)), (.int (1 : Int32))])) _
        refine XS.icmpYes X210.here hx rfl (pc0 := 288) (pc' := 302) rfl (hb hby at_288) rfl (tlt (by decide)).1 (by decide) (by decide) ?_
        show Steps p.tables e below (T210.setTop (mkF m 302 #[.val (.int p1), .val (.int p2), .val (.int p3), .val (.int p4), .val (.int (2 : Int32)), .val (.int x0), .val (.int x1), .val (.int x2), .val (.ref b198), .val (.ref r), .val (.int (1 : Int32)), .val (.int (1 : Int32)), .val (.int x0), .val (.int ((x1 + (1 : Int32)).toInt8.toInt32)), .val (.int ((x2 + (1 : Int32)).toInt8.toInt32))] [])) _
        refine XS.iconst X210.here hx rfl (hb hby at_302) ?_
        exact kt
      obtain ⟨fsx, hr, hrun, hended, hW, hsame⟩ := X210.leave (v := some (.int (nar .boolean (1 : Int32)))) (fun h => by rw [Bd.returns] at h; cases h)
      refine ⟨_, _, pre213 _ ?_, hrun, hended, _, _, rfl, ?_, ⟨_, rfl⟩, hW, hsame.mono (by decide) (by decide)⟩
      · exact retN X210 hx (t := .boolean) Bd.returns (by simp) (hb hby at_303) hr
      · show Q0 Z p1 p2 p3 p4 h0 n0 _ T210.heap _
        skip
        exact ⟨rfl, Nf210⟩
  · have pre214 : ∀ t, Steps p.tables e below (s₁.setTop (mkF m 3 #[.val (.int p1), .val (.int p2), .val (.int p3), .val (.int p4), .unset, .unset, .unset, .unset, .unset, .unset, .unset, .unset, .unset, .unset, .unset] [(.int (3 : Int32))])) t → Steps p.tables e below (s₁.setTop (entryFrame m #[(.int p1), (.int p2), (.int p3), (.int p4)] maxLocals)) t := by
      intro t kt
      have hsv : (p1 &&& (3 : Int32)) = (3 : Int32) := hn
      refine pre169 t ?_
      rw [hsv]
      exact kt
    obtain ⟨_, _, ⟨T215, L215, k215, n215⟩, -, X215, ⟨Lc215, hQ215, l215, y215, z215⟩, st215⟩ := Jvm.LawKit.callS X0 hx (y := (⟨"com/example/tessera/tessera/storage/PrefixesEndPinLaw", "draw", "(I)B"⟩ : MethodName)) hown (mvT hZ (hw _ (List.mem_of_getElem? (i := 0) rfl))) (mvT hZ (hw _ (List.mem_of_getElem? (i := 1) rfl))) (mvT hZ (hw _ (List.mem_of_getElem? (i := 2) rfl))) (mvT hZ (hw _ (List.mem_of_getElem? (i := 3) rfl))) (by decide) (backOf (W := 0) (rm1 l Z a0 hw [] p2 h0 n0 Z0) hZ (hw _ (List.mem_of_getElem? (i := 3) rfl)) (hw _ (List.mem_of_getElem? (i := 2) rfl)) (by decide) (by decide)) (g := (mkF m 6 #[.val (.int p1), .val (.int p2), .val (.int p3), .val (.int p4), .val (.int (3 : Int32)), .unset, .unset, .unset, .unset, .unset, .unset, .unset, .unset, .unset, .unset] [(.int p2)])) rfl (by rw [hml]; rfl) (argsL := [(.int p2)]) (rest := []) (lenOf pd_2 rfl) rfl (by show 2 * 0 + _ ≤ _; exact Nat.le_of_eq rfl) (hb hby at_6) (fun _ _ => ⟨rfl, e0, (by decide : 0 + 0 ≤ _), (by decide : 0 + 0 ≤ _)⟩)
    dsimp only [Pt.U, Pt.locs, Pt.cells, Pt.slots] at X215 l215 y215 z215 st215 hQ215
    subst l215 y215 z215
    obtain ⟨x0, rfl, Nq215, eq215, hx0⟩ := hQ215
    have Nf215 := Fr.app N0 Nq215
    obtain ⟨_, _, ⟨T216, L216, k216, n216⟩, -, X216, ⟨Lc216, hQ216, l216, y216, z216⟩, st216⟩ := Jvm.LawKit.callS X215 hx (y := (⟨"com/example/tessera/tessera/storage/PrefixesEndPinLaw", "draw", "(I)B"⟩ : MethodName)) hown (mvT hZ (hw _ (List.mem_of_getElem? (i := 0) rfl))) (mvT hZ (hw _ (List.mem_of_getElem? (i := 1) rfl))) (mvT hZ (hw _ (List.mem_of_getElem? (i := 2) rfl))) (mvT hZ (hw _ (List.mem_of_getElem? (i := 3) rfl))) (by decide) (backOf (W := 0) (rm1 l Z a0 hw [] p3 h0 n0 Z0) hZ (hw _ (List.mem_of_getElem? (i := 3) rfl)) (hw _ (List.mem_of_getElem? (i := 2) rfl)) (by decide) (by decide)) (g := (mkF m 12 #[.val (.int p1), .val (.int p2), .val (.int p3), .val (.int p4), .val (.int (3 : Int32)), .val (.int x0), .unset, .unset, .unset, .unset, .unset, .unset, .unset, .unset, .unset] [(.int p3)])) rfl (by rw [hml]; rfl) (argsL := [(.int p3)]) (rest := []) (lenOf pd_2 rfl) rfl (by show 2 * 0 + _ ≤ _; exact Nat.le_of_eq rfl) (hb hby at_12) (fun _ _ => ⟨rfl, eq215, (by decide : 0 + 0 ≤ _), (by decide : 0 + 0 ≤ _)⟩)
    dsimp only [Pt.U, Pt.locs, Pt.cells, Pt.slots] at X216 l216 y216 z216 st216 hQ216
    subst l216 y216 z216
    obtain ⟨x1, rfl, Nq216, eq216, hx1⟩ := hQ216
    have Nf216 := Fr.app Nf215 Nq216
    obtain ⟨_, _, ⟨T217, L217, k217, n217⟩, -, X217, ⟨Lc217, hQ217, l217, y217, z217⟩, st217⟩ := Jvm.LawKit.callS X216 hx (y := (⟨"com/example/tessera/tessera/storage/PrefixesEndPinLaw", "draw", "(I)B"⟩ : MethodName)) hown (mvT hZ (hw _ (List.mem_of_getElem? (i := 0) rfl))) (mvT hZ (hw _ (List.mem_of_getElem? (i := 1) rfl))) (mvT hZ (hw _ (List.mem_of_getElem? (i := 2) rfl))) (mvT hZ (hw _ (List.mem_of_getElem? (i := 3) rfl))) (by decide) (backOf (W := 0) (rm1 l Z a0 hw [] p4 h0 n0 Z0) hZ (hw _ (List.mem_of_getElem? (i := 3) rfl)) (hw _ (List.mem_of_getElem? (i := 2) rfl)) (by decide) (by decide)) (g := (mkF m 18 #[.val (.int p1), .val (.int p2), .val (.int p3), .val (.int p4), .val (.int (3 : Int32)), .val (.int x0), .val (.int x1), .unset, .unset, .unset, .unset, .unset, .unset, .unset, .unset] [(.int p4)])) rfl (by rw [hml]; rfl) (argsL := [(.int p4)]) (rest := []) (lenOf pd_2 rfl) rfl (by show 2 * 0 + _ ≤ _; exact Nat.le_of_eq rfl) (hb hby at_18) (fun _ _ => ⟨rfl, eq216, (by decide : 0 + 0 ≤ _), (by decide : 0 + 0 ≤ _)⟩)
    dsimp only [Pt.U, Pt.locs, Pt.cells, Pt.slots] at X217 l217 y217 z217 st217 hQ217
    subst l217 y217 z217
    obtain ⟨x2, rfl, Nq217, eq217, hx2⟩ := hQ217
    have Nf217 := Fr.app Nf216 Nq217
    have pre218 : ∀ t, Steps p.tables e below (T217.setTop (mkF m 21 #[.val (.int p1), .val (.int p2), .val (.int p3), .val (.int p4), .val (.int (3 : Int32)), .val (.int x0), .val (.int x1), .unset, .unset, .unset, .unset, .unset, .unset, .unset, .unset] [(.int x2)])) t → Steps p.tables e below (s₁.setTop (entryFrame m #[(.int p1), (.int p2), (.int p3), (.int p4)] maxLocals)) t := by
      intro t kt
      refine pre214 t ?_
      show Steps p.tables e below (s₁.setTop (mkF m 3 #[.val (.int p1), .val (.int p2), .val (.int p3), .val (.int p4), .unset, .unset, .unset, .unset, .unset, .unset, .unset, .unset, .unset, .unset, .unset] [(.int (3 : Int32))])) _
      refine XS.istore X0.here hx rfl (hb hby at_3) rfl (l' := #[.val (.int p1), .val (.int p2), .val (.int p3), .val (.int p4), .val (.int (3 : Int32)), .unset, .unset, .unset, .unset, .unset, .unset, .unset, .unset, .unset, .unset]) rfl ?_
      show Steps p.tables e below (s₁.setTop (mkF m 5 #[.val (.int p1), .val (.int p2), .val (.int p3), .val (.int p4), .val (.int (3 : Int32)), .unset, .unset, .unset, .unset, .unset, .unset, .unset, .unset, .unset, .unset] [])) _
      refine XS.iloadN X0.here hx rfl (hb hby at_5) rfl ?_
      show Steps p.tables e below (s₁.setTop (mkF m 6 #[.val (.int p1), .val (.int p2), .val (.int p3), .val (.int p4), .val (.int (3 : Int32)), .unset, .unset, .unset, .unset, .unset, .unset, .unset, .unset, .unset, .unset] [(.int p2)])) _
      refine st215 _ ?_
      show Steps p.tables e below (T215.setTop (mkF m 9 #[.val (.int p1), .val (.int p2), .val (.int p3), .val (.int p4), .val (.int (3 : Int32)), .unset, .unset, .unset, .unset, .unset, .unset, .unset, .unset, .unset, .unset] [(.int x0)])) _
      refine XS.istore X215.here hx rfl (hb hby at_9) rfl (l' := #[.val (.int p1), .val (.int p2), .val (.int p3), .val (.int p4), .val (.int (3 : Int32)), .val (.int x0), .unset, .unset, .unset, .unset, .unset, .unset, .unset, .unset, .unset]) rfl ?_
      show Steps p.tables e below (T215.setTop (mkF m 11 #[.val (.int p1), .val (.int p2), .val (.int p3), .val (.int p4), .val (.int (3 : Int32)), .val (.int x0), .unset, .unset, .unset, .unset, .unset, .unset, .unset, .unset, .unset] [])) _
      refine XS.iloadN X215.here hx rfl (hb hby at_11) rfl ?_
      show Steps p.tables e below (T215.setTop (mkF m 12 #[.val (.int p1), .val (.int p2), .val (.int p3), .val (.int p4), .val (.int (3 : Int32)), .val (.int x0), .unset, .unset, .unset, .unset, .unset, .unset, .unset, .unset, .unset] [(.int p3)])) _
      refine st216 _ ?_
      show Steps p.tables e below (T216.setTop (mkF m 15 #[.val (.int p1), .val (.int p2), .val (.int p3), .val (.int p4), .val (.int (3 : Int32)), .val (.int x0), .unset, .unset, .unset, .unset, .unset, .unset, .unset, .unset, .unset] [(.int x1)])) _
      refine XS.istore X216.here hx rfl (hb hby at_15) rfl (l' := #[.val (.int p1), .val (.int p2), .val (.int p3), .val (.int p4), .val (.int (3 : Int32)), .val (.int x0), .val (.int x1), .unset, .unset, .unset, .unset, .unset, .unset, .unset, .unset]) rfl ?_
      show Steps p.tables e below (T216.setTop (mkF m 17 #[.val (.int p1), .val (.int p2), .val (.int p3), .val (.int p4), .val (.int (3 : Int32)), .val (.int x0), .val (.int x1), .unset, .unset, .unset, .unset, .unset, .unset, .unset, .unset] [])) _
      refine XS.iloadN X216.here hx rfl (hb hby at_17) rfl ?_
      show Steps p.tables e below (T216.setTop (mkF m 18 #[.val (.int p1), .val (.int p2), .val (.int p3), .val (.int p4), .val (.int (3 : Int32)), .val (.int x0), .val (.int x1), .unset, .unset, .unset, .unset, .unset, .unset, .unset, .unset] [(.int p4)])) _
      refine st217 _ ?_
      exact kt
    obtain ⟨T219, h219, k219, X219, e219, E219, A219, Ax219, st219⟩ := newPE X217 hx hZ (hw _ (List.mem_of_getElem? (i := 4) rfl)) eq217 (g := (mkF m 25 #[.val (.int p1), .val (.int p2), .val (.int p3), .val (.int p4), .val (.int (3 : Int32)), .val (.int x0), .val (.int x1), .val (.int x2), .unset, .unset, .unset, .unset, .unset, .unset, .unset] [(.int (3 : Int32))])) rfl (hb hby at_25) rfl (by decide) (cap := 3) (by decide) (by decide) (by decide) (by decide) (ad := "[B") rfl
    obtain ⟨b219, gq219⟩ : ∃ z, z = h0.size := ⟨_, rfl⟩
    rw [← gq219] at A219 Ax219 st219
    have g_b219 : n0 ≤ b219 := Nat.le_trans Z0 (Nat.le_of_eq gq219.symm)
    have sz_b219 : h0.size ≤ b219 := Nat.le_trans (Keep.refl h0 []).1 (Nat.le_of_eq gq219.symm)
    have K219 : Keep h0 h219 [] := (Keep.refl h0 []).ext E219
    have Z219 : n0 ≤ h219.size := Nat.le_trans Z0 E219.1
    have V219 : Arv Z h219 b219 k219 .byte (3 : Int32) [(.int (0 : Int32)), (.int (0 : Int32)), (.int (0 : Int32))] (.int (0 : Int32)) := (Arv.new A219 (by decide)).pad (pad_rep [] (.int (0 : Int32)) 3)
    obtain ⟨T220, h220, X220, e220, W220, V220, st220⟩ := own_bst X219 hx hZ e219 V219 (j := (0 : Int32)) ⟨by decide, by decide⟩ (i := 0) rfl (Nat.le_of_ble_eq_true rfl) (w := x0) hx0 (g := (mkF m 39 #[.val (.int p1), .val (.int p2), .val (.int p3), .val (.int p4), .val (.int (3 : Int32)), .val (.int x0), .val (.int x1), .val (.int x2), .val (.ref b219), .unset, .unset, .unset, .unset, .unset, .unset] [(.int x0), (.int (0 : Int32)), (.ref b219)])) rfl rfl (hb hby at_39)
    have f221 := (Ax219.wr W220)
    have K220 : Keep h0 h220 [] := K219.wr W220 (Or.inr sz_b219)
    have Nf220 := Fr.snoc X220 Nf217 g_b219
    have Z220 : n0 ≤ h220.size := Nat.le_trans Z219 (Keep.of_wr W220).1
    have V220 : Arv Z h220 b219 k219 .byte (3 : Int32) [(.int x0), (.int (0 : Int32)), (.int (0 : Int32))] (.int (0 : Int32)) := V220
    obtain ⟨T222, h222, X222, e222, W222, V222, st222⟩ := own_bst X220 hx hZ e220 V220 (j := (1 : Int32)) ⟨by decide, by decide⟩ (i := 1) rfl (Nat.le_of_ble_eq_true rfl) (w := x1) hx1 (g := (mkF m 51 #[.val (.int p1), .val (.int p2), .val (.int p3), .val (.int p4), .val (.int (3 : Int32)), .val (.int x0), .val (.int x1), .val (.int x2), .val (.ref b219), .unset, .unset, .unset, .unset, .unset, .unset] [(.int x1), (.int (1 : Int32)), (.ref b219)])) rfl rfl (hb hby at_51)
    have f223 := (f221.wr W222)
    have K222 : Keep h0 h222 [] := K220.wr W222 (Or.inr sz_b219)
    have Nf222 := Fr.snoc X222 Nf220 g_b219
    have Z222 : n0 ≤ h222.size := Nat.le_trans Z220 (Keep.of_wr W222).1
    have V222 : Arv Z h222 b219 k219 .byte (3 : Int32) [(.int x0), (.int x1), (.int (0 : Int32))] (.int (0 : Int32)) := V222
    obtain ⟨T224, h224, X224, e224, W224, V224, st224⟩ := own_bst X222 hx hZ e222 V222 (j := (2 : Int32)) ⟨by decide, by decide⟩ (i := 2) rfl (Nat.le_of_ble_eq_true rfl) (w := x2) hx2 (g := (mkF m 63 #[.val (.int p1), .val (.int p2), .val (.int p3), .val (.int p4), .val (.int (3 : Int32)), .val (.int x0), .val (.int x1), .val (.int x2), .val (.ref b219), .unset, .unset, .unset, .unset, .unset, .unset] [(.int x2), (.int (2 : Int32)), (.ref b219)])) rfl rfl (hb hby at_63)
    have f225 := (f223.wr W224)
    have K224 : Keep h0 h224 [] := K222.wr W224 (Or.inr sz_b219)
    have Nf224 := Fr.snoc X224 Nf222 g_b219
    have Z224 : n0 ≤ h224.size := Nat.le_trans Z222 (Keep.of_wr W224).1
    have V224 : Arv Z h224 b219 k219 .byte (3 : Int32) [(.int x0), (.int x1), (.int x2)] (.int (0 : Int32)) := V224
    have pre226 : ∀ t, Steps p.tables e below (T224.setTop (mkF m 66 #[.val (.int p1), .val (.int p2), .val (.int p3), .val (.int p4), .val (.int (3 : Int32)), .val (.int x0), .val (.int x1), .val (.int x2), .val (.ref b219), .unset, .unset, .unset, .unset, .unset, .unset] [(.ref b219)])) t → Steps p.tables e below (s₁.setTop (entryFrame m #[(.int p1), (.int p2), (.int p3), (.int p4)] maxLocals)) t := by
      intro t kt
      refine pre218 t ?_
      show Steps p.tables e below (T217.setTop (mkF m 21 #[.val (.int p1), .val (.int p2), .val (.int p3), .val (.int p4), .val (.int (3 : Int32)), .val (.int x0), .val (.int x1), .unset, .unset, .unset, .unset, .unset, .unset, .unset, .unset] [(.int x2)])) _
      refine XS.istore X217.here hx rfl (hb hby at_21) rfl (l' := #[.val (.int p1), .val (.int p2), .val (.int p3), .val (.int p4), .val (.int (3 : Int32)), .val (.int x0), .val (.int x1), .val (.int x2), .unset, .unset, .unset, .unset, .unset, .unset, .unset]) rfl ?_
      show Steps p.tables e below (T217.setTop (mkF m 23 #[.val (.int p1), .val (.int p2), .val (.int p3), .val (.int p4), .val (.int (3 : Int32)), .val (.int x0), .val (.int x1), .val (.int x2), .unset, .unset, .unset, .unset, .unset, .unset, .unset] [])) _
      refine XS.iload X217.here hx rfl (hb hby at_23) rfl ?_
      show Steps p.tables e below (T217.setTop (mkF m 25 #[.val (.int p1), .val (.int p2), .val (.int p3), .val (.int p4), .val (.int (3 : Int32)), .val (.int x0), .val (.int x1), .val (.int x2), .unset, .unset, .unset, .unset, .unset, .unset, .unset] [(.int (3 : Int32))])) _
      refine st219 _ ?_
      show Steps p.tables e below (T219.setTop (mkF m 27 #[.val (.int p1), .val (.int p2), .val (.int p3), .val (.int p4), .val (.int (3 : Int32)), .val (.int x0), .val (.int x1), .val (.int x2), .unset, .unset, .unset, .unset, .unset, .unset, .unset] [(.ref b219)])) _
      refine XS.astore X219.here hx rfl (hb hby at_27) rfl rfl (l' := #[.val (.int p1), .val (.int p2), .val (.int p3), .val (.int p4), .val (.int (3 : Int32)), .val (.int x0), .val (.int x1), .val (.int x2), .val (.ref b219), .unset, .unset, .unset, .unset, .unset, .unset]) rfl ?_
      show Steps p.tables e below (T219.setTop (mkF m 29 #[.val (.int p1), .val (.int p2), .val (.int p3), .val (.int p4), .val (.int (3 : Int32)), .val (.int x0), .val (.int x1), .val (.int x2), .val (.ref b219), .unset, .unset, .unset, .unset, .unset, .unset] [])) _
      refine XS.iload X219.here hx rfl (hb hby at_29) rfl ?_
      show Steps p.tables e below (T219.setTop (mkF m 31 #[.val (.int p1), .val (.int p2), .val (.int p3), .val (.int p4), .val (.int (3 : Int32)), .val (.int x0), .val (.int x1), .val (.int x2), .val (.ref b219), .unset, .unset, .unset, .unset, .unset, .unset] [(.int (3 : Int32))])) _
      refine XS.ifNo X219.here hx rfl (hb hby at_31) rfl ((if0 _ _).trans (tlt (by decide)).2.2.2) ?_
      show Steps p.tables e below (T219.setTop (mkF m 34 #[.val (.int p1), .val (.int p2), .val (.int p3), .val (.int p4), .val (.int (3 : Int32)), .val (.int x0), .val (.int x1), .val (.int x2), .val (.ref b219), .unset, .unset, .unset, .unset, .unset, .unset] [])) _
      refine XS.aload X219.here hx rfl (hb hby at_34) rfl rfl ?_
      show Steps p.tables e below (T219.setTop (mkF m 36 #[.val (.int p1), .val (.int p2), .val (.int p3), .val (.int p4), .val (.int (3 : Int32)), .val (.int x0), .val (.int x1), .val (.int x2), .val (.ref b219), .unset, .unset, .unset, .unset, .unset, .unset] [(.ref b219)])) _
      refine XS.iconst X219.here hx rfl (hb hby at_36) ?_
      show Steps p.tables e below (T219.setTop (mkF m 37 #[.val (.int p1), .val (.int p2), .val (.int p3), .val (.int p4), .val (.int (3 : Int32)), .val (.int x0), .val (.int x1), .val (.int x2), .val (.ref b219), .unset, .unset, .unset, .unset, .unset, .unset] [(.int (0 : Int32)), (.ref b219)])) _
      refine XS.iload X219.here hx rfl (hb hby at_37) rfl ?_
      show Steps p.tables e below (T219.setTop (mkF m 39 #[.val (.int p1), .val (.int p2), .val (.int p3), .val (.int p4), .val (.int (3 : Int32)), .val (.int x0), .val (.int x1), .val (.int x2), .val (.ref b219), .unset, .unset, .unset, .unset, .unset, .unset] [(.int x0), (.int (0 : Int32)), (.ref b219)])) _
      refine st220 _ ?_
      show Steps p.tables e below (T220.setTop (mkF m 40 #[.val (.int p1), .val (.int p2), .val (.int p3), .val (.int p4), .val (.int (3 : Int32)), .val (.int x0), .val (.int x1), .val (.int x2), .val (.ref b219), .unset, .unset, .unset, .unset, .unset, .unset] [])) _
      refine XS.iload X220.here hx rfl (hb hby at_40) rfl ?_
      show Steps p.tables e below (T220.setTop (mkF m 42 #[.val (.int p1), .val (.int p2), .val (.int p3), .val (.int p4), .val (.int (3 : Int32)), .val (.int x0), .val (.int x1), .val (.int x2), .val (.ref b219), .unset, .unset, .unset, .unset, .unset, .unset] [(.int (3 : Int32))])) _
      refine XS.iconst X220.here hx rfl (hb hby at_42) ?_
      show Steps p.tables e below (T220.setTop (mkF m 43 #[.val (.int p1), .val (.int p2), .val (.int p3), .val (.int p4), .val (.int (3 : Int32)), .val (.int x0), .val (.int x1), .val (.int x2), .val (.ref b219), .unset, .unset, .unset, .unset, .unset, .unset] [(.int (1 : Int32)), (.int (3 : Int32))])) _
      refine XS.icmpNo X220.here hx rfl (hb hby at_43) rfl (tlt (by decide)).2.2.2 ?_
      show Steps p.tables e below (T220.setTop (mkF m 46 #[.val (.int p1), .val (.int p2), .val (.int p3), .val (.int p4), .val (.int (3 : Int32)), .val (.int x0), .val (.int x1), .val (.int x2), .val (.ref b219), .unset, .unset, .unset, .unset, .unset, .unset] [])) _
      refine XS.aload X220.here hx rfl (hb hby at_46) rfl rfl ?_
      show Steps p.tables e below (T220.setTop (mkF m 48 #[.val (.int p1), .val (.int p2), .val (.int p3), .val (.int p4), .val (.int (3 : Int32)), .val (.int x0), .val (.int x1), .val (.int x2), .val (.ref b219), .unset, .unset, .unset, .unset, .unset, .unset] [(.ref b219)])) _
      refine XS.iconst X220.here hx rfl (hb hby at_48) ?_
      show Steps p.tables e below (T220.setTop (mkF m 49 #[.val (.int p1), .val (.int p2), .val (.int p3), .val (.int p4), .val (.int (3 : Int32)), .val (.int x0), .val (.int x1), .val (.int x2), .val (.ref b219), .unset, .unset, .unset, .unset, .unset, .unset] [(.int (1 : Int32)), (.ref b219)])) _
      refine XS.iload X220.here hx rfl (hb hby at_49) rfl ?_
      show Steps p.tables e below (T220.setTop (mkF m 51 #[.val (.int p1), .val (.int p2), .val (.int p3), .val (.int p4), .val (.int (3 : Int32)), .val (.int x0), .val (.int x1), .val (.int x2), .val (.ref b219), .unset, .unset, .unset, .unset, .unset, .unset] [(.int x1), (.int (1 : Int32)), (.ref b219)])) _
      refine st222 _ ?_
      show Steps p.tables e below (T222.setTop (mkF m 52 #[.val (.int p1), .val (.int p2), .val (.int p3), .val (.int p4), .val (.int (3 : Int32)), .val (.int x0), .val (.int x1), .val (.int x2), .val (.ref b219), .unset, .unset, .unset, .unset, .unset, .unset] [])) _
      refine XS.iload X222.here hx rfl (hb hby at_52) rfl ?_
      show Steps p.tables e below (T222.setTop (mkF m 54 #[.val (.int p1), .val (.int p2), .val (.int p3), .val (.int p4), .val (.int (3 : Int32)), .val (.int x0), .val (.int x1), .val (.int x2), .val (.ref b219), .unset, .unset, .unset, .unset, .unset, .unset] [(.int (3 : Int32))])) _
      refine XS.iconst X222.here hx rfl (hb hby at_54) ?_
      show Steps p.tables e below (T222.setTop (mkF m 55 #[.val (.int p1), .val (.int p2), .val (.int p3), .val (.int p4), .val (.int (3 : Int32)), .val (.int x0), .val (.int x1), .val (.int x2), .val (.ref b219), .unset, .unset, .unset, .unset, .unset, .unset] [(.int (2 : Int32)), (.int (3 : Int32))])) _
      refine XS.icmpNo X222.here hx rfl (hb hby at_55) rfl (tlt (by decide)).2.2.2 ?_
      show Steps p.tables e below (T222.setTop (mkF m 58 #[.val (.int p1), .val (.int p2), .val (.int p3), .val (.int p4), .val (.int (3 : Int32)), .val (.int x0), .val (.int x1), .val (.int x2), .val (.ref b219), .unset, .unset, .unset, .unset, .unset, .unset] [])) _
      refine XS.aload X222.here hx rfl (hb hby at_58) rfl rfl ?_
      show Steps p.tables e below (T222.setTop (mkF m 60 #[.val (.int p1), .val (.int p2), .val (.int p3), .val (.int p4), .val (.int (3 : Int32)), .val (.int x0), .val (.int x1), .val (.int x2), .val (.ref b219), .unset, .unset, .unset, .unset, .unset, .unset] [(.ref b219)])) _
      refine XS.iconst X222.here hx rfl (hb hby at_60) ?_
      show Steps p.tables e below (T222.setTop (mkF m 61 #[.val (.int p1), .val (.int p2), .val (.int p3), .val (.int p4), .val (.int (3 : Int32)), .val (.int x0), .val (.int x1), .val (.int x2), .val (.ref b219), .unset, .unset, .unset, .unset, .unset, .unset] [(.int (2 : Int32)), (.ref b219)])) _
      refine XS.iload X222.here hx rfl (hb hby at_61) rfl ?_
      show Steps p.tables e below (T222.setTop (mkF m 63 #[.val (.int p1), .val (.int p2), .val (.int p3), .val (.int p4), .val (.int (3 : Int32)), .val (.int x0), .val (.int x1), .val (.int x2), .val (.ref b219), .unset, .unset, .unset, .unset, .unset, .unset] [(.int x2), (.int (2 : Int32)), (.ref b219)])) _
      refine st224 _ ?_
      show Steps p.tables e below (T224.setTop (mkF m 64 #[.val (.int p1), .val (.int p2), .val (.int p3), .val (.int p4), .val (.int (3 : Int32)), .val (.int x0), .val (.int x1), .val (.int x2), .val (.ref b219), .unset, .unset, .unset, .unset, .unset, .unset] [])) _
      refine XS.aload X224.here hx rfl (hb hby at_64) rfl rfl ?_
      exact kt
    by_cases ex2 : x2 = (-1 : Int32)
    · by_cases ex1 : x1 = (-1 : Int32)
      · by_cases ex0 : x0 = (-1 : Int32)
        · obtain ⟨_, _, ⟨T227, L227, k227, n227⟩, -, X227, ⟨Lc227, hQ227, l227, y227, z227⟩, st227⟩ := Jvm.LawKit.callS X224 hx (y := (⟨"com/example/tessera/tessera/storage/Prefixes", "end", "([B)[B"⟩ : MethodName)) hown (mvT hZ (hw _ (List.mem_of_getElem? (i := 5) rfl))) (mvT hZ (hw _ (List.mem_of_getElem? (i := 6) rfl))) (mvT hZ (hw _ (List.mem_of_getElem? (i := 7) rfl))) (mvT hZ (hw _ (List.mem_of_getElem? (i := 8) rfl))) (by decide) (backOf (W := 0) (rmE3n l Z a0 hw [] b219 k219 x0 x1 x2 h224 n0 Z224 V224 f225 ex0 ex1 ex2) hZ (hw _ (List.mem_of_getElem? (i := 8) rfl)) (hw _ (List.mem_of_getElem? (i := 7) rfl)) (by decide) (by decide)) (g := (mkF m 66 #[.val (.int p1), .val (.int p2), .val (.int p3), .val (.int p4), .val (.int (3 : Int32)), .val (.int x0), .val (.int x1), .val (.int x2), .val (.ref b219), .unset, .unset, .unset, .unset, .unset, .unset] [(.ref b219)])) rfl (by rw [hml]; rfl) (argsL := [(.ref b219)]) (rest := []) (lenOf pd_3 rfl) rfl (by show 2 * 0 + _ ≤ _; exact Nat.le_of_eq rfl) (hb hby at_66) (fun _ _ => ⟨rfl, e224, (by decide : 1 + 0 ≤ _), (by decide : 3 + 0 ≤ _)⟩)
          dsimp only [Pt.U, Pt.locs, Pt.cells, Pt.slots] at X227 l227 y227 z227 st227 hQ227
          subst l227 y227 z227
          obtain ⟨rfl, Nq227, eq227⟩ := hQ227
          have Nf227 := Fr.app Nf224 Nq227
          have pre228 : ∀ t, Steps p.tables e below (T227.setTop (mkF m 197 #[.val (.int p1), .val (.int p2), .val (.int p3), .val (.int p4), .val (.int (3 : Int32)), .val (.int x0), .val (.int x1), .val (.int x2), .val (.ref b219), .val .null, .val (.int (1 : Int32)), .val (.int (-1 : Int32)), .unset, .unset, .unset] [(.int (1 : Int32))])) t → Steps p.tables e below (s₁.setTop (entryFrame m #[(.int p1), (.int p2), (.int p3), (.int p4)] maxLocals)) t := by
            intro t kt
            refine pre226 t ?_
            show Steps p.tables e below (T224.setTop (mkF m 66 #[.val (.int p1), .val (.int p2), .val (.int p3), .val (.int p4), .val (.int (3 : Int32)), .val (.int x0), .val (.int x1), .val (.int x2), .val (.ref b219), .unset, .unset, .unset, .unset, .unset, .unset] [(.ref b219)])) _
            refine st227 _ ?_
            show Steps p.tables e below (T227.setTop (mkF m 69 #[.val (.int p1), .val (.int p2), .val (.int p3), .val (.int p4), .val (.int (3 : Int32)), .val (.int x0), .val (.int x1), .val (.int x2), .val (.ref b219), .unset, .unset, .unset, .unset, .unset, .unset] [.null])) _
            refine XS.astore X227.here hx rfl (hb hby at_69) rfl rfl (l' := #[.val (.int p1), .val (.int p2), .val (.int p3), .val (.int p4), .val (.int (3 : Int32)), .val (.int x0), .val (.int x1), .val (.int x2), .val (.ref b219), .val .null, .unset, .unset, .unset, .unset, .unset]) rfl ?_
            show Steps p.tables e below (T227.setTop (mkF m 71 #[.val (.int p1), .val (.int p2), .val (.int p3), .val (.int p4), .val (.int (3 : Int32)), .val (.int x0), .val (.int x1), .val (.int x2), .val (.ref b219), .val .null, .unset, .unset, .unset, .unset, .unset] [])) _
            refine XS.iload X227.here hx rfl (hb hby at_71) rfl ?_
            show Steps p.tables e below (T227.setTop (mkF m 73 #[.val (.int p1), .val (.int p2), .val (.int p3), .val (.int p4), .val (.int (3 : Int32)), .val (.int x0), .val (.int x1), .val (.int x2), .val (.ref b219), .val .null, .unset, .unset, .unset, .unset, .unset] [(.int (3 : Int32))])) _
            refine XS.ifNo X227.here hx rfl (hb hby at_73) rfl ((if0 _ _).trans (tlt (by decide)).2.2.2) ?_
            show Steps p.tables e below (T227.setTop (mkF m 76 #[.val (.int p1), .val (.int p2), .val (.int p3), .val (.int p4), .val (.int (3 : Int32)), .val (.int x0), .val (.int x1), .val (.int x2), .val (.ref b219), .val .null, .unset, .unset, .unset, .unset, .unset] [])) _
            refine XS.aload X227.here hx rfl (hb hby at_76) rfl rfl ?_
            show Steps p.tables e below (T227.setTop (mkF m 78 #[.val (.int p1), .val (.int p2), .val (.int p3), .val (.int p4), .val (.int (3 : Int32)), .val (.int x0), .val (.int x1), .val (.int x2), .val (.ref b219), .val .null, .unset, .unset, .unset, .unset, .unset] [(.ref b219)])) _
            refine XS.iconst X227.here hx rfl (hb hby at_78) ?_
            show Steps p.tables e below (T227.setTop (mkF m 79 #[.val (.int p1), .val (.int p2), .val (.int p3), .val (.int p4), .val (.int (3 : Int32)), .val (.int x0), .val (.int x1), .val (.int x2), .val (.ref b219), .val .null, .unset, .unset, .unset, .unset, .unset] [(.int (0 : Int32)), (.ref b219)])) _
            refine own_bal X227 hx hZ eq227 V224 (j := (0 : Int32)) ⟨by decide, by decide⟩ (v := (.int x0)) rfl (g := (mkF m 79 #[.val (.int p1), .val (.int p2), .val (.int p3), .val (.int p4), .val (.int (3 : Int32)), .val (.int x0), .val (.int x1), .val (.int x2), .val (.ref b219), .val .null, .unset, .unset, .unset, .unset, .unset] [(.int (0 : Int32)), (.ref b219)])) rfl rfl (hb hby at_79) _ ?_
            show Steps p.tables e below (T227.setTop (mkF m 80 #[.val (.int p1), .val (.int p2), .val (.int p3), .val (.int p4), .val (.int (3 : Int32)), .val (.int x0), .val (.int x1), .val (.int x2), .val (.ref b219), .val .null, .unset, .unset, .unset, .unset, .unset] [(.int x0)])) _
            refine XS.iload X227.here hx rfl (hb hby at_80) rfl ?_
            show Steps p.tables e below (T227.setTop (mkF m 82 #[.val (.int p1), .val (.int p2), .val (.int p3), .val (.int p4), .val (.int (3 : Int32)), .val (.int x0), .val (.int x1), .val (.int x2), .val (.ref b219), .val .null, .unset, .unset, .unset, .unset, .unset] [(.int x0), (.int x0)])) _
            refine XS.icmpNo X227.here hx rfl (hb hby at_82) rfl (teq rfl).2 ?_
            show Steps p.tables e below (T227.setTop (mkF m 85 #[.val (.int p1), .val (.int p2), .val (.int p3), .val (.int p4), .val (.int (3 : Int32)), .val (.int x0), .val (.int x1), .val (.int x2), .val (.ref b219), .val .null, .unset, .unset, .unset, .unset, .unset] [])) _
            refine XS.iload X227.here hx rfl (hb hby at_85) rfl ?_
            show Steps p.tables e below (T227.setTop (mkF m 87 #[.val (.int p1), .val (.int p2), .val (.int p3), .val (.int p4), .val (.int (3 : Int32)), .val (.int x0), .val (.int x1), .val (.int x2), .val (.ref b219), .val .null, .unset, .unset, .unset, .unset, .unset] [(.int (3 : Int32))])) _
            refine XS.iconst X227.here hx rfl (hb hby at_87) ?_
            show Steps p.tables e below (T227.setTop (mkF m 88 #[.val (.int p1), .val (.int p2), .val (.int p3), .val (.int p4), .val (.int (3 : Int32)), .val (.int x0), .val (.int x1), .val (.int x2), .val (.ref b219), .val .null, .unset, .unset, .unset, .unset, .unset] [(.int (1 : Int32)), (.int (3 : Int32))])) _
            refine XS.icmpNo X227.here hx rfl (hb hby at_88) rfl (tlt (by decide)).2.2.2 ?_
            show Steps p.tables e below (T227.setTop (mkF m 91 #[.val (.int p1), .val (.int p2), .val (.int p3), .val (.int p4), .val (.int (3 : Int32)), .val (.int x0), .val (.int x1), .val (.int x2), .val (.ref b219), .val .null, .unset, .unset, .unset, .unset, .unset] [])) _
            refine XS.aload X227.here hx rfl (hb hby at_91) rfl rfl ?_
            show Steps p.tables e below (T227.setTop (mkF m 93 #[.val (.int p1), .val (.int p2), .val (.int p3), .val (.int p4), .val (.int (3 : Int32)), .val (.int x0), .val (.int x1), .val (.int x2), .val (.ref b219), .val .null, .unset, .unset, .unset, .unset, .unset] [(.ref b219)])) _
            refine XS.iconst X227.here hx rfl (hb hby at_93) ?_
            show Steps p.tables e below (T227.setTop (mkF m 94 #[.val (.int p1), .val (.int p2), .val (.int p3), .val (.int p4), .val (.int (3 : Int32)), .val (.int x0), .val (.int x1), .val (.int x2), .val (.ref b219), .val .null, .unset, .unset, .unset, .unset, .unset] [(.int (1 : Int32)), (.ref b219)])) _
            refine own_bal X227 hx hZ eq227 V224 (j := (1 : Int32)) ⟨by decide, by decide⟩ (v := (.int x1)) rfl (g := (mkF m 94 #[.val (.int p1), .val (.int p2), .val (.int p3), .val (.int p4), .val (.int (3 : Int32)), .val (.int x0), .val (.int x1), .val (.int x2), .val (.ref b219), .val .null, .unset, .unset, .unset, .unset, .unset] [(.int (1 : Int32)), (.ref b219)])) rfl rfl (hb hby at_94) _ ?_
            show Steps p.tables e below (T227.setTop (mkF m 95 #[.val (.int p1), .val (.int p2), .val (.int p3), .val (.int p4), .val (.int (3 : Int32)), .val (.int x0), .val (.int x1), .val (.int x2), .val (.ref b219), .val .null, .unset, .unset, .unset, .unset, .unset] [(.int x1)])) _
            refine XS.iload X227.here hx rfl (hb hby at_95) rfl ?_
            show Steps p.tables e below (T227.setTop (mkF m 97 #[.val (.int p1), .val (.int p2), .val (.int p3), .val (.int p4), .val (.int (3 : Int32)), .val (.int x0), .val (.int x1), .val (.int x2), .val (.ref b219), .val .null, .unset, .unset, .unset, .unset, .unset] [(.int x1), (.int x1)])) _
            refine XS.icmpNo X227.here hx rfl (hb hby at_97) rfl (teq rfl).2 ?_
            show Steps p.tables e below (T227.setTop (mkF m 100 #[.val (.int p1), .val (.int p2), .val (.int p3), .val (.int p4), .val (.int (3 : Int32)), .val (.int x0), .val (.int x1), .val (.int x2), .val (.ref b219), .val .null, .unset, .unset, .unset, .unset, .unset] [])) _
            refine XS.iload X227.here hx rfl (hb hby at_100) rfl ?_
            show Steps p.tables e below (T227.setTop (mkF m 102 #[.val (.int p1), .val (.int p2), .val (.int p3), .val (.int p4), .val (.int (3 : Int32)), .val (.int x0), .val (.int x1), .val (.int x2), .val (.ref b219), .val .null, .unset, .unset, .unset, .unset, .unset] [(.int (3 : Int32))])) _
            refine XS.iconst X227.here hx rfl (hb hby at_102) ?_
            show Steps p.tables e below (T227.setTop (mkF m 103 #[.val (.int p1), .val (.int p2), .val (.int p3), .val (.int p4), .val (.int (3 : Int32)), .val (.int x0), .val (.int x1), .val (.int x2), .val (.ref b219), .val .null, .unset, .unset, .unset, .unset, .unset] [(.int (2 : Int32)), (.int (3 : Int32))])) _
            refine XS.icmpNo X227.here hx rfl (hb hby at_103) rfl (tlt (by decide)).2.2.2 ?_
            show Steps p.tables e below (T227.setTop (mkF m 106 #[.val (.int p1), .val (.int p2), .val (.int p3), .val (.int p4), .val (.int (3 : Int32)), .val (.int x0), .val (.int x1), .val (.int x2), .val (.ref b219), .val .null, .unset, .unset, .unset, .unset, .unset] [])) _
            refine XS.aload X227.here hx rfl (hb hby at_106) rfl rfl ?_
            show Steps p.tables e below (T227.setTop (mkF m 108 #[.val (.int p1), .val (.int p2), .val (.int p3), .val (.int p4), .val (.int (3 : Int32)), .val (.int x0), .val (.int x1), .val (.int x2), .val (.ref b219), .val .null, .unset, .unset, .unset, .unset, .unset] [(.ref b219)])) _
            refine XS.iconst X227.here hx rfl (hb hby at_108) ?_
            show Steps p.tables e below (T227.setTop (mkF m 109 #[.val (.int p1), .val (.int p2), .val (.int p3), .val (.int p4), .val (.int (3 : Int32)), .val (.int x0), .val (.int x1), .val (.int x2), .val (.ref b219), .val .null, .unset, .unset, .unset, .unset, .unset] [(.int (2 : Int32)), (.ref b219)])) _
            refine own_bal X227 hx hZ eq227 V224 (j := (2 : Int32)) ⟨by decide, by decide⟩ (v := (.int x2)) rfl (g := (mkF m 109 #[.val (.int p1), .val (.int p2), .val (.int p3), .val (.int p4), .val (.int (3 : Int32)), .val (.int x0), .val (.int x1), .val (.int x2), .val (.ref b219), .val .null, .unset, .unset, .unset, .unset, .unset] [(.int (2 : Int32)), (.ref b219)])) rfl rfl (hb hby at_109) _ ?_
            show Steps p.tables e below (T227.setTop (mkF m 110 #[.val (.int p1), .val (.int p2), .val (.int p3), .val (.int p4), .val (.int (3 : Int32)), .val (.int x0), .val (.int x1), .val (.int x2), .val (.ref b219), .val .null, .unset, .unset, .unset, .unset, .unset] [(.int x2)])) _
            refine XS.iload X227.here hx rfl (hb hby at_110) rfl ?_
            show Steps p.tables e below (T227.setTop (mkF m 112 #[.val (.int p1), .val (.int p2), .val (.int p3), .val (.int p4), .val (.int (3 : Int32)), .val (.int x0), .val (.int x1), .val (.int x2), .val (.ref b219), .val .null, .unset, .unset, .unset, .unset, .unset] [(.int x2), (.int x2)])) _
            refine XS.icmpNo X227.here hx rfl (hb hby at_112) rfl (teq rfl).2 ?_
            show Steps p.tables e below (T227.setTop (mkF m 115 #[.val (.int p1), .val (.int p2), .val (.int p3), .val (.int p4), .val (.int (3 : Int32)), .val (.int x0), .val (.int x1), .val (.int x2), .val (.ref b219), .val .null, .unset, .unset, .unset, .unset, .unset] [])) _
            refine XS.iconst X227.here hx rfl (hb hby at_115) ?_
            show Steps p.tables e below (T227.setTop (mkF m 116 #[.val (.int p1), .val (.int p2), .val (.int p3), .val (.int p4), .val (.int (3 : Int32)), .val (.int x0), .val (.int x1), .val (.int x2), .val (.ref b219), .val .null, .unset, .unset, .unset, .unset, .unset] [(.int (1 : Int32))])) _
            refine XS.goto X227.here hx rfl (pc0 := 116) (pc' := 120) rfl (hb hby at_116) (by decide) (by decide) ?_
            show Steps p.tables e below (T227.setTop (mkF m 120 #[.val (.int p1), .val (.int p2), .val (.int p3), .val (.int p4), .val (.int (3 : Int32)), .val (.int x0), .val (.int x1), .val (.int x2), .val (.ref b219), .val .null, .unset, .unset, .unset, .unset, .unset] [(.int (1 : Int32))])) _
            refine XS.istore X227.here hx rfl (hb hby at_120) rfl (l' := #[.val (.int p1), .val (.int p2), .val (.int p3), .val (.int p4), .val (.int (3 : Int32)), .val (.int x0), .val (.int x1), .val (.int x2), .val (.ref b219), .val .null, .val (.int (1 : Int32)), .unset, .unset, .unset, .unset]) rfl ?_
            show Steps p.tables e below (T227.setTop (mkF m 122 #[.val (.int p1), .val (.int p2), .val (.int p3), .val (.int p4), .val (.int (3 : Int32)), .val (.int x0), .val (.int x1), .val (.int x2), .val (.ref b219), .val .null, .val (.int (1 : Int32)), .unset, .unset, .unset, .unset] [])) _
            refine XS.iload X227.here hx rfl (hb hby at_122) rfl ?_
            show Steps p.tables e below (T227.setTop (mkF m 124 #[.val (.int p1), .val (.int p2), .val (.int p3), .val (.int p4), .val (.int (3 : Int32)), .val (.int x0), .val (.int x1), .val (.int x2), .val (.ref b219), .val .null, .val (.int (1 : Int32)), .unset, .unset, .unset, .unset] [(.int (1 : Int32))])) _
            refine XS.ifYes X227.here hx rfl (pc0 := 124) (pc' := 129) rfl (hb hby at_124) rfl ((if0 _ _).trans (feq (by decide)).2) (by decide) (by decide) ?_
            show Steps p.tables e below (T227.setTop (mkF m 129 #[.val (.int p1), .val (.int p2), .val (.int p3), .val (.int p4), .val (.int (3 : Int32)), .val (.int x0), .val (.int x1), .val (.int x2), .val (.ref b219), .val .null, .val (.int (1 : Int32)), .unset, .unset, .unset, .unset] [])) _
            refine XS.iconst X227.here hx rfl (hb hby at_129) ?_
            show Steps p.tables e below (T227.setTop (mkF m 130 #[.val (.int p1), .val (.int p2), .val (.int p3), .val (.int p4), .val (.int (3 : Int32)), .val (.int x0), .val (.int x1), .val (.int x2), .val (.ref b219), .val .null, .val (.int (1 : Int32)), .unset, .unset, .unset, .unset] [(.int (-1 : Int32))])) _
            refine XS.istore X227.here hx rfl (hb hby at_130) rfl (l' := #[.val (.int p1), .val (.int p2), .val (.int p3), .val (.int p4), .val (.int (3 : Int32)), .val (.int x0), .val (.int x1), .val (.int x2), .val (.ref b219), .val .null, .val (.int (1 : Int32)), .val (.int (-1 : Int32)), .unset, .unset, .unset]) rfl ?_
            show Steps p.tables e below (T227.setTop (mkF m 132 #[.val (.int p1), .val (.int p2), .val (.int p3), .val (.int p4), .val (.int (3 : Int32)), .val (.int x0), .val (.int x1), .val (.int x2), .val (.ref b219), .val .null, .val (.int (1 : Int32)), .val (.int (-1 : Int32)), .unset, .unset, .unset] [])) _
            refine XS.iload X227.here hx rfl (hb hby at_132) rfl ?_
            show Steps p.tables e below (T227.setTop (mkF m 134 #[.val (.int p1), .val (.int p2), .val (.int p3), .val (.int p4), .val (.int (3 : Int32)), .val (.int x0), .val (.int x1), .val (.int x2), .val (.ref b219), .val .null, .val (.int (1 : Int32)), .val (.int (-1 : Int32)), .unset, .unset, .unset] [(.int (3 : Int32))])) _
            refine XS.iconst X227.here hx rfl (hb hby at_134) ?_
            show Steps p.tables e below (T227.setTop (mkF m 135 #[.val (.int p1), .val (.int p2), .val (.int p3), .val (.int p4), .val (.int (3 : Int32)), .val (.int x0), .val (.int x1), .val (.int x2), .val (.ref b219), .val .null, .val (.int (1 : Int32)), .val (.int (-1 : Int32)), .unset, .unset, .unset] [(.int (2 : Int32)), (.int (3 : Int32))])) _
            refine XS.icmpNo X227.here hx rfl (hb hby at_135) rfl (tlt (by decide)).2.2.2 ?_
            show Steps p.tables e below (T227.setTop (mkF m 138 #[.val (.int p1), .val (.int p2), .val (.int p3), .val (.int p4), .val (.int (3 : Int32)), .val (.int x0), .val (.int x1), .val (.int x2), .val (.ref b219), .val .null, .val (.int (1 : Int32)), .val (.int (-1 : Int32)), .unset, .unset, .unset] [])) _
            refine XS.iload X227.here hx rfl (hb hby at_138) rfl ?_
            show Steps p.tables e below (T227.setTop (mkF m 140 #[.val (.int p1), .val (.int p2), .val (.int p3), .val (.int p4), .val (.int (3 : Int32)), .val (.int x0), .val (.int x1), .val (.int x2), .val (.ref b219), .val .null, .val (.int (1 : Int32)), .val (.int (-1 : Int32)), .unset, .unset, .unset] [(.int x2)])) _
            refine XS.iconst X227.here hx rfl (hb hby at_140) ?_
            show Steps p.tables e below (T227.setTop (mkF m 141 #[.val (.int p1), .val (.int p2), .val (.int p3), .val (.int p4), .val (.int (3 : Int32)), .val (.int x0), .val (.int x1), .val (.int x2), .val (.ref b219), .val .null, .val (.int (1 : Int32)), .val (.int (-1 : Int32)), .unset, .unset, .unset] [(.int (-1 : Int32)), (.int x2)])) _
            refine XS.icmpYes X227.here hx rfl (pc0 := 141) (pc' := 150) rfl (hb hby at_141) rfl (teq ex2).1 (by decide) (by decide) ?_
            show Steps p.tables e below (T227.setTop (mkF m 150 #[.val (.int p1), .val (.int p2), .val (.int p3), .val (.int p4), .val (.int (3 : Int32)), .val (.int x0), .val (.int x1), .val (.int x2), .val (.ref b219), .val .null, .val (.int (1 : Int32)), .val (.int (-1 : Int32)), .unset, .unset, .unset] [])) _
            refine XS.iload X227.here hx rfl (hb hby at_150) rfl ?_
            show Steps p.tables e below (T227.setTop (mkF m 152 #[.val (.int p1), .val (.int p2), .val (.int p3), .val (.int p4), .val (.int (3 : Int32)), .val (.int x0), .val (.int x1), .val (.int x2), .val (.ref b219), .val .null, .val (.int (1 : Int32)), .val (.int (-1 : Int32)), .unset, .unset, .unset] [(.int (3 : Int32))])) _
            refine XS.iconst X227.here hx rfl (hb hby at_152) ?_
            show Steps p.tables e below (T227.setTop (mkF m 153 #[.val (.int p1), .val (.int p2), .val (.int p3), .val (.int p4), .val (.int (3 : Int32)), .val (.int x0), .val (.int x1), .val (.int x2), .val (.ref b219), .val .null, .val (.int (1 : Int32)), .val (.int (-1 : Int32)), .unset, .unset, .unset] [(.int (1 : Int32)), (.int (3 : Int32))])) _
            refine XS.icmpNo X227.here hx rfl (hb hby at_153) rfl (tlt (by decide)).2.2.2 ?_
            show Steps p.tables e below (T227.setTop (mkF m 156 #[.val (.int p1), .val (.int p2), .val (.int p3), .val (.int p4), .val (.int (3 : Int32)), .val (.int x0), .val (.int x1), .val (.int x2), .val (.ref b219), .val .null, .val (.int (1 : Int32)), .val (.int (-1 : Int32)), .unset, .unset, .unset] [])) _
            refine XS.iload X227.here hx rfl (hb hby at_156) rfl ?_
            show Steps p.tables e below (T227.setTop (mkF m 158 #[.val (.int p1), .val (.int p2), .val (.int p3), .val (.int p4), .val (.int (3 : Int32)), .val (.int x0), .val (.int x1), .val (.int x2), .val (.ref b219), .val .null, .val (.int (1 : Int32)), .val (.int (-1 : Int32)), .unset, .unset, .unset] [(.int x1)])) _
            refine XS.iconst X227.here hx rfl (hb hby at_158) ?_
            show Steps p.tables e below (T227.setTop (mkF m 159 #[.val (.int p1), .val (.int p2), .val (.int p3), .val (.int p4), .val (.int (3 : Int32)), .val (.int x0), .val (.int x1), .val (.int x2), .val (.ref b219), .val .null, .val (.int (1 : Int32)), .val (.int (-1 : Int32)), .unset, .unset, .unset] [(.int (-1 : Int32)), (.int x1)])) _
            refine XS.icmpYes X227.here hx rfl (pc0 := 159) (pc' := 168) rfl (hb hby at_159) rfl (teq ex1).1 (by decide) (by decide) ?_
            show Steps p.tables e below (T227.setTop (mkF m 168 #[.val (.int p1), .val (.int p2), .val (.int p3), .val (.int p4), .val (.int (3 : Int32)), .val (.int x0), .val (.int x1), .val (.int x2), .val (.ref b219), .val .null, .val (.int (1 : Int32)), .val (.int (-1 : Int32)), .unset, .unset, .unset] [])) _
            refine XS.iload X227.here hx rfl (hb hby at_168) rfl ?_
            show Steps p.tables e below (T227.setTop (mkF m 170 #[.val (.int p1), .val (.int p2), .val (.int p3), .val (.int p4), .val (.int (3 : Int32)), .val (.int x0), .val (.int x1), .val (.int x2), .val (.ref b219), .val .null, .val (.int (1 : Int32)), .val (.int (-1 : Int32)), .unset, .unset, .unset] [(.int (3 : Int32))])) _
            refine XS.ifNo X227.here hx rfl (hb hby at_170) rfl ((if0 _ _).trans (tlt (by decide)).2.2.2) ?_
            show Steps p.tables e below (T227.setTop (mkF m 173 #[.val (.int p1), .val (.int p2), .val (.int p3), .val (.int p4), .val (.int (3 : Int32)), .val (.int x0), .val (.int x1), .val (.int x2), .val (.ref b219), .val .null, .val (.int (1 : Int32)), .val (.int (-1 : Int32)), .unset, .unset, .unset] [])) _
            refine XS.iload X227.here hx rfl (hb hby at_173) rfl ?_
            show Steps p.tables e below (T227.setTop (mkF m 175 #[.val (.int p1), .val (.int p2), .val (.int p3), .val (.int p4), .val (.int (3 : Int32)), .val (.int x0), .val (.int x1), .val (.int x2), .val (.ref b219), .val .null, .val (.int (1 : Int32)), .val (.int (-1 : Int32)), .unset, .unset, .unset] [(.int x0)])) _
            refine XS.iconst X227.here hx rfl (hb hby at_175) ?_
            show Steps p.tables e below (T227.setTop (mkF m 176 #[.val (.int p1), .val (.int p2), .val (.int p3), .val (.int p4), .val (.int (3 : Int32)), .val (.int x0), .val (.int x1), .val (.int x2), .val (.ref b219), .val .null, .val (.int (1 : Int32)), .val (.int (-1 : Int32)), .unset, .unset, .unset] [(.int (-1 : Int32)), (.int x0)])) _
            refine XS.icmpYes X227.here hx rfl (pc0 := 176) (pc' := 182) rfl (hb hby at_176) rfl (teq ex0).1 (by decide) (by decide) ?_
            show Steps p.tables e below (T227.setTop (mkF m 182 #[.val (.int p1), .val (.int p2), .val (.int p3), .val (.int p4), .val (.int (3 : Int32)), .val (.int x0), .val (.int x1), .val (.int x2), .val (.ref b219), .val .null, .val (.int (1 : Int32)), .val (.int (-1 : Int32)), .unset, .unset, .unset] [])) _
            refine XS.iload X227.here hx rfl (hb hby at_182) rfl ?_
            show Steps p.tables e below (T227.setTop (mkF m 184 #[.val (.int p1), .val (.int p2), .val (.int p3), .val (.int p4), .val (.int (3 : Int32)), .val (.int x0), .val (.int x1), .val (.int x2), .val (.ref b219), .val .null, .val (.int (1 : Int32)), .val (.int (-1 : Int32)), .unset, .unset, .unset] [(.int (-1 : Int32))])) _
            refine XS.ifNo X227.here hx rfl (hb hby at_184) rfl ((if0 _ _).trans (tlt (by decide)).2.1) ?_
            show Steps p.tables e below (T227.setTop (mkF m 187 #[.val (.int p1), .val (.int p2), .val (.int p3), .val (.int p4), .val (.int (3 : Int32)), .val (.int x0), .val (.int x1), .val (.int x2), .val (.ref b219), .val .null, .val (.int (1 : Int32)), .val (.int (-1 : Int32)), .unset, .unset, .unset] [])) _
            refine XS.aload X227.here hx rfl (hb hby at_187) rfl rfl ?_
            show Steps p.tables e below (T227.setTop (mkF m 189 #[.val (.int p1), .val (.int p2), .val (.int p3), .val (.int p4), .val (.int (3 : Int32)), .val (.int x0), .val (.int x1), .val (.int x2), .val (.ref b219), .val .null, .val (.int (1 : Int32)), .val (.int (-1 : Int32)), .unset, .unset, .unset] [.null])) _
            refine XS.ifnonnullNo X227.here hx rfl (hb hby at_189) rfl ?_
            show Steps p.tables e below (T227.setTop (mkF m 192 #[.val (.int p1), .val (.int p2), .val (.int p3), .val (.int p4), .val (.int (3 : Int32)), .val (.int x0), .val (.int x1), .val (.int x2), .val (.ref b219), .val .null, .val (.int (1 : Int32)), .val (.int (-1 : Int32)), .unset, .unset, .unset] [])) _
            refine XS.iconst X227.here hx rfl (hb hby at_192) ?_
            show Steps p.tables e below (T227.setTop (mkF m 193 #[.val (.int p1), .val (.int p2), .val (.int p3), .val (.int p4), .val (.int (3 : Int32)), .val (.int x0), .val (.int x1), .val (.int x2), .val (.ref b219), .val .null, .val (.int (1 : Int32)), .val (.int (-1 : Int32)), .unset, .unset, .unset] [(.int (1 : Int32))])) _
            refine XS.goto X227.here hx rfl (pc0 := 193) (pc' := 197) rfl (hb hby at_193) (by decide) (by decide) ?_
            exact kt
          obtain ⟨fsx, hr, hrun, hended, hW, hsame⟩ := X227.leave (v := some (.int (nar .boolean (1 : Int32)))) (fun h => by rw [Bd.returns] at h; cases h)
          refine ⟨_, _, pre228 _ ?_, hrun, hended, _, _, rfl, ?_, ⟨_, rfl⟩, hW, hsame.mono (by decide) (by decide)⟩
          · exact retN X227 hx (t := .boolean) Bd.returns (by simp) (hb hby at_197) hr
          · show Q0 Z p1 p2 p3 p4 h0 n0 _ T227.heap _
            rw [eq227]
            exact ⟨rfl, Nf227⟩
        · obtain ⟨_, _, ⟨T229, L229, k229, n229⟩, -, X229, ⟨Lc229, hQ229, l229, y229, z229⟩, st229⟩ := Jvm.LawKit.callS X224 hx (y := (⟨"com/example/tessera/tessera/storage/Prefixes", "end", "([B)[B"⟩ : MethodName)) hown (mvT hZ (hw _ (List.mem_of_getElem? (i := 5) rfl))) (mvT hZ (hw _ (List.mem_of_getElem? (i := 6) rfl))) (mvT hZ (hw _ (List.mem_of_getElem? (i := 7) rfl))) (mvT hZ (hw _ (List.mem_of_getElem? (i := 8) rfl))) (by decide) (backOf (W := 0) (rmE30 l Z a0 hw [] b219 k219 x0 x1 x2 h224 n0 Z224 V224 f225 ex1 ex2 ex0) hZ (hw _ (List.mem_of_getElem? (i := 8) rfl)) (hw _ (List.mem_of_getElem? (i := 7) rfl)) (by decide) (by decide)) (g := (mkF m 66 #[.val (.int p1), .val (.int p2), .val (.int p3), .val (.int p4), .val (.int (3 : Int32)), .val (.int x0), .val (.int x1), .val (.int x2), .val (.ref b219), .unset, .unset, .unset, .unset, .unset, .unset] [(.ref b219)])) rfl (by rw [hml]; rfl) (argsL := [(.ref b219)]) (rest := []) (lenOf pd_3 rfl) rfl (by show 2 * 0 + _ ≤ _; exact Nat.le_of_eq rfl) (hb hby at_66) (fun _ _ => ⟨rfl, e224, (by decide : 1 + 1 ≤ _), (by decide : 3 + 3 ≤ _)⟩)
          dsimp only [Pt.U, Pt.locs, Pt.cells, Pt.slots] at X229 l229 y229 z229 st229 hQ229
          subst l229 y229 z229
          obtain ⟨r, kr, rfl, Nq229, Kq229, szr, Vr⟩ := hQ229
          have f230 := (f225.keep Kq229)
          have f231 := (V224.keep Kq229 nin0)
          have Z229 : n0 ≤ T229.heap.size := Nat.le_trans Z224 Kq229.1
          have K229 : Keep h0 T229.heap [] := K224.trans Kq229 all0
          have Nf229 := Fr.app Nf224 Nq229
          have pre232 : ∀ t, Steps p.tables e below (T229.setTop (mkF m 303 #[.val (.int p1), .val (.int p2), .val (.int p3), .val (.int p4), .val (.int (3 : Int32)), .val (.int x0), .val (.int x1), .val (.int x2), .val (.ref b219), .val (.ref r), .val (.int (1 : Int32)), .val (.int (0 : Int32)), .val (.int ((x0 + (1 : Int32)).toInt8.toInt32)), .val (.int x1), .val (.int ((x2 + (1 : Int32)).toInt8.toInt32))] [(.int (1 : Int32))])) t → Steps p.tables e below (s₁.setTop (entryFrame m #[(.int p1), (.int p2), (.int p3), (.int p4)] maxLocals)) t := by
            intro t kt
            refine pre226 t ?_
            show Steps p.tables e below (T224.setTop (mkF m 66 #[.val (.int p1), .val (.int p2), .val (.int p3), .val (.int p4), .val (.int (3 : Int32)), .val (.int x0), .val (.int x1), .val (.int x2), .val (.ref b219), .unset, .unset, .unset, .unset, .unset, .unset] [(.ref b219)])) _
            refine st229 _ ?_
            show Steps p.tables e below (T229.setTop (mkF m 69 #[.val (.int p1), .val (.int p2), .val (.int p3), .val (.int p4), .val (.int (3 : Int32)), .val (.int x0), .val (.int x1), .val (.int x2), .val (.ref b219), .unset, .unset, .unset, .unset, .unset, .unset] [(.ref r)])) _
            refine XS.astore X229.here hx rfl (hb hby at_69) rfl rfl (l' := #[.val (.int p1), .val (.int p2), .val (.int p3), .val (.int p4), .val (.int (3 : Int32)), .val (.int x0), .val (.int x1), .val (.int x2), .val (.ref b219), .val (.ref r), .unset, .unset, .unset, .unset, .unset]) rfl ?_
            show Steps p.tables e below (T229.setTop (mkF m 71 #[.val (.int p1), .val (.int p2), .val (.int p3), .val (.int p4), .val (.int (3 : Int32)), .val (.int x0), .val (.int x1), .val (.int x2), .val (.ref b219), .val (.ref r), .unset, .unset, .unset, .unset, .unset] [])) _
            refine XS.iload X229.here hx rfl (hb hby at_71) rfl ?_
            show Steps p.tables e below (T229.setTop (mkF m 73 #[.val (.int p1), .val (.int p2), .val (.int p3), .val (.int p4), .val (.int (3 : Int32)), .val (.int x0), .val (.int x1), .val (.int x2), .val (.ref b219), .val (.ref r), .unset, .unset, .unset, .unset, .unset] [(.int (3 : Int32))])) _
            refine XS.ifNo X229.here hx rfl (hb hby at_73) rfl ((if0 _ _).trans (tlt (by decide)).2.2.2) ?_
            show Steps p.tables e below (T229.setTop (mkF m 76 #[.val (.int p1), .val (.int p2), .val (.int p3), .val (.int p4), .val (.int (3 : Int32)), .val (.int x0), .val (.int x1), .val (.int x2), .val (.ref b219), .val (.ref r), .unset, .unset, .unset, .unset, .unset] [])) _
            refine XS.aload X229.here hx rfl (hb hby at_76) rfl rfl ?_
            show Steps p.tables e below (T229.setTop (mkF m 78 #[.val (.int p1), .val (.int p2), .val (.int p3), .val (.int p4), .val (.int (3 : Int32)), .val (.int x0), .val (.int x1), .val (.int x2), .val (.ref b219), .val (.ref r), .unset, .unset, .unset, .unset, .unset] [(.ref b219)])) _
            refine XS.iconst X229.here hx rfl (hb hby at_78) ?_
            show Steps p.tables e below (T229.setTop (mkF m 79 #[.val (.int p1), .val (.int p2), .val (.int p3), .val (.int p4), .val (.int (3 : Int32)), .val (.int x0), .val (.int x1), .val (.int x2), .val (.ref b219), .val (.ref r), .unset, .unset, .unset, .unset, .unset] [(.int (0 : Int32)), (.ref b219)])) _
            refine own_bal X229 hx hZ rfl f231 (j := (0 : Int32)) ⟨by decide, by decide⟩ (v := (.int x0)) rfl (g := (mkF m 79 #[.val (.int p1), .val (.int p2), .val (.int p3), .val (.int p4), .val (.int (3 : Int32)), .val (.int x0), .val (.int x1), .val (.int x2), .val (.ref b219), .val (.ref r), .unset, .unset, .unset, .unset, .unset] [(.int (0 : Int32)), (.ref b219)])) rfl rfl (hb hby at_79) _ ?_
            show Steps p.tables e below (T229.setTop (mkF m 80 #[.val (.int p1), .val (.int p2), .val (.int p3), .val (.int p4), .val (.int (3 : Int32)), .val (.int x0), .val (.int x1), .val (.int x2), .val (.ref b219), .val (.ref r), .unset, .unset, .unset, .unset, .unset] [(.int x0)])) _
            refine XS.iload X229.here hx rfl (hb hby at_80) rfl ?_
            show Steps p.tables e below (T229.setTop (mkF m 82 #[.val (.int p1), .val (.int p2), .val (.int p3), .val (.int p4), .val (.int (3 : Int32)), .val (.int x0), .val (.int x1), .val (.int x2), .val (.ref b219), .val (.ref r), .unset, .unset, .unset, .unset, .unset] [(.int x0), (.int x0)])) _
            refine XS.icmpNo X229.here hx rfl (hb hby at_82) rfl (teq rfl).2 ?_
            show Steps p.tables e below (T229.setTop (mkF m 85 #[.val (.int p1), .val (.int p2), .val (.int p3), .val (.int p4), .val (.int (3 : Int32)), .val (.int x0), .val (.int x1), .val (.int x2), .val (.ref b219), .val (.ref r), .unset, .unset, .unset, .unset, .unset] [])) _
            refine XS.iload X229.here hx rfl (hb hby at_85) rfl ?_
            show Steps p.tables e below (T229.setTop (mkF m 87 #[.val (.int p1), .val (.int p2), .val (.int p3), .val (.int p4), .val (.int (3 : Int32)), .val (.int x0), .val (.int x1), .val (.int x2), .val (.ref b219), .val (.ref r), .unset, .unset, .unset, .unset, .unset] [(.int (3 : Int32))])) _
            refine XS.iconst X229.here hx rfl (hb hby at_87) ?_
            show Steps p.tables e below (T229.setTop (mkF m 88 #[.val (.int p1), .val (.int p2), .val (.int p3), .val (.int p4), .val (.int (3 : Int32)), .val (.int x0), .val (.int x1), .val (.int x2), .val (.ref b219), .val (.ref r), .unset, .unset, .unset, .unset, .unset] [(.int (1 : Int32)), (.int (3 : Int32))])) _
            refine XS.icmpNo X229.here hx rfl (hb hby at_88) rfl (tlt (by decide)).2.2.2 ?_
            show Steps p.tables e below (T229.setTop (mkF m 91 #[.val (.int p1), .val (.int p2), .val (.int p3), .val (.int p4), .val (.int (3 : Int32)), .val (.int x0), .val (.int x1), .val (.int x2), .val (.ref b219), .val (.ref r), .unset, .unset, .unset, .unset, .unset] [])) _
            refine XS.aload X229.here hx rfl (hb hby at_91) rfl rfl ?_
            show Steps p.tables e below (T229.setTop (mkF m 93 #[.val (.int p1), .val (.int p2), .val (.int p3), .val (.int p4), .val (.int (3 : Int32)), .val (.int x0), .val (.int x1), .val (.int x2), .val (.ref b219), .val (.ref r), .unset, .unset, .unset, .unset, .unset] [(.ref b219)])) _
            refine XS.iconst X229.here hx rfl (hb hby at_93) ?_
            show Steps p.tables e below (T229.setTop (mkF m 94 #[.val (.int p1), .val (.int p2), .val (.int p3), .val (.int p4), .val (.int (3 : Int32)), .val (.int x0), .val (.int x1), .val (.int x2), .val (.ref b219), .val (.ref r), .unset, .unset, .unset, .unset, .unset] [(.int (1 : Int32)), (.ref b219)])) _
            refine own_bal X229 hx hZ rfl f231 (j := (1 : Int32)) ⟨by decide, by decide⟩ (v := (.int x1)) rfl (g := (mkF m 94 #[.val (.int p1), .val (.int p2), .val (.int p3), .val (.int p4), .val (.int (3 : Int32)), .val (.int x0), .val (.int x1), .val (.int x2), .val (.ref b219), .val (.ref r), .unset, .unset, .unset, .unset, .unset] [(.int (1 : Int32)), (.ref b219)])) rfl rfl (hb hby at_94) _ ?_
            show Steps p.tables e below (T229.setTop (mkF m 95 #[.val (.int p1), .val (.int p2), .val (.int p3), .val (.int p4), .val (.int (3 : Int32)), .val (.int x0), .val (.int x1), .val (.int x2), .val (.ref b219), .val (.ref r), .unset, .unset, .unset, .unset, .unset] [(.int x1)])) _
            refine XS.iload X229.here hx rfl (hb hby at_95) rfl ?_
            show Steps p.tables e below (T229.setTop (mkF m 97 #[.val (.int p1), .val (.int p2), .val (.int p3), .val (.int p4), .val (.int (3 : Int32)), .val (.int x0), .val (.int x1), .val (.int x2), .val (.ref b219), .val (.ref r), .unset, .unset, .unset, .unset, .unset] [(.int x1), (.int x1)])) _
            refine XS.icmpNo X229.here hx rfl (hb hby at_97) rfl (teq rfl).2 ?_
            show Steps p.tables e below (T229.setTop (mkF m 100 #[.val (.int p1), .val (.int p2), .val (.int p3), .val (.int p4), .val (.int (3 : Int32)), .val (.int x0), .val (.int x1), .val (.int x2), .val (.ref b219), .val (.ref r), .unset, .unset, .unset, .unset, .unset] [])) _
            refine XS.iload X229.here hx rfl (hb hby at_100) rfl ?_
            show Steps p.tables e below (T229.setTop (mkF m 102 #[.val (.int p1), .val (.int p2), .val (.int p3), .val (.int p4), .val (.int (3 : Int32)), .val (.int x0), .val (.int x1), .val (.int x2), .val (.ref b219), .val (.ref r), .unset, .unset, .unset, .unset, .unset] [(.int (3 : Int32))])) _
            refine XS.iconst X229.here hx rfl (hb hby at_102) ?_
            show Steps p.tables e below (T229.setTop (mkF m 103 #[.val (.int p1), .val (.int p2), .val (.int p3), .val (.int p4), .val (.int (3 : Int32)), .val (.int x0), .val (.int x1), .val (.int x2), .val (.ref b219), .val (.ref r), .unset, .unset, .unset, .unset, .unset] [(.int (2 : Int32)), (.int (3 : Int32))])) _
            refine XS.icmpNo X229.here hx rfl (hb hby at_103) rfl (tlt (by decide)).2.2.2 ?_
            show Steps p.tables e below (T229.setTop (mkF m 106 #[.val (.int p1), .val (.int p2), .val (.int p3), .val (.int p4), .val (.int (3 : Int32)), .val (.int x0), .val (.int x1), .val (.int x2), .val (.ref b219), .val (.ref r), .unset, .unset, .unset, .unset, .unset] [])) _
            refine XS.aload X229.here hx rfl (hb hby at_106) rfl rfl ?_
            show Steps p.tables e below (T229.setTop (mkF m 108 #[.val (.int p1), .val (.int p2), .val (.int p3), .val (.int p4), .val (.int (3 : Int32)), .val (.int x0), .val (.int x1), .val (.int x2), .val (.ref b219), .val (.ref r), .unset, .unset, .unset, .unset, .unset] [(.ref b219)])) _
            refine XS.iconst X229.here hx rfl (hb hby at_108) ?_
            show Steps p.tables e below (T229.setTop (mkF m 109 #[.val (.int p1), .val (.int p2), .val (.int p3), .val (.int p4), .val (.int (3 : Int32)), .val (.int x0), .val (.int x1), .val (.int x2), .val (.ref b219), .val (.ref r), .unset, .unset, .unset, .unset, .unset] [(.int (2 : Int32)), (.ref b219)])) _
            refine own_bal X229 hx hZ rfl f231 (j := (2 : Int32)) ⟨by decide, by decide⟩ (v := (.int x2)) rfl (g := (mkF m 109 #[.val (.int p1), .val (.int p2), .val (.int p3), .val (.int p4), .val (.int (3 : Int32)), .val (.int x0), .val (.int x1), .val (.int x2), .val (.ref b219), .val (.ref r), .unset, .unset, .unset, .unset, .unset] [(.int (2 : Int32)), (.ref b219)])) rfl rfl (hb hby at_109) _ ?_
            show Steps p.tables e below (T229.setTop (mkF m 110 #[.val (.int p1), .val (.int p2), .val (.int p3), .val (.int p4), .val (.int (3 : Int32)), .val (.int x0), .val (.int x1), .val (.int x2), .val (.ref b219), .val (.ref r), .unset, .unset, .unset, .unset, .unset] [(.int x2)])) _
            refine XS.iload X229.here hx rfl (hb hby at_110) rfl ?_
            show Steps p.tables e below (T229.setTop (mkF m 112 #[.val (.int p1), .val (.int p2), .val (.int p3), .val (.int p4), .val (.int (3 : Int32)), .val (.int x0), .val (.int x1), .val (.int x2), .val (.ref b219), .val (.ref r), .unset, .unset, .unset, .unset, .unset] [(.int x2), (.int x2)])) _
            refine XS.icmpNo X229.here hx rfl (hb hby at_112) rfl (teq rfl).2 ?_
            show Steps p.tables e below (T229.setTop (mkF m 115 #[.val (.int p1), .val (.int p2), .val (.int p3), .val (.int p4), .val (.int (3 : Int32)), .val (.int x0), .val (.int x1), .val (.int x2), .val (.ref b219), .val (.ref r), .unset, .unset, .unset, .unset, .unset] [])) _
            refine XS.iconst X229.here hx rfl (hb hby at_115) ?_
            show Steps p.tables e below (T229.setTop (mkF m 116 #[.val (.int p1), .val (.int p2), .val (.int p3), .val (.int p4), .val (.int (3 : Int32)), .val (.int x0), .val (.int x1), .val (.int x2), .val (.ref b219), .val (.ref r), .unset, .unset, .unset, .unset, .unset] [(.int (1 : Int32))])) _
            refine XS.goto X229.here hx rfl (pc0 := 116) (pc' := 120) rfl (hb hby at_116) (by decide) (by decide) ?_
            show Steps p.tables e below (T229.setTop (mkF m 120 #[.val (.int p1), .val (.int p2), .val (.int p3), .val (.int p4), .val (.int (3 : Int32)), .val (.int x0), .val (.int x1), .val (.int x2), .val (.ref b219), .val (.ref r), .unset, .unset, .unset, .unset, .unset] [(.int (1 : Int32))])) _
            refine XS.istore X229.here hx rfl (hb hby at_120) rfl (l' := #[.val (.int p1), .val (.int p2), .val (.int p3), .val (.int p4), .val (.int (3 : Int32)), .val (.int x0), .val (.int x1), .val (.int x2), .val (.ref b219), .val (.ref r), .val (.int (1 : Int32)), .unset, .unset, .unset, .unset]) rfl ?_
            show Steps p.tables e below (T229.setTop (mkF m 122 #[.val (.int p1), .val (.int p2), .val (.int p3), .val (.int p4), .val (.int (3 : Int32)), .val (.int x0), .val (.int x1), .val (.int x2), .val (.ref b219), .val (.ref r), .val (.int (1 : Int32)), .unset, .unset, .unset, .unset] [])) _
            refine XS.iload X229.here hx rfl (hb hby at_122) rfl ?_
            show Steps p.tables e below (T229.setTop (mkF m 124 #[.val (.int p1), .val (.int p2), .val (.int p3), .val (.int p4), .val (.int (3 : Int32)), .val (.int x0), .val (.int x1), .val (.int x2), .val (.ref b219), .val (.ref r), .val (.int (1 : Int32)), .unset, .unset, .unset, .unset] [(.int (1 : Int32))])) _
            refine XS.ifYes X229.here hx rfl (pc0 := 124) (pc' := 129) rfl (hb hby at_124) rfl ((if0 _ _).trans (feq (by decide)).2) (by decide) (by decide) ?_
            show Steps p.tables e below (T229.setTop (mkF m 129 #[.val (.int p1), .val (.int p2), .val (.int p3), .val (.int p4), .val (.int (3 : Int32)), .val (.int x0), .val (.int x1), .val (.int x2), .val (.ref b219), .val (.ref r), .val (.int (1 : Int32)), .unset, .unset, .unset, .unset] [])) _
            refine XS.iconst X229.here hx rfl (hb hby at_129) ?_
            show Steps p.tables e below (T229.setTop (mkF m 130 #[.val (.int p1), .val (.int p2), .val (.int p3), .val (.int p4), .val (.int (3 : Int32)), .val (.int x0), .val (.int x1), .val (.int x2), .val (.ref b219), .val (.ref r), .val (.int (1 : Int32)), .unset, .unset, .unset, .unset] [(.int (-1 : Int32))])) _
            refine XS.istore X229.here hx rfl (hb hby at_130) rfl (l' := #[.val (.int p1), .val (.int p2), .val (.int p3), .val (.int p4), .val (.int (3 : Int32)), .val (.int x0), .val (.int x1), .val (.int x2), .val (.ref b219), .val (.ref r), .val (.int (1 : Int32)), .val (.int (-1 : Int32)), .unset, .unset, .unset]) rfl ?_
            show Steps p.tables e below (T229.setTop (mkF m 132 #[.val (.int p1), .val (.int p2), .val (.int p3), .val (.int p4), .val (.int (3 : Int32)), .val (.int x0), .val (.int x1), .val (.int x2), .val (.ref b219), .val (.ref r), .val (.int (1 : Int32)), .val (.int (-1 : Int32)), .unset, .unset, .unset] [])) _
            refine XS.iload X229.here hx rfl (hb hby at_132) rfl ?_
            show Steps p.tables e below (T229.setTop (mkF m 134 #[.val (.int p1), .val (.int p2), .val (.int p3), .val (.int p4), .val (.int (3 : Int32)), .val (.int x0), .val (.int x1), .val (.int x2), .val (.ref b219), .val (.ref r), .val (.int (1 : Int32)), .val (.int (-1 : Int32)), .unset, .unset, .unset] [(.int (3 : Int32))])) _
            refine XS.iconst X229.here hx rfl (hb hby at_134) ?_
            show Steps p.tables e below (T229.setTop (mkF m 135 #[.val (.int p1), .val (.int p2), .val (.int p3), .val (.int p4), .val (.int (3 : Int32)), .val (.int x0), .val (.int x1), .val (.int x2), .val (.ref b219), .val (.ref r), .val (.int (1 : Int32)), .val (.int (-1 : Int32)), .unset, .unset, .unset] [(.int (2 : Int32)), (.int (3 : Int32))])) _
            refine XS.icmpNo X229.here hx rfl (hb hby at_135) rfl (tlt (by decide)).2.2.2 ?_
            show Steps p.tables e below (T229.setTop (mkF m 138 #[.val (.int p1), .val (.int p2), .val (.int p3), .val (.int p4), .val (.int (3 : Int32)), .val (.int x0), .val (.int x1), .val (.int x2), .val (.ref b219), .val (.ref r), .val (.int (1 : Int32)), .val (.int (-1 : Int32)), .unset, .unset, .unset] [])) _
            refine XS.iload X229.here hx rfl (hb hby at_138) rfl ?_
            show Steps p.tables e below (T229.setTop (mkF m 140 #[.val (.int p1), .val (.int p2), .val (.int p3), .val (.int p4), .val (.int (3 : Int32)), .val (.int x0), .val (.int x1), .val (.int x2), .val (.ref b219), .val (.ref r), .val (.int (1 : Int32)), .val (.int (-1 : Int32)), .unset, .unset, .unset] [(.int x2)])) _
            refine XS.iconst X229.here hx rfl (hb hby at_140) ?_
            show Steps p.tables e below (T229.setTop (mkF m 141 #[.val (.int p1), .val (.int p2), .val (.int p3), .val (.int p4), .val (.int (3 : Int32)), .val (.int x0), .val (.int x1), .val (.int x2), .val (.ref b219), .val (.ref r), .val (.int (1 : Int32)), .val (.int (-1 : Int32)), .unset, .unset, .unset] [(.int (-1 : Int32)), (.int x2)])) _
            refine XS.icmpYes X229.here hx rfl (pc0 := 141) (pc' := 150) rfl (hb hby at_141) rfl (teq ex2).1 (by decide) (by decide) ?_
            show Steps p.tables e below (T229.setTop (mkF m 150 #[.val (.int p1), .val (.int p2), .val (.int p3), .val (.int p4), .val (.int (3 : Int32)), .val (.int x0), .val (.int x1), .val (.int x2), .val (.ref b219), .val (.ref r), .val (.int (1 : Int32)), .val (.int (-1 : Int32)), .unset, .unset, .unset] [])) _
            refine XS.iload X229.here hx rfl (hb hby at_150) rfl ?_
            show Steps p.tables e below (T229.setTop (mkF m 152 #[.val (.int p1), .val (.int p2), .val (.int p3), .val (.int p4), .val (.int (3 : Int32)), .val (.int x0), .val (.int x1), .val (.int x2), .val (.ref b219), .val (.ref r), .val (.int (1 : Int32)), .val (.int (-1 : Int32)), .unset, .unset, .unset] [(.int (3 : Int32))])) _
            refine XS.iconst X229.here hx rfl (hb hby at_152) ?_
            show Steps p.tables e below (T229.setTop (mkF m 153 #[.val (.int p1), .val (.int p2), .val (.int p3), .val (.int p4), .val (.int (3 : Int32)), .val (.int x0), .val (.int x1), .val (.int x2), .val (.ref b219), .val (.ref r), .val (.int (1 : Int32)), .val (.int (-1 : Int32)), .unset, .unset, .unset] [(.int (1 : Int32)), (.int (3 : Int32))])) _
            refine XS.icmpNo X229.here hx rfl (hb hby at_153) rfl (tlt (by decide)).2.2.2 ?_
            show Steps p.tables e below (T229.setTop (mkF m 156 #[.val (.int p1), .val (.int p2), .val (.int p3), .val (.int p4), .val (.int (3 : Int32)), .val (.int x0), .val (.int x1), .val (.int x2), .val (.ref b219), .val (.ref r), .val (.int (1 : Int32)), .val (.int (-1 : Int32)), .unset, .unset, .unset] [])) _
            refine XS.iload X229.here hx rfl (hb hby at_156) rfl ?_
            show Steps p.tables e below (T229.setTop (mkF m 158 #[.val (.int p1), .val (.int p2), .val (.int p3), .val (.int p4), .val (.int (3 : Int32)), .val (.int x0), .val (.int x1), .val (.int x2), .val (.ref b219), .val (.ref r), .val (.int (1 : Int32)), .val (.int (-1 : Int32)), .unset, .unset, .unset] [(.int x1)])) _
            refine XS.iconst X229.here hx rfl (hb hby at_158) ?_
            show Steps p.tables e below (T229.setTop (mkF m 159 #[.val (.int p1), .val (.int p2), .val (.int p3), .val (.int p4), .val (.int (3 : Int32)), .val (.int x0), .val (.int x1), .val (.int x2), .val (.ref b219), .val (.ref r), .val (.int (1 : Int32)), .val (.int (-1 : Int32)), .unset, .unset, .unset] [(.int (-1 : Int32)), (.int x1)])) _
            refine XS.icmpYes X229.here hx rfl (pc0 := 159) (pc' := 168) rfl (hb hby at_159) rfl (teq ex1).1 (by decide) (by decide) ?_
            show Steps p.tables e below (T229.setTop (mkF m 168 #[.val (.int p1), .val (.int p2), .val (.int p3), .val (.int p4), .val (.int (3 : Int32)), .val (.int x0), .val (.int x1), .val (.int x2), .val (.ref b219), .val (.ref r), .val (.int (1 : Int32)), .val (.int (-1 : Int32)), .unset, .unset, .unset] [])) _
            refine XS.iload X229.here hx rfl (hb hby at_168) rfl ?_
            show Steps p.tables e below (T229.setTop (mkF m 170 #[.val (.int p1), .val (.int p2), .val (.int p3), .val (.int p4), .val (.int (3 : Int32)), .val (.int x0), .val (.int x1), .val (.int x2), .val (.ref b219), .val (.ref r), .val (.int (1 : Int32)), .val (.int (-1 : Int32)), .unset, .unset, .unset] [(.int (3 : Int32))])) _
            refine XS.ifNo X229.here hx rfl (hb hby at_170) rfl ((if0 _ _).trans (tlt (by decide)).2.2.2) ?_
            show Steps p.tables e below (T229.setTop (mkF m 173 #[.val (.int p1), .val (.int p2), .val (.int p3), .val (.int p4), .val (.int (3 : Int32)), .val (.int x0), .val (.int x1), .val (.int x2), .val (.ref b219), .val (.ref r), .val (.int (1 : Int32)), .val (.int (-1 : Int32)), .unset, .unset, .unset] [])) _
            refine XS.iload X229.here hx rfl (hb hby at_173) rfl ?_
            show Steps p.tables e below (T229.setTop (mkF m 175 #[.val (.int p1), .val (.int p2), .val (.int p3), .val (.int p4), .val (.int (3 : Int32)), .val (.int x0), .val (.int x1), .val (.int x2), .val (.ref b219), .val (.ref r), .val (.int (1 : Int32)), .val (.int (-1 : Int32)), .unset, .unset, .unset] [(.int x0)])) _
            refine XS.iconst X229.here hx rfl (hb hby at_175) ?_
            show Steps p.tables e below (T229.setTop (mkF m 176 #[.val (.int p1), .val (.int p2), .val (.int p3), .val (.int p4), .val (.int (3 : Int32)), .val (.int x0), .val (.int x1), .val (.int x2), .val (.ref b219), .val (.ref r), .val (.int (1 : Int32)), .val (.int (-1 : Int32)), .unset, .unset, .unset] [(.int (-1 : Int32)), (.int x0)])) _
            refine XS.icmpNo X229.here hx rfl (hb hby at_176) rfl (feq ex0).1 ?_
            show Steps p.tables e below (T229.setTop (mkF m 179 #[.val (.int p1), .val (.int p2), .val (.int p3), .val (.int p4), .val (.int (3 : Int32)), .val (.int x0), .val (.int x1), .val (.int x2), .val (.ref b219), .val (.ref r), .val (.int (1 : Int32)), .val (.int (-1 : Int32)), .unset, .unset, .unset] [])) _
            refine XS.iconst X229.here hx rfl (hb hby at_179) ?_
            show Steps p.tables e below (T229.setTop (mkF m 180 #[.val (.int p1), .val (.int p2), .val (.int p3), .val (.int p4), .val (.int (3 : Int32)), .val (.int x0), .val (.int x1), .val (.int x2), .val (.ref b219), .val (.ref r), .val (.int (1 : Int32)), .val (.int (-1 : Int32)), .unset, .unset, .unset] [(.int (0 : Int32))])) _
            refine XS.istore X229.here hx rfl (hb hby at_180) rfl (l' := #[.val (.int p1), .val (.int p2), .val (.int p3), .val (.int p4), .val (.int (3 : Int32)), .val (.int x0), .val (.int x1), .val (.int x2), .val (.ref b219), .val (.ref r), .val (.int (1 : Int32)), .val (.int (0 : Int32)), .unset, .unset, .unset]) rfl ?_
            show Steps p.tables e below (T229.setTop (mkF m 182 #[.val (.int p1), .val (.int p2), .val (.int p3), .val (.int p4), .val (.int (3 : Int32)), .val (.int x0), .val (.int x1), .val (.int x2), .val (.ref b219), .val (.ref r), .val (.int (1 : Int32)), .val (.int (0 : Int32)), .unset, .unset, .unset] [])) _
            refine XS.iload X229.here hx rfl (hb hby at_182) rfl ?_
            show Steps p.tables e below (T229.setTop (mkF m 184 #[.val (.int p1), .val (.int p2), .val (.int p3), .val (.int p4), .val (.int (3 : Int32)), .val (.int x0), .val (.int x1), .val (.int x2), .val (.ref b219), .val (.ref r), .val (.int (1 : Int32)), .val (.int (0 : Int32)), .unset, .unset, .unset] [(.int (0 : Int32))])) _
            refine XS.ifYes X229.here hx rfl (pc0 := 184) (pc' := 198) rfl (hb hby at_184) rfl ((if0 _ _).trans (flt (by decide)).2.1) (by decide) (by decide) ?_
            show Steps p.tables e below (T229.setTop (mkF m 198 #[.val (.int p1), .val (.int p2), .val (.int p3), .val (.int p4), .val (.int (3 : Int32)), .val (.int x0), .val (.int x1), .val (.int x2), .val (.ref b219), .val (.ref r), .val (.int (1 : Int32)), .val (.int (0 : Int32)), .unset, .unset, .unset] [])) _
            refine XS.aload X229.here hx rfl (hb hby at_198) rfl rfl ?_
            show Steps p.tables e below (T229.setTop (mkF m 200 #[.val (.int p1), .val (.int p2), .val (.int p3), .val (.int p4), .val (.int (3 : Int32)), .val (.int x0), .val (.int x1), .val (.int x2), .val (.ref b219), .val (.ref r), .val (.int (1 : Int32)), .val (.int (0 : Int32)), .unset, .unset, .unset] [(.ref r)])) _
            refine XS.ifnullNo X229.here hx rfl (hb hby at_200) rfl ?_
            show Steps p.tables e below (T229.setTop (mkF m 203 #[.val (.int p1), .val (.int p2), .val (.int p3), .val (.int p4), .val (.int (3 : Int32)), .val (.int x0), .val (.int x1), .val (.int x2), .val (.ref b219), .val (.ref r), .val (.int (1 : Int32)), .val (.int (0 : Int32)), .unset, .unset, .unset] [])) _
            refine XS.aload X229.here hx rfl (hb hby at_203) rfl rfl ?_
            show Steps p.tables e below (T229.setTop (mkF m 205 #[.val (.int p1), .val (.int p2), .val (.int p3), .val (.int p4), .val (.int (3 : Int32)), .val (.int x0), .val (.int x1), .val (.int x2), .val (.ref b219), .val (.ref r), .val (.int (1 : Int32)), .val (.int (0 : Int32)), .unset, .unset, .unset] [(.ref r)])) _
            refine own_len X229 hx hZ rfl Vr (g := (mkF m 205 #[.val (.int p1), .val (.int p2), .val (.int p3), .val (.int p4), .val (.int (3 : Int32)), .val (.int x0), .val (.int x1), .val (.int x2), .val (.ref b219), .val (.ref r), .val (.int (1 : Int32)), .val (.int (0 : Int32)), .unset, .unset, .unset] [(.ref r)])) rfl rfl (hb hby at_205) _ ?_
            show Steps p.tables e below (T229.setTop (mkF m 206 #[.val (.int p1), .val (.int p2), .val (.int p3), .val (.int p4), .val (.int (3 : Int32)), .val (.int x0), .val (.int x1), .val (.int x2), .val (.ref b219), .val (.ref r), .val (.int (1 : Int32)), .val (.int (0 : Int32)), .unset, .unset, .unset] [(.int (1 : Int32))])) _
            refine XS.iload X229.here hx rfl (hb hby at_206) rfl ?_
            show Steps p.tables e below (T229.setTop (mkF m 208 #[.val (.int p1), .val (.int p2), .val (.int p3), .val (.int p4), .val (.int (3 : Int32)), .val (.int x0), .val (.int x1), .val (.int x2), .val (.ref b219), .val (.ref r), .val (.int (1 : Int32)), .val (.int (0 : Int32)), .unset, .unset, .unset] [(.int (0 : Int32)), (.int (1 : Int32))])) _
            refine XS.iconst X229.here hx rfl (hb hby at_208) ?_
            show Steps p.tables e below (T229.setTop (mkF m 209 #[.val (.int p1), .val (.int p2), .val (.int p3), .val (.int p4), .val (.int (3 : Int32)), .val (.int x0), .val (.int x1), .val (.int x2), .val (.ref b219), .val (.ref r), .val (.int (1 : Int32)), .val (.int (0 : Int32)), .unset, .unset, .unset] [(.int (1 : Int32)), (.int (0 : Int32)), (.int (1 : Int32))])) _
            refine XS.iadd X229.here hx rfl (hb hby at_209) rfl ?_
            show Steps p.tables e below (T229.setTop (mkF m 210 #[.val (.int p1), .val (.int p2), .val (.int p3), .val (.int p4), .val (.int (3 : Int32)), .val (.int x0), .val (.int x1), .val (.int x2), .val (.ref b219), .val (.ref r), .val (.int (1 : Int32)), .val (.int (0 : Int32)), .unset, .unset, .unset] [(.int (1 : Int32)), (.int (1 : Int32))])) _
            refine XS.icmpYes X229.here hx rfl (pc0 := 210) (pc' := 215) rfl (hb hby at_210) rfl (teq (by decide)).1 (by decide) (by decide) ?_
            show Steps p.tables e below (T229.setTop (mkF m 215 #[.val (.int p1), .val (.int p2), .val (.int p3), .val (.int p4), .val (.int (3 : Int32)), .val (.int x0), .val (.int x1), .val (.int x2), .val (.ref b219), .val (.ref r), .val (.int (1 : Int32)), .val (.int (0 : Int32)), .unset, .unset, .unset] [])) _
            refine XS.iload X229.here hx rfl (hb hby at_215) rfl ?_
            show Steps p.tables e below (T229.setTop (mkF m 217 #[.val (.int p1), .val (.int p2), .val (.int p3), .val (.int p4), .val (.int (3 : Int32)), .val (.int x0), .val (.int x1), .val (.int x2), .val (.ref b219), .val (.ref r), .val (.int (1 : Int32)), .val (.int (0 : Int32)), .unset, .unset, .unset] [(.int (0 : Int32))])) _
            refine XS.ifNo X229.here hx rfl (hb hby at_217) rfl ((if0 _ _).trans (teq (by decide)).2) ?_
            show Steps p.tables e below (T229.setTop (mkF m 220 #[.val (.int p1), .val (.int p2), .val (.int p3), .val (.int p4), .val (.int (3 : Int32)), .val (.int x0), .val (.int x1), .val (.int x2), .val (.ref b219), .val (.ref r), .val (.int (1 : Int32)), .val (.int (0 : Int32)), .unset, .unset, .unset] [])) _
            refine XS.iload X229.here hx rfl (hb hby at_220) rfl ?_
            show Steps p.tables e below (T229.setTop (mkF m 222 #[.val (.int p1), .val (.int p2), .val (.int p3), .val (.int p4), .val (.int (3 : Int32)), .val (.int x0), .val (.int x1), .val (.int x2), .val (.ref b219), .val (.ref r), .val (.int (1 : Int32)), .val (.int (0 : Int32)), .unset, .unset, .unset] [(.int x0)])) _
            refine XS.iconst X229.here hx rfl (hb hby at_222) ?_
            show Steps p.tables e below (T229.setTop (mkF m 223 #[.val (.int p1), .val (.int p2), .val (.int p3), .val (.int p4), .val (.int (3 : Int32)), .val (.int x0), .val (.int x1), .val (.int x2), .val (.ref b219), .val (.ref r), .val (.int (1 : Int32)), .val (.int (0 : Int32)), .unset, .unset, .unset] [(.int (1 : Int32)), (.int x0)])) _
            refine XS.iadd X229.here hx rfl (hb hby at_223) rfl ?_
            show Steps p.tables e below (T229.setTop (mkF m 224 #[.val (.int p1), .val (.int p2), .val (.int p3), .val (.int p4), .val (.int (3 : Int32)), .val (.int x0), .val (.int x1), .val (.int x2), .val (.ref b219), .val (.ref r), .val (.int (1 : Int32)), .val (.int (0 : Int32)), .unset, .unset, .unset] [(.int (x0 + (1 : Int32)))])) _
            refine XS.i2b X229.here hx rfl (hb hby at_224) rfl ?_
            show Steps p.tables e below (T229.setTop (mkF m 225 #[.val (.int p1), .val (.int p2), .val (.int p3), .val (.int p4), .val (.int (3 : Int32)), .val (.int x0), .val (.int x1), .val (.int x2), .val (.ref b219), .val (.ref r), .val (.int (1 : Int32)), .val (.int (0 : Int32)), .unset, .unset, .unset] [(.int ((x0 + (1 : Int32)).toInt8.toInt32))])) _
            refine XS.goto X229.here hx rfl (pc0 := 225) (pc' := 230) rfl (hb hby at_225) (by decide) (by decide) ?_
            show Steps p.tables e below (T229.setTop (mkF m 230 #[.val (.int p1), .val (.int p2), .val (.int p3), .val (.int p4), .val (.int (3 : Int32)), .val (.int x0), .val (.int x1), .val (.int x2), .val (.ref b219), .val (.ref r), .val (.int (1 : Int32)), .val (.int (0 : Int32)), .unset, .unset, .unset] [(.int ((x0 + (1 : Int32)).toInt8.toInt32))])) _
            refine XS.istore X229.here hx rfl (hb hby at_230) rfl (l' := #[.val (.int p1), .val (.int p2), .val (.int p3), .val (.int p4), .val (.int (3 : Int32)), .val (.int x0), .val (.int x1), .val (.int x2), .val (.ref b219), .val (.ref r), .val (.int (1 : Int32)), .val (.int (0 : Int32)), .val (.int ((x0 + (1 : Int32)).toInt8.toInt32)), .unset, .unset]) rfl ?_
            show Steps p.tables e below (T229.setTop (mkF m 232 #[.val (.int p1), .val (.int p2), .val (.int p3), .val (.int p4), .val (.int (3 : Int32)), .val (.int x0), .val (.int x1), .val (.int x2), .val (.ref b219), .val (.ref r), .val (.int (1 : Int32)), .val (.int (0 : Int32)), .val (.int ((x0 + (1 : Int32)).toInt8.toInt32)), .unset, .unset] [])) _
            refine XS.iload X229.here hx rfl (hb hby at_232) rfl ?_
            show Steps p.tables e below (T229.setTop (mkF m 234 #[.val (.int p1), .val (.int p2), .val (.int p3), .val (.int p4), .val (.int (3 : Int32)), .val (.int x0), .val (.int x1), .val (.int x2), .val (.ref b219), .val (.ref r), .val (.int (1 : Int32)), .val (.int (0 : Int32)), .val (.int ((x0 + (1 : Int32)).toInt8.toInt32)), .unset, .unset] [(.int (0 : Int32))])) _
            refine XS.iconst X229.here hx rfl (hb hby at_234) ?_
            show Steps p.tables e below (T229.setTop (mkF m 235 #[.val (.int p1), .val (.int p2), .val (.int p3), .val (.int p4), .val (.int (3 : Int32)), .val (.int x0), .val (.int x1), .val (.int x2), .val (.ref b219), .val (.ref r), .val (.int (1 : Int32)), .val (.int (0 : Int32)), .val (.int ((x0 + (1 : Int32)).toInt8.toInt32)), .unset, .unset] [(.int (1 : Int32)), (.int (0 : Int32))])) _
            refine XS.icmpYes X229.here hx rfl (pc0 := 235) (pc' := 246) rfl (hb hby at_235) rfl (feq (by decide)).2 (by decide) (by decide) ?_
            show Steps p.tables e below (T229.setTop (mkF m 246 #[.val (.int p1), .val (.int p2), .val (.int p3), .val (.int p4), .val (.int (3 : Int32)), .val (.int x0), .val (.int x1), .val (.int x2), .val (.ref b219), .val (.ref r), .val (.int (1 : Int32)), .val (.int (0 : Int32)), .val (.int ((x0 + (1 : Int32)).toInt8.toInt32)), .unset, .unset] [])) _
            refine XS.iload X229.here hx rfl (hb hby at_246) rfl ?_
            show Steps p.tables e below (T229.setTop (mkF m 248 #[.val (.int p1), .val (.int p2), .val (.int p3), .val (.int p4), .val (.int (3 : Int32)), .val (.int x0), .val (.int x1), .val (.int x2), .val (.ref b219), .val (.ref r), .val (.int (1 : Int32)), .val (.int (0 : Int32)), .val (.int ((x0 + (1 : Int32)).toInt8.toInt32)), .unset, .unset] [(.int x1)])) _
            refine XS.istore X229.here hx rfl (hb hby at_248) rfl (l' := #[.val (.int p1), .val (.int p2), .val (.int p3), .val (.int p4), .val (.int (3 : Int32)), .val (.int x0), .val (.int x1), .val (.int x2), .val (.ref b219), .val (.ref r), .val (.int (1 : Int32)), .val (.int (0 : Int32)), .val (.int ((x0 + (1 : Int32)).toInt8.toInt32)), .val (.int x1), .unset]) rfl ?_
            show Steps p.tables e below (T229.setTop (mkF m 250 #[.val (.int p1), .val (.int p2), .val (.int p3), .val (.int p4), .val (.int (3 : Int32)), .val (.int x0), .val (.int x1), .val (.int x2), .val (.ref b219), .val (.ref r), .val (.int (1 : Int32)), .val (.int (0 : Int32)), .val (.int ((x0 + (1 : Int32)).toInt8.toInt32)), .val (.int x1), .unset] [])) _
            refine XS.iload X229.here hx rfl (hb hby at_250) rfl ?_
            show Steps p.tables e below (T229.setTop (mkF m 252 #[.val (.int p1), .val (.int p2), .val (.int p3), .val (.int p4), .val (.int (3 : Int32)), .val (.int x0), .val (.int x1), .val (.int x2), .val (.ref b219), .val (.ref r), .val (.int (1 : Int32)), .val (.int (0 : Int32)), .val (.int ((x0 + (1 : Int32)).toInt8.toInt32)), .val (.int x1), .unset] [(.int x2)])) _
            refine XS.iconst X229.here hx rfl (hb hby at_252) ?_
            show Steps p.tables e below (T229.setTop (mkF m 253 #[.val (.int p1), .val (.int p2), .val (.int p3), .val (.int p4), .val (.int (3 : Int32)), .val (.int x0), .val (.int x1), .val (.int x2), .val (.ref b219), .val (.ref r), .val (.int (1 : Int32)), .val (.int (0 : Int32)), .val (.int ((x0 + (1 : Int32)).toInt8.toInt32)), .val (.int x1), .unset] [(.int (1 : Int32)), (.int x2)])) _
            refine XS.iadd X229.here hx rfl (hb hby at_253) rfl ?_
            show Steps p.tables e below (T229.setTop (mkF m 254 #[.val (.int p1), .val (.int p2), .val (.int p3), .val (.int p4), .val (.int (3 : Int32)), .val (.int x0), .val (.int x1), .val (.int x2), .val (.ref b219), .val (.ref r), .val (.int (1 : Int32)), .val (.int (0 : Int32)), .val (.int ((x0 + (1 : Int32)).toInt8.toInt32)), .val (.int x1), .unset] [(.int (x2 + (1 : Int32)))])) _
            refine XS.i2b X229.here hx rfl (hb hby at_254) rfl ?_
            show Steps p.tables e below (T229.setTop (mkF m 255 #[.val (.int p1), .val (.int p2), .val (.int p3), .val (.int p4), .val (.int (3 : Int32)), .val (.int x0), .val (.int x1), .val (.int x2), .val (.ref b219), .val (.ref r), .val (.int (1 : Int32)), .val (.int (0 : Int32)), .val (.int ((x0 + (1 : Int32)).toInt8.toInt32)), .val (.int x1), .unset] [(.int ((x2 + (1 : Int32)).toInt8.toInt32))])) _
            refine XS.istore X229.here hx rfl (hb hby at_255) rfl (l' := #[.val (.int p1), .val (.int p2), .val (.int p3), .val (.int p4), .val (.int (3 : Int32)), .val (.int x0), .val (.int x1), .val (.int x2), .val (.ref b219), .val (.ref r), .val (.int (1 : Int32)), .val (.int (0 : Int32)), .val (.int ((x0 + (1 : Int32)).toInt8.toInt32)), .val (.int x1), .val (.int ((x2 + (1 : Int32)).toInt8.toInt32))]) rfl ?_
            show Steps p.tables e below (T229.setTop (mkF m 257 #[.val (.int p1), .val (.int p2), .val (.int p3), .val (.int p4), .val (.int (3 : Int32)), .val (.int x0), .val (.int x1), .val (.int x2), .val (.ref b219), .val (.ref r), .val (.int (1 : Int32)), .val (.int (0 : Int32)), .val (.int ((x0 + (1 : Int32)).toInt8.toInt32)), .val (.int x1), .val (.int ((x2 + (1 : Int32)).toInt8.toInt32))] [])) _
            refine XS.aload X229.here hx rfl (hb hby at_257) rfl rfl ?_
            show Steps p.tables e below (T229.setTop (mkF m 259 #[.val (.int p1), .val (.int p2), .val (.int p3), .val (.int p4), .val (.int (3 : Int32)), .val (.int x0), .val (.int x1), .val (.int x2), .val (.ref b219), .val (.ref r), .val (.int (1 : Int32)), .val (.int (0 : Int32)), .val (.int ((x0 + (1 : Int32)).toInt8.toInt32)), .val (.int x1), .val (.int ((x2 + (1 : Int32)).toInt8.toInt32))] [(.ref r)])) _
            refine XS.iconst X229.here hx rfl (hb hby at_259) ?_
            show Steps p.tables e below (T229.setTop (mkF m 260 #[.val (.int p1), .val (.int p2), .val (.int p3), .val (.int p4), .val (.int (3 : Int32)), .val (.int x0), .val (.int x1), .val (.int x2), .val (.ref b219), .val (.ref r), .val (.int (1 : Int32)), .val (.int (0 : Int32)), .val (.int ((x0 + (1 : Int32)).toInt8.toInt32)), .val (.int x1), .val (.int ((x2 + (1 : Int32)).toInt8.toInt32))] [(.int (0 : Int32)), (.ref r)])) _
            refine own_bal X229 hx hZ rfl Vr (j := (0 : Int32)) ⟨by decide, by decide⟩ (v := (.int ((x0 + (1 : Int32)).toInt8.toInt32))) rfl (g := (mkF m 260 #[.val (.int p1), .val (.int p2), .val (.int p3), .val (.int p4), .val (.int (3 : Int32)), .val (.int x0), .val (.int x1), .val (.int x2), .val (.ref b219), .val (.ref r), .val (.int (1 : Int32)), .val (.int (0 : Int32)), .val (.int ((x0 + (1 : Int32)).toInt8.toInt32)), .val (.int x1), .val (.int ((x2 + (1 : Int32)).toInt8.toInt32))] [(.int (0 : Int32)), (.ref r)])) rfl rfl (hb hby at_260) _ ?_
            show Steps p.tables e below (T229.setTop (mkF m 261 #[.val (.int p1), .val (.int p2), .val (.int p3), .val (.int p4), .val (.int (3 : Int32)), .val (.int x0), .val (.int x1), .val (.int x2), .val (.ref b219), .val (.ref r), .val (.int (1 : Int32)), .val (.int (0 : Int32)), .val (.int ((x0 + (1 : Int32)).toInt8.toInt32)), .val (.int x1), .val (.int ((x2 + (1 : Int32)).toInt8.toInt32))] [(.int ((x0 + (1 : Int32)).toInt8.toInt32))])) _
            refine XS.iload X229.here hx rfl (hb hby at_261) rfl ?_
            show Steps p.tables e below (T229.setTop (mkF m 263 #[.val (.int p1), .val (.int p2), .val (.int p3), .val (.int p4), .val (.int (3 : Int32)), .val (.int x0), .val (.int x1), .val (.int x2), .val (.ref b219), .val (.ref r), .val (.int (1 : Int32)), .val (.int (0 : Int32)), .val (.int ((x0 + (1 : Int32)).toInt8.toInt32)), .val (.int x1), .val (.int ((x2 + (1 : Int32)).toInt8.toInt32))] [(.int ((x0 + (1 : Int32)).toInt8.toInt32)), (.int ((x0 + (1 : Int32)).toInt8.toInt32))])) _
            refine XS.icmpYes X229.here hx rfl (pc0 := 263) (pc' := 268) rfl (hb hby at_263) rfl (teq rfl).1 (by decide) (by decide) ?_
            show Steps p.tables e below (T229.setTop (mkF m 268 #[.val (.int p1), .val (.int p2), .val (.int p3), .val (.int p4), .val (.int (3 : Int32)), .val (.int x0), .val (.int x1), .val (.int x2), .val (.ref b219), .val (.ref r), .val (.int (1 : Int32)), .val (.int (0 : Int32)), .val (.int ((x0 + (1 : Int32)).toInt8.toInt32)), .val (.int x1), .val (.int ((x2 + (1 : Int32)).toInt8.toInt32))] [])) _
            refine XS.iload X229.here hx rfl (hb hby at_268) rfl ?_
            show Steps p.tables e below (T229.setTop (mkF m 270 #[.val (.int p1), .val (.int p2), .val (.int p3), .val (.int p4), .val (.int (3 : Int32)), .val (.int x0), .val (.int x1), .val (.int x2), .val (.ref b219), .val (.ref r), .val (.int (1 : Int32)), .val (.int (0 : Int32)), .val (.int ((x0 + (1 : Int32)).toInt8.toInt32)), .val (.int x1), .val (.int ((x2 + (1 : Int32)).toInt8.toInt32))] [(.int (0 : Int32))])) _
            refine XS.iconst X229.here hx rfl (hb hby at_270) ?_
            show Steps p.tables e below (T229.setTop (mkF m 271 #[.val (.int p1), .val (.int p2), .val (.int p3), .val (.int p4), .val (.int (3 : Int32)), .val (.int x0), .val (.int x1), .val (.int x2), .val (.ref b219), .val (.ref r), .val (.int (1 : Int32)), .val (.int (0 : Int32)), .val (.int ((x0 + (1 : Int32)).toInt8.toInt32)), .val (.int x1), .val (.int ((x2 + (1 : Int32)).toInt8.toInt32))] [(.int (1 : Int32)), (.int (0 : Int32))])) _
            refine XS.icmpYes X229.here hx rfl (pc0 := 271) (pc' := 285) rfl (hb hby at_271) rfl (tlt (by decide)).1 (by decide) (by decide) ?_
            show Steps p.tables e below (T229.setTop (mkF m 285 #[.val (.int p1), .val (.int p2), .val (.int p3), .val (.int p4), .val (.int (3 : Int32)), .val (.int x0), .val (.int x1), .val (.int x2), .val (.ref b219), .val (.ref r), .val (.int (1 : Int32)), .val (.int (0 : Int32)), .val (.int ((x0 + (1 : Int32)).toInt8.toInt32)), .val (.int x1), .val (.int ((x2 + (1 : Int32)).toInt8.toInt32))] [])) _
            refine XS.iload X229.here hx rfl (hb hby at_285) rfl ?_
            show Steps p.tables e below (T229.setTop (mkF m 287 #[.val (.int p1), .val (.int p2), .val (.int p3), .val (.int p4), .val (.int (3 : Int32)), .val (.int x0), .val (.int x1), .val (.int x2), .val (.ref b219), .val (.ref r), .val (.int (1 : Int32)), .val (.int (0 : Int32)), .val (.int ((x0 + (1 : Int32)).toInt8.toInt32)), .val (.int x1), .val (.int ((x2 + (1 : Int32)).toInt8.toInt32))] [(.int (0 : Int32))])) _
            refine XS.iconst X229.here hx rfl (hb hby at_287) ?_
            show Steps p.tables e below (T229.setTop (mkF m 288 #[.val (.int p1), .val (.int p2), .val (.int p3), .val (.int p4), .val (.int (3 : Int32)), .val (.int x0), .val (.int x1), .val (.int x2), .val (.ref b219), .val (.ref r), .val (.int (1 : Int32)), .val (.int (0 : Int32)), .val (.int ((x0 + (1 : Int32)).toInt8.toInt32)), .val (.int x1), .val (.int ((x2 + (1 : Int32)).toInt8.toInt32))] [(.int (2 : Int32)), (.int (0 : Int32))])) _
            refine XS.icmpYes X229.here hx rfl (pc0 := 288) (pc' := 302) rfl (hb hby at_288) rfl (tlt (by decide)).1 (by decide) (by decide) ?_
            show Steps p.tables e below (T229.setTop (mkF m 302 #[.val (.int p1), .val (.int p2), .val (.int p3), .val (.int p4), .val (.int (3 : Int32)), .val (.int x0), .val (.int x1), .val (.int x2), .val (.ref b219), .val (.ref r), .val (.int (1 : Int32)), .val (.int (0 : Int32)), .val (.int ((x0 + (1 : Int32)).toInt8.toInt32)), .val (.int x1), .val (.int ((x2 + (1 : Int32)).toInt8.toInt32))] [])) _
            refine XS.iconst X229.here hx rfl (hb hby at_302) ?_
            exact kt
          obtain ⟨fsx, hr, hrun, hended, hW, hsame⟩ := X229.leave (v := some (.int (nar .boolean (1 : Int32)))) (fun h => by rw [Bd.returns] at h; cases h)
          refine ⟨_, _, pre232 _ ?_, hrun, hended, _, _, rfl, ?_, ⟨_, rfl⟩, hW, hsame.mono (by decide) (by decide)⟩
          · exact retN X229 hx (t := .boolean) Bd.returns (by simp) (hb hby at_303) hr
          · show Q0 Z p1 p2 p3 p4 h0 n0 _ T229.heap _
            skip
            exact ⟨rfl, Nf229⟩
      · obtain ⟨_, _, ⟨T233, L233, k233, n233⟩, -, X233, ⟨Lc233, hQ233, l233, y233, z233⟩, st233⟩ := Jvm.LawKit.callS X224 hx (y := (⟨"com/example/tessera/tessera/storage/Prefixes", "end", "([B)[B"⟩ : MethodName)) hown (mvT hZ (hw _ (List.mem_of_getElem? (i := 5) rfl))) (mvT hZ (hw _ (List.mem_of_getElem? (i := 6) rfl))) (mvT hZ (hw _ (List.mem_of_getElem? (i := 7) rfl))) (mvT hZ (hw _ (List.mem_of_getElem? (i := 8) rfl))) (by decide) (backOf (W := 0) (rmE31 l Z a0 hw [] b219 k219 x0 x1 x2 h224 n0 Z224 V224 f225 ex2 ex1) hZ (hw _ (List.mem_of_getElem? (i := 8) rfl)) (hw _ (List.mem_of_getElem? (i := 7) rfl)) (by decide) (by decide)) (g := (mkF m 66 #[.val (.int p1), .val (.int p2), .val (.int p3), .val (.int p4), .val (.int (3 : Int32)), .val (.int x0), .val (.int x1), .val (.int x2), .val (.ref b219), .unset, .unset, .unset, .unset, .unset, .unset] [(.ref b219)])) rfl (by rw [hml]; rfl) (argsL := [(.ref b219)]) (rest := []) (lenOf pd_3 rfl) rfl (by show 2 * 0 + _ ≤ _; exact Nat.le_of_eq rfl) (hb hby at_66) (fun _ _ => ⟨rfl, e224, (by decide : 1 + 1 ≤ _), (by decide : 3 + 3 ≤ _)⟩)
        dsimp only [Pt.U, Pt.locs, Pt.cells, Pt.slots] at X233 l233 y233 z233 st233 hQ233
        subst l233 y233 z233
        obtain ⟨r, kr, rfl, Nq233, Kq233, szr, Vr⟩ := hQ233
        have f234 := (f225.keep Kq233)
        have f235 := (V224.keep Kq233 nin0)
        have Z233 : n0 ≤ T233.heap.size := Nat.le_trans Z224 Kq233.1
        have K233 : Keep h0 T233.heap [] := K224.trans Kq233 all0
        have Nf233 := Fr.app Nf224 Nq233
        have pre236 : ∀ t, Steps p.tables e below (T233.setTop (mkF m 303 #[.val (.int p1), .val (.int p2), .val (.int p3), .val (.int p4), .val (.int (3 : Int32)), .val (.int x0), .val (.int x1), .val (.int x2), .val (.ref b219), .val (.ref r), .val (.int (1 : Int32)), .val (.int (1 : Int32)), .val (.int x0), .val (.int ((x1 + (1 : Int32)).toInt8.toInt32)), .val (.int ((x2 + (1 : Int32)).toInt8.toInt32))] [(.int (1 : Int32))])) t → Steps p.tables e below (s₁.setTop (entryFrame m #[(.int p1), (.int p2), (.int p3), (.int p4)] maxLocals)) t := by
          intro t kt
          refine pre226 t ?_
          show Steps p.tables e below (T224.setTop (mkF m 66 #[.val (.int p1), .val (.int p2), .val (.int p3), .val (.int p4), .val (.int (3 : Int32)), .val (.int x0), .val (.int x1), .val (.int x2), .val (.ref b219), .unset, .unset, .unset, .unset, .unset, .unset] [(.ref b219)])) _
          refine st233 _ ?_
          show Steps p.tables e below (T233.setTop (mkF m 69 #[.val (.int p1), .val (.int p2), .val (.int p3), .val (.int p4), .val (.int (3 : Int32)), .val (.int x0), .val (.int x1), .val (.int x2), .val (.ref b219), .unset, .unset, .unset, .unset, .unset, .unset] [(.ref r)])) _
          refine XS.astore X233.here hx rfl (hb hby at_69) rfl rfl (l' := #[.val (.int p1), .val (.int p2), .val (.int p3), .val (.int p4), .val (.int (3 : Int32)), .val (.int x0), .val (.int x1), .val (.int x2), .val (.ref b219), .val (.ref r), .unset, .unset, .unset, .unset, .unset]) rfl ?_
          show Steps p.tables e below (T233.setTop (mkF m 71 #[.val (.int p1), .val (.int p2), .val (.int p3), .val (.int p4), .val (.int (3 : Int32)), .val (.int x0), .val (.int x1), .val (.int x2), .val (.ref b219), .val (.ref r), .unset, .unset, .unset, .unset, .unset] [])) _
          refine XS.iload X233.here hx rfl (hb hby at_71) rfl ?_
          show Steps p.tables e below (T233.setTop (mkF m 73 #[.val (.int p1), .val (.int p2), .val (.int p3), .val (.int p4), .val (.int (3 : Int32)), .val (.int x0), .val (.int x1), .val (.int x2), .val (.ref b219), .val (.ref r), .unset, .unset, .unset, .unset, .unset] [(.int (3 : Int32))])) _
          refine XS.ifNo X233.here hx rfl (hb hby at_73) rfl ((if0 _ _).trans (tlt (by decide)).2.2.2) ?_
          show Steps p.tables e below (T233.setTop (mkF m 76 #[.val (.int p1), .val (.int p2), .val (.int p3), .val (.int p4), .val (.int (3 : Int32)), .val (.int x0), .val (.int x1), .val (.int x2), .val (.ref b219), .val (.ref r), .unset, .unset, .unset, .unset, .unset] [])) _
          refine XS.aload X233.here hx rfl (hb hby at_76) rfl rfl ?_
          show Steps p.tables e below (T233.setTop (mkF m 78 #[.val (.int p1), .val (.int p2), .val (.int p3), .val (.int p4), .val (.int (3 : Int32)), .val (.int x0), .val (.int x1), .val (.int x2), .val (.ref b219), .val (.ref r), .unset, .unset, .unset, .unset, .unset] [(.ref b219)])) _
          refine XS.iconst X233.here hx rfl (hb hby at_78) ?_
          show Steps p.tables e below (T233.setTop (mkF m 79 #[.val (.int p1), .val (.int p2), .val (.int p3), .val (.int p4), .val (.int (3 : Int32)), .val (.int x0), .val (.int x1), .val (.int x2), .val (.ref b219), .val (.ref r), .unset, .unset, .unset, .unset, .unset] [(.int (0 : Int32)), (.ref b219)])) _
          refine own_bal X233 hx hZ rfl f235 (j := (0 : Int32)) ⟨by decide, by decide⟩ (v := (.int x0)) rfl (g := (mkF m 79 #[.val (.int p1), .val (.int p2), .val (.int p3), .val (.int p4), .val (.int (3 : Int32)), .val (.int x0), .val (.int x1), .val (.int x2), .val (.ref b219), .val (.ref r), .unset, .unset, .unset, .unset, .unset] [(.int (0 : Int32)), (.ref b219)])) rfl rfl (hb hby at_79) _ ?_
          show Steps p.tables e below (T233.setTop (mkF m 80 #[.val (.int p1), .val (.int p2), .val (.int p3), .val (.int p4), .val (.int (3 : Int32)), .val (.int x0), .val (.int x1), .val (.int x2), .val (.ref b219), .val (.ref r), .unset, .unset, .unset, .unset, .unset] [(.int x0)])) _
          refine XS.iload X233.here hx rfl (hb hby at_80) rfl ?_
          show Steps p.tables e below (T233.setTop (mkF m 82 #[.val (.int p1), .val (.int p2), .val (.int p3), .val (.int p4), .val (.int (3 : Int32)), .val (.int x0), .val (.int x1), .val (.int x2), .val (.ref b219), .val (.ref r), .unset, .unset, .unset, .unset, .unset] [(.int x0), (.int x0)])) _
          refine XS.icmpNo X233.here hx rfl (hb hby at_82) rfl (teq rfl).2 ?_
          show Steps p.tables e below (T233.setTop (mkF m 85 #[.val (.int p1), .val (.int p2), .val (.int p3), .val (.int p4), .val (.int (3 : Int32)), .val (.int x0), .val (.int x1), .val (.int x2), .val (.ref b219), .val (.ref r), .unset, .unset, .unset, .unset, .unset] [])) _
          refine XS.iload X233.here hx rfl (hb hby at_85) rfl ?_
          show Steps p.tables e below (T233.setTop (mkF m 87 #[.val (.int p1), .val (.int p2), .val (.int p3), .val (.int p4), .val (.int (3 : Int32)), .val (.int x0), .val (.int x1), .val (.int x2), .val (.ref b219), .val (.ref r), .unset, .unset, .unset, .unset, .unset] [(.int (3 : Int32))])) _
          refine XS.iconst X233.here hx rfl (hb hby at_87) ?_
          show Steps p.tables e below (T233.setTop (mkF m 88 #[.val (.int p1), .val (.int p2), .val (.int p3), .val (.int p4), .val (.int (3 : Int32)), .val (.int x0), .val (.int x1), .val (.int x2), .val (.ref b219), .val (.ref r), .unset, .unset, .unset, .unset, .unset] [(.int (1 : Int32)), (.int (3 : Int32))])) _
          refine XS.icmpNo X233.here hx rfl (hb hby at_88) rfl (tlt (by decide)).2.2.2 ?_
          show Steps p.tables e below (T233.setTop (mkF m 91 #[.val (.int p1), .val (.int p2), .val (.int p3), .val (.int p4), .val (.int (3 : Int32)), .val (.int x0), .val (.int x1), .val (.int x2), .val (.ref b219), .val (.ref r), .unset, .unset, .unset, .unset, .unset] [])) _
          refine XS.aload X233.here hx rfl (hb hby at_91) rfl rfl ?_
          show Steps p.tables e below (T233.setTop (mkF m 93 #[.val (.int p1), .val (.int p2), .val (.int p3), .val (.int p4), .val (.int (3 : Int32)), .val (.int x0), .val (.int x1), .val (.int x2), .val (.ref b219), .val (.ref r), .unset, .unset, .unset, .unset, .unset] [(.ref b219)])) _
          refine XS.iconst X233.here hx rfl (hb hby at_93) ?_
          show Steps p.tables e below (T233.setTop (mkF m 94 #[.val (.int p1), .val (.int p2), .val (.int p3), .val (.int p4), .val (.int (3 : Int32)), .val (.int x0), .val (.int x1), .val (.int x2), .val (.ref b219), .val (.ref r), .unset, .unset, .unset, .unset, .unset] [(.int (1 : Int32)), (.ref b219)])) _
          refine own_bal X233 hx hZ rfl f235 (j := (1 : Int32)) ⟨by decide, by decide⟩ (v := (.int x1)) rfl (g := (mkF m 94 #[.val (.int p1), .val (.int p2), .val (.int p3), .val (.int p4), .val (.int (3 : Int32)), .val (.int x0), .val (.int x1), .val (.int x2), .val (.ref b219), .val (.ref r), .unset, .unset, .unset, .unset, .unset] [(.int (1 : Int32)), (.ref b219)])) rfl rfl (hb hby at_94) _ ?_
          show Steps p.tables e below (T233.setTop (mkF m 95 #[.val (.int p1), .val (.int p2), .val (.int p3), .val (.int p4), .val (.int (3 : Int32)), .val (.int x0), .val (.int x1), .val (.int x2), .val (.ref b219), .val (.ref r), .unset, .unset, .unset, .unset, .unset] [(.int x1)])) _
          refine XS.iload X233.here hx rfl (hb hby at_95) rfl ?_
          show Steps p.tables e below (T233.setTop (mkF m 97 #[.val (.int p1), .val (.int p2), .val (.int p3), .val (.int p4), .val (.int (3 : Int32)), .val (.int x0), .val (.int x1), .val (.int x2), .val (.ref b219), .val (.ref r), .unset, .unset, .unset, .unset, .unset] [(.int x1), (.int x1)])) _
          refine XS.icmpNo X233.here hx rfl (hb hby at_97) rfl (teq rfl).2 ?_
          show Steps p.tables e below (T233.setTop (mkF m 100 #[.val (.int p1), .val (.int p2), .val (.int p3), .val (.int p4), .val (.int (3 : Int32)), .val (.int x0), .val (.int x1), .val (.int x2), .val (.ref b219), .val (.ref r), .unset, .unset, .unset, .unset, .unset] [])) _
          refine XS.iload X233.here hx rfl (hb hby at_100) rfl ?_
          show Steps p.tables e below (T233.setTop (mkF m 102 #[.val (.int p1), .val (.int p2), .val (.int p3), .val (.int p4), .val (.int (3 : Int32)), .val (.int x0), .val (.int x1), .val (.int x2), .val (.ref b219), .val (.ref r), .unset, .unset, .unset, .unset, .unset] [(.int (3 : Int32))])) _
          refine XS.iconst X233.here hx rfl (hb hby at_102) ?_
          show Steps p.tables e below (T233.setTop (mkF m 103 #[.val (.int p1), .val (.int p2), .val (.int p3), .val (.int p4), .val (.int (3 : Int32)), .val (.int x0), .val (.int x1), .val (.int x2), .val (.ref b219), .val (.ref r), .unset, .unset, .unset, .unset, .unset] [(.int (2 : Int32)), (.int (3 : Int32))])) _
          refine XS.icmpNo X233.here hx rfl (hb hby at_103) rfl (tlt (by decide)).2.2.2 ?_
          show Steps p.tables e below (T233.setTop (mkF m 106 #[.val (.int p1), .val (.int p2), .val (.int p3), .val (.int p4), .val (.int (3 : Int32)), .val (.int x0), .val (.int x1), .val (.int x2), .val (.ref b219), .val (.ref r), .unset, .unset, .unset, .unset, .unset] [])) _
          refine XS.aload X233.here hx rfl (hb hby at_106) rfl rfl ?_
          show Steps p.tables e below (T233.setTop (mkF m 108 #[.val (.int p1), .val (.int p2), .val (.int p3), .val (.int p4), .val (.int (3 : Int32)), .val (.int x0), .val (.int x1), .val (.int x2), .val (.ref b219), .val (.ref r), .unset, .unset, .unset, .unset, .unset] [(.ref b219)])) _
          refine XS.iconst X233.here hx rfl (hb hby at_108) ?_
          show Steps p.tables e below (T233.setTop (mkF m 109 #[.val (.int p1), .val (.int p2), .val (.int p3), .val (.int p4), .val (.int (3 : Int32)), .val (.int x0), .val (.int x1), .val (.int x2), .val (.ref b219), .val (.ref r), .unset, .unset, .unset, .unset, .unset] [(.int (2 : Int32)), (.ref b219)])) _
          refine own_bal X233 hx hZ rfl f235 (j := (2 : Int32)) ⟨by decide, by decide⟩ (v := (.int x2)) rfl (g := (mkF m 109 #[.val (.int p1), .val (.int p2), .val (.int p3), .val (.int p4), .val (.int (3 : Int32)), .val (.int x0), .val (.int x1), .val (.int x2), .val (.ref b219), .val (.ref r), .unset, .unset, .unset, .unset, .unset] [(.int (2 : Int32)), (.ref b219)])) rfl rfl (hb hby at_109) _ ?_
          show Steps p.tables e below (T233.setTop (mkF m 110 #[.val (.int p1), .val (.int p2), .val (.int p3), .val (.int p4), .val (.int (3 : Int32)), .val (.int x0), .val (.int x1), .val (.int x2), .val (.ref b219), .val (.ref r), .unset, .unset, .unset, .unset, .unset] [(.int x2)])) _
          refine XS.iload X233.here hx rfl (hb hby at_110) rfl ?_
          show Steps p.tables e below (T233.setTop (mkF m 112 #[.val (.int p1), .val (.int p2), .val (.int p3), .val (.int p4), .val (.int (3 : Int32)), .val (.int x0), .val (.int x1), .val (.int x2), .val (.ref b219), .val (.ref r), .unset, .unset, .unset, .unset, .unset] [(.int x2), (.int x2)])) _
          refine XS.icmpNo X233.here hx rfl (hb hby at_112) rfl (teq rfl).2 ?_
          show Steps p.tables e below (T233.setTop (mkF m 115 #[.val (.int p1), .val (.int p2), .val (.int p3), .val (.int p4), .val (.int (3 : Int32)), .val (.int x0), .val (.int x1), .val (.int x2), .val (.ref b219), .val (.ref r), .unset, .unset, .unset, .unset, .unset] [])) _
          refine XS.iconst X233.here hx rfl (hb hby at_115) ?_
          show Steps p.tables e below (T233.setTop (mkF m 116 #[.val (.int p1), .val (.int p2), .val (.int p3), .val (.int p4), .val (.int (3 : Int32)), .val (.int x0), .val (.int x1), .val (.int x2), .val (.ref b219), .val (.ref r), .unset, .unset, .unset, .unset, .unset] [(.int (1 : Int32))])) _
          refine XS.goto X233.here hx rfl (pc0 := 116) (pc' := 120) rfl (hb hby at_116) (by decide) (by decide) ?_
          show Steps p.tables e below (T233.setTop (mkF m 120 #[.val (.int p1), .val (.int p2), .val (.int p3), .val (.int p4), .val (.int (3 : Int32)), .val (.int x0), .val (.int x1), .val (.int x2), .val (.ref b219), .val (.ref r), .unset, .unset, .unset, .unset, .unset] [(.int (1 : Int32))])) _
          refine XS.istore X233.here hx rfl (hb hby at_120) rfl (l' := #[.val (.int p1), .val (.int p2), .val (.int p3), .val (.int p4), .val (.int (3 : Int32)), .val (.int x0), .val (.int x1), .val (.int x2), .val (.ref b219), .val (.ref r), .val (.int (1 : Int32)), .unset, .unset, .unset, .unset]) rfl ?_
          show Steps p.tables e below (T233.setTop (mkF m 122 #[.val (.int p1), .val (.int p2), .val (.int p3), .val (.int p4), .val (.int (3 : Int32)), .val (.int x0), .val (.int x1), .val (.int x2), .val (.ref b219), .val (.ref r), .val (.int (1 : Int32)), .unset, .unset, .unset, .unset] [])) _
          refine XS.iload X233.here hx rfl (hb hby at_122) rfl ?_
          show Steps p.tables e below (T233.setTop (mkF m 124 #[.val (.int p1), .val (.int p2), .val (.int p3), .val (.int p4), .val (.int (3 : Int32)), .val (.int x0), .val (.int x1), .val (.int x2), .val (.ref b219), .val (.ref r), .val (.int (1 : Int32)), .unset, .unset, .unset, .unset] [(.int (1 : Int32))])) _
          refine XS.ifYes X233.here hx rfl (pc0 := 124) (pc' := 129) rfl (hb hby at_124) rfl ((if0 _ _).trans (feq (by decide)).2) (by decide) (by decide) ?_
          show Steps p.tables e below (T233.setTop (mkF m 129 #[.val (.int p1), .val (.int p2), .val (.int p3), .val (.int p4), .val (.int (3 : Int32)), .val (.int x0), .val (.int x1), .val (.int x2), .val (.ref b219), .val (.ref r), .val (.int (1 : Int32)), .unset, .unset, .unset, .unset] [])) _
          refine XS.iconst X233.here hx rfl (hb hby at_129) ?_
          show Steps p.tables e below (T233.setTop (mkF m 130 #[.val (.int p1), .val (.int p2), .val (.int p3), .val (.int p4), .val (.int (3 : Int32)), .val (.int x0), .val (.int x1), .val (.int x2), .val (.ref b219), .val (.ref r), .val (.int (1 : Int32)), .unset, .unset, .unset, .unset] [(.int (-1 : Int32))])) _
          refine XS.istore X233.here hx rfl (hb hby at_130) rfl (l' := #[.val (.int p1), .val (.int p2), .val (.int p3), .val (.int p4), .val (.int (3 : Int32)), .val (.int x0), .val (.int x1), .val (.int x2), .val (.ref b219), .val (.ref r), .val (.int (1 : Int32)), .val (.int (-1 : Int32)), .unset, .unset, .unset]) rfl ?_
          show Steps p.tables e below (T233.setTop (mkF m 132 #[.val (.int p1), .val (.int p2), .val (.int p3), .val (.int p4), .val (.int (3 : Int32)), .val (.int x0), .val (.int x1), .val (.int x2), .val (.ref b219), .val (.ref r), .val (.int (1 : Int32)), .val (.int (-1 : Int32)), .unset, .unset, .unset] [])) _
          refine XS.iload X233.here hx rfl (hb hby at_132) rfl ?_
          show Steps p.tables e below (T233.setTop (mkF m 134 #[.val (.int p1), .val (.int p2), .val (.int p3), .val (.int p4), .val (.int (3 : Int32)), .val (.int x0), .val (.int x1), .val (.int x2), .val (.ref b219), .val (.ref r), .val (.int (1 : Int32)), .val (.int (-1 : Int32)), .unset, .unset, .unset] [(.int (3 : Int32))])) _
          refine XS.iconst X233.here hx rfl (hb hby at_134) ?_
          show Steps p.tables e below (T233.setTop (mkF m 135 #[.val (.int p1), .val (.int p2), .val (.int p3), .val (.int p4), .val (.int (3 : Int32)), .val (.int x0), .val (.int x1), .val (.int x2), .val (.ref b219), .val (.ref r), .val (.int (1 : Int32)), .val (.int (-1 : Int32)), .unset, .unset, .unset] [(.int (2 : Int32)), (.int (3 : Int32))])) _
          refine XS.icmpNo X233.here hx rfl (hb hby at_135) rfl (tlt (by decide)).2.2.2 ?_
          show Steps p.tables e below (T233.setTop (mkF m 138 #[.val (.int p1), .val (.int p2), .val (.int p3), .val (.int p4), .val (.int (3 : Int32)), .val (.int x0), .val (.int x1), .val (.int x2), .val (.ref b219), .val (.ref r), .val (.int (1 : Int32)), .val (.int (-1 : Int32)), .unset, .unset, .unset] [])) _
          refine XS.iload X233.here hx rfl (hb hby at_138) rfl ?_
          show Steps p.tables e below (T233.setTop (mkF m 140 #[.val (.int p1), .val (.int p2), .val (.int p3), .val (.int p4), .val (.int (3 : Int32)), .val (.int x0), .val (.int x1), .val (.int x2), .val (.ref b219), .val (.ref r), .val (.int (1 : Int32)), .val (.int (-1 : Int32)), .unset, .unset, .unset] [(.int x2)])) _
          refine XS.iconst X233.here hx rfl (hb hby at_140) ?_
          show Steps p.tables e below (T233.setTop (mkF m 141 #[.val (.int p1), .val (.int p2), .val (.int p3), .val (.int p4), .val (.int (3 : Int32)), .val (.int x0), .val (.int x1), .val (.int x2), .val (.ref b219), .val (.ref r), .val (.int (1 : Int32)), .val (.int (-1 : Int32)), .unset, .unset, .unset] [(.int (-1 : Int32)), (.int x2)])) _
          refine XS.icmpYes X233.here hx rfl (pc0 := 141) (pc' := 150) rfl (hb hby at_141) rfl (teq ex2).1 (by decide) (by decide) ?_
          show Steps p.tables e below (T233.setTop (mkF m 150 #[.val (.int p1), .val (.int p2), .val (.int p3), .val (.int p4), .val (.int (3 : Int32)), .val (.int x0), .val (.int x1), .val (.int x2), .val (.ref b219), .val (.ref r), .val (.int (1 : Int32)), .val (.int (-1 : Int32)), .unset, .unset, .unset] [])) _
          refine XS.iload X233.here hx rfl (hb hby at_150) rfl ?_
          show Steps p.tables e below (T233.setTop (mkF m 152 #[.val (.int p1), .val (.int p2), .val (.int p3), .val (.int p4), .val (.int (3 : Int32)), .val (.int x0), .val (.int x1), .val (.int x2), .val (.ref b219), .val (.ref r), .val (.int (1 : Int32)), .val (.int (-1 : Int32)), .unset, .unset, .unset] [(.int (3 : Int32))])) _
          refine XS.iconst X233.here hx rfl (hb hby at_152) ?_
          show Steps p.tables e below (T233.setTop (mkF m 153 #[.val (.int p1), .val (.int p2), .val (.int p3), .val (.int p4), .val (.int (3 : Int32)), .val (.int x0), .val (.int x1), .val (.int x2), .val (.ref b219), .val (.ref r), .val (.int (1 : Int32)), .val (.int (-1 : Int32)), .unset, .unset, .unset] [(.int (1 : Int32)), (.int (3 : Int32))])) _
          refine XS.icmpNo X233.here hx rfl (hb hby at_153) rfl (tlt (by decide)).2.2.2 ?_
          show Steps p.tables e below (T233.setTop (mkF m 156 #[.val (.int p1), .val (.int p2), .val (.int p3), .val (.int p4), .val (.int (3 : Int32)), .val (.int x0), .val (.int x1), .val (.int x2), .val (.ref b219), .val (.ref r), .val (.int (1 : Int32)), .val (.int (-1 : Int32)), .unset, .unset, .unset] [])) _
          refine XS.iload X233.here hx rfl (hb hby at_156) rfl ?_
          show Steps p.tables e below (T233.setTop (mkF m 158 #[.val (.int p1), .val (.int p2), .val (.int p3), .val (.int p4), .val (.int (3 : Int32)), .val (.int x0), .val (.int x1), .val (.int x2), .val (.ref b219), .val (.ref r), .val (.int (1 : Int32)), .val (.int (-1 : Int32)), .unset, .unset, .unset] [(.int x1)])) _
          refine XS.iconst X233.here hx rfl (hb hby at_158) ?_
          show Steps p.tables e below (T233.setTop (mkF m 159 #[.val (.int p1), .val (.int p2), .val (.int p3), .val (.int p4), .val (.int (3 : Int32)), .val (.int x0), .val (.int x1), .val (.int x2), .val (.ref b219), .val (.ref r), .val (.int (1 : Int32)), .val (.int (-1 : Int32)), .unset, .unset, .unset] [(.int (-1 : Int32)), (.int x1)])) _
          refine XS.icmpNo X233.here hx rfl (hb hby at_159) rfl (feq ex1).1 ?_
          show Steps p.tables e below (T233.setTop (mkF m 162 #[.val (.int p1), .val (.int p2), .val (.int p3), .val (.int p4), .val (.int (3 : Int32)), .val (.int x0), .val (.int x1), .val (.int x2), .val (.ref b219), .val (.ref r), .val (.int (1 : Int32)), .val (.int (-1 : Int32)), .unset, .unset, .unset] [])) _
          refine XS.iconst X233.here hx rfl (hb hby at_162) ?_
          show Steps p.tables e below (T233.setTop (mkF m 163 #[.val (.int p1), .val (.int p2), .val (.int p3), .val (.int p4), .val (.int (3 : Int32)), .val (.int x0), .val (.int x1), .val (.int x2), .val (.ref b219), .val (.ref r), .val (.int (1 : Int32)), .val (.int (-1 : Int32)), .unset, .unset, .unset] [(.int (1 : Int32))])) _
          refine XS.istore X233.here hx rfl (hb hby at_163) rfl (l' := #[.val (.int p1), .val (.int p2), .val (.int p3), .val (.int p4), .val (.int (3 : Int32)), .val (.int x0), .val (.int x1), .val (.int x2), .val (.ref b219), .val (.ref r), .val (.int (1 : Int32)), .val (.int (1 : Int32)), .unset, .unset, .unset]) rfl ?_
          show Steps p.tables e below (T233.setTop (mkF m 165 #[.val (.int p1), .val (.int p2), .val (.int p3), .val (.int p4), .val (.int (3 : Int32)), .val (.int x0), .val (.int x1), .val (.int x2), .val (.ref b219), .val (.ref r), .val (.int (1 : Int32)), .val (.int (1 : Int32)), .unset, .unset, .unset] [])) _
          refine XS.goto X233.here hx rfl (pc0 := 165) (pc' := 182) rfl (hb hby at_165) (by decide) (by decide) ?_
          show Steps p.tables e below (T233.setTop (mkF m 182 #[.val (.int p1), .val (.int p2), .val (.int p3), .val (.int p4), .val (.int (3 : Int32)), .val (.int x0), .val (.int x1), .val (.int x2), .val (.ref b219), .val (.ref r), .val (.int (1 : Int32)), .val (.int (1 : Int32)), .unset, .unset, .unset] [])) _
          refine XS.iload X233.here hx rfl (hb hby at_182) rfl ?_
          show Steps p.tables e below (T233.setTop (mkF m 184 #[.val (.int p1), .val (.int p2), .val (.int p3), .val (.int p4), .val (.int (3 : Int32)), .val (.int x0), .val (.int x1), .val (.int x2), .val (.ref b219), .val (.ref r), .val (.int (1 : Int32)), .val (.int (1 : Int32)), .unset, .unset, .unset] [(.int (1 : Int32))])) _
          refine XS.ifYes X233.here hx rfl (pc0 := 184) (pc' := 198) rfl (hb hby at_184) rfl ((if0 _ _).trans (flt (by decide)).2.1) (by decide) (by decide) ?_
          show Steps p.tables e below (T233.setTop (mkF m 198 #[.val (.int p1), .val (.int p2), .val (.int p3), .val (.int p4), .val (.int (3 : Int32)), .val (.int x0), .val (.int x1), .val (.int x2), .val (.ref b219), .val (.ref r), .val (.int (1 : Int32)), .val (.int (1 : Int32)), .unset, .unset, .unset] [])) _
          refine XS.aload X233.here hx rfl (hb hby at_198) rfl rfl ?_
          show Steps p.tables e below (T233.setTop (mkF m 200 #[.val (.int p1), .val (.int p2), .val (.int p3), .val (.int p4), .val (.int (3 : Int32)), .val (.int x0), .val (.int x1), .val (.int x2), .val (.ref b219), .val (.ref r), .val (.int (1 : Int32)), .val (.int (1 : Int32)), .unset, .unset, .unset] [(.ref r)])) _
          refine XS.ifnullNo X233.here hx rfl (hb hby at_200) rfl ?_
          show Steps p.tables e below (T233.setTop (mkF m 203 #[.val (.int p1), .val (.int p2), .val (.int p3), .val (.int p4), .val (.int (3 : Int32)), .val (.int x0), .val (.int x1), .val (.int x2), .val (.ref b219), .val (.ref r), .val (.int (1 : Int32)), .val (.int (1 : Int32)), .unset, .unset, .unset] [])) _
          refine XS.aload X233.here hx rfl (hb hby at_203) rfl rfl ?_
          show Steps p.tables e below (T233.setTop (mkF m 205 #[.val (.int p1), .val (.int p2), .val (.int p3), .val (.int p4), .val (.int (3 : Int32)), .val (.int x0), .val (.int x1), .val (.int x2), .val (.ref b219), .val (.ref r), .val (.int (1 : Int32)), .val (.int (1 : Int32)), .unset, .unset, .unset] [(.ref r)])) _
          refine own_len X233 hx hZ rfl Vr (g := (mkF m 205 #[.val (.int p1), .val (.int p2), .val (.int p3), .val (.int p4), .val (.int (3 : Int32)), .val (.int x0), .val (.int x1), .val (.int x2), .val (.ref b219), .val (.ref r), .val (.int (1 : Int32)), .val (.int (1 : Int32)), .unset, .unset, .unset] [(.ref r)])) rfl rfl (hb hby at_205) _ ?_
          show Steps p.tables e below (T233.setTop (mkF m 206 #[.val (.int p1), .val (.int p2), .val (.int p3), .val (.int p4), .val (.int (3 : Int32)), .val (.int x0), .val (.int x1), .val (.int x2), .val (.ref b219), .val (.ref r), .val (.int (1 : Int32)), .val (.int (1 : Int32)), .unset, .unset, .unset] [(.int (2 : Int32))])) _
          refine XS.iload X233.here hx rfl (hb hby at_206) rfl ?_
          show Steps p.tables e below (T233.setTop (mkF m 208 #[.val (.int p1), .val (.int p2), .val (.int p3), .val (.int p4), .val (.int (3 : Int32)), .val (.int x0), .val (.int x1), .val (.int x2), .val (.ref b219), .val (.ref r), .val (.int (1 : Int32)), .val (.int (1 : Int32)), .unset, .unset, .unset] [(.int (1 : Int32)), (.int (2 : Int32))])) _
          refine XS.iconst X233.here hx rfl (hb hby at_208) ?_
          show Steps p.tables e below (T233.setTop (mkF m 209 #[.val (.int p1), .val (.int p2), .val (.int p3), .val (.int p4), .val (.int (3 : Int32)), .val (.int x0), .val (.int x1), .val (.int x2), .val (.ref b219), .val (.ref r), .val (.int (1 : Int32)), .val (.int (1 : Int32)), .unset, .unset, .unset] [(.int (1 : Int32)), (.int (1 : Int32)), (.int (2 : Int32))])) _
          refine XS.iadd X233.here hx rfl (hb hby at_209) rfl ?_
          show Steps p.tables e below (T233.setTop (mkF m 210 #[.val (.int p1), .val (.int p2), .val (.int p3), .val (.int p4), .val (.int (3 : Int32)), .val (.int x0), .val (.int x1), .val (.int x2), .val (.ref b219), .val (.ref r), .val (.int (1 : Int32)), .val (.int (1 : Int32)), .unset, .unset, .unset] [(.int (2 : Int32)), (.int (2 : Int32))])) _
          refine XS.icmpYes X233.here hx rfl (pc0 := 210) (pc' := 215) rfl (hb hby at_210) rfl (teq (by decide)).1 (by decide) (by decide) ?_
          show Steps p.tables e below (T233.setTop (mkF m 215 #[.val (.int p1), .val (.int p2), .val (.int p3), .val (.int p4), .val (.int (3 : Int32)), .val (.int x0), .val (.int x1), .val (.int x2), .val (.ref b219), .val (.ref r), .val (.int (1 : Int32)), .val (.int (1 : Int32)), .unset, .unset, .unset] [])) _
          refine XS.iload X233.here hx rfl (hb hby at_215) rfl ?_
          show Steps p.tables e below (T233.setTop (mkF m 217 #[.val (.int p1), .val (.int p2), .val (.int p3), .val (.int p4), .val (.int (3 : Int32)), .val (.int x0), .val (.int x1), .val (.int x2), .val (.ref b219), .val (.ref r), .val (.int (1 : Int32)), .val (.int (1 : Int32)), .unset, .unset, .unset] [(.int (1 : Int32))])) _
          refine XS.ifYes X233.here hx rfl (pc0 := 217) (pc' := 228) rfl (hb hby at_217) rfl ((if0 _ _).trans (feq (by decide)).2) (by decide) (by decide) ?_
          show Steps p.tables e below (T233.setTop (mkF m 228 #[.val (.int p1), .val (.int p2), .val (.int p3), .val (.int p4), .val (.int (3 : Int32)), .val (.int x0), .val (.int x1), .val (.int x2), .val (.ref b219), .val (.ref r), .val (.int (1 : Int32)), .val (.int (1 : Int32)), .unset, .unset, .unset] [])) _
          refine XS.iload X233.here hx rfl (hb hby at_228) rfl ?_
          show Steps p.tables e below (T233.setTop (mkF m 230 #[.val (.int p1), .val (.int p2), .val (.int p3), .val (.int p4), .val (.int (3 : Int32)), .val (.int x0), .val (.int x1), .val (.int x2), .val (.ref b219), .val (.ref r), .val (.int (1 : Int32)), .val (.int (1 : Int32)), .unset, .unset, .unset] [(.int x0)])) _
          refine XS.istore X233.here hx rfl (hb hby at_230) rfl (l' := #[.val (.int p1), .val (.int p2), .val (.int p3), .val (.int p4), .val (.int (3 : Int32)), .val (.int x0), .val (.int x1), .val (.int x2), .val (.ref b219), .val (.ref r), .val (.int (1 : Int32)), .val (.int (1 : Int32)), .val (.int x0), .unset, .unset]) rfl ?_
          show Steps p.tables e below (T233.setTop (mkF m 232 #[.val (.int p1), .val (.int p2), .val (.int p3), .val (.int p4), .val (.int (3 : Int32)), .val (.int x0), .val (.int x1), .val (.int x2), .val (.ref b219), .val (.ref r), .val (.int (1 : Int32)), .val (.int (1 : Int32)), .val (.int x0), .unset, .unset] [])) _
          refine XS.iload X233.here hx rfl (hb hby at_232) rfl ?_
          show Steps p.tables e below (T233.setTop (mkF m 234 #[.val (.int p1), .val (.int p2), .val (.int p3), .val (.int p4), .val (.int (3 : Int32)), .val (.int x0), .val (.int x1), .val (.int x2), .val (.ref b219), .val (.ref r), .val (.int (1 : Int32)), .val (.int (1 : Int32)), .val (.int x0), .unset, .unset] [(.int (1 : Int32))])) _
          refine XS.iconst X233.here hx rfl (hb hby at_234) ?_
          show Steps p.tables e below (T233.setTop (mkF m 235 #[.val (.int p1), .val (.int p2), .val (.int p3), .val (.int p4), .val (.int (3 : Int32)), .val (.int x0), .val (.int x1), .val (.int x2), .val (.ref b219), .val (.ref r), .val (.int (1 : Int32)), .val (.int (1 : Int32)), .val (.int x0), .unset, .unset] [(.int (1 : Int32)), (.int (1 : Int32))])) _
          refine XS.icmpNo X233.here hx rfl (hb hby at_235) rfl (teq (by decide)).2 ?_
          show Steps p.tables e below (T233.setTop (mkF m 238 #[.val (.int p1), .val (.int p2), .val (.int p3), .val (.int p4), .val (.int (3 : Int32)), .val (.int x0), .val (.int x1), .val (.int x2), .val (.ref b219), .val (.ref r), .val (.int (1 : Int32)), .val (.int (1 : Int32)), .val (.int x0), .unset, .unset] [])) _
          refine XS.iload X233.here hx rfl (hb hby at_238) rfl ?_
          show Steps p.tables e below (T233.setTop (mkF m 240 #[.val (.int p1), .val (.int p2), .val (.int p3), .val (.int p4), .val (.int (3 : Int32)), .val (.int x0), .val (.int x1), .val (.int x2), .val (.ref b219), .val (.ref r), .val (.int (1 : Int32)), .val (.int (1 : Int32)), .val (.int x0), .unset, .unset] [(.int x1)])) _
          refine XS.iconst X233.here hx rfl (hb hby at_240) ?_
          show Steps p.tables e below (T233.setTop (mkF m 241 #[.val (.int p1), .val (.int p2), .val (.int p3), .val (.int p4), .val (.int (3 : Int32)), .val (.int x0), .val (.int x1), .val (.int x2), .val (.ref b219), .val (.ref r), .val (.int (1 : Int32)), .val (.int (1 : Int32)), .val (.int x0), .unset, .unset] [(.int (1 : Int32)), (.int x1)])) _
          refine XS.iadd X233.here hx rfl (hb hby at_241) rfl ?_
          show Steps p.tables e below (T233.setTop (mkF m 242 #[.val (.int p1), .val (.int p2), .val (.int p3), .val (.int p4), .val (.int (3 : Int32)), .val (.int x0), .val (.int x1), .val (.int x2), .val (.ref b219), .val (.ref r), .val (.int (1 : Int32)), .val (.int (1 : Int32)), .val (.int x0), .unset, .unset] [(.int (x1 + (1 : Int32)))])) _
          refine XS.i2b X233.here hx rfl (hb hby at_242) rfl ?_
          show Steps p.tables e below (T233.setTop (mkF m 243 #[.val (.int p1), .val (.int p2), .val (.int p3), .val (.int p4), .val (.int (3 : Int32)), .val (.int x0), .val (.int x1), .val (.int x2), .val (.ref b219), .val (.ref r), .val (.int (1 : Int32)), .val (.int (1 : Int32)), .val (.int x0), .unset, .unset] [(.int ((x1 + (1 : Int32)).toInt8.toInt32))])) _
          refine XS.goto X233.here hx rfl (pc0 := 243) (pc' := 248) rfl (hb hby at_243) (by decide) (by decide) ?_
          show Steps p.tables e below (T233.setTop (mkF m 248 #[.val (.int p1), .val (.int p2), .val (.int p3), .val (.int p4), .val (.int (3 : Int32)), .val (.int x0), .val (.int x1), .val (.int x2), .val (.ref b219), .val (.ref r), .val (.int (1 : Int32)), .val (.int (1 : Int32)), .val (.int x0), .unset, .unset] [(.int ((x1 + (1 : Int32)).toInt8.toInt32))])) _
          refine XS.istore X233.here hx rfl (hb hby at_248) rfl (l' := #[.val (.int p1), .val (.int p2), .val (.int p3), .val (.int p4), .val (.int (3 : Int32)), .val (.int x0), .val (.int x1), .val (.int x2), .val (.ref b219), .val (.ref r), .val (.int (1 : Int32)), .val (.int (1 : Int32)), .val (.int x0), .val (.int ((x1 + (1 : Int32)).toInt8.toInt32)), .unset]) rfl ?_
          show Steps p.tables e below (T233.setTop (mkF m 250 #[.val (.int p1), .val (.int p2), .val (.int p3), .val (.int p4), .val (.int (3 : Int32)), .val (.int x0), .val (.int x1), .val (.int x2), .val (.ref b219), .val (.ref r), .val (.int (1 : Int32)), .val (.int (1 : Int32)), .val (.int x0), .val (.int ((x1 + (1 : Int32)).toInt8.toInt32)), .unset] [])) _
          refine XS.iload X233.here hx rfl (hb hby at_250) rfl ?_
          show Steps p.tables e below (T233.setTop (mkF m 252 #[.val (.int p1), .val (.int p2), .val (.int p3), .val (.int p4), .val (.int (3 : Int32)), .val (.int x0), .val (.int x1), .val (.int x2), .val (.ref b219), .val (.ref r), .val (.int (1 : Int32)), .val (.int (1 : Int32)), .val (.int x0), .val (.int ((x1 + (1 : Int32)).toInt8.toInt32)), .unset] [(.int x2)])) _
          refine XS.iconst X233.here hx rfl (hb hby at_252) ?_
          show Steps p.tables e below (T233.setTop (mkF m 253 #[.val (.int p1), .val (.int p2), .val (.int p3), .val (.int p4), .val (.int (3 : Int32)), .val (.int x0), .val (.int x1), .val (.int x2), .val (.ref b219), .val (.ref r), .val (.int (1 : Int32)), .val (.int (1 : Int32)), .val (.int x0), .val (.int ((x1 + (1 : Int32)).toInt8.toInt32)), .unset] [(.int (1 : Int32)), (.int x2)])) _
          refine XS.iadd X233.here hx rfl (hb hby at_253) rfl ?_
          show Steps p.tables e below (T233.setTop (mkF m 254 #[.val (.int p1), .val (.int p2), .val (.int p3), .val (.int p4), .val (.int (3 : Int32)), .val (.int x0), .val (.int x1), .val (.int x2), .val (.ref b219), .val (.ref r), .val (.int (1 : Int32)), .val (.int (1 : Int32)), .val (.int x0), .val (.int ((x1 + (1 : Int32)).toInt8.toInt32)), .unset] [(.int (x2 + (1 : Int32)))])) _
          refine XS.i2b X233.here hx rfl (hb hby at_254) rfl ?_
          show Steps p.tables e below (T233.setTop (mkF m 255 #[.val (.int p1), .val (.int p2), .val (.int p3), .val (.int p4), .val (.int (3 : Int32)), .val (.int x0), .val (.int x1), .val (.int x2), .val (.ref b219), .val (.ref r), .val (.int (1 : Int32)), .val (.int (1 : Int32)), .val (.int x0), .val (.int ((x1 + (1 : Int32)).toInt8.toInt32)), .unset] [(.int ((x2 + (1 : Int32)).toInt8.toInt32))])) _
          refine XS.istore X233.here hx rfl (hb hby at_255) rfl (l' := #[.val (.int p1), .val (.int p2), .val (.int p3), .val (.int p4), .val (.int (3 : Int32)), .val (.int x0), .val (.int x1), .val (.int x2), .val (.ref b219), .val (.ref r), .val (.int (1 : Int32)), .val (.int (1 : Int32)), .val (.int x0), .val (.int ((x1 + (1 : Int32)).toInt8.toInt32)), .val (.int ((x2 + (1 : Int32)).toInt8.toInt32))]) rfl ?_
          show Steps p.tables e below (T233.setTop (mkF m 257 #[.val (.int p1), .val (.int p2), .val (.int p3), .val (.int p4), .val (.int (3 : Int32)), .val (.int x0), .val (.int x1), .val (.int x2), .val (.ref b219), .val (.ref r), .val (.int (1 : Int32)), .val (.int (1 : Int32)), .val (.int x0), .val (.int ((x1 + (1 : Int32)).toInt8.toInt32)), .val (.int ((x2 + (1 : Int32)).toInt8.toInt32))] [])) _
          refine XS.aload X233.here hx rfl (hb hby at_257) rfl rfl ?_
          show Steps p.tables e below (T233.setTop (mkF m 259 #[.val (.int p1), .val (.int p2), .val (.int p3), .val (.int p4), .val (.int (3 : Int32)), .val (.int x0), .val (.int x1), .val (.int x2), .val (.ref b219), .val (.ref r), .val (.int (1 : Int32)), .val (.int (1 : Int32)), .val (.int x0), .val (.int ((x1 + (1 : Int32)).toInt8.toInt32)), .val (.int ((x2 + (1 : Int32)).toInt8.toInt32))] [(.ref r)])) _
          refine XS.iconst X233.here hx rfl (hb hby at_259) ?_
          show Steps p.tables e below (T233.setTop (mkF m 260 #[.val (.int p1), .val (.int p2), .val (.int p3), .val (.int p4), .val (.int (3 : Int32)), .val (.int x0), .val (.int x1), .val (.int x2), .val (.ref b219), .val (.ref r), .val (.int (1 : Int32)), .val (.int (1 : Int32)), .val (.int x0), .val (.int ((x1 + (1 : Int32)).toInt8.toInt32)), .val (.int ((x2 + (1 : Int32)).toInt8.toInt32))] [(.int (0 : Int32)), (.ref r)])) _
          refine own_bal X233 hx hZ rfl Vr (j := (0 : Int32)) ⟨by decide, by decide⟩ (v := (.int x0)) rfl (g := (mkF m 260 #[.val (.int p1), .val (.int p2), .val (.int p3), .val (.int p4), .val (.int (3 : Int32)), .val (.int x0), .val (.int x1), .val (.int x2), .val (.ref b219), .val (.ref r), .val (.int (1 : Int32)), .val (.int (1 : Int32)), .val (.int x0), .val (.int ((x1 + (1 : Int32)).toInt8.toInt32)), .val (.int ((x2 + (1 : Int32)).toInt8.toInt32))] [(.int (0 : Int32)), (.ref r)])) rfl rfl (hb hby at_260) _ ?_
          show Steps p.tables e below (T233.setTop (mkF m 261 #[.val (.int p1), .val (.int p2), .val (.int p3), .val (.int p4), .val (.int (3 : Int32)), .val (.int x0), .val (.int x1), .val (.int x2), .val (.ref b219), .val (.ref r), .val (.int (1 : Int32)), .val (.int (1 : Int32)), .val (.int x0), .val (.int ((x1 + (1 : Int32)).toInt8.toInt32)), .val (.int ((x2 + (1 : Int32)).toInt8.toInt32))] [(.int x0)])) _
          refine XS.iload X233.here hx rfl (hb hby at_261) rfl ?_
          show Steps p.tables e below (T233.setTop (mkF m 263 #[.val (.int p1), .val (.int p2), .val (.int p3), .val (.int p4), .val (.int (3 : Int32)), .val (.int x0), .val (.int x1), .val (.int x2), .val (.ref b219), .val (.ref r), .val (.int (1 : Int32)), .val (.int (1 : Int32)), .val (.int x0), .val (.int ((x1 + (1 : Int32)).toInt8.toInt32)), .val (.int ((x2 + (1 : Int32)).toInt8.toInt32))] [(.int x0), (.int x0)])) _
          refine XS.icmpYes X233.here hx rfl (pc0 := 263) (pc' := 268) rfl (hb hby at_263) rfl (teq rfl).1 (by decide) (by decide) ?_
          show Steps p.tables e below (T233.setTop (mkF m 268 #[.val (.int p1), .val (.int p2), .val (.int p3), .val (.int p4), .val (.int (3 : Int32)), .val (.int x0), .val (.int x1), .val (.int x2), .val (.ref b219), .val (.ref r), .val (.int (1 : Int32)), .val (.int (1 : Int32)), .val (.int x0), .val (.int ((x1 + (1 : Int32)).toInt8.toInt32)), .val (.int ((x2 + (1 : Int32)).toInt8.toInt32))] [])) _
          refine XS.iload X233.here hx rfl (hb hby at_268) rfl ?_
          show Steps p.tables e below (T233.setTop (mkF m 270 #[.val (.int p1), .val (.int p2), .val (.int p3), .val (.int p4), .val (.int (3 : Int32)), .val (.int x0), .val (.int x1), .val (.int x2), .val (.ref b219), .val (.ref r), .val (.int (1 : Int32)), .val (.int (1 : Int32)), .val (.int x0), .val (.int ((x1 + (1 : Int32)).toInt8.toInt32)), .val (.int ((x2 + (1 : Int32)).toInt8.toInt32))] [(.int (1 : Int32))])) _
          refine XS.iconst X233.here hx rfl (hb hby at_270) ?_
          show Steps p.tables e below (T233.setTop (mkF m 271 #[.val (.int p1), .val (.int p2), .val (.int p3), .val (.int p4), .val (.int (3 : Int32)), .val (.int x0), .val (.int x1), .val (.int x2), .val (.ref b219), .val (.ref r), .val (.int (1 : Int32)), .val (.int (1 : Int32)), .val (.int x0), .val (.int ((x1 + (1 : Int32)).toInt8.toInt32)), .val (.int ((x2 + (1 : Int32)).toInt8.toInt32))] [(.int (1 : Int32)), (.int (1 : Int32))])) _
          refine XS.icmpNo X233.here hx rfl (hb hby at_271) rfl (flt (by decide)).1 ?_
          show Steps p.tables e below (T233.setTop (mkF m 274 #[.val (.int p1), .val (.int p2), .val (.int p3), .val (.int p4), .val (.int (3 : Int32)), .val (.int x0), .val (.int x1), .val (.int x2), .val (.ref b219), .val (.ref r), .val (.int (1 : Int32)), .val (.int (1 : Int32)), .val (.int x0), .val (.int ((x1 + (1 : Int32)).toInt8.toInt32)), .val (.int ((x2 + (1 : Int32)).toInt8.toInt32))] [])) _
          refine XS.aload X233.here hx rfl (hb hby at_274) rfl rfl ?_
          show Steps p.tables e below (T233.setTop (mkF m 276 #[.val (.int p1), .val (.int p2), .val (.int p3), .val (.int p4), .val (.int (3 : Int32)), .val (.int x0), .val (.int x1), .val (.int x2), .val (.ref b219), .val (.ref r), .val (.int (1 : Int32)), .val (.int (1 : Int32)), .val (.int x0), .val (.int ((x1 + (1 : Int32)).toInt8.toInt32)), .val (.int ((x2 + (1 : Int32)).toInt8.toInt32))] [(.ref r)])) _
          refine XS.iconst X233.here hx rfl (hb hby at_276) ?_
          show Steps p.tables e below (T233.setTop (mkF m 277 #[.val (.int p1), .val (.int p2), .val (.int p3), .val (.int p4), .val (.int (3 : Int32)), .val (.int x0), .val (.int x1), .val (.int x2), .val (.ref b219), .val (.ref r), .val (.int (1 : Int32)), .val (.int (1 : Int32)), .val (.int x0), .val (.int ((x1 + (1 : Int32)).toInt8.toInt32)), .val (.int ((x2 + (1 : Int32)).toInt8.toInt32))] [(.int (1 : Int32)), (.ref r)])) _
          refine own_bal X233 hx hZ rfl Vr (j := (1 : Int32)) ⟨by decide, by decide⟩ (v := (.int ((x1 + (1 : Int32)).toInt8.toInt32))) rfl (g := (mkF m 277 #[.val (.int p1), .val (.int p2), .val (.int p3), .val (.int p4), .val (.int (3 : Int32)), .val (.int x0), .val (.int x1), .val (.int x2), .val (.ref b219), .val (.ref r), .val (.int (1 : Int32)), .val (.int (1 : Int32)), .val (.int x0), .val (.int ((x1 + (1 : Int32)).toInt8.toInt32)), .val (.int ((x2 + (1 : Int32)).toInt8.toInt32))] [(.int (1 : Int32)), (.ref r)])) rfl rfl (hb hby at_277) _ ?_
          show Steps p.tables e below (T233.setTop (mkF m 278 #[.val (.int p1), .val (.int p2), .val (.int p3), .val (.int p4), .val (.int (3 : Int32)), .val (.int x0), .val (.int x1), .val (.int x2), .val (.ref b219), .val (.ref r), .val (.int (1 : Int32)), .val (.int (1 : Int32)), .val (.int x0), .val (.int ((x1 + (1 : Int32)).toInt8.toInt32)), .val (.int ((x2 + (1 : Int32)).toInt8.toInt32))] [(.int ((x1 + (1 : Int32)).toInt8.toInt32))])) _
          refine XS.iload X233.here hx rfl (hb hby at_278) rfl ?_
          show Steps p.tables e below (T233.setTop (mkF m 280 #[.val (.int p1), .val (.int p2), .val (.int p3), .val (.int p4), .val (.int (3 : Int32)), .val (.int x0), .val (.int x1), .val (.int x2), .val (.ref b219), .val (.ref r), .val (.int (1 : Int32)), .val (.int (1 : Int32)), .val (.int x0), .val (.int ((x1 + (1 : Int32)).toInt8.toInt32)), .val (.int ((x2 + (1 : Int32)).toInt8.toInt32))] [(.int ((x1 + (1 : Int32)).toInt8.toInt32)), (.int ((x1 + (1 : Int32)).toInt8.toInt32))])) _
          refine XS.icmpYes X233.here hx rfl (pc0 := 280) (pc' := 285) rfl (hb hby at_280) rfl (teq rfl).1 (by decide) (by decide) ?_
          show Steps p.tables e below (T233.setTop (mkF m 285 #[.val (.int p1), .val (.int p2), .val (.int p3), .val (.int p4), .val (.int (3 : Int32)), .val (.int x0), .val (.int x1), .val (.int x2), .val (.ref b219), .val (.ref r), .val (.int (1 : Int32)), .val (.int (1 : Int32)), .val (.int x0), .val (.int ((x1 + (1 : Int32)).toInt8.toInt32)), .val (.int ((x2 + (1 : Int32)).toInt8.toInt32))] [])) _
          refine XS.iload X233.here hx rfl (hb hby at_285) rfl ?_
          show Steps p.tables e below (T233.setTop (mkF m 287 #[.val (.int p1), .val (.int p2), .val (.int p3), .val (.int p4), .val (.int (3 : Int32)), .val (.int x0), .val (.int x1), .val (.int x2), .val (.ref b219), .val (.ref r), .val (.int (1 : Int32)), .val (.int (1 : Int32)), .val (.int x0), .val (.int ((x1 + (1 : Int32)).toInt8.toInt32)), .val (.int ((x2 + (1 : Int32)).toInt8.toInt32))] [(.int (1 : Int32))])) _
          refine XS.iconst X233.here hx rfl (hb hby at_287) ?_
          show Steps p.tables e below (T233.setTop (mkF m 288 #[.val (.int p1), .val (.int p2), .val (.int p3), .val (.int p4), .val (.int (3 : Int32)), .val (.int x0), .val (.int x1), .val (.int x2), .val (.ref b219), .val (.ref r), .val (.int (1 : Int32)), .val (.int (1 : Int32)), .val (.int x0), .val (.int ((x1 + (1 : Int32)).toInt8.toInt32)), .val (.int ((x2 + (1 : Int32)).toInt8.toInt32))] [(.int (2 : Int32)), (.int (1 : Int32))])) _
          refine XS.icmpYes X233.here hx rfl (pc0 := 288) (pc' := 302) rfl (hb hby at_288) rfl (tlt (by decide)).1 (by decide) (by decide) ?_
          show Steps p.tables e below (T233.setTop (mkF m 302 #[.val (.int p1), .val (.int p2), .val (.int p3), .val (.int p4), .val (.int (3 : Int32)), .val (.int x0), .val (.int x1), .val (.int x2), .val (.ref b219), .val (.ref r), .val (.int (1 : Int32)), .val (.int (1 : Int32)), .val (.int x0), .val (.int ((x1 + (1 : Int32)).toInt8.toInt32)), .val (.int ((x2 + (1 : Int32)).toInt8.toInt32))] [])) _
          refine XS.iconst X233.here hx rfl (hb hby at_302) ?_
          exact kt
        obtain ⟨fsx, hr, hrun, hended, hW, hsame⟩ := X233.leave (v := some (.int (nar .boolean (1 : Int32)))) (fun h => by rw [Bd.returns] at h; cases h)
        refine ⟨_, _, pre236 _ ?_, hrun, hended, _, _, rfl, ?_, ⟨_, rfl⟩, hW, hsame.mono (by decide) (by decide)⟩
        · exact retN X233 hx (t := .boolean) Bd.returns (by simp) (hb hby at_303) hr
        · show Q0 Z p1 p2 p3 p4 h0 n0 _ T233.heap _
          skip
          exact ⟨rfl, Nf233⟩
    · obtain ⟨_, _, ⟨T237, L237, k237, n237⟩, -, X237, ⟨Lc237, hQ237, l237, y237, z237⟩, st237⟩ := Jvm.LawKit.callS X224 hx (y := (⟨"com/example/tessera/tessera/storage/Prefixes", "end", "([B)[B"⟩ : MethodName)) hown (mvT hZ (hw _ (List.mem_of_getElem? (i := 5) rfl))) (mvT hZ (hw _ (List.mem_of_getElem? (i := 6) rfl))) (mvT hZ (hw _ (List.mem_of_getElem? (i := 7) rfl))) (mvT hZ (hw _ (List.mem_of_getElem? (i := 8) rfl))) (by decide) (backOf (W := 0) (rmE32 l Z a0 hw [] b219 k219 x0 x1 x2 h224 n0 Z224 V224 f225  ex2) hZ (hw _ (List.mem_of_getElem? (i := 8) rfl)) (hw _ (List.mem_of_getElem? (i := 7) rfl)) (by decide) (by decide)) (g := (mkF m 66 #[.val (.int p1), .val (.int p2), .val (.int p3), .val (.int p4), .val (.int (3 : Int32)), .val (.int x0), .val (.int x1), .val (.int x2), .val (.ref b219), .unset, .unset, .unset, .unset, .unset, .unset] [(.ref b219)])) rfl (by rw [hml]; rfl) (argsL := [(.ref b219)]) (rest := []) (lenOf pd_3 rfl) rfl (by show 2 * 0 + _ ≤ _; exact Nat.le_of_eq rfl) (hb hby at_66) (fun _ _ => ⟨rfl, e224, (by decide : 1 + 1 ≤ _), (by decide : 3 + 3 ≤ _)⟩)
      dsimp only [Pt.U, Pt.locs, Pt.cells, Pt.slots] at X237 l237 y237 z237 st237 hQ237
      subst l237 y237 z237
      obtain ⟨r, kr, rfl, Nq237, Kq237, szr, Vr⟩ := hQ237
      have f238 := (f225.keep Kq237)
      have f239 := (V224.keep Kq237 nin0)
      have Z237 : n0 ≤ T237.heap.size := Nat.le_trans Z224 Kq237.1
      have K237 : Keep h0 T237.heap [] := K224.trans Kq237 all0
      have Nf237 := Fr.app Nf224 Nq237
      have pre240 : ∀ t, Steps p.tables e below (T237.setTop (mkF m 303 #[.val (.int p1), .val (.int p2), .val (.int p3), .val (.int p4), .val (.int (3 : Int32)), .val (.int x0), .val (.int x1), .val (.int x2), .val (.ref b219), .val (.ref r), .val (.int (1 : Int32)), .val (.int (2 : Int32)), .val (.int x0), .val (.int x1), .val (.int ((x2 + (1 : Int32)).toInt8.toInt32))] [(.int (1 : Int32))])) t → Steps p.tables e below (s₁.setTop (entryFrame m #[(.int p1), (.int p2), (.int p3), (.int p4)] maxLocals)) t := by
        intro t kt
        refine pre226 t ?_
        show Steps p.tables e below (T224.setTop (mkF m 66 #[.val (.int p1), .val (.int p2), .val (.int p3), .val (.int p4), .val (.int (3 : Int32)), .val (.int x0), .val (.int x1), .val (.int x2), .val (.ref b219), .unset, .unset, .unset, .unset, .unset, .unset] [(.ref b219)])) _
        refine st237 _ ?_
        show Steps p.tables e below (T237.setTop (mkF m 69 #[.val (.int p1), .val (.int p2), .val (.int p3), .val (.int p4), .val (.int (3 : Int32)), .val (.int x0), .val (.int x1), .val (.int x2), .val (.ref b219), .unset, .unset, .unset, .unset, .unset, .unset] [(.ref r)])) _
        refine XS.astore X237.here hx rfl (hb hby at_69) rfl rfl (l' := #[.val (.int p1), .val (.int p2), .val (.int p3), .val (.int p4), .val (.int (3 : Int32)), .val (.int x0), .val (.int x1), .val (.int x2), .val (.ref b219), .val (.ref r), .unset, .unset, .unset, .unset, .unset]) rfl ?_
        show Steps p.tables e below (T237.setTop (mkF m 71 #[.val (.int p1), .val (.int p2), .val (.int p3), .val (.int p4), .val (.int (3 : Int32)), .val (.int x0), .val (.int x1), .val (.int x2), .val (.ref b219), .val (.ref r), .unset, .unset, .unset, .unset, .unset] [])) _
        refine XS.iload X237.here hx rfl (hb hby at_71) rfl ?_
        show Steps p.tables e below (T237.setTop (mkF m 73 #[.val (.int p1), .val (.int p2), .val (.int p3), .val (.int p4), .val (.int (3 : Int32)), .val (.int x0), .val (.int x1), .val (.int x2), .val (.ref b219), .val (.ref r), .unset, .unset, .unset, .unset, .unset] [(.int (3 : Int32))])) _
        refine XS.ifNo X237.here hx rfl (hb hby at_73) rfl ((if0 _ _).trans (tlt (by decide)).2.2.2) ?_
        show Steps p.tables e below (T237.setTop (mkF m 76 #[.val (.int p1), .val (.int p2), .val (.int p3), .val (.int p4), .val (.int (3 : Int32)), .val (.int x0), .val (.int x1), .val (.int x2), .val (.ref b219), .val (.ref r), .unset, .unset, .unset, .unset, .unset] [])) _
        refine XS.aload X237.here hx rfl (hb hby at_76) rfl rfl ?_
        show Steps p.tables e below (T237.setTop (mkF m 78 #[.val (.int p1), .val (.int p2), .val (.int p3), .val (.int p4), .val (.int (3 : Int32)), .val (.int x0), .val (.int x1), .val (.int x2), .val (.ref b219), .val (.ref r), .unset, .unset, .unset, .unset, .unset] [(.ref b219)])) _
        refine XS.iconst X237.here hx rfl (hb hby at_78) ?_
        show Steps p.tables e below (T237.setTop (mkF m 79 #[.val (.int p1), .val (.int p2), .val (.int p3), .val (.int p4), .val (.int (3 : Int32)), .val (.int x0), .val (.int x1), .val (.int x2), .val (.ref b219), .val (.ref r), .unset, .unset, .unset, .unset, .unset] [(.int (0 : Int32)), (.ref b219)])) _
        refine own_bal X237 hx hZ rfl f239 (j := (0 : Int32)) ⟨by decide, by decide⟩ (v := (.int x0)) rfl (g := (mkF m 79 #[.val (.int p1), .val (.int p2), .val (.int p3), .val (.int p4), .val (.int (3 : Int32)), .val (.int x0), .val (.int x1), .val (.int x2), .val (.ref b219), .val (.ref r), .unset, .unset, .unset, .unset, .unset] [(.int (0 : Int32)), (.ref b219)])) rfl rfl (hb hby at_79) _ ?_
        show Steps p.tables e below (T237.setTop (mkF m 80 #[.val (.int p1), .val (.int p2), .val (.int p3), .val (.int p4), .val (.int (3 : Int32)), .val (.int x0), .val (.int x1), .val (.int x2), .val (.ref b219), .val (.ref r), .unset, .unset, .unset, .unset, .unset] [(.int x0)])) _
        refine XS.iload X237.here hx rfl (hb hby at_80) rfl ?_
        show Steps p.tables e below (T237.setTop (mkF m 82 #[.val (.int p1), .val (.int p2), .val (.int p3), .val (.int p4), .val (.int (3 : Int32)), .val (.int x0), .val (.int x1), .val (.int x2), .val (.ref b219), .val (.ref r), .unset, .unset, .unset, .unset, .unset] [(.int x0), (.int x0)])) _
        refine XS.icmpNo X237.here hx rfl (hb hby at_82) rfl (teq rfl).2 ?_
        show Steps p.tables e below (T237.setTop (mkF m 85 #[.val (.int p1), .val (.int p2), .val (.int p3), .val (.int p4), .val (.int (3 : Int32)), .val (.int x0), .val (.int x1), .val (.int x2), .val (.ref b219), .val (.ref r), .unset, .unset, .unset, .unset, .unset] [])) _
        refine XS.iload X237.here hx rfl (hb hby at_85) rfl ?_
        show Steps p.tables e below (T237.setTop (mkF m 87 #[.val (.int p1), .val (.int p2), .val (.int p3), .val (.int p4), .val (.int (3 : Int32)), .val (.int x0), .val (.int x1), .val (.int x2), .val (.ref b219), .val (.ref r), .unset, .unset, .unset, .unset, .unset] [(.int (3 : Int32))])) _
        refine XS.iconst X237.here hx rfl (hb hby at_87) ?_
        show Steps p.tables e below (T237.setTop (mkF m 88 #[.val (.int p1), .val (.int p2), .val (.int p3), .val (.int p4), .val (.int (3 : Int32)), .val (.int x0), .val (.int x1), .val (.int x2), .val (.ref b219), .val (.ref r), .unset, .unset, .unset, .unset, .unset] [(.int (1 : Int32)), (.int (3 : Int32))])) _
        refine XS.icmpNo X237.here hx rfl (hb hby at_88) rfl (tlt (by decide)).2.2.2 ?_
        show Steps p.tables e below (T237.setTop (mkF m 91 #[.val (.int p1), .val (.int p2), .val (.int p3), .val (.int p4), .val (.int (3 : Int32)), .val (.int x0), .val (.int x1), .val (.int x2), .val (.ref b219), .val (.ref r), .unset, .unset, .unset, .unset, .unset] [])) _
        refine XS.aload X237.here hx rfl (hb hby at_91) rfl rfl ?_
        show Steps p.tables e below (T237.setTop (mkF m 93 #[.val (.int p1), .val (.int p2), .val (.int p3), .val (.int p4), .val (.int (3 : Int32)), .val (.int x0), .val (.int x1), .val (.int x2), .val (.ref b219), .val (.ref r), .unset, .unset, .unset, .unset, .unset] [(.ref b219)])) _
        refine XS.iconst X237.here hx rfl (hb hby at_93) ?_
        show Steps p.tables e below (T237.setTop (mkF m 94 #[.val (.int p1), .val (.int p2), .val (.int p3), .val (.int p4), .val (.int (3 : Int32)), .val (.int x0), .val (.int x1), .val (.int x2), .val (.ref b219), .val (.ref r), .unset, .unset, .unset, .unset, .unset] [(.int (1 : Int32)), (.ref b219)])) _
        refine own_bal X237 hx hZ rfl f239 (j := (1 : Int32)) ⟨by decide, by decide⟩ (v := (.int x1)) rfl (g := (mkF m 94 #[.val (.int p1), .val (.int p2), .val (.int p3), .val (.int p4), .val (.int (3 : Int32)), .val (.int x0), .val (.int x1), .val (.int x2), .val (.ref b219), .val (.ref r), .unset, .unset, .unset, .unset, .unset] [(.int (1 : Int32)), (.ref b219)])) rfl rfl (hb hby at_94) _ ?_
        show Steps p.tables e below (T237.setTop (mkF m 95 #[.val (.int p1), .val (.int p2), .val (.int p3), .val (.int p4), .val (.int (3 : Int32)), .val (.int x0), .val (.int x1), .val (.int x2), .val (.ref b219), .val (.ref r), .unset, .unset, .unset, .unset, .unset] [(.int x1)])) _
        refine XS.iload X237.here hx rfl (hb hby at_95) rfl ?_
        show Steps p.tables e below (T237.setTop (mkF m 97 #[.val (.int p1), .val (.int p2), .val (.int p3), .val (.int p4), .val (.int (3 : Int32)), .val (.int x0), .val (.int x1), .val (.int x2), .val (.ref b219), .val (.ref r), .unset, .unset, .unset, .unset, .unset] [(.int x1), (.int x1)])) _
        refine XS.icmpNo X237.here hx rfl (hb hby at_97) rfl (teq rfl).2 ?_
        show Steps p.tables e below (T237.setTop (mkF m 100 #[.val (.int p1), .val (.int p2), .val (.int p3), .val (.int p4), .val (.int (3 : Int32)), .val (.int x0), .val (.int x1), .val (.int x2), .val (.ref b219), .val (.ref r), .unset, .unset, .unset, .unset, .unset] [])) _
        refine XS.iload X237.here hx rfl (hb hby at_100) rfl ?_
        show Steps p.tables e below (T237.setTop (mkF m 102 #[.val (.int p1), .val (.int p2), .val (.int p3), .val (.int p4), .val (.int (3 : Int32)), .val (.int x0), .val (.int x1), .val (.int x2), .val (.ref b219), .val (.ref r), .unset, .unset, .unset, .unset, .unset] [(.int (3 : Int32))])) _
        refine XS.iconst X237.here hx rfl (hb hby at_102) ?_
        show Steps p.tables e below (T237.setTop (mkF m 103 #[.val (.int p1), .val (.int p2), .val (.int p3), .val (.int p4), .val (.int (3 : Int32)), .val (.int x0), .val (.int x1), .val (.int x2), .val (.ref b219), .val (.ref r), .unset, .unset, .unset, .unset, .unset] [(.int (2 : Int32)), (.int (3 : Int32))])) _
        refine XS.icmpNo X237.here hx rfl (hb hby at_103) rfl (tlt (by decide)).2.2.2 ?_
        show Steps p.tables e below (T237.setTop (mkF m 106 #[.val (.int p1), .val (.int p2), .val (.int p3), .val (.int p4), .val (.int (3 : Int32)), .val (.int x0), .val (.int x1), .val (.int x2), .val (.ref b219), .val (.ref r), .unset, .unset, .unset, .unset, .unset] [])) _
        refine XS.aload X237.here hx rfl (hb hby at_106) rfl rfl ?_
        show Steps p.tables e below (T237.setTop (mkF m 108 #[.val (.int p1), .val (.int p2), .val (.int p3), .val (.int p4), .val (.int (3 : Int32)), .val (.int x0), .val (.int x1), .val (.int x2), .val (.ref b219), .val (.ref r), .unset, .unset, .unset, .unset, .unset] [(.ref b219)])) _
        refine XS.iconst X237.here hx rfl (hb hby at_108) ?_
        show Steps p.tables e below (T237.setTop (mkF m 109 #[.val (.int p1), .val (.int p2), .val (.int p3), .val (.int p4), .val (.int (3 : Int32)), .val (.int x0), .val (.int x1), .val (.int x2), .val (.ref b219), .val (.ref r), .unset, .unset, .unset, .unset, .unset] [(.int (2 : Int32)), (.ref b219)])) _
        refine own_bal X237 hx hZ rfl f239 (j := (2 : Int32)) ⟨by decide, by decide⟩ (v := (.int x2)) rfl (g := (mkF m 109 #[.val (.int p1), .val (.int p2), .val (.int p3), .val (.int p4), .val (.int (3 : Int32)), .val (.int x0), .val (.int x1), .val (.int x2), .val (.ref b219), .val (.ref r), .unset, .unset, .unset, .unset, .unset] [(.int (2 : Int32)), (.ref b219)])) rfl rfl (hb hby at_109) _ ?_
        show Steps p.tables e below (T237.setTop (mkF m 110 #[.val (.int p1), .val (.int p2), .val (.int p3), .val (.int p4), .val (.int (3 : Int32)), .val (.int x0), .val (.int x1), .val (.int x2), .val (.ref b219), .val (.ref r), .unset, .unset, .unset, .unset, .unset] [(.int x2)])) _
        refine XS.iload X237.here hx rfl (hb hby at_110) rfl ?_
        show Steps p.tables e below (T237.setTop (mkF m 112 #[.val (.int p1), .val (.int p2), .val (.int p3), .val (.int p4), .val (.int (3 : Int32)), .val (.int x0), .val (.int x1), .val (.int x2), .val (.ref b219), .val (.ref r), .unset, .unset, .unset, .unset, .unset] [(.int x2), (.int x2)])) _
        refine XS.icmpNo X237.here hx rfl (hb hby at_112) rfl (teq rfl).2 ?_
        show Steps p.tables e below (T237.setTop (mkF m 115 #[.val (.int p1), .val (.int p2), .val (.int p3), .val (.int p4), .val (.int (3 : Int32)), .val (.int x0), .val (.int x1), .val (.int x2), .val (.ref b219), .val (.ref r), .unset, .unset, .unset, .unset, .unset] [])) _
        refine XS.iconst X237.here hx rfl (hb hby at_115) ?_
        show Steps p.tables e below (T237.setTop (mkF m 116 #[.val (.int p1), .val (.int p2), .val (.int p3), .val (.int p4), .val (.int (3 : Int32)), .val (.int x0), .val (.int x1), .val (.int x2), .val (.ref b219), .val (.ref r), .unset, .unset, .unset, .unset, .unset] [(.int (1 : Int32))])) _
        refine XS.goto X237.here hx rfl (pc0 := 116) (pc' := 120) rfl (hb hby at_116) (by decide) (by decide) ?_
        show Steps p.tables e below (T237.setTop (mkF m 120 #[.val (.int p1), .val (.int p2), .val (.int p3), .val (.int p4), .val (.int (3 : Int32)), .val (.int x0), .val (.int x1), .val (.int x2), .val (.ref b219), .val (.ref r), .unset, .unset, .unset, .unset, .unset] [(.int (1 : Int32))])) _
        refine XS.istore X237.here hx rfl (hb hby at_120) rfl (l' := #[.val (.int p1), .val (.int p2), .val (.int p3), .val (.int p4), .val (.int (3 : Int32)), .val (.int x0), .val (.int x1), .val (.int x2), .val (.ref b219), .val (.ref r), .val (.int (1 : Int32)), .unset, .unset, .unset, .unset]) rfl ?_
        show Steps p.tables e below (T237.setTop (mkF m 122 #[.val (.int p1), .val (.int p2), .val (.int p3), .val (.int p4), .val (.int (3 : Int32)), .val (.int x0), .val (.int x1), .val (.int x2), .val (.ref b219), .val (.ref r), .val (.int (1 : Int32)), .unset, .unset, .unset, .unset] [])) _
        refine XS.iload X237.here hx rfl (hb hby at_122) rfl ?_
        show Steps p.tables e below (T237.setTop (mkF m 124 #[.val (.int p1), .val (.int p2), .val (.int p3), .val (.int p4), .val (.int (3 : Int32)), .val (.int x0), .val (.int x1), .val (.int x2), .val (.ref b219), .val (.ref r), .val (.int (1 : Int32)), .unset, .unset, .unset, .unset] [(.int (1 : Int32))])) _
        refine XS.ifYes X237.here hx rfl (pc0 := 124) (pc' := 129) rfl (hb hby at_124) rfl ((if0 _ _).trans (feq (by decide)).2) (by decide) (by decide) ?_
        show Steps p.tables e below (T237.setTop (mkF m 129 #[.val (.int p1), .val (.int p2), .val (.int p3), .val (.int p4), .val (.int (3 : Int32)), .val (.int x0), .val (.int x1), .val (.int x2), .val (.ref b219), .val (.ref r), .val (.int (1 : Int32)), .unset, .unset, .unset, .unset] [])) _
        refine XS.iconst X237.here hx rfl (hb hby at_129) ?_
        show Steps p.tables e below (T237.setTop (mkF m 130 #[.val (.int p1), .val (.int p2), .val (.int p3), .val (.int p4), .val (.int (3 : Int32)), .val (.int x0), .val (.int x1), .val (.int x2), .val (.ref b219), .val (.ref r), .val (.int (1 : Int32)), .unset, .unset, .unset, .unset] [(.int (-1 : Int32))])) _
        refine XS.istore X237.here hx rfl (hb hby at_130) rfl (l' := #[.val (.int p1), .val (.int p2), .val (.int p3), .val (.int p4), .val (.int (3 : Int32)), .val (.int x0), .val (.int x1), .val (.int x2), .val (.ref b219), .val (.ref r), .val (.int (1 : Int32)), .val (.int (-1 : Int32)), .unset, .unset, .unset]) rfl ?_
        show Steps p.tables e below (T237.setTop (mkF m 132 #[.val (.int p1), .val (.int p2), .val (.int p3), .val (.int p4), .val (.int (3 : Int32)), .val (.int x0), .val (.int x1), .val (.int x2), .val (.ref b219), .val (.ref r), .val (.int (1 : Int32)), .val (.int (-1 : Int32)), .unset, .unset, .unset] [])) _
        refine XS.iload X237.here hx rfl (hb hby at_132) rfl ?_
        show Steps p.tables e below (T237.setTop (mkF m 134 #[.val (.int p1), .val (.int p2), .val (.int p3), .val (.int p4), .val (.int (3 : Int32)), .val (.int x0), .val (.int x1), .val (.int x2), .val (.ref b219), .val (.ref r), .val (.int (1 : Int32)), .val (.int (-1 : Int32)), .unset, .unset, .unset] [(.int (3 : Int32))])) _
        refine XS.iconst X237.here hx rfl (hb hby at_134) ?_
        show Steps p.tables e below (T237.setTop (mkF m 135 #[.val (.int p1), .val (.int p2), .val (.int p3), .val (.int p4), .val (.int (3 : Int32)), .val (.int x0), .val (.int x1), .val (.int x2), .val (.ref b219), .val (.ref r), .val (.int (1 : Int32)), .val (.int (-1 : Int32)), .unset, .unset, .unset] [(.int (2 : Int32)), (.int (3 : Int32))])) _
        refine XS.icmpNo X237.here hx rfl (hb hby at_135) rfl (tlt (by decide)).2.2.2 ?_
        show Steps p.tables e below (T237.setTop (mkF m 138 #[.val (.int p1), .val (.int p2), .val (.int p3), .val (.int p4), .val (.int (3 : Int32)), .val (.int x0), .val (.int x1), .val (.int x2), .val (.ref b219), .val (.ref r), .val (.int (1 : Int32)), .val (.int (-1 : Int32)), .unset, .unset, .unset] [])) _
        refine XS.iload X237.here hx rfl (hb hby at_138) rfl ?_
        show Steps p.tables e below (T237.setTop (mkF m 140 #[.val (.int p1), .val (.int p2), .val (.int p3), .val (.int p4), .val (.int (3 : Int32)), .val (.int x0), .val (.int x1), .val (.int x2), .val (.ref b219), .val (.ref r), .val (.int (1 : Int32)), .val (.int (-1 : Int32)), .unset, .unset, .unset] [(.int x2)])) _
        refine XS.iconst X237.here hx rfl (hb hby at_140) ?_
        show Steps p.tables e below (T237.setTop (mkF m 141 #[.val (.int p1), .val (.int p2), .val (.int p3), .val (.int p4), .val (.int (3 : Int32)), .val (.int x0), .val (.int x1), .val (.int x2), .val (.ref b219), .val (.ref r), .val (.int (1 : Int32)), .val (.int (-1 : Int32)), .unset, .unset, .unset] [(.int (-1 : Int32)), (.int x2)])) _
        refine XS.icmpNo X237.here hx rfl (hb hby at_141) rfl (feq ex2).1 ?_
        show Steps p.tables e below (T237.setTop (mkF m 144 #[.val (.int p1), .val (.int p2), .val (.int p3), .val (.int p4), .val (.int (3 : Int32)), .val (.int x0), .val (.int x1), .val (.int x2), .val (.ref b219), .val (.ref r), .val (.int (1 : Int32)), .val (.int (-1 : Int32)), .unset, .unset, .unset] [])) _
        refine XS.iconst X237.here hx rfl (hb hby at_144) ?_
        show Steps p.tables e below (T237.setTop (mkF m 145 #[.val (.int p1), .val (.int p2), .val (.int p3), .val (.int p4), .val (.int (3 : Int32)), .val (.int x0), .val (.int x1), .val (.int x2), .val (.ref b219), .val (.ref r), .val (.int (1 : Int32)), .val (.int (-1 : Int32)), .unset, .unset, .unset] [(.int (2 : Int32))])) _
        refine XS.istore X237.here hx rfl (hb hby at_145) rfl (l' := #[.val (.int p1), .val (.int p2), .val (.int p3), .val (.int p4), .val (.int (3 : Int32)), .val (.int x0), .val (.int x1), .val (.int x2), .val (.ref b219), .val (.ref r), .val (.int (1 : Int32)), .val (.int (2 : Int32)), .unset, .unset, .unset]) rfl ?_
        show Steps p.tables e below (T237.setTop (mkF m 147 #[.val (.int p1), .val (.int p2), .val (.int p3), .val (.int p4), .val (.int (3 : Int32)), .val (.int x0), .val (.int x1), .val (.int x2), .val (.ref b219), .val (.ref r), .val (.int (1 : Int32)), .val (.int (2 : Int32)), .unset, .unset, .unset] [])) _
        refine XS.goto X237.here hx rfl (pc0 := 147) (pc' := 182) rfl (hb hby at_147) (by decide) (by decide) ?_
        show Steps p.tables e below (T237.setTop (mkF m 182 #[.val (.int p1), .val (.int p2), .val (.int p3), .val (.int p4), .val (.int (3 : Int32)), .val (.int x0), .val (.int x1), .val (.int x2), .val (.ref b219), .val (.ref r), .val (.int (1 : Int32)), .val (.int (2 : Int32)), .unset, .unset, .unset] [])) _
        refine XS.iload X237.here hx rfl (hb hby at_182) rfl ?_
        show Steps p.tables e below (T237.setTop (mkF m 184 #[.val (.int p1), .val (.int p2), .val (.int p3), .val (.int p4), .val (.int (3 : Int32)), .val (.int x0), .val (.int x1), .val (.int x2), .val (.ref b219), .val (.ref r), .val (.int (1 : Int32)), .val (.int (2 : Int32)), .unset, .unset, .unset] [(.int (2 : Int32))])) _
        refine XS.ifYes X237.here hx rfl (pc0 := 184) (pc' := 198) rfl (hb hby at_184) rfl ((if0 _ _).trans (flt (by decide)).2.1) (by decide) (by decide) ?_
        show Steps p.tables e below (T237.setTop (mkF m 198 #[.val (.int p1), .val (.int p2), .val (.int p3), .val (.int p4), .val (.int (3 : Int32)), .val (.int x0), .val (.int x1), .val (.int x2), .val (.ref b219), .val (.ref r), .val (.int (1 : Int32)), .val (.int (2 : Int32)), .unset, .unset, .unset] [])) _
        refine XS.aload X237.here hx rfl (hb hby at_198) rfl rfl ?_
        show Steps p.tables e below (T237.setTop (mkF m 200 #[.val (.int p1), .val (.int p2), .val (.int p3), .val (.int p4), .val (.int (3 : Int32)), .val (.int x0), .val (.int x1), .val (.int x2), .val (.ref b219), .val (.ref r), .val (.int (1 : Int32)), .val (.int (2 : Int32)), .unset, .unset, .unset] [(.ref r)])) _
        refine XS.ifnullNo X237.here hx rfl (hb hby at_200) rfl ?_
        show Steps p.tables e below (T237.setTop (mkF m 203 #[.val (.int p1), .val (.int p2), .val (.int p3), .val (.int p4), .val (.int (3 : Int32)), .val (.int x0), .val (.int x1), .val (.int x2), .val (.ref b219), .val (.ref r), .val (.int (1 : Int32)), .val (.int (2 : Int32)), .unset, .unset, .unset] [])) _
        refine XS.aload X237.here hx rfl (hb hby at_203) rfl rfl ?_
        show Steps p.tables e below (T237.setTop (mkF m 205 #[.val (.int p1), .val (.int p2), .val (.int p3), .val (.int p4), .val (.int (3 : Int32)), .val (.int x0), .val (.int x1), .val (.int x2), .val (.ref b219), .val (.ref r), .val (.int (1 : Int32)), .val (.int (2 : Int32)), .unset, .unset, .unset] [(.ref r)])) _
        refine own_len X237 hx hZ rfl Vr (g := (mkF m 205 #[.val (.int p1), .val (.int p2), .val (.int p3), .val (.int p4), .val (.int (3 : Int32)), .val (.int x0), .val (.int x1), .val (.int x2), .val (.ref b219), .val (.ref r), .val (.int (1 : Int32)), .val (.int (2 : Int32)), .unset, .unset, .unset] [(.ref r)])) rfl rfl (hb hby at_205) _ ?_
        show Steps p.tables e below (T237.setTop (mkF m 206 #[.val (.int p1), .val (.int p2), .val (.int p3), .val (.int p4), .val (.int (3 : Int32)), .val (.int x0), .val (.int x1), .val (.int x2), .val (.ref b219), .val (.ref r), .val (.int (1 : Int32)), .val (.int (2 : Int32)), .unset, .unset, .unset] [(.int (3 : Int32))])) _
        refine XS.iload X237.here hx rfl (hb hby at_206) rfl ?_
        show Steps p.tables e below (T237.setTop (mkF m 208 #[.val (.int p1), .val (.int p2), .val (.int p3), .val (.int p4), .val (.int (3 : Int32)), .val (.int x0), .val (.int x1), .val (.int x2), .val (.ref b219), .val (.ref r), .val (.int (1 : Int32)), .val (.int (2 : Int32)), .unset, .unset, .unset] [(.int (2 : Int32)), (.int (3 : Int32))])) _
        refine XS.iconst X237.here hx rfl (hb hby at_208) ?_
        show Steps p.tables e below (T237.setTop (mkF m 209 #[.val (.int p1), .val (.int p2), .val (.int p3), .val (.int p4), .val (.int (3 : Int32)), .val (.int x0), .val (.int x1), .val (.int x2), .val (.ref b219), .val (.ref r), .val (.int (1 : Int32)), .val (.int (2 : Int32)), .unset, .unset, .unset] [(.int (1 : Int32)), (.int (2 : Int32)), (.int (3 : Int32))])) _
        refine XS.iadd X237.here hx rfl (hb hby at_209) rfl ?_
        show Steps p.tables e below (T237.setTop (mkF m 210 #[.val (.int p1), .val (.int p2), .val (.int p3), .val (.int p4), .val (.int (3 : Int32)), .val (.int x0), .val (.int x1), .val (.int x2), .val (.ref b219), .val (.ref r), .val (.int (1 : Int32)), .val (.int (2 : Int32)), .unset, .unset, .unset] [(.int (3 : Int32)), (.int (3 : Int32))])) _
        refine XS.icmpYes X237.here hx rfl (pc0 := 210) (pc' := 215) rfl (hb hby at_210) rfl (teq (by decide)).1 (by decide) (by decide) ?_
        show Steps p.tables e below (T237.setTop (mkF m 215 #[.val (.int p1), .val (.int p2), .val (.int p3), .val (.int p4), .val (.int (3 : Int32)), .val (.int x0), .val (.int x1), .val (.int x2), .val (.ref b219), .val (.ref r), .val (.int (1 : Int32)), .val (.int (2 : Int32)), .unset, .unset, .unset] [])) _
        refine XS.iload X237.here hx rfl (hb hby at_215) rfl ?_
        show Steps p.tables e below (T237.setTop (mkF m 217 #[.val (.int p1), .val (.int p2), .val (.int p3), .val (.int p4), .val (.int (3 : Int32)), .val (.int x0), .val (.int x1), .val (.int x2), .val (.ref b219), .val (.ref r), .val (.int (1 : Int32)), .val (.int (2 : Int32)), .unset, .unset, .unset] [(.int (2 : Int32))])) _
        refine XS.ifYes X237.here hx rfl (pc0 := 217) (pc' := 228) rfl (hb hby at_217) rfl ((if0 _ _).trans (feq (by decide)).2) (by decide) (by decide) ?_
        show Steps p.tables e below (T237.setTop (mkF m 228 #[.val (.int p1), .val (.int p2), .val (.int p3), .val (.int p4), .val (.int (3 : Int32)), .val (.int x0), .val (.int x1), .val (.int x2), .val (.ref b219), .val (.ref r), .val (.int (1 : Int32)), .val (.int (2 : Int32)), .unset, .unset, .unset] [])) _
        refine XS.iload X237.here hx rfl (hb hby at_228) rfl ?_
        show Steps p.tables e below (T237.setTop (mkF m 230 #[.val (.int p1), .val (.int p2), .val (.int p3), .val (.int p4), .val (.int (3 : Int32)), .val (.int x0), .val (.int x1), .val (.int x2), .val (.ref b219), .val (.ref r), .val (.int (1 : Int32)), .val (.int (2 : Int32)), .unset, .unset, .unset] [(.int x0)])) _
        refine XS.istore X237.here hx rfl (hb hby at_230) rfl (l' := #[.val (.int p1), .val (.int p2), .val (.int p3), .val (.int p4), .val (.int (3 : Int32)), .val (.int x0), .val (.int x1), .val (.int x2), .val (.ref b219), .val (.ref r), .val (.int (1 : Int32)), .val (.int (2 : Int32)), .val (.int x0), .unset, .unset]) rfl ?_
        show Steps p.tables e below (T237.setTop (mkF m 232 #[.val (.int p1), .val (.int p2), .val (.int p3), .val (.int p4), .val (.int (3 : Int32)), .val (.int x0), .val (.int x1), .val (.int x2), .val (.ref b219), .val (.ref r), .val (.int (1 : Int32)), .val (.int (2 : Int32)), .val (.int x0), .unset, .unset] [])) _
        refine XS.iload X237.here hx rfl (hb hby at_232) rfl ?_
        show Steps p.tables e below (T237.setTop (mkF m 234 #[.val (.int p1), .val (.int p2), .val (.int p3), .val (.int p4), .val (.int (3 : Int32)), .val (.int x0), .val (.int x1), .val (.int x2), .val (.ref b219), .val (.ref r), .val (.int (1 : Int32)), .val (.int (2 : Int32)), .val (.int x0), .unset, .unset] [(.int (2 : Int32))])) _
        refine XS.iconst X237.here hx rfl (hb hby at_234) ?_
        show Steps p.tables e below (T237.setTop (mkF m 235 #[.val (.int p1), .val (.int p2), .val (.int p3), .val (.int p4), .val (.int (3 : Int32)), .val (.int x0), .val (.int x1), .val (.int x2), .val (.ref b219), .val (.ref r), .val (.int (1 : Int32)), .val (.int (2 : Int32)), .val (.int x0), .unset, .unset] [(.int (1 : Int32)), (.int (2 : Int32))])) _
        refine XS.icmpYes X237.here hx rfl (pc0 := 235) (pc' := 246) rfl (hb hby at_235) rfl (feq (by decide)).2 (by decide) (by decide) ?_
        show Steps p.tables e below (T237.setTop (mkF m 246 #[.val (.int p1), .val (.int p2), .val (.int p3), .val (.int p4), .val (.int (3 : Int32)), .val (.int x0), .val (.int x1), .val (.int x2), .val (.ref b219), .val (.ref r), .val (.int (1 : Int32)), .val (.int (2 : Int32)), .val (.int x0), .unset, .unset] [])) _
        refine XS.iload X237.here hx rfl (hb hby at_246) rfl ?_
        show Steps p.tables e below (T237.setTop (mkF m 248 #[.val (.int p1), .val (.int p2), .val (.int p3), .val (.int p4), .val (.int (3 : Int32)), .val (.int x0), .val (.int x1), .val (.int x2), .val (.ref b219), .val (.ref r), .val (.int (1 : Int32)), .val (.int (2 : Int32)), .val (.int x0), .unset, .unset] [(.int x1)])) _
        refine XS.istore X237.here hx rfl (hb hby at_248) rfl (l' := #[.val (.int p1), .val (.int p2), .val (.int p3), .val (.int p4), .val (.int (3 : Int32)), .val (.int x0), .val (.int x1), .val (.int x2), .val (.ref b219), .val (.ref r), .val (.int (1 : Int32)), .val (.int (2 : Int32)), .val (.int x0), .val (.int x1), .unset]) rfl ?_
        show Steps p.tables e below (T237.setTop (mkF m 250 #[.val (.int p1), .val (.int p2), .val (.int p3), .val (.int p4), .val (.int (3 : Int32)), .val (.int x0), .val (.int x1), .val (.int x2), .val (.ref b219), .val (.ref r), .val (.int (1 : Int32)), .val (.int (2 : Int32)), .val (.int x0), .val (.int x1), .unset] [])) _
        refine XS.iload X237.here hx rfl (hb hby at_250) rfl ?_
        show Steps p.tables e below (T237.setTop (mkF m 252 #[.val (.int p1), .val (.int p2), .val (.int p3), .val (.int p4), .val (.int (3 : Int32)), .val (.int x0), .val (.int x1), .val (.int x2), .val (.ref b219), .val (.ref r), .val (.int (1 : Int32)), .val (.int (2 : Int32)), .val (.int x0), .val (.int x1), .unset] [(.int x2)])) _
        refine XS.iconst X237.here hx rfl (hb hby at_252) ?_
        show Steps p.tables e below (T237.setTop (mkF m 253 #[.val (.int p1), .val (.int p2), .val (.int p3), .val (.int p4), .val (.int (3 : Int32)), .val (.int x0), .val (.int x1), .val (.int x2), .val (.ref b219), .val (.ref r), .val (.int (1 : Int32)), .val (.int (2 : Int32)), .val (.int x0), .val (.int x1), .unset] [(.int (1 : Int32)), (.int x2)])) _
        refine XS.iadd X237.here hx rfl (hb hby at_253) rfl ?_
        show Steps p.tables e below (T237.setTop (mkF m 254 #[.val (.int p1), .val (.int p2), .val (.int p3), .val (.int p4), .val (.int (3 : Int32)), .val (.int x0), .val (.int x1), .val (.int x2), .val (.ref b219), .val (.ref r), .val (.int (1 : Int32)), .val (.int (2 : Int32)), .val (.int x0), .val (.int x1), .unset] [(.int (x2 + (1 : Int32)))])) _
        refine XS.i2b X237.here hx rfl (hb hby at_254) rfl ?_
        show Steps p.tables e below (T237.setTop (mkF m 255 #[.val (.int p1), .val (.int p2), .val (.int p3), .val (.int p4), .val (.int (3 : Int32)), .val (.int x0), .val (.int x1), .val (.int x2), .val (.ref b219), .val (.ref r), .val (.int (1 : Int32)), .val (.int (2 : Int32)), .val (.int x0), .val (.int x1), .unset] [(.int ((x2 + (1 : Int32)).toInt8.toInt32))])) _
        refine XS.istore X237.here hx rfl (hb hby at_255) rfl (l' := #[.val (.int p1), .val (.int p2), .val (.int p3), .val (.int p4), .val (.int (3 : Int32)), .val (.int x0), .val (.int x1), .val (.int x2), .val (.ref b219), .val (.ref r), .val (.int (1 : Int32)), .val (.int (2 : Int32)), .val (.int x0), .val (.int x1), .val (.int ((x2 + (1 : Int32)).toInt8.toInt32))]) rfl ?_
        show Steps p.tables e below (T237.setTop (mkF m 257 #[.val (.int p1), .val (.int p2), .val (.int p3), .val (.int p4), .val (.int (3 : Int32)), .val (.int x0), .val (.int x1), .val (.int x2), .val (.ref b219), .val (.ref r), .val (.int (1 : Int32)), .val (.int (2 : Int32)), .val (.int x0), .val (.int x1), .val (.int ((x2 + (1 : Int32)).toInt8.toInt32))] [])) _
        refine XS.aload X237.here hx rfl (hb hby at_257) rfl rfl ?_
        show Steps p.tables e below (T237.setTop (mkF m 259 #[.val (.int p1), .val (.int p2), .val (.int p3), .val (.int p4), .val (.int (3 : Int32)), .val (.int x0), .val (.int x1), .val (.int x2), .val (.ref b219), .val (.ref r), .val (.int (1 : Int32)), .val (.int (2 : Int32)), .val (.int x0), .val (.int x1), .val (.int ((x2 + (1 : Int32)).toInt8.toInt32))] [(.ref r)])) _
        refine XS.iconst X237.here hx rfl (hb hby at_259) ?_
        show Steps p.tables e below (T237.setTop (mkF m 260 #[.val (.int p1), .val (.int p2), .val (.int p3), .val (.int p4), .val (.int (3 : Int32)), .val (.int x0), .val (.int x1), .val (.int x2), .val (.ref b219), .val (.ref r), .val (.int (1 : Int32)), .val (.int (2 : Int32)), .val (.int x0), .val (.int x1), .val (.int ((x2 + (1 : Int32)).toInt8.toInt32))] [(.int (0 : Int32)), (.ref r)])) _
        refine own_bal X237 hx hZ rfl Vr (j := (0 : Int32)) ⟨by decide, by decide⟩ (v := (.int x0)) rfl (g := (mkF m 260 #[.val (.int p1), .val (.int p2), .val (.int p3), .val (.int p4), .val (.int (3 : Int32)), .val (.int x0), .val (.int x1), .val (.int x2), .val (.ref b219), .val (.ref r), .val (.int (1 : Int32)), .val (.int (2 : Int32)), .val (.int x0), .val (.int x1), .val (.int ((x2 + (1 : Int32)).toInt8.toInt32))] [(.int (0 : Int32)), (.ref r)])) rfl rfl (hb hby at_260) _ ?_
        show Steps p.tables e below (T237.setTop (mkF m 261 #[.val (.int p1), .val (.int p2), .val (.int p3), .val (.int p4), .val (.int (3 : Int32)), .val (.int x0), .val (.int x1), .val (.int x2), .val (.ref b219), .val (.ref r), .val (.int (1 : Int32)), .val (.int (2 : Int32)), .val (.int x0), .val (.int x1), .val (.int ((x2 + (1 : Int32)).toInt8.toInt32))] [(.int x0)])) _
        refine XS.iload X237.here hx rfl (hb hby at_261) rfl ?_
        show Steps p.tables e below (T237.setTop (mkF m 263 #[.val (.int p1), .val (.int p2), .val (.int p3), .val (.int p4), .val (.int (3 : Int32)), .val (.int x0), .val (.int x1), .val (.int x2), .val (.ref b219), .val (.ref r), .val (.int (1 : Int32)), .val (.int (2 : Int32)), .val (.int x0), .val (.int x1), .val (.int ((x2 + (1 : Int32)).toInt8.toInt32))] [(.int x0), (.int x0)])) _
        refine XS.icmpYes X237.here hx rfl (pc0 := 263) (pc' := 268) rfl (hb hby at_263) rfl (teq rfl).1 (by decide) (by decide) ?_
        show Steps p.tables e below (T237.setTop (mkF m 268 #[.val (.int p1), .val (.int p2), .val (.int p3), .val (.int p4), .val (.int (3 : Int32)), .val (.int x0), .val (.int x1), .val (.int x2), .val (.ref b219), .val (.ref r), .val (.int (1 : Int32)), .val (.int (2 : Int32)), .val (.int x0), .val (.int x1), .val (.int ((x2 + (1 : Int32)).toInt8.toInt32))] [])) _
        refine XS.iload X237.here hx rfl (hb hby at_268) rfl ?_
        show Steps p.tables e below (T237.setTop (mkF m 270 #[.val (.int p1), .val (.int p2), .val (.int p3), .val (.int p4), .val (.int (3 : Int32)), .val (.int x0), .val (.int x1), .val (.int x2), .val (.ref b219), .val (.ref r), .val (.int (1 : Int32)), .val (.int (2 : Int32)), .val (.int x0), .val (.int x1), .val (.int ((x2 + (1 : Int32)).toInt8.toInt32))] [(.int (2 : Int32))])) _
        refine XS.iconst X237.here hx rfl (hb hby at_270) ?_
        show Steps p.tables e below (T237.setTop (mkF m 271 #[.val (.int p1), .val (.int p2), .val (.int p3), .val (.int p4), .val (.int (3 : Int32)), .val (.int x0), .val (.int x1), .val (.int x2), .val (.ref b219), .val (.ref r), .val (.int (1 : Int32)), .val (.int (2 : Int32)), .val (.int x0), .val (.int x1), .val (.int ((x2 + (1 : Int32)).toInt8.toInt32))] [(.int (1 : Int32)), (.int (2 : Int32))])) _
        refine XS.icmpNo X237.here hx rfl (hb hby at_271) rfl (flt (by decide)).1 ?_
        show Steps p.tables e below (T237.setTop (mkF m 274 #[.val (.int p1), .val (.int p2), .val (.int p3), .val (.int p4), .val (.int (3 : Int32)), .val (.int x0), .val (.int x1), .val (.int x2), .val (.ref b219), .val (.ref r), .val (.int (1 : Int32)), .val (.int (2 : Int32)), .val (.int x0), .val (.int x1), .val (.int ((x2 + (1 : Int32)).toInt8.toInt32))] [])) _
        refine XS.aload X237.here hx rfl (hb hby at_274) rfl rfl ?_
        show Steps p.tables e below (T237.setTop (mkF m 276 #[.val (.int p1), .val (.int p2), .val (.int p3), .val (.int p4), .val (.int (3 : Int32)), .val (.int x0), .val (.int x1), .val (.int x2), .val (.ref b219), .val (.ref r), .val (.int (1 : Int32)), .val (.int (2 : Int32)), .val (.int x0), .val (.int x1), .val (.int ((x2 + (1 : Int32)).toInt8.toInt32))] [(.ref r)])) _
        refine XS.iconst X237.here hx rfl (hb hby at_276) ?_
        show Steps p.tables e below (T237.setTop (mkF m 277 #[.val (.int p1), .val (.int p2), .val (.int p3), .val (.int p4), .val (.int (3 : Int32)), .val (.int x0), .val (.int x1), .val (.int x2), .val (.ref b219), .val (.ref r), .val (.int (1 : Int32)), .val (.int (2 : Int32)), .val (.int x0), .val (.int x1), .val (.int ((x2 + (1 : Int32)).toInt8.toInt32))] [(.int (1 : Int32)), (.ref r)])) _
        refine own_bal X237 hx hZ rfl Vr (j := (1 : Int32)) ⟨by decide, by decide⟩ (v := (.int x1)) rfl (g := (mkF m 277 #[.val (.int p1), .val (.int p2), .val (.int p3), .val (.int p4), .val (.int (3 : Int32)), .val (.int x0), .val (.int x1), .val (.int x2), .val (.ref b219), .val (.ref r), .val (.int (1 : Int32)), .val (.int (2 : Int32)), .val (.int x0), .val (.int x1), .val (.int ((x2 + (1 : Int32)).toInt8.toInt32))] [(.int (1 : Int32)), (.ref r)])) rfl rfl (hb hby at_277) _ ?_
        show Steps p.tables e below (T237.setTop (mkF m 278 #[.val (.int p1), .val (.int p2), .val (.int p3), .val (.int p4), .val (.int (3 : Int32)), .val (.int x0), .val (.int x1), .val (.int x2), .val (.ref b219), .val (.ref r), .val (.int (1 : Int32)), .val (.int (2 : Int32)), .val (.int x0), .val (.int x1), .val (.int ((x2 + (1 : Int32)).toInt8.toInt32))] [(.int x1)])) _
        refine XS.iload X237.here hx rfl (hb hby at_278) rfl ?_
        show Steps p.tables e below (T237.setTop (mkF m 280 #[.val (.int p1), .val (.int p2), .val (.int p3), .val (.int p4), .val (.int (3 : Int32)), .val (.int x0), .val (.int x1), .val (.int x2), .val (.ref b219), .val (.ref r), .val (.int (1 : Int32)), .val (.int (2 : Int32)), .val (.int x0), .val (.int x1), .val (.int ((x2 + (1 : Int32)).toInt8.toInt32))] [(.int x1), (.int x1)])) _
        refine XS.icmpYes X237.here hx rfl (pc0 := 280) (pc' := 285) rfl (hb hby at_280) rfl (teq rfl).1 (by decide) (by decide) ?_
        show Steps p.tables e below (T237.setTop (mkF m 285 #[.val (.int p1), .val (.int p2), .val (.int p3), .val (.int p4), .val (.int (3 : Int32)), .val (.int x0), .val (.int x1), .val (.int x2), .val (.ref b219), .val (.ref r), .val (.int (1 : Int32)), .val (.int (2 : Int32)), .val (.int x0), .val (.int x1), .val (.int ((x2 + (1 : Int32)).toInt8.toInt32))] [])) _
        refine XS.iload X237.here hx rfl (hb hby at_285) rfl ?_
        show Steps p.tables e below (T237.setTop (mkF m 287 #[.val (.int p1), .val (.int p2), .val (.int p3), .val (.int p4), .val (.int (3 : Int32)), .val (.int x0), .val (.int x1), .val (.int x2), .val (.ref b219), .val (.ref r), .val (.int (1 : Int32)), .val (.int (2 : Int32)), .val (.int x0), .val (.int x1), .val (.int ((x2 + (1 : Int32)).toInt8.toInt32))] [(.int (2 : Int32))])) _
        refine XS.iconst X237.here hx rfl (hb hby at_287) ?_
        show Steps p.tables e below (T237.setTop (mkF m 288 #[.val (.int p1), .val (.int p2), .val (.int p3), .val (.int p4), .val (.int (3 : Int32)), .val (.int x0), .val (.int x1), .val (.int x2), .val (.ref b219), .val (.ref r), .val (.int (1 : Int32)), .val (.int (2 : Int32)), .val (.int x0), .val (.int x1), .val (.int ((x2 + (1 : Int32)).toInt8.toInt32))] [(.int (2 : Int32)), (.int (2 : Int32))])) _
        refine XS.icmpNo X237.here hx rfl (hb hby at_288) rfl (flt (by decide)).1 ?_
        show Steps p.tables e below (T237.setTop (mkF m 291 #[.val (.int p1), .val (.int p2), .val (.int p3), .val (.int p4), .val (.int (3 : Int32)), .val (.int x0), .val (.int x1), .val (.int x2), .val (.ref b219), .val (.ref r), .val (.int (1 : Int32)), .val (.int (2 : Int32)), .val (.int x0), .val (.int x1), .val (.int ((x2 + (1 : Int32)).toInt8.toInt32))] [])) _
        refine XS.aload X237.here hx rfl (hb hby at_291) rfl rfl ?_
        show Steps p.tables e below (T237.setTop (mkF m 293 #[.val (.int p1), .val (.int p2), .val (.int p3), .val (.int p4), .val (.int (3 : Int32)), .val (.int x0), .val (.int x1), .val (.int x2), .val (.ref b219), .val (.ref r), .val (.int (1 : Int32)), .val (.int (2 : Int32)), .val (.int x0), .val (.int x1), .val (.int ((x2 + (1 : Int32)).toInt8.toInt32))] [(.ref r)])) _
        refine XS.iconst X237.here hx rfl (hb hby at_293) ?_
        show Steps p.tables e below (T237.setTop (mkF m 294 #[.val (.int p1), .val (.int p2), .val (.int p3), .val (.int p4), .val (.int (3 : Int32)), .val (.int x0), .val (.int x1), .val (.int x2), .val (.ref b219), .val (.ref r), .val (.int (1 : Int32)), .val (.int (2 : Int32)), .val (.int x0), .val (.int x1), .val (.int ((x2 + (1 : Int32)).toInt8.toInt32))] [(.int (2 : Int32)), (.ref r)])) _
        refine own_bal X237 hx hZ rfl Vr (j := (2 : Int32)) ⟨by decide, by decide⟩ (v := (.int ((x2 + (1 : Int32)).toInt8.toInt32))) rfl (g := (mkF m 294 #[.val (.int p1), .val (.int p2), .val (.int p3), .val (.int p4), .val (.int (3 : Int32)), .val (.int x0), .val (.int x1), .val (.int x2), .val (.ref b219), .val (.ref r), .val (.int (1 : Int32)), .val (.int (2 : Int32)), .val (.int x0), .val (.int x1), .val (.int ((x2 + (1 : Int32)).toInt8.toInt32))] [(.int (2 : Int32)), (.ref r)])) rfl rfl (hb hby at_294) _ ?_
        show Steps p.tables e below (T237.setTop (mkF m 295 #[.val (.int p1), .val (.int p2), .val (.int p3), .val (.int p4), .val (.int (3 : Int32)), .val (.int x0), .val (.int x1), .val (.int x2), .val (.ref b219), .val (.ref r), .val (.int (1 : Int32)), .val (.int (2 : Int32)), .val (.int x0), .val (.int x1), .val (.int ((x2 + (1 : Int32)).toInt8.toInt32))] [(.int ((x2 + (1 : Int32)).toInt8.toInt32))])) _
        refine XS.iload X237.here hx rfl (hb hby at_295) rfl ?_
        show Steps p.tables e below (T237.setTop (mkF m 297 #[.val (.int p1), .val (.int p2), .val (.int p3), .val (.int p4), .val (.int (3 : Int32)), .val (.int x0), .val (.int x1), .val (.int x2), .val (.ref b219), .val (.ref r), .val (.int (1 : Int32)), .val (.int (2 : Int32)), .val (.int x0), .val (.int x1), .val (.int ((x2 + (1 : Int32)).toInt8.toInt32))] [(.int ((x2 + (1 : Int32)).toInt8.toInt32)), (.int ((x2 + (1 : Int32)).toInt8.toInt32))])) _
        refine XS.icmpYes X237.here hx rfl (pc0 := 297) (pc' := 302) rfl (hb hby at_297) rfl (teq rfl).1 (by decide) (by decide) ?_
        show Steps p.tables e below (T237.setTop (mkF m 302 #[.val (.int p1), .val (.int p2), .val (.int p3), .val (.int p4), .val (.int (3 : Int32)), .val (.int x0), .val (.int x1), .val (.int x2), .val (.ref b219), .val (.ref r), .val (.int (1 : Int32)), .val (.int (2 : Int32)), .val (.int x0), .val (.int x1), .val (.int ((x2 + (1 : Int32)).toInt8.toInt32))] [])) _
        refine XS.iconst X237.here hx rfl (hb hby at_302) ?_
        exact kt
      obtain ⟨fsx, hr, hrun, hended, hW, hsame⟩ := X237.leave (v := some (.int (nar .boolean (1 : Int32)))) (fun h => by rw [Bd.returns] at h; cases h)
      refine ⟨_, _, pre240 _ ?_, hrun, hended, _, _, rfl, ?_, ⟨_, rfl⟩, hW, hsame.mono (by decide) (by decide)⟩
      · exact retN X237 hx (t := .boolean) Bd.returns (by simp) (hb hby at_303) hr
      · show Q0 Z p1 p2 p3 p4 h0 n0 _ T237.heap _
        skip
        exact ⟨rfl, Nf237⟩
set_option maxRecDepth 65536 in
set_option maxHeartbeats 40000000 in
theorem comes_1 {Post : Tables → Env → Array Value → State → Outcome → State → Prop} (hpost : ∀ tb e args s v u, (limb_1_1.after args s (.returned v) u = true ∧ limb_1_2.after args s (.returned v) u = true ∧ True) → FrameEnd s (.returned v) u (Jvm.fieldLocs frame_1_writes args s ++ Jvm.arrayLocs frame_1_arrays args s ++ Jvm.staticLocs frame_1_statics s) 16 128 → Post tb e args s (.returned v) u) :
    ArmFor flags0 classFile x code maxLocals ret World_1 tables_1 room_1 Calls_1 rest_1 Pre_1 Post := by
  intro l hfl _ _ p e ha hc hk s m args below hf hA hF happ hP
  obtain ⟨hcalls, hrest, hpre⟩ := hP
  obtain ⟨-, -, -, hnamed, -, -, -, hat⟩ := (Spec.applies_iff hf).mp happ
  obtain ⟨hg, hn⟩ := and_e (Cond.before_iff.mp (show (Jvm.Cond.and given_1 narrow_1).before args s = true from hpre))
  obtain ⟨gc, gr0⟩ := and_e hg
  obtain ⟨ga0, gr1⟩ := and_e gr0
  obtain ⟨ga1, gr2⟩ := and_e gr1
  obtain ⟨ga2, gr3⟩ := and_e gr2
  obtain ⟨w0, w1, w2, w3, rfl⟩ : ∃ w0 w1 w2 w3 : Value, args = #[w0, w1, w2, w3] := by
    have hs : args.size = 4 := by simpa [Cond.value, given_1] using gc
    obtain ⟨L⟩ := args
    match L, hs with
    | [w0, w1, w2, w3], _ => exact ⟨w0, w1, w2, w3, rfl⟩
  have hw := fun d (hd : d ∈ tables_1) => atoms_spec (ws := Jvm.Cond.code x code maxLocals ret :: tables_1) hat d (List.mem_cons_of_mem _ hd)
  have hfit : Fit s := fun {y c} hc i hi => by
    obtain ⟨ha, rfl⟩ := Array.getElem?_eq_some_iff.mp hc
    have q := List.all_eq_true.mp ((Array.all_eq_true_iff_forall_mem.mp hF) _ (Array.getElem_mem ha)) i (List.mem_range.mpr hi)
    simpa [Array.getElem?_eq_getElem hi] using q
  obtain ⟨i0, ei0⟩ := is_v ga0
  obtain rfl : w0 = (.int i0) := Option.some.inj ei0
  obtain ⟨i1, ei1⟩ := is_v ga1
  obtain rfl : w1 = (.int i1) := Option.some.inj ei1
  obtain ⟨i2, ei2⟩ := is_v ga2
  obtain rfl : w2 = (.int i2) := Option.some.inj ei2
  obtain ⟨i3, ei3⟩ := is_v gr3
  obtain rfl : w3 = (.int i3) := Option.some.inj ei3
  obtain ⟨n, o, h1, h2, h3, _, L, rfl, ⟨rfl, N⟩, hq⟩ := rm0 l s _ hw tables_1 i0 i1 i2 i3 s.heap s.heap.size (Nat.le_refl _)  p e ha hc hk s m _ below hf ((Spec.applies_iff_loose hf).mp happ).1 ⟨rfl, State.Warmed39.refl s, rfl⟩ trivial
  refine ⟨n, _, h1, h2, h3, hpost _ _ _ _ _ _ ⟨Cond.after_iff.mpr rfl, Cond.after_iff.mpr (eq_i res_at (Term.int_eval (1)) rfl), trivial⟩ ⟨hq.1, hq.2.1, (hq.2.2.sift fun y hy => Or.inr (N y hy)).mono (by decide) (by decide)⟩⟩
theorem main_1_1 : Claimed_1_1 := comes_1 fun _ _ _ _ _ _ h hF => ⟨h.1, hF⟩
theorem main_1_2 : Claimed_1_2 := comes_1 fun _ _ _ _ _ _ h hF => ⟨h.2.1, hF⟩
end Jvm.Pilot.@@N@@
namespace Jvm.Pilot.@@N@@
open Jvm Jvm.ClassFile Sem Op Lib Jvm.Free Jvm.Stand Jvm.Pilot.@@N@@.Jvm.D
/-! MADE BY PROGRAM (witnessworld.py) out of the Statement's table words and the real class files: 12 classes; the members and pool entries that the words name. The judged class is class 1, her method 2. -/
namespace start1
open Jvm.ClassFile
def u (s : String) : CpInfo := .utf8 (stringToUtf16 s)
/-- a pool by its gaps: so many unusable entries, then the entry; so many at the end -/
def gap : Nat → List CpInfo → List CpInfo
  | 0, r => r
  | n + 1, r => .unusable :: gap n r
def poolList (es : List (Nat × CpInfo)) (last : Nat) : List CpInfo := es.foldr (fun e r => gap e.1 (e.2 :: r)) (gap last [])
def pool (es : List (Nat × CpInfo)) (last : Nat) : Array CpInfo := ⟨poolList es last⟩
def fileOf (pool : Array CpInfo) (this : Nat) (attrs : Array Attribute := #[]) (ms : Array MethodInfo := #[]) (fl : Nat := 33) (sup : Nat := 0) (ifs : Array Nat := #[]) (fds : Array FieldInfo := #[]) : ClassFile where
  minorVersion := 0
  majorVersion := 65
  constantPool := pool
  accessFlags := fl
  thisClass := this
  superClass := sup
  interfaces := ifs
  fields := fds
  methods := ms
  attributes := attrs
def plain (name : String) (sup : Option ClassId) : Class where
  name := name
  kind := .ordinary
  loader := none
  accessFlags := 33
  super := sup
  interfaces := #[]
  cf := none
  fields := #[]
  methods := #[]
  instanceTypes := #[]
  staticTypes := #[]
  resolved := #[]
  callSites := []
  init := .initialized
  statics := none
  mirror := none

def pool0 : Array CpInfo := pool [(5, u "<init>"), (0, u "()V"), (1, .class_ 10), (1, u "java/lang/Object"), (85, u "clone"), (0, u "()Ljava/lang/Object;")] 26

def k0m0 : Method := { name := "<init>", desc := "()V", sig := { parameters := [], returnType := none }, accessFlags := 1, code := none }
def k0m1 : Method := { name := "clone", desc := "()Ljava/lang/Object;", sig := { parameters := [], returnType := some (.object "java/lang/Object") }, accessFlags := 260, code := none }
/-- java/lang/Object -/
def k0 : Class := { plain "java/lang/Object" none with
  accessFlags := 33
  interfaces := #[]
  cf := some (fileOf pool0 8 #[] #[{ accessFlags := 1, nameIndex := 5, descriptorIndex := 6, attributes := #[] }, { accessFlags := 260, nameIndex := 96, descriptorIndex := 97, attributes := #[] }] 33 0 #[] #[])
  fields := #[]
  methods := #[k0m0, k0m1]
  instanceTypes := #[]
  staticTypes := #[]
  resolved := Array.replicate 124 none
  statics := none }

def pool1 : Array CpInfo := pool [(2, .class_ 4), (1, u "java/lang/Object"), (0, u "<init>"), (0, u "()V"), (0, .methodref 8 9), (0, .class_ 10), (0, .nameAndType 11 12), (0, u "com/example/tessera/tessera/storage/PrefixesEndPinLaw"), (0, u "draw"), (0, u "(I)B"), (0, .methodref 14 15), (0, .class_ 16), (0, .nameAndType 17 18), (0, u "com/example/tessera/tessera/storage/Prefixes"), (0, u "end"), (0, u "([B)[B"), (3, u "law"), (0, u "(IIII)Z")] 4

def k1m0 : Method := { name := "<init>", desc := "()V", sig := { parameters := [], returnType := none }, accessFlags := 1, code := none }
def k1c1 : Code := { maxStack := 2, maxLocals := 1, code := method_2_code, exceptionTable := #[], attributes := #[] }
def k1m1 : Method := { name := "draw", desc := "(I)B", sig := { parameters := [.int], returnType := some .byte }, accessFlags := 10, code := some k1c1 }
def k1c2 : Code := { maxStack := 3, maxLocals := 15, code := code, exceptionTable := #[], attributes := #[] }
def k1m2 : Method := { name := "law", desc := "(IIII)Z", sig := { parameters := [.int, .int, .int, .int], returnType := some .boolean }, accessFlags := 9, code := some k1c2 }
/-- com/example/tessera/tessera/storage/PrefixesEndPinLaw -/
def k1 : Class := { plain "com/example/tessera/tessera/storage/PrefixesEndPinLaw" (some 0) with
  accessFlags := 49
  interfaces := #[]
  cf := some (fileOf pool1 8 #[] #[{ accessFlags := 1, nameIndex := 5, descriptorIndex := 6, attributes := #[] }, { accessFlags := 10, nameIndex := 11, descriptorIndex := 12, attributes := #[] }, { accessFlags := 9, nameIndex := 22, descriptorIndex := 23, attributes := #[] }] 49 2 #[] #[])
  fields := #[]
  methods := #[k1m0, k1m1, k1m2]
  instanceTypes := #[]
  staticTypes := #[]
  resolved := Array.replicate 28 none
  statics := none }

def pool2 : Array CpInfo := pool [(2, .class_ 4), (1, u "java/lang/Object"), (0, u "<init>"), (0, u "()V"), (1, .class_ 10), (1, u "java/util/Arrays"), (2, .methodref 8 14), (0, .nameAndType 15 16), (0, u "copyOf"), (0, u "([BI)[B"), (0, .class_ 18), (0, u "com/example/tessera/tessera/storage/Prefixes"), (5, u "end"), (0, u "([B)[B")] 2

def k2m0 : Method := { name := "<init>", desc := "()V", sig := { parameters := [], returnType := none }, accessFlags := 2, code := none }
def k2c1 : Code := { maxStack := 4, maxLocals := 3, code := prog_82_method_3_code, exceptionTable := #[], attributes := #[] }
def k2m1 : Method := { name := "end", desc := "([B)[B", sig := { parameters := [(.array .byte)], returnType := some (.array .byte) }, accessFlags := 8, code := some k2c1 }
/-- com/example/tessera/tessera/storage/Prefixes -/
def k2 : Class := { plain "com/example/tessera/tessera/storage/Prefixes" (some 0) with
  accessFlags := 48
  interfaces := #[]
  cf := some (fileOf pool2 17 #[] #[{ accessFlags := 2, nameIndex := 5, descriptorIndex := 6, attributes := #[] }, { accessFlags := 8, nameIndex := 24, descriptorIndex := 25, attributes := #[] }] 48 2 #[] #[])
  fields := #[]
  methods := #[k2m0, k2m1]
  instanceTypes := #[]
  staticTypes := #[]
  resolved := Array.replicate 28 none
  statics := none }

def pool3 : Array CpInfo := pool [(2, .class_ 4), (1, u "java/lang/Object"), (0, u "<init>"), (0, u "()V"), (7, .class_ 16), (1, u "java/util/Arrays"), (57, .class_ 76), (1, u "java/util/Arrays$NaturalOrder"), (32, u "()Ljava/lang/Object;"), (3, .class_ 115), (1, u "java/util/Arrays$LegacyMergeSort"), (1, u "Z"), (10, .nameAndType 129 109), (0, u "clone"), (20, .methodref 151 152), (0, .class_ 153), (0, .nameAndType 154 155), (0, u "java/lang/System"), (0, u "arraycopy"), (0, u "(Ljava/lang/Object;ILjava/lang/Object;II)V"), (146, u "copyOf"), (1, .methodref 305 306), (0, .class_ 307), (0, .nameAndType 308 309), (0, u "java/lang/Math"), (0, u "min"), (0, u "(II)I"), (0, .methodref 311 128), (0, .class_ 312), (0, u "[B"), (62, .class_ 376), (0, u "java/util/Arrays$ArrayList"), (68, u "$assertionsDisabled"), (269, u "MIN_ARRAY_SORT_GRAN"), (0, u "I"), (2, u "INSERTIONSORT_THRESHOLD"), (149, u "([BI)[B"), (105, .class_ 976), (0, u "java/util/Arrays$ArrayItr")] 52

def k3m0 : Method := { name := "<init>", desc := "()V", sig := { parameters := [], returnType := none }, accessFlags := 2, code := none }
def k3c1 : Code := { maxStack := 6, maxLocals := 3, code := jdk_65_method_121_code, exceptionTable := #[], attributes := #[] }
def k3m1 : Method := { name := "copyOf", desc := "([BI)[B", sig := { parameters := [(.array .byte), .int], returnType := some (.array .byte) }, accessFlags := 9, code := some k3c1 }
/-- java/util/Arrays -/
def k3 : Class := { plain "java/util/Arrays" (some 0) with
  accessFlags := 49
  interfaces := #[]
  cf := some (fileOf pool3 14 #[.nestMembers #[975, 375, 113, 74]] #[{ accessFlags := 2, nameIndex := 5, descriptorIndex := 6, attributes := #[] }, { accessFlags := 9, nameIndex := 302, descriptorIndex := 869, attributes := #[] }] 49 2 #[] #[{ accessFlags := 26, nameIndex := 715, descriptorIndex := 716, attributes := #[] }, { accessFlags := 26, nameIndex := 719, descriptorIndex := 716, attributes := #[] }, { accessFlags := 4120, nameIndex := 445, descriptorIndex := 117, attributes := #[] }])
  fields := #[{ name := "MIN_ARRAY_SORT_GRAN", type := .int, accessFlags := 26, slot := 0, constantValue := 0 }, { name := "INSERTIONSORT_THRESHOLD", type := .int, accessFlags := 26, slot := 1, constantValue := 0 }, { name := "$assertionsDisabled", type := .boolean, accessFlags := 4120, slot := 2, constantValue := 0 }]
  methods := #[k3m0, k3m1]
  instanceTypes := #[]
  staticTypes := #[.int, .int, .boolean]
  resolved := Array.replicate 1029 none
  statics := none }

def pool4 : Array CpInfo := pool [(1, .class_ 2), (0, u "java/lang/Cloneable"), (0, .class_ 4), (0, u "java/lang/Object")] 2

/-- java/lang/Cloneable -/
def k4 : Class := { plain "java/lang/Cloneable" (some 0) with
  accessFlags := 1537
  interfaces := #[]
  cf := some (fileOf pool4 1 #[] #[] 1537 3 #[] #[])
  fields := #[]
  methods := #[]
  instanceTypes := #[]
  staticTypes := #[]
  resolved := Array.replicate 7 none
  statics := none }

def pool5 : Array CpInfo := pool [(1, .class_ 2), (0, u "java/lang/Math"), (1, .class_ 6), (1, u "java/lang/Object"), (0, u "<init>"), (0, u "()V"), (89, .class_ 100), (1, u "java/lang/Math$RandomNumberGeneratorHolder"), (71, u "negativeZeroFloatBits"), (0, u "J"), (2, u "negativeZeroDoubleBits"), (24, u "min"), (43, u "$assertionsDisabled"), (0, u "Z"), (88, u "(II)I"), (2, u "twoToTheDoubleScaleDown"), (0, u "D"), (4, u "twoToTheDoubleScaleUp"), (9, u "E"), (3, u "PI"), (2, u "TAU"), (2, u "DEGREES_TO_RADIANS"), (0, u "RADIANS_TO_DEGREES")] 94

def k5m0 : Method := { name := "<init>", desc := "()V", sig := { parameters := [], returnType := none }, accessFlags := 2, code := none }
def k5c1 : Code := { maxStack := 2, maxLocals := 2, code := jdk_29_method_69_code, exceptionTable := #[], attributes := #[] }
def k5m1 : Method := { name := "min", desc := "(II)I", sig := { parameters := [.int, .int], returnType := some .int }, accessFlags := 9, code := some k5c1 }
/-- java/lang/Math -/
def k5 : Class := { plain "java/lang/Math" (some 0) with
  accessFlags := 49
  interfaces := #[]
  cf := some (fileOf pool5 1 #[.nestMembers #[98]] #[{ accessFlags := 2, nameIndex := 7, descriptorIndex := 8, attributes := #[] }, { accessFlags := 9, nameIndex := 201, descriptorIndex := 335, attributes := #[] }] 49 4 #[] #[{ accessFlags := 25, nameIndex := 354, descriptorIndex := 339, attributes := #[] }, { accessFlags := 25, nameIndex := 358, descriptorIndex := 339, attributes := #[] }, { accessFlags := 25, nameIndex := 361, descriptorIndex := 339, attributes := #[] }, { accessFlags := 26, nameIndex := 364, descriptorIndex := 339, attributes := #[] }, { accessFlags := 26, nameIndex := 365, descriptorIndex := 339, attributes := #[] }, { accessFlags := 26, nameIndex := 172, descriptorIndex := 173, attributes := #[] }, { accessFlags := 26, nameIndex := 176, descriptorIndex := 173, attributes := #[] }, { accessFlags := 8, nameIndex := 344, descriptorIndex := 339, attributes := #[] }, { accessFlags := 8, nameIndex := 338, descriptorIndex := 339, attributes := #[] }, { accessFlags := 4120, nameIndex := 245, descriptorIndex := 246, attributes := #[] }])
  fields := #[{ name := "E", type := .double, accessFlags := 25, slot := 0, constantValue := 0 }, { name := "PI", type := .double, accessFlags := 25, slot := 1, constantValue := 0 }, { name := "TAU", type := .double, accessFlags := 25, slot := 2, constantValue := 0 }, { name := "DEGREES_TO_RADIANS", type := .double, accessFlags := 26, slot := 3, constantValue := 0 }, { name := "RADIANS_TO_DEGREES", type := .double, accessFlags := 26, slot := 4, constantValue := 0 }, { name := "negativeZeroFloatBits", type := .long, accessFlags := 26, slot := 5, constantValue := 0 }, { name := "negativeZeroDoubleBits", type := .long, accessFlags := 26, slot := 6, constantValue := 0 }, { name := "twoToTheDoubleScaleUp", type := .double, accessFlags := 8, slot := 7, constantValue := 0 }, { name := "twoToTheDoubleScaleDown", type := .double, accessFlags := 8, slot := 8, constantValue := 0 }, { name := "$assertionsDisabled", type := .boolean, accessFlags := 4120, slot := 9, constantValue := 0 }]
  methods := #[k5m0, k5m1]
  instanceTypes := #[]
  staticTypes := #[.double, .double, .double, .double, .double, .long, .long, .double, .double, .boolean]
  resolved := Array.replicate 460 none
  statics := none }

def pool6 : Array CpInfo := pool [(2, .class_ 4), (1, u "java/lang/Object"), (0, u "<init>"), (0, u "()V"), (1, .class_ 10), (1, u "java/lang/System"), (0, u "allowSecurityManager"), (0, u "I"), (16, u "cons"), (0, u "Ljava/io/Console;"), (77, .class_ 110), (1, u "java/lang/System$CallersHolder"), (43, u "initialErrStream"), (0, u "Ljava/io/PrintStream;"), (19, u "security"), (0, u "Ljava/lang/SecurityManager;"), (31, .class_ 209), (0, u "java/lang/System$1"), (7, u "props"), (0, u "Ljava/util/Properties;"), (2, u "lineSeparator"), (0, u "Ljava/lang/String;"), (96, .class_ 321), (1, u "java/lang/System$LoggerFinder"), (5, .class_ 328), (0, u "java/lang/System$Logger"), (67, u "err"), (2, u "out"), (91, u "notSupportedJnuEncoding"), (15, u "in"), (17, u "initialIn"), (0, u "Ljava/io/InputStream;"), (35, u "bootLayer"), (0, u "Ljava/lang/ModuleLayer;"), (99, .class_ 664), (0, u "java/lang/System$2"), (9, u "NEVER"), (2, u "MAYBE"), (49, u "arraycopy"), (0, u "(Ljava/lang/Object;ILjava/lang/Object;II)V"), (72, .class_ 802), (0, u "java/lang/System$Logger$Level")] 31

def k6m0 : Method := { name := "<init>", desc := "()V", sig := { parameters := [], returnType := none }, accessFlags := 2, code := none }
def k6m1 : Method := { name := "arraycopy", desc := "(Ljava/lang/Object;ILjava/lang/Object;II)V", sig := { parameters := [(.object "java/lang/Object"), .int, (.object "java/lang/Object"), .int, .int], returnType := none }, accessFlags := 265, code := none }
/-- java/lang/System -/
def k6 : Class := { plain "java/lang/System" (some 0) with
  accessFlags := 49
  interfaces := #[]
  cf := some (fileOf pool6 8 #[.nestMembers #[319, 327, 801, 108, 663, 208]] #[{ accessFlags := 2, nameIndex := 5, descriptorIndex := 6, attributes := #[] }, { accessFlags := 265, nameIndex := 727, descriptorIndex := 728, attributes := #[] }] 49 2 #[] #[{ accessFlags := 25, nameIndex := 507, descriptorIndex := 526, attributes := #[] }, { accessFlags := 25, nameIndex := 399, descriptorIndex := 155, attributes := #[] }, { accessFlags := 25, nameIndex := 396, descriptorIndex := 155, attributes := #[] }, { accessFlags := 10, nameIndex := 525, descriptorIndex := 526, attributes := #[] }, { accessFlags := 26, nameIndex := 674, descriptorIndex := 12, attributes := #[] }, { accessFlags := 26, nameIndex := 677, descriptorIndex := 12, attributes := #[] }, { accessFlags := 10, nameIndex := 11, descriptorIndex := 12, attributes := #[] }, { accessFlags := 74, nameIndex := 175, descriptorIndex := 176, attributes := #[] }, { accessFlags := 10, nameIndex := 491, descriptorIndex := 222, attributes := #[] }, { accessFlags := 74, nameIndex := 29, descriptorIndex := 30, attributes := #[] }, { accessFlags := 74, nameIndex := 154, descriptorIndex := 155, attributes := #[] }, { accessFlags := 10, nameIndex := 217, descriptorIndex := 218, attributes := #[] }, { accessFlags := 10, nameIndex := 221, descriptorIndex := 222, attributes := #[] }, { accessFlags := 8, nameIndex := 562, descriptorIndex := 563, attributes := #[] }])
  fields := #[{ name := "in", type := (.object "java/io/InputStream"), accessFlags := 25, slot := 0, constantValue := 0 }, { name := "out", type := (.object "java/io/PrintStream"), accessFlags := 25, slot := 1, constantValue := 0 }, { name := "err", type := (.object "java/io/PrintStream"), accessFlags := 25, slot := 2, constantValue := 0 }, { name := "initialIn", type := (.object "java/io/InputStream"), accessFlags := 10, slot := 3, constantValue := 0 }, { name := "NEVER", type := .int, accessFlags := 26, slot := 4, constantValue := 0 }, { name := "MAYBE", type := .int, accessFlags := 26, slot := 5, constantValue := 0 }, { name := "allowSecurityManager", type := .int, accessFlags := 10, slot := 6, constantValue := 0 }, { name := "security", type := (.object "java/lang/SecurityManager"), accessFlags := 74, slot := 7, constantValue := 0 }, { name := "notSupportedJnuEncoding", type := (.object "java/lang/String"), accessFlags := 10, slot := 8, constantValue := 0 }, { name := "cons", type := (.object "java/io/Console"), accessFlags := 74, slot := 9, constantValue := 0 }, { name := "initialErrStream", type := (.object "java/io/PrintStream"), accessFlags := 74, slot := 10, constantValue := 0 }, { name := "props", type := (.object "java/util/Properties"), accessFlags := 10, slot := 11, constantValue := 0 }, { name := "lineSeparator", type := (.object "java/lang/String"), accessFlags := 10, slot := 12, constantValue := 0 }, { name := "bootLayer", type := (.object "java/lang/ModuleLayer"), accessFlags := 8, slot := 13, constantValue := 0 }]
  methods := #[k6m0, k6m1]
  instanceTypes := #[]
  staticTypes := #[(.object "java/io/InputStream"), (.object "java/io/PrintStream"), (.object "java/io/PrintStream"), (.object "java/io/InputStream"), .int, .int, .int, (.object "java/lang/SecurityManager"), (.object "java/lang/String"), (.object "java/io/Console"), (.object "java/io/PrintStream"), (.object "java/util/Properties"), (.object "java/lang/String"), (.object "java/lang/ModuleLayer")]
  resolved := Array.replicate 834 none
  statics := none }

def pool7 : Array CpInfo := pool [(1, u "java/io/Serializable"), (0, .class_ 1), (0, u "java/lang/Object"), (0, .class_ 3)] 3

/-- java/io/Serializable -/
def k7 : Class := { plain "java/io/Serializable" (some 0) with
  accessFlags := 1537
  interfaces := #[]
  cf := some (fileOf pool7 2 #[] #[] 1537 4 #[] #[])
  fields := #[]
  methods := #[]
  instanceTypes := #[]
  staticTypes := #[]
  resolved := Array.replicate 8 none
  statics := none }

/-- the primitive byte -/
def k8 : Class := { plain "byte" none with kind := .primitive 'B', accessFlags := 0x411 }
/-- [B -/
def k9 : Class := { plain "[B" (some 0) with kind := .array 8 .byte, interfaces := #[4, 7], accessFlags := 1041 }

/-- the primitive int -/
def k10 : Class := { plain "int" none with kind := .primitive 'I', accessFlags := 0x411 }
/-- [I -/
def k11 : Class := { plain "[I" (some 0) with kind := .array 10 .int, interfaces := #[4, 7], accessFlags := 1041 }

def heap : Heap := #[]
def classes : Array Class := #[k0, k1, k2, k3, k4, k5, k6, k7, k8, k9, k10, k11]
def interned : List (Array UInt16 × Addr) := []
def slotsUsed : Nat := 0
def theMethod : MethodId := ⟨1, 2⟩
def args0 : Array Value := #[.int 2, .int 5, .int 7, .int 9]
def aboutOver (below : List Frame) : State where
  vm := { classes := classes, interned := interned.toArray }
  heap := heap
  slotsUsed := slotsUsed
  threads := #[{ frames := .invoking theMethod args0 :: below }]
def below0 : List Frame := [.native { method := ⟨0, 0⟩, args := #[] }]
def about1 : State := aboutOver below0
def p0 : Program := .bare "" "" ""
def e0 : Env := launch0.env 0 0 0
theorem w_frames : about1.frames = Frame.invoking theMethod args0 :: below0 := rfl
set_option maxRecDepth 65536 in
theorem w_args : argsFit about1.vm theMethod args0 = true := by decide +kernel
set_option maxRecDepth 65536 in
theorem w_heap : heapFits about1 = true := by decide +kernel
set_option maxRecDepth 65536 in
theorem w_runnable : about1.curStatus? = some .runnable := by decide +kernel
set_option maxRecDepth 65536 in
theorem w_alone : about1.alone = true := by decide +kernel
set_option maxRecDepth 65536 in
theorem w_named : about1.methodNamed? x = some theMethod := by decide +kernel
set_option maxRecDepth 65536 in
theorem w_hears : about1.hears theMethod below0 = true := by decide +kernel
set_option maxRecDepth 65536 in
theorem w_ripe : about1.ripe theMethod args0 below0 = true := by decide +kernel
theorem w_running : about1.status = .running := rfl
set_option maxRecDepth 65536 in
theorem w_room : about1.hasRoom e0.platform room_1 = true :=
  launch0.hasRoom_least _ room_1 (by decide +kernel) (by decide +kernel) (by decide +kernel) (by decide +kernel) (by decide +kernel) (by decide +kernel)
theorem allAtoms_all (ts : List Jvm.Cond) (a : Array Jvm.Value) (st : Jvm.State) : (allAtoms ts).before a st = ts.all (fun c => c.before a st) := by
  induction ts with
  | nil => rfl
  | cons c t ih =>
    show (Jvm.Cond.and c (allAtoms t)).before a st = _
    rw [Jvm.Cond.before_and, ih, List.all_cons]
def words1 : List Jvm.Cond := Jvm.Cond.code x code maxLocals ret :: tables_1
/-- a 'code' word, met by the world's own term for the bytes: nothing is compared byte by byte -/
theorem code_word {y : MethodName} {bytes : ByteArray} {mx : Nat} {rt : Option FieldType} {a : Array Value} {s : State} {m : MethodId} {meth : Method} {c : Code} (h1 : s.methodNamed? y = some m) (h2 : s.vm.method? m = some meth) (h3 : meth.code = some c) (h4 : c.code = bytes)
    (h5 : (c.maxLocals == mx && c.exceptionTable.isEmpty && decide (c.maxStack ≤ mostOperands) && decide (meth.sig.returnType = rt) && !meth.locks && decide (parseMethodDescriptor y.desc = some meth.sig)) = true) : (Jvm.Cond.code y bytes mx rt).before a s = true := by
  simp only [Bool.and_eq_true, beq_iff_eq, Bool.not_eq_true', decide_eq_true_eq] at h5
  obtain ⟨⟨⟨⟨⟨g1, g2⟩, g3⟩, g4⟩, g5⟩, g6⟩ := h5
  simp [Cond.before, Cond.holds, Cond.value, h1, h2, h3, h4, g1, g2, g3, g4, g5, g6]
def isCode : Jvm.Cond → Bool
  | .code _ _ _ _ => true
  | _ => false
theorem all_split {L : List Jvm.Cond} {P : Jvm.Cond → Bool} (h1 : L.all (fun c => isCode c || P c) = true) (h2 : ∀ c ∈ L.filter isCode, P c = true) : L.all P = true := by
  refine List.all_eq_true.mpr fun c hc => ?_
  have h := List.all_eq_true.mp h1 c hc
  rcases Bool.eq_false_or_eq_true (isCode c) with hi | hi
  · exact h2 c (List.mem_filter.mpr ⟨hc, hi⟩)
  · simpa [hi] using h
set_option maxRecDepth 65536 in
theorem w_c0 : (Jvm.Cond.code x code maxLocals ret).before args0 about1 = true := code_word (m := ⟨1, 2⟩) (meth := k1m2) (c := k1c2) (by decide +kernel) rfl rfl rfl (by decide +kernel)
set_option maxRecDepth 65536 in
theorem w_c1 : (Jvm.Cond.code ({ cls := "com/example/tessera/tessera/storage/PrefixesEndPinLaw", name := "draw", desc := "(I)B" } : Jvm.MethodName) method_2_code (1 : Nat) (Option.some Jvm.ClassFile.FieldType.byte)).before args0 about1 = true := code_word (m := ⟨1, 1⟩) (meth := k1m1) (c := k1c1) (by decide +kernel) rfl rfl rfl (by decide +kernel)
set_option maxRecDepth 65536 in
theorem w_c2 : (Jvm.Cond.code ({ cls := "com/example/tessera/tessera/storage/Prefixes", name := "end", desc := "([B)[B" } : Jvm.MethodName) prog_82_method_3_code (3 : Nat) (Option.some (Jvm.ClassFile.FieldType.array Jvm.ClassFile.FieldType.byte))).before args0 about1 = true := code_word (m := ⟨2, 1⟩) (meth := k2m1) (c := k2c1) (by decide +kernel) rfl rfl rfl (by decide +kernel)
set_option maxRecDepth 65536 in
theorem w_c3 : (Jvm.Cond.code ({ cls := "java/util/Arrays", name := "copyOf", desc := "([BI)[B" } : Jvm.MethodName) jdk_65_method_121_code (3 : Nat) (Option.some (Jvm.ClassFile.FieldType.array Jvm.ClassFile.FieldType.byte))).before args0 about1 = true := code_word (m := ⟨3, 1⟩) (meth := k3m1) (c := k3c1) (by decide +kernel) rfl rfl rfl (by decide +kernel)
set_option maxRecDepth 65536 in
theorem w_c4 : (Jvm.Cond.code ({ cls := "java/lang/Math", name := "min", desc := "(II)I" } : Jvm.MethodName) jdk_29_method_69_code (2 : Nat) (Option.some Jvm.ClassFile.FieldType.int)).before args0 about1 = true := code_word (m := ⟨5, 1⟩) (meth := k5m1) (c := k5c1) (by decide +kernel) rfl rfl rfl (by decide +kernel)
def codes1 : List Jvm.Cond := [Jvm.Cond.code x code maxLocals ret, Jvm.Cond.code ({ cls := "com/example/tessera/tessera/storage/PrefixesEndPinLaw", name := "draw", desc := "(I)B" } : Jvm.MethodName) method_2_code (1 : Nat) (Option.some Jvm.ClassFile.FieldType.byte), Jvm.Cond.code ({ cls := "com/example/tessera/tessera/storage/Prefixes", name := "end", desc := "([B)[B" } : Jvm.MethodName) prog_82_method_3_code (3 : Nat) (Option.some (Jvm.ClassFile.FieldType.array Jvm.ClassFile.FieldType.byte)), Jvm.Cond.code ({ cls := "java/util/Arrays", name := "copyOf", desc := "([BI)[B" } : Jvm.MethodName) jdk_65_method_121_code (3 : Nat) (Option.some (Jvm.ClassFile.FieldType.array Jvm.ClassFile.FieldType.byte)), Jvm.Cond.code ({ cls := "java/lang/Math", name := "min", desc := "(II)I" } : Jvm.MethodName) jdk_29_method_69_code (2 : Nat) (Option.some Jvm.ClassFile.FieldType.int)]
set_option maxRecDepth 65536 in
theorem codes_eq : words1.filter isCode = codes1 := rfl
theorem w_codes : ∀ c ∈ words1.filter isCode, c.before args0 about1 = true := by
  rw [codes_eq]
  intro c hc
  simp only [codes1, List.mem_cons, List.not_mem_nil, or_false] at hc
  rcases hc with rfl | rfl | rfl | rfl | rfl
  · exact w_c0
  · exact w_c1
  · exact w_c2
  · exact w_c3
  · exact w_c4
set_option maxRecDepth 65536 in
theorem w_t1 : (words1.take 24).all (fun c => isCode c || c.before args0 about1) = true := by decide +kernel
set_option maxRecDepth 65536 in
theorem w_t2 : (words1.drop 24).all (fun c => isCode c || c.before args0 about1) = true := by decide +kernel
theorem w_tables : (allAtoms (Jvm.Cond.code x code maxLocals ret :: tables_1)).before args0 about1 = true := by
  rw [allAtoms_all]
  show words1.all (fun c => c.before args0 about1) = true
  refine all_split ?_ w_codes
  rw [← List.take_append_drop 24 words1, List.all_append, w_t1, w_t2]
  rfl
set_option maxRecDepth 65536 in
theorem w_case : (Jvm.Cond.and given_1 narrow_1).before args0 about1 = true := by decide +kernel
theorem w_applies : (headSpec (Jvm.Cond.code x code maxLocals ret :: tables_1) room_1).applies x e0.platform about1 = true :=
  (Spec.applies_iff w_frames).mpr ⟨w_running, w_runnable, w_alone, w_named, w_hears, w_ripe, w_room, w_tables⟩
theorem atStart : AtStart classFile x code maxLocals ret World_1 tables_1 room_1 Calls_1 rest_1 Pre_1 launch0 p0 e0 about1 theMethod args0 below0 :=
  ⟨lists_1, trivial, launch0.admits_env _ _ _, launch0.least_env, fairChoices_fair.cas, fairChoices_fair.clock, w_frames, w_args, w_heap, w_applies, trivial, trivial, w_case⟩
end start1
theorem witness_1 : WitnessClaimed_1 := ⟨start1.p0, start1.e0, start1.about1, start1.theMethod, start1.args0, start1.below0, start1.atStart⟩
end Jvm.Pilot.@@N@@
