import JvmDerived
import JvmDerived.Pilot.@@N@@Statement
import JvmDerived.Pilot.@@N@@Code
set_option linter.unusedVariables false
set_option linter.unusedSimpArgs false
namespace Jvm.RoadKit
open Sem ClassFile Op Lib Jvm.Stand Jvm.Free Jvm.LawKit
section New
variable {p : Program} {l : Launch} {e : Env} {R : Room} {s : State} {m : MethodId} {args : Array Value} {below : List Frame} {meth : Method} {c : Code} {T : State} {locs : List Loc} {cells slots : Nat}
theorem retI (X : Stand p l e R s m args below meth c T locs cells slots) (hx : p.tables.exec = Jvm.exec) {pc : Nat} {Ls : Array Slot} {z : Int32} {rest : List Value} (hret : meth.sig.returnType = some .int) (hd : decode c.code pc = .ok (.ireturn, 1)) {fs : List Frame}
    (hl : ∀ (f : JFrame) (acts : List Action), f.method = m → f.locked = none → f.entered = [] → (doReturn e (T.setTop f) acts (some (.int z))).1 = T.setFrames fs) : Steps p.tables e below (T.setTop (mkF m pc Ls (.int z :: rest))) (T.setFrames fs) := by
  have hm' : T.vm.method? m = some meth := X.method'
  have hn : narrow .int (.int z) = .int z := rfl
  show Steps p.tables e below (T.setTop { method := m, pc := pc, locals := Ls, stack := _ :: rest, locked := none }) _
  jvm_step X.here [X.here.top, hx, hd, hm', hret, hn]
  first | (intro acts; rw [hl _ acts rfl rfl rfl]) | rw [hl _ _ rfl rfl rfl]
  exact Steps.refl _
variable {Z : State} {h : Heap} {a : Addr} {k : ClassId} {z j : Int32} {vs : List Value} {dv : Value}
theorem own_nar (x : Int32) : nar .byte (x.toInt8.toInt32) = x.toInt8.toInt32 := by
  show (x.toInt8.toInt32).toInt8.toInt32 = _
  rw [Int8.toInt8_toInt32]
theorem own_bal (X : Stand p l e R s m args below meth c T locs cells slots) (hx : p.tables.exec = Jvm.exec) (hZ : Z.Warmed39 s.vm) (eT : T.heap = h) (A : Arv Z h a k .byte z vs dv) (hj : ¬ j < 0 ∧ j < z) {v : Value} (hv : vs.getD j.toNatClampNeg dv = v)
    {g : JFrame} (hg : g.method = m) {rest : List Value} (hs : g.stack = .int j :: .ref a :: rest) (hd : decode c.code g.pc = .ok (.baload, 1)) (target : State)
    (hrest : Steps p.tables e below (T.setTop { g with pc := g.pc + 1, stack := v :: rest }) target) : Steps p.tables e below (T.setTop g) target := by
  obtain ⟨cl, Ar, -, S, N, H, -⟩ := A
  have hin := inb_of S hj
  exact X.baloadBytes hx (j := j) (v := v) (by rw [eT]; exact Ar.1) (State.isArrayOf_alike hZ.alike Ar.2.1) Ar.2.2 hin (Has.at H hin hv) hg hs hd target hrest
theorem own_len {ty : FieldType} (X : Stand p l e R s m args below meth c T locs cells slots) (hx : p.tables.exec = Jvm.exec) (hZ : Z.Warmed39 s.vm) (eT : T.heap = h) (A : Arv Z h a k ty z vs dv)
    {g : JFrame} (hg : g.method = m) {rest : List Value} (hs : g.stack = .ref a :: rest) (hd : decode c.code g.pc = .ok (.arraylength, 1)) (target : State)
    (hrest : Steps p.tables e below (T.setTop { g with pc := g.pc + 1, stack := .int z :: rest }) target) : Steps p.tables e below (T.setTop g) target := by
  obtain ⟨cl, Ar, -, S, N, H, -⟩ := A
  refine X.arraylength hx (by rw [eT]; exact Ar.1) (State.isArrayOf_alike hZ.alike Ar.2.1) hg hs hd target ?_
  rw [len_of S N]
  exact hrest
theorem own_bst (X : Stand p l e R s m args below meth c T locs cells slots) (hx : p.tables.exec = Jvm.exec) (hZ : Z.Warmed39 s.vm) (eT : T.heap = h) (A : Arv Z h a k .byte z vs dv) (hj : ¬ j < 0 ∧ j < z) {i : Nat} (hi : j.toNatClampNeg = i) (hl : i < vs.length) {x w : Int32} (hw : nar .byte x = w)
    {g : JFrame} (hg : g.method = m) {rest : List Value} (hs : g.stack = .int x :: .int j :: .ref a :: rest) (hd : decode c.code g.pc = .ok (.bastore, 1)) :
    ∃ T' h', Stand p l e R s m args below meth c T' (locs ++ [⟨a, j.toNatClampNeg⟩]) cells slots ∧ T'.heap = h' ∧ Wr h h' a j.toNatClampNeg (.int w) ∧ Arv Z h' a k .byte z (vs.set i (.int w)) dv ∧
      ∀ target, Steps p.tables e below (T'.setTop { g with pc := g.pc + 1, stack := rest }) target → Steps p.tables e below (T.setTop g) target := by
  obtain ⟨cl, Ar, q, S, N, H, G⟩ := A
  obtain ⟨T', h', X', e', W', st⟩ := stB X hx hZ eT Ar (j := j) (inb_of S hj) hg hs hd
  subst hw
  exact ⟨T', h', X', e', W', Arv.set Ar q S N H G (fits_nar_byte _) W' i hi hl, st⟩
theorem own_selp {s : State} {args : Array Value} {C : String} {y w : MethodName} (hc : y.cls = w.cls) (hsel : (Cond.selects C w w).before args s = true) (hpriv : s.PrivateAt y) (hinst : (Cond.instanceMethod y).before args s = true) (hy : y.cls ≠ "java/lang/invoke/MethodHandle" ∧ y.cls ≠ "java/lang/invoke/VarHandle") : (Cond.selects y.cls y y).before args s = true := by
  obtain ⟨c2, r2, m2, q1, q2, q3, q4, kP, hkP, hkPi⟩ := Cond.selects_spec hsel
  exact selects_self_of_private (by rw [hc]; exact findClass_of_methodNamed q3) hkP hkPi hpriv hinst hy
end New
end Jvm.RoadKit
namespace Jvm.Pilot.@@N@@
open Jvm Jvm.ClassFile Sem Op Lib Jvm.Free Jvm.Stand Jvm.LawKit Jvm.RoadKit Bundle Jvm.Pilot.@@N@@.Jvm.D
theorem own_irr (q : Int64) : ¬ q < q := by rw [Int64.lt_iff_toInt_lt]; omega
theorem d3_0 : decode jdk_30_method_1_code 0 = .ok (.aload_n 0, 1) := by decide +kernel
theorem d3_1 : decode jdk_30_method_1_code 1 = .ok (.invokespecial 1, 3) := by decide +kernel
theorem d3_4 : decode jdk_30_method_1_code 4 = .ok (.return_, 1) := by decide +kernel
theorem pn_0 : plainName "java/lang/Record" = true := by first | (simp [plainName, overriddenIn]; done) | decide +kernel
theorem ef_rm3 (m : MethodId) (x0 : Addr) : entryFrame m #[(.ref x0)] 1 = mkF m 0 #[.val (.ref x0)] [] := by first | (simp [entryFrame, mkF, argsToLocals, Value.category]; done) | rfl
def Q3 (Z : State) (a1 : Addr) (h0 : Heap) (n0 : Nat) (v : Option Value) (h : Heap) (L : List Loc) : Prop := v = none ∧ Fr n0 L ∧ h = h0
set_option maxRecDepth 65536 in
set_option maxHeartbeats 40000000 in
theorem rm3 (l : Launch) (Z : State) (a0 : Array Value) (hw : ∀ d ∈ tables_1, d.before a0 Z = true) (ws : List Jvm.Cond) (a1 : Addr) (h0 : Heap) (n0 : Nat) (Z0 : n0 ≤ h0.size)  :
    MetFree l (⟨"java/lang/Record", "<init>", "()V"⟩ : MethodName) (head1 (Jvm.Cond.code (⟨"java/lang/Record", "<init>", "()V"⟩ : MethodName) jdk_30_method_1_code 1 none :: ws) ({ frames := 1, cells := 0, slots := 0, locals := 12 } : Room)) (fun a U => a = #[(.ref a1)] ∧ Z.Warmed39 U.vm ∧ U.heap = h0) (fun _ _ _ _ _ => True) (fun _ U o U' => ∃ v L, o = .returned v ∧ Q3 Z a1 h0 n0 v U'.heap L ∧ FrameEnd U o U' L ({ frames := 1, cells := 0, slots := 0, locals := 12 } : Room).cells ({ frames := 1, cells := 0, slots := 0, locals := 12 } : Room).slots) := by
  refine MetFree.of_bodySF (plainFor_of_name pn_0) hisR ?_
  intro p e s m args below meth c s₁ Bd hml0 hP hK
  obtain ⟨rfl, hZ, hh⟩ := hP
  have hx := Bd.exec
  have hby := Bd.bytes
  have hml : c.maxLocals = 1 := hml0
  have hown : s.vm.findClass "java/lang/Record" = some m.cls := findClass_of_methodNamed Bd.named
  have hnm := (name_of_methodNamed Bd.named Bd.method).1
  have X0 : Stand p l e ({ frames := 1, cells := 0, slots := 0, locals := 12 } : Room) s m #[(.ref a1)] below meth c s₁ [] 0 0 := Stand.of_body Bd
  have e0 : s₁.heap = h0 := by rw [← hh, Bd.state]; rfl
  have N0 := Fr.nil n0
  have pre0 : ∀ t, Steps p.tables e below (s₁.setTop (mkF m 0 #[.val (.ref a1)] [])) t → Steps p.tables e below (s₁.setTop (entryFrame m #[(.ref a1)] 1)) t := fun t k => castTop (ef_rm3 m a1) k
  obtain ⟨T101, X101, e101, st101⟩ := initO X0 hx hZ hown (hw _ (List.mem_of_getElem? (i := 14) rfl)) (hw _ (List.mem_of_getElem? (i := 15) rfl)) (hw _ (List.mem_of_getElem? (i := 16) rfl)) e0 (g := (mkF m 1 #[.val (.ref a1)] [(.ref a1)])) rfl (by rw [hml]; rfl) rfl (hb hby d3_1) (by decide) (W := 0) (by show 2 * 0 + _ ≤ _; exact Nat.le_of_eq rfl) (by decide)
  have pre102 : ∀ t, Steps p.tables e below (T101.setTop (mkF m 4 #[.val (.ref a1)] [])) t → Steps p.tables e below (s₁.setTop (entryFrame m #[(.ref a1)] 1)) t := by
    intro t kt
    refine pre0 t ?_
    show Steps p.tables e below (s₁.setTop (mkF m 0 #[.val (.ref a1)] [])) _
    refine XS.aloadN X0.here hx rfl (hb hby d3_0) rfl rfl ?_
    show Steps p.tables e below (s₁.setTop (mkF m 1 #[.val (.ref a1)] [(.ref a1)])) _
    refine st101 _ ?_
    exact kt
  obtain ⟨fsx, hr, hrun, hended, hW, hsame⟩ := X101.leave (v := none) (fun _ => rfl)
  refine ⟨_, _, pre102 _ ?_, hrun, hended, _, _, rfl, ?_, ⟨_, rfl⟩, hW, hsame.mono (by decide) (by decide)⟩
  · exact X101.returnOut hx Bd.returns (hb hby d3_4) hr
  · show Q3 Z a1 h0 n0 _ T101.heap _
    rw [e101]
    exact ⟨rfl, N0, rfl⟩
theorem d2_0 : decode prog_25_method_1_code 0 = .ok (.aload_n 0, 1) := by decide +kernel
theorem pd_0 : parseMethodDescriptor "()V" = some ⟨[], none⟩ := by decide +kernel
theorem d2_1 : decode prog_25_method_1_code 1 = .ok (.invokespecial 1, 3) := by decide +kernel
theorem d2_4 : decode prog_25_method_1_code 4 = .ok (.lload_n 3, 1) := by decide +kernel
theorem d2_5 : decode prog_25_method_1_code 5 = .ok (.lload_n 1, 1) := by decide +kernel
theorem d2_6 : decode prog_25_method_1_code 6 = .ok (.lcmp, 1) := by decide +kernel
theorem d2_7 : decode prog_25_method_1_code 7 = .ok (.ifCond .lt 27, 3) := by decide +kernel
theorem d2_10 : decode prog_25_method_1_code 10 = .ok (.aload 5, 2) := by decide +kernel
theorem d2_12 : decode prog_25_method_1_code 12 = .ok (.ifnonnull 7, 3) := by decide +kernel
theorem d2_15 : decode prog_25_method_1_code 15 = .ok (.iconst 1, 1) := by decide +kernel
theorem d2_16 : decode prog_25_method_1_code 16 = .ok (.goto 4, 3) := by decide +kernel
theorem d2_20 : decode prog_25_method_1_code 20 = .ok (.lload_n 3, 1) := by decide +kernel
theorem d2_21 : decode prog_25_method_1_code 21 = .ok (.lload_n 1, 1) := by decide +kernel
theorem d2_22 : decode prog_25_method_1_code 22 = .ok (.lcmp, 1) := by decide +kernel
theorem d2_23 : decode prog_25_method_1_code 23 = .ok (.ifCond .ne 7, 3) := by decide +kernel
theorem d2_26 : decode prog_25_method_1_code 26 = .ok (.iconst 1, 1) := by decide +kernel
theorem d2_27 : decode prog_25_method_1_code 27 = .ok (.goto 4, 3) := by decide +kernel
theorem d2_31 : decode prog_25_method_1_code 31 = .ok (.if_icmp .eq 23, 3) := by decide +kernel
theorem d2_54 : decode prog_25_method_1_code 54 = .ok (.aload_n 0, 1) := by decide +kernel
theorem d2_55 : decode prog_25_method_1_code 55 = .ok (.lload_n 1, 1) := by decide +kernel
theorem d2_56 : decode prog_25_method_1_code 56 = .ok (.putfield 22, 3) := by decide +kernel
theorem d2_59 : decode prog_25_method_1_code 59 = .ok (.aload_n 0, 1) := by decide +kernel
theorem d2_60 : decode prog_25_method_1_code 60 = .ok (.lload_n 3, 1) := by decide +kernel
theorem d2_61 : decode prog_25_method_1_code 61 = .ok (.putfield 28, 3) := by decide +kernel
theorem d2_64 : decode prog_25_method_1_code 64 = .ok (.aload_n 0, 1) := by decide +kernel
theorem d2_65 : decode prog_25_method_1_code 65 = .ok (.aload 5, 2) := by decide +kernel
theorem d2_67 : decode prog_25_method_1_code 67 = .ok (.putfield 31, 3) := by decide +kernel
theorem d2_70 : decode prog_25_method_1_code 70 = .ok (.aload_n 0, 1) := by decide +kernel
theorem d2_71 : decode prog_25_method_1_code 71 = .ok (.lload 6, 2) := by decide +kernel
theorem d2_73 : decode prog_25_method_1_code 73 = .ok (.putfield 35, 3) := by decide +kernel
theorem d2_76 : decode prog_25_method_1_code 76 = .ok (.return_, 1) := by decide +kernel
theorem pn_1 : plainName "com/example/wachtrij/wachtrij/store/ReadPosition" = true := by first | (simp [plainName, overriddenIn]; done) | decide +kernel
theorem ef_rm2 (m : MethodId) (x0 : Addr) (x1 : Int64) (x2 : Int64) (x4 : Int64) : entryFrame m #[(.ref x0), (.long x1), (.long x2), .null, (.long x4)] 8 = mkF m 0 #[.val (.ref x0), .val (.long x1), .second, .val (.long x2), .second, .val .null, .val (.long x4), .second] [] := by first | (simp [entryFrame, mkF, argsToLocals, Value.category]; done) | rfl
def Q2 (Z : State) (a1 : Addr) (q : Int64) (h0 : Heap) (n0 : Nat) (v : Option Value) (h : Heap) (L : List Loc) : Prop := v = none ∧ Fr n0 L ∧ Keep h0 h [a1] ∧ Fld Z h a1 "com/example/wachtrij/wachtrij/store/ReadPosition" "committed" "J" (.long q) ∧ Fld Z h a1 "com/example/wachtrij/wachtrij/store/ReadPosition" "aheadOffset" "J" (.long q) ∧ Fld Z h a1 "com/example/wachtrij/wachtrij/store/ReadPosition" "aheadDue" "Ljava/time/LocalDateTime;" .null
set_option maxRecDepth 65536 in
set_option maxHeartbeats 40000000 in
theorem rm2 (l : Launch) (Z : State) (a0 : Array Value) (hw : ∀ d ∈ tables_1, d.before a0 Z = true) (ws : List Jvm.Cond) (a1 : Addr) (q : Int64) (h0 : Heap) (n0 : Nat) (Z0 : n0 ≤ h0.size) (E1 : Exa Z h0 a1 "com/example/wachtrij/wachtrij/store/ReadPosition") (F0 : Fld Z h0 a1 "com/example/wachtrij/wachtrij/store/ReadPosition" "committed" "J" (.long (0 : Int64))) (F1 : Fld Z h0 a1 "com/example/wachtrij/wachtrij/store/ReadPosition" "aheadOffset" "J" (.long (0 : Int64))) (F2 : Fld Z h0 a1 "com/example/wachtrij/wachtrij/store/ReadPosition" "aheadDue" "Ljava/time/LocalDateTime;" .null) (F3 : Fld Z h0 a1 "com/example/wachtrij/wachtrij/store/ReadPosition" "aheadDueOffset" "J" (.long (0 : Int64))) (g1 : n0 ≤ a1) :
    MetFree l (⟨"com/example/wachtrij/wachtrij/store/ReadPosition", "<init>", "(JJLjava/time/LocalDateTime;J)V"⟩ : MethodName) (head1 (Jvm.Cond.code (⟨"com/example/wachtrij/wachtrij/store/ReadPosition", "<init>", "(JJLjava/time/LocalDateTime;J)V"⟩ : MethodName) prog_25_method_1_code 8 none :: ws) ({ frames := 2, cells := 0, slots := 0, locals := 24 } : Room)) (fun a U => a = #[(.ref a1), (.long q), (.long q), .null, (.long q)] ∧ Z.Warmed39 U.vm ∧ U.heap = h0) (fun _ _ _ _ _ => True) (fun _ U o U' => ∃ v L, o = .returned v ∧ Q2 Z a1 q h0 n0 v U'.heap L ∧ FrameEnd U o U' L ({ frames := 2, cells := 0, slots := 0, locals := 24 } : Room).cells ({ frames := 2, cells := 0, slots := 0, locals := 24 } : Room).slots) := by
  refine MetFree.of_bodySF (plainFor_of_name pn_1) hisR ?_
  intro p e s m args below meth c s₁ Bd hml0 hP hK
  obtain ⟨rfl, hZ, hh⟩ := hP
  have hx := Bd.exec
  have hby := Bd.bytes
  have hml : c.maxLocals = 8 := hml0
  have hown : s.vm.findClass "com/example/wachtrij/wachtrij/store/ReadPosition" = some m.cls := findClass_of_methodNamed Bd.named
  have hnm := (name_of_methodNamed Bd.named Bd.method).1
  have X0 : Stand p l e ({ frames := 2, cells := 0, slots := 0, locals := 24 } : Room) s m #[(.ref a1), (.long q), (.long q), .null, (.long q)] below meth c s₁ [] 0 0 := Stand.of_body Bd
  have e0 : s₁.heap = h0 := by rw [← hh, Bd.state]; rfl
  have N0 := Fr.nil n0
  have pre0 : ∀ t, Steps p.tables e below (s₁.setTop (mkF m 0 #[.val (.ref a1), .val (.long q), .second, .val (.long q), .second, .val .null, .val (.long q), .second] [])) t → Steps p.tables e below (s₁.setTop (entryFrame m #[(.ref a1), (.long q), (.long q), .null, (.long q)] 8)) t := fun t k => castTop (ef_rm2 m a1 q q q) k
  obtain ⟨_, _, ⟨T103, L103, k103, n103⟩, -, X103, ⟨Lc103, hQ103, l103, y103, z103⟩, st103⟩ := X0.specialBack hx (y := (⟨"java/lang/Record", "<init>", "()V"⟩ : MethodName)) rfl hown (mvT hZ (hw _ (List.mem_of_getElem? (i := 9) rfl))) (mvT hZ (hw _ (List.mem_of_getElem? (i := 10) rfl))) (mvT hZ (hw _ (List.mem_of_getElem? (i := 13) rfl))) (by decide) (backOf (W := 0) (rm3 l Z a0 hw [] a1 h0 n0 Z0) hZ (hw _ (List.mem_of_getElem? (i := 13) rfl)) (hw _ (List.mem_of_getElem? (i := 12) rfl)) (by decide) (by decide)) (g := (mkF m 1 #[.val (.ref a1), .val (.long q), .second, .val (.long q), .second, .val .null, .val (.long q), .second] [(.ref a1)])) rfl (by rw [hml]; rfl) (Steps.refl _) (a := a1) (argsL := []) (rest := []) (lenOf pd_0 rfl) rfl (by show 2 * 0 + _ ≤ _; exact Nat.le_of_eq rfl) (hb hby d2_1) (fun _ _ => ⟨rfl, e0, (by decide : 0 + 0 ≤ _), (by decide : 0 + 0 ≤ _)⟩)
  dsimp only [Pt.U, Pt.locs, Pt.cells, Pt.slots] at X103 l103 y103 z103 st103 hQ103
  subst l103 y103 z103
  obtain ⟨rfl, Nq103, eq103⟩ := hQ103
  have Nf103 := Fr.app N0 Nq103
  obtain ⟨T104, h104, X104, e104, W104, st104⟩ := putF X103 hx hZ hown (host := "") (Or.inl (hw _ (List.mem_of_getElem? (i := 17) rfl))) Via.refl eq103 F0 E1 (Or.inr ⟨(hw _ (List.mem_of_getElem? (i := 18) rfl)), rfl, hnm⟩) (hw _ (List.mem_of_getElem? (i := 5) rfl)) (ty := .long) (by decide) rfl rfl (g := (mkF m 56 #[.val (.ref a1), .val (.long q), .second, .val (.long q), .second, .val .null, .val (.long q), .second] [(.long q), (.ref a1)])) rfl rfl (hb hby d2_56)
  have Fw104 := F0.same W104
  have f105 := (E1.wr W104)
  have f106 := (F1.other W104 (Or.inr (slot_ne (Or.inr (hw _ (List.mem_of_getElem? (i := 20) rfl))) (Or.inr (hw _ (List.mem_of_getElem? (i := 18) rfl))) (by decide) (t := .long) (t' := .long) (by decide) (by decide))))
  have f107 := (F2.other W104 (Or.inr (slot_ne (Or.inr (hw _ (List.mem_of_getElem? (i := 22) rfl))) (Or.inr (hw _ (List.mem_of_getElem? (i := 18) rfl))) (by decide) (t := (.object "java/time/LocalDateTime")) (t' := .long) (by decide) (by decide))))
  have f108 := (F3.other W104 (Or.inr (slot_ne (Or.inr (hw _ (List.mem_of_getElem? (i := 24) rfl))) (Or.inr (hw _ (List.mem_of_getElem? (i := 18) rfl))) (by decide) (t := .long) (t' := .long) (by decide) (by decide))))
  have K104 : Keep h0 h104 [a1] := (Keep.refl h0 [a1]).wr W104 (Or.inl (List.mem_of_getElem? (i := 0) rfl))
  have Nf104 := Fr.snoc X104 Nf103 g1
  have Z104 : n0 ≤ h104.size := Nat.le_trans Z0 (Keep.of_wr W104).1
  obtain ⟨T109, h109, X109, e109, W109, st109⟩ := putF X104 hx hZ hown (host := "") (Or.inl (hw _ (List.mem_of_getElem? (i := 19) rfl))) Via.refl e104 f106 f105 (Or.inr ⟨(hw _ (List.mem_of_getElem? (i := 20) rfl)), rfl, hnm⟩) (hw _ (List.mem_of_getElem? (i := 5) rfl)) (ty := .long) (by decide) rfl rfl (g := (mkF m 61 #[.val (.ref a1), .val (.long q), .second, .val (.long q), .second, .val .null, .val (.long q), .second] [(.long q), (.ref a1)])) rfl rfl (hb hby d2_61)
  have Fw109 := f106.same W109
  have f110 := (f105.wr W109)
  have f111 := (f107.other W109 (Or.inr (slot_ne (Or.inr (hw _ (List.mem_of_getElem? (i := 22) rfl))) (Or.inr (hw _ (List.mem_of_getElem? (i := 20) rfl))) (by decide) (t := (.object "java/time/LocalDateTime")) (t' := .long) (by decide) (by decide))))
  have f112 := (f108.other W109 (Or.inr (slot_ne (Or.inr (hw _ (List.mem_of_getElem? (i := 24) rfl))) (Or.inr (hw _ (List.mem_of_getElem? (i := 20) rfl))) (by decide) (t := .long) (t' := .long) (by decide) (by decide))))
  have f113 := (Fw104.other W109 (Or.inr (slot_ne (Or.inr (hw _ (List.mem_of_getElem? (i := 18) rfl))) (Or.inr (hw _ (List.mem_of_getElem? (i := 20) rfl))) (by decide) (t := .long) (t' := .long) (by decide) (by decide))))
  have K109 : Keep h0 h109 [a1] := K104.wr W109 (Or.inl (List.mem_of_getElem? (i := 0) rfl))
  have Nf109 := Fr.snoc X109 Nf104 g1
  have Z109 : n0 ≤ h109.size := Nat.le_trans Z104 (Keep.of_wr W109).1
  obtain ⟨T114, h114, X114, e114, W114, st114⟩ := putF X109 hx hZ hown (host := "") (Or.inl (hw _ (List.mem_of_getElem? (i := 21) rfl))) Via.refl e109 f111 f110 (Or.inr ⟨(hw _ (List.mem_of_getElem? (i := 22) rfl)), rfl, hnm⟩) (hw _ (List.mem_of_getElem? (i := 5) rfl)) (ty := (.object "java/time/LocalDateTime")) (by decide) rfl rfl (g := (mkF m 67 #[.val (.ref a1), .val (.long q), .second, .val (.long q), .second, .val .null, .val (.long q), .second] [.null, (.ref a1)])) rfl rfl (hb hby d2_67)
  have Fw114 := f111.same W114
  have f115 := (f110.wr W114)
  have f116 := (f112.other W114 (Or.inr (slot_ne (Or.inr (hw _ (List.mem_of_getElem? (i := 24) rfl))) (Or.inr (hw _ (List.mem_of_getElem? (i := 22) rfl))) (by decide) (t := .long) (t' := (.object "java/time/LocalDateTime")) (by decide) (by decide))))
  have f117 := (f113.other W114 (Or.inr (slot_ne (Or.inr (hw _ (List.mem_of_getElem? (i := 18) rfl))) (Or.inr (hw _ (List.mem_of_getElem? (i := 22) rfl))) (by decide) (t := .long) (t' := (.object "java/time/LocalDateTime")) (by decide) (by decide))))
  have f118 := (Fw109.other W114 (Or.inr (slot_ne (Or.inr (hw _ (List.mem_of_getElem? (i := 20) rfl))) (Or.inr (hw _ (List.mem_of_getElem? (i := 22) rfl))) (by decide) (t := .long) (t' := (.object "java/time/LocalDateTime")) (by decide) (by decide))))
  have K114 : Keep h0 h114 [a1] := K109.wr W114 (Or.inl (List.mem_of_getElem? (i := 0) rfl))
  have Nf114 := Fr.snoc X114 Nf109 g1
  have Z114 : n0 ≤ h114.size := Nat.le_trans Z109 (Keep.of_wr W114).1
  obtain ⟨T119, h119, X119, e119, W119, st119⟩ := putF X114 hx hZ hown (host := "") (Or.inl (hw _ (List.mem_of_getElem? (i := 23) rfl))) Via.refl e114 f116 f115 (Or.inr ⟨(hw _ (List.mem_of_getElem? (i := 24) rfl)), rfl, hnm⟩) (hw _ (List.mem_of_getElem? (i := 5) rfl)) (ty := .long) (by decide) rfl rfl (g := (mkF m 73 #[.val (.ref a1), .val (.long q), .second, .val (.long q), .second, .val .null, .val (.long q), .second] [(.long q), (.ref a1)])) rfl rfl (hb hby d2_73)
  have Fw119 := f116.same W119
  have f120 := (f115.wr W119)
  have f121 := (f117.other W119 (Or.inr (slot_ne (Or.inr (hw _ (List.mem_of_getElem? (i := 18) rfl))) (Or.inr (hw _ (List.mem_of_getElem? (i := 24) rfl))) (by decide) (t := .long) (t' := .long) (by decide) (by decide))))
  have f122 := (f118.other W119 (Or.inr (slot_ne (Or.inr (hw _ (List.mem_of_getElem? (i := 20) rfl))) (Or.inr (hw _ (List.mem_of_getElem? (i := 24) rfl))) (by decide) (t := .long) (t' := .long) (by decide) (by decide))))
  have f123 := (Fw114.other W119 (Or.inr (slot_ne (Or.inr (hw _ (List.mem_of_getElem? (i := 22) rfl))) (Or.inr (hw _ (List.mem_of_getElem? (i := 24) rfl))) (by decide) (t := (.object "java/time/LocalDateTime")) (t' := .long) (by decide) (by decide))))
  have K119 : Keep h0 h119 [a1] := K114.wr W119 (Or.inl (List.mem_of_getElem? (i := 0) rfl))
  have Nf119 := Fr.snoc X119 Nf114 g1
  have Z119 : n0 ≤ h119.size := Nat.le_trans Z114 (Keep.of_wr W119).1
  have pre124 : ∀ t, Steps p.tables e below (T119.setTop (mkF m 76 #[.val (.ref a1), .val (.long q), .second, .val (.long q), .second, .val .null, .val (.long q), .second] [])) t → Steps p.tables e below (s₁.setTop (entryFrame m #[(.ref a1), (.long q), (.long q), .null, (.long q)] 8)) t := by
    intro t kt
    refine pre0 t ?_
    show Steps p.tables e below (s₁.setTop (mkF m 0 #[.val (.ref a1), .val (.long q), .second, .val (.long q), .second, .val .null, .val (.long q), .second] [])) _
    refine XS.aloadN X0.here hx rfl (hb hby d2_0) rfl rfl ?_
    show Steps p.tables e below (s₁.setTop (mkF m 1 #[.val (.ref a1), .val (.long q), .second, .val (.long q), .second, .val .null, .val (.long q), .second] [(.ref a1)])) _
    refine st103.trans ?_
    show Steps p.tables e below (T103.setTop (mkF m 4 #[.val (.ref a1), .val (.long q), .second, .val (.long q), .second, .val .null, .val (.long q), .second] [])) _
    refine XS.lloadN X103.here hx rfl (hb hby d2_4) rfl ?_
    show Steps p.tables e below (T103.setTop (mkF m 5 #[.val (.ref a1), .val (.long q), .second, .val (.long q), .second, .val .null, .val (.long q), .second] [(.long q)])) _
    refine XS.lloadN X103.here hx rfl (hb hby d2_5) rfl ?_
    show Steps p.tables e below (T103.setTop (mkF m 6 #[.val (.ref a1), .val (.long q), .second, .val (.long q), .second, .val .null, .val (.long q), .second] [(.long q), (.long q)])) _
    refine XS.lcmp X103.here hx rfl (hb hby d2_6) rfl ?_
    show Steps p.tables e below (T103.setTop (mkF m 7 #[.val (.ref a1), .val (.long q), .second, .val (.long q), .second, .val .null, .val (.long q), .second] [(.int (lcmpW q q))])) _
    refine XS.ifNo X103.here hx rfl (hb hby d2_7) rfl ((if0 _ _).trans (flt (fun qz => (own_irr q) ((lw_lt _ _).mp qz))).1) ?_
    show Steps p.tables e below (T103.setTop (mkF m 10 #[.val (.ref a1), .val (.long q), .second, .val (.long q), .second, .val .null, .val (.long q), .second] [])) _
    refine XS.aload X103.here hx rfl (hb hby d2_10) rfl rfl ?_
    show Steps p.tables e below (T103.setTop (mkF m 12 #[.val (.ref a1), .val (.long q), .second, .val (.long q), .second, .val .null, .val (.long q), .second] [.null])) _
    refine XS.ifnonnullNo X103.here hx rfl (hb hby d2_12) rfl ?_
    show Steps p.tables e below (T103.setTop (mkF m 15 #[.val (.ref a1), .val (.long q), .second, .val (.long q), .second, .val .null, .val (.long q), .second] [])) _
    refine XS.iconst X103.here hx rfl (hb hby d2_15) ?_
    show Steps p.tables e below (T103.setTop (mkF m 16 #[.val (.ref a1), .val (.long q), .second, .val (.long q), .second, .val .null, .val (.long q), .second] [(.int (1 : Int32))])) _
    refine XS.goto X103.here hx rfl (pc0 := 16) (pc' := 20) rfl (hb hby d2_16) (by decide) (by decide) ?_
    show Steps p.tables e below (T103.setTop (mkF m 20 #[.val (.ref a1), .val (.long q), .second, .val (.long q), .second, .val .null, .val (.long q), .second] [(.int (1 : Int32))])) _
    refine XS.lloadN X103.here hx rfl (hb hby d2_20) rfl ?_
    show Steps p.tables e below (T103.setTop (mkF m 21 #[.val (.ref a1), .val (.long q), .second, .val (.long q), .second, .val .null, .val (.long q), .second] [(.long q), (.int (1 : Int32))])) _
    refine XS.lloadN X103.here hx rfl (hb hby d2_21) rfl ?_
    show Steps p.tables e below (T103.setTop (mkF m 22 #[.val (.ref a1), .val (.long q), .second, .val (.long q), .second, .val .null, .val (.long q), .second] [(.long q), (.long q), (.int (1 : Int32))])) _
    refine XS.lcmp X103.here hx rfl (hb hby d2_22) rfl ?_
    show Steps p.tables e below (T103.setTop (mkF m 23 #[.val (.ref a1), .val (.long q), .second, .val (.long q), .second, .val .null, .val (.long q), .second] [(.int (lcmpW q q)), (.int (1 : Int32))])) _
    refine XS.ifNo X103.here hx rfl (hb hby d2_23) rfl ((if0 _ _).trans (teq ((lw_eq _ _).mpr rfl)).2) ?_
    show Steps p.tables e below (T103.setTop (mkF m 26 #[.val (.ref a1), .val (.long q), .second, .val (.long q), .second, .val .null, .val (.long q), .second] [(.int (1 : Int32))])) _
    refine XS.iconst X103.here hx rfl (hb hby d2_26) ?_
    show Steps p.tables e below (T103.setTop (mkF m 27 #[.val (.ref a1), .val (.long q), .second, .val (.long q), .second, .val .null, .val (.long q), .second] [(.int (1 : Int32)), (.int (1 : Int32))])) _
    refine XS.goto X103.here hx rfl (pc0 := 27) (pc' := 31) rfl (hb hby d2_27) (by decide) (by decide) ?_
    show Steps p.tables e below (T103.setTop (mkF m 31 #[.val (.ref a1), .val (.long q), .second, .val (.long q), .second, .val .null, .val (.long q), .second] [(.int (1 : Int32)), (.int (1 : Int32))])) _
    refine XS.icmpYes X103.here hx rfl (pc0 := 31) (pc' := 54) rfl (hb hby d2_31) rfl (teq rfl).1 (by decide) (by decide) ?_
    show Steps p.tables e below (T103.setTop (mkF m 54 #[.val (.ref a1), .val (.long q), .second, .val (.long q), .second, .val .null, .val (.long q), .second] [])) _
    refine XS.aloadN X103.here hx rfl (hb hby d2_54) rfl rfl ?_
    show Steps p.tables e below (T103.setTop (mkF m 55 #[.val (.ref a1), .val (.long q), .second, .val (.long q), .second, .val .null, .val (.long q), .second] [(.ref a1)])) _
    refine XS.lloadN X103.here hx rfl (hb hby d2_55) rfl ?_
    show Steps p.tables e below (T103.setTop (mkF m 56 #[.val (.ref a1), .val (.long q), .second, .val (.long q), .second, .val .null, .val (.long q), .second] [(.long q), (.ref a1)])) _
    refine st104 _ ?_
    show Steps p.tables e below (T104.setTop (mkF m 59 #[.val (.ref a1), .val (.long q), .second, .val (.long q), .second, .val .null, .val (.long q), .second] [])) _
    refine XS.aloadN X104.here hx rfl (hb hby d2_59) rfl rfl ?_
    show Steps p.tables e below (T104.setTop (mkF m 60 #[.val (.ref a1), .val (.long q), .second, .val (.long q), .second, .val .null, .val (.long q), .second] [(.ref a1)])) _
    refine XS.lloadN X104.here hx rfl (hb hby d2_60) rfl ?_
    show Steps p.tables e below (T104.setTop (mkF m 61 #[.val (.ref a1), .val (.long q), .second, .val (.long q), .second, .val .null, .val (.long q), .second] [(.long q), (.ref a1)])) _
    refine st109 _ ?_
    show Steps p.tables e below (T109.setTop (mkF m 64 #[.val (.ref a1), .val (.long q), .second, .val (.long q), .second, .val .null, .val (.long q), .second] [])) _
    refine XS.aloadN X109.here hx rfl (hb hby d2_64) rfl rfl ?_
    show Steps p.tables e below (T109.setTop (mkF m 65 #[.val (.ref a1), .val (.long q), .second, .val (.long q), .second, .val .null, .val (.long q), .second] [(.ref a1)])) _
    refine XS.aload X109.here hx rfl (hb hby d2_65) rfl rfl ?_
    show Steps p.tables e below (T109.setTop (mkF m 67 #[.val (.ref a1), .val (.long q), .second, .val (.long q), .second, .val .null, .val (.long q), .second] [.null, (.ref a1)])) _
    refine st114 _ ?_
    show Steps p.tables e below (T114.setTop (mkF m 70 #[.val (.ref a1), .val (.long q), .second, .val (.long q), .second, .val .null, .val (.long q), .second] [])) _
    refine XS.aloadN X114.here hx rfl (hb hby d2_70) rfl rfl ?_
    show Steps p.tables e below (T114.setTop (mkF m 71 #[.val (.ref a1), .val (.long q), .second, .val (.long q), .second, .val .null, .val (.long q), .second] [(.ref a1)])) _
    refine XS.lload X114.here hx rfl (hb hby d2_71) rfl ?_
    show Steps p.tables e below (T114.setTop (mkF m 73 #[.val (.ref a1), .val (.long q), .second, .val (.long q), .second, .val .null, .val (.long q), .second] [(.long q), (.ref a1)])) _
    refine st119 _ ?_
    exact kt
  obtain ⟨fsx, hr, hrun, hended, hW, hsame⟩ := X119.leave (v := none) (fun _ => rfl)
  refine ⟨_, _, pre124 _ ?_, hrun, hended, _, _, rfl, ?_, ⟨_, rfl⟩, hW, hsame.mono (by decide) (by decide)⟩
  · exact X119.returnOut hx Bd.returns (hb hby d2_76) hr
  · show Q2 Z a1 q h0 n0 _ T119.heap _
    rw [e119]
    exact ⟨rfl, Nf119, K119, f121, f122, f123⟩
theorem d1_0 : decode prog_25_method_2_code 0 = .ok (.new 23, 3) := by decide +kernel
theorem d1_3 : decode prog_25_method_2_code 3 = .ok (.dup, 1) := by decide +kernel
theorem d1_4 : decode prog_25_method_2_code 4 = .ok (.lload_n 0, 1) := by decide +kernel
theorem d1_5 : decode prog_25_method_2_code 5 = .ok (.lload_n 0, 1) := by decide +kernel
theorem d1_6 : decode prog_25_method_2_code 6 = .ok (.aconst_null, 1) := by decide +kernel
theorem d1_7 : decode prog_25_method_2_code 7 = .ok (.lload_n 0, 1) := by decide +kernel
theorem pd_1 : parseMethodDescriptor "(JJLjava/time/LocalDateTime;J)V" = some ⟨[.long, .long, (.object "java/time/LocalDateTime"), .long], none⟩ := by decide +kernel
theorem d1_8 : decode prog_25_method_2_code 8 = .ok (.invokespecial 38, 3) := by decide +kernel
theorem d1_11 : decode prog_25_method_2_code 11 = .ok (.areturn, 1) := by decide +kernel
theorem ef_rm1 (m : MethodId) (x0 : Int64) : entryFrame m #[(.long x0)] 2 = mkF m 0 #[.val (.long x0), .second] [] := by first | (simp [entryFrame, mkF, argsToLocals, Value.category]; done) | rfl
def Q1 (Z : State) (q : Int64) (h0 : Heap) (n0 : Nat) (v : Option Value) (h : Heap) (L : List Loc) : Prop := ∃ b : Addr, v = some (.ref b) ∧ Fr n0 L ∧ Keep h0 h [] ∧ h0.size ≤ b ∧ Exa Z h b "com/example/wachtrij/wachtrij/store/ReadPosition" ∧ Fld Z h b "com/example/wachtrij/wachtrij/store/ReadPosition" "committed" "J" (.long q) ∧ Fld Z h b "com/example/wachtrij/wachtrij/store/ReadPosition" "aheadOffset" "J" (.long q) ∧ Fld Z h b "com/example/wachtrij/wachtrij/store/ReadPosition" "aheadDue" "Ljava/time/LocalDateTime;" .null
set_option maxRecDepth 65536 in
set_option maxHeartbeats 40000000 in
theorem rm1 (l : Launch) (Z : State) (a0 : Array Value) (hw : ∀ d ∈ tables_1, d.before a0 Z = true) (ws : List Jvm.Cond) (q : Int64) (h0 : Heap) (n0 : Nat) (Z0 : n0 ≤ h0.size)  :
    MetFree l (⟨"com/example/wachtrij/wachtrij/store/ReadPosition", "committedAt", "(J)Lcom/example/wachtrij/wachtrij/store/ReadPosition;"⟩ : MethodName) (head1 (Jvm.Cond.code (⟨"com/example/wachtrij/wachtrij/store/ReadPosition", "committedAt", "(J)Lcom/example/wachtrij/wachtrij/store/ReadPosition;"⟩ : MethodName) prog_25_method_2_code 2 (some (.object "com/example/wachtrij/wachtrij/store/ReadPosition")) :: ws) ({ frames := 3, cells := 1, slots := 4, locals := 44 } : Room)) (fun a U => a = #[(.long q)] ∧ Z.Warmed39 U.vm ∧ U.heap = h0) (fun _ _ _ _ _ => True) (fun _ U o U' => ∃ v L, o = .returned v ∧ Q1 Z q h0 n0 v U'.heap L ∧ FrameEnd U o U' L ({ frames := 3, cells := 1, slots := 4, locals := 44 } : Room).cells ({ frames := 3, cells := 1, slots := 4, locals := 44 } : Room).slots) := by
  refine MetFree.of_bodySF (plainFor_of_name pn_1) hisR ?_
  intro p e s m args below meth c s₁ Bd hml0 hP hK
  obtain ⟨rfl, hZ, hh⟩ := hP
  have hx := Bd.exec
  have hby := Bd.bytes
  have hml : c.maxLocals = 2 := hml0
  have hown : s.vm.findClass "com/example/wachtrij/wachtrij/store/ReadPosition" = some m.cls := findClass_of_methodNamed Bd.named
  have hnm := (name_of_methodNamed Bd.named Bd.method).1
  have X0 : Stand p l e ({ frames := 3, cells := 1, slots := 4, locals := 44 } : Room) s m #[(.long q)] below meth c s₁ [] 0 0 := Stand.of_body Bd
  have e0 : s₁.heap = h0 := by rw [← hh, Bd.state]; rfl
  have N0 := Fr.nil n0
  have pre0 : ∀ t, Steps p.tables e below (s₁.setTop (mkF m 0 #[.val (.long q), .second] [])) t → Steps p.tables e below (s₁.setTop (entryFrame m #[(.long q)] 2)) t := fun t k => castTop (ef_rm1 m q) k
  obtain ⟨T125, h125, X125, e125, E125, A125, D125, -, st125⟩ := newO X0 hx hZ hown (hw _ (List.mem_of_getElem? (i := 4) rfl)) (hw _ (List.mem_of_getElem? (i := 5) rfl)) (hw _ (List.mem_of_getElem? (i := 2) rfl)) e0 (g := (mkF m 0 #[.val (.long q), .second] [])) rfl (hb hby d1_0) (by decide) (by decide)
  obtain ⟨b125, gq125⟩ : ∃ z, z = h0.size := ⟨_, rfl⟩
  rw [← gq125] at A125 D125 st125
  have g_b125 : n0 ≤ b125 := Nat.le_trans Z0 (Nat.le_of_eq gq125.symm)
  have sz_b125 : h0.size ≤ b125 := Nat.le_trans (Keep.refl h0 []).1 (Nat.le_of_eq gq125.symm)
  have K125 : Keep h0 h125 [] := (Keep.refl h0 []).ext E125
  have Z125 : n0 ≤ h125.size := Nat.le_trans Z0 E125.1
  have fn126 : Fld Z h125 b125 "com/example/wachtrij/wachtrij/store/ReadPosition" "committed" "J" (.long (0 : Int64)) := D125 (Or.inr (hw _ (List.mem_of_getElem? (i := 18) rfl))) (ty := .long) (by decide)
  have fn127 : Fld Z h125 b125 "com/example/wachtrij/wachtrij/store/ReadPosition" "aheadOffset" "J" (.long (0 : Int64)) := D125 (Or.inr (hw _ (List.mem_of_getElem? (i := 20) rfl))) (ty := .long) (by decide)
  have fn128 : Fld Z h125 b125 "com/example/wachtrij/wachtrij/store/ReadPosition" "aheadDue" "Ljava/time/LocalDateTime;" .null := D125 (Or.inr (hw _ (List.mem_of_getElem? (i := 22) rfl))) (ty := (.object "java/time/LocalDateTime")) (by decide)
  have fn129 : Fld Z h125 b125 "com/example/wachtrij/wachtrij/store/ReadPosition" "aheadDueOffset" "J" (.long (0 : Int64)) := D125 (Or.inr (hw _ (List.mem_of_getElem? (i := 24) rfl))) (ty := .long) (by decide)
  obtain ⟨_, _, ⟨T130, L130, k130, n130⟩, -, X130, ⟨Lc130, hQ130, l130, y130, z130⟩, st130⟩ := X125.specialBack hx (y := (⟨"com/example/wachtrij/wachtrij/store/ReadPosition", "<init>", "(JJLjava/time/LocalDateTime;J)V"⟩ : MethodName)) rfl hown (mvT hZ (hw _ (List.mem_of_getElem? (i := 6) rfl))) (mvT hZ (hw _ (List.mem_of_getElem? (i := 7) rfl))) (mvT hZ (hw _ (List.mem_of_getElem? (i := 8) rfl))) (by decide) (backOf (W := 1) (rm2 l Z a0 hw [] b125 q h125 n0 Z125 A125 fn126 fn127 fn128 fn129 g_b125) hZ (hw _ (List.mem_of_getElem? (i := 8) rfl)) (hw _ (List.mem_of_getElem? (i := 2) rfl)) (by decide) (by decide)) (g := (mkF m 8 #[.val (.long q), .second] [(.long q), .null, (.long q), (.long q), (.ref b125), (.ref b125)])) rfl (by rw [hml]; rfl) (Steps.refl _) (a := b125) (argsL := [(.long q), (.long q), .null, (.long q)]) (rest := [(.ref b125)]) (lenOf pd_1 rfl) rfl (by show 2 * 0 + _ ≤ _; exact Nat.le_of_eq rfl) (hb hby d1_8) (fun _ _ => ⟨rfl, e125, (by decide : 1 + 0 ≤ _), (by decide : 4 + 0 ≤ _)⟩)
  dsimp only [Pt.U, Pt.locs, Pt.cells, Pt.slots] at X130 l130 y130 z130 st130 hQ130
  subst l130 y130 z130
  obtain ⟨rfl, Nq130, Kq130, G1, G2, G3⟩ := hQ130
  have f131 := (A125.keep Kq130)
  have Z130 : n0 ≤ T130.heap.size := Nat.le_trans Z125 Kq130.1
  have K130 : Keep h0 T130.heap [] := K125.trans Kq130 (allS (P := fun x => x ∈ ([] : List Addr) ∨ h0.size ≤ x) (Or.inr sz_b125) all0)
  have Nf130 := Fr.app N0 Nq130
  have pre132 : ∀ t, Steps p.tables e below (T130.setTop (mkF m 11 #[.val (.long q), .second] [(.ref b125)])) t → Steps p.tables e below (s₁.setTop (entryFrame m #[(.long q)] 2)) t := by
    intro t kt
    refine pre0 t ?_
    show Steps p.tables e below (s₁.setTop (mkF m 0 #[.val (.long q), .second] [])) _
    refine st125 _ ?_
    show Steps p.tables e below (T125.setTop (mkF m 3 #[.val (.long q), .second] [(.ref b125)])) _
    refine XS.dup X125.here hx rfl (hb hby d1_3) rfl rfl ?_
    show Steps p.tables e below (T125.setTop (mkF m 4 #[.val (.long q), .second] [(.ref b125), (.ref b125)])) _
    refine XS.lloadN X125.here hx rfl (hb hby d1_4) rfl ?_
    show Steps p.tables e below (T125.setTop (mkF m 5 #[.val (.long q), .second] [(.long q), (.ref b125), (.ref b125)])) _
    refine XS.lloadN X125.here hx rfl (hb hby d1_5) rfl ?_
    show Steps p.tables e below (T125.setTop (mkF m 6 #[.val (.long q), .second] [(.long q), (.long q), (.ref b125), (.ref b125)])) _
    refine XS.aconstNull X125.here hx rfl (hb hby d1_6) ?_
    show Steps p.tables e below (T125.setTop (mkF m 7 #[.val (.long q), .second] [.null, (.long q), (.long q), (.ref b125), (.ref b125)])) _
    refine XS.lloadN X125.here hx rfl (hb hby d1_7) rfl ?_
    show Steps p.tables e below (T125.setTop (mkF m 8 #[.val (.long q), .second] [(.long q), .null, (.long q), (.long q), (.ref b125), (.ref b125)])) _
    refine st130.trans ?_
    exact kt
  obtain ⟨fsx, hr, hrun, hended, hW, hsame⟩ := X130.leave (v := some (.ref b125)) (fun h => by rw [Bd.returns] at h; cases h)
  refine ⟨_, _, pre132 _ ?_, hrun, hended, _, _, rfl, ?_, ⟨_, rfl⟩, hW, hsame.mono (by decide) (by decide)⟩
  · jvm_step X130.here [X130.here.top, hx, (hb hby d1_11), X130.method', Bd.returns, Value.isRef, FieldType.isReference]
    first | (intro acts; rw [hr _ acts rfl rfl rfl]) | rw [hr _ _ rfl rfl rfl]
    exact Steps.refl _
  · show Q1 Z q h0 n0 _ T130.heap _
    skip
    exact ⟨b125, rfl, Nf130, K130, sz_b125, f131, G1, G2, G3⟩
theorem d5_0 : decode prog_25_method_8_code 0 = .ok (.aload_n 0, 1) := by decide +kernel
theorem d5_1 : decode prog_25_method_8_code 1 = .ok (.getfield 22, 3) := by decide +kernel
theorem d5_4 : decode prog_25_method_8_code 4 = .ok (.lreturn, 1) := by decide +kernel
theorem ef_rm5 (m : MethodId) (x0 : Addr) : entryFrame m #[(.ref x0)] 1 = mkF m 0 #[.val (.ref x0)] [] := by first | (simp [entryFrame, mkF, argsToLocals, Value.category]; done) | rfl
def Q5 (Z : State) (a1 : Addr) (q : Int64) (h0 : Heap) (n0 : Nat) (v : Option Value) (h : Heap) (L : List Loc) : Prop := v = some (.long q) ∧ Fr n0 L ∧ h = h0
set_option maxRecDepth 65536 in
set_option maxHeartbeats 40000000 in
theorem rm5 (l : Launch) (Z : State) (a0 : Array Value) (hw : ∀ d ∈ tables_1, d.before a0 Z = true) (ws : List Jvm.Cond) (a1 : Addr) (q : Int64) (h0 : Heap) (n0 : Nat) (Z0 : n0 ≤ h0.size) (F1 : Fld Z h0 a1 "com/example/wachtrij/wachtrij/store/ReadPosition" "committed" "J" (.long q)) :
    MetFree l (⟨"com/example/wachtrij/wachtrij/store/ReadPosition", "committed", "()J"⟩ : MethodName) (head1 (Jvm.Cond.code (⟨"com/example/wachtrij/wachtrij/store/ReadPosition", "committed", "()J"⟩ : MethodName) prog_25_method_8_code 1 (some .long) :: ws) ({ frames := 0, cells := 0, slots := 0, locals := 0 } : Room)) (fun a U => a = #[(.ref a1)] ∧ Z.Warmed39 U.vm ∧ U.heap = h0) (fun _ _ _ _ _ => True) (fun _ U o U' => ∃ v L, o = .returned v ∧ Q5 Z a1 q h0 n0 v U'.heap L ∧ FrameEnd U o U' L ({ frames := 0, cells := 0, slots := 0, locals := 0 } : Room).cells ({ frames := 0, cells := 0, slots := 0, locals := 0 } : Room).slots) := by
  refine MetFree.of_bodySF (plainFor_of_name pn_1) hisR ?_
  intro p e s m args below meth c s₁ Bd hml0 hP hK
  obtain ⟨rfl, hZ, hh⟩ := hP
  have hx := Bd.exec
  have hby := Bd.bytes
  have hml : c.maxLocals = 1 := hml0
  have hown : s.vm.findClass "com/example/wachtrij/wachtrij/store/ReadPosition" = some m.cls := findClass_of_methodNamed Bd.named
  have hnm := (name_of_methodNamed Bd.named Bd.method).1
  have X0 : Stand p l e ({ frames := 0, cells := 0, slots := 0, locals := 0 } : Room) s m #[(.ref a1)] below meth c s₁ [] 0 0 := Stand.of_body Bd
  have e0 : s₁.heap = h0 := by rw [← hh, Bd.state]; rfl
  have N0 := Fr.nil n0
  have pre0 : ∀ t, Steps p.tables e below (s₁.setTop (mkF m 0 #[.val (.ref a1)] [])) t → Steps p.tables e below (s₁.setTop (entryFrame m #[(.ref a1)] 1)) t := fun t k => castTop (ef_rm5 m a1) k
  obtain ⟨T133, X133, e133, st133⟩ := getF X0 hx hZ hown (host := "") (Or.inl (hw _ (List.mem_of_getElem? (i := 17) rfl))) Via.refl e0 F1 (g := (mkF m 1 #[.val (.ref a1)] [(.ref a1)])) rfl rfl (hb hby d5_1)
  have pre134 : ∀ t, Steps p.tables e below (T133.setTop (mkF m 4 #[.val (.ref a1)] [(.long q)])) t → Steps p.tables e below (s₁.setTop (entryFrame m #[(.ref a1)] 1)) t := by
    intro t kt
    refine pre0 t ?_
    show Steps p.tables e below (s₁.setTop (mkF m 0 #[.val (.ref a1)] [])) _
    refine XS.aloadN X0.here hx rfl (hb hby d5_0) rfl rfl ?_
    show Steps p.tables e below (s₁.setTop (mkF m 1 #[.val (.ref a1)] [(.ref a1)])) _
    refine st133 _ ?_
    exact kt
  obtain ⟨fsx, hr, hrun, hended, hW, hsame⟩ := X133.leave (v := some (.long q)) (fun h => by rw [Bd.returns] at h; cases h)
  refine ⟨_, _, pre134 _ ?_, hrun, hended, _, _, rfl, ?_, ⟨_, rfl⟩, hW, hsame.mono (by decide) (by decide)⟩
  · jvm_step X133.here [X133.here.top, hx, (hb hby d5_4), X133.method', Bd.returns, narrow]
    first | (intro acts; rw [hr _ acts rfl rfl rfl]) | rw [hr _ _ rfl rfl rfl]
    exact Steps.refl _
  · show Q5 Z a1 q h0 n0 _ T133.heap _
    rw [e133]
    exact ⟨rfl, N0, rfl⟩
theorem d6_0 : decode prog_25_method_9_code 0 = .ok (.aload_n 0, 1) := by decide +kernel
theorem d6_1 : decode prog_25_method_9_code 1 = .ok (.getfield 28, 3) := by decide +kernel
theorem d6_4 : decode prog_25_method_9_code 4 = .ok (.lreturn, 1) := by decide +kernel
theorem ef_rm6 (m : MethodId) (x0 : Addr) : entryFrame m #[(.ref x0)] 1 = mkF m 0 #[.val (.ref x0)] [] := by first | (simp [entryFrame, mkF, argsToLocals, Value.category]; done) | rfl
def Q6 (Z : State) (a1 : Addr) (q : Int64) (h0 : Heap) (n0 : Nat) (v : Option Value) (h : Heap) (L : List Loc) : Prop := v = some (.long q) ∧ Fr n0 L ∧ h = h0
set_option maxRecDepth 65536 in
set_option maxHeartbeats 40000000 in
theorem rm6 (l : Launch) (Z : State) (a0 : Array Value) (hw : ∀ d ∈ tables_1, d.before a0 Z = true) (ws : List Jvm.Cond) (a1 : Addr) (q : Int64) (h0 : Heap) (n0 : Nat) (Z0 : n0 ≤ h0.size) (F1 : Fld Z h0 a1 "com/example/wachtrij/wachtrij/store/ReadPosition" "aheadOffset" "J" (.long q)) :
    MetFree l (⟨"com/example/wachtrij/wachtrij/store/ReadPosition", "aheadOffset", "()J"⟩ : MethodName) (head1 (Jvm.Cond.code (⟨"com/example/wachtrij/wachtrij/store/ReadPosition", "aheadOffset", "()J"⟩ : MethodName) prog_25_method_9_code 1 (some .long) :: ws) ({ frames := 0, cells := 0, slots := 0, locals := 0 } : Room)) (fun a U => a = #[(.ref a1)] ∧ Z.Warmed39 U.vm ∧ U.heap = h0) (fun _ _ _ _ _ => True) (fun _ U o U' => ∃ v L, o = .returned v ∧ Q6 Z a1 q h0 n0 v U'.heap L ∧ FrameEnd U o U' L ({ frames := 0, cells := 0, slots := 0, locals := 0 } : Room).cells ({ frames := 0, cells := 0, slots := 0, locals := 0 } : Room).slots) := by
  refine MetFree.of_bodySF (plainFor_of_name pn_1) hisR ?_
  intro p e s m args below meth c s₁ Bd hml0 hP hK
  obtain ⟨rfl, hZ, hh⟩ := hP
  have hx := Bd.exec
  have hby := Bd.bytes
  have hml : c.maxLocals = 1 := hml0
  have hown : s.vm.findClass "com/example/wachtrij/wachtrij/store/ReadPosition" = some m.cls := findClass_of_methodNamed Bd.named
  have hnm := (name_of_methodNamed Bd.named Bd.method).1
  have X0 : Stand p l e ({ frames := 0, cells := 0, slots := 0, locals := 0 } : Room) s m #[(.ref a1)] below meth c s₁ [] 0 0 := Stand.of_body Bd
  have e0 : s₁.heap = h0 := by rw [← hh, Bd.state]; rfl
  have N0 := Fr.nil n0
  have pre0 : ∀ t, Steps p.tables e below (s₁.setTop (mkF m 0 #[.val (.ref a1)] [])) t → Steps p.tables e below (s₁.setTop (entryFrame m #[(.ref a1)] 1)) t := fun t k => castTop (ef_rm6 m a1) k
  obtain ⟨T135, X135, e135, st135⟩ := getF X0 hx hZ hown (host := "") (Or.inl (hw _ (List.mem_of_getElem? (i := 19) rfl))) Via.refl e0 F1 (g := (mkF m 1 #[.val (.ref a1)] [(.ref a1)])) rfl rfl (hb hby d6_1)
  have pre136 : ∀ t, Steps p.tables e below (T135.setTop (mkF m 4 #[.val (.ref a1)] [(.long q)])) t → Steps p.tables e below (s₁.setTop (entryFrame m #[(.ref a1)] 1)) t := by
    intro t kt
    refine pre0 t ?_
    show Steps p.tables e below (s₁.setTop (mkF m 0 #[.val (.ref a1)] [])) _
    refine XS.aloadN X0.here hx rfl (hb hby d6_0) rfl rfl ?_
    show Steps p.tables e below (s₁.setTop (mkF m 1 #[.val (.ref a1)] [(.ref a1)])) _
    refine st135 _ ?_
    exact kt
  obtain ⟨fsx, hr, hrun, hended, hW, hsame⟩ := X135.leave (v := some (.long q)) (fun h => by rw [Bd.returns] at h; cases h)
  refine ⟨_, _, pre136 _ ?_, hrun, hended, _, _, rfl, ?_, ⟨_, rfl⟩, hW, hsame.mono (by decide) (by decide)⟩
  · jvm_step X135.here [X135.here.top, hx, (hb hby d6_4), X135.method', Bd.returns, narrow]
    first | (intro acts; rw [hr _ acts rfl rfl rfl]) | rw [hr _ _ rfl rfl rfl]
    exact Steps.refl _
  · show Q6 Z a1 q h0 n0 _ T135.heap _
    rw [e135]
    exact ⟨rfl, N0, rfl⟩
theorem d7_0 : decode prog_25_method_10_code 0 = .ok (.aload_n 0, 1) := by decide +kernel
theorem d7_1 : decode prog_25_method_10_code 1 = .ok (.getfield 31, 3) := by decide +kernel
theorem d7_4 : decode prog_25_method_10_code 4 = .ok (.areturn, 1) := by decide +kernel
theorem ef_rm7 (m : MethodId) (x0 : Addr) : entryFrame m #[(.ref x0)] 1 = mkF m 0 #[.val (.ref x0)] [] := by first | (simp [entryFrame, mkF, argsToLocals, Value.category]; done) | rfl
def Q7 (Z : State) (a1 : Addr) (h0 : Heap) (n0 : Nat) (v : Option Value) (h : Heap) (L : List Loc) : Prop := v = some .null ∧ Fr n0 L ∧ h = h0
set_option maxRecDepth 65536 in
set_option maxHeartbeats 40000000 in
theorem rm7 (l : Launch) (Z : State) (a0 : Array Value) (hw : ∀ d ∈ tables_1, d.before a0 Z = true) (ws : List Jvm.Cond) (a1 : Addr) (h0 : Heap) (n0 : Nat) (Z0 : n0 ≤ h0.size) (F1 : Fld Z h0 a1 "com/example/wachtrij/wachtrij/store/ReadPosition" "aheadDue" "Ljava/time/LocalDateTime;" .null) :
    MetFree l (⟨"com/example/wachtrij/wachtrij/store/ReadPosition", "aheadDue", "()Ljava/time/LocalDateTime;"⟩ : MethodName) (head1 (Jvm.Cond.code (⟨"com/example/wachtrij/wachtrij/store/ReadPosition", "aheadDue", "()Ljava/time/LocalDateTime;"⟩ : MethodName) prog_25_method_10_code 1 (some (.object "java/time/LocalDateTime")) :: ws) ({ frames := 0, cells := 0, slots := 0, locals := 0 } : Room)) (fun a U => a = #[(.ref a1)] ∧ Z.Warmed39 U.vm ∧ U.heap = h0) (fun _ _ _ _ _ => True) (fun _ U o U' => ∃ v L, o = .returned v ∧ Q7 Z a1 h0 n0 v U'.heap L ∧ FrameEnd U o U' L ({ frames := 0, cells := 0, slots := 0, locals := 0 } : Room).cells ({ frames := 0, cells := 0, slots := 0, locals := 0 } : Room).slots) := by
  refine MetFree.of_bodySF (plainFor_of_name pn_1) hisR ?_
  intro p e s m args below meth c s₁ Bd hml0 hP hK
  obtain ⟨rfl, hZ, hh⟩ := hP
  have hx := Bd.exec
  have hby := Bd.bytes
  have hml : c.maxLocals = 1 := hml0
  have hown : s.vm.findClass "com/example/wachtrij/wachtrij/store/ReadPosition" = some m.cls := findClass_of_methodNamed Bd.named
  have hnm := (name_of_methodNamed Bd.named Bd.method).1
  have X0 : Stand p l e ({ frames := 0, cells := 0, slots := 0, locals := 0 } : Room) s m #[(.ref a1)] below meth c s₁ [] 0 0 := Stand.of_body Bd
  have e0 : s₁.heap = h0 := by rw [← hh, Bd.state]; rfl
  have N0 := Fr.nil n0
  have pre0 : ∀ t, Steps p.tables e below (s₁.setTop (mkF m 0 #[.val (.ref a1)] [])) t → Steps p.tables e below (s₁.setTop (entryFrame m #[(.ref a1)] 1)) t := fun t k => castTop (ef_rm7 m a1) k
  obtain ⟨T137, X137, e137, st137⟩ := getF X0 hx hZ hown (host := "") (Or.inl (hw _ (List.mem_of_getElem? (i := 21) rfl))) Via.refl e0 F1 (g := (mkF m 1 #[.val (.ref a1)] [(.ref a1)])) rfl rfl (hb hby d7_1)
  have pre138 : ∀ t, Steps p.tables e below (T137.setTop (mkF m 4 #[.val (.ref a1)] [.null])) t → Steps p.tables e below (s₁.setTop (entryFrame m #[(.ref a1)] 1)) t := by
    intro t kt
    refine pre0 t ?_
    show Steps p.tables e below (s₁.setTop (mkF m 0 #[.val (.ref a1)] [])) _
    refine XS.aloadN X0.here hx rfl (hb hby d7_0) rfl rfl ?_
    show Steps p.tables e below (s₁.setTop (mkF m 1 #[.val (.ref a1)] [(.ref a1)])) _
    refine st137 _ ?_
    exact kt
  obtain ⟨fsx, hr, hrun, hended, hW, hsame⟩ := X137.leave (v := some .null) (fun h => by rw [Bd.returns] at h; cases h)
  refine ⟨_, _, pre138 _ ?_, hrun, hended, _, _, rfl, ?_, ⟨_, rfl⟩, hW, hsame.mono (by decide) (by decide)⟩
  · jvm_step X137.here [X137.here.top, hx, (hb hby d7_4), X137.method', Bd.returns, Value.isRef, FieldType.isReference]
    first | (intro acts; rw [hr _ acts rfl rfl rfl]) | rw [hr _ _ rfl rfl rfl]
    exact Steps.refl _
  · show Q7 Z a1 h0 n0 _ T137.heap _
    rw [e137]
    exact ⟨rfl, N0, rfl⟩
theorem d8_0 : decode prog_25_method_4_code 0 = .ok (.aload_n 0, 1) := by decide +kernel
theorem d8_1 : decode prog_25_method_4_code 1 = .ok (.getfield 28, 3) := by decide +kernel
theorem d8_4 : decode prog_25_method_4_code 4 = .ok (.aload_n 0, 1) := by decide +kernel
theorem d8_5 : decode prog_25_method_4_code 5 = .ok (.getfield 22, 3) := by decide +kernel
theorem d8_8 : decode prog_25_method_4_code 8 = .ok (.lcmp, 1) := by decide +kernel
theorem d8_9 : decode prog_25_method_4_code 9 = .ok (.ifCond .le 7, 3) := by decide +kernel
theorem d8_16 : decode prog_25_method_4_code 16 = .ok (.iconst 0, 1) := by decide +kernel
theorem d8_17 : decode prog_25_method_4_code 17 = .ok (.ireturn, 1) := by decide +kernel
theorem ef_rm8 (m : MethodId) (x0 : Addr) : entryFrame m #[(.ref x0)] 1 = mkF m 0 #[.val (.ref x0)] [] := by first | (simp [entryFrame, mkF, argsToLocals, Value.category]; done) | rfl
def Q8 (Z : State) (a1 : Addr) (q : Int64) (h0 : Heap) (n0 : Nat) (v : Option Value) (h : Heap) (L : List Loc) : Prop := v = some (.int 0) ∧ Fr n0 L ∧ h = h0
set_option maxRecDepth 65536 in
set_option maxHeartbeats 40000000 in
theorem rm8 (l : Launch) (Z : State) (a0 : Array Value) (hw : ∀ d ∈ tables_1, d.before a0 Z = true) (ws : List Jvm.Cond) (a1 : Addr) (q : Int64) (h0 : Heap) (n0 : Nat) (Z0 : n0 ≤ h0.size) (F1 : Fld Z h0 a1 "com/example/wachtrij/wachtrij/store/ReadPosition" "committed" "J" (.long q)) (F2 : Fld Z h0 a1 "com/example/wachtrij/wachtrij/store/ReadPosition" "aheadOffset" "J" (.long q)) :
    MetFree l (⟨"com/example/wachtrij/wachtrij/store/ReadPosition", "hasFinishedAhead", "()Z"⟩ : MethodName) (head1 (Jvm.Cond.code (⟨"com/example/wachtrij/wachtrij/store/ReadPosition", "hasFinishedAhead", "()Z"⟩ : MethodName) prog_25_method_4_code 1 (some .boolean) :: ws) ({ frames := 0, cells := 0, slots := 0, locals := 0 } : Room)) (fun a U => a = #[(.ref a1)] ∧ Z.Warmed39 U.vm ∧ U.heap = h0) (fun _ _ _ _ _ => True) (fun _ U o U' => ∃ v L, o = .returned v ∧ Q8 Z a1 q h0 n0 v U'.heap L ∧ FrameEnd U o U' L ({ frames := 0, cells := 0, slots := 0, locals := 0 } : Room).cells ({ frames := 0, cells := 0, slots := 0, locals := 0 } : Room).slots) := by
  refine MetFree.of_bodySF (plainFor_of_name pn_1) hisR ?_
  intro p e s m args below meth c s₁ Bd hml0 hP hK
  obtain ⟨rfl, hZ, hh⟩ := hP
  have hx := Bd.exec
  have hby := Bd.bytes
  have hml : c.maxLocals = 1 := hml0
  have hown : s.vm.findClass "com/example/wachtrij/wachtrij/store/ReadPosition" = some m.cls := findClass_of_methodNamed Bd.named
  have hnm := (name_of_methodNamed Bd.named Bd.method).1
  have X0 : Stand p l e ({ frames := 0, cells := 0, slots := 0, locals := 0 } : Room) s m #[(.ref a1)] below meth c s₁ [] 0 0 := Stand.of_body Bd
  have e0 : s₁.heap = h0 := by rw [← hh, Bd.state]; rfl
  have N0 := Fr.nil n0
  have pre0 : ∀ t, Steps p.tables e below (s₁.setTop (mkF m 0 #[.val (.ref a1)] [])) t → Steps p.tables e below (s₁.setTop (entryFrame m #[(.ref a1)] 1)) t := fun t k => castTop (ef_rm8 m a1) k
  obtain ⟨T139, X139, e139, st139⟩ := getF X0 hx hZ hown (host := "") (Or.inl (hw _ (List.mem_of_getElem? (i := 19) rfl))) Via.refl e0 F2 (g := (mkF m 1 #[.val (.ref a1)] [(.ref a1)])) rfl rfl (hb hby d8_1)
  obtain ⟨T140, X140, e140, st140⟩ := getF X139 hx hZ hown (host := "") (Or.inl (hw _ (List.mem_of_getElem? (i := 17) rfl))) Via.refl e139 F1 (g := (mkF m 5 #[.val (.ref a1)] [(.ref a1), (.long q)])) rfl rfl (hb hby d8_5)
  have pre141 : ∀ t, Steps p.tables e below (T140.setTop (mkF m 17 #[.val (.ref a1)] [(.int (0 : Int32))])) t → Steps p.tables e below (s₁.setTop (entryFrame m #[(.ref a1)] 1)) t := by
    intro t kt
    refine pre0 t ?_
    show Steps p.tables e below (s₁.setTop (mkF m 0 #[.val (.ref a1)] [])) _
    refine XS.aloadN X0.here hx rfl (hb hby d8_0) rfl rfl ?_
    show Steps p.tables e below (s₁.setTop (mkF m 1 #[.val (.ref a1)] [(.ref a1)])) _
    refine st139 _ ?_
    show Steps p.tables e below (T139.setTop (mkF m 4 #[.val (.ref a1)] [(.long q)])) _
    refine XS.aloadN X139.here hx rfl (hb hby d8_4) rfl rfl ?_
    show Steps p.tables e below (T139.setTop (mkF m 5 #[.val (.ref a1)] [(.ref a1), (.long q)])) _
    refine st140 _ ?_
    show Steps p.tables e below (T140.setTop (mkF m 8 #[.val (.ref a1)] [(.long q), (.long q)])) _
    refine XS.lcmp X140.here hx rfl (hb hby d8_8) rfl ?_
    show Steps p.tables e below (T140.setTop (mkF m 9 #[.val (.ref a1)] [(.int (lcmpW q q))])) _
    refine XS.ifYes X140.here hx rfl (pc0 := 9) (pc' := 16) rfl (hb hby d8_9) rfl ((if0 _ _).trans (flt (fun qz => (own_irr q) ((lw_gt _ _).mp qz))).2.2.2) (by decide) (by decide) ?_
    show Steps p.tables e below (T140.setTop (mkF m 16 #[.val (.ref a1)] [])) _
    refine XS.iconst X140.here hx rfl (hb hby d8_16) ?_
    exact kt
  obtain ⟨fsx, hr, hrun, hended, hW, hsame⟩ := X140.leave (v := some (.int (nar .boolean (0 : Int32)))) (fun h => by rw [Bd.returns] at h; cases h)
  refine ⟨_, _, pre141 _ ?_, hrun, hended, _, _, rfl, ?_, ⟨_, rfl⟩, hW, hsame.mono (by decide) (by decide)⟩
  · exact retN X140 hx (t := .boolean) Bd.returns (by simp) (hb hby d8_17) hr
  · show Q8 Z a1 q h0 n0 _ T140.heap _
    rw [e140]
    exact ⟨rfl, N0, rfl⟩
theorem d9_0 : decode prog_25_method_3_code 0 = .ok (.lload_n 1, 1) := by decide +kernel
theorem d9_1 : decode prog_25_method_3_code 1 = .ok (.aload_n 0, 1) := by decide +kernel
theorem d9_2 : decode prog_25_method_3_code 2 = .ok (.getfield 28, 3) := by decide +kernel
theorem d9_5 : decode prog_25_method_3_code 5 = .ok (.lcmp, 1) := by decide +kernel
theorem d9_6 : decode prog_25_method_3_code 6 = .ok (.ifCond .gt 10, 3) := by decide +kernel
theorem d9_16 : decode prog_25_method_3_code 16 = .ok (.iconst 1, 1) := by decide +kernel
theorem d9_17 : decode prog_25_method_3_code 17 = .ok (.goto 4, 3) := by decide +kernel
theorem d9_21 : decode prog_25_method_3_code 21 = .ok (.ireturn, 1) := by decide +kernel
theorem d9_9 : decode prog_25_method_3_code 9 = .ok (.aload_n 0, 1) := by decide +kernel
theorem pd_2 : parseMethodDescriptor "()Z" = some ⟨[], some .boolean⟩ := by decide +kernel
theorem d9_10 : decode prog_25_method_3_code 10 = .ok (.invokevirtual 41, 3) := by decide +kernel
theorem d9_13 : decode prog_25_method_3_code 13 = .ok (.ifCond .eq 7, 3) := by decide +kernel
theorem d9_20 : decode prog_25_method_3_code 20 = .ok (.iconst 0, 1) := by decide +kernel
theorem ef_rm9 (m : MethodId) (x0 : Addr) (x1 : Int64) : entryFrame m #[(.ref x0), (.long x1)] 3 = mkF m 0 #[.val (.ref x0), .val (.long x1), .second] [] := by first | (simp [entryFrame, mkF, argsToLocals, Value.category]; done) | rfl
def Q9 (Z : State) (a1 : Addr) (q2 : Int64) (q : Int64) (h0 : Heap) (n0 : Nat) (v : Option Value) (h : Heap) (L : List Loc) : Prop := v = some (.int (if q < q2 then 1 else 0)) ∧ Fr n0 L ∧ h = h0
set_option maxRecDepth 65536 in
set_option maxHeartbeats 40000000 in
theorem rm9 (l : Launch) (Z : State) (a0 : Array Value) (hw : ∀ d ∈ tables_1, d.before a0 Z = true) (ws : List Jvm.Cond) (a1 : Addr) (q2 : Int64) (q : Int64) (h0 : Heap) (n0 : Nat) (Z0 : n0 ≤ h0.size) (E1 : Exa Z h0 a1 "com/example/wachtrij/wachtrij/store/ReadPosition") (F1 : Fld Z h0 a1 "com/example/wachtrij/wachtrij/store/ReadPosition" "committed" "J" (.long q)) (F2 : Fld Z h0 a1 "com/example/wachtrij/wachtrij/store/ReadPosition" "aheadOffset" "J" (.long q)) :
    MetFree l (⟨"com/example/wachtrij/wachtrij/store/ReadPosition", "mayLeaveUnfinished", "(J)Z"⟩ : MethodName) (head1 (Jvm.Cond.code (⟨"com/example/wachtrij/wachtrij/store/ReadPosition", "mayLeaveUnfinished", "(J)Z"⟩ : MethodName) prog_25_method_3_code 3 (some .boolean) :: ws) ({ frames := 1, cells := 0, slots := 0, locals := 12 } : Room)) (fun a U => a = #[(.ref a1), (.long q2)] ∧ Z.Warmed39 U.vm ∧ U.heap = h0) (fun _ _ _ _ _ => True) (fun _ U o U' => ∃ v L, o = .returned v ∧ Q9 Z a1 q2 q h0 n0 v U'.heap L ∧ FrameEnd U o U' L ({ frames := 1, cells := 0, slots := 0, locals := 12 } : Room).cells ({ frames := 1, cells := 0, slots := 0, locals := 12 } : Room).slots) := by
  refine MetFree.of_bodySF (plainFor_of_name pn_1) hisR ?_
  intro p e s m args below meth c s₁ Bd hml0 hP hK
  obtain ⟨rfl, hZ, hh⟩ := hP
  have hx := Bd.exec
  have hby := Bd.bytes
  have hml : c.maxLocals = 3 := hml0
  have hown : s.vm.findClass "com/example/wachtrij/wachtrij/store/ReadPosition" = some m.cls := findClass_of_methodNamed Bd.named
  have hnm := (name_of_methodNamed Bd.named Bd.method).1
  have X0 : Stand p l e ({ frames := 1, cells := 0, slots := 0, locals := 12 } : Room) s m #[(.ref a1), (.long q2)] below meth c s₁ [] 0 0 := Stand.of_body Bd
  have e0 : s₁.heap = h0 := by rw [← hh, Bd.state]; rfl
  have N0 := Fr.nil n0
  have pre0 : ∀ t, Steps p.tables e below (s₁.setTop (mkF m 0 #[.val (.ref a1), .val (.long q2), .second] [])) t → Steps p.tables e below (s₁.setTop (entryFrame m #[(.ref a1), (.long q2)] 3)) t := fun t k => castTop (ef_rm9 m a1 q2) k
  obtain ⟨T142, X142, e142, st142⟩ := getF X0 hx hZ hown (host := "") (Or.inl (hw _ (List.mem_of_getElem? (i := 19) rfl))) Via.refl e0 F2 (g := (mkF m 2 #[.val (.ref a1), .val (.long q2), .second] [(.ref a1), (.long q2)])) rfl rfl (hb hby d9_2)
  have pre143 : ∀ t, Steps p.tables e below (T142.setTop (mkF m 6 #[.val (.ref a1), .val (.long q2), .second] [(.int (lcmpW q2 q))])) t → Steps p.tables e below (s₁.setTop (entryFrame m #[(.ref a1), (.long q2)] 3)) t := by
    intro t kt
    refine pre0 t ?_
    show Steps p.tables e below (s₁.setTop (mkF m 0 #[.val (.ref a1), .val (.long q2), .second] [])) _
    refine XS.lloadN X0.here hx rfl (hb hby d9_0) rfl ?_
    show Steps p.tables e below (s₁.setTop (mkF m 1 #[.val (.ref a1), .val (.long q2), .second] [(.long q2)])) _
    refine XS.aloadN X0.here hx rfl (hb hby d9_1) rfl rfl ?_
    show Steps p.tables e below (s₁.setTop (mkF m 2 #[.val (.ref a1), .val (.long q2), .second] [(.ref a1), (.long q2)])) _
    refine st142 _ ?_
    show Steps p.tables e below (T142.setTop (mkF m 5 #[.val (.ref a1), .val (.long q2), .second] [(.long q), (.long q2)])) _
    refine XS.lcmp X142.here hx rfl (hb hby d9_5) rfl ?_
    exact kt
  by_cases hc6 : q < q2
  · have pre144 : ∀ t, Steps p.tables e below (T142.setTop (mkF m 21 #[.val (.ref a1), .val (.long q2), .second] [(.int (1 : Int32))])) t → Steps p.tables e below (s₁.setTop (entryFrame m #[(.ref a1), (.long q2)] 3)) t := by
      intro t kt
      refine pre143 t ?_
      show Steps p.tables e below (T142.setTop (mkF m 6 #[.val (.ref a1), .val (.long q2), .second] [(.int (lcmpW q2 q))])) _
      refine XS.ifYes X142.here hx rfl (pc0 := 6) (pc' := 16) rfl (hb hby d9_6) rfl ((if0 _ _).trans (tlt ((lw_gt _ _).mpr hc6)).2.2.1) (by decide) (by decide) ?_
      show Steps p.tables e below (T142.setTop (mkF m 16 #[.val (.ref a1), .val (.long q2), .second] [])) _
      refine XS.iconst X142.here hx rfl (hb hby d9_16) ?_
      show Steps p.tables e below (T142.setTop (mkF m 17 #[.val (.ref a1), .val (.long q2), .second] [(.int (1 : Int32))])) _
      refine XS.goto X142.here hx rfl (pc0 := 17) (pc' := 21) rfl (hb hby d9_17) (by decide) (by decide) ?_
      exact kt
    obtain ⟨fsx, hr, hrun, hended, hW, hsame⟩ := X142.leave (v := some (.int (nar .boolean (1 : Int32)))) (fun h => by rw [Bd.returns] at h; cases h)
    refine ⟨_, _, pre144 _ ?_, hrun, hended, _, _, rfl, ?_, ⟨_, rfl⟩, hW, hsame.mono (by decide) (by decide)⟩
    · exact retN X142 hx (t := .boolean) Bd.returns (by simp) (hb hby d9_21) hr
    · show Q9 Z a1 q2 q h0 n0 _ T142.heap _
      rw [e142]
      exact ⟨by rw [if_pos hc6]; rfl, N0, rfl⟩
  · obtain ⟨cq145, kq145, q145a, q145b, q145c⟩ := isOf hZ e142 E1
    obtain ⟨_, _, ⟨T145, L145, k145, n145⟩, -, X145, ⟨Lc145, hQ145, l145, y145, z145⟩, st145⟩ := X142.virtualBack hx (y := (⟨"com/example/wachtrij/wachtrij/store/ReadPosition", "hasFinishedAhead", "()Z"⟩ : MethodName)) (z := (⟨"com/example/wachtrij/wachtrij/store/ReadPosition", "hasFinishedAhead", "()Z"⟩ : MethodName)) hown (mvT hZ (hw _ (List.mem_of_getElem? (i := 50) rfl))) (mvT hZ (hw _ (List.mem_of_getElem? (i := 41) rfl))) (notFace_of_selects (args := #[]) (mvT hZ (hw _ (List.mem_of_getElem? (i := 43) rfl)))) (mvT hZ (hw _ (List.mem_of_getElem? (i := 43) rfl))) (mvT hZ (hw _ (List.mem_of_getElem? (i := 42) rfl))) (by decide) (backOf (W := 0) (rm8 l Z a0 hw [] a1 q h0 n0 Z0 F1 F2) hZ (hw _ (List.mem_of_getElem? (i := 44) rfl)) (hw _ (List.mem_of_getElem? (i := 2) rfl)) (by decide) (by decide)) q145a q145c (g := (mkF m 10 #[.val (.ref a1), .val (.long q2), .second] [(.ref a1)])) rfl (by rw [hml]; rfl) (Steps.refl _) (argsL := []) (rest := []) (lenOf pd_2 rfl) rfl (by show 2 * 0 + _ ≤ _; exact Nat.le_of_eq rfl) (hb hby d9_10) (fun _ _ => ⟨rfl, e142, (by decide : 0 + 0 ≤ _), (by decide : 0 + 0 ≤ _)⟩)
    dsimp only [Pt.U, Pt.locs, Pt.cells, Pt.slots] at X145 l145 y145 z145 st145 hQ145
    subst l145 y145 z145
    obtain ⟨rfl, Nq145, eq145⟩ := hQ145
    have Nf145 := Fr.app N0 Nq145
    have pre146 : ∀ t, Steps p.tables e below (T145.setTop (mkF m 21 #[.val (.ref a1), .val (.long q2), .second] [(.int (0 : Int32))])) t → Steps p.tables e below (s₁.setTop (entryFrame m #[(.ref a1), (.long q2)] 3)) t := by
      intro t kt
      refine pre143 t ?_
      show Steps p.tables e below (T142.setTop (mkF m 6 #[.val (.ref a1), .val (.long q2), .second] [(.int (lcmpW q2 q))])) _
      refine XS.ifNo X142.here hx rfl (hb hby d9_6) rfl ((if0 _ _).trans (flt (fun qz => hc6 ((lw_gt _ _).mp qz))).2.2.1) ?_
      show Steps p.tables e below (T142.setTop (mkF m 9 #[.val (.ref a1), .val (.long q2), .second] [])) _
      refine XS.aloadN X142.here hx rfl (hb hby d9_9) rfl rfl ?_
      show Steps p.tables e below (T142.setTop (mkF m 10 #[.val (.ref a1), .val (.long q2), .second] [(.ref a1)])) _
      refine st145.trans ?_
      show Steps p.tables e below (T145.setTop (mkF m 13 #[.val (.ref a1), .val (.long q2), .second] [(.int (0 : Int32))])) _
      refine XS.ifYes X145.here hx rfl (pc0 := 13) (pc' := 20) rfl (hb hby d9_13) rfl ((if0 _ _).trans (teq rfl).1) (by decide) (by decide) ?_
      show Steps p.tables e below (T145.setTop (mkF m 20 #[.val (.ref a1), .val (.long q2), .second] [])) _
      refine XS.iconst X145.here hx rfl (hb hby d9_20) ?_
      exact kt
    obtain ⟨fsx, hr, hrun, hended, hW, hsame⟩ := X145.leave (v := some (.int (nar .boolean (0 : Int32)))) (fun h => by rw [Bd.returns] at h; cases h)
    refine ⟨_, _, pre146 _ ?_, hrun, hended, _, _, rfl, ?_, ⟨_, rfl⟩, hW, hsame.mono (by decide) (by decide)⟩
    · exact retN X145 hx (t := .boolean) Bd.returns (by simp) (hb hby d9_21) hr
    · show Q9 Z a1 q2 q h0 n0 _ T145.heap _
      rw [eq145]
      exact ⟨by rw [if_neg hc6]; rfl, Nf145, rfl⟩
theorem pd_3 : parseMethodDescriptor "(J)Lcom/example/wachtrij/wachtrij/store/ReadPosition;" = some ⟨[.long], some (.object "com/example/wachtrij/wachtrij/store/ReadPosition")⟩ := by decide +kernel
theorem pd_4 : parseMethodDescriptor "()J" = some ⟨[], some .long⟩ := by decide +kernel
theorem pd_5 : parseMethodDescriptor "()Ljava/time/LocalDateTime;" = some ⟨[], some (.object "java/time/LocalDateTime")⟩ := by decide +kernel
theorem pd_6 : parseMethodDescriptor "(J)Z" = some ⟨[.long], some .boolean⟩ := by decide +kernel
theorem pn_2 : plainName "com/example/wachtrij/wachtrij/store/ReadPositionCommittedAtPinLaw" = true := by first | (simp [plainName, overriddenIn]; done) | decide +kernel
theorem ef_rm0 (m : MethodId) (x0 : Int64) (x1 : Int64) : entryFrame m #[(.long x0), (.long x1)] maxLocals = mkF m 0 #[.val (.long x0), .second, .val (.long x1), .second, .unset, .unset, .unset, .unset] [] := by first | (simp [entryFrame, mkF, argsToLocals, Value.category, maxLocals]; done) | rfl
def Q0 (Z : State) (q : Int64) (q2 : Int64) (h0 : Heap) (n0 : Nat) (v : Option Value) (h : Heap) (L : List Loc) : Prop := v = some (.int 1) ∧ Fr n0 L
set_option maxRecDepth 65536 in
set_option maxHeartbeats 40000000 in
theorem rm0 (l : Launch) (Z : State) (a0 : Array Value) (hw : ∀ d ∈ tables_1, d.before a0 Z = true) (ws : List Jvm.Cond) (q : Int64) (q2 : Int64) (h0 : Heap) (n0 : Nat) (Z0 : n0 ≤ h0.size)  :
    MetFree l x (head1 (Jvm.Cond.code x code maxLocals ret :: ws) room_1) (fun a U => a = #[(.long q), (.long q2)] ∧ Z.Warmed39 U.vm ∧ U.heap = h0) (fun _ _ _ _ _ => True) (fun _ U o U' => ∃ v L, o = .returned v ∧ Q0 Z q q2 h0 n0 v U'.heap L ∧ FrameEnd U o U' L room_1.cells room_1.slots) := by
  refine MetFree.of_bodySF (plainFor_of_name pn_2) hisR ?_
  intro p e s m args below meth c s₁ Bd hml0 hP hK
  obtain ⟨rfl, hZ, hh⟩ := hP
  have hx := Bd.exec
  have hby := Bd.bytes
  have hml : c.maxLocals = 8 := hml0
  have hown : s.vm.findClass "com/example/wachtrij/wachtrij/store/ReadPositionCommittedAtPinLaw" = some m.cls := findClass_of_methodNamed Bd.named
  have hnm := (name_of_methodNamed Bd.named Bd.method).1
  have X0 : Stand p l e room_1 s m #[(.long q), (.long q2)] below meth c s₁ [] 0 0 := Stand.of_body Bd
  have e0 : s₁.heap = h0 := by rw [← hh, Bd.state]; rfl
  have N0 := Fr.nil n0
  have pre0 : ∀ t, Steps p.tables e below (s₁.setTop (mkF m 0 #[.val (.long q), .second, .val (.long q2), .second, .unset, .unset, .unset, .unset] [])) t → Steps p.tables e below (s₁.setTop (entryFrame m #[(.long q), (.long q2)] maxLocals)) t := fun t k => castTop (ef_rm0 m q q2) k
  obtain ⟨_, _, ⟨T147, L147, k147, n147⟩, -, X147, ⟨Lc147, hQ147, l147, y147, z147⟩, st147⟩ := Jvm.LawKit.callS X0 hx (y := (⟨"com/example/wachtrij/wachtrij/store/ReadPosition", "committedAt", "(J)Lcom/example/wachtrij/wachtrij/store/ReadPosition;"⟩ : MethodName)) hown (mvT hZ (hw _ (List.mem_of_getElem? (i := 0) rfl))) (mvT hZ (hw _ (List.mem_of_getElem? (i := 1) rfl))) (mvT hZ (hw _ (List.mem_of_getElem? (i := 2) rfl))) (mvT hZ (hw _ (List.mem_of_getElem? (i := 3) rfl))) (by decide) (backOf (W := 0) (rm1 l Z a0 hw [] q h0 n0 Z0) hZ (hw _ (List.mem_of_getElem? (i := 3) rfl)) (hw _ (List.mem_of_getElem? (i := 2) rfl)) (by decide) (by decide)) (g := (mkF m 1 #[.val (.long q), .second, .val (.long q2), .second, .unset, .unset, .unset, .unset] [(.long q)])) rfl (by rw [hml]; rfl) (argsL := [(.long q)]) (rest := []) (lenOf pd_3 rfl) rfl (by show 2 * 0 + _ ≤ _; exact Nat.le_of_eq rfl) (hb hby at_1) (fun _ _ => ⟨rfl, e0, (by decide : 0 + 1 ≤ _), (by decide : 0 + 4 ≤ _)⟩)
  dsimp only [Pt.U, Pt.locs, Pt.cells, Pt.slots] at X147 l147 y147 z147 st147 hQ147
  subst l147 y147 z147
  obtain ⟨b, rfl, Nq147, Kq147, szb, Eb, G1, G2, G3⟩ := hQ147
  have Z147 : n0 ≤ T147.heap.size := Nat.le_trans Z0 Kq147.1
  have K147 : Keep h0 T147.heap [] := (Keep.refl h0 []).trans Kq147 all0
  have Nf147 := Fr.app N0 Nq147
  obtain ⟨cq148, kq148, q148a, q148b, q148c⟩ := isOf hZ rfl Eb
  obtain ⟨_, _, ⟨T148, L148, k148, n148⟩, -, X148, ⟨Lc148, hQ148, l148, y148, z148⟩, st148⟩ := X147.virtualBack hx (y := (⟨"com/example/wachtrij/wachtrij/store/ReadPosition", "committed", "()J"⟩ : MethodName)) (z := (⟨"com/example/wachtrij/wachtrij/store/ReadPosition", "committed", "()J"⟩ : MethodName)) hown (mvT hZ (hw _ (List.mem_of_getElem? (i := 25) rfl))) (mvT hZ (hw _ (List.mem_of_getElem? (i := 26) rfl))) (notFace_of_selects (args := #[]) (mvT hZ (hw _ (List.mem_of_getElem? (i := 28) rfl)))) (mvT hZ (hw _ (List.mem_of_getElem? (i := 28) rfl))) (mvT hZ (hw _ (List.mem_of_getElem? (i := 27) rfl))) (by decide) (backOf (W := 0) (rm5 l Z a0 hw [] b q T147.heap n0 Z147 G1) hZ (hw _ (List.mem_of_getElem? (i := 29) rfl)) (hw _ (List.mem_of_getElem? (i := 2) rfl)) (by decide) (by decide)) q148a q148c (g := (mkF m 8 #[.val (.long q), .second, .val (.long q2), .second, .val (.ref b), .unset, .unset, .unset] [(.ref b)])) rfl (by rw [hml]; rfl) (Steps.refl _) (argsL := []) (rest := []) (lenOf pd_4 rfl) rfl (by show 2 * 0 + _ ≤ _; exact Nat.le_of_eq rfl) (hb hby at_8) (fun _ _ => ⟨rfl, rfl, (by decide : 1 + 0 ≤ _), (by decide : 4 + 0 ≤ _)⟩)
  dsimp only [Pt.U, Pt.locs, Pt.cells, Pt.slots] at X148 l148 y148 z148 st148 hQ148
  subst l148 y148 z148
  obtain ⟨rfl, Nq148, eq148⟩ := hQ148
  have Nf148 := Fr.app Nf147 Nq148
  obtain ⟨cq149, kq149, q149a, q149b, q149c⟩ := isOf hZ eq148 Eb
  obtain ⟨_, _, ⟨T149, L149, k149, n149⟩, -, X149, ⟨Lc149, hQ149, l149, y149, z149⟩, st149⟩ := X148.virtualBack hx (y := (⟨"com/example/wachtrij/wachtrij/store/ReadPosition", "aheadOffset", "()J"⟩ : MethodName)) (z := (⟨"com/example/wachtrij/wachtrij/store/ReadPosition", "aheadOffset", "()J"⟩ : MethodName)) hown (mvT hZ (hw _ (List.mem_of_getElem? (i := 30) rfl))) (mvT hZ (hw _ (List.mem_of_getElem? (i := 31) rfl))) (notFace_of_selects (args := #[]) (mvT hZ (hw _ (List.mem_of_getElem? (i := 33) rfl)))) (mvT hZ (hw _ (List.mem_of_getElem? (i := 33) rfl))) (mvT hZ (hw _ (List.mem_of_getElem? (i := 32) rfl))) (by decide) (backOf (W := 0) (rm6 l Z a0 hw [] b q T147.heap n0 Z147 G2) hZ (hw _ (List.mem_of_getElem? (i := 34) rfl)) (hw _ (List.mem_of_getElem? (i := 2) rfl)) (by decide) (by decide)) q149a q149c (g := (mkF m 18 #[.val (.long q), .second, .val (.long q2), .second, .val (.ref b), .unset, .unset, .unset] [(.ref b)])) rfl (by rw [hml]; rfl) (Steps.refl _) (argsL := []) (rest := []) (lenOf pd_4 rfl) rfl (by show 2 * 0 + _ ≤ _; exact Nat.le_of_eq rfl) (hb hby at_18) (fun _ _ => ⟨rfl, eq148, (by decide : 1 + 0 ≤ _), (by decide : 4 + 0 ≤ _)⟩)
  dsimp only [Pt.U, Pt.locs, Pt.cells, Pt.slots] at X149 l149 y149 z149 st149 hQ149
  subst l149 y149 z149
  obtain ⟨rfl, Nq149, eq149⟩ := hQ149
  have Nf149 := Fr.app Nf148 Nq149
  obtain ⟨cq150, kq150, q150a, q150b, q150c⟩ := isOf hZ eq149 Eb
  obtain ⟨_, _, ⟨T150, L150, k150, n150⟩, -, X150, ⟨Lc150, hQ150, l150, y150, z150⟩, st150⟩ := X149.virtualBack hx (y := (⟨"com/example/wachtrij/wachtrij/store/ReadPosition", "aheadDue", "()Ljava/time/LocalDateTime;"⟩ : MethodName)) (z := (⟨"com/example/wachtrij/wachtrij/store/ReadPosition", "aheadDue", "()Ljava/time/LocalDateTime;"⟩ : MethodName)) hown (mvT hZ (hw _ (List.mem_of_getElem? (i := 35) rfl))) (mvT hZ (hw _ (List.mem_of_getElem? (i := 36) rfl))) (notFace_of_selects (args := #[]) (mvT hZ (hw _ (List.mem_of_getElem? (i := 38) rfl)))) (mvT hZ (hw _ (List.mem_of_getElem? (i := 38) rfl))) (mvT hZ (hw _ (List.mem_of_getElem? (i := 37) rfl))) (by decide) (backOf (W := 0) (rm7 l Z a0 hw [] b T147.heap n0 Z147 G3) hZ (hw _ (List.mem_of_getElem? (i := 39) rfl)) (hw _ (List.mem_of_getElem? (i := 2) rfl)) (by decide) (by decide)) q150a q150c (g := (mkF m 28 #[.val (.long q), .second, .val (.long q2), .second, .val (.ref b), .unset, .unset, .unset] [(.ref b)])) rfl (by rw [hml]; rfl) (Steps.refl _) (argsL := []) (rest := []) (lenOf pd_5 rfl) rfl (by show 2 * 0 + _ ≤ _; exact Nat.le_of_eq rfl) (hb hby at_28) (fun _ _ => ⟨rfl, eq149, (by decide : 1 + 0 ≤ _), (by decide : 4 + 0 ≤ _)⟩)
  dsimp only [Pt.U, Pt.locs, Pt.cells, Pt.slots] at X150 l150 y150 z150 st150 hQ150
  subst l150 y150 z150
  obtain ⟨rfl, Nq150, eq150⟩ := hQ150
  have Nf150 := Fr.app Nf149 Nq150
  obtain ⟨cq151, kq151, q151a, q151b, q151c⟩ := isOf hZ eq150 Eb
  obtain ⟨_, _, ⟨T151, L151, k151, n151⟩, -, X151, ⟨Lc151, hQ151, l151, y151, z151⟩, st151⟩ := X150.virtualBack hx (y := (⟨"com/example/wachtrij/wachtrij/store/ReadPosition", "hasFinishedAhead", "()Z"⟩ : MethodName)) (z := (⟨"com/example/wachtrij/wachtrij/store/ReadPosition", "hasFinishedAhead", "()Z"⟩ : MethodName)) hown (mvT hZ (hw _ (List.mem_of_getElem? (i := 40) rfl))) (mvT hZ (hw _ (List.mem_of_getElem? (i := 41) rfl))) (notFace_of_selects (args := #[]) (mvT hZ (hw _ (List.mem_of_getElem? (i := 43) rfl)))) (mvT hZ (hw _ (List.mem_of_getElem? (i := 43) rfl))) (mvT hZ (hw _ (List.mem_of_getElem? (i := 42) rfl))) (by decide) (backOf (W := 0) (rm8 l Z a0 hw [] b q T147.heap n0 Z147 G1 G2) hZ (hw _ (List.mem_of_getElem? (i := 44) rfl)) (hw _ (List.mem_of_getElem? (i := 2) rfl)) (by decide) (by decide)) q151a q151c (g := (mkF m 43 #[.val (.long q), .second, .val (.long q2), .second, .val (.ref b), .val (.int (1 : Int32)), .unset, .unset] [(.ref b)])) rfl (by rw [hml]; rfl) (Steps.refl _) (argsL := []) (rest := []) (lenOf pd_2 rfl) rfl (by show 2 * 0 + _ ≤ _; exact Nat.le_of_eq rfl) (hb hby at_43) (fun _ _ => ⟨rfl, eq150, (by decide : 1 + 0 ≤ _), (by decide : 4 + 0 ≤ _)⟩)
  dsimp only [Pt.U, Pt.locs, Pt.cells, Pt.slots] at X151 l151 y151 z151 st151 hQ151
  subst l151 y151 z151
  obtain ⟨rfl, Nq151, eq151⟩ := hQ151
  have Nf151 := Fr.app Nf150 Nq151
  obtain ⟨cq152, kq152, q152a, q152b, q152c⟩ := isOf hZ eq151 Eb
  obtain ⟨_, _, ⟨T152, L152, k152, n152⟩, -, X152, ⟨Lc152, hQ152, l152, y152, z152⟩, st152⟩ := X151.virtualBack hx (y := (⟨"com/example/wachtrij/wachtrij/store/ReadPosition", "mayLeaveUnfinished", "(J)Z"⟩ : MethodName)) (z := (⟨"com/example/wachtrij/wachtrij/store/ReadPosition", "mayLeaveUnfinished", "(J)Z"⟩ : MethodName)) hown (mvT hZ (hw _ (List.mem_of_getElem? (i := 45) rfl))) (mvT hZ (hw _ (List.mem_of_getElem? (i := 46) rfl))) (notFace_of_selects (args := #[]) (mvT hZ (hw _ (List.mem_of_getElem? (i := 48) rfl)))) (mvT hZ (hw _ (List.mem_of_getElem? (i := 48) rfl))) (mvT hZ (hw _ (List.mem_of_getElem? (i := 47) rfl))) (by decide) (backOf (W := 0) (rm9 l Z a0 hw [] b q2 q T147.heap n0 Z147 Eb G1 G2) hZ (hw _ (List.mem_of_getElem? (i := 49) rfl)) (hw _ (List.mem_of_getElem? (i := 2) rfl)) (by decide) (by decide)) q152a q152c (g := (mkF m 59 #[.val (.long q), .second, .val (.long q2), .second, .val (.ref b), .val (.int (1 : Int32)), .val (.int (1 : Int32)), .unset] [(.long q2), (.ref b)])) rfl (by rw [hml]; rfl) (Steps.refl _) (argsL := [(.long q2)]) (rest := []) (lenOf pd_6 rfl) rfl (by show 2 * 0 + _ ≤ _; exact Nat.le_of_eq rfl) (hb hby at_59) (fun _ _ => ⟨rfl, eq151, (by decide : 1 + 0 ≤ _), (by decide : 4 + 0 ≤ _)⟩)
  dsimp only [Pt.U, Pt.locs, Pt.cells, Pt.slots] at X152 l152 y152 z152 st152 hQ152
  subst l152 y152 z152
  obtain ⟨rfl, Nq152, eq152⟩ := hQ152
  have Nf152 := Fr.app Nf151 Nq152
  have pre153 : ∀ t, Steps p.tables e below (T152.setTop (mkF m 65 #[.val (.long q), .second, .val (.long q2), .second, .val (.ref b), .val (.int (1 : Int32)), .val (.int (1 : Int32)), .unset] [(.int (lcmpW q2 q)), (.int (if q < q2 then (1 : Int32) else 0))])) t → Steps p.tables e below (s₁.setTop (entryFrame m #[(.long q), (.long q2)] maxLocals)) t := by
    intro t kt
    refine pre0 t ?_
    show Steps p.tables e below (s₁.setTop (mkF m 0 #[.val (.long q), .second, .val (.long q2), .second, .unset, .unset, .unset, .unset] [])) _
    refine XS.lloadN X0.here hx rfl (hb hby at_0) rfl ?_
    show Steps p.tables e below (s₁.setTop (mkF m 1 #[.val (.long q), .second, .val (.long q2), .second, .unset, .unset, .unset, .unset] [(.long q)])) _
    refine st147 _ ?_
    show Steps p.tables e below (T147.setTop (mkF m 4 #[.val (.long q), .second, .val (.long q2), .second, .unset, .unset, .unset, .unset] [(.ref b)])) _
    refine XS.astore X147.here hx rfl (hb hby at_4) rfl rfl (l' := #[.val (.long q), .second, .val (.long q2), .second, .val (.ref b), .unset, .unset, .unset]) rfl ?_
    show Steps p.tables e below (T147.setTop (mkF m 6 #[.val (.long q), .second, .val (.long q2), .second, .val (.ref b), .unset, .unset, .unset] [])) _
    refine XS.aload X147.here hx rfl (hb hby at_6) rfl rfl ?_
    show Steps p.tables e below (T147.setTop (mkF m 8 #[.val (.long q), .second, .val (.long q2), .second, .val (.ref b), .unset, .unset, .unset] [(.ref b)])) _
    refine st148.trans ?_
    show Steps p.tables e below (T148.setTop (mkF m 11 #[.val (.long q), .second, .val (.long q2), .second, .val (.ref b), .unset, .unset, .unset] [(.long q)])) _
    refine XS.lloadN X148.here hx rfl (hb hby at_11) rfl ?_
    show Steps p.tables e below (T148.setTop (mkF m 12 #[.val (.long q), .second, .val (.long q2), .second, .val (.ref b), .unset, .unset, .unset] [(.long q), (.long q)])) _
    refine XS.lcmp X148.here hx rfl (hb hby at_12) rfl ?_
    show Steps p.tables e below (T148.setTop (mkF m 13 #[.val (.long q), .second, .val (.long q2), .second, .val (.ref b), .unset, .unset, .unset] [(.int (lcmpW q q))])) _
    refine XS.ifNo X148.here hx rfl (hb hby at_13) rfl ((if0 _ _).trans (teq ((lw_eq _ _).mpr rfl)).2) ?_
    show Steps p.tables e below (T148.setTop (mkF m 16 #[.val (.long q), .second, .val (.long q2), .second, .val (.ref b), .unset, .unset, .unset] [])) _
    refine XS.aload X148.here hx rfl (hb hby at_16) rfl rfl ?_
    show Steps p.tables e below (T148.setTop (mkF m 18 #[.val (.long q), .second, .val (.long q2), .second, .val (.ref b), .unset, .unset, .unset] [(.ref b)])) _
    refine st149.trans ?_
    show Steps p.tables e below (T149.setTop (mkF m 21 #[.val (.long q), .second, .val (.long q2), .second, .val (.ref b), .unset, .unset, .unset] [(.long q)])) _
    refine XS.lloadN X149.here hx rfl (hb hby at_21) rfl ?_
    show Steps p.tables e below (T149.setTop (mkF m 22 #[.val (.long q), .second, .val (.long q2), .second, .val (.ref b), .unset, .unset, .unset] [(.long q), (.long q)])) _
    refine XS.lcmp X149.here hx rfl (hb hby at_22) rfl ?_
    show Steps p.tables e below (T149.setTop (mkF m 23 #[.val (.long q), .second, .val (.long q2), .second, .val (.ref b), .unset, .unset, .unset] [(.int (lcmpW q q))])) _
    refine XS.ifNo X149.here hx rfl (hb hby at_23) rfl ((if0 _ _).trans (teq ((lw_eq _ _).mpr rfl)).2) ?_
    show Steps p.tables e below (T149.setTop (mkF m 26 #[.val (.long q), .second, .val (.long q2), .second, .val (.ref b), .unset, .unset, .unset] [])) _
    refine XS.aload X149.here hx rfl (hb hby at_26) rfl rfl ?_
    show Steps p.tables e below (T149.setTop (mkF m 28 #[.val (.long q), .second, .val (.long q2), .second, .val (.ref b), .unset, .unset, .unset] [(.ref b)])) _
    refine st150.trans ?_
    show Steps p.tables e below (T150.setTop (mkF m 31 #[.val (.long q), .second, .val (.long q2), .second, .val (.ref b), .unset, .unset, .unset] [.null])) _
    refine XS.ifnonnullNo X150.here hx rfl (hb hby at_31) rfl ?_
    show Steps p.tables e below (T150.setTop (mkF m 34 #[.val (.long q), .second, .val (.long q2), .second, .val (.ref b), .unset, .unset, .unset] [])) _
    refine XS.iconst X150.here hx rfl (hb hby at_34) ?_
    show Steps p.tables e below (T150.setTop (mkF m 35 #[.val (.long q), .second, .val (.long q2), .second, .val (.ref b), .unset, .unset, .unset] [(.int (1 : Int32))])) _
    refine XS.goto X150.here hx rfl (pc0 := 35) (pc' := 39) rfl (hb hby at_35) (by decide) (by decide) ?_
    show Steps p.tables e below (T150.setTop (mkF m 39 #[.val (.long q), .second, .val (.long q2), .second, .val (.ref b), .unset, .unset, .unset] [(.int (1 : Int32))])) _
    refine XS.istore X150.here hx rfl (hb hby at_39) rfl (l' := #[.val (.long q), .second, .val (.long q2), .second, .val (.ref b), .val (.int (1 : Int32)), .unset, .unset]) rfl ?_
    show Steps p.tables e below (T150.setTop (mkF m 41 #[.val (.long q), .second, .val (.long q2), .second, .val (.ref b), .val (.int (1 : Int32)), .unset, .unset] [])) _
    refine XS.aload X150.here hx rfl (hb hby at_41) rfl rfl ?_
    show Steps p.tables e below (T150.setTop (mkF m 43 #[.val (.long q), .second, .val (.long q2), .second, .val (.ref b), .val (.int (1 : Int32)), .unset, .unset] [(.ref b)])) _
    refine st151.trans ?_
    show Steps p.tables e below (T151.setTop (mkF m 46 #[.val (.long q), .second, .val (.long q2), .second, .val (.ref b), .val (.int (1 : Int32)), .unset, .unset] [(.int (0 : Int32))])) _
    refine XS.ifNo X151.here hx rfl (hb hby at_46) rfl ((if0 _ _).trans (teq rfl).2) ?_
    show Steps p.tables e below (T151.setTop (mkF m 49 #[.val (.long q), .second, .val (.long q2), .second, .val (.ref b), .val (.int (1 : Int32)), .unset, .unset] [])) _
    refine XS.iconst X151.here hx rfl (hb hby at_49) ?_
    show Steps p.tables e below (T151.setTop (mkF m 50 #[.val (.long q), .second, .val (.long q2), .second, .val (.ref b), .val (.int (1 : Int32)), .unset, .unset] [(.int (1 : Int32))])) _
    refine XS.goto X151.here hx rfl (pc0 := 50) (pc' := 54) rfl (hb hby at_50) (by decide) (by decide) ?_
    show Steps p.tables e below (T151.setTop (mkF m 54 #[.val (.long q), .second, .val (.long q2), .second, .val (.ref b), .val (.int (1 : Int32)), .unset, .unset] [(.int (1 : Int32))])) _
    refine XS.istore X151.here hx rfl (hb hby at_54) rfl (l' := #[.val (.long q), .second, .val (.long q2), .second, .val (.ref b), .val (.int (1 : Int32)), .val (.int (1 : Int32)), .unset]) rfl ?_
    show Steps p.tables e below (T151.setTop (mkF m 56 #[.val (.long q), .second, .val (.long q2), .second, .val (.ref b), .val (.int (1 : Int32)), .val (.int (1 : Int32)), .unset] [])) _
    refine XS.aload X151.here hx rfl (hb hby at_56) rfl rfl ?_
    show Steps p.tables e below (T151.setTop (mkF m 58 #[.val (.long q), .second, .val (.long q2), .second, .val (.ref b), .val (.int (1 : Int32)), .val (.int (1 : Int32)), .unset] [(.ref b)])) _
    refine XS.lloadN X151.here hx rfl (hb hby at_58) rfl ?_
    show Steps p.tables e below (T151.setTop (mkF m 59 #[.val (.long q), .second, .val (.long q2), .second, .val (.ref b), .val (.int (1 : Int32)), .val (.int (1 : Int32)), .unset] [(.long q2), (.ref b)])) _
    refine st152.trans ?_
    show Steps p.tables e below (T152.setTop (mkF m 62 #[.val (.long q), .second, .val (.long q2), .second, .val (.ref b), .val (.int (1 : Int32)), .val (.int (1 : Int32)), .unset] [(.int (if q < q2 then (1 : Int32) else 0))])) _
    refine XS.lloadN X152.here hx rfl (hb hby at_62) rfl ?_
    show Steps p.tables e below (T152.setTop (mkF m 63 #[.val (.long q), .second, .val (.long q2), .second, .val (.ref b), .val (.int (1 : Int32)), .val (.int (1 : Int32)), .unset] [(.long q2), (.int (if q < q2 then (1 : Int32) else 0))])) _
    refine XS.lloadN X152.here hx rfl (hb hby at_63) rfl ?_
    show Steps p.tables e below (T152.setTop (mkF m 64 #[.val (.long q), .second, .val (.long q2), .second, .val (.ref b), .val (.int (1 : Int32)), .val (.int (1 : Int32)), .unset] [(.long q), (.long q2), (.int (if q < q2 then (1 : Int32) else 0))])) _
    refine XS.lcmp X152.here hx rfl (hb hby at_64) rfl ?_
    exact kt
  obtain ⟨z1, h_z1, pre154⟩ : ∃ (z1 : Int32), (z1 = if q < q2 then (1 : Int32) else 0) ∧ ∀ t, Steps p.tables e below (T152.setTop (mkF m 73 #[.val (.long q), .second, .val (.long q2), .second, .val (.ref b), .val (.int (1 : Int32)), .val (.int (1 : Int32)), .unset] [(.int z1), (.int (if q < q2 then (1 : Int32) else 0))])) t → Steps p.tables e below (s₁.setTop (entryFrame m #[(.long q), (.long q2)] maxLocals)) t := by
    by_cases hc65 : q < q2
    · have pre155 : ∀ t, Steps p.tables e below (T152.setTop (mkF m 73 #[.val (.long q), .second, .val (.long q2), .second, .val (.ref b), .val (.int (1 : Int32)), .val (.int (1 : Int32)), .unset] [(.int (1 : Int32)), (.int (if q < q2 then (1 : Int32) else 0))])) t → Steps p.tables e below (s₁.setTop (entryFrame m #[(.long q), (.long q2)] maxLocals)) t := by
        intro t kt
        refine pre153 t ?_
        show Steps p.tables e below (T152.setTop (mkF m 65 #[.val (.long q), .second, .val (.long q2), .second, .val (.ref b), .val (.int (1 : Int32)), .val (.int (1 : Int32)), .unset] [(.int (lcmpW q2 q)), (.int (if q < q2 then (1 : Int32) else 0))])) _
        refine XS.ifNo X152.here hx rfl (hb hby at_65) rfl ((if0 _ _).trans (tlt ((lw_gt _ _).mpr hc65)).2.2.2) ?_
        show Steps p.tables e below (T152.setTop (mkF m 68 #[.val (.long q), .second, .val (.long q2), .second, .val (.ref b), .val (.int (1 : Int32)), .val (.int (1 : Int32)), .unset] [(.int (if q < q2 then (1 : Int32) else 0))])) _
        refine XS.iconst X152.here hx rfl (hb hby at_68) ?_
        show Steps p.tables e below (T152.setTop (mkF m 69 #[.val (.long q), .second, .val (.long q2), .second, .val (.ref b), .val (.int (1 : Int32)), .val (.int (1 : Int32)), .unset] [(.int (1 : Int32)), (.int (if q < q2 then (1 : Int32) else 0))])) _
        refine XS.goto X152.here hx rfl (pc0 := 69) (pc' := 73) rfl (hb hby at_69) (by decide) (by decide) ?_
        exact kt
      refine ⟨(1 : Int32), ?_, pre155⟩
      rw [if_pos hc65]
    · have pre156 : ∀ t, Steps p.tables e below (T152.setTop (mkF m 73 #[.val (.long q), .second, .val (.long q2), .second, .val (.ref b), .val (.int (1 : Int32)), .val (.int (1 : Int32)), .unset] [(.int (0 : Int32)), (.int (if q < q2 then (1 : Int32) else 0))])) t → Steps p.tables e below (s₁.setTop (entryFrame m #[(.long q), (.long q2)] maxLocals)) t := by
        intro t kt
        refine pre153 t ?_
        show Steps p.tables e below (T152.setTop (mkF m 65 #[.val (.long q), .second, .val (.long q2), .second, .val (.ref b), .val (.int (1 : Int32)), .val (.int (1 : Int32)), .unset] [(.int (lcmpW q2 q)), (.int (if q < q2 then (1 : Int32) else 0))])) _
        refine XS.ifYes X152.here hx rfl (pc0 := 65) (pc' := 72) rfl (hb hby at_65) rfl ((if0 _ _).trans (flt (fun qz => hc65 ((lw_gt _ _).mp qz))).2.2.2) (by decide) (by decide) ?_
        show Steps p.tables e below (T152.setTop (mkF m 72 #[.val (.long q), .second, .val (.long q2), .second, .val (.ref b), .val (.int (1 : Int32)), .val (.int (1 : Int32)), .unset] [(.int (if q < q2 then (1 : Int32) else 0))])) _
        refine XS.iconst X152.here hx rfl (hb hby at_72) ?_
        exact kt
      refine ⟨(0 : Int32), ?_, pre156⟩
      rw [if_neg hc65]
  have pre157 : ∀ t, Steps p.tables e below (T152.setTop (mkF m 103 #[.val (.long q), .second, .val (.long q2), .second, .val (.ref b), .val (.int (1 : Int32)), .val (.int (1 : Int32)), .val (.int (1 : Int32))] [(.int (1 : Int32))])) t → Steps p.tables e below (s₁.setTop (entryFrame m #[(.long q), (.long q2)] maxLocals)) t := by
    intro t kt
    refine pre154 t ?_
    show Steps p.tables e below (T152.setTop (mkF m 73 #[.val (.long q), .second, .val (.long q2), .second, .val (.ref b), .val (.int (1 : Int32)), .val (.int (1 : Int32)), .unset] [(.int z1), (.int (if q < q2 then (1 : Int32) else 0))])) _
    refine XS.icmpNo X152.here hx rfl (hb hby at_73) rfl (teq h_z1.symm).2 ?_
    show Steps p.tables e below (T152.setTop (mkF m 76 #[.val (.long q), .second, .val (.long q2), .second, .val (.ref b), .val (.int (1 : Int32)), .val (.int (1 : Int32)), .unset] [])) _
    refine XS.iconst X152.here hx rfl (hb hby at_76) ?_
    show Steps p.tables e below (T152.setTop (mkF m 77 #[.val (.long q), .second, .val (.long q2), .second, .val (.ref b), .val (.int (1 : Int32)), .val (.int (1 : Int32)), .unset] [(.int (1 : Int32))])) _
    refine XS.goto X152.here hx rfl (pc0 := 77) (pc' := 81) rfl (hb hby at_77) (by decide) (by decide) ?_
    show Steps p.tables e below (T152.setTop (mkF m 81 #[.val (.long q), .second, .val (.long q2), .second, .val (.ref b), .val (.int (1 : Int32)), .val (.int (1 : Int32)), .unset] [(.int (1 : Int32))])) _
    refine XS.istore X152.here hx rfl (hb hby at_81) rfl (l' := #[.val (.long q), .second, .val (.long q2), .second, .val (.ref b), .val (.int (1 : Int32)), .val (.int (1 : Int32)), .val (.int (1 : Int32))]) rfl ?_
    show Steps p.tables e below (T152.setTop (mkF m 83 #[.val (.long q), .second, .val (.long q2), .second, .val (.ref b), .val (.int (1 : Int32)), .val (.int (1 : Int32)), .val (.int (1 : Int32))] [])) _
    refine XS.iload X152.here hx rfl (hb hby at_83) rfl ?_
    show Steps p.tables e below (T152.setTop (mkF m 85 #[.val (.long q), .second, .val (.long q2), .second, .val (.ref b), .val (.int (1 : Int32)), .val (.int (1 : Int32)), .val (.int (1 : Int32))] [(.int (1 : Int32))])) _
    refine XS.ifNo X152.here hx rfl (hb hby at_85) rfl ((if0 _ _).trans (feq (by decide)).1) ?_
    show Steps p.tables e below (T152.setTop (mkF m 88 #[.val (.long q), .second, .val (.long q2), .second, .val (.ref b), .val (.int (1 : Int32)), .val (.int (1 : Int32)), .val (.int (1 : Int32))] [])) _
    refine XS.iload X152.here hx rfl (hb hby at_88) rfl ?_
    show Steps p.tables e below (T152.setTop (mkF m 90 #[.val (.long q), .second, .val (.long q2), .second, .val (.ref b), .val (.int (1 : Int32)), .val (.int (1 : Int32)), .val (.int (1 : Int32))] [(.int (1 : Int32))])) _
    refine XS.ifNo X152.here hx rfl (hb hby at_90) rfl ((if0 _ _).trans (feq (by decide)).1) ?_
    show Steps p.tables e below (T152.setTop (mkF m 93 #[.val (.long q), .second, .val (.long q2), .second, .val (.ref b), .val (.int (1 : Int32)), .val (.int (1 : Int32)), .val (.int (1 : Int32))] [])) _
    refine XS.iload X152.here hx rfl (hb hby at_93) rfl ?_
    show Steps p.tables e below (T152.setTop (mkF m 95 #[.val (.long q), .second, .val (.long q2), .second, .val (.ref b), .val (.int (1 : Int32)), .val (.int (1 : Int32)), .val (.int (1 : Int32))] [(.int (1 : Int32))])) _
    refine XS.ifNo X152.here hx rfl (hb hby at_95) rfl ((if0 _ _).trans (feq (by decide)).1) ?_
    show Steps p.tables e below (T152.setTop (mkF m 98 #[.val (.long q), .second, .val (.long q2), .second, .val (.ref b), .val (.int (1 : Int32)), .val (.int (1 : Int32)), .val (.int (1 : Int32))] [])) _
    refine XS.iconst X152.here hx rfl (hb hby at_98) ?_
    show Steps p.tables e below (T152.setTop (mkF m 99 #[.val (.long q), .second, .val (.long q2), .second, .val (.ref b), .val (.int (1 : Int32)), .val (.int (1 : Int32)), .val (.int (1 : Int32))] [(.int (1 : Int32))])) _
    refine XS.goto X152.here hx rfl (pc0 := 99) (pc' := 103) rfl (hb hby at_99) (by decide) (by decide) ?_
    exact kt
  obtain ⟨fsx, hr, hrun, hended, hW, hsame⟩ := X152.leave (v := some (.int (nar .boolean (1 : Int32)))) (fun h => by rw [Bd.returns] at h; cases h)
  refine ⟨_, _, pre157 _ ?_, hrun, hended, _, _, rfl, ?_, ⟨_, rfl⟩, hW, hsame.mono (by decide) (by decide)⟩
  · exact retN X152 hx (t := .boolean) Bd.returns (by simp) (hb hby at_103) hr
  · show Q0 Z q q2 h0 n0 _ T152.heap _
    rw [eq152]
    exact ⟨rfl, Nf152⟩
set_option maxRecDepth 65536 in
set_option maxHeartbeats 40000000 in
theorem comes_1 {Post : Tables → Env → Array Value → State → Outcome → State → Prop} (hpost : ∀ tb e args s v u, (limb_1_1.after args s (.returned v) u = true ∧ limb_1_2.after args s (.returned v) u = true ∧ True) → FrameEnd s (.returned v) u (Jvm.fieldLocs frame_1_writes args s ++ Jvm.arrayLocs frame_1_arrays args s ++ Jvm.staticLocs frame_1_statics s) 16 128 → Post tb e args s (.returned v) u) :
    ArmFor flags0 classFile x code maxLocals ret World_1 tables_1 room_1 Calls_1 rest_1 Pre_1 Post := by
  intro l hfl _ _ p e ha hc hk s m args below hf hA hF happ hP
  obtain ⟨hcalls, hrest, hpre⟩ := hP
  obtain ⟨-, -, -, hnamed, -, -, -, hat⟩ := (Spec.applies_iff hf).mp happ
  obtain ⟨hg, hn⟩ := and_e (Cond.before_iff.mp (show (Jvm.Cond.and given_1 narrow_1).before args s = true from hpre))
  obtain ⟨gc, gr0⟩ := and_e hg
  obtain ⟨ga0, gr1⟩ := and_e gr0
  obtain ⟨w0, w1, rfl⟩ : ∃ w0 w1 : Value, args = #[w0, w1] := by
    have hs : args.size = 2 := by simpa [Cond.value, given_1] using gc
    obtain ⟨L⟩ := args
    match L, hs with
    | [w0, w1], _ => exact ⟨w0, w1, rfl⟩
  have hw := fun d (hd : d ∈ tables_1) => atoms_spec (ws := Jvm.Cond.code x code maxLocals ret :: tables_1) hat d (List.mem_cons_of_mem _ hd)
  have hfit : Fit s := fun {y c} hc i hi => by
    obtain ⟨ha, rfl⟩ := Array.getElem?_eq_some_iff.mp hc
    have q := List.all_eq_true.mp ((Array.all_eq_true_iff_forall_mem.mp hF) _ (Array.getElem_mem ha)) i (List.mem_range.mpr hi)
    simpa [Array.getElem?_eq_getElem hi] using q
  obtain ⟨i0, ei0⟩ := isL_v ga0
  obtain rfl : w0 = (.long i0) := Option.some.inj ei0
  obtain ⟨i1, ei1⟩ := isL_v gr1
  obtain rfl : w1 = (.long i1) := Option.some.inj ei1
  obtain ⟨n, o, h1, h2, h3, _, L, rfl, ⟨rfl, N⟩, hq⟩ := rm0 l s _ hw tables_1 i0 i1 s.heap s.heap.size (Nat.le_refl _)  p e ha hc hk s m _ below hf ((Spec.applies_iff_loose hf).mp happ).1 ⟨rfl, State.Warmed39.refl s, rfl⟩ trivial
  refine ⟨n, _, h1, h2, h3, hpost _ _ _ _ _ _ ⟨Cond.after_iff.mpr rfl, Cond.after_iff.mpr (eq_i res_at (Term.int_eval (1)) rfl), trivial⟩ ⟨hq.1, hq.2.1, (hq.2.2.sift fun y hy => Or.inr (N y hy)).mono (by decide) (by decide)⟩⟩
theorem main_1_1 : Claimed_1_1 := comes_1 fun _ _ _ _ _ _ h hF => ⟨h.1, hF⟩
theorem main_1_2 : Claimed_1_2 := comes_1 fun _ _ _ _ _ _ h hF => ⟨h.2.1, hF⟩
end Jvm.Pilot.@@N@@
namespace Jvm.Pilot.@@N@@
open Jvm Jvm.ClassFile Sem Op Lib Jvm.Free Jvm.Stand Jvm.Pilot.@@N@@.Jvm.D
/-! MADE BY PROGRAM (witnessworld.py) out of the Statement's table words and the real class files: 10 classes; the members and pool entries that the words name. The judged class is class 1, her method 1. -/
namespace start1
open Jvm.ClassFile
def u (s : String) : CpInfo := .utf8 (stringToUtf16 s)
/-- a pool by its gaps: so many unusable entries, then the entry; so many at the end -/
def gap : Nat → List CpInfo → List CpInfo
  | 0, r => r
  | n + 1, r => .unusable :: gap n r
def poolList (es : List (Nat × CpInfo)) (last : Nat) : List CpInfo := es.foldr (fun e r => gap e.1 (e.2 :: r)) (gap last [])
def pool (es : List (Nat × CpInfo)) (last : Nat) : Array CpInfo := ⟨poolList es last⟩
def fileOf (pool : Array CpInfo) (this : Nat) (attrs : Array Attribute := #[]) (ms : Array MethodInfo := #[]) (fl : Nat := 33) (sup : Nat := 0) (ifs : Array Nat := #[]) (fds : Array FieldInfo := #[]) : ClassFile where
  minorVersion := 0
  majorVersion := 65
  constantPool := pool
  accessFlags := fl
  thisClass := this
  superClass := sup
  interfaces := ifs
  fields := fds
  methods := ms
  attributes := attrs
def plain (name : String) (sup : Option ClassId) : Class where
  name := name
  kind := .ordinary
  loader := none
  accessFlags := 33
  super := sup
  interfaces := #[]
  cf := none
  fields := #[]
  methods := #[]
  instanceTypes := #[]
  staticTypes := #[]
  resolved := #[]
  callSites := []
  init := .initialized
  statics := none
  mirror := none

def pool0 : Array CpInfo := pool [(5, u "<init>"), (0, u "()V"), (1, .class_ 10), (1, u "java/lang/Object")] 113

def k0c0 : Code := { maxStack := 0, maxLocals := 1, code := object_method_1_code, exceptionTable := #[], attributes := #[] }
def k0m0 : Method := { name := "<init>", desc := "()V", sig := { parameters := [], returnType := none }, accessFlags := 1, code := some k0c0 }
/-- java/lang/Object -/
def k0 : Class := { plain "java/lang/Object" none with
  accessFlags := 33
  interfaces := #[]
  cf := some (fileOf pool0 8 #[] #[{ accessFlags := 1, nameIndex := 5, descriptorIndex := 6, attributes := #[] }] 33 0 #[] #[])
  fields := #[]
  methods := #[k0m0]
  instanceTypes := #[]
  staticTypes := #[]
  resolved := Array.replicate 124 none
  statics := none }

def pool1 : Array CpInfo := pool [(2, .class_ 4), (1, u "java/lang/Object"), (0, u "<init>"), (0, u "()V"), (0, .methodref 8 9), (0, .class_ 10), (0, .nameAndType 11 12), (0, u "com/example/wachtrij/wachtrij/store/ReadPosition"), (0, u "committedAt"), (0, u "(J)Lcom/example/wachtrij/wachtrij/store/ReadPosition;"), (0, .methodref 8 14), (0, .nameAndType 15 16), (0, u "committed"), (0, u "()J"), (0, .methodref 8 18), (0, .nameAndType 19 16), (0, u "aheadOffset"), (0, .methodref 8 21), (0, .nameAndType 22 23), (0, u "aheadDue"), (0, u "()Ljava/time/LocalDateTime;"), (0, .methodref 8 25), (0, .nameAndType 26 27), (0, u "hasFinishedAhead"), (0, u "()Z"), (0, .methodref 8 29), (0, .nameAndType 30 31), (0, u "mayLeaveUnfinished"), (0, u "(J)Z"), (0, .class_ 33), (0, u "com/example/wachtrij/wachtrij/store/ReadPositionCommittedAtPinLaw"), (2, u "law"), (0, u "(JJ)Z")] 3

def k1m0 : Method := { name := "<init>", desc := "()V", sig := { parameters := [], returnType := none }, accessFlags := 2, code := none }
def k1c1 : Code := { maxStack := 5, maxLocals := 8, code := code, exceptionTable := #[], attributes := #[] }
def k1m1 : Method := { name := "law", desc := "(JJ)Z", sig := { parameters := [.long, .long], returnType := some .boolean }, accessFlags := 9, code := some k1c1 }
/-- com/example/wachtrij/wachtrij/store/ReadPositionCommittedAtPinLaw -/
def k1 : Class := { plain "com/example/wachtrij/wachtrij/store/ReadPositionCommittedAtPinLaw" (some 0) with
  accessFlags := 49
  interfaces := #[]
  cf := some (fileOf pool1 32 #[] #[{ accessFlags := 2, nameIndex := 5, descriptorIndex := 6, attributes := #[] }, { accessFlags := 9, nameIndex := 36, descriptorIndex := 37, attributes := #[] }] 49 2 #[] #[])
  fields := #[]
  methods := #[k1m0, k1m1]
  instanceTypes := #[]
  staticTypes := #[]
  resolved := Array.replicate 41 none
  statics := none }

def pool2 : Array CpInfo := pool [(1, .methodref 2 3), (0, .class_ 4), (0, .nameAndType 5 6), (0, u "java/lang/Object"), (0, u "<init>"), (0, u "()V"), (0, .class_ 8), (0, u "java/lang/Record")] 13

def k2c0 : Code := { maxStack := 1, maxLocals := 1, code := jdk_30_method_1_code, exceptionTable := #[], attributes := #[] }
def k2m0 : Method := { name := "<init>", desc := "()V", sig := { parameters := [], returnType := none }, accessFlags := 4, code := some k2c0 }
/-- java/lang/Record -/
def k2 : Class := { plain "java/lang/Record" (some 0) with
  accessFlags := 1057
  interfaces := #[]
  cf := some (fileOf pool2 7 #[] #[{ accessFlags := 4, nameIndex := 5, descriptorIndex := 6, attributes := #[] }] 1057 2 #[] #[])
  fields := #[]
  methods := #[k2m0]
  instanceTypes := #[]
  staticTypes := #[]
  resolved := Array.replicate 22 none
  statics := none }

def pool3 : Array CpInfo := pool [(1, .methodref 2 3), (0, .class_ 4), (0, .nameAndType 5 6), (0, u "java/lang/Record"), (0, u "<init>"), (0, u "()V"), (15, .fieldref 23 24), (0, .class_ 25), (0, .nameAndType 26 27), (0, u "com/example/wachtrij/wachtrij/store/ReadPosition"), (0, u "committed"), (0, u "J"), (0, .fieldref 23 29), (0, .nameAndType 30 27), (0, u "aheadOffset"), (0, .fieldref 23 32), (0, .nameAndType 33 34), (0, u "aheadDue"), (0, u "Ljava/time/LocalDateTime;"), (0, .fieldref 23 36), (0, .nameAndType 37 27), (0, u "aheadDueOffset"), (0, .methodref 23 39), (0, .nameAndType 5 40), (0, u "(JJLjava/time/LocalDateTime;J)V"), (0, .methodref 23 42), (0, .nameAndType 43 44), (0, u "hasFinishedAhead"), (0, u "()Z"), (18, u "committedAt"), (0, u "(J)Lcom/example/wachtrij/wachtrij/store/ReadPosition;"), (0, u "mayLeaveUnfinished"), (0, u "(J)Z"), (3, u "()J"), (0, u "()Ljava/time/LocalDateTime;")] 31

def k3c0 : Code := { maxStack := 7, maxLocals := 8, code := prog_25_method_1_code, exceptionTable := #[], attributes := #[] }
def k3m0 : Method := { name := "<init>", desc := "(JJLjava/time/LocalDateTime;J)V", sig := { parameters := [.long, .long, (.object "java/time/LocalDateTime"), .long], returnType := none }, accessFlags := 1, code := some k3c0 }
def k3c1 : Code := { maxStack := 9, maxLocals := 2, code := prog_25_method_2_code, exceptionTable := #[], attributes := #[] }
def k3m1 : Method := { name := "committedAt", desc := "(J)Lcom/example/wachtrij/wachtrij/store/ReadPosition;", sig := { parameters := [.long], returnType := some (.object "com/example/wachtrij/wachtrij/store/ReadPosition") }, accessFlags := 9, code := some k3c1 }
def k3c2 : Code := { maxStack := 4, maxLocals := 3, code := prog_25_method_3_code, exceptionTable := #[], attributes := #[] }
def k3m2 : Method := { name := "mayLeaveUnfinished", desc := "(J)Z", sig := { parameters := [.long], returnType := some .boolean }, accessFlags := 1, code := some k3c2 }
def k3c3 : Code := { maxStack := 4, maxLocals := 1, code := prog_25_method_4_code, exceptionTable := #[], attributes := #[] }
def k3m3 : Method := { name := "hasFinishedAhead", desc := "()Z", sig := { parameters := [], returnType := some .boolean }, accessFlags := 0, code := some k3c3 }
def k3c4 : Code := { maxStack := 2, maxLocals := 1, code := prog_25_method_8_code, exceptionTable := #[], attributes := #[] }
def k3m4 : Method := { name := "committed", desc := "()J", sig := { parameters := [], returnType := some .long }, accessFlags := 1, code := some k3c4 }
def k3c5 : Code := { maxStack := 2, maxLocals := 1, code := prog_25_method_9_code, exceptionTable := #[], attributes := #[] }
def k3m5 : Method := { name := "aheadOffset", desc := "()J", sig := { parameters := [], returnType := some .long }, accessFlags := 1, code := some k3c5 }
def k3c6 : Code := { maxStack := 1, maxLocals := 1, code := prog_25_method_10_code, exceptionTable := #[], attributes := #[] }
def k3m6 : Method := { name := "aheadDue", desc := "()Ljava/time/LocalDateTime;", sig := { parameters := [], returnType := some (.object "java/time/LocalDateTime") }, accessFlags := 1, code := some k3c6 }
/-- com/example/wachtrij/wachtrij/store/ReadPosition -/
def k3 : Class := { plain "com/example/wachtrij/wachtrij/store/ReadPosition" (some 2) with
  accessFlags := 49
  interfaces := #[]
  cf := some (fileOf pool3 23 #[] #[{ accessFlags := 1, nameIndex := 5, descriptorIndex := 40, attributes := #[] }, { accessFlags := 9, nameIndex := 63, descriptorIndex := 64, attributes := #[] }, { accessFlags := 1, nameIndex := 65, descriptorIndex := 66, attributes := #[] }, { accessFlags := 0, nameIndex := 43, descriptorIndex := 44, attributes := #[] }, { accessFlags := 1, nameIndex := 26, descriptorIndex := 70, attributes := #[] }, { accessFlags := 1, nameIndex := 30, descriptorIndex := 70, attributes := #[] }, { accessFlags := 1, nameIndex := 33, descriptorIndex := 71, attributes := #[] }] 49 2 #[] #[{ accessFlags := 18, nameIndex := 26, descriptorIndex := 27, attributes := #[] }, { accessFlags := 18, nameIndex := 30, descriptorIndex := 27, attributes := #[] }, { accessFlags := 18, nameIndex := 33, descriptorIndex := 34, attributes := #[] }, { accessFlags := 18, nameIndex := 37, descriptorIndex := 27, attributes := #[] }])
  fields := #[{ name := "committed", type := .long, accessFlags := 18, slot := 0, constantValue := 0 }, { name := "aheadOffset", type := .long, accessFlags := 18, slot := 1, constantValue := 0 }, { name := "aheadDue", type := (.object "java/time/LocalDateTime"), accessFlags := 18, slot := 2, constantValue := 0 }, { name := "aheadDueOffset", type := .long, accessFlags := 18, slot := 3, constantValue := 0 }]
  methods := #[k3m0, k3m1, k3m2, k3m3, k3m4, k3m5, k3m6]
  instanceTypes := #[.long, .long, (.object "java/time/LocalDateTime"), .long]
  staticTypes := #[]
  resolved := Array.replicate 103 none
  statics := none }

def pool4 : Array CpInfo := pool [(1, u "java/lang/Cloneable"), (0, .class_ 1), (0, u "java/lang/Object"), (0, .class_ 3)] 3

/-- java/lang/Cloneable -/
def k4 : Class := { plain "java/lang/Cloneable" (some 0) with
  accessFlags := 1537
  interfaces := #[]
  cf := some (fileOf pool4 2 #[] #[] 1537 4 #[] #[])
  fields := #[]
  methods := #[]
  instanceTypes := #[]
  staticTypes := #[]
  resolved := Array.replicate 8 none
  statics := none }

def pool5 : Array CpInfo := pool [(1, u "java/io/Serializable"), (0, .class_ 1), (0, u "java/lang/Object"), (0, .class_ 3)] 3

/-- java/io/Serializable -/
def k5 : Class := { plain "java/io/Serializable" (some 0) with
  accessFlags := 1537
  interfaces := #[]
  cf := some (fileOf pool5 2 #[] #[] 1537 4 #[] #[])
  fields := #[]
  methods := #[]
  instanceTypes := #[]
  staticTypes := #[]
  resolved := Array.replicate 8 none
  statics := none }

/-- the primitive byte -/
def k6 : Class := { plain "byte" none with kind := .primitive 'B', accessFlags := 0x411 }
/-- [B -/
def k7 : Class := { plain "[B" (some 0) with kind := .array 6 .byte, interfaces := #[4, 5], accessFlags := 1041 }

/-- the primitive int -/
def k8 : Class := { plain "int" none with kind := .primitive 'I', accessFlags := 0x411 }
/-- [I -/
def k9 : Class := { plain "[I" (some 0) with kind := .array 8 .int, interfaces := #[4, 5], accessFlags := 1041 }

def heap : Heap := #[]
def classes : Array Class := #[k0, k1, k2, k3, k4, k5, k6, k7, k8, k9]
def interned : List (Array UInt16 × Addr) := []
def slotsUsed : Nat := 0
def theMethod : MethodId := ⟨1, 1⟩
def args0 : Array Value := #[.long 4, .long 9]
def aboutOver (below : List Frame) : State where
  vm := { classes := classes, interned := interned.toArray }
  heap := heap
  slotsUsed := slotsUsed
  threads := #[{ frames := .invoking theMethod args0 :: below }]
def below0 : List Frame := [.native { method := ⟨0, 0⟩, args := #[] }]
def about1 : State := aboutOver below0
def p0 : Program := .bare "" "" ""
def e0 : Env := launch0.env 0 0 0
theorem w_frames : about1.frames = Frame.invoking theMethod args0 :: below0 := rfl
set_option maxRecDepth 65536 in
theorem w_args : argsFit about1.vm theMethod args0 = true := by decide +kernel
set_option maxRecDepth 65536 in
theorem w_heap : heapFits about1 = true := by decide +kernel
set_option maxRecDepth 65536 in
theorem w_runnable : about1.curStatus? = some .runnable := by decide +kernel
set_option maxRecDepth 65536 in
theorem w_alone : about1.alone = true := by decide +kernel
set_option maxRecDepth 65536 in
theorem w_named : about1.methodNamed? x = some theMethod := by decide +kernel
set_option maxRecDepth 65536 in
theorem w_hears : about1.hears theMethod below0 = true := by decide +kernel
set_option maxRecDepth 65536 in
theorem w_ripe : about1.ripe theMethod args0 below0 = true := by decide +kernel
theorem w_running : about1.status = .running := rfl
set_option maxRecDepth 65536 in
theorem w_room : about1.hasRoom e0.platform room_1 = true :=
  launch0.hasRoom_least _ room_1 (by decide +kernel) (by decide +kernel) (by decide +kernel) (by decide +kernel) (by decide +kernel) (by decide +kernel)
theorem allAtoms_all (ts : List Jvm.Cond) (a : Array Jvm.Value) (st : Jvm.State) : (allAtoms ts).before a st = ts.all (fun c => c.before a st) := by
  induction ts with
  | nil => rfl
  | cons c t ih =>
    show (Jvm.Cond.and c (allAtoms t)).before a st = _
    rw [Jvm.Cond.before_and, ih, List.all_cons]
def words1 : List Jvm.Cond := Jvm.Cond.code x code maxLocals ret :: tables_1
/-- a 'code' word, met by the world's own term for the bytes: nothing is compared byte by byte -/
theorem code_word {y : MethodName} {bytes : ByteArray} {mx : Nat} {rt : Option FieldType} {a : Array Value} {s : State} {m : MethodId} {meth : Method} {c : Code} (h1 : s.methodNamed? y = some m) (h2 : s.vm.method? m = some meth) (h3 : meth.code = some c) (h4 : c.code = bytes)
    (h5 : (c.maxLocals == mx && c.exceptionTable.isEmpty && decide (c.maxStack ≤ mostOperands) && decide (meth.sig.returnType = rt) && !meth.locks && decide (parseMethodDescriptor y.desc = some meth.sig)) = true) : (Jvm.Cond.code y bytes mx rt).before a s = true := by
  simp only [Bool.and_eq_true, beq_iff_eq, Bool.not_eq_true', decide_eq_true_eq] at h5
  obtain ⟨⟨⟨⟨⟨g1, g2⟩, g3⟩, g4⟩, g5⟩, g6⟩ := h5
  simp [Cond.before, Cond.holds, Cond.value, h1, h2, h3, h4, g1, g2, g3, g4, g5, g6]
def isCode : Jvm.Cond → Bool
  | .code _ _ _ _ => true
  | _ => false
theorem all_split {L : List Jvm.Cond} {P : Jvm.Cond → Bool} (h1 : L.all (fun c => isCode c || P c) = true) (h2 : ∀ c ∈ L.filter isCode, P c = true) : L.all P = true := by
  refine List.all_eq_true.mpr fun c hc => ?_
  have h := List.all_eq_true.mp h1 c hc
  rcases Bool.eq_false_or_eq_true (isCode c) with hi | hi
  · exact h2 c (List.mem_filter.mpr ⟨hc, hi⟩)
  · simpa [hi] using h
set_option maxRecDepth 65536 in
theorem w_c0 : (Jvm.Cond.code x code maxLocals ret).before args0 about1 = true := code_word (m := ⟨1, 1⟩) (meth := k1m1) (c := k1c1) (by decide +kernel) rfl rfl rfl (by decide +kernel)
set_option maxRecDepth 65536 in
theorem w_c1 : (Jvm.Cond.code ({ cls := "com/example/wachtrij/wachtrij/store/ReadPosition", name := "committedAt", desc := "(J)Lcom/example/wachtrij/wachtrij/store/ReadPosition;" } : Jvm.MethodName) prog_25_method_2_code (2 : Nat) (Option.some (Jvm.ClassFile.FieldType.object "com/example/wachtrij/wachtrij/store/ReadPosition"))).before args0 about1 = true := code_word (m := ⟨3, 1⟩) (meth := k3m1) (c := k3c1) (by decide +kernel) rfl rfl rfl (by decide +kernel)
set_option maxRecDepth 65536 in
theorem w_c2 : (Jvm.Cond.code ({ cls := "com/example/wachtrij/wachtrij/store/ReadPosition", name := "<init>", desc := "(JJLjava/time/LocalDateTime;J)V" } : Jvm.MethodName) prog_25_method_1_code (8 : Nat) (Option.none : Option Jvm.ClassFile.FieldType)).before args0 about1 = true := code_word (m := ⟨3, 0⟩) (meth := k3m0) (c := k3c0) (by decide +kernel) rfl rfl rfl (by decide +kernel)
set_option maxRecDepth 65536 in
theorem w_c3 : (Jvm.Cond.code ({ cls := "java/lang/Record", name := "<init>", desc := "()V" } : Jvm.MethodName) jdk_30_method_1_code (1 : Nat) (Option.none : Option Jvm.ClassFile.FieldType)).before args0 about1 = true := code_word (m := ⟨2, 0⟩) (meth := k2m0) (c := k2c0) (by decide +kernel) rfl rfl rfl (by decide +kernel)
set_option maxRecDepth 65536 in
theorem w_c4 : (Jvm.Cond.code ({ cls := "java/lang/Object", name := "<init>", desc := "()V" } : Jvm.MethodName) object_method_1_code (1 : Nat) (Option.none : Option Jvm.ClassFile.FieldType)).before args0 about1 = true := code_word (m := ⟨0, 0⟩) (meth := k0m0) (c := k0c0) (by decide +kernel) rfl rfl rfl (by decide +kernel)
set_option maxRecDepth 65536 in
theorem w_c5 : (Jvm.Cond.code ({ cls := "com/example/wachtrij/wachtrij/store/ReadPosition", name := "committed", desc := "()J" } : Jvm.MethodName) prog_25_method_8_code (1 : Nat) (Option.some Jvm.ClassFile.FieldType.long)).before args0 about1 = true := code_word (m := ⟨3, 4⟩) (meth := k3m4) (c := k3c4) (by decide +kernel) rfl rfl rfl (by decide +kernel)
set_option maxRecDepth 65536 in
theorem w_c6 : (Jvm.Cond.code ({ cls := "com/example/wachtrij/wachtrij/store/ReadPosition", name := "aheadOffset", desc := "()J" } : Jvm.MethodName) prog_25_method_9_code (1 : Nat) (Option.some Jvm.ClassFile.FieldType.long)).before args0 about1 = true := code_word (m := ⟨3, 5⟩) (meth := k3m5) (c := k3c5) (by decide +kernel) rfl rfl rfl (by decide +kernel)
set_option maxRecDepth 65536 in
theorem w_c7 : (Jvm.Cond.code ({ cls := "com/example/wachtrij/wachtrij/store/ReadPosition", name := "aheadDue", desc := "()Ljava/time/LocalDateTime;" } : Jvm.MethodName) prog_25_method_10_code (1 : Nat) (Option.some (Jvm.ClassFile.FieldType.object "java/time/LocalDateTime"))).before args0 about1 = true := code_word (m := ⟨3, 6⟩) (meth := k3m6) (c := k3c6) (by decide +kernel) rfl rfl rfl (by decide +kernel)
set_option maxRecDepth 65536 in
theorem w_c8 : (Jvm.Cond.code ({ cls := "com/example/wachtrij/wachtrij/store/ReadPosition", name := "hasFinishedAhead", desc := "()Z" } : Jvm.MethodName) prog_25_method_4_code (1 : Nat) (Option.some Jvm.ClassFile.FieldType.boolean)).before args0 about1 = true := code_word (m := ⟨3, 3⟩) (meth := k3m3) (c := k3c3) (by decide +kernel) rfl rfl rfl (by decide +kernel)
set_option maxRecDepth 65536 in
theorem w_c9 : (Jvm.Cond.code ({ cls := "com/example/wachtrij/wachtrij/store/ReadPosition", name := "mayLeaveUnfinished", desc := "(J)Z" } : Jvm.MethodName) prog_25_method_3_code (3 : Nat) (Option.some Jvm.ClassFile.FieldType.boolean)).before args0 about1 = true := code_word (m := ⟨3, 2⟩) (meth := k3m2) (c := k3c2) (by decide +kernel) rfl rfl rfl (by decide +kernel)
def codes1 : List Jvm.Cond := [Jvm.Cond.code x code maxLocals ret, Jvm.Cond.code ({ cls := "com/example/wachtrij/wachtrij/store/ReadPosition", name := "committedAt", desc := "(J)Lcom/example/wachtrij/wachtrij/store/ReadPosition;" } : Jvm.MethodName) prog_25_method_2_code (2 : Nat) (Option.some (Jvm.ClassFile.FieldType.object "com/example/wachtrij/wachtrij/store/ReadPosition")), Jvm.Cond.code ({ cls := "com/example/wachtrij/wachtrij/store/ReadPosition", name := "<init>", desc := "(JJLjava/time/LocalDateTime;J)V" } : Jvm.MethodName) prog_25_method_1_code (8 : Nat) (Option.none : Option Jvm.ClassFile.FieldType), Jvm.Cond.code ({ cls := "java/lang/Record", name := "<init>", desc := "()V" } : Jvm.MethodName) jdk_30_method_1_code (1 : Nat) (Option.none : Option Jvm.ClassFile.FieldType), Jvm.Cond.code ({ cls := "java/lang/Object", name := "<init>", desc := "()V" } : Jvm.MethodName) object_method_1_code (1 : Nat) (Option.none : Option Jvm.ClassFile.FieldType), Jvm.Cond.code ({ cls := "com/example/wachtrij/wachtrij/store/ReadPosition", name := "committed", desc := "()J" } : Jvm.MethodName) prog_25_method_8_code (1 : Nat) (Option.some Jvm.ClassFile.FieldType.long), Jvm.Cond.code ({ cls := "com/example/wachtrij/wachtrij/store/ReadPosition", name := "aheadOffset", desc := "()J" } : Jvm.MethodName) prog_25_method_9_code (1 : Nat) (Option.some Jvm.ClassFile.FieldType.long), Jvm.Cond.code ({ cls := "com/example/wachtrij/wachtrij/store/ReadPosition", name := "aheadDue", desc := "()Ljava/time/LocalDateTime;" } : Jvm.MethodName) prog_25_method_10_code (1 : Nat) (Option.some (Jvm.ClassFile.FieldType.object "java/time/LocalDateTime")), Jvm.Cond.code ({ cls := "com/example/wachtrij/wachtrij/store/ReadPosition", name := "hasFinishedAhead", desc := "()Z" } : Jvm.MethodName) prog_25_method_4_code (1 : Nat) (Option.some Jvm.ClassFile.FieldType.boolean), Jvm.Cond.code ({ cls := "com/example/wachtrij/wachtrij/store/ReadPosition", name := "mayLeaveUnfinished", desc := "(J)Z" } : Jvm.MethodName) prog_25_method_3_code (3 : Nat) (Option.some Jvm.ClassFile.FieldType.boolean)]
set_option maxRecDepth 65536 in
theorem codes_eq : words1.filter isCode = codes1 := rfl
theorem w_codes : ∀ c ∈ words1.filter isCode, c.before args0 about1 = true := by
  rw [codes_eq]
  intro c hc
  simp only [codes1, List.mem_cons, List.not_mem_nil, or_false] at hc
  rcases hc with rfl | rfl | rfl | rfl | rfl | rfl | rfl | rfl | rfl | rfl
  · exact w_c0
  · exact w_c1
  · exact w_c2
  · exact w_c3
  · exact w_c4
  · exact w_c5
  · exact w_c6
  · exact w_c7
  · exact w_c8
  · exact w_c9
set_option maxRecDepth 65536 in
theorem w_t1 : (words1.take 24).all (fun c => isCode c || c.before args0 about1) = true := by decide +kernel
set_option maxRecDepth 65536 in
theorem w_t2 : ((words1.drop 24).take 24).all (fun c => isCode c || c.before args0 about1) = true := by decide +kernel
set_option maxRecDepth 65536 in
theorem w_t3 : ((words1.drop 24).drop 24).all (fun c => isCode c || c.before args0 about1) = true := by decide +kernel
theorem w_tables : (allAtoms (Jvm.Cond.code x code maxLocals ret :: tables_1)).before args0 about1 = true := by
  rw [allAtoms_all]
  show words1.all (fun c => c.before args0 about1) = true
  refine all_split ?_ w_codes
  rw [← List.take_append_drop 24 words1, List.all_append, w_t1, ← List.take_append_drop 24 (words1.drop 24), List.all_append, w_t2, w_t3]
  rfl
set_option maxRecDepth 65536 in
theorem w_case : (Jvm.Cond.and given_1 narrow_1).before args0 about1 = true := by decide +kernel
theorem w_applies : (headSpec (Jvm.Cond.code x code maxLocals ret :: tables_1) room_1).applies x e0.platform about1 = true :=
  (Spec.applies_iff w_frames).mpr ⟨w_running, w_runnable, w_alone, w_named, w_hears, w_ripe, w_room, w_tables⟩
theorem atStart : AtStart classFile x code maxLocals ret World_1 tables_1 room_1 Calls_1 rest_1 Pre_1 launch0 p0 e0 about1 theMethod args0 below0 :=
  ⟨lists_1, trivial, launch0.admits_env _ _ _, launch0.least_env, fairChoices_fair.cas, fairChoices_fair.clock, w_frames, w_args, w_heap, w_applies, trivial, trivial, w_case⟩
end start1
theorem witness_1 : WitnessClaimed_1 := ⟨start1.p0, start1.e0, start1.about1, start1.theMethod, start1.args0, start1.below0, start1.atStart⟩
end Jvm.Pilot.@@N@@
