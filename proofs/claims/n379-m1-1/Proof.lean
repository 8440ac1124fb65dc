import JvmDerived
import JvmDerived.Pilot.@@N@@Statement
import JvmDerived.Pilot.@@N@@Code
set_option linter.unusedVariables false
set_option linter.unusedSimpArgs false
namespace Jvm.RoadKit
open Sem ClassFile Op Lib Jvm.Stand Jvm.Free Jvm.LawKit
section New
variable {p : Program} {l : Launch} {e : Env} {R : Room} {s : State} {m : MethodId} {args : Array Value} {below : List Frame} {meth : Method} {c : Code} {T : State} {locs : List Loc} {cells slots : Nat}
theorem retI (X : Stand p l e R s m args below meth c T locs cells slots) (hx : p.tables.exec = Jvm.exec) {pc : Nat} {Ls : Array Slot} {z : Int32} {rest : List Value} (hret : meth.sig.returnType = some .int) (hd : decode c.code pc = .ok (.ireturn, 1)) {fs : List Frame}
    (hl : ∀ (f : JFrame) (acts : List Action), f.method = m → f.locked = none → f.entered = [] → (doReturn e (T.setTop f) acts (some (.int z))).1 = T.setFrames fs) : Steps p.tables e below (T.setTop (mkF m pc Ls (.int z :: rest))) (T.setFrames fs) := by
  have hm' : T.vm.method? m = some meth := X.method'
  have hn : narrow .int (.int z) = .int z := rfl
  show Steps p.tables e below (T.setTop { method := m, pc := pc, locals := Ls, stack := _ :: rest, locked := none }) _
  jvm_step X.here [X.here.top, hx, hd, hm', hret, hn]
  first | (intro acts; rw [hl _ acts rfl rfl rfl]) | rw [hl _ _ rfl rfl rfl]
  exact Steps.refl _
variable {Z : State} {h : Heap} {a : Addr} {k : ClassId} {z j : Int32} {vs : List Value} {dv : Value}
theorem own_nar (x : Int32) : nar .byte (x.toInt8.toInt32) = x.toInt8.toInt32 := by
  show (x.toInt8.toInt32).toInt8.toInt32 = _
  rw [Int8.toInt8_toInt32]
theorem own_bal (X : Stand p l e R s m args below meth c T locs cells slots) (hx : p.tables.exec = Jvm.exec) (hZ : Z.Warmed39 s.vm) (eT : T.heap = h) (A : Arv Z h a k .byte z vs dv) (hj : ¬ j < 0 ∧ j < z) {v : Value} (hv : vs.getD j.toNatClampNeg dv = v)
    {g : JFrame} (hg : g.method = m) {rest : List Value} (hs : g.stack = .int j :: .ref a :: rest) (hd : decode c.code g.pc = .ok (.baload, 1)) (target : State)
    (hrest : Steps p.tables e below (T.setTop { g with pc := g.pc + 1, stack := v :: rest }) target) : Steps p.tables e below (T.setTop g) target := by
  obtain ⟨cl, Ar, -, S, N, H, -⟩ := A
  have hin := inb_of S hj
  exact X.baloadBytes hx (j := j) (v := v) (by rw [eT]; exact Ar.1) (State.isArrayOf_alike hZ.alike Ar.2.1) Ar.2.2 hin (Has.at H hin hv) hg hs hd target hrest
theorem own_len {ty : FieldType} (X : Stand p l e R s m args below meth c T locs cells slots) (hx : p.tables.exec = Jvm.exec) (hZ : Z.Warmed39 s.vm) (eT : T.heap = h) (A : Arv Z h a k ty z vs dv)
    {g : JFrame} (hg : g.method = m) {rest : List Value} (hs : g.stack = .ref a :: rest) (hd : decode c.code g.pc = .ok (.arraylength, 1)) (target : State)
    (hrest : Steps p.tables e below (T.setTop { g with pc := g.pc + 1, stack := .int z :: rest }) target) : Steps p.tables e below (T.setTop g) target := by
  obtain ⟨cl, Ar, -, S, N, H, -⟩ := A
  refine X.arraylength hx (by rw [eT]; exact Ar.1) (State.isArrayOf_alike hZ.alike Ar.2.1) hg hs hd target ?_
  rw [len_of S N]
  exact hrest
theorem own_bst (X : Stand p l e R s m args below meth c T locs cells slots) (hx : p.tables.exec = Jvm.exec) (hZ : Z.Warmed39 s.vm) (eT : T.heap = h) (A : Arv Z h a k .byte z vs dv) (hj : ¬ j < 0 ∧ j < z) {i : Nat} (hi : j.toNatClampNeg = i) (hl : i < vs.length) {x w : Int32} (hw : nar .byte x = w)
    {g : JFrame} (hg : g.method = m) {rest : List Value} (hs : g.stack = .int x :: .int j :: .ref a :: rest) (hd : decode c.code g.pc = .ok (.bastore, 1)) :
    ∃ T' h', Stand p l e R s m args below meth c T' (locs ++ [⟨a, j.toNatClampNeg⟩]) cells slots ∧ T'.heap = h' ∧ Wr h h' a j.toNatClampNeg (.int w) ∧ Arv Z h' a k .byte z (vs.set i (.int w)) dv ∧
      ∀ target, Steps p.tables e below (T'.setTop { g with pc := g.pc + 1, stack := rest }) target → Steps p.tables e below (T.setTop g) target := by
  obtain ⟨cl, Ar, q, S, N, H, G⟩ := A
  obtain ⟨T', h', X', e', W', st⟩ := stB X hx hZ eT Ar (j := j) (inb_of S hj) hg hs hd
  subst hw
  exact ⟨T', h', X', e', W', Arv.set Ar q S N H G (fits_nar_byte _) W' i hi hl, st⟩
theorem own_selp {s : State} {args : Array Value} {C : String} {y w : MethodName} (hc : y.cls = w.cls) (hsel : (Cond.selects C w w).before args s = true) (hpriv : s.PrivateAt y) (hinst : (Cond.instanceMethod y).before args s = true) (hy : y.cls ≠ "java/lang/invoke/MethodHandle" ∧ y.cls ≠ "java/lang/invoke/VarHandle") : (Cond.selects y.cls y y).before args s = true := by
  obtain ⟨c2, r2, m2, q1, q2, q3, q4, kP, hkP, hkPi⟩ := Cond.selects_spec hsel
  exact selects_self_of_private (by rw [hc]; exact findClass_of_methodNamed q3) hkP hkPi hpriv hinst hy
end New
end Jvm.RoadKit
namespace Jvm.Pilot.@@N@@
open Jvm Jvm.ClassFile Sem Op Lib Jvm.Free Jvm.Stand Jvm.LawKit Jvm.RoadKit Bundle Jvm.Pilot.@@N@@.Jvm.D
theorem own_and3 (x : Int32) : (x &&& (3 : Int32)) = 0 ∨ (x &&& (3 : Int32)) = 1 ∨ (x &&& (3 : Int32)) = 2 ∨ (x &&& (3 : Int32)) = 3 := by
  have h1 : (x &&& 3).toBitVec.toNat ≤ 3 := by
    simp only [Int32.toBitVec_and, BitVec.toNat_and]
    exact Nat.and_le_right
  have h2 : (x &&& 3) = Int32.ofNat (x &&& 3).toBitVec.toNat := by
    apply Int32.toBitVec_inj.mp
    show _ = BitVec.ofNat 32 _
    rw [BitVec.ofNat_toNat]; simp
  generalize (x &&& 3).toBitVec.toNat = n at *
  rw [h2]
  match n, h1 with
  | 0, _ => exact Or.inl rfl
  | 1, _ => exact Or.inr (Or.inl rfl)
  | 2, _ => exact Or.inr (Or.inr (Or.inl rfl))
  | 3, _ => exact Or.inr (Or.inr (Or.inr rfl))
def own_pre (vs : List Value) (d : Value) (n : Nat) : List Value := (List.range n).map fun i => vs.getD ((0 : Int32).toNatClampNeg + i) d
theorem own_conv (vs : List Value) (d e : Value) (n : Nat) : ([] ++ List.replicate n e).take (0 : Int32).toNatClampNeg ++ own_pre vs d n ++ ([] ++ List.replicate n e).drop ((0 : Int32).toNatClampNeg + n) = own_pre vs d n := by
  have h0 : (0 : Int32).toNatClampNeg = 0 := rfl
  rw [h0]
  simp [own_pre, h0]
theorem own_le {a b : Int32} (h : a < b) : (0 : Int32).toNatClampNeg + a.toNatClampNeg ≤ b.toNatClampNeg := by
  rw [Int32.lt_iff_toInt_lt] at h
  have h0 : (0 : Int32).toNatClampNeg = 0 := rfl
  rw [h0]; simp only [Int32.toNatClampNeg]; omega
theorem own_le' (a : Int32) : (0 : Int32).toNatClampNeg + a.toNatClampNeg ≤ a.toNatClampNeg := by
  have h0 : (0 : Int32).toNatClampNeg = 0 := rfl
  rw [h0]; omega
theorem own_ti {i : Nat} (h : i < 20) : (Int32.ofNat i).toInt = i := by
  rw [Int32.toInt_ofNat_of_lt (by omega)]
theorem own_add (i k : Nat) : Int32.ofNat i + Int32.ofNat k = Int32.ofNat (i + k) := (Int32.ofNat_add i k).symm
theorem own_j {i : Nat} (h : i < 20) : ¬ Int32.ofNat i < 0 ∧ Int32.ofNat i < 8192 := by
  have e0 : (0 : Int32).toInt = 0 := rfl
  have e1 : (8192 : Int32).toInt = 8192 := rfl
  rw [Int32.lt_iff_toInt_lt, Int32.lt_iff_toInt_lt, own_ti h, e0, e1]; omega
theorem own_jn {i : Nat} (h : i < 20) : (Int32.ofNat i).toNatClampNeg = i := by
  rw [Int32.toNatClampNeg, own_ti h]; rfl
theorem own_ja (i k : Nat) (h : i + k < 20) : ¬ (Int32.ofNat i + Int32.ofNat k) < 0 ∧ (Int32.ofNat i + Int32.ofNat k) < 8192 := by rw [own_add]; exact own_j h
theorem own_jan (i k : Nat) (h : i + k < 20) : (Int32.ofNat i + Int32.ofNat k).toNatClampNeg = i + k := by rw [own_add]; exact own_jn h
theorem own_room (i k : Nat) (h : i < 16) (hk : k ≤ 4) : ¬ ((8192 : Int32) - Int32.ofNat i < Int32.ofNat k) := by
  have e1 : (8192 : Int32).toInt = 8192 := rfl
  rw [Int32.lt_iff_toInt_lt, Int32.toInt_sub, own_ti (by omega), own_ti (by omega), e1, Int.bmod_eq_of_le_mul_two (by omega) (by omega)]
  omega
def own_put (vs : List Value) (i : Nat) (p : Int32) : List Value := ((((vs.set i (.int (((p.toUInt32 >>> ((24 : Int32) &&& 31).toUInt32).toInt32).toInt8.toInt32))).set (i + 1) (.int (((p.toUInt32 >>> ((16 : Int32) &&& 31).toUInt32).toInt32).toInt8.toInt32))).set (i + 2) (.int (((p.toUInt32 >>> ((8 : Int32) &&& 31).toUInt32).toInt32).toInt8.toInt32))).set (i + 3) (.int (p.toInt8.toInt32)))
theorem own_putl (vs : List Value) (i : Nat) (p : Int32) : (own_put vs i p).length = vs.length := by simp [own_put]
theorem d1_0 : decode prog_32_method_1_code 0 = .ok (.aload_n 0, 1) := by decide +kernel
theorem d1_1 : decode prog_32_method_1_code 1 = .ok (.invokespecial 1, 3) := by decide +kernel
theorem d1_4 : decode prog_32_method_1_code 4 = .ok (.aload_n 0, 1) := by decide +kernel
theorem d1_5 : decode prog_32_method_1_code 5 = .ok (.sipush 8192, 3) := by decide +kernel
theorem d1_8 : decode prog_32_method_1_code 8 = .ok (.newarray .byte, 2) := by decide +kernel
theorem d1_10 : decode prog_32_method_1_code 10 = .ok (.putfield 9, 3) := by decide +kernel
theorem d1_13 : decode prog_32_method_1_code 13 = .ok (.aload_n 0, 1) := by decide +kernel
theorem d1_14 : decode prog_32_method_1_code 14 = .ok (.iconst (-1), 1) := by decide +kernel
theorem d1_15 : decode prog_32_method_1_code 15 = .ok (.putfield 13, 3) := by decide +kernel
theorem d1_18 : decode prog_32_method_1_code 18 = .ok (.return_, 1) := by decide +kernel
theorem pn_0 : plainName "com/example/flex_actor/flexactor/core/FrameBuffer" = true := by first | (simp [plainName, overriddenIn]; done) | decide +kernel
theorem ef_rmI (m : MethodId) (x0 : Addr) : entryFrame m #[(.ref x0)] 1 = mkF m 0 #[.val (.ref x0)] [] := by first | (simp [entryFrame, mkF, argsToLocals, Value.category]; done) | rfl
def QI (Z : State) (a1 : Addr) (h0 : Heap) (n0 : Nat) (v : Option Value) (h : Heap) (L : List Loc) : Prop := ∃ (bb : Addr) (k1 : ClassId), v = none ∧ Fr n0 L ∧ Keep h0 h [a1] ∧ h0.size ≤ bb ∧ Fld Z h a1 "com/example/flex_actor/flexactor/core/FrameBuffer" "bytes" "[B" (.ref bb) ∧ Fld Z h a1 "com/example/flex_actor/flexactor/core/FrameBuffer" "size" "I" (.int (0 : Int32)) ∧ Fld Z h a1 "com/example/flex_actor/flexactor/core/FrameBuffer" "frameStart" "I" (.int (-1 : Int32)) ∧ Arv Z h bb k1 .byte (8192 : Int32) [(.int (0 : Int32)), (.int (0 : Int32)), (.int (0 : Int32)), (.int (0 : Int32)), (.int (0 : Int32)), (.int (0 : Int32)), (.int (0 : Int32)), (.int (0 : Int32)), (.int (0 : Int32)), (.int (0 : Int32)), (.int (0 : Int32)), (.int (0 : Int32)), (.int (0 : Int32)), (.int (0 : Int32)), (.int (0 : Int32)), (.int (0 : Int32))] (.int (0 : Int32))
set_option maxRecDepth 65536 in
set_option maxHeartbeats 40000000 in
theorem rmI (l : Launch) (Z : State) (a0 : Array Value) (hw : ∀ d ∈ tables_1, d.before a0 Z = true) (ws : List Jvm.Cond) (a1 : Addr) (h0 : Heap) (n0 : Nat) (Z0 : n0 ≤ h0.size) (E1 : Exa Z h0 a1 "com/example/flex_actor/flexactor/core/FrameBuffer") (Fb : Fld Z h0 a1 "com/example/flex_actor/flexactor/core/FrameBuffer" "bytes" "[B" .null) (Fs : Fld Z h0 a1 "com/example/flex_actor/flexactor/core/FrameBuffer" "size" "I" (.int (0 : Int32))) (Ff : Fld Z h0 a1 "com/example/flex_actor/flexactor/core/FrameBuffer" "frameStart" "I" (.int (0 : Int32))) (g1 : n0 ≤ a1) :
    MetFree l (⟨"com/example/flex_actor/flexactor/core/FrameBuffer", "<init>", "()V"⟩ : MethodName) (head1 (Jvm.Cond.code (⟨"com/example/flex_actor/flexactor/core/FrameBuffer", "<init>", "()V"⟩ : MethodName) prog_32_method_1_code 1 none :: ws) ({ frames := 1, cells := 1, slots := 8192, locals := 12 } : Room)) (fun a U => a = #[(.ref a1)] ∧ Z.Warmed39 U.vm ∧ U.heap = h0) (fun _ _ _ _ _ => True) (fun _ U o U' => ∃ v L, o = .returned v ∧ QI Z a1 h0 n0 v U'.heap L ∧ FrameEnd U o U' L ({ frames := 1, cells := 1, slots := 8192, locals := 12 } : Room).cells ({ frames := 1, cells := 1, slots := 8192, locals := 12 } : Room).slots) := by
  refine MetFree.of_bodySF (plainFor_of_name pn_0) hisR ?_
  intro p e s m args below meth c s₁ Bd hml0 hP hK
  obtain ⟨rfl, hZ, hh⟩ := hP
  have hx := Bd.exec
  have hby := Bd.bytes
  have hml : c.maxLocals = 1 := hml0
  have hown : s.vm.findClass "com/example/flex_actor/flexactor/core/FrameBuffer" = some m.cls := findClass_of_methodNamed Bd.named
  have hnm := (name_of_methodNamed Bd.named Bd.method).1
  have X0 : Stand p l e ({ frames := 1, cells := 1, slots := 8192, locals := 12 } : Room) s m #[(.ref a1)] below meth c s₁ [] 0 0 := Stand.of_body Bd
  have e0 : s₁.heap = h0 := by rw [← hh, Bd.state]; rfl
  have N0 := Fr.nil n0
  have pre0 : ∀ t, Steps p.tables e below (s₁.setTop (mkF m 0 #[.val (.ref a1)] [])) t → Steps p.tables e below (s₁.setTop (entryFrame m #[(.ref a1)] 1)) t := fun t k => castTop (ef_rmI m a1) k
  obtain ⟨T101, X101, e101, st101⟩ := initO X0 hx hZ hown (hw _ (List.mem_of_getElem? (i := 6) rfl)) (hw _ (List.mem_of_getElem? (i := 7) rfl)) (hw _ (List.mem_of_getElem? (i := 8) rfl)) e0 (g := (mkF m 1 #[.val (.ref a1)] [(.ref a1)])) rfl (by rw [hml]; rfl) rfl (hb hby d1_1) (by decide) (W := 0) (by show 2 * 0 + _ ≤ _; exact Nat.le_of_eq rfl) (by decide)
  obtain ⟨T102, h102, k102, X102, e102, E102, A102, Ax102, st102⟩ := newPE X101 hx hZ (hw _ (List.mem_of_getElem? (i := 9) rfl)) e101 (g := (mkF m 8 #[.val (.ref a1)] [(.int (8192 : Int32)), (.ref a1)])) rfl (hb hby d1_8) rfl (by decide) (cap := 8192) (by decide) (by decide) (by decide) (by decide) (ad := "[B") rfl
  obtain ⟨bb, gq102⟩ : ∃ z, z = h0.size := ⟨_, rfl⟩
  rw [← gq102] at A102 Ax102 st102
  have g_bb : n0 ≤ bb := Nat.le_trans Z0 (Nat.le_of_eq gq102.symm)
  have sz_bb : h0.size ≤ bb := Nat.le_trans (Keep.refl h0 [a1]).1 (Nat.le_of_eq gq102.symm)
  have ne103 : a1 ≠ bb := Nat.ne_of_lt (Nat.lt_of_lt_of_le E1.lt (Nat.le_of_eq gq102.symm))
  have f104 := (E1.ext E102)
  have f105 := (Fb.ext E102)
  have f106 := (Fs.ext E102)
  have f107 := (Ff.ext E102)
  have K102 : Keep h0 h102 [a1] := (Keep.refl h0 [a1]).ext E102
  have Z102 : n0 ≤ h102.size := Nat.le_trans Z0 E102.1
  have V102 : Arv Z h102 bb k102 .byte (8192 : Int32) [(.int (0 : Int32)), (.int (0 : Int32)), (.int (0 : Int32)), (.int (0 : Int32)), (.int (0 : Int32)), (.int (0 : Int32)), (.int (0 : Int32)), (.int (0 : Int32)), (.int (0 : Int32)), (.int (0 : Int32)), (.int (0 : Int32)), (.int (0 : Int32)), (.int (0 : Int32)), (.int (0 : Int32)), (.int (0 : Int32)), (.int (0 : Int32))] (.int (0 : Int32)) := (Arv.new A102 (by decide)).pad (pad_rep [] (.int (0 : Int32)) 16)
  obtain ⟨T108, h108, X108, e108, W108, st108⟩ := putF X102 hx hZ hown (host := "") (Or.inl (hw _ (List.mem_of_getElem? (i := 10) rfl))) Via.refl e102 f105 f104 (Or.inl (hw _ (List.mem_of_getElem? (i := 11) rfl))) (hw _ (List.mem_of_getElem? (i := 1) rfl)) (ty := (.array .byte)) (by decide) rfl rfl (g := (mkF m 10 #[.val (.ref a1)] [(.ref bb), (.ref a1)])) rfl rfl (hb hby d1_10)
  have Fw108 := f105.same W108
  have f109 := (f104.wr W108)
  have f110 := (f106.other W108 (Or.inr (slot_ne (Or.inl (hw _ (List.mem_of_getElem? (i := 24) rfl))) (Or.inl (hw _ (List.mem_of_getElem? (i := 11) rfl))) (by decide) (t := .int) (t' := (.array .byte)) (by decide) (by decide))))
  have f111 := (f107.other W108 (Or.inr (slot_ne (Or.inl (hw _ (List.mem_of_getElem? (i := 13) rfl))) (Or.inl (hw _ (List.mem_of_getElem? (i := 11) rfl))) (by decide) (t := .int) (t' := (.array .byte)) (by decide) (by decide))))
  have f112 := (Ax102.wr W108)
  have f113 := (V102.other W108 (Ne.symm ne103))
  have K108 : Keep h0 h108 [a1] := K102.wr W108 (Or.inl (List.mem_of_getElem? (i := 0) rfl))
  have Nf108 := Fr.snoc X108 N0 g1
  have Z108 : n0 ≤ h108.size := Nat.le_trans Z102 (Keep.of_wr W108).1
  obtain ⟨T114, h114, X114, e114, W114, st114⟩ := putF X108 hx hZ hown (host := "") (Or.inl (hw _ (List.mem_of_getElem? (i := 12) rfl))) Via.refl e108 f111 f109 (Or.inl (hw _ (List.mem_of_getElem? (i := 13) rfl))) (hw _ (List.mem_of_getElem? (i := 1) rfl)) (ty := .int) (by decide) rfl rfl (g := (mkF m 15 #[.val (.ref a1)] [(.int (-1 : Int32)), (.ref a1)])) rfl rfl (hb hby d1_15)
  have Fw114 := f111.same W114
  have f115 := (f109.wr W114)
  have f116 := (f110.other W114 (Or.inr (slot_ne (Or.inl (hw _ (List.mem_of_getElem? (i := 24) rfl))) (Or.inl (hw _ (List.mem_of_getElem? (i := 13) rfl))) (by decide) (t := .int) (t' := .int) (by decide) (by decide))))
  have f117 := (f112.wr W114)
  have f118 := (f113.other W114 (Ne.symm ne103))
  have f119 := (Fw108.other W114 (Or.inr (slot_ne (Or.inl (hw _ (List.mem_of_getElem? (i := 11) rfl))) (Or.inl (hw _ (List.mem_of_getElem? (i := 13) rfl))) (by decide) (t := (.array .byte)) (t' := .int) (by decide) (by decide))))
  have K114 : Keep h0 h114 [a1] := K108.wr W114 (Or.inl (List.mem_of_getElem? (i := 0) rfl))
  have Nf114 := Fr.snoc X114 Nf108 g1
  have Z114 : n0 ≤ h114.size := Nat.le_trans Z108 (Keep.of_wr W114).1
  have pre120 : ∀ t, Steps p.tables e below (T114.setTop (mkF m 18 #[.val (.ref a1)] [])) t → Steps p.tables e below (s₁.setTop (entryFrame m #[(.ref a1)] 1)) t := by
    intro t kt
    refine pre0 t ?_
    show Steps p.tables e below (s₁.setTop (mkF m 0 #[.val (.ref a1)] [])) _
    refine XS.aloadN X0.here hx rfl (hb hby d1_0) rfl rfl ?_
    show Steps p.tables e below (s₁.setTop (mkF m 1 #[.val (.ref a1)] [(.ref a1)])) _
    refine st101 _ ?_
    show Steps p.tables e below (T101.setTop (mkF m 4 #[.val (.ref a1)] [])) _
    refine XS.aloadN X101.here hx rfl (hb hby d1_4) rfl rfl ?_
    show Steps p.tables e below (T101.setTop (mkF m 5 #[.val (.ref a1)] [(.ref a1)])) _
    refine XS.sipush X101.here hx rfl (hb hby d1_5) ?_
    show Steps p.tables e below (T101.setTop (mkF m 8 #[.val (.ref a1)] [(.int (8192 : Int32)), (.ref a1)])) _
    refine st102 _ ?_
    show Steps p.tables e below (T102.setTop (mkF m 10 #[.val (.ref a1)] [(.ref bb), (.ref a1)])) _
    refine st108 _ ?_
    show Steps p.tables e below (T108.setTop (mkF m 13 #[.val (.ref a1)] [])) _
    refine XS.aloadN X108.here hx rfl (hb hby d1_13) rfl rfl ?_
    show Steps p.tables e below (T108.setTop (mkF m 14 #[.val (.ref a1)] [(.ref a1)])) _
    refine XS.iconst X108.here hx rfl (hb hby d1_14) ?_
    show Steps p.tables e below (T108.setTop (mkF m 15 #[.val (.ref a1)] [(.int (-1 : Int32)), (.ref a1)])) _
    refine st114 _ ?_
    exact kt
  obtain ⟨fsx, hr, hrun, hended, hW, hsame⟩ := X114.leave (v := none) (fun _ => rfl)
  refine ⟨_, _, pre120 _ ?_, hrun, hended, _, _, rfl, ?_, ⟨_, rfl⟩, hW, hsame.mono (by decide) (by decide)⟩
  · exact X114.returnOut hx Bd.returns (hb hby d1_18) hr
  · show QI Z a1 h0 n0 _ T114.heap _
    rw [e114]
    exact ⟨bb, _, rfl, Nf114, K114, sz_bb, f119, f116, Fw114, f118⟩
theorem d4_0 : decode prog_32_method_18_code 0 = .ok (.aload_n 0, 1) := by decide +kernel
theorem d4_1 : decode prog_32_method_18_code 1 = .ok (.getfield 9, 3) := by decide +kernel
theorem d4_4 : decode prog_32_method_18_code 4 = .ok (.arraylength, 1) := by decide +kernel
theorem d4_5 : decode prog_32_method_18_code 5 = .ok (.aload_n 0, 1) := by decide +kernel
theorem d4_6 : decode prog_32_method_18_code 6 = .ok (.getfield 24, 3) := by decide +kernel
theorem d4_9 : decode prog_32_method_18_code 9 = .ok (.isub, 1) := by decide +kernel
theorem d4_10 : decode prog_32_method_18_code 10 = .ok (.iload_n 1, 1) := by decide +kernel
theorem d4_11 : decode prog_32_method_18_code 11 = .ok (.if_icmp .ge 62, 3) := by decide +kernel
theorem d4_73 : decode prog_32_method_18_code 73 = .ok (.return_, 1) := by decide +kernel
theorem ef_rmN (m : MethodId) (x0 : Addr) (x1 : Int32) : entryFrame m #[(.ref x0), (.int x1)] 4 = mkF m 0 #[.val (.ref x0), .val (.int x1), .unset, .unset] [] := by first | (simp [entryFrame, mkF, argsToLocals, Value.category]; done) | rfl
def QN (Z : State) (a1 : Addr) (bb : Addr) (k1 : ClassId) (vs : List Value) (sz : Int32) (p2 : Int32) (h0 : Heap) (n0 : Nat) (v : Option Value) (h : Heap) (L : List Loc) : Prop := v = none ∧ Fr n0 L ∧ h = h0
set_option maxRecDepth 65536 in
set_option maxHeartbeats 40000000 in
theorem rmN (l : Launch) (Z : State) (a0 : Array Value) (hw : ∀ d ∈ tables_1, d.before a0 Z = true) (ws : List Jvm.Cond) (a1 : Addr) (bb : Addr) (k1 : ClassId) (vs : List Value) (sz : Int32) (p2 : Int32) (h0 : Heap) (n0 : Nat) (Z0 : n0 ≤ h0.size) (Fb : Fld Z h0 a1 "com/example/flex_actor/flexactor/core/FrameBuffer" "bytes" "[B" (.ref bb)) (Fs : Fld Z h0 a1 "com/example/flex_actor/flexactor/core/FrameBuffer" "size" "I" (.int sz)) (V1 : Arv Z h0 bb k1 .byte (8192 : Int32) vs (.int (0 : Int32))) (hr : ¬ ((8192 : Int32) - sz < p2)) :
    MetFree l (⟨"com/example/flex_actor/flexactor/core/FrameBuffer", "ensure", "(I)V"⟩ : MethodName) (head1 (Jvm.Cond.code (⟨"com/example/flex_actor/flexactor/core/FrameBuffer", "ensure", "(I)V"⟩ : MethodName) prog_32_method_18_code 4 none :: ws) ({ frames := 0, cells := 0, slots := 0, locals := 0 } : Room)) (fun a U => a = #[(.ref a1), (.int p2)] ∧ Z.Warmed39 U.vm ∧ U.heap = h0) (fun _ _ _ _ _ => True) (fun _ U o U' => ∃ v L, o = .returned v ∧ QN Z a1 bb k1 vs sz p2 h0 n0 v U'.heap L ∧ FrameEnd U o U' L ({ frames := 0, cells := 0, slots := 0, locals := 0 } : Room).cells ({ frames := 0, cells := 0, slots := 0, locals := 0 } : Room).slots) := by
  refine MetFree.of_bodySF (plainFor_of_name pn_0) hisR ?_
  intro p e s m args below meth c s₁ Bd hml0 hP hK
  obtain ⟨rfl, hZ, hh⟩ := hP
  have hx := Bd.exec
  have hby := Bd.bytes
  have hml : c.maxLocals = 4 := hml0
  have hown : s.vm.findClass "com/example/flex_actor/flexactor/core/FrameBuffer" = some m.cls := findClass_of_methodNamed Bd.named
  have hnm := (name_of_methodNamed Bd.named Bd.method).1
  have X0 : Stand p l e ({ frames := 0, cells := 0, slots := 0, locals := 0 } : Room) s m #[(.ref a1), (.int p2)] below meth c s₁ [] 0 0 := Stand.of_body Bd
  have e0 : s₁.heap = h0 := by rw [← hh, Bd.state]; rfl
  have N0 := Fr.nil n0
  have pre0 : ∀ t, Steps p.tables e below (s₁.setTop (mkF m 0 #[.val (.ref a1), .val (.int p2), .unset, .unset] [])) t → Steps p.tables e below (s₁.setTop (entryFrame m #[(.ref a1), (.int p2)] 4)) t := fun t k => castTop (ef_rmN m a1 p2) k
  obtain ⟨T121, X121, e121, st121⟩ := getF X0 hx hZ hown (host := "") (Or.inl (hw _ (List.mem_of_getElem? (i := 10) rfl))) Via.refl e0 Fb (g := (mkF m 1 #[.val (.ref a1), .val (.int p2), .unset, .unset] [(.ref a1)])) rfl rfl (hb hby d4_1)
  obtain ⟨T122, X122, e122, st122⟩ := getF X121 hx hZ hown (host := "") (Or.inl (hw _ (List.mem_of_getElem? (i := 23) rfl))) Via.refl e121 Fs (g := (mkF m 6 #[.val (.ref a1), .val (.int p2), .unset, .unset] [(.ref a1), (.int (8192 : Int32))])) rfl rfl (hb hby d4_6)
  have pre123 : ∀ t, Steps p.tables e below (T122.setTop (mkF m 73 #[.val (.ref a1), .val (.int p2), .unset, .unset] [])) t → Steps p.tables e below (s₁.setTop (entryFrame m #[(.ref a1), (.int p2)] 4)) t := by
    intro t kt
    refine pre0 t ?_
    show Steps p.tables e below (s₁.setTop (mkF m 0 #[.val (.ref a1), .val (.int p2), .unset, .unset] [])) _
    refine XS.aloadN X0.here hx rfl (hb hby d4_0) rfl rfl ?_
    show Steps p.tables e below (s₁.setTop (mkF m 1 #[.val (.ref a1), .val (.int p2), .unset, .unset] [(.ref a1)])) _
    refine st121 _ ?_
    show Steps p.tables e below (T121.setTop (mkF m 4 #[.val (.ref a1), .val (.int p2), .unset, .unset] [(.ref bb)])) _
    refine own_len X121 hx hZ e121 V1 (g := (mkF m 4 #[.val (.ref a1), .val (.int p2), .unset, .unset] [(.ref bb)])) rfl rfl (hb hby d4_4) _ ?_
    show Steps p.tables e below (T121.setTop (mkF m 5 #[.val (.ref a1), .val (.int p2), .unset, .unset] [(.int (8192 : Int32))])) _
    refine XS.aloadN X121.here hx rfl (hb hby d4_5) rfl rfl ?_
    show Steps p.tables e below (T121.setTop (mkF m 6 #[.val (.ref a1), .val (.int p2), .unset, .unset] [(.ref a1), (.int (8192 : Int32))])) _
    refine st122 _ ?_
    show Steps p.tables e below (T122.setTop (mkF m 9 #[.val (.ref a1), .val (.int p2), .unset, .unset] [(.int sz), (.int (8192 : Int32))])) _
    refine XS.isub X122.here hx rfl (hb hby d4_9) rfl ?_
    show Steps p.tables e below (T122.setTop (mkF m 10 #[.val (.ref a1), .val (.int p2), .unset, .unset] [(.int ((8192 : Int32) - sz))])) _
    refine XS.iloadN X122.here hx rfl (hb hby d4_10) rfl ?_
    show Steps p.tables e below (T122.setTop (mkF m 11 #[.val (.ref a1), .val (.int p2), .unset, .unset] [(.int p2), (.int ((8192 : Int32) - sz))])) _
    refine XS.icmpYes X122.here hx rfl (pc0 := 11) (pc' := 73) rfl (hb hby d4_11) rfl (flt hr).2.1 (by decide) (by decide) ?_
    exact kt
  obtain ⟨fsx, hr, hrun, hended, hW, hsame⟩ := X122.leave (v := none) (fun _ => rfl)
  refine ⟨_, _, pre123 _ ?_, hrun, hended, _, _, rfl, ?_, ⟨_, rfl⟩, hW, hsame.mono (by decide) (by decide)⟩
  · exact X122.returnOut hx Bd.returns (hb hby d4_73) hr
  · show QN Z a1 bb k1 vs sz p2 h0 n0 _ T122.heap _
    rw [e122]
    exact ⟨rfl, N0, rfl⟩
theorem d5_0 : decode prog_32_method_17_code 0 = .ok (.aload_n 0, 1) := by decide +kernel
theorem d5_1 : decode prog_32_method_17_code 1 = .ok (.getfield 9, 3) := by decide +kernel
theorem d5_4 : decode prog_32_method_17_code 4 = .ok (.iload_n 1, 1) := by decide +kernel
theorem d5_5 : decode prog_32_method_17_code 5 = .ok (.iload_n 2, 1) := by decide +kernel
theorem d5_6 : decode prog_32_method_17_code 6 = .ok (.bipush 24, 2) := by decide +kernel
theorem d5_8 : decode prog_32_method_17_code 8 = .ok (.iushr, 1) := by decide +kernel
theorem d5_9 : decode prog_32_method_17_code 9 = .ok (.i2b, 1) := by decide +kernel
theorem d5_10 : decode prog_32_method_17_code 10 = .ok (.bastore, 1) := by decide +kernel
theorem d5_11 : decode prog_32_method_17_code 11 = .ok (.aload_n 0, 1) := by decide +kernel
theorem d5_12 : decode prog_32_method_17_code 12 = .ok (.getfield 9, 3) := by decide +kernel
theorem d5_15 : decode prog_32_method_17_code 15 = .ok (.iload_n 1, 1) := by decide +kernel
theorem d5_16 : decode prog_32_method_17_code 16 = .ok (.iconst 1, 1) := by decide +kernel
theorem d5_17 : decode prog_32_method_17_code 17 = .ok (.iadd, 1) := by decide +kernel
theorem d5_18 : decode prog_32_method_17_code 18 = .ok (.iload_n 2, 1) := by decide +kernel
theorem d5_19 : decode prog_32_method_17_code 19 = .ok (.bipush 16, 2) := by decide +kernel
theorem d5_21 : decode prog_32_method_17_code 21 = .ok (.iushr, 1) := by decide +kernel
theorem d5_22 : decode prog_32_method_17_code 22 = .ok (.i2b, 1) := by decide +kernel
theorem d5_23 : decode prog_32_method_17_code 23 = .ok (.bastore, 1) := by decide +kernel
theorem d5_24 : decode prog_32_method_17_code 24 = .ok (.aload_n 0, 1) := by decide +kernel
theorem d5_25 : decode prog_32_method_17_code 25 = .ok (.getfield 9, 3) := by decide +kernel
theorem d5_28 : decode prog_32_method_17_code 28 = .ok (.iload_n 1, 1) := by decide +kernel
theorem d5_29 : decode prog_32_method_17_code 29 = .ok (.iconst 2, 1) := by decide +kernel
theorem d5_30 : decode prog_32_method_17_code 30 = .ok (.iadd, 1) := by decide +kernel
theorem d5_31 : decode prog_32_method_17_code 31 = .ok (.iload_n 2, 1) := by decide +kernel
theorem d5_32 : decode prog_32_method_17_code 32 = .ok (.bipush 8, 2) := by decide +kernel
theorem d5_34 : decode prog_32_method_17_code 34 = .ok (.iushr, 1) := by decide +kernel
theorem d5_35 : decode prog_32_method_17_code 35 = .ok (.i2b, 1) := by decide +kernel
theorem d5_36 : decode prog_32_method_17_code 36 = .ok (.bastore, 1) := by decide +kernel
theorem d5_37 : decode prog_32_method_17_code 37 = .ok (.aload_n 0, 1) := by decide +kernel
theorem d5_38 : decode prog_32_method_17_code 38 = .ok (.getfield 9, 3) := by decide +kernel
theorem d5_41 : decode prog_32_method_17_code 41 = .ok (.iload_n 1, 1) := by decide +kernel
theorem d5_42 : decode prog_32_method_17_code 42 = .ok (.iconst 3, 1) := by decide +kernel
theorem d5_43 : decode prog_32_method_17_code 43 = .ok (.iadd, 1) := by decide +kernel
theorem d5_44 : decode prog_32_method_17_code 44 = .ok (.iload_n 2, 1) := by decide +kernel
theorem d5_45 : decode prog_32_method_17_code 45 = .ok (.i2b, 1) := by decide +kernel
theorem d5_46 : decode prog_32_method_17_code 46 = .ok (.bastore, 1) := by decide +kernel
theorem d5_47 : decode prog_32_method_17_code 47 = .ok (.return_, 1) := by decide +kernel
theorem ef_rmP (m : MethodId) (x0 : Addr) (x1 : Int32) (x2 : Int32) : entryFrame m #[(.ref x0), (.int x1), (.int x2)] 3 = mkF m 0 #[.val (.ref x0), .val (.int x1), .val (.int x2)] [] := by first | (simp [entryFrame, mkF, argsToLocals, Value.category]; done) | rfl
def QP (Z : State) (a1 : Addr) (bb : Addr) (k1 : ClassId) (vs : List Value) (i : Nat) (p3 : Int32) (h0 : Heap) (n0 : Nat) (v : Option Value) (h : Heap) (L : List Loc) : Prop := v = none ∧ Fr n0 L ∧ Keep h0 h [bb] ∧ Arv Z h bb k1 .byte (8192 : Int32) (own_put vs i p3) (.int (0 : Int32))
set_option maxRecDepth 65536 in
set_option maxHeartbeats 40000000 in
theorem rmP (l : Launch) (Z : State) (a0 : Array Value) (hw : ∀ d ∈ tables_1, d.before a0 Z = true) (ws : List Jvm.Cond) (a1 : Addr) (bb : Addr) (k1 : ClassId) (vs : List Value) (i : Nat) (p3 : Int32) (h0 : Heap) (n0 : Nat) (Z0 : n0 ≤ h0.size) (Fb : Fld Z h0 a1 "com/example/flex_actor/flexactor/core/FrameBuffer" "bytes" "[B" (.ref bb)) (V1 : Arv Z h0 bb k1 .byte (8192 : Int32) vs (.int (0 : Int32))) (hvs : vs.length = 16) (ne1 : a1 ≠ bb) (g2 : n0 ≤ bb) (hi : i + 4 ≤ 16) :
    MetFree l (⟨"com/example/flex_actor/flexactor/core/FrameBuffer", "putInt", "(II)V"⟩ : MethodName) (head1 (Jvm.Cond.code (⟨"com/example/flex_actor/flexactor/core/FrameBuffer", "putInt", "(II)V"⟩ : MethodName) prog_32_method_17_code 3 none :: ws) ({ frames := 0, cells := 0, slots := 0, locals := 0 } : Room)) (fun a U => a = #[(.ref a1), (.int (Int32.ofNat i)), (.int p3)] ∧ Z.Warmed39 U.vm ∧ U.heap = h0) (fun _ _ _ _ _ => True) (fun _ U o U' => ∃ v L, o = .returned v ∧ QP Z a1 bb k1 vs i p3 h0 n0 v U'.heap L ∧ FrameEnd U o U' L ({ frames := 0, cells := 0, slots := 0, locals := 0 } : Room).cells ({ frames := 0, cells := 0, slots := 0, locals := 0 } : Room).slots) := by
  refine MetFree.of_bodySF (plainFor_of_name pn_0) hisR ?_
  intro p e s m args below meth c s₁ Bd hml0 hP hK
  obtain ⟨rfl, hZ, hh⟩ := hP
  have hx := Bd.exec
  have hby := Bd.bytes
  have hml : c.maxLocals = 3 := hml0
  have hown : s.vm.findClass "com/example/flex_actor/flexactor/core/FrameBuffer" = some m.cls := findClass_of_methodNamed Bd.named
  have hnm := (name_of_methodNamed Bd.named Bd.method).1
  have X0 : Stand p l e ({ frames := 0, cells := 0, slots := 0, locals := 0 } : Room) s m #[(.ref a1), (.int (Int32.ofNat i)), (.int p3)] below meth c s₁ [] 0 0 := Stand.of_body Bd
  have e0 : s₁.heap = h0 := by rw [← hh, Bd.state]; rfl
  have N0 := Fr.nil n0
  have pre0 : ∀ t, Steps p.tables e below (s₁.setTop (mkF m 0 #[.val (.ref a1), .val (.int (Int32.ofNat i)), .val (.int p3)] [])) t → Steps p.tables e below (s₁.setTop (entryFrame m #[(.ref a1), (.int (Int32.ofNat i)), (.int p3)] 3)) t := fun t k => castTop (ef_rmP m a1 (Int32.ofNat i) p3) k
  obtain ⟨T124, X124, e124, st124⟩ := getF X0 hx hZ hown (host := "") (Or.inl (hw _ (List.mem_of_getElem? (i := 10) rfl))) Via.refl e0 Fb (g := (mkF m 1 #[.val (.ref a1), .val (.int (Int32.ofNat i)), .val (.int p3)] [(.ref a1)])) rfl rfl (hb hby d5_1)
  obtain ⟨T125, h125, X125, e125, W125, V125, st125⟩ := own_bst X124 hx hZ e124 V1 (j := (Int32.ofNat i)) (own_j (by omega)) (i := i) (own_jn (by omega)) (by omega) (w := (((p3.toUInt32 >>> ((24 : Int32) &&& 31).toUInt32).toInt32).toInt8.toInt32)) (own_nar _) (g := (mkF m 10 #[.val (.ref a1), .val (.int (Int32.ofNat i)), .val (.int p3)] [(.int (((p3.toUInt32 >>> ((24 : Int32) &&& 31).toUInt32).toInt32).toInt8.toInt32)), (.int (Int32.ofNat i)), (.ref bb)])) rfl rfl (hb hby d5_10)
  have f126 := (Fb.other W125 (Or.inl ne1))
  have K125 : Keep h0 h125 [bb] := (Keep.refl h0 [bb]).wr W125 (Or.inl (List.mem_of_getElem? (i := 0) rfl))
  have Nf125 := Fr.snoc X125 N0 g2
  have Z125 : n0 ≤ h125.size := Nat.le_trans Z0 (Keep.of_wr W125).1
  obtain ⟨T127, X127, e127, st127⟩ := getF X125 hx hZ hown (host := "") (Or.inl (hw _ (List.mem_of_getElem? (i := 10) rfl))) Via.refl e125 f126 (g := (mkF m 12 #[.val (.ref a1), .val (.int (Int32.ofNat i)), .val (.int p3)] [(.ref a1)])) rfl rfl (hb hby d5_12)
  obtain ⟨T128, h128, X128, e128, W128, V128, st128⟩ := own_bst X127 hx hZ e127 V125 (j := ((Int32.ofNat i) + (1 : Int32))) (own_ja i 1 (by omega)) (i := (i + 1)) (own_jan i 1 (by omega)) (by simp only [List.length_set, hvs]; omega) (w := (((p3.toUInt32 >>> ((16 : Int32) &&& 31).toUInt32).toInt32).toInt8.toInt32)) (own_nar _) (g := (mkF m 23 #[.val (.ref a1), .val (.int (Int32.ofNat i)), .val (.int p3)] [(.int (((p3.toUInt32 >>> ((16 : Int32) &&& 31).toUInt32).toInt32).toInt8.toInt32)), (.int ((Int32.ofNat i) + (1 : Int32))), (.ref bb)])) rfl rfl (hb hby d5_23)
  have f129 := (f126.other W128 (Or.inl ne1))
  have K128 : Keep h0 h128 [bb] := K125.wr W128 (Or.inl (List.mem_of_getElem? (i := 0) rfl))
  have Nf128 := Fr.snoc X128 Nf125 g2
  have Z128 : n0 ≤ h128.size := Nat.le_trans Z125 (Keep.of_wr W128).1
  obtain ⟨T130, X130, e130, st130⟩ := getF X128 hx hZ hown (host := "") (Or.inl (hw _ (List.mem_of_getElem? (i := 10) rfl))) Via.refl e128 f129 (g := (mkF m 25 #[.val (.ref a1), .val (.int (Int32.ofNat i)), .val (.int p3)] [(.ref a1)])) rfl rfl (hb hby d5_25)
  obtain ⟨T131, h131, X131, e131, W131, V131, st131⟩ := own_bst X130 hx hZ e130 V128 (j := ((Int32.ofNat i) + (2 : Int32))) (own_ja i 2 (by omega)) (i := (i + 2)) (own_jan i 2 (by omega)) (by simp only [List.length_set, hvs]; omega) (w := (((p3.toUInt32 >>> ((8 : Int32) &&& 31).toUInt32).toInt32).toInt8.toInt32)) (own_nar _) (g := (mkF m 36 #[.val (.ref a1), .val (.int (Int32.ofNat i)), .val (.int p3)] [(.int (((p3.toUInt32 >>> ((8 : Int32) &&& 31).toUInt32).toInt32).toInt8.toInt32)), (.int ((Int32.ofNat i) + (2 : Int32))), (.ref bb)])) rfl rfl (hb hby d5_36)
  have f132 := (f129.other W131 (Or.inl ne1))
  have K131 : Keep h0 h131 [bb] := K128.wr W131 (Or.inl (List.mem_of_getElem? (i := 0) rfl))
  have Nf131 := Fr.snoc X131 Nf128 g2
  have Z131 : n0 ≤ h131.size := Nat.le_trans Z128 (Keep.of_wr W131).1
  obtain ⟨T133, X133, e133, st133⟩ := getF X131 hx hZ hown (host := "") (Or.inl (hw _ (List.mem_of_getElem? (i := 10) rfl))) Via.refl e131 f132 (g := (mkF m 38 #[.val (.ref a1), .val (.int (Int32.ofNat i)), .val (.int p3)] [(.ref a1)])) rfl rfl (hb hby d5_38)
  obtain ⟨T134, h134, X134, e134, W134, V134, st134⟩ := own_bst X133 hx hZ e133 V131 (j := ((Int32.ofNat i) + (3 : Int32))) (own_ja i 3 (by omega)) (i := (i + 3)) (own_jan i 3 (by omega)) (by simp only [List.length_set, hvs]; omega) (w := (p3.toInt8.toInt32)) (own_nar _) (g := (mkF m 46 #[.val (.ref a1), .val (.int (Int32.ofNat i)), .val (.int p3)] [(.int (p3.toInt8.toInt32)), (.int ((Int32.ofNat i) + (3 : Int32))), (.ref bb)])) rfl rfl (hb hby d5_46)
  have f135 := (f132.other W134 (Or.inl ne1))
  have K134 : Keep h0 h134 [bb] := K131.wr W134 (Or.inl (List.mem_of_getElem? (i := 0) rfl))
  have Nf134 := Fr.snoc X134 Nf131 g2
  have Z134 : n0 ≤ h134.size := Nat.le_trans Z131 (Keep.of_wr W134).1
  have pre136 : ∀ t, Steps p.tables e below (T134.setTop (mkF m 47 #[.val (.ref a1), .val (.int (Int32.ofNat i)), .val (.int p3)] [])) t → Steps p.tables e below (s₁.setTop (entryFrame m #[(.ref a1), (.int (Int32.ofNat i)), (.int p3)] 3)) t := by
    intro t kt
    refine pre0 t ?_
    show Steps p.tables e below (s₁.setTop (mkF m 0 #[.val (.ref a1), .val (.int (Int32.ofNat i)), .val (.int p3)] [])) _
    refine XS.aloadN X0.here hx rfl (hb hby d5_0) rfl rfl ?_
    show Steps p.tables e below (s₁.setTop (mkF m 1 #[.val (.ref a1), .val (.int (Int32.ofNat i)), .val (.int p3)] [(.ref a1)])) _
    refine st124 _ ?_
    show Steps p.tables e below (T124.setTop (mkF m 4 #[.val (.ref a1), .val (.int (Int32.ofNat i)), .val (.int p3)] [(.ref bb)])) _
    refine XS.iloadN X124.here hx rfl (hb hby d5_4) rfl ?_
    show Steps p.tables e below (T124.setTop (mkF m 5 #[.val (.ref a1), .val (.int (Int32.ofNat i)), .val (.int p3)] [(.int (Int32.ofNat i)), (.ref bb)])) _
    refine XS.iloadN X124.here hx rfl (hb hby d5_5) rfl ?_
    show Steps p.tables e below (T124.setTop (mkF m 6 #[.val (.ref a1), .val (.int (Int32.ofNat i)), .val (.int p3)] [(.int p3), (.int (Int32.ofNat i)), (.ref bb)])) _
    refine XS.bipush X124.here hx rfl (hb hby d5_6) ?_
    show Steps p.tables e below (T124.setTop (mkF m 8 #[.val (.ref a1), .val (.int (Int32.ofNat i)), .val (.int p3)] [(.int (24 : Int32)), (.int p3), (.int (Int32.ofNat i)), (.ref bb)])) _
    refine XS.iushr X124.here hx rfl (hb hby d5_8) rfl ?_
    show Steps p.tables e below (T124.setTop (mkF m 9 #[.val (.ref a1), .val (.int (Int32.ofNat i)), .val (.int p3)] [(.int ((p3.toUInt32 >>> ((24 : Int32) &&& 31).toUInt32).toInt32)), (.int (Int32.ofNat i)), (.ref bb)])) _
    refine XS.i2b X124.here hx rfl (hb hby d5_9) rfl ?_
    show Steps p.tables e below (T124.setTop (mkF m 10 #[.val (.ref a1), .val (.int (Int32.ofNat i)), .val (.int p3)] [(.int (((p3.toUInt32 >>> ((24 : Int32) &&& 31).toUInt32).toInt32).toInt8.toInt32)), (.int (Int32.ofNat i)), (.ref bb)])) _
    refine st125 _ ?_
    show Steps p.tables e below (T125.setTop (mkF m 11 #[.val (.ref a1), .val (.int (Int32.ofNat i)), .val (.int p3)] [])) _
    refine XS.aloadN X125.here hx rfl (hb hby d5_11) rfl rfl ?_
    show Steps p.tables e below (T125.setTop (mkF m 12 #[.val (.ref a1), .val (.int (Int32.ofNat i)), .val (.int p3)] [(.ref a1)])) _
    refine st127 _ ?_
    show Steps p.tables e below (T127.setTop (mkF m 15 #[.val (.ref a1), .val (.int (Int32.ofNat i)), .val (.int p3)] [(.ref bb)])) _
    refine XS.iloadN X127.here hx rfl (hb hby d5_15) rfl ?_
    show Steps p.tables e below (T127.setTop (mkF m 16 #[.val (.ref a1), .val (.int (Int32.ofNat i)), .val (.int p3)] [(.int (Int32.ofNat i)), (.ref bb)])) _
    refine XS.iconst X127.here hx rfl (hb hby d5_16) ?_
    show Steps p.tables e below (T127.setTop (mkF m 17 #[.val (.ref a1), .val (.int (Int32.ofNat i)), .val (.int p3)] [(.int (1 : Int32)), (.int (Int32.ofNat i)), (.ref bb)])) _
    refine XS.iadd X127.here hx rfl (hb hby d5_17) rfl ?_
    show Steps p.tables e below (T127.setTop (mkF m 18 #[.val (.ref a1), .val (.int (Int32.ofNat i)), .val (.int p3)] [(.int ((Int32.ofNat i) + (1 : Int32))), (.ref bb)])) _
    refine XS.iloadN X127.here hx rfl (hb hby d5_18) rfl ?_
    show Steps p.tables e below (T127.setTop (mkF m 19 #[.val (.ref a1), .val (.int (Int32.ofNat i)), .val (.int p3)] [(.int p3), (.int ((Int32.ofNat i) + (1 : Int32))), (.ref bb)])) _
    refine XS.bipush X127.here hx rfl (hb hby d5_19) ?_
    show Steps p.tables e below (T127.setTop (mkF m 21 #[.val (.ref a1), .val (.int (Int32.ofNat i)), .val (.int p3)] [(.int (16 : Int32)), (.int p3), (.int ((Int32.ofNat i) + (1 : Int32))), (.ref bb)])) _
    refine XS.iushr X127.here hx rfl (hb hby d5_21) rfl ?_
    show Steps p.tables e below (T127.setTop (mkF m 22 #[.val (.ref a1), .val (.int (Int32.ofNat i)), .val (.int p3)] [(.int ((p3.toUInt32 >>> ((16 : Int32) &&& 31).toUInt32).toInt32)), (.int ((Int32.ofNat i) + (1 : Int32))), (.ref bb)])) _
    refine XS.i2b X127.here hx rfl (hb hby d5_22) rfl ?_
    show Steps p.tables e below (T127.setTop (mkF m 23 #[.val (.ref a1), .val (.int (Int32.ofNat i)), .val (.int p3)] [(.int (((p3.toUInt32 >>> ((16 : Int32) &&& 31).toUInt32).toInt32).toInt8.toInt32)), (.int ((Int32.ofNat i) + (1 : Int32))), (.ref bb)])) _
    refine st128 _ ?_
    show Steps p.tables e below (T128.setTop (mkF m 24 #[.val (.ref a1), .val (.int (Int32.ofNat i)), .val (.int p3)] [])) _
    refine XS.aloadN X128.here hx rfl (hb hby d5_24) rfl rfl ?_
    show Steps p.tables e below (T128.setTop (mkF m 25 #[.val (.ref a1), .val (.int (Int32.ofNat i)), .val (.int p3)] [(.ref a1)])) _
    refine st130 _ ?_
    show Steps p.tables e below (T130.setTop (mkF m 28 #[.val (.ref a1), .val (.int (Int32.ofNat i)), .val (.int p3)] [(.ref bb)])) _
    refine XS.iloadN X130.here hx rfl (hb hby d5_28) rfl ?_
    show Steps p.tables e below (T130.setTop (mkF m 29 #[.val (.ref a1), .val (.int (Int32.ofNat i)), .val (.int p3)] [(.int (Int32.ofNat i)), (.ref bb)])) _
    refine XS.iconst X130.here hx rfl (hb hby d5_29) ?_
    show Steps p.tables e below (T130.setTop (mkF m 30 #[.val (.ref a1), .val (.int (Int32.ofNat i)), .val (.int p3)] [(.int (2 : Int32)), (.int (Int32.ofNat i)), (.ref bb)])) _
    refine XS.iadd X130.here hx rfl (hb hby d5_30) rfl ?_
    show Steps p.tables e below (T130.setTop (mkF m 31 #[.val (.ref a1), .val (.int (Int32.ofNat i)), .val (.int p3)] [(.int ((Int32.ofNat i) + (2 : Int32))), (.ref bb)])) _
    refine XS.iloadN X130.here hx rfl (hb hby d5_31) rfl ?_
    show Steps p.tables e below (T130.setTop (mkF m 32 #[.val (.ref a1), .val (.int (Int32.ofNat i)), .val (.int p3)] [(.int p3), (.int ((Int32.ofNat i) + (2 : Int32))), (.ref bb)])) _
    refine XS.bipush X130.here hx rfl (hb hby d5_32) ?_
    show Steps p.tables e below (T130.setTop (mkF m 34 #[.val (.ref a1), .val (.int (Int32.ofNat i)), .val (.int p3)] [(.int (8 : Int32)), (.int p3), (.int ((Int32.ofNat i) + (2 : Int32))), (.ref bb)])) _
    refine XS.iushr X130.here hx rfl (hb hby d5_34) rfl ?_
    show Steps p.tables e below (T130.setTop (mkF m 35 #[.val (.ref a1), .val (.int (Int32.ofNat i)), .val (.int p3)] [(.int ((p3.toUInt32 >>> ((8 : Int32) &&& 31).toUInt32).toInt32)), (.int ((Int32.ofNat i) + (2 : Int32))), (.ref bb)])) _
    refine XS.i2b X130.here hx rfl (hb hby d5_35) rfl ?_
    show Steps p.tables e below (T130.setTop (mkF m 36 #[.val (.ref a1), .val (.int (Int32.ofNat i)), .val (.int p3)] [(.int (((p3.toUInt32 >>> ((8 : Int32) &&& 31).toUInt32).toInt32).toInt8.toInt32)), (.int ((Int32.ofNat i) + (2 : Int32))), (.ref bb)])) _
    refine st131 _ ?_
    show Steps p.tables e below (T131.setTop (mkF m 37 #[.val (.ref a1), .val (.int (Int32.ofNat i)), .val (.int p3)] [])) _
    refine XS.aloadN X131.here hx rfl (hb hby d5_37) rfl rfl ?_
    show Steps p.tables e below (T131.setTop (mkF m 38 #[.val (.ref a1), .val (.int (Int32.ofNat i)), .val (.int p3)] [(.ref a1)])) _
    refine st133 _ ?_
    show Steps p.tables e below (T133.setTop (mkF m 41 #[.val (.ref a1), .val (.int (Int32.ofNat i)), .val (.int p3)] [(.ref bb)])) _
    refine XS.iloadN X133.here hx rfl (hb hby d5_41) rfl ?_
    show Steps p.tables e below (T133.setTop (mkF m 42 #[.val (.ref a1), .val (.int (Int32.ofNat i)), .val (.int p3)] [(.int (Int32.ofNat i)), (.ref bb)])) _
    refine XS.iconst X133.here hx rfl (hb hby d5_42) ?_
    show Steps p.tables e below (T133.setTop (mkF m 43 #[.val (.ref a1), .val (.int (Int32.ofNat i)), .val (.int p3)] [(.int (3 : Int32)), (.int (Int32.ofNat i)), (.ref bb)])) _
    refine XS.iadd X133.here hx rfl (hb hby d5_43) rfl ?_
    show Steps p.tables e below (T133.setTop (mkF m 44 #[.val (.ref a1), .val (.int (Int32.ofNat i)), .val (.int p3)] [(.int ((Int32.ofNat i) + (3 : Int32))), (.ref bb)])) _
    refine XS.iloadN X133.here hx rfl (hb hby d5_44) rfl ?_
    show Steps p.tables e below (T133.setTop (mkF m 45 #[.val (.ref a1), .val (.int (Int32.ofNat i)), .val (.int p3)] [(.int p3), (.int ((Int32.ofNat i) + (3 : Int32))), (.ref bb)])) _
    refine XS.i2b X133.here hx rfl (hb hby d5_45) rfl ?_
    show Steps p.tables e below (T133.setTop (mkF m 46 #[.val (.ref a1), .val (.int (Int32.ofNat i)), .val (.int p3)] [(.int (p3.toInt8.toInt32)), (.int ((Int32.ofNat i) + (3 : Int32))), (.ref bb)])) _
    refine st134 _ ?_
    exact kt
  obtain ⟨fsx, hr, hrun, hended, hW, hsame⟩ := X134.leave (v := none) (fun _ => rfl)
  refine ⟨_, _, pre136 _ ?_, hrun, hended, _, _, rfl, ?_, ⟨_, rfl⟩, hW, hsame.mono (by decide) (by decide)⟩
  · exact X134.returnOut hx Bd.returns (hb hby d5_47) hr
  · show QP Z a1 bb k1 vs i p3 h0 n0 _ T134.heap _
    rw [e134]
    exact ⟨rfl, Nf134, K134, V134⟩
theorem d3_0 : decode prog_32_method_13_code 0 = .ok (.aload_n 0, 1) := by decide +kernel
theorem d3_1 : decode prog_32_method_13_code 1 = .ok (.iconst 4, 1) := by decide +kernel
theorem pd_0 : parseMethodDescriptor "(I)V" = some ⟨[.int], none⟩ := by decide +kernel
theorem d3_2 : decode prog_32_method_13_code 2 = .ok (.invokevirtual 75, 3) := by decide +kernel
theorem d3_5 : decode prog_32_method_13_code 5 = .ok (.aload_n 0, 1) := by decide +kernel
theorem d3_6 : decode prog_32_method_13_code 6 = .ok (.aload_n 0, 1) := by decide +kernel
theorem d3_7 : decode prog_32_method_13_code 7 = .ok (.getfield 24, 3) := by decide +kernel
theorem d3_10 : decode prog_32_method_13_code 10 = .ok (.iload_n 1, 1) := by decide +kernel
theorem pd_1 : parseMethodDescriptor "(II)V" = some ⟨[.int, .int], none⟩ := by decide +kernel
theorem d3_11 : decode prog_32_method_13_code 11 = .ok (.invokevirtual 48, 3) := by decide +kernel
theorem d3_14 : decode prog_32_method_13_code 14 = .ok (.aload_n 0, 1) := by decide +kernel
theorem d3_15 : decode prog_32_method_13_code 15 = .ok (.dup, 1) := by decide +kernel
theorem d3_16 : decode prog_32_method_13_code 16 = .ok (.getfield 24, 3) := by decide +kernel
theorem d3_19 : decode prog_32_method_13_code 19 = .ok (.iconst 4, 1) := by decide +kernel
theorem d3_20 : decode prog_32_method_13_code 20 = .ok (.iadd, 1) := by decide +kernel
theorem d3_21 : decode prog_32_method_13_code 21 = .ok (.putfield 24, 3) := by decide +kernel
theorem d3_24 : decode prog_32_method_13_code 24 = .ok (.return_, 1) := by decide +kernel
theorem ef_rmW (m : MethodId) (x0 : Addr) (x1 : Int32) : entryFrame m #[(.ref x0), (.int x1)] 2 = mkF m 0 #[.val (.ref x0), .val (.int x1)] [] := by first | (simp [entryFrame, mkF, argsToLocals, Value.category]; done) | rfl
def QW (Z : State) (a1 : Addr) (bb : Addr) (k1 : ClassId) (vs : List Value) (i : Nat) (fs : Int32) (p2 : Int32) (h0 : Heap) (n0 : Nat) (v : Option Value) (h : Heap) (L : List Loc) : Prop := v = none ∧ Fr n0 L ∧ Keep h0 h [a1, bb] ∧ Fld Z h a1 "com/example/flex_actor/flexactor/core/FrameBuffer" "bytes" "[B" (.ref bb) ∧ Fld Z h a1 "com/example/flex_actor/flexactor/core/FrameBuffer" "size" "I" (.int (Int32.ofNat (i + 4))) ∧ Fld Z h a1 "com/example/flex_actor/flexactor/core/FrameBuffer" "frameStart" "I" (.int fs) ∧ Arv Z h bb k1 .byte (8192 : Int32) (own_put vs i p2) (.int (0 : Int32))
set_option maxRecDepth 65536 in
set_option maxHeartbeats 40000000 in
theorem rmW (l : Launch) (Z : State) (a0 : Array Value) (hw : ∀ d ∈ tables_1, d.before a0 Z = true) (ws : List Jvm.Cond) (a1 : Addr) (bb : Addr) (k1 : ClassId) (vs : List Value) (i : Nat) (fs : Int32) (p2 : Int32) (h0 : Heap) (n0 : Nat) (Z0 : n0 ≤ h0.size) (E1 : Exa Z h0 a1 "com/example/flex_actor/flexactor/core/FrameBuffer") (Fb : Fld Z h0 a1 "com/example/flex_actor/flexactor/core/FrameBuffer" "bytes" "[B" (.ref bb)) (Fs : Fld Z h0 a1 "com/example/flex_actor/flexactor/core/FrameBuffer" "size" "I" (.int (Int32.ofNat i))) (Ff : Fld Z h0 a1 "com/example/flex_actor/flexactor/core/FrameBuffer" "frameStart" "I" (.int fs)) (V1 : Arv Z h0 bb k1 .byte (8192 : Int32) vs (.int (0 : Int32))) (hvs : vs.length = 16) (ne1 : a1 ≠ bb) (g1 : n0 ≤ a1) (g2 : n0 ≤ bb) (hi : i + 4 ≤ 16) :
    MetFree l (⟨"com/example/flex_actor/flexactor/core/FrameBuffer", "writeInt", "(I)V"⟩ : MethodName) (head1 (Jvm.Cond.code (⟨"com/example/flex_actor/flexactor/core/FrameBuffer", "writeInt", "(I)V"⟩ : MethodName) prog_32_method_13_code 2 none :: ws) ({ frames := 1, cells := 0, slots := 0, locals := 15 } : Room)) (fun a U => a = #[(.ref a1), (.int p2)] ∧ Z.Warmed39 U.vm ∧ U.heap = h0) (fun _ _ _ _ _ => True) (fun _ U o U' => ∃ v L, o = .returned v ∧ QW Z a1 bb k1 vs i fs p2 h0 n0 v U'.heap L ∧ FrameEnd U o U' L ({ frames := 1, cells := 0, slots := 0, locals := 15 } : Room).cells ({ frames := 1, cells := 0, slots := 0, locals := 15 } : Room).slots) := by
  refine MetFree.of_bodySF (plainFor_of_name pn_0) hisR ?_
  intro p e s m args below meth c s₁ Bd hml0 hP hK
  obtain ⟨rfl, hZ, hh⟩ := hP
  have hx := Bd.exec
  have hby := Bd.bytes
  have hml : c.maxLocals = 2 := hml0
  have hown : s.vm.findClass "com/example/flex_actor/flexactor/core/FrameBuffer" = some m.cls := findClass_of_methodNamed Bd.named
  have hnm := (name_of_methodNamed Bd.named Bd.method).1
  have X0 : Stand p l e ({ frames := 1, cells := 0, slots := 0, locals := 15 } : Room) s m #[(.ref a1), (.int p2)] below meth c s₁ [] 0 0 := Stand.of_body Bd
  have e0 : s₁.heap = h0 := by rw [← hh, Bd.state]; rfl
  have N0 := Fr.nil n0
  have pre0 : ∀ t, Steps p.tables e below (s₁.setTop (mkF m 0 #[.val (.ref a1), .val (.int p2)] [])) t → Steps p.tables e below (s₁.setTop (entryFrame m #[(.ref a1), (.int p2)] 2)) t := fun t k => castTop (ef_rmW m a1 p2) k
  obtain ⟨cq137, q137, q137'⟩ := E1.cell
  obtain ⟨_, _, ⟨T137, L137, k137, n137⟩, -, X137, ⟨Lc137, hQ137, l137, y137, z137⟩, st137⟩ := X0.privateBack hx (y := (⟨"com/example/flex_actor/flexactor/core/FrameBuffer", "ensure", "(I)V"⟩ : MethodName)) hown (mvT hZ (hw _ (List.mem_of_getElem? (i := 19) rfl))) (mvT hZ (hw _ (List.mem_of_getElem? (i := 20) rfl))) (own_selp (C := "com/example/flex_actor/flexactor/core/FrameBuffer") (y := (⟨"com/example/flex_actor/flexactor/core/FrameBuffer", "ensure", "(I)V"⟩ : MethodName)) (w := (⟨"com/example/flex_actor/flexactor/core/FrameBuffer", "writeInt", "(I)V"⟩ : MethodName)) rfl (mvT hZ (hw _ (List.mem_of_getElem? (i := 17) rfl))) (Cond.privateMethod_at (mvP hZ (hw _ (List.mem_of_getElem? (i := 21) rfl)) (args := #[]))) (mvT hZ (hw _ (List.mem_of_getElem? (i := 20) rfl))) (by decide)) (Cond.privateMethod_at (mvP hZ (hw _ (List.mem_of_getElem? (i := 21) rfl)) (args := #[]))) (mvT hZ (hw _ (List.mem_of_getElem? (i := 22) rfl))) (by decide) (backOf (W := 0) (rmN l Z a0 hw [] a1 bb k1 vs (Int32.ofNat i) (4 : Int32) h0 n0 Z0 Fb Fs V1 (own_room i 4 (by omega) (by omega))) hZ (hw _ (List.mem_of_getElem? (i := 22) rfl)) (hw _ (List.mem_of_getElem? (i := 2) rfl)) (by decide) (by decide)) (g := (mkF m 2 #[.val (.ref a1), .val (.int p2)] [(.int (4 : Int32)), (.ref a1)])) rfl (by rw [hml]; rfl) (Steps.refl _) (a := a1) (by rw [e0]; exact q137) q137' (argsL := [(.int (4 : Int32))]) (rest := []) (lenOf pd_0 rfl) rfl (by show 2 * 0 + _ ≤ _; exact Nat.le_of_eq rfl) (hb hby d3_2) (fun _ _ => ⟨rfl, e0, (by decide : 0 + 0 ≤ _), (by decide : 0 + 0 ≤ _)⟩)
  dsimp only [Pt.U, Pt.locs, Pt.cells, Pt.slots] at X137 l137 y137 z137 st137 hQ137
  subst l137 y137 z137
  obtain ⟨rfl, Nq137, eq137⟩ := hQ137
  have Nf137 := Fr.app N0 Nq137
  obtain ⟨T138, X138, e138, st138⟩ := getF X137 hx hZ hown (host := "") (Or.inl (hw _ (List.mem_of_getElem? (i := 23) rfl))) Via.refl eq137 Fs (g := (mkF m 7 #[.val (.ref a1), .val (.int p2)] [(.ref a1), (.ref a1)])) rfl rfl (hb hby d3_7)
  obtain ⟨cq139, q139, q139'⟩ := E1.cell
  obtain ⟨_, _, ⟨T139, L139, k139, n139⟩, -, X139, ⟨Lc139, hQ139, l139, y139, z139⟩, st139⟩ := X138.privateBack hx (y := (⟨"com/example/flex_actor/flexactor/core/FrameBuffer", "putInt", "(II)V"⟩ : MethodName)) hown (mvT hZ (hw _ (List.mem_of_getElem? (i := 25) rfl))) (mvT hZ (hw _ (List.mem_of_getElem? (i := 26) rfl))) (own_selp (C := "com/example/flex_actor/flexactor/core/FrameBuffer") (y := (⟨"com/example/flex_actor/flexactor/core/FrameBuffer", "putInt", "(II)V"⟩ : MethodName)) (w := (⟨"com/example/flex_actor/flexactor/core/FrameBuffer", "writeInt", "(I)V"⟩ : MethodName)) rfl (mvT hZ (hw _ (List.mem_of_getElem? (i := 17) rfl))) (Cond.privateMethod_at (mvP hZ (hw _ (List.mem_of_getElem? (i := 27) rfl)) (args := #[]))) (mvT hZ (hw _ (List.mem_of_getElem? (i := 26) rfl))) (by decide)) (Cond.privateMethod_at (mvP hZ (hw _ (List.mem_of_getElem? (i := 27) rfl)) (args := #[]))) (mvT hZ (hw _ (List.mem_of_getElem? (i := 28) rfl))) (by decide) (backOf (W := 0) (rmP l Z a0 hw [] a1 bb k1 vs i p2 h0 n0 Z0 Fb V1 hvs ne1 g2 hi) hZ (hw _ (List.mem_of_getElem? (i := 28) rfl)) (hw _ (List.mem_of_getElem? (i := 2) rfl)) (by decide) (by decide)) (g := (mkF m 11 #[.val (.ref a1), .val (.int p2)] [(.int p2), (.int (Int32.ofNat i)), (.ref a1)])) rfl (by rw [hml]; rfl) (Steps.refl _) (a := a1) (by rw [e138]; exact q139) q139' (argsL := [(.int (Int32.ofNat i)), (.int p2)]) (rest := []) (lenOf pd_1 rfl) rfl (by show 2 * 0 + _ ≤ _; exact Nat.le_of_eq rfl) (hb hby d3_11) (fun _ _ => ⟨rfl, e138, (by decide : 0 + 0 ≤ _), (by decide : 0 + 0 ≤ _)⟩)
  dsimp only [Pt.U, Pt.locs, Pt.cells, Pt.slots] at X139 l139 y139 z139 st139 hQ139
  subst l139 y139 z139
  obtain ⟨rfl, Nq139, Kq139, Vp⟩ := hQ139
  have f140 := (E1.keep Kq139)
  have f141 := (Fb.keep Kq139 (ninS ne1 nin0))
  have f142 := (Fs.keep Kq139 (ninS ne1 nin0))
  have f143 := (Ff.keep Kq139 (ninS ne1 nin0))
  have Z139 : n0 ≤ T139.heap.size := Nat.le_trans Z0 Kq139.1
  have K139 : Keep h0 T139.heap [a1, bb] := (Keep.refl h0 [a1, bb]).trans Kq139 (allS (P := fun x => x ∈ ([a1, bb] : List Addr) ∨ h0.size ≤ x) (Or.inl (List.mem_of_getElem? (i := 1) rfl)) all0)
  have Nf139 := Fr.app Nf137 Nq139
  obtain ⟨T144, X144, e144, st144⟩ := getF X139 hx hZ hown (host := "") (Or.inl (hw _ (List.mem_of_getElem? (i := 23) rfl))) Via.refl rfl f142 (g := (mkF m 16 #[.val (.ref a1), .val (.int p2)] [(.ref a1), (.ref a1)])) rfl rfl (hb hby d3_16)
  obtain ⟨T145, h145, X145, e145, W145, st145⟩ := putF X144 hx hZ hown (host := "") (Or.inl (hw _ (List.mem_of_getElem? (i := 23) rfl))) Via.refl e144 f142 f140 (Or.inl (hw _ (List.mem_of_getElem? (i := 24) rfl))) (hw _ (List.mem_of_getElem? (i := 1) rfl)) (ty := .int) (by decide) rfl rfl (g := (mkF m 21 #[.val (.ref a1), .val (.int p2)] [(.int ((Int32.ofNat i) + (4 : Int32))), (.ref a1)])) rfl rfl (hb hby d3_21)
  have Fw145 := f142.same W145
  have f146 := (f140.wr W145)
  have f147 := (f141.other W145 (Or.inr (slot_ne (Or.inl (hw _ (List.mem_of_getElem? (i := 11) rfl))) (Or.inl (hw _ (List.mem_of_getElem? (i := 24) rfl))) (by decide) (t := (.array .byte)) (t' := .int) (by decide) (by decide))))
  have f148 := (f143.other W145 (Or.inr (slot_ne (Or.inl (hw _ (List.mem_of_getElem? (i := 13) rfl))) (Or.inl (hw _ (List.mem_of_getElem? (i := 24) rfl))) (by decide) (t := .int) (t' := .int) (by decide) (by decide))))
  have f149 := (Vp.other W145 (Ne.symm ne1))
  have K145 : Keep h0 h145 [a1, bb] := K139.wr W145 (Or.inl (List.mem_of_getElem? (i := 0) rfl))
  have Nf145 := Fr.snoc X145 Nf139 g1
  have Z145 : n0 ≤ h145.size := Nat.le_trans Z139 (Keep.of_wr W145).1
  have Fz : Fld Z h145 a1 "com/example/flex_actor/flexactor/core/FrameBuffer" "size" "I" (.int (Int32.ofNat (i + 4))) := by
    have q := Fw145
    have e : ((Int32.ofNat i) + (4 : Int32)) = Int32.ofNat (i + 4) := own_add i 4
    rwa [e] at q
  have pre150 : ∀ t, Steps p.tables e below (T145.setTop (mkF m 24 #[.val (.ref a1), .val (.int p2)] [])) t → Steps p.tables e below (s₁.setTop (entryFrame m #[(.ref a1), (.int p2)] 2)) t := by
    intro t kt
    refine pre0 t ?_
    show Steps p.tables e below (s₁.setTop (mkF m 0 #[.val (.ref a1), .val (.int p2)] [])) _
    refine XS.aloadN X0.here hx rfl (hb hby d3_0) rfl rfl ?_
    show Steps p.tables e below (s₁.setTop (mkF m 1 #[.val (.ref a1), .val (.int p2)] [(.ref a1)])) _
    refine XS.iconst X0.here hx rfl (hb hby d3_1) ?_
    show Steps p.tables e below (s₁.setTop (mkF m 2 #[.val (.ref a1), .val (.int p2)] [(.int (4 : Int32)), (.ref a1)])) _
    refine st137.trans ?_
    show Steps p.tables e below (T137.setTop (mkF m 5 #[.val (.ref a1), .val (.int p2)] [])) _
    refine XS.aloadN X137.here hx rfl (hb hby d3_5) rfl rfl ?_
    show Steps p.tables e below (T137.setTop (mkF m 6 #[.val (.ref a1), .val (.int p2)] [(.ref a1)])) _
    refine XS.aloadN X137.here hx rfl (hb hby d3_6) rfl rfl ?_
    show Steps p.tables e below (T137.setTop (mkF m 7 #[.val (.ref a1), .val (.int p2)] [(.ref a1), (.ref a1)])) _
    refine st138 _ ?_
    show Steps p.tables e below (T138.setTop (mkF m 10 #[.val (.ref a1), .val (.int p2)] [(.int (Int32.ofNat i)), (.ref a1)])) _
    refine XS.iloadN X138.here hx rfl (hb hby d3_10) rfl ?_
    show Steps p.tables e below (T138.setTop (mkF m 11 #[.val (.ref a1), .val (.int p2)] [(.int p2), (.int (Int32.ofNat i)), (.ref a1)])) _
    refine st139.trans ?_
    show Steps p.tables e below (T139.setTop (mkF m 14 #[.val (.ref a1), .val (.int p2)] [])) _
    refine XS.aloadN X139.here hx rfl (hb hby d3_14) rfl rfl ?_
    show Steps p.tables e below (T139.setTop (mkF m 15 #[.val (.ref a1), .val (.int p2)] [(.ref a1)])) _
    refine XS.dup X139.here hx rfl (hb hby d3_15) rfl rfl ?_
    show Steps p.tables e below (T139.setTop (mkF m 16 #[.val (.ref a1), .val (.int p2)] [(.ref a1), (.ref a1)])) _
    refine st144 _ ?_
    show Steps p.tables e below (T144.setTop (mkF m 19 #[.val (.ref a1), .val (.int p2)] [(.int (Int32.ofNat i)), (.ref a1)])) _
    refine XS.iconst X144.here hx rfl (hb hby d3_19) ?_
    show Steps p.tables e below (T144.setTop (mkF m 20 #[.val (.ref a1), .val (.int p2)] [(.int (4 : Int32)), (.int (Int32.ofNat i)), (.ref a1)])) _
    refine XS.iadd X144.here hx rfl (hb hby d3_20) rfl ?_
    show Steps p.tables e below (T144.setTop (mkF m 21 #[.val (.ref a1), .val (.int p2)] [(.int ((Int32.ofNat i) + (4 : Int32))), (.ref a1)])) _
    refine st145 _ ?_
    exact kt
  obtain ⟨fsx, hr, hrun, hended, hW, hsame⟩ := X145.leave (v := none) (fun _ => rfl)
  refine ⟨_, _, pre150 _ ?_, hrun, hended, _, _, rfl, ?_, ⟨_, rfl⟩, hW, hsame.mono (by decide) (by decide)⟩
  · exact X145.returnOut hx Bd.returns (hb hby d3_24) hr
  · show QW Z a1 bb k1 vs i fs p2 h0 n0 _ T145.heap _
    rw [e145]
    exact ⟨rfl, Nf145, K145, f147, Fz, f148, f149⟩
theorem d8_0 : decode prog_32_method_12_code 0 = .ok (.aload_n 0, 1) := by decide +kernel
theorem d8_1 : decode prog_32_method_12_code 1 = .ok (.iconst 1, 1) := by decide +kernel
theorem d8_2 : decode prog_32_method_12_code 2 = .ok (.invokevirtual 75, 3) := by decide +kernel
theorem d8_5 : decode prog_32_method_12_code 5 = .ok (.aload_n 0, 1) := by decide +kernel
theorem d8_6 : decode prog_32_method_12_code 6 = .ok (.getfield 9, 3) := by decide +kernel
theorem d8_9 : decode prog_32_method_12_code 9 = .ok (.aload_n 0, 1) := by decide +kernel
theorem d8_10 : decode prog_32_method_12_code 10 = .ok (.dup, 1) := by decide +kernel
theorem d8_11 : decode prog_32_method_12_code 11 = .ok (.getfield 24, 3) := by decide +kernel
theorem d8_14 : decode prog_32_method_12_code 14 = .ok (.dup_x1, 1) := by decide +kernel
theorem d8_15 : decode prog_32_method_12_code 15 = .ok (.iconst 1, 1) := by decide +kernel
theorem d8_16 : decode prog_32_method_12_code 16 = .ok (.iadd, 1) := by decide +kernel
theorem d8_17 : decode prog_32_method_12_code 17 = .ok (.putfield 24, 3) := by decide +kernel
theorem d8_20 : decode prog_32_method_12_code 20 = .ok (.iload_n 1, 1) := by decide +kernel
theorem d8_21 : decode prog_32_method_12_code 21 = .ok (.i2b, 1) := by decide +kernel
theorem d8_22 : decode prog_32_method_12_code 22 = .ok (.bastore, 1) := by decide +kernel
theorem d8_23 : decode prog_32_method_12_code 23 = .ok (.return_, 1) := by decide +kernel
theorem ef_rmB (m : MethodId) (x0 : Addr) (x1 : Int32) : entryFrame m #[(.ref x0), (.int x1)] 2 = mkF m 0 #[.val (.ref x0), .val (.int x1)] [] := by first | (simp [entryFrame, mkF, argsToLocals, Value.category]; done) | rfl
def QB (Z : State) (a1 : Addr) (bb : Addr) (k1 : ClassId) (vs : List Value) (i : Nat) (fs : Int32) (p2 : Int32) (h0 : Heap) (n0 : Nat) (v : Option Value) (h : Heap) (L : List Loc) : Prop := v = none ∧ Fr n0 L ∧ Keep h0 h [a1, bb] ∧ Fld Z h a1 "com/example/flex_actor/flexactor/core/FrameBuffer" "bytes" "[B" (.ref bb) ∧ Fld Z h a1 "com/example/flex_actor/flexactor/core/FrameBuffer" "size" "I" (.int (Int32.ofNat (i + 1))) ∧ Fld Z h a1 "com/example/flex_actor/flexactor/core/FrameBuffer" "frameStart" "I" (.int fs) ∧ Arv Z h bb k1 .byte (8192 : Int32) (vs.set i (.int (p2.toInt8.toInt32))) (.int (0 : Int32))
set_option maxRecDepth 65536 in
set_option maxHeartbeats 40000000 in
theorem rmB (l : Launch) (Z : State) (a0 : Array Value) (hw : ∀ d ∈ tables_1, d.before a0 Z = true) (ws : List Jvm.Cond) (a1 : Addr) (bb : Addr) (k1 : ClassId) (vs : List Value) (i : Nat) (fs : Int32) (p2 : Int32) (h0 : Heap) (n0 : Nat) (Z0 : n0 ≤ h0.size) (E1 : Exa Z h0 a1 "com/example/flex_actor/flexactor/core/FrameBuffer") (Fb : Fld Z h0 a1 "com/example/flex_actor/flexactor/core/FrameBuffer" "bytes" "[B" (.ref bb)) (Fs : Fld Z h0 a1 "com/example/flex_actor/flexactor/core/FrameBuffer" "size" "I" (.int (Int32.ofNat i))) (Ff : Fld Z h0 a1 "com/example/flex_actor/flexactor/core/FrameBuffer" "frameStart" "I" (.int fs)) (V1 : Arv Z h0 bb k1 .byte (8192 : Int32) vs (.int (0 : Int32))) (hvs : vs.length = 16) (ne1 : a1 ≠ bb) (g1 : n0 ≤ a1) (g2 : n0 ≤ bb) (hi : i + 1 ≤ 16) :
    MetFree l (⟨"com/example/flex_actor/flexactor/core/FrameBuffer", "writeByte", "(I)V"⟩ : MethodName) (head1 (Jvm.Cond.code (⟨"com/example/flex_actor/flexactor/core/FrameBuffer", "writeByte", "(I)V"⟩ : MethodName) prog_32_method_12_code 2 none :: ws) ({ frames := 1, cells := 0, slots := 0, locals := 15 } : Room)) (fun a U => a = #[(.ref a1), (.int p2)] ∧ Z.Warmed39 U.vm ∧ U.heap = h0) (fun _ _ _ _ _ => True) (fun _ U o U' => ∃ v L, o = .returned v ∧ QB Z a1 bb k1 vs i fs p2 h0 n0 v U'.heap L ∧ FrameEnd U o U' L ({ frames := 1, cells := 0, slots := 0, locals := 15 } : Room).cells ({ frames := 1, cells := 0, slots := 0, locals := 15 } : Room).slots) := by
  refine MetFree.of_bodySF (plainFor_of_name pn_0) hisR ?_
  intro p e s m args below meth c s₁ Bd hml0 hP hK
  obtain ⟨rfl, hZ, hh⟩ := hP
  have hx := Bd.exec
  have hby := Bd.bytes
  have hml : c.maxLocals = 2 := hml0
  have hown : s.vm.findClass "com/example/flex_actor/flexactor/core/FrameBuffer" = some m.cls := findClass_of_methodNamed Bd.named
  have hnm := (name_of_methodNamed Bd.named Bd.method).1
  have X0 : Stand p l e ({ frames := 1, cells := 0, slots := 0, locals := 15 } : Room) s m #[(.ref a1), (.int p2)] below meth c s₁ [] 0 0 := Stand.of_body Bd
  have e0 : s₁.heap = h0 := by rw [← hh, Bd.state]; rfl
  have N0 := Fr.nil n0
  have pre0 : ∀ t, Steps p.tables e below (s₁.setTop (mkF m 0 #[.val (.ref a1), .val (.int p2)] [])) t → Steps p.tables e below (s₁.setTop (entryFrame m #[(.ref a1), (.int p2)] 2)) t := fun t k => castTop (ef_rmB m a1 p2) k
  obtain ⟨cq151, q151, q151'⟩ := E1.cell
  obtain ⟨_, _, ⟨T151, L151, k151, n151⟩, -, X151, ⟨Lc151, hQ151, l151, y151, z151⟩, st151⟩ := X0.privateBack hx (y := (⟨"com/example/flex_actor/flexactor/core/FrameBuffer", "ensure", "(I)V"⟩ : MethodName)) hown (mvT hZ (hw _ (List.mem_of_getElem? (i := 19) rfl))) (mvT hZ (hw _ (List.mem_of_getElem? (i := 20) rfl))) (own_selp (C := "com/example/flex_actor/flexactor/core/FrameBuffer") (y := (⟨"com/example/flex_actor/flexactor/core/FrameBuffer", "ensure", "(I)V"⟩ : MethodName)) (w := (⟨"com/example/flex_actor/flexactor/core/FrameBuffer", "writeInt", "(I)V"⟩ : MethodName)) rfl (mvT hZ (hw _ (List.mem_of_getElem? (i := 17) rfl))) (Cond.privateMethod_at (mvP hZ (hw _ (List.mem_of_getElem? (i := 21) rfl)) (args := #[]))) (mvT hZ (hw _ (List.mem_of_getElem? (i := 20) rfl))) (by decide)) (Cond.privateMethod_at (mvP hZ (hw _ (List.mem_of_getElem? (i := 21) rfl)) (args := #[]))) (mvT hZ (hw _ (List.mem_of_getElem? (i := 22) rfl))) (by decide) (backOf (W := 0) (rmN l Z a0 hw [] a1 bb k1 vs (Int32.ofNat i) (1 : Int32) h0 n0 Z0 Fb Fs V1 (own_room i 1 (by omega) (by omega))) hZ (hw _ (List.mem_of_getElem? (i := 22) rfl)) (hw _ (List.mem_of_getElem? (i := 2) rfl)) (by decide) (by decide)) (g := (mkF m 2 #[.val (.ref a1), .val (.int p2)] [(.int (1 : Int32)), (.ref a1)])) rfl (by rw [hml]; rfl) (Steps.refl _) (a := a1) (by rw [e0]; exact q151) q151' (argsL := [(.int (1 : Int32))]) (rest := []) (lenOf pd_0 rfl) rfl (by show 2 * 0 + _ ≤ _; exact Nat.le_of_eq rfl) (hb hby d8_2) (fun _ _ => ⟨rfl, e0, (by decide : 0 + 0 ≤ _), (by decide : 0 + 0 ≤ _)⟩)
  dsimp only [Pt.U, Pt.locs, Pt.cells, Pt.slots] at X151 l151 y151 z151 st151 hQ151
  subst l151 y151 z151
  obtain ⟨rfl, Nq151, eq151⟩ := hQ151
  have Nf151 := Fr.app N0 Nq151
  obtain ⟨T152, X152, e152, st152⟩ := getF X151 hx hZ hown (host := "") (Or.inl (hw _ (List.mem_of_getElem? (i := 10) rfl))) Via.refl eq151 Fb (g := (mkF m 6 #[.val (.ref a1), .val (.int p2)] [(.ref a1)])) rfl rfl (hb hby d8_6)
  obtain ⟨T153, X153, e153, st153⟩ := getF X152 hx hZ hown (host := "") (Or.inl (hw _ (List.mem_of_getElem? (i := 23) rfl))) Via.refl e152 Fs (g := (mkF m 11 #[.val (.ref a1), .val (.int p2)] [(.ref a1), (.ref a1), (.ref bb)])) rfl rfl (hb hby d8_11)
  obtain ⟨T154, h154, X154, e154, W154, st154⟩ := putF X153 hx hZ hown (host := "") (Or.inl (hw _ (List.mem_of_getElem? (i := 23) rfl))) Via.refl e153 Fs E1 (Or.inl (hw _ (List.mem_of_getElem? (i := 24) rfl))) (hw _ (List.mem_of_getElem? (i := 1) rfl)) (ty := .int) (by decide) rfl rfl (g := (mkF m 17 #[.val (.ref a1), .val (.int p2)] [(.int ((Int32.ofNat i) + (1 : Int32))), (.ref a1), (.int (Int32.ofNat i)), (.ref bb)])) rfl rfl (hb hby d8_17)
  have Fw154 := Fs.same W154
  have f155 := (E1.wr W154)
  have f156 := (Fb.other W154 (Or.inr (slot_ne (Or.inl (hw _ (List.mem_of_getElem? (i := 11) rfl))) (Or.inl (hw _ (List.mem_of_getElem? (i := 24) rfl))) (by decide) (t := (.array .byte)) (t' := .int) (by decide) (by decide))))
  have f157 := (Ff.other W154 (Or.inr (slot_ne (Or.inl (hw _ (List.mem_of_getElem? (i := 13) rfl))) (Or.inl (hw _ (List.mem_of_getElem? (i := 24) rfl))) (by decide) (t := .int) (t' := .int) (by decide) (by decide))))
  have f158 := (V1.other W154 (Ne.symm ne1))
  have K154 : Keep h0 h154 [a1, bb] := (Keep.refl h0 [a1, bb]).wr W154 (Or.inl (List.mem_of_getElem? (i := 0) rfl))
  have Nf154 := Fr.snoc X154 Nf151 g1
  have Z154 : n0 ≤ h154.size := Nat.le_trans Z0 (Keep.of_wr W154).1
  obtain ⟨T159, h159, X159, e159, W159, V159, st159⟩ := own_bst X154 hx hZ e154 f158 (j := (Int32.ofNat i)) (own_j (by omega)) (i := i) (own_jn (by omega)) (by omega) (w := (p2.toInt8.toInt32)) (own_nar _) (g := (mkF m 22 #[.val (.ref a1), .val (.int p2)] [(.int (p2.toInt8.toInt32)), (.int (Int32.ofNat i)), (.ref bb)])) rfl rfl (hb hby d8_22)
  have f160 := (f155.wr W159)
  have f161 := (f156.other W159 (Or.inl ne1))
  have f162 := (f157.other W159 (Or.inl ne1))
  have f163 := (Fw154.other W159 (Or.inl ne1))
  have K159 : Keep h0 h159 [a1, bb] := K154.wr W159 (Or.inl (List.mem_of_getElem? (i := 1) rfl))
  have Nf159 := Fr.snoc X159 Nf154 g2
  have Z159 : n0 ≤ h159.size := Nat.le_trans Z154 (Keep.of_wr W159).1
  have Fz : Fld Z h159 a1 "com/example/flex_actor/flexactor/core/FrameBuffer" "size" "I" (.int (Int32.ofNat (i + 1))) := by
    have q := f163
    have e : ((Int32.ofNat i) + (1 : Int32)) = Int32.ofNat (i + 1) := own_add i 1
    rwa [e] at q
  have pre164 : ∀ t, Steps p.tables e below (T159.setTop (mkF m 23 #[.val (.ref a1), .val (.int p2)] [])) t → Steps p.tables e below (s₁.setTop (entryFrame m #[(.ref a1), (.int p2)] 2)) t := by
    intro t kt
    refine pre0 t ?_
    show Steps p.tables e below (s₁.setTop (mkF m 0 #[.val (.ref a1), .val (.int p2)] [])) _
    refine XS.aloadN X0.here hx rfl (hb hby d8_0) rfl rfl ?_
    show Steps p.tables e below (s₁.setTop (mkF m 1 #[.val (.ref a1), .val (.int p2)] [(.ref a1)])) _
    refine XS.iconst X0.here hx rfl (hb hby d8_1) ?_
    show Steps p.tables e below (s₁.setTop (mkF m 2 #[.val (.ref a1), .val (.int p2)] [(.int (1 : Int32)), (.ref a1)])) _
    refine st151.trans ?_
    show Steps p.tables e below (T151.setTop (mkF m 5 #[.val (.ref a1), .val (.int p2)] [])) _
    refine XS.aloadN X151.here hx rfl (hb hby d8_5) rfl rfl ?_
    show Steps p.tables e below (T151.setTop (mkF m 6 #[.val (.ref a1), .val (.int p2)] [(.ref a1)])) _
    refine st152 _ ?_
    show Steps p.tables e below (T152.setTop (mkF m 9 #[.val (.ref a1), .val (.int p2)] [(.ref bb)])) _
    refine XS.aloadN X152.here hx rfl (hb hby d8_9) rfl rfl ?_
    show Steps p.tables e below (T152.setTop (mkF m 10 #[.val (.ref a1), .val (.int p2)] [(.ref a1), (.ref bb)])) _
    refine XS.dup X152.here hx rfl (hb hby d8_10) rfl rfl ?_
    show Steps p.tables e below (T152.setTop (mkF m 11 #[.val (.ref a1), .val (.int p2)] [(.ref a1), (.ref a1), (.ref bb)])) _
    refine st153 _ ?_
    show Steps p.tables e below (T153.setTop (mkF m 14 #[.val (.ref a1), .val (.int p2)] [(.int (Int32.ofNat i)), (.ref a1), (.ref bb)])) _
    refine XS.dupX1 X153.here hx rfl (hb hby d8_14) rfl rfl rfl ?_
    show Steps p.tables e below (T153.setTop (mkF m 15 #[.val (.ref a1), .val (.int p2)] [(.int (Int32.ofNat i)), (.ref a1), (.int (Int32.ofNat i)), (.ref bb)])) _
    refine XS.iconst X153.here hx rfl (hb hby d8_15) ?_
    show Steps p.tables e below (T153.setTop (mkF m 16 #[.val (.ref a1), .val (.int p2)] [(.int (1 : Int32)), (.int (Int32.ofNat i)), (.ref a1), (.int (Int32.ofNat i)), (.ref bb)])) _
    refine XS.iadd X153.here hx rfl (hb hby d8_16) rfl ?_
    show Steps p.tables e below (T153.setTop (mkF m 17 #[.val (.ref a1), .val (.int p2)] [(.int ((Int32.ofNat i) + (1 : Int32))), (.ref a1), (.int (Int32.ofNat i)), (.ref bb)])) _
    refine st154 _ ?_
    show Steps p.tables e below (T154.setTop (mkF m 20 #[.val (.ref a1), .val (.int p2)] [(.int (Int32.ofNat i)), (.ref bb)])) _
    refine XS.iloadN X154.here hx rfl (hb hby d8_20) rfl ?_
    show Steps p.tables e below (T154.setTop (mkF m 21 #[.val (.ref a1), .val (.int p2)] [(.int p2), (.int (Int32.ofNat i)), (.ref bb)])) _
    refine XS.i2b X154.here hx rfl (hb hby d8_21) rfl ?_
    show Steps p.tables e below (T154.setTop (mkF m 22 #[.val (.ref a1), .val (.int p2)] [(.int (p2.toInt8.toInt32)), (.int (Int32.ofNat i)), (.ref bb)])) _
    refine st159 _ ?_
    exact kt
  obtain ⟨fsx, hr, hrun, hended, hW, hsame⟩ := X159.leave (v := none) (fun _ => rfl)
  refine ⟨_, _, pre164 _ ?_, hrun, hended, _, _, rfl, ?_, ⟨_, rfl⟩, hW, hsame.mono (by decide) (by decide)⟩
  · exact X159.returnOut hx Bd.returns (hb hby d8_23) hr
  · show QB Z a1 bb k1 vs i fs p2 h0 n0 _ T159.heap _
    rw [e159]
    exact ⟨rfl, Nf159, K159, f161, Fz, f162, V159⟩
theorem d13_0 : decode prog_32_method_2_code 0 = .ok (.aload_n 0, 1) := by decide +kernel
theorem d13_1 : decode prog_32_method_2_code 1 = .ok (.getfield 13, 3) := by decide +kernel
theorem d13_4 : decode prog_32_method_2_code 4 = .ok (.ifCond .lt 13, 3) := by decide +kernel
theorem d13_17 : decode prog_32_method_2_code 17 = .ok (.aload_n 0, 1) := by decide +kernel
theorem d13_18 : decode prog_32_method_2_code 18 = .ok (.aload_n 0, 1) := by decide +kernel
theorem d13_19 : decode prog_32_method_2_code 19 = .ok (.getfield 24, 3) := by decide +kernel
theorem d13_22 : decode prog_32_method_2_code 22 = .ok (.putfield 13, 3) := by decide +kernel
theorem d13_25 : decode prog_32_method_2_code 25 = .ok (.aload_n 0, 1) := by decide +kernel
theorem d13_26 : decode prog_32_method_2_code 26 = .ok (.iconst 0, 1) := by decide +kernel
theorem d13_27 : decode prog_32_method_2_code 27 = .ok (.invokevirtual 27, 3) := by decide +kernel
theorem d13_30 : decode prog_32_method_2_code 30 = .ok (.aload_n 0, 1) := by decide +kernel
theorem d13_31 : decode prog_32_method_2_code 31 = .ok (.iload_n 1, 1) := by decide +kernel
theorem d13_32 : decode prog_32_method_2_code 32 = .ok (.invokevirtual 31, 3) := by decide +kernel
theorem d13_35 : decode prog_32_method_2_code 35 = .ok (.return_, 1) := by decide +kernel
theorem ef_rmG (m : MethodId) (x0 : Addr) (x1 : Int32) : entryFrame m #[(.ref x0), (.int x1)] 2 = mkF m 0 #[.val (.ref x0), .val (.int x1)] [] := by first | (simp [entryFrame, mkF, argsToLocals, Value.category]; done) | rfl
def QG (Z : State) (a1 : Addr) (bb : Addr) (k1 : ClassId) (vs : List Value) (i : Nat) (p2 : Int32) (h0 : Heap) (n0 : Nat) (v : Option Value) (h : Heap) (L : List Loc) : Prop := v = none ∧ Fr n0 L ∧ Keep h0 h [a1, bb] ∧ Fld Z h a1 "com/example/flex_actor/flexactor/core/FrameBuffer" "bytes" "[B" (.ref bb) ∧ Fld Z h a1 "com/example/flex_actor/flexactor/core/FrameBuffer" "size" "I" (.int (Int32.ofNat (i + 4 + 1))) ∧ Fld Z h a1 "com/example/flex_actor/flexactor/core/FrameBuffer" "frameStart" "I" (.int (Int32.ofNat i)) ∧ Arv Z h bb k1 .byte (8192 : Int32) ((own_put vs i (0 : Int32)).set (i + 4) (.int (p2.toInt8.toInt32))) (.int (0 : Int32))
set_option maxRecDepth 65536 in
set_option maxHeartbeats 40000000 in
theorem rmG (l : Launch) (Z : State) (a0 : Array Value) (hw : ∀ d ∈ tables_1, d.before a0 Z = true) (ws : List Jvm.Cond) (a1 : Addr) (bb : Addr) (k1 : ClassId) (vs : List Value) (i : Nat) (p2 : Int32) (h0 : Heap) (n0 : Nat) (Z0 : n0 ≤ h0.size) (E1 : Exa Z h0 a1 "com/example/flex_actor/flexactor/core/FrameBuffer") (Fb : Fld Z h0 a1 "com/example/flex_actor/flexactor/core/FrameBuffer" "bytes" "[B" (.ref bb)) (Fs : Fld Z h0 a1 "com/example/flex_actor/flexactor/core/FrameBuffer" "size" "I" (.int (Int32.ofNat i))) (Ff : Fld Z h0 a1 "com/example/flex_actor/flexactor/core/FrameBuffer" "frameStart" "I" (.int (-1 : Int32))) (V1 : Arv Z h0 bb k1 .byte (8192 : Int32) vs (.int (0 : Int32))) (hvs : vs.length = 16) (ne1 : a1 ≠ bb) (g1 : n0 ≤ a1) (g2 : n0 ≤ bb) (hi : i + 5 ≤ 16) :
    MetFree l (⟨"com/example/flex_actor/flexactor/core/FrameBuffer", "begin", "(B)V"⟩ : MethodName) (head1 (Jvm.Cond.code (⟨"com/example/flex_actor/flexactor/core/FrameBuffer", "begin", "(B)V"⟩ : MethodName) prog_32_method_2_code 2 none :: ws) ({ frames := 2, cells := 0, slots := 0, locals := 28 } : Room)) (fun a U => a = #[(.ref a1), (.int p2)] ∧ Z.Warmed39 U.vm ∧ U.heap = h0) (fun _ _ _ _ _ => True) (fun _ U o U' => ∃ v L, o = .returned v ∧ QG Z a1 bb k1 vs i p2 h0 n0 v U'.heap L ∧ FrameEnd U o U' L ({ frames := 2, cells := 0, slots := 0, locals := 28 } : Room).cells ({ frames := 2, cells := 0, slots := 0, locals := 28 } : Room).slots) := by
  refine MetFree.of_bodySF (plainFor_of_name pn_0) hisR ?_
  intro p e s m args below meth c s₁ Bd hml0 hP hK
  obtain ⟨rfl, hZ, hh⟩ := hP
  have hx := Bd.exec
  have hby := Bd.bytes
  have hml : c.maxLocals = 2 := hml0
  have hown : s.vm.findClass "com/example/flex_actor/flexactor/core/FrameBuffer" = some m.cls := findClass_of_methodNamed Bd.named
  have hnm := (name_of_methodNamed Bd.named Bd.method).1
  have X0 : Stand p l e ({ frames := 2, cells := 0, slots := 0, locals := 28 } : Room) s m #[(.ref a1), (.int p2)] below meth c s₁ [] 0 0 := Stand.of_body Bd
  have e0 : s₁.heap = h0 := by rw [← hh, Bd.state]; rfl
  have N0 := Fr.nil n0
  have pre0 : ∀ t, Steps p.tables e below (s₁.setTop (mkF m 0 #[.val (.ref a1), .val (.int p2)] [])) t → Steps p.tables e below (s₁.setTop (entryFrame m #[(.ref a1), (.int p2)] 2)) t := fun t k => castTop (ef_rmG m a1 p2) k
  obtain ⟨T165, X165, e165, st165⟩ := getF X0 hx hZ hown (host := "") (Or.inl (hw _ (List.mem_of_getElem? (i := 12) rfl))) Via.refl e0 Ff (g := (mkF m 1 #[.val (.ref a1), .val (.int p2)] [(.ref a1)])) rfl rfl (hb hby d13_1)
  obtain ⟨T166, X166, e166, st166⟩ := getF X165 hx hZ hown (host := "") (Or.inl (hw _ (List.mem_of_getElem? (i := 23) rfl))) Via.refl e165 Fs (g := (mkF m 19 #[.val (.ref a1), .val (.int p2)] [(.ref a1), (.ref a1)])) rfl rfl (hb hby d13_19)
  obtain ⟨T167, h167, X167, e167, W167, st167⟩ := putF X166 hx hZ hown (host := "") (Or.inl (hw _ (List.mem_of_getElem? (i := 12) rfl))) Via.refl e166 Ff E1 (Or.inl (hw _ (List.mem_of_getElem? (i := 13) rfl))) (hw _ (List.mem_of_getElem? (i := 1) rfl)) (ty := .int) (by decide) rfl rfl (g := (mkF m 22 #[.val (.ref a1), .val (.int p2)] [(.int (Int32.ofNat i)), (.ref a1)])) rfl rfl (hb hby d13_22)
  have Fw167 := Ff.same W167
  have f168 := (E1.wr W167)
  have f169 := (Fb.other W167 (Or.inr (slot_ne (Or.inl (hw _ (List.mem_of_getElem? (i := 11) rfl))) (Or.inl (hw _ (List.mem_of_getElem? (i := 13) rfl))) (by decide) (t := (.array .byte)) (t' := .int) (by decide) (by decide))))
  have f170 := (Fs.other W167 (Or.inr (slot_ne (Or.inl (hw _ (List.mem_of_getElem? (i := 24) rfl))) (Or.inl (hw _ (List.mem_of_getElem? (i := 13) rfl))) (by decide) (t := .int) (t' := .int) (by decide) (by decide))))
  have f171 := (V1.other W167 (Ne.symm ne1))
  have K167 : Keep h0 h167 [a1, bb] := (Keep.refl h0 [a1, bb]).wr W167 (Or.inl (List.mem_of_getElem? (i := 0) rfl))
  have Nf167 := Fr.snoc X167 N0 g1
  have Z167 : n0 ≤ h167.size := Nat.le_trans Z0 (Keep.of_wr W167).1
  obtain ⟨cq172, kq172, q172a, q172b, q172c⟩ := isOf hZ e167 f168
  obtain ⟨_, _, ⟨T172, L172, k172, n172⟩, -, X172, ⟨Lc172, hQ172, l172, y172, z172⟩, st172⟩ := X167.virtualBack hx (y := (⟨"com/example/flex_actor/flexactor/core/FrameBuffer", "writeInt", "(I)V"⟩ : MethodName)) (z := (⟨"com/example/flex_actor/flexactor/core/FrameBuffer", "writeInt", "(I)V"⟩ : MethodName)) hown (mvT hZ (hw _ (List.mem_of_getElem? (i := 70) rfl))) (mvT hZ (hw _ (List.mem_of_getElem? (i := 15) rfl))) (notFace_of_selects (args := #[]) (mvT hZ (hw _ (List.mem_of_getElem? (i := 17) rfl)))) (mvT hZ (hw _ (List.mem_of_getElem? (i := 17) rfl))) (mvT hZ (hw _ (List.mem_of_getElem? (i := 16) rfl))) (by decide) (backOf (W := 0) (rmW l Z a0 hw [] a1 bb k1 vs i (Int32.ofNat i) (0 : Int32) h167 n0 Z167 f168 f169 f170 Fw167 f171 hvs ne1 g1 g2 (by omega)) hZ (hw _ (List.mem_of_getElem? (i := 18) rfl)) (hw _ (List.mem_of_getElem? (i := 2) rfl)) (by decide) (by decide)) q172a q172c (g := (mkF m 27 #[.val (.ref a1), .val (.int p2)] [(.int (0 : Int32)), (.ref a1)])) rfl (by rw [hml]; rfl) (Steps.refl _) (argsL := [(.int (0 : Int32))]) (rest := []) (lenOf pd_0 rfl) rfl (by show 2 * 0 + _ ≤ _; exact Nat.le_of_eq rfl) (hb hby d13_27) (fun _ _ => ⟨rfl, e167, (by decide : 0 + 0 ≤ _), (by decide : 0 + 0 ≤ _)⟩)
  dsimp only [Pt.U, Pt.locs, Pt.cells, Pt.slots] at X172 l172 y172 z172 st172 hQ172
  subst l172 y172 z172
  obtain ⟨rfl, Nq172, Kq172, Fbw, Fsw, Ffw, Vw⟩ := hQ172
  have f173 := (f168.keep Kq172)
  have Z172 : n0 ≤ T172.heap.size := Nat.le_trans Z167 Kq172.1
  have K172 : Keep h0 T172.heap [a1, bb] := K167.trans Kq172 (allS (P := fun x => x ∈ ([a1, bb] : List Addr) ∨ h0.size ≤ x) (Or.inl (List.mem_of_getElem? (i := 0) rfl)) (allS (P := fun x => x ∈ ([a1, bb] : List Addr) ∨ h0.size ≤ x) (Or.inl (List.mem_of_getElem? (i := 1) rfl)) all0))
  have Nf172 := Fr.app Nf167 Nq172
  obtain ⟨cq174, kq174, q174a, q174b, q174c⟩ := isOf hZ rfl f173
  obtain ⟨_, _, ⟨T174, L174, k174, n174⟩, -, X174, ⟨Lc174, hQ174, l174, y174, z174⟩, st174⟩ := X172.virtualBack hx (y := (⟨"com/example/flex_actor/flexactor/core/FrameBuffer", "writeByte", "(I)V"⟩ : MethodName)) (z := (⟨"com/example/flex_actor/flexactor/core/FrameBuffer", "writeByte", "(I)V"⟩ : MethodName)) hown (mvT hZ (hw _ (List.mem_of_getElem? (i := 71) rfl))) (mvT hZ (hw _ (List.mem_of_getElem? (i := 40) rfl))) (notFace_of_selects (args := #[]) (mvT hZ (hw _ (List.mem_of_getElem? (i := 42) rfl)))) (mvT hZ (hw _ (List.mem_of_getElem? (i := 42) rfl))) (mvT hZ (hw _ (List.mem_of_getElem? (i := 41) rfl))) (by decide) (backOf (W := 0) (rmB l Z a0 hw [] a1 bb k1 (own_put vs i (0 : Int32)) (i + 4) (Int32.ofNat i) p2 T172.heap n0 Z172 f173 Fbw Fsw Ffw Vw (by rw [own_putl]; exact hvs) ne1 g1 g2 (by omega)) hZ (hw _ (List.mem_of_getElem? (i := 43) rfl)) (hw _ (List.mem_of_getElem? (i := 2) rfl)) (by decide) (by decide)) q174a q174c (g := (mkF m 32 #[.val (.ref a1), .val (.int p2)] [(.int p2), (.ref a1)])) rfl (by rw [hml]; rfl) (Steps.refl _) (argsL := [(.int p2)]) (rest := []) (lenOf pd_0 rfl) rfl (by show 2 * 0 + _ ≤ _; exact Nat.le_of_eq rfl) (hb hby d13_32) (fun _ _ => ⟨rfl, rfl, (by decide : 0 + 0 ≤ _), (by decide : 0 + 0 ≤ _)⟩)
  dsimp only [Pt.U, Pt.locs, Pt.cells, Pt.slots] at X174 l174 y174 z174 st174 hQ174
  subst l174 y174 z174
  obtain ⟨rfl, Nq174, Kq174, Fby, Fsy, Ffy, Vy⟩ := hQ174
  have f175 := (f173.keep Kq174)
  have Z174 : n0 ≤ T174.heap.size := Nat.le_trans Z172 Kq174.1
  have K174 : Keep h0 T174.heap [a1, bb] := K172.trans Kq174 (allS (P := fun x => x ∈ ([a1, bb] : List Addr) ∨ h0.size ≤ x) (Or.inl (List.mem_of_getElem? (i := 0) rfl)) (allS (P := fun x => x ∈ ([a1, bb] : List Addr) ∨ h0.size ≤ x) (Or.inl (List.mem_of_getElem? (i := 1) rfl)) all0))
  have Nf174 := Fr.app Nf172 Nq174
  have pre176 : ∀ t, Steps p.tables e below (T174.setTop (mkF m 35 #[.val (.ref a1), .val (.int p2)] [])) t → Steps p.tables e below (s₁.setTop (entryFrame m #[(.ref a1), (.int p2)] 2)) t := by
    intro t kt
    refine pre0 t ?_
    show Steps p.tables e below (s₁.setTop (mkF m 0 #[.val (.ref a1), .val (.int p2)] [])) _
    refine XS.aloadN X0.here hx rfl (hb hby d13_0) rfl rfl ?_
    show Steps p.tables e below (s₁.setTop (mkF m 1 #[.val (.ref a1), .val (.int p2)] [(.ref a1)])) _
    refine st165 _ ?_
    show Steps p.tables e below (T165.setTop (mkF m 4 #[.val (.ref a1), .val (.int p2)] [(.int (-1 : Int32))])) _
    refine XS.ifYes X165.here hx rfl (pc0 := 4) (pc' := 17) rfl (hb hby d13_4) rfl ((if0 _ _).trans (tlt (by decide)).1) (by decide) (by decide) ?_
    show Steps p.tables e below (T165.setTop (mkF m 17 #[.val (.ref a1), .val (.int p2)] [])) _
    refine XS.aloadN X165.here hx rfl (hb hby d13_17) rfl rfl ?_
    show Steps p.tables e below (T165.setTop (mkF m 18 #[.val (.ref a1), .val (.int p2)] [(.ref a1)])) _
    refine XS.aloadN X165.here hx rfl (hb hby d13_18) rfl rfl ?_
    show Steps p.tables e below (T165.setTop (mkF m 19 #[.val (.ref a1), .val (.int p2)] [(.ref a1), (.ref a1)])) _
    refine st166 _ ?_
    show Steps p.tables e below (T166.setTop (mkF m 22 #[.val (.ref a1), .val (.int p2)] [(.int (Int32.ofNat i)), (.ref a1)])) _
    refine st167 _ ?_
    show Steps p.tables e below (T167.setTop (mkF m 25 #[.val (.ref a1), .val (.int p2)] [])) _
    refine XS.aloadN X167.here hx rfl (hb hby d13_25) rfl rfl ?_
    show Steps p.tables e below (T167.setTop (mkF m 26 #[.val (.ref a1), .val (.int p2)] [(.ref a1)])) _
    refine XS.iconst X167.here hx rfl (hb hby d13_26) ?_
    show Steps p.tables e below (T167.setTop (mkF m 27 #[.val (.ref a1), .val (.int p2)] [(.int (0 : Int32)), (.ref a1)])) _
    refine st172.trans ?_
    show Steps p.tables e below (T172.setTop (mkF m 30 #[.val (.ref a1), .val (.int p2)] [])) _
    refine XS.aloadN X172.here hx rfl (hb hby d13_30) rfl rfl ?_
    show Steps p.tables e below (T172.setTop (mkF m 31 #[.val (.ref a1), .val (.int p2)] [(.ref a1)])) _
    refine XS.iloadN X172.here hx rfl (hb hby d13_31) rfl ?_
    show Steps p.tables e below (T172.setTop (mkF m 32 #[.val (.ref a1), .val (.int p2)] [(.int p2), (.ref a1)])) _
    refine st174.trans ?_
    exact kt
  obtain ⟨fsx, hr, hrun, hended, hW, hsame⟩ := X174.leave (v := none) (fun _ => rfl)
  refine ⟨_, _, pre176 _ ?_, hrun, hended, _, _, rfl, ?_, ⟨_, rfl⟩, hW, hsame.mono (by decide) (by decide)⟩
  · exact X174.returnOut hx Bd.returns (hb hby d13_35) hr
  · show QG Z a1 bb k1 vs i p2 h0 n0 _ T174.heap _
    skip
    exact ⟨rfl, Nf174, K174, Fby, Fsy, Ffy, Vy⟩
theorem d14_0 : decode prog_32_method_3_code 0 = .ok (.aload_n 0, 1) := by decide +kernel
theorem d14_1 : decode prog_32_method_3_code 1 = .ok (.getfield 13, 3) := by decide +kernel
theorem d14_4 : decode prog_32_method_3_code 4 = .ok (.ifCond .ge 13, 3) := by decide +kernel
theorem d14_17 : decode prog_32_method_3_code 17 = .ok (.aload_n 0, 1) := by decide +kernel
theorem d14_18 : decode prog_32_method_3_code 18 = .ok (.getfield 24, 3) := by decide +kernel
theorem d14_21 : decode prog_32_method_3_code 21 = .ok (.aload_n 0, 1) := by decide +kernel
theorem d14_22 : decode prog_32_method_3_code 22 = .ok (.getfield 13, 3) := by decide +kernel
theorem d14_25 : decode prog_32_method_3_code 25 = .ok (.isub, 1) := by decide +kernel
theorem d14_26 : decode prog_32_method_3_code 26 = .ok (.iconst 4, 1) := by decide +kernel
theorem d14_27 : decode prog_32_method_3_code 27 = .ok (.isub, 1) := by decide +kernel
theorem d14_28 : decode prog_32_method_3_code 28 = .ok (.istore_n 1, 1) := by decide +kernel
theorem d14_29 : decode prog_32_method_3_code 29 = .ok (.iload_n 1, 1) := by decide +kernel
theorem d14_30 : decode prog_32_method_3_code 30 = .ok (.ldc 40, 2) := by decide +kernel
theorem d14_32 : decode prog_32_method_3_code 32 = .ok (.if_icmp .le 21, 3) := by decide +kernel
theorem d14_53 : decode prog_32_method_3_code 53 = .ok (.aload_n 0, 1) := by decide +kernel
theorem d14_54 : decode prog_32_method_3_code 54 = .ok (.aload_n 0, 1) := by decide +kernel
theorem d14_55 : decode prog_32_method_3_code 55 = .ok (.getfield 13, 3) := by decide +kernel
theorem d14_58 : decode prog_32_method_3_code 58 = .ok (.iload_n 1, 1) := by decide +kernel
theorem d14_59 : decode prog_32_method_3_code 59 = .ok (.invokevirtual 48, 3) := by decide +kernel
theorem d14_62 : decode prog_32_method_3_code 62 = .ok (.aload_n 0, 1) := by decide +kernel
theorem d14_63 : decode prog_32_method_3_code 63 = .ok (.iconst (-1), 1) := by decide +kernel
theorem d14_64 : decode prog_32_method_3_code 64 = .ok (.putfield 13, 3) := by decide +kernel
theorem d14_67 : decode prog_32_method_3_code 67 = .ok (.return_, 1) := by decide +kernel
theorem ef_rmD (m : MethodId) (x0 : Addr) : entryFrame m #[(.ref x0)] 2 = mkF m 0 #[.val (.ref x0), .unset] [] := by first | (simp [entryFrame, mkF, argsToLocals, Value.category]; done) | rfl
def QD (Z : State) (a1 : Addr) (bb : Addr) (k1 : ClassId) (vs : List Value) (h0 : Heap) (n0 : Nat) (v : Option Value) (h : Heap) (L : List Loc) : Prop := v = none ∧ Fr n0 L ∧ Keep h0 h [a1, bb] ∧ Fld Z h a1 "com/example/flex_actor/flexactor/core/FrameBuffer" "bytes" "[B" (.ref bb) ∧ Fld Z h a1 "com/example/flex_actor/flexactor/core/FrameBuffer" "size" "I" (.int (5 : Int32)) ∧ Fld Z h a1 "com/example/flex_actor/flexactor/core/FrameBuffer" "frameStart" "I" (.int (-1 : Int32)) ∧ Arv Z h bb k1 .byte (8192 : Int32) (own_put vs 0 (1 : Int32)) (.int (0 : Int32))
set_option maxRecDepth 65536 in
set_option maxHeartbeats 40000000 in
theorem rmD (l : Launch) (Z : State) (a0 : Array Value) (hw : ∀ d ∈ tables_1, d.before a0 Z = true) (ws : List Jvm.Cond) (a1 : Addr) (bb : Addr) (k1 : ClassId) (vs : List Value) (h0 : Heap) (n0 : Nat) (Z0 : n0 ≤ h0.size) (E1 : Exa Z h0 a1 "com/example/flex_actor/flexactor/core/FrameBuffer") (Fb : Fld Z h0 a1 "com/example/flex_actor/flexactor/core/FrameBuffer" "bytes" "[B" (.ref bb)) (Fs : Fld Z h0 a1 "com/example/flex_actor/flexactor/core/FrameBuffer" "size" "I" (.int (5 : Int32))) (Ff : Fld Z h0 a1 "com/example/flex_actor/flexactor/core/FrameBuffer" "frameStart" "I" (.int (0 : Int32))) (V1 : Arv Z h0 bb k1 .byte (8192 : Int32) vs (.int (0 : Int32))) (hvs : vs.length = 16) (ne1 : a1 ≠ bb) (g1 : n0 ≤ a1) (g2 : n0 ≤ bb) :
    MetFree l (⟨"com/example/flex_actor/flexactor/core/FrameBuffer", "end", "()V"⟩ : MethodName) (head1 (Jvm.Cond.code (⟨"com/example/flex_actor/flexactor/core/FrameBuffer", "end", "()V"⟩ : MethodName) prog_32_method_3_code 2 none :: ws) ({ frames := 1, cells := 0, slots := 0, locals := 14 } : Room)) (fun a U => a = #[(.ref a1)] ∧ Z.Warmed39 U.vm ∧ U.heap = h0) (fun _ _ _ _ _ => True) (fun _ U o U' => ∃ v L, o = .returned v ∧ QD Z a1 bb k1 vs h0 n0 v U'.heap L ∧ FrameEnd U o U' L ({ frames := 1, cells := 0, slots := 0, locals := 14 } : Room).cells ({ frames := 1, cells := 0, slots := 0, locals := 14 } : Room).slots) := by
  refine MetFree.of_bodySF (plainFor_of_name pn_0) hisR ?_
  intro p e s m args below meth c s₁ Bd hml0 hP hK
  obtain ⟨rfl, hZ, hh⟩ := hP
  have hx := Bd.exec
  have hby := Bd.bytes
  have hml : c.maxLocals = 2 := hml0
  have hown : s.vm.findClass "com/example/flex_actor/flexactor/core/FrameBuffer" = some m.cls := findClass_of_methodNamed Bd.named
  have hnm := (name_of_methodNamed Bd.named Bd.method).1
  have X0 : Stand p l e ({ frames := 1, cells := 0, slots := 0, locals := 14 } : Room) s m #[(.ref a1)] below meth c s₁ [] 0 0 := Stand.of_body Bd
  have e0 : s₁.heap = h0 := by rw [← hh, Bd.state]; rfl
  have N0 := Fr.nil n0
  have pre0 : ∀ t, Steps p.tables e below (s₁.setTop (mkF m 0 #[.val (.ref a1), .unset] [])) t → Steps p.tables e below (s₁.setTop (entryFrame m #[(.ref a1)] 2)) t := fun t k => castTop (ef_rmD m a1) k
  obtain ⟨T177, X177, e177, st177⟩ := getF X0 hx hZ hown (host := "") (Or.inl (hw _ (List.mem_of_getElem? (i := 12) rfl))) Via.refl e0 Ff (g := (mkF m 1 #[.val (.ref a1), .unset] [(.ref a1)])) rfl rfl (hb hby d14_1)
  obtain ⟨T178, X178, e178, st178⟩ := getF X177 hx hZ hown (host := "") (Or.inl (hw _ (List.mem_of_getElem? (i := 23) rfl))) Via.refl e177 Fs (g := (mkF m 18 #[.val (.ref a1), .unset] [(.ref a1)])) rfl rfl (hb hby d14_18)
  obtain ⟨T179, X179, e179, st179⟩ := getF X178 hx hZ hown (host := "") (Or.inl (hw _ (List.mem_of_getElem? (i := 12) rfl))) Via.refl e178 Ff (g := (mkF m 22 #[.val (.ref a1), .unset] [(.ref a1), (.int (5 : Int32))])) rfl rfl (hb hby d14_22)
  obtain ⟨T180, X180, e180, st180⟩ := getF X179 hx hZ hown (host := "") (Or.inl (hw _ (List.mem_of_getElem? (i := 12) rfl))) Via.refl e179 Ff (g := (mkF m 55 #[.val (.ref a1), .val (.int (1 : Int32))] [(.ref a1), (.ref a1)])) rfl rfl (hb hby d14_55)
  obtain ⟨cq181, q181, q181'⟩ := E1.cell
  obtain ⟨_, _, ⟨T181, L181, k181, n181⟩, -, X181, ⟨Lc181, hQ181, l181, y181, z181⟩, st181⟩ := X180.privateBack hx (y := (⟨"com/example/flex_actor/flexactor/core/FrameBuffer", "putInt", "(II)V"⟩ : MethodName)) hown (mvT hZ (hw _ (List.mem_of_getElem? (i := 25) rfl))) (mvT hZ (hw _ (List.mem_of_getElem? (i := 26) rfl))) (own_selp (C := "com/example/flex_actor/flexactor/core/FrameBuffer") (y := (⟨"com/example/flex_actor/flexactor/core/FrameBuffer", "putInt", "(II)V"⟩ : MethodName)) (w := (⟨"com/example/flex_actor/flexactor/core/FrameBuffer", "writeInt", "(I)V"⟩ : MethodName)) rfl (mvT hZ (hw _ (List.mem_of_getElem? (i := 17) rfl))) (Cond.privateMethod_at (mvP hZ (hw _ (List.mem_of_getElem? (i := 27) rfl)) (args := #[]))) (mvT hZ (hw _ (List.mem_of_getElem? (i := 26) rfl))) (by decide)) (Cond.privateMethod_at (mvP hZ (hw _ (List.mem_of_getElem? (i := 27) rfl)) (args := #[]))) (mvT hZ (hw _ (List.mem_of_getElem? (i := 28) rfl))) (by decide) (backOf (W := 0) (rmP l Z a0 hw [] a1 bb k1 vs 0 (1 : Int32) h0 n0 Z0 Fb V1 hvs ne1 g2 (by omega)) hZ (hw _ (List.mem_of_getElem? (i := 28) rfl)) (hw _ (List.mem_of_getElem? (i := 2) rfl)) (by decide) (by decide)) (g := (mkF m 59 #[.val (.ref a1), .val (.int (1 : Int32))] [(.int (1 : Int32)), (.int (0 : Int32)), (.ref a1)])) rfl (by rw [hml]; rfl) (Steps.refl _) (a := a1) (by rw [e180]; exact q181) q181' (argsL := [(.int (0 : Int32)), (.int (1 : Int32))]) (rest := []) (lenOf pd_1 rfl) rfl (by show 2 * 0 + _ ≤ _; exact Nat.le_of_eq rfl) (hb hby d14_59) (fun _ _ => ⟨rfl, e180, (by decide : 0 + 0 ≤ _), (by decide : 0 + 0 ≤ _)⟩)
  dsimp only [Pt.U, Pt.locs, Pt.cells, Pt.slots] at X181 l181 y181 z181 st181 hQ181
  subst l181 y181 z181
  obtain ⟨rfl, Nq181, Kq181, Vp⟩ := hQ181
  have f182 := (E1.keep Kq181)
  have f183 := (Fb.keep Kq181 (ninS ne1 nin0))
  have f184 := (Fs.keep Kq181 (ninS ne1 nin0))
  have f185 := (Ff.keep Kq181 (ninS ne1 nin0))
  have Z181 : n0 ≤ T181.heap.size := Nat.le_trans Z0 Kq181.1
  have K181 : Keep h0 T181.heap [a1, bb] := (Keep.refl h0 [a1, bb]).trans Kq181 (allS (P := fun x => x ∈ ([a1, bb] : List Addr) ∨ h0.size ≤ x) (Or.inl (List.mem_of_getElem? (i := 1) rfl)) all0)
  have Nf181 := Fr.app N0 Nq181
  obtain ⟨T186, h186, X186, e186, W186, st186⟩ := putF X181 hx hZ hown (host := "") (Or.inl (hw _ (List.mem_of_getElem? (i := 12) rfl))) Via.refl rfl f185 f182 (Or.inl (hw _ (List.mem_of_getElem? (i := 13) rfl))) (hw _ (List.mem_of_getElem? (i := 1) rfl)) (ty := .int) (by decide) rfl rfl (g := (mkF m 64 #[.val (.ref a1), .val (.int (1 : Int32))] [(.int (-1 : Int32)), (.ref a1)])) rfl rfl (hb hby d14_64)
  have Fw186 := f185.same W186
  have f187 := (f182.wr W186)
  have f188 := (f183.other W186 (Or.inr (slot_ne (Or.inl (hw _ (List.mem_of_getElem? (i := 11) rfl))) (Or.inl (hw _ (List.mem_of_getElem? (i := 13) rfl))) (by decide) (t := (.array .byte)) (t' := .int) (by decide) (by decide))))
  have f189 := (f184.other W186 (Or.inr (slot_ne (Or.inl (hw _ (List.mem_of_getElem? (i := 24) rfl))) (Or.inl (hw _ (List.mem_of_getElem? (i := 13) rfl))) (by decide) (t := .int) (t' := .int) (by decide) (by decide))))
  have f190 := (Vp.other W186 (Ne.symm ne1))
  have K186 : Keep h0 h186 [a1, bb] := K181.wr W186 (Or.inl (List.mem_of_getElem? (i := 0) rfl))
  have Nf186 := Fr.snoc X186 Nf181 g1
  have Z186 : n0 ≤ h186.size := Nat.le_trans Z181 (Keep.of_wr W186).1
  have pre191 : ∀ t, Steps p.tables e below (T186.setTop (mkF m 67 #[.val (.ref a1), .val (.int (1 : Int32))] [])) t → Steps p.tables e below (s₁.setTop (entryFrame m #[(.ref a1)] 2)) t := by
    intro t kt
    refine pre0 t ?_
    show Steps p.tables e below (s₁.setTop (mkF m 0 #[.val (.ref a1), .unset] [])) _
    refine XS.aloadN X0.here hx rfl (hb hby d14_0) rfl rfl ?_
    show Steps p.tables e below (s₁.setTop (mkF m 1 #[.val (.ref a1), .unset] [(.ref a1)])) _
    refine st177 _ ?_
    show Steps p.tables e below (T177.setTop (mkF m 4 #[.val (.ref a1), .unset] [(.int (0 : Int32))])) _
    refine XS.ifYes X177.here hx rfl (pc0 := 4) (pc' := 17) rfl (hb hby d14_4) rfl ((if0 _ _).trans (flt (by decide)).2.1) (by decide) (by decide) ?_
    show Steps p.tables e below (T177.setTop (mkF m 17 #[.val (.ref a1), .unset] [])) _
    refine XS.aloadN X177.here hx rfl (hb hby d14_17) rfl rfl ?_
    show Steps p.tables e below (T177.setTop (mkF m 18 #[.val (.ref a1), .unset] [(.ref a1)])) _
    refine st178 _ ?_
    show Steps p.tables e below (T178.setTop (mkF m 21 #[.val (.ref a1), .unset] [(.int (5 : Int32))])) _
    refine XS.aloadN X178.here hx rfl (hb hby d14_21) rfl rfl ?_
    show Steps p.tables e below (T178.setTop (mkF m 22 #[.val (.ref a1), .unset] [(.ref a1), (.int (5 : Int32))])) _
    refine st179 _ ?_
    show Steps p.tables e below (T179.setTop (mkF m 25 #[.val (.ref a1), .unset] [(.int (0 : Int32)), (.int (5 : Int32))])) _
    refine XS.isub X179.here hx rfl (hb hby d14_25) rfl ?_
    show Steps p.tables e below (T179.setTop (mkF m 26 #[.val (.ref a1), .unset] [(.int (5 : Int32))])) _
    refine XS.iconst X179.here hx rfl (hb hby d14_26) ?_
    show Steps p.tables e below (T179.setTop (mkF m 27 #[.val (.ref a1), .unset] [(.int (4 : Int32)), (.int (5 : Int32))])) _
    refine XS.isub X179.here hx rfl (hb hby d14_27) rfl ?_
    show Steps p.tables e below (T179.setTop (mkF m 28 #[.val (.ref a1), .unset] [(.int (1 : Int32))])) _
    refine XS.istoreN X179.here hx rfl (hb hby d14_28) rfl (l' := #[.val (.ref a1), .val (.int (1 : Int32))]) rfl ?_
    show Steps p.tables e below (T179.setTop (mkF m 29 #[.val (.ref a1), .val (.int (1 : Int32))] [])) _
    refine XS.iloadN X179.here hx rfl (hb hby d14_29) rfl ?_
    show Steps p.tables e below (T179.setTop (mkF m 30 #[.val (.ref a1), .val (.int (1 : Int32))] [(.int (1 : Int32))])) _
    refine X179.ldcInt hx hown (mvT hZ (hw _ (List.mem_of_getElem? (i := 77) rfl))) (g := (mkF m 30 #[.val (.ref a1), .val (.int (1 : Int32))] [(.int (1 : Int32))])) rfl (hb hby d14_30) _ ?_
    show Steps p.tables e below (T179.setTop (mkF m 32 #[.val (.ref a1), .val (.int (1 : Int32))] [(.int (16777216 : Int32)), (.int (1 : Int32))])) _
    refine XS.icmpYes X179.here hx rfl (pc0 := 32) (pc' := 53) rfl (hb hby d14_32) rfl (flt (by decide)).2.2.2 (by decide) (by decide) ?_
    show Steps p.tables e below (T179.setTop (mkF m 53 #[.val (.ref a1), .val (.int (1 : Int32))] [])) _
    refine XS.aloadN X179.here hx rfl (hb hby d14_53) rfl rfl ?_
    show Steps p.tables e below (T179.setTop (mkF m 54 #[.val (.ref a1), .val (.int (1 : Int32))] [(.ref a1)])) _
    refine XS.aloadN X179.here hx rfl (hb hby d14_54) rfl rfl ?_
    show Steps p.tables e below (T179.setTop (mkF m 55 #[.val (.ref a1), .val (.int (1 : Int32))] [(.ref a1), (.ref a1)])) _
    refine st180 _ ?_
    show Steps p.tables e below (T180.setTop (mkF m 58 #[.val (.ref a1), .val (.int (1 : Int32))] [(.int (0 : Int32)), (.ref a1)])) _
    refine XS.iloadN X180.here hx rfl (hb hby d14_58) rfl ?_
    show Steps p.tables e below (T180.setTop (mkF m 59 #[.val (.ref a1), .val (.int (1 : Int32))] [(.int (1 : Int32)), (.int (0 : Int32)), (.ref a1)])) _
    refine st181.trans ?_
    show Steps p.tables e below (T181.setTop (mkF m 62 #[.val (.ref a1), .val (.int (1 : Int32))] [])) _
    refine XS.aloadN X181.here hx rfl (hb hby d14_62) rfl rfl ?_
    show Steps p.tables e below (T181.setTop (mkF m 63 #[.val (.ref a1), .val (.int (1 : Int32))] [(.ref a1)])) _
    refine XS.iconst X181.here hx rfl (hb hby d14_63) ?_
    show Steps p.tables e below (T181.setTop (mkF m 64 #[.val (.ref a1), .val (.int (1 : Int32))] [(.int (-1 : Int32)), (.ref a1)])) _
    refine st186 _ ?_
    exact kt
  obtain ⟨fsx, hr, hrun, hended, hW, hsame⟩ := X186.leave (v := none) (fun _ => rfl)
  refine ⟨_, _, pre191 _ ?_, hrun, hended, _, _, rfl, ?_, ⟨_, rfl⟩, hW, hsame.mono (by decide) (by decide)⟩
  · exact X186.returnOut hx Bd.returns (hb hby d14_67) hr
  · show QD Z a1 bb k1 vs h0 n0 _ T186.heap _
    rw [e186]
    exact ⟨rfl, Nf186, K186, f188, f189, Fw186, f190⟩
theorem d6_0 : decode prog_32_method_4_code 0 = .ok (.aload_n 0, 1) := by decide +kernel
theorem d6_1 : decode prog_32_method_4_code 1 = .ok (.getfield 13, 3) := by decide +kernel
theorem d6_4 : decode prog_32_method_4_code 4 = .ok (.ifCond .lt 16, 3) := by decide +kernel
theorem d6_20 : decode prog_32_method_4_code 20 = .ok (.return_, 1) := by decide +kernel
theorem ef_rmA0 (m : MethodId) (x0 : Addr) : entryFrame m #[(.ref x0)] 1 = mkF m 0 #[.val (.ref x0)] [] := by first | (simp [entryFrame, mkF, argsToLocals, Value.category]; done) | rfl
def QA0 (Z : State) (a1 : Addr) (h0 : Heap) (n0 : Nat) (v : Option Value) (h : Heap) (L : List Loc) : Prop := v = none ∧ Fr n0 L ∧ h = h0
set_option maxRecDepth 65536 in
set_option maxHeartbeats 40000000 in
theorem rmA0 (l : Launch) (Z : State) (a0 : Array Value) (hw : ∀ d ∈ tables_1, d.before a0 Z = true) (ws : List Jvm.Cond) (a1 : Addr) (h0 : Heap) (n0 : Nat) (Z0 : n0 ≤ h0.size) (Ff : Fld Z h0 a1 "com/example/flex_actor/flexactor/core/FrameBuffer" "frameStart" "I" (.int (-1 : Int32))) :
    MetFree l (⟨"com/example/flex_actor/flexactor/core/FrameBuffer", "abandon", "()V"⟩ : MethodName) (head1 (Jvm.Cond.code (⟨"com/example/flex_actor/flexactor/core/FrameBuffer", "abandon", "()V"⟩ : MethodName) prog_32_method_4_code 1 none :: ws) ({ frames := 0, cells := 0, slots := 0, locals := 0 } : Room)) (fun a U => a = #[(.ref a1)] ∧ Z.Warmed39 U.vm ∧ U.heap = h0) (fun _ _ _ _ _ => True) (fun _ U o U' => ∃ v L, o = .returned v ∧ QA0 Z a1 h0 n0 v U'.heap L ∧ FrameEnd U o U' L ({ frames := 0, cells := 0, slots := 0, locals := 0 } : Room).cells ({ frames := 0, cells := 0, slots := 0, locals := 0 } : Room).slots) := by
  refine MetFree.of_bodySF (plainFor_of_name pn_0) hisR ?_
  intro p e s m args below meth c s₁ Bd hml0 hP hK
  obtain ⟨rfl, hZ, hh⟩ := hP
  have hx := Bd.exec
  have hby := Bd.bytes
  have hml : c.maxLocals = 1 := hml0
  have hown : s.vm.findClass "com/example/flex_actor/flexactor/core/FrameBuffer" = some m.cls := findClass_of_methodNamed Bd.named
  have hnm := (name_of_methodNamed Bd.named Bd.method).1
  have X0 : Stand p l e ({ frames := 0, cells := 0, slots := 0, locals := 0 } : Room) s m #[(.ref a1)] below meth c s₁ [] 0 0 := Stand.of_body Bd
  have e0 : s₁.heap = h0 := by rw [← hh, Bd.state]; rfl
  have N0 := Fr.nil n0
  have pre0 : ∀ t, Steps p.tables e below (s₁.setTop (mkF m 0 #[.val (.ref a1)] [])) t → Steps p.tables e below (s₁.setTop (entryFrame m #[(.ref a1)] 1)) t := fun t k => castTop (ef_rmA0 m a1) k
  obtain ⟨T192, X192, e192, st192⟩ := getF X0 hx hZ hown (host := "") (Or.inl (hw _ (List.mem_of_getElem? (i := 12) rfl))) Via.refl e0 Ff (g := (mkF m 1 #[.val (.ref a1)] [(.ref a1)])) rfl rfl (hb hby d6_1)
  have pre193 : ∀ t, Steps p.tables e below (T192.setTop (mkF m 20 #[.val (.ref a1)] [])) t → Steps p.tables e below (s₁.setTop (entryFrame m #[(.ref a1)] 1)) t := by
    intro t kt
    refine pre0 t ?_
    show Steps p.tables e below (s₁.setTop (mkF m 0 #[.val (.ref a1)] [])) _
    refine XS.aloadN X0.here hx rfl (hb hby d6_0) rfl rfl ?_
    show Steps p.tables e below (s₁.setTop (mkF m 1 #[.val (.ref a1)] [(.ref a1)])) _
    refine st192 _ ?_
    show Steps p.tables e below (T192.setTop (mkF m 4 #[.val (.ref a1)] [(.int (-1 : Int32))])) _
    refine XS.ifYes X192.here hx rfl (pc0 := 4) (pc' := 20) rfl (hb hby d6_4) rfl ((if0 _ _).trans (tlt (by decide)).1) (by decide) (by decide) ?_
    exact kt
  obtain ⟨fsx, hr, hrun, hended, hW, hsame⟩ := X192.leave (v := none) (fun _ => rfl)
  refine ⟨_, _, pre193 _ ?_, hrun, hended, _, _, rfl, ?_, ⟨_, rfl⟩, hW, hsame.mono (by decide) (by decide)⟩
  · exact X192.returnOut hx Bd.returns (hb hby d6_20) hr
  · show QA0 Z a1 h0 n0 _ T192.heap _
    rw [e192]
    exact ⟨rfl, N0, rfl⟩
theorem d6_7 : decode prog_32_method_4_code 7 = .ok (.aload_n 0, 1) := by decide +kernel
theorem d6_8 : decode prog_32_method_4_code 8 = .ok (.aload_n 0, 1) := by decide +kernel
theorem d6_9 : decode prog_32_method_4_code 9 = .ok (.getfield 13, 3) := by decide +kernel
theorem d6_12 : decode prog_32_method_4_code 12 = .ok (.putfield 24, 3) := by decide +kernel
theorem d6_15 : decode prog_32_method_4_code 15 = .ok (.aload_n 0, 1) := by decide +kernel
theorem d6_16 : decode prog_32_method_4_code 16 = .ok (.iconst (-1), 1) := by decide +kernel
theorem d6_17 : decode prog_32_method_4_code 17 = .ok (.putfield 13, 3) := by decide +kernel
theorem ef_rmA1 (m : MethodId) (x0 : Addr) : entryFrame m #[(.ref x0)] 1 = mkF m 0 #[.val (.ref x0)] [] := by first | (simp [entryFrame, mkF, argsToLocals, Value.category]; done) | rfl
def QA1 (Z : State) (a1 : Addr) (bb : Addr) (k1 : ClassId) (vs : List Value) (sz : Int32) (fs : Int32) (h0 : Heap) (n0 : Nat) (v : Option Value) (h : Heap) (L : List Loc) : Prop := v = none ∧ Fr n0 L ∧ Keep h0 h [a1, bb] ∧ Fld Z h a1 "com/example/flex_actor/flexactor/core/FrameBuffer" "bytes" "[B" (.ref bb) ∧ Fld Z h a1 "com/example/flex_actor/flexactor/core/FrameBuffer" "size" "I" (.int fs) ∧ Fld Z h a1 "com/example/flex_actor/flexactor/core/FrameBuffer" "frameStart" "I" (.int (-1 : Int32)) ∧ Arv Z h bb k1 .byte (8192 : Int32) vs (.int (0 : Int32))
set_option maxRecDepth 65536 in
set_option maxHeartbeats 40000000 in
theorem rmA1 (l : Launch) (Z : State) (a0 : Array Value) (hw : ∀ d ∈ tables_1, d.before a0 Z = true) (ws : List Jvm.Cond) (a1 : Addr) (bb : Addr) (k1 : ClassId) (vs : List Value) (sz : Int32) (fs : Int32) (h0 : Heap) (n0 : Nat) (Z0 : n0 ≤ h0.size) (E1 : Exa Z h0 a1 "com/example/flex_actor/flexactor/core/FrameBuffer") (Fb : Fld Z h0 a1 "com/example/flex_actor/flexactor/core/FrameBuffer" "bytes" "[B" (.ref bb)) (Fs : Fld Z h0 a1 "com/example/flex_actor/flexactor/core/FrameBuffer" "size" "I" (.int sz)) (Ff : Fld Z h0 a1 "com/example/flex_actor/flexactor/core/FrameBuffer" "frameStart" "I" (.int fs)) (V1 : Arv Z h0 bb k1 .byte (8192 : Int32) vs (.int (0 : Int32))) (hvs : vs.length = 16) (ne1 : a1 ≠ bb) (g1 : n0 ≤ a1) (g2 : n0 ≤ bb) (hfs : ¬ fs < 0) :
    MetFree l (⟨"com/example/flex_actor/flexactor/core/FrameBuffer", "abandon", "()V"⟩ : MethodName) (head1 (Jvm.Cond.code (⟨"com/example/flex_actor/flexactor/core/FrameBuffer", "abandon", "()V"⟩ : MethodName) prog_32_method_4_code 1 none :: ws) ({ frames := 0, cells := 0, slots := 0, locals := 0 } : Room)) (fun a U => a = #[(.ref a1)] ∧ Z.Warmed39 U.vm ∧ U.heap = h0) (fun _ _ _ _ _ => True) (fun _ U o U' => ∃ v L, o = .returned v ∧ QA1 Z a1 bb k1 vs sz fs h0 n0 v U'.heap L ∧ FrameEnd U o U' L ({ frames := 0, cells := 0, slots := 0, locals := 0 } : Room).cells ({ frames := 0, cells := 0, slots := 0, locals := 0 } : Room).slots) := by
  refine MetFree.of_bodySF (plainFor_of_name pn_0) hisR ?_
  intro p e s m args below meth c s₁ Bd hml0 hP hK
  obtain ⟨rfl, hZ, hh⟩ := hP
  have hx := Bd.exec
  have hby := Bd.bytes
  have hml : c.maxLocals = 1 := hml0
  have hown : s.vm.findClass "com/example/flex_actor/flexactor/core/FrameBuffer" = some m.cls := findClass_of_methodNamed Bd.named
  have hnm := (name_of_methodNamed Bd.named Bd.method).1
  have X0 : Stand p l e ({ frames := 0, cells := 0, slots := 0, locals := 0 } : Room) s m #[(.ref a1)] below meth c s₁ [] 0 0 := Stand.of_body Bd
  have e0 : s₁.heap = h0 := by rw [← hh, Bd.state]; rfl
  have N0 := Fr.nil n0
  have pre0 : ∀ t, Steps p.tables e below (s₁.setTop (mkF m 0 #[.val (.ref a1)] [])) t → Steps p.tables e below (s₁.setTop (entryFrame m #[(.ref a1)] 1)) t := fun t k => castTop (ef_rmA1 m a1) k
  obtain ⟨T194, X194, e194, st194⟩ := getF X0 hx hZ hown (host := "") (Or.inl (hw _ (List.mem_of_getElem? (i := 12) rfl))) Via.refl e0 Ff (g := (mkF m 1 #[.val (.ref a1)] [(.ref a1)])) rfl rfl (hb hby d6_1)
  obtain ⟨T195, X195, e195, st195⟩ := getF X194 hx hZ hown (host := "") (Or.inl (hw _ (List.mem_of_getElem? (i := 12) rfl))) Via.refl e194 Ff (g := (mkF m 9 #[.val (.ref a1)] [(.ref a1), (.ref a1)])) rfl rfl (hb hby d6_9)
  obtain ⟨T196, h196, X196, e196, W196, st196⟩ := putF X195 hx hZ hown (host := "") (Or.inl (hw _ (List.mem_of_getElem? (i := 23) rfl))) Via.refl e195 Fs E1 (Or.inl (hw _ (List.mem_of_getElem? (i := 24) rfl))) (hw _ (List.mem_of_getElem? (i := 1) rfl)) (ty := .int) (by decide) rfl rfl (g := (mkF m 12 #[.val (.ref a1)] [(.int fs), (.ref a1)])) rfl rfl (hb hby d6_12)
  have Fw196 := Fs.same W196
  have f197 := (E1.wr W196)
  have f198 := (Fb.other W196 (Or.inr (slot_ne (Or.inl (hw _ (List.mem_of_getElem? (i := 11) rfl))) (Or.inl (hw _ (List.mem_of_getElem? (i := 24) rfl))) (by decide) (t := (.array .byte)) (t' := .int) (by decide) (by decide))))
  have f199 := (Ff.other W196 (Or.inr (slot_ne (Or.inl (hw _ (List.mem_of_getElem? (i := 13) rfl))) (Or.inl (hw _ (List.mem_of_getElem? (i := 24) rfl))) (by decide) (t := .int) (t' := .int) (by decide) (by decide))))
  have f200 := (V1.other W196 (Ne.symm ne1))
  have K196 : Keep h0 h196 [a1, bb] := (Keep.refl h0 [a1, bb]).wr W196 (Or.inl (List.mem_of_getElem? (i := 0) rfl))
  have Nf196 := Fr.snoc X196 N0 g1
  have Z196 : n0 ≤ h196.size := Nat.le_trans Z0 (Keep.of_wr W196).1
  obtain ⟨T201, h201, X201, e201, W201, st201⟩ := putF X196 hx hZ hown (host := "") (Or.inl (hw _ (List.mem_of_getElem? (i := 12) rfl))) Via.refl e196 f199 f197 (Or.inl (hw _ (List.mem_of_getElem? (i := 13) rfl))) (hw _ (List.mem_of_getElem? (i := 1) rfl)) (ty := .int) (by decide) rfl rfl (g := (mkF m 17 #[.val (.ref a1)] [(.int (-1 : Int32)), (.ref a1)])) rfl rfl (hb hby d6_17)
  have Fw201 := f199.same W201
  have f202 := (f197.wr W201)
  have f203 := (f198.other W201 (Or.inr (slot_ne (Or.inl (hw _ (List.mem_of_getElem? (i := 11) rfl))) (Or.inl (hw _ (List.mem_of_getElem? (i := 13) rfl))) (by decide) (t := (.array .byte)) (t' := .int) (by decide) (by decide))))
  have f204 := (f200.other W201 (Ne.symm ne1))
  have f205 := (Fw196.other W201 (Or.inr (slot_ne (Or.inl (hw _ (List.mem_of_getElem? (i := 24) rfl))) (Or.inl (hw _ (List.mem_of_getElem? (i := 13) rfl))) (by decide) (t := .int) (t' := .int) (by decide) (by decide))))
  have K201 : Keep h0 h201 [a1, bb] := K196.wr W201 (Or.inl (List.mem_of_getElem? (i := 0) rfl))
  have Nf201 := Fr.snoc X201 Nf196 g1
  have Z201 : n0 ≤ h201.size := Nat.le_trans Z196 (Keep.of_wr W201).1
  have pre206 : ∀ t, Steps p.tables e below (T201.setTop (mkF m 20 #[.val (.ref a1)] [])) t → Steps p.tables e below (s₁.setTop (entryFrame m #[(.ref a1)] 1)) t := by
    intro t kt
    refine pre0 t ?_
    show Steps p.tables e below (s₁.setTop (mkF m 0 #[.val (.ref a1)] [])) _
    refine XS.aloadN X0.here hx rfl (hb hby d6_0) rfl rfl ?_
    show Steps p.tables e below (s₁.setTop (mkF m 1 #[.val (.ref a1)] [(.ref a1)])) _
    refine st194 _ ?_
    show Steps p.tables e below (T194.setTop (mkF m 4 #[.val (.ref a1)] [(.int fs)])) _
    refine XS.ifNo X194.here hx rfl (hb hby d6_4) rfl ((if0 _ _).trans (flt hfs).1) ?_
    show Steps p.tables e below (T194.setTop (mkF m 7 #[.val (.ref a1)] [])) _
    refine XS.aloadN X194.here hx rfl (hb hby d6_7) rfl rfl ?_
    show Steps p.tables e below (T194.setTop (mkF m 8 #[.val (.ref a1)] [(.ref a1)])) _
    refine XS.aloadN X194.here hx rfl (hb hby d6_8) rfl rfl ?_
    show Steps p.tables e below (T194.setTop (mkF m 9 #[.val (.ref a1)] [(.ref a1), (.ref a1)])) _
    refine st195 _ ?_
    show Steps p.tables e below (T195.setTop (mkF m 12 #[.val (.ref a1)] [(.int fs), (.ref a1)])) _
    refine st196 _ ?_
    show Steps p.tables e below (T196.setTop (mkF m 15 #[.val (.ref a1)] [])) _
    refine XS.aloadN X196.here hx rfl (hb hby d6_15) rfl rfl ?_
    show Steps p.tables e below (T196.setTop (mkF m 16 #[.val (.ref a1)] [(.ref a1)])) _
    refine XS.iconst X196.here hx rfl (hb hby d6_16) ?_
    show Steps p.tables e below (T196.setTop (mkF m 17 #[.val (.ref a1)] [(.int (-1 : Int32)), (.ref a1)])) _
    refine st201 _ ?_
    exact kt
  obtain ⟨fsx, hr, hrun, hended, hW, hsame⟩ := X201.leave (v := none) (fun _ => rfl)
  refine ⟨_, _, pre206 _ ?_, hrun, hended, _, _, rfl, ?_, ⟨_, rfl⟩, hW, hsame.mono (by decide) (by decide)⟩
  · exact X201.returnOut hx Bd.returns (hb hby d6_20) hr
  · show QA1 Z a1 bb k1 vs sz fs h0 n0 _ T201.heap _
    rw [e201]
    exact ⟨rfl, Nf201, K201, f203, f205, Fw201, f204⟩
theorem d7_0 : decode prog_32_method_6_code 0 = .ok (.aload_n 0, 1) := by decide +kernel
theorem d7_1 : decode prog_32_method_6_code 1 = .ok (.getfield 24, 3) := by decide +kernel
theorem d7_4 : decode prog_32_method_6_code 4 = .ok (.ireturn, 1) := by decide +kernel
theorem ef_rmS (m : MethodId) (x0 : Addr) : entryFrame m #[(.ref x0)] 1 = mkF m 0 #[.val (.ref x0)] [] := by first | (simp [entryFrame, mkF, argsToLocals, Value.category]; done) | rfl
def QS (Z : State) (a1 : Addr) (sz : Int32) (h0 : Heap) (n0 : Nat) (v : Option Value) (h : Heap) (L : List Loc) : Prop := v = some (.int sz) ∧ Fr n0 L ∧ h = h0
set_option maxRecDepth 65536 in
set_option maxHeartbeats 40000000 in
theorem rmS (l : Launch) (Z : State) (a0 : Array Value) (hw : ∀ d ∈ tables_1, d.before a0 Z = true) (ws : List Jvm.Cond) (a1 : Addr) (sz : Int32) (h0 : Heap) (n0 : Nat) (Z0 : n0 ≤ h0.size) (Fs : Fld Z h0 a1 "com/example/flex_actor/flexactor/core/FrameBuffer" "size" "I" (.int sz)) :
    MetFree l (⟨"com/example/flex_actor/flexactor/core/FrameBuffer", "size", "()I"⟩ : MethodName) (head1 (Jvm.Cond.code (⟨"com/example/flex_actor/flexactor/core/FrameBuffer", "size", "()I"⟩ : MethodName) prog_32_method_6_code 1 (some .int) :: ws) ({ frames := 0, cells := 0, slots := 0, locals := 0 } : Room)) (fun a U => a = #[(.ref a1)] ∧ Z.Warmed39 U.vm ∧ U.heap = h0) (fun _ _ _ _ _ => True) (fun _ U o U' => ∃ v L, o = .returned v ∧ QS Z a1 sz h0 n0 v U'.heap L ∧ FrameEnd U o U' L ({ frames := 0, cells := 0, slots := 0, locals := 0 } : Room).cells ({ frames := 0, cells := 0, slots := 0, locals := 0 } : Room).slots) := by
  refine MetFree.of_bodySF (plainFor_of_name pn_0) hisR ?_
  intro p e s m args below meth c s₁ Bd hml0 hP hK
  obtain ⟨rfl, hZ, hh⟩ := hP
  have hx := Bd.exec
  have hby := Bd.bytes
  have hml : c.maxLocals = 1 := hml0
  have hown : s.vm.findClass "com/example/flex_actor/flexactor/core/FrameBuffer" = some m.cls := findClass_of_methodNamed Bd.named
  have hnm := (name_of_methodNamed Bd.named Bd.method).1
  have X0 : Stand p l e ({ frames := 0, cells := 0, slots := 0, locals := 0 } : Room) s m #[(.ref a1)] below meth c s₁ [] 0 0 := Stand.of_body Bd
  have e0 : s₁.heap = h0 := by rw [← hh, Bd.state]; rfl
  have N0 := Fr.nil n0
  have pre0 : ∀ t, Steps p.tables e below (s₁.setTop (mkF m 0 #[.val (.ref a1)] [])) t → Steps p.tables e below (s₁.setTop (entryFrame m #[(.ref a1)] 1)) t := fun t k => castTop (ef_rmS m a1) k
  obtain ⟨T207, X207, e207, st207⟩ := getF X0 hx hZ hown (host := "") (Or.inl (hw _ (List.mem_of_getElem? (i := 23) rfl))) Via.refl e0 Fs (g := (mkF m 1 #[.val (.ref a1)] [(.ref a1)])) rfl rfl (hb hby d7_1)
  have pre208 : ∀ t, Steps p.tables e below (T207.setTop (mkF m 4 #[.val (.ref a1)] [(.int sz)])) t → Steps p.tables e below (s₁.setTop (entryFrame m #[(.ref a1)] 1)) t := by
    intro t kt
    refine pre0 t ?_
    show Steps p.tables e below (s₁.setTop (mkF m 0 #[.val (.ref a1)] [])) _
    refine XS.aloadN X0.here hx rfl (hb hby d7_0) rfl rfl ?_
    show Steps p.tables e below (s₁.setTop (mkF m 1 #[.val (.ref a1)] [(.ref a1)])) _
    refine st207 _ ?_
    exact kt
  obtain ⟨fsx, hr, hrun, hended, hW, hsame⟩ := X207.leave (v := some (.int sz)) (fun h => by rw [Bd.returns] at h; cases h)
  refine ⟨_, _, pre208 _ ?_, hrun, hended, _, _, rfl, ?_, ⟨_, rfl⟩, hW, hsame.mono (by decide) (by decide)⟩
  · exact retI X207 hx Bd.returns (hb hby d7_4) hr
  · show QS Z a1 sz h0 n0 _ T207.heap _
    rw [e207]
    exact ⟨rfl, N0, rfl⟩
theorem d11_0 : decode jdk_29_method_69_code 0 = .ok (.iload_n 0, 1) := by decide +kernel
theorem d11_1 : decode jdk_29_method_69_code 1 = .ok (.iload_n 1, 1) := by decide +kernel
theorem d11_2 : decode jdk_29_method_69_code 2 = .ok (.if_icmp .gt 7, 3) := by decide +kernel
theorem d11_9 : decode jdk_29_method_69_code 9 = .ok (.iload_n 1, 1) := by decide +kernel
theorem d11_10 : decode jdk_29_method_69_code 10 = .ok (.ireturn, 1) := by decide +kernel
theorem d11_5 : decode jdk_29_method_69_code 5 = .ok (.iload_n 0, 1) := by decide +kernel
theorem d11_6 : decode jdk_29_method_69_code 6 = .ok (.goto 4, 3) := by decide +kernel
theorem ef_rm2 (m : MethodId) (x0 : Int32) (x1 : Int32) : entryFrame m #[(.int x0), (.int x1)] 2 = mkF m 0 #[.val (.int x0), .val (.int x1)] [] := by first | (simp [entryFrame, mkF, argsToLocals, Value.category]; done) | rfl
def Q2 (Z : State) (p1 : Int32) (p2 : Int32) (h0 : Heap) (n0 : Nat) (v : Option Value) (h : Heap) (L : List Loc) : Prop := v = some (.int (if p2 < p1 then p2 else p1)) ∧ Fr n0 L ∧ h = h0
set_option maxRecDepth 65536 in
set_option maxHeartbeats 40000000 in
theorem rm2 (l : Launch) (Z : State) (a0 : Array Value) (hw : ∀ d ∈ tables_1, d.before a0 Z = true) (ws : List Jvm.Cond) (p1 : Int32) (p2 : Int32) (h0 : Heap) (n0 : Nat) (Z0 : n0 ≤ h0.size)  :
    MetFree l (⟨"java/lang/Math", "min", "(II)I"⟩ : MethodName) (head1 (Jvm.Cond.code (⟨"java/lang/Math", "min", "(II)I"⟩ : MethodName) jdk_29_method_69_code 2 (some .int) :: ws) ({ frames := 0, cells := 0, slots := 0, locals := 0 } : Room)) (fun a U => a = #[(.int p1), (.int p2)] ∧ Z.Warmed39 U.vm ∧ U.heap = h0) (fun _ _ _ _ _ => True) (fun _ U o U' => ∃ v L, o = .returned v ∧ Q2 Z p1 p2 h0 n0 v U'.heap L ∧ FrameEnd U o U' L ({ frames := 0, cells := 0, slots := 0, locals := 0 } : Room).cells ({ frames := 0, cells := 0, slots := 0, locals := 0 } : Room).slots) := by
  refine MetFree.of_bodySF (Jvm.Free.JP.mathPlain rfl (by decide +kernel)) hisR ?_
  intro p e s m args below meth c s₁ Bd hml0 hP hK
  obtain ⟨rfl, hZ, hh⟩ := hP
  have hx := Bd.exec
  have hby := Bd.bytes
  have hml : c.maxLocals = 2 := hml0
  have hown : s.vm.findClass "java/lang/Math" = some m.cls := findClass_of_methodNamed Bd.named
  have hnm := (name_of_methodNamed Bd.named Bd.method).1
  have X0 : Stand p l e ({ frames := 0, cells := 0, slots := 0, locals := 0 } : Room) s m #[(.int p1), (.int p2)] below meth c s₁ [] 0 0 := Stand.of_body Bd
  have e0 : s₁.heap = h0 := by rw [← hh, Bd.state]; rfl
  have N0 := Fr.nil n0
  have pre0 : ∀ t, Steps p.tables e below (s₁.setTop (mkF m 0 #[.val (.int p1), .val (.int p2)] [])) t → Steps p.tables e below (s₁.setTop (entryFrame m #[(.int p1), (.int p2)] 2)) t := fun t k => castTop (ef_rm2 m p1 p2) k
  have pre209 : ∀ t, Steps p.tables e below (s₁.setTop (mkF m 2 #[.val (.int p1), .val (.int p2)] [(.int p2), (.int p1)])) t → Steps p.tables e below (s₁.setTop (entryFrame m #[(.int p1), (.int p2)] 2)) t := by
    intro t kt
    refine pre0 t ?_
    show Steps p.tables e below (s₁.setTop (mkF m 0 #[.val (.int p1), .val (.int p2)] [])) _
    refine XS.iloadN X0.here hx rfl (hb hby d11_0) rfl ?_
    show Steps p.tables e below (s₁.setTop (mkF m 1 #[.val (.int p1), .val (.int p2)] [(.int p1)])) _
    refine XS.iloadN X0.here hx rfl (hb hby d11_1) rfl ?_
    exact kt
  by_cases hc2 : p2 < p1
  · have pre210 : ∀ t, Steps p.tables e below (s₁.setTop (mkF m 10 #[.val (.int p1), .val (.int p2)] [(.int p2)])) t → Steps p.tables e below (s₁.setTop (entryFrame m #[(.int p1), (.int p2)] 2)) t := by
      intro t kt
      refine pre209 t ?_
      show Steps p.tables e below (s₁.setTop (mkF m 2 #[.val (.int p1), .val (.int p2)] [(.int p2), (.int p1)])) _
      refine XS.icmpYes X0.here hx rfl (pc0 := 2) (pc' := 9) rfl (hb hby d11_2) rfl (tlt hc2).2.2.1 (by decide) (by decide) ?_
      show Steps p.tables e below (s₁.setTop (mkF m 9 #[.val (.int p1), .val (.int p2)] [])) _
      refine XS.iloadN X0.here hx rfl (hb hby d11_9) rfl ?_
      exact kt
    obtain ⟨fsx, hr, hrun, hended, hW, hsame⟩ := X0.leave (v := some (.int p2)) (fun h => by rw [Bd.returns] at h; cases h)
    refine ⟨_, _, pre210 _ ?_, hrun, hended, _, _, rfl, ?_, ⟨_, rfl⟩, hW, hsame.mono (by decide) (by decide)⟩
    · exact retI X0 hx Bd.returns (hb hby d11_10) hr
    · show Q2 Z p1 p2 h0 n0 _ s₁.heap _
      rw [e0]
      exact ⟨by rw [if_pos hc2], N0, rfl⟩
  · have pre211 : ∀ t, Steps p.tables e below (s₁.setTop (mkF m 10 #[.val (.int p1), .val (.int p2)] [(.int p1)])) t → Steps p.tables e below (s₁.setTop (entryFrame m #[(.int p1), (.int p2)] 2)) t := by
      intro t kt
      refine pre209 t ?_
      show Steps p.tables e below (s₁.setTop (mkF m 2 #[.val (.int p1), .val (.int p2)] [(.int p2), (.int p1)])) _
      refine XS.icmpNo X0.here hx rfl (hb hby d11_2) rfl (flt hc2).2.2.1 ?_
      show Steps p.tables e below (s₁.setTop (mkF m 5 #[.val (.int p1), .val (.int p2)] [])) _
      refine XS.iloadN X0.here hx rfl (hb hby d11_5) rfl ?_
      show Steps p.tables e below (s₁.setTop (mkF m 6 #[.val (.int p1), .val (.int p2)] [(.int p1)])) _
      refine XS.goto X0.here hx rfl (pc0 := 6) (pc' := 10) rfl (hb hby d11_6) (by decide) (by decide) ?_
      exact kt
    obtain ⟨fsx, hr, hrun, hended, hW, hsame⟩ := X0.leave (v := some (.int p1)) (fun h => by rw [Bd.returns] at h; cases h)
    refine ⟨_, _, pre211 _ ?_, hrun, hended, _, _, rfl, ?_, ⟨_, rfl⟩, hW, hsame.mono (by decide) (by decide)⟩
    · exact retI X0 hx Bd.returns (hb hby d11_10) hr
    · show Q2 Z p1 p2 h0 n0 _ s₁.heap _
      rw [e0]
      exact ⟨by rw [if_neg hc2], N0, rfl⟩
theorem d10_0 : decode jdk_65_method_121_code 0 = .ok (.iload_n 1, 1) := by decide +kernel
theorem d10_1 : decode jdk_65_method_121_code 1 = .ok (.aload_n 0, 1) := by decide +kernel
theorem d10_2 : decode jdk_65_method_121_code 2 = .ok (.arraylength, 1) := by decide +kernel
theorem d10_3 : decode jdk_65_method_121_code 3 = .ok (.if_icmp .ne 11, 3) := by decide +kernel
theorem d10_14 : decode jdk_65_method_121_code 14 = .ok (.iload_n 1, 1) := by decide +kernel
theorem d10_15 : decode jdk_65_method_121_code 15 = .ok (.newarray .byte, 2) := by decide +kernel
theorem d10_17 : decode jdk_65_method_121_code 17 = .ok (.astore_n 2, 1) := by decide +kernel
theorem d10_18 : decode jdk_65_method_121_code 18 = .ok (.aload_n 0, 1) := by decide +kernel
theorem d10_19 : decode jdk_65_method_121_code 19 = .ok (.iconst 0, 1) := by decide +kernel
theorem d10_20 : decode jdk_65_method_121_code 20 = .ok (.aload_n 2, 1) := by decide +kernel
theorem d10_21 : decode jdk_65_method_121_code 21 = .ok (.iconst 0, 1) := by decide +kernel
theorem d10_22 : decode jdk_65_method_121_code 22 = .ok (.aload_n 0, 1) := by decide +kernel
theorem d10_23 : decode jdk_65_method_121_code 23 = .ok (.arraylength, 1) := by decide +kernel
theorem d10_24 : decode jdk_65_method_121_code 24 = .ok (.iload_n 1, 1) := by decide +kernel
theorem pd_2 : parseMethodDescriptor "(II)I" = some ⟨[.int, .int], some .int⟩ := by decide +kernel
theorem d10_25 : decode jdk_65_method_121_code 25 = .ok (.invokestatic 304, 3) := by decide +kernel
theorem d10_28 : decode jdk_65_method_121_code 28 = .ok (.invokestatic 150, 3) := by decide +kernel
theorem d10_31 : decode jdk_65_method_121_code 31 = .ok (.aload_n 2, 1) := by decide +kernel
theorem d10_32 : decode jdk_65_method_121_code 32 = .ok (.areturn, 1) := by decide +kernel
theorem pn_1 : plainName "java/util/Arrays" = true := by first | (simp [plainName, overriddenIn]; done) | decide +kernel
theorem ef_rm4 (m : MethodId) (x0 : Addr) (x1 : Int32) : entryFrame m #[(.ref x0), (.int x1)] 3 = mkF m 0 #[.val (.ref x0), .val (.int x1), .unset] [] := by first | (simp [entryFrame, mkF, argsToLocals, Value.category]; done) | rfl
def Q4 (Z : State) (a1 : Addr) (k1 : ClassId) (z : Int32) (vs : List Value) (nn : Int32) (h0 : Heap) (n0 : Nat) (v : Option Value) (h : Heap) (L : List Loc) : Prop := ∃ (b : Addr) (kb : ClassId), v = some (.ref b) ∧ Fr n0 L ∧ Keep h0 h [] ∧ h0.size ≤ b ∧ Arv Z h b kb .byte nn (own_pre vs (.int (0 : Int32)) nn.toNatClampNeg) (.int (0 : Int32))
set_option maxRecDepth 65536 in
set_option maxHeartbeats 40000000 in
theorem rm4 (l : Launch) (Z : State) (a0 : Array Value) (hw : ∀ d ∈ tables_1, d.before a0 Z = true) (ws : List Jvm.Cond) (a1 : Addr) (k1 : ClassId) (z : Int32) (vs : List Value) (nn : Int32) (h0 : Heap) (n0 : Nat) (Z0 : n0 ≤ h0.size) (V1 : Arv Z h0 a1 k1 .byte z vs (.int (0 : Int32))) (hn0 : ¬ nn < 0) (hnz : nn < z) (hcap : nn.toNatClampNeg ≤ 16) :
    MetFree l (⟨"java/util/Arrays", "copyOf", "([BI)[B"⟩ : MethodName) (head1 (Jvm.Cond.code (⟨"java/util/Arrays", "copyOf", "([BI)[B"⟩ : MethodName) jdk_65_method_121_code 3 (some (.array .byte)) :: ws) ({ frames := 1, cells := 1, slots := 16, locals := 18 } : Room)) (fun a U => a = #[(.ref a1), (.int nn)] ∧ Z.Warmed39 U.vm ∧ U.heap = h0) (fun _ _ _ _ _ => True) (fun _ U o U' => ∃ v L, o = .returned v ∧ Q4 Z a1 k1 z vs nn h0 n0 v U'.heap L ∧ FrameEnd U o U' L ({ frames := 1, cells := 1, slots := 16, locals := 18 } : Room).cells ({ frames := 1, cells := 1, slots := 16, locals := 18 } : Room).slots) := by
  refine MetFree.of_bodySF (plainFor_of_name pn_1) hisR ?_
  intro p e s m args below meth c s₁ Bd hml0 hP hK
  obtain ⟨rfl, hZ, hh⟩ := hP
  have hx := Bd.exec
  have hby := Bd.bytes
  have hml : c.maxLocals = 3 := hml0
  have hown : s.vm.findClass "java/util/Arrays" = some m.cls := findClass_of_methodNamed Bd.named
  have hnm := (name_of_methodNamed Bd.named Bd.method).1
  have X0 : Stand p l e ({ frames := 1, cells := 1, slots := 16, locals := 18 } : Room) s m #[(.ref a1), (.int nn)] below meth c s₁ [] 0 0 := Stand.of_body Bd
  have e0 : s₁.heap = h0 := by rw [← hh, Bd.state]; rfl
  have N0 := Fr.nil n0
  have pre0 : ∀ t, Steps p.tables e below (s₁.setTop (mkF m 0 #[.val (.ref a1), .val (.int nn), .unset] [])) t → Steps p.tables e below (s₁.setTop (entryFrame m #[(.ref a1), (.int nn)] 3)) t := fun t k => castTop (ef_rm4 m a1 nn) k
  obtain ⟨T212, h212, k212, X212, e212, E212, A212, Ax212, st212⟩ := newPE X0 hx hZ (hw _ (List.mem_of_getElem? (i := 9) rfl)) e0 (g := (mkF m 15 #[.val (.ref a1), .val (.int nn), .unset] [(.int nn)])) rfl (hb hby d10_15) rfl hn0 (cap := 16) hcap (by decide) (by decide) (by decide) (ad := "[B") rfl
  obtain ⟨b, gq212⟩ : ∃ z, z = h0.size := ⟨_, rfl⟩
  rw [← gq212] at A212 Ax212 st212
  have g_b : n0 ≤ b := Nat.le_trans Z0 (Nat.le_of_eq gq212.symm)
  have sz_b : h0.size ≤ b := Nat.le_trans (Keep.refl h0 []).1 (Nat.le_of_eq gq212.symm)
  have ne213 : a1 ≠ b := Nat.ne_of_lt (Nat.lt_of_lt_of_le V1.lt (Nat.le_of_eq gq212.symm))
  have f214 := (V1.ext E212)
  have K212 : Keep h0 h212 [] := (Keep.refl h0 []).ext E212
  have Z212 : n0 ≤ h212.size := Nat.le_trans Z0 E212.1
  have V212 : Arv Z h212 b k212 .byte nn ([] ++ List.replicate nn.toNatClampNeg (.int (0 : Int32))) (.int (0 : Int32)) := (Arv.new A212 hn0).pad (pad_rep [] (.int (0 : Int32)) nn.toNatClampNeg)
  obtain ⟨_, _, ⟨T215, L215, k215, n215⟩, -, X215, ⟨Lc215, hQ215, l215, y215, z215⟩, st215⟩ := Jvm.LawKit.callS X212 hx (y := (⟨"java/lang/Math", "min", "(II)I"⟩ : MethodName)) hown (mvT hZ (hw _ (List.mem_of_getElem? (i := 53) rfl))) (mvT hZ (hw _ (List.mem_of_getElem? (i := 54) rfl))) (mvT hZ (hw _ (List.mem_of_getElem? (i := 55) rfl))) (mvT hZ (hw _ (List.mem_of_getElem? (i := 56) rfl))) (by decide) (backOf (W := 4) (rm2 l Z a0 hw [] z nn h212 n0 Z212) hZ (hw _ (List.mem_of_getElem? (i := 56) rfl)) (hw _ (List.mem_of_getElem? (i := 55) rfl)) (by decide) (by decide)) (g := (mkF m 25 #[.val (.ref a1), .val (.int nn), .val (.ref b)] [(.int nn), (.int z), (.int (0 : Int32)), (.ref b), (.int (0 : Int32)), (.ref a1)])) rfl (by rw [hml]; rfl) (argsL := [(.int z), (.int nn)]) (rest := [(.int (0 : Int32)), (.ref b), (.int (0 : Int32)), (.ref a1)]) (lenOf pd_2 rfl) rfl (by show 2 * 0 + _ ≤ _; exact Nat.le_of_eq rfl) (hb hby d10_25) (fun _ _ => ⟨rfl, e212, (by decide : 1 + 0 ≤ _), (by decide : 16 + 0 ≤ _)⟩)
  dsimp only [Pt.U, Pt.locs, Pt.cells, Pt.slots] at X215 l215 y215 z215 st215 hQ215
  subst l215 y215 z215
  obtain ⟨rfl, Nq215, eq215⟩ := hQ215
  have Nf215 := Fr.app N0 Nq215
  have pre216 : ∀ t, Steps p.tables e below (T215.setTop (mkF m 28 #[.val (.ref a1), .val (.int nn), .val (.ref b)] [(.int (if nn < z then nn else z)), (.int (0 : Int32)), (.ref b), (.int (0 : Int32)), (.ref a1)])) t → Steps p.tables e below (s₁.setTop (entryFrame m #[(.ref a1), (.int nn)] 3)) t := by
    intro t kt
    refine pre0 t ?_
    show Steps p.tables e below (s₁.setTop (mkF m 0 #[.val (.ref a1), .val (.int nn), .unset] [])) _
    refine XS.iloadN X0.here hx rfl (hb hby d10_0) rfl ?_
    show Steps p.tables e below (s₁.setTop (mkF m 1 #[.val (.ref a1), .val (.int nn), .unset] [(.int nn)])) _
    refine XS.aloadN X0.here hx rfl (hb hby d10_1) rfl rfl ?_
    show Steps p.tables e below (s₁.setTop (mkF m 2 #[.val (.ref a1), .val (.int nn), .unset] [(.ref a1), (.int nn)])) _
    refine own_len X0 hx hZ e0 V1 (g := (mkF m 2 #[.val (.ref a1), .val (.int nn), .unset] [(.ref a1), (.int nn)])) rfl rfl (hb hby d10_2) _ ?_
    show Steps p.tables e below (s₁.setTop (mkF m 3 #[.val (.ref a1), .val (.int nn), .unset] [(.int z), (.int nn)])) _
    refine XS.icmpYes X0.here hx rfl (pc0 := 3) (pc' := 14) rfl (hb hby d10_3) rfl (feq (fun q => by rw [q, Int32.lt_iff_toInt_lt] at hnz; omega)).2 (by decide) (by decide) ?_
    show Steps p.tables e below (s₁.setTop (mkF m 14 #[.val (.ref a1), .val (.int nn), .unset] [])) _
    refine XS.iloadN X0.here hx rfl (hb hby d10_14) rfl ?_
    show Steps p.tables e below (s₁.setTop (mkF m 15 #[.val (.ref a1), .val (.int nn), .unset] [(.int nn)])) _
    refine st212 _ ?_
    show Steps p.tables e below (T212.setTop (mkF m 17 #[.val (.ref a1), .val (.int nn), .unset] [(.ref b)])) _
    refine XS.astoreN X212.here hx rfl (hb hby d10_17) rfl rfl (l' := #[.val (.ref a1), .val (.int nn), .val (.ref b)]) rfl ?_
    show Steps p.tables e below (T212.setTop (mkF m 18 #[.val (.ref a1), .val (.int nn), .val (.ref b)] [])) _
    refine XS.aloadN X212.here hx rfl (hb hby d10_18) rfl rfl ?_
    show Steps p.tables e below (T212.setTop (mkF m 19 #[.val (.ref a1), .val (.int nn), .val (.ref b)] [(.ref a1)])) _
    refine XS.iconst X212.here hx rfl (hb hby d10_19) ?_
    show Steps p.tables e below (T212.setTop (mkF m 20 #[.val (.ref a1), .val (.int nn), .val (.ref b)] [(.int (0 : Int32)), (.ref a1)])) _
    refine XS.aloadN X212.here hx rfl (hb hby d10_20) rfl rfl ?_
    show Steps p.tables e below (T212.setTop (mkF m 21 #[.val (.ref a1), .val (.int nn), .val (.ref b)] [(.ref b), (.int (0 : Int32)), (.ref a1)])) _
    refine XS.iconst X212.here hx rfl (hb hby d10_21) ?_
    show Steps p.tables e below (T212.setTop (mkF m 22 #[.val (.ref a1), .val (.int nn), .val (.ref b)] [(.int (0 : Int32)), (.ref b), (.int (0 : Int32)), (.ref a1)])) _
    refine XS.aloadN X212.here hx rfl (hb hby d10_22) rfl rfl ?_
    show Steps p.tables e below (T212.setTop (mkF m 23 #[.val (.ref a1), .val (.int nn), .val (.ref b)] [(.ref a1), (.int (0 : Int32)), (.ref b), (.int (0 : Int32)), (.ref a1)])) _
    refine own_len X212 hx hZ e212 f214 (g := (mkF m 23 #[.val (.ref a1), .val (.int nn), .val (.ref b)] [(.ref a1), (.int (0 : Int32)), (.ref b), (.int (0 : Int32)), (.ref a1)])) rfl rfl (hb hby d10_23) _ ?_
    show Steps p.tables e below (T212.setTop (mkF m 24 #[.val (.ref a1), .val (.int nn), .val (.ref b)] [(.int z), (.int (0 : Int32)), (.ref b), (.int (0 : Int32)), (.ref a1)])) _
    refine XS.iloadN X212.here hx rfl (hb hby d10_24) rfl ?_
    show Steps p.tables e below (T212.setTop (mkF m 25 #[.val (.ref a1), .val (.int nn), .val (.ref b)] [(.int nn), (.int z), (.int (0 : Int32)), (.ref b), (.int (0 : Int32)), (.ref a1)])) _
    refine st215 _ ?_
    exact kt
  have pre217 : ∀ t, Steps p.tables e below (T215.setTop (mkF m 28 #[.val (.ref a1), .val (.int nn), .val (.ref b)] [(.int nn), (.int (0 : Int32)), (.ref b), (.int (0 : Int32)), (.ref a1)])) t → Steps p.tables e below (s₁.setTop (entryFrame m #[(.ref a1), (.int nn)] 3)) t := by
    intro t kt
    have hsv : (if nn < z then nn else z) = nn := if_pos hnz
    refine pre216 t ?_
    rw [hsv]
    exact kt
  obtain ⟨T218, h218, L218, X218, e218, Nf218, Kq218, V218, st218⟩ := cpA X215 hx hZ hown (hw _ (List.mem_of_getElem? (i := 57) rfl)) (hw _ (List.mem_of_getElem? (i := 60) rfl)) (hw _ (List.mem_of_getElem? (i := 58) rfl)) (hw _ (List.mem_of_getElem? (i := 59) rfl)) eq215 (us := own_pre vs (.int (0 : Int32)) nn.toNatClampNeg) f214 V212 (Or.inl ⟨rfl, rfl⟩) (by decide) (by decide) hn0 (own_le hnz) (own_le' nn) rfl (by rw [List.nil_append, List.length_replicate]; exact own_le' nn) Nf215 g_b (g := (mkF m 28 #[.val (.ref a1), .val (.int nn), .val (.ref b)] [(.int nn), (.int (0 : Int32)), (.ref b), (.int (0 : Int32)), (.ref a1)])) rfl (by rw [hml]; rfl) rfl (hb hby d10_28) (by decide) (W := 0) (by show 2 * 0 + _ ≤ _; exact Nat.le_of_eq rfl) (by decide)
  have f219 := (f214.keep Kq218 (ninS ne213 nin0))
  have f220 := (Ax212.keep Kq218)
  have Z218 : n0 ≤ h218.size := Nat.le_trans Z212 Kq218.1
  have K218 : Keep h0 h218 [] := K212.trans Kq218 (allS (P := fun x => x ∈ ([] : List Addr) ∨ h0.size ≤ x) (Or.inr sz_b) all0)
  rw [own_conv] at V218
  have pre221 : ∀ t, Steps p.tables e below (T218.setTop (mkF m 32 #[.val (.ref a1), .val (.int nn), .val (.ref b)] [(.ref b)])) t → Steps p.tables e below (s₁.setTop (entryFrame m #[(.ref a1), (.int nn)] 3)) t := by
    intro t kt
    refine pre217 t ?_
    show Steps p.tables e below (T215.setTop (mkF m 28 #[.val (.ref a1), .val (.int nn), .val (.ref b)] [(.int nn), (.int (0 : Int32)), (.ref b), (.int (0 : Int32)), (.ref a1)])) _
    refine st218 _ ?_
    show Steps p.tables e below (T218.setTop (mkF m 31 #[.val (.ref a1), .val (.int nn), .val (.ref b)] [])) _
    refine XS.aloadN X218.here hx rfl (hb hby d10_31) rfl rfl ?_
    exact kt
  obtain ⟨fsx, hr, hrun, hended, hW, hsame⟩ := X218.leave (v := some (.ref b)) (fun h => by rw [Bd.returns] at h; cases h)
  refine ⟨_, _, pre221 _ ?_, hrun, hended, _, _, rfl, ?_, ⟨_, rfl⟩, hW, hsame.mono (by decide) (by decide)⟩
  · jvm_step X218.here [X218.here.top, hx, (hb hby d10_32), X218.method', Bd.returns, Value.isRef, FieldType.isReference]
    first | (intro acts; rw [hr _ acts rfl rfl rfl]) | rw [hr _ _ rfl rfl rfl]
    exact Steps.refl _
  · show Q4 Z a1 k1 z vs nn h0 n0 _ T218.heap _
    rw [e218]
    exact ⟨b, _, rfl, Nf218, K218, sz_b, V218⟩
theorem d9_0 : decode prog_32_method_8_code 0 = .ok (.aload_n 0, 1) := by decide +kernel
theorem d9_1 : decode prog_32_method_8_code 1 = .ok (.getfield 9, 3) := by decide +kernel
theorem d9_4 : decode prog_32_method_8_code 4 = .ok (.aload_n 0, 1) := by decide +kernel
theorem d9_5 : decode prog_32_method_8_code 5 = .ok (.getfield 24, 3) := by decide +kernel
theorem pd_3 : parseMethodDescriptor "([BI)[B" = some ⟨[(.array .byte), .int], some (.array .byte)⟩ := by decide +kernel
theorem d9_8 : decode prog_32_method_8_code 8 = .ok (.invokestatic 69, 3) := by decide +kernel
theorem d9_11 : decode prog_32_method_8_code 11 = .ok (.areturn, 1) := by decide +kernel
theorem ef_rmT (m : MethodId) (x0 : Addr) : entryFrame m #[(.ref x0)] 1 = mkF m 0 #[.val (.ref x0)] [] := by first | (simp [entryFrame, mkF, argsToLocals, Value.category]; done) | rfl
def QT (Z : State) (a1 : Addr) (bb : Addr) (k1 : ClassId) (vs : List Value) (i : Nat) (h0 : Heap) (n0 : Nat) (v : Option Value) (h : Heap) (L : List Loc) : Prop := ∃ (b : Addr) (kb : ClassId), v = some (.ref b) ∧ Fr n0 L ∧ Keep h0 h [] ∧ h0.size ≤ b ∧ Arv Z h b kb .byte (Int32.ofNat i) (own_pre vs (.int (0 : Int32)) i) (.int (0 : Int32))
set_option maxRecDepth 65536 in
set_option maxHeartbeats 40000000 in
theorem rmT (l : Launch) (Z : State) (a0 : Array Value) (hw : ∀ d ∈ tables_1, d.before a0 Z = true) (ws : List Jvm.Cond) (a1 : Addr) (bb : Addr) (k1 : ClassId) (vs : List Value) (i : Nat) (h0 : Heap) (n0 : Nat) (Z0 : n0 ≤ h0.size) (Fb : Fld Z h0 a1 "com/example/flex_actor/flexactor/core/FrameBuffer" "bytes" "[B" (.ref bb)) (Fs : Fld Z h0 a1 "com/example/flex_actor/flexactor/core/FrameBuffer" "size" "I" (.int (Int32.ofNat i))) (V1 : Arv Z h0 bb k1 .byte (8192 : Int32) vs (.int (0 : Int32))) (hi : i ≤ 16) :
    MetFree l (⟨"com/example/flex_actor/flexactor/core/FrameBuffer", "toByteArray", "()[B"⟩ : MethodName) (head1 (Jvm.Cond.code (⟨"com/example/flex_actor/flexactor/core/FrameBuffer", "toByteArray", "()[B"⟩ : MethodName) prog_32_method_8_code 1 (some (.array .byte)) :: ws) ({ frames := 2, cells := 1, slots := 16, locals := 32 } : Room)) (fun a U => a = #[(.ref a1)] ∧ Z.Warmed39 U.vm ∧ U.heap = h0) (fun _ _ _ _ _ => True) (fun _ U o U' => ∃ v L, o = .returned v ∧ QT Z a1 bb k1 vs i h0 n0 v U'.heap L ∧ FrameEnd U o U' L ({ frames := 2, cells := 1, slots := 16, locals := 32 } : Room).cells ({ frames := 2, cells := 1, slots := 16, locals := 32 } : Room).slots) := by
  refine MetFree.of_bodySF (plainFor_of_name pn_0) hisR ?_
  intro p e s m args below meth c s₁ Bd hml0 hP hK
  obtain ⟨rfl, hZ, hh⟩ := hP
  have hx := Bd.exec
  have hby := Bd.bytes
  have hml : c.maxLocals = 1 := hml0
  have hown : s.vm.findClass "com/example/flex_actor/flexactor/core/FrameBuffer" = some m.cls := findClass_of_methodNamed Bd.named
  have hnm := (name_of_methodNamed Bd.named Bd.method).1
  have X0 : Stand p l e ({ frames := 2, cells := 1, slots := 16, locals := 32 } : Room) s m #[(.ref a1)] below meth c s₁ [] 0 0 := Stand.of_body Bd
  have e0 : s₁.heap = h0 := by rw [← hh, Bd.state]; rfl
  have N0 := Fr.nil n0
  have pre0 : ∀ t, Steps p.tables e below (s₁.setTop (mkF m 0 #[.val (.ref a1)] [])) t → Steps p.tables e below (s₁.setTop (entryFrame m #[(.ref a1)] 1)) t := fun t k => castTop (ef_rmT m a1) k
  obtain ⟨T222, X222, e222, st222⟩ := getF X0 hx hZ hown (host := "") (Or.inl (hw _ (List.mem_of_getElem? (i := 10) rfl))) Via.refl e0 Fb (g := (mkF m 1 #[.val (.ref a1)] [(.ref a1)])) rfl rfl (hb hby d9_1)
  obtain ⟨T223, X223, e223, st223⟩ := getF X222 hx hZ hown (host := "") (Or.inl (hw _ (List.mem_of_getElem? (i := 23) rfl))) Via.refl e222 Fs (g := (mkF m 5 #[.val (.ref a1)] [(.ref a1), (.ref bb)])) rfl rfl (hb hby d9_5)
  obtain ⟨_, _, ⟨T224, L224, k224, n224⟩, -, X224, ⟨Lc224, hQ224, l224, y224, z224⟩, st224⟩ := Jvm.LawKit.callS X223 hx (y := (⟨"java/util/Arrays", "copyOf", "([BI)[B"⟩ : MethodName)) hown (mvT hZ (hw _ (List.mem_of_getElem? (i := 49) rfl))) (mvT hZ (hw _ (List.mem_of_getElem? (i := 50) rfl))) (mvT hZ (hw _ (List.mem_of_getElem? (i := 51) rfl))) (mvT hZ (hw _ (List.mem_of_getElem? (i := 52) rfl))) (by decide) (backOf (W := 0) (rm4 l Z a0 hw [] bb k1 (8192 : Int32) vs (Int32.ofNat i) h0 n0 Z0 V1 (own_j (by omega)).1 (own_j (by omega)).2 (by rw [own_jn (by omega)]; exact hi)) hZ (hw _ (List.mem_of_getElem? (i := 52) rfl)) (hw _ (List.mem_of_getElem? (i := 51) rfl)) (by decide) (by decide)) (g := (mkF m 8 #[.val (.ref a1)] [(.int (Int32.ofNat i)), (.ref bb)])) rfl (by rw [hml]; rfl) (argsL := [(.ref bb), (.int (Int32.ofNat i))]) (rest := []) (lenOf pd_3 rfl) rfl (by show 2 * 0 + _ ≤ _; exact Nat.le_of_eq rfl) (hb hby d9_8) (fun _ _ => ⟨rfl, e223, (by decide : 0 + 1 ≤ _), (by decide : 0 + 16 ≤ _)⟩)
  dsimp only [Pt.U, Pt.locs, Pt.cells, Pt.slots] at X224 l224 y224 z224 st224 hQ224
  subst l224 y224 z224
  obtain ⟨b, kb, rfl, Nq224, Kq224, szb, Vb⟩ := hQ224
  have f225 := (Fb.keep Kq224 nin0)
  have f226 := (Fs.keep Kq224 nin0)
  have f227 := (V1.keep Kq224 nin0)
  have Z224 : n0 ≤ T224.heap.size := Nat.le_trans Z0 Kq224.1
  have K224 : Keep h0 T224.heap [] := (Keep.refl h0 []).trans Kq224 all0
  have Nf224 := Fr.app N0 Nq224
  rw [own_jn (by omega)] at Vb
  have pre228 : ∀ t, Steps p.tables e below (T224.setTop (mkF m 11 #[.val (.ref a1)] [(.ref b)])) t → Steps p.tables e below (s₁.setTop (entryFrame m #[(.ref a1)] 1)) t := by
    intro t kt
    refine pre0 t ?_
    show Steps p.tables e below (s₁.setTop (mkF m 0 #[.val (.ref a1)] [])) _
    refine XS.aloadN X0.here hx rfl (hb hby d9_0) rfl rfl ?_
    show Steps p.tables e below (s₁.setTop (mkF m 1 #[.val (.ref a1)] [(.ref a1)])) _
    refine st222 _ ?_
    show Steps p.tables e below (T222.setTop (mkF m 4 #[.val (.ref a1)] [(.ref bb)])) _
    refine XS.aloadN X222.here hx rfl (hb hby d9_4) rfl rfl ?_
    show Steps p.tables e below (T222.setTop (mkF m 5 #[.val (.ref a1)] [(.ref a1), (.ref bb)])) _
    refine st223 _ ?_
    show Steps p.tables e below (T223.setTop (mkF m 8 #[.val (.ref a1)] [(.int (Int32.ofNat i)), (.ref bb)])) _
    refine st224 _ ?_
    exact kt
  obtain ⟨fsx, hr, hrun, hended, hW, hsame⟩ := X224.leave (v := some (.ref b)) (fun h => by rw [Bd.returns] at h; cases h)
  refine ⟨_, _, pre228 _ ?_, hrun, hended, _, _, rfl, ?_, ⟨_, rfl⟩, hW, hsame.mono (by decide) (by decide)⟩
  · jvm_step X224.here [X224.here.top, hx, (hb hby d9_11), X224.method', Bd.returns, Value.isRef, FieldType.isReference]
    first | (intro acts; rw [hr _ acts rfl rfl rfl]) | rw [hr _ _ rfl rfl rfl]
    exact Steps.refl _
  · show QT Z a1 bb k1 vs i h0 n0 _ T224.heap _
    skip
    exact ⟨b, kb, rfl, Nf224, K224, szb, Vb⟩
theorem d12_0 : decode method_3_code 0 = .ok (.iload_n 1, 1) := by decide +kernel
theorem d12_1 : decode method_3_code 1 = .ok (.iconst 1, 1) := by decide +kernel
theorem d12_2 : decode method_3_code 2 = .ok (.if_icmp .ne 50, 3) := by decide +kernel
theorem d12_52 : decode method_3_code 52 = .ok (.iload_n 1, 1) := by decide +kernel
theorem d12_53 : decode method_3_code 53 = .ok (.iconst 2, 1) := by decide +kernel
theorem d12_54 : decode method_3_code 54 = .ok (.if_icmp .ne 17, 3) := by decide +kernel
theorem d12_71 : decode method_3_code 71 = .ok (.iload_n 1, 1) := by decide +kernel
theorem d12_72 : decode method_3_code 72 = .ok (.iconst 3, 1) := by decide +kernel
theorem d12_73 : decode method_3_code 73 = .ok (.if_icmp .ne 42, 3) := by decide +kernel
theorem d12_115 : decode method_3_code 115 = .ok (.iconst 1, 1) := by decide +kernel
theorem d12_116 : decode method_3_code 116 = .ok (.ireturn, 1) := by decide +kernel
theorem pn_2 : plainName "com/example/flex_actor/flexactor/core/FrameBufferAbandonPinLaw" = true := by first | (simp [plainName, overriddenIn]; done) | decide +kernel
theorem ef_rmK0 (m : MethodId) (x0 : Addr) (x1 : Int32) (x2 : Int32) : entryFrame m #[(.ref x0), (.int x1), (.int x2)] 3 = mkF m 0 #[.val (.ref x0), .val (.int x1), .val (.int x2)] [] := by first | (simp [entryFrame, mkF, argsToLocals, Value.category]; done) | rfl
def QK0 (Z : State) (a1 : Addr) (k1 : ClassId) (cc : Int32) (p3 : Int32) (h0 : Heap) (n0 : Nat) (v : Option Value) (h : Heap) (L : List Loc) : Prop := v = some (.int 1) ∧ Fr n0 L ∧ h = h0
set_option maxRecDepth 65536 in
set_option maxHeartbeats 40000000 in
theorem rmK0 (l : Launch) (Z : State) (a0 : Array Value) (hw : ∀ d ∈ tables_1, d.before a0 Z = true) (ws : List Jvm.Cond) (a1 : Addr) (k1 : ClassId) (cc : Int32) (p3 : Int32) (h0 : Heap) (n0 : Nat) (Z0 : n0 ≤ h0.size) (V1 : Arv Z h0 a1 k1 .byte (1 : Int32) [(.int cc)] (.int (0 : Int32))) :
    MetFree l (⟨"com/example/flex_actor/flexactor/core/FrameBufferAbandonPinLaw", "prefixOk", "([BII)Z"⟩ : MethodName) (head1 (Jvm.Cond.code (⟨"com/example/flex_actor/flexactor/core/FrameBufferAbandonPinLaw", "prefixOk", "([BII)Z"⟩ : MethodName) method_3_code 3 (some .boolean) :: ws) ({ frames := 0, cells := 0, slots := 0, locals := 0 } : Room)) (fun a U => a = #[(.ref a1), (.int (0 : Int32)), (.int p3)] ∧ Z.Warmed39 U.vm ∧ U.heap = h0) (fun _ _ _ _ _ => True) (fun _ U o U' => ∃ v L, o = .returned v ∧ QK0 Z a1 k1 cc p3 h0 n0 v U'.heap L ∧ FrameEnd U o U' L ({ frames := 0, cells := 0, slots := 0, locals := 0 } : Room).cells ({ frames := 0, cells := 0, slots := 0, locals := 0 } : Room).slots) := by
  refine MetFree.of_bodySF (plainFor_of_name pn_2) hisR ?_
  intro p e s m args below meth c s₁ Bd hml0 hP hK
  obtain ⟨rfl, hZ, hh⟩ := hP
  have hx := Bd.exec
  have hby := Bd.bytes
  have hml : c.maxLocals = 3 := hml0
  have hown : s.vm.findClass "com/example/flex_actor/flexactor/core/FrameBufferAbandonPinLaw" = some m.cls := findClass_of_methodNamed Bd.named
  have hnm := (name_of_methodNamed Bd.named Bd.method).1
  have X0 : Stand p l e ({ frames := 0, cells := 0, slots := 0, locals := 0 } : Room) s m #[(.ref a1), (.int (0 : Int32)), (.int p3)] below meth c s₁ [] 0 0 := Stand.of_body Bd
  have e0 : s₁.heap = h0 := by rw [← hh, Bd.state]; rfl
  have N0 := Fr.nil n0
  have pre0 : ∀ t, Steps p.tables e below (s₁.setTop (mkF m 0 #[.val (.ref a1), .val (.int (0 : Int32)), .val (.int p3)] [])) t → Steps p.tables e below (s₁.setTop (entryFrame m #[(.ref a1), (.int (0 : Int32)), (.int p3)] 3)) t := fun t k => castTop (ef_rmK0 m a1 (0 : Int32) p3) k
  have pre229 : ∀ t, Steps p.tables e below (s₁.setTop (mkF m 116 #[.val (.ref a1), .val (.int (0 : Int32)), .val (.int p3)] [(.int (1 : Int32))])) t → Steps p.tables e below (s₁.setTop (entryFrame m #[(.ref a1), (.int (0 : Int32)), (.int p3)] 3)) t := by
    intro t kt
    refine pre0 t ?_
    show Steps p.tables e below (s₁.setTop (mkF m 0 #[.val (.ref a1), .val (.int (0 : Int32)), .val (.int p3)] [])) _
    refine XS.iloadN X0.here hx rfl (hb hby d12_0) rfl ?_
    show Steps p.tables e below (s₁.setTop (mkF m 1 #[.val (.ref a1), .val (.int (0 : Int32)), .val (.int p3)] [(.int (0 : Int32))])) _
    refine XS.iconst X0.here hx rfl (hb hby d12_1) ?_
    show Steps p.tables e below (s₁.setTop (mkF m 2 #[.val (.ref a1), .val (.int (0 : Int32)), .val (.int p3)] [(.int (1 : Int32)), (.int (0 : Int32))])) _
    refine XS.icmpYes X0.here hx rfl (pc0 := 2) (pc' := 52) rfl (hb hby d12_2) rfl (feq (by decide)).2 (by decide) (by decide) ?_
    show Steps p.tables e below (s₁.setTop (mkF m 52 #[.val (.ref a1), .val (.int (0 : Int32)), .val (.int p3)] [])) _
    refine XS.iloadN X0.here hx rfl (hb hby d12_52) rfl ?_
    show Steps p.tables e below (s₁.setTop (mkF m 53 #[.val (.ref a1), .val (.int (0 : Int32)), .val (.int p3)] [(.int (0 : Int32))])) _
    refine XS.iconst X0.here hx rfl (hb hby d12_53) ?_
    show Steps p.tables e below (s₁.setTop (mkF m 54 #[.val (.ref a1), .val (.int (0 : Int32)), .val (.int p3)] [(.int (2 : Int32)), (.int (0 : Int32))])) _
    refine XS.icmpYes X0.here hx rfl (pc0 := 54) (pc' := 71) rfl (hb hby d12_54) rfl (feq (by decide)).2 (by decide) (by decide) ?_
    show Steps p.tables e below (s₁.setTop (mkF m 71 #[.val (.ref a1), .val (.int (0 : Int32)), .val (.int p3)] [])) _
    refine XS.iloadN X0.here hx rfl (hb hby d12_71) rfl ?_
    show Steps p.tables e below (s₁.setTop (mkF m 72 #[.val (.ref a1), .val (.int (0 : Int32)), .val (.int p3)] [(.int (0 : Int32))])) _
    refine XS.iconst X0.here hx rfl (hb hby d12_72) ?_
    show Steps p.tables e below (s₁.setTop (mkF m 73 #[.val (.ref a1), .val (.int (0 : Int32)), .val (.int p3)] [(.int (3 : Int32)), (.int (0 : Int32))])) _
    refine XS.icmpYes X0.here hx rfl (pc0 := 73) (pc' := 115) rfl (hb hby d12_73) rfl (feq (by decide)).2 (by decide) (by decide) ?_
    show Steps p.tables e below (s₁.setTop (mkF m 115 #[.val (.ref a1), .val (.int (0 : Int32)), .val (.int p3)] [])) _
    refine XS.iconst X0.here hx rfl (hb hby d12_115) ?_
    exact kt
  obtain ⟨fsx, hr, hrun, hended, hW, hsame⟩ := X0.leave (v := some (.int (nar .boolean (1 : Int32)))) (fun h => by rw [Bd.returns] at h; cases h)
  refine ⟨_, _, pre229 _ ?_, hrun, hended, _, _, rfl, ?_, ⟨_, rfl⟩, hW, hsame.mono (by decide) (by decide)⟩
  · exact retN X0 hx (t := .boolean) Bd.returns (by simp) (hb hby d12_116) hr
  · show QK0 Z a1 k1 cc p3 h0 n0 _ s₁.heap _
    rw [e0]
    exact ⟨rfl, N0, rfl⟩
theorem d12_5 : decode method_3_code 5 = .ok (.aload_n 0, 1) := by decide +kernel
theorem d12_6 : decode method_3_code 6 = .ok (.iconst 0, 1) := by decide +kernel
theorem d12_7 : decode method_3_code 7 = .ok (.baload, 1) := by decide +kernel
theorem d12_8 : decode method_3_code 8 = .ok (.iload_n 2, 1) := by decide +kernel
theorem d12_9 : decode method_3_code 9 = .ok (.bipush 24, 2) := by decide +kernel
theorem d12_11 : decode method_3_code 11 = .ok (.iushr, 1) := by decide +kernel
theorem d12_12 : decode method_3_code 12 = .ok (.i2b, 1) := by decide +kernel
theorem d12_13 : decode method_3_code 13 = .ok (.if_icmp .ne 37, 3) := by decide +kernel
theorem d12_16 : decode method_3_code 16 = .ok (.aload_n 0, 1) := by decide +kernel
theorem d12_17 : decode method_3_code 17 = .ok (.iconst 1, 1) := by decide +kernel
theorem d12_18 : decode method_3_code 18 = .ok (.baload, 1) := by decide +kernel
theorem d12_19 : decode method_3_code 19 = .ok (.iload_n 2, 1) := by decide +kernel
theorem d12_20 : decode method_3_code 20 = .ok (.bipush 16, 2) := by decide +kernel
theorem d12_22 : decode method_3_code 22 = .ok (.iushr, 1) := by decide +kernel
theorem d12_23 : decode method_3_code 23 = .ok (.i2b, 1) := by decide +kernel
theorem d12_24 : decode method_3_code 24 = .ok (.if_icmp .ne 26, 3) := by decide +kernel
theorem d12_27 : decode method_3_code 27 = .ok (.aload_n 0, 1) := by decide +kernel
theorem d12_28 : decode method_3_code 28 = .ok (.iconst 2, 1) := by decide +kernel
theorem d12_29 : decode method_3_code 29 = .ok (.baload, 1) := by decide +kernel
theorem d12_30 : decode method_3_code 30 = .ok (.iload_n 2, 1) := by decide +kernel
theorem d12_31 : decode method_3_code 31 = .ok (.bipush 8, 2) := by decide +kernel
theorem d12_33 : decode method_3_code 33 = .ok (.iushr, 1) := by decide +kernel
theorem d12_34 : decode method_3_code 34 = .ok (.i2b, 1) := by decide +kernel
theorem d12_35 : decode method_3_code 35 = .ok (.if_icmp .ne 15, 3) := by decide +kernel
theorem d12_38 : decode method_3_code 38 = .ok (.aload_n 0, 1) := by decide +kernel
theorem d12_39 : decode method_3_code 39 = .ok (.iconst 3, 1) := by decide +kernel
theorem d12_40 : decode method_3_code 40 = .ok (.baload, 1) := by decide +kernel
theorem d12_41 : decode method_3_code 41 = .ok (.iload_n 2, 1) := by decide +kernel
theorem d12_42 : decode method_3_code 42 = .ok (.i2b, 1) := by decide +kernel
theorem d12_43 : decode method_3_code 43 = .ok (.if_icmp .ne 7, 3) := by decide +kernel
theorem d12_46 : decode method_3_code 46 = .ok (.iconst 1, 1) := by decide +kernel
theorem d12_47 : decode method_3_code 47 = .ok (.goto 4, 3) := by decide +kernel
theorem d12_51 : decode method_3_code 51 = .ok (.ireturn, 1) := by decide +kernel
theorem ef_rmK1 (m : MethodId) (x0 : Addr) (x1 : Int32) (x2 : Int32) : entryFrame m #[(.ref x0), (.int x1), (.int x2)] 3 = mkF m 0 #[.val (.ref x0), .val (.int x1), .val (.int x2)] [] := by first | (simp [entryFrame, mkF, argsToLocals, Value.category]; done) | rfl
def QK1 (Z : State) (a1 : Addr) (k1 : ClassId) (cc : Int32) (p3 : Int32) (h0 : Heap) (n0 : Nat) (v : Option Value) (h : Heap) (L : List Loc) : Prop := v = some (.int 1) ∧ Fr n0 L ∧ h = h0
set_option maxRecDepth 65536 in
set_option maxHeartbeats 40000000 in
theorem rmK1 (l : Launch) (Z : State) (a0 : Array Value) (hw : ∀ d ∈ tables_1, d.before a0 Z = true) (ws : List Jvm.Cond) (a1 : Addr) (k1 : ClassId) (cc : Int32) (p3 : Int32) (h0 : Heap) (n0 : Nat) (Z0 : n0 ≤ h0.size) (V1 : Arv Z h0 a1 k1 .byte (5 : Int32) [(.int (((p3.toUInt32 >>> ((24 : Int32) &&& 31).toUInt32).toInt32).toInt8.toInt32)), (.int (((p3.toUInt32 >>> ((16 : Int32) &&& 31).toUInt32).toInt32).toInt8.toInt32)), (.int (((p3.toUInt32 >>> ((8 : Int32) &&& 31).toUInt32).toInt32).toInt8.toInt32)), (.int (p3.toInt8.toInt32)), (.int cc)] (.int (0 : Int32))) :
    MetFree l (⟨"com/example/flex_actor/flexactor/core/FrameBufferAbandonPinLaw", "prefixOk", "([BII)Z"⟩ : MethodName) (head1 (Jvm.Cond.code (⟨"com/example/flex_actor/flexactor/core/FrameBufferAbandonPinLaw", "prefixOk", "([BII)Z"⟩ : MethodName) method_3_code 3 (some .boolean) :: ws) ({ frames := 0, cells := 0, slots := 0, locals := 0 } : Room)) (fun a U => a = #[(.ref a1), (.int (1 : Int32)), (.int p3)] ∧ Z.Warmed39 U.vm ∧ U.heap = h0) (fun _ _ _ _ _ => True) (fun _ U o U' => ∃ v L, o = .returned v ∧ QK1 Z a1 k1 cc p3 h0 n0 v U'.heap L ∧ FrameEnd U o U' L ({ frames := 0, cells := 0, slots := 0, locals := 0 } : Room).cells ({ frames := 0, cells := 0, slots := 0, locals := 0 } : Room).slots) := by
  refine MetFree.of_bodySF (plainFor_of_name pn_2) hisR ?_
  intro p e s m args below meth c s₁ Bd hml0 hP hK
  obtain ⟨rfl, hZ, hh⟩ := hP
  have hx := Bd.exec
  have hby := Bd.bytes
  have hml : c.maxLocals = 3 := hml0
  have hown : s.vm.findClass "com/example/flex_actor/flexactor/core/FrameBufferAbandonPinLaw" = some m.cls := findClass_of_methodNamed Bd.named
  have hnm := (name_of_methodNamed Bd.named Bd.method).1
  have X0 : Stand p l e ({ frames := 0, cells := 0, slots := 0, locals := 0 } : Room) s m #[(.ref a1), (.int (1 : Int32)), (.int p3)] below meth c s₁ [] 0 0 := Stand.of_body Bd
  have e0 : s₁.heap = h0 := by rw [← hh, Bd.state]; rfl
  have N0 := Fr.nil n0
  have pre0 : ∀ t, Steps p.tables e below (s₁.setTop (mkF m 0 #[.val (.ref a1), .val (.int (1 : Int32)), .val (.int p3)] [])) t → Steps p.tables e below (s₁.setTop (entryFrame m #[(.ref a1), (.int (1 : Int32)), (.int p3)] 3)) t := fun t k => castTop (ef_rmK1 m a1 (1 : Int32) p3) k
  have pre230 : ∀ t, Steps p.tables e below (s₁.setTop (mkF m 51 #[.val (.ref a1), .val (.int (1 : Int32)), .val (.int p3)] [(.int (1 : Int32))])) t → Steps p.tables e below (s₁.setTop (entryFrame m #[(.ref a1), (.int (1 : Int32)), (.int p3)] 3)) t := by
    intro t kt
    refine pre0 t ?_
    show Steps p.tables e below (s₁.setTop (mkF m 0 #[.val (.ref a1), .val (.int (1 : Int32)), .val (.int p3)] [])) _
    refine XS.iloadN X0.here hx rfl (hb hby d12_0) rfl ?_
    show Steps p.tables e below (s₁.setTop (mkF m 1 #[.val (.ref a1), .val (.int (1 : Int32)), .val (.int p3)] [(.int (1 : Int32))])) _
    refine XS.iconst X0.here hx rfl (hb hby d12_1) ?_
    show Steps p.tables e below (s₁.setTop (mkF m 2 #[.val (.ref a1), .val (.int (1 : Int32)), .val (.int p3)] [(.int (1 : Int32)), (.int (1 : Int32))])) _
    refine XS.icmpNo X0.here hx rfl (hb hby d12_2) rfl (teq (by decide)).2 ?_
    show Steps p.tables e below (s₁.setTop (mkF m 5 #[.val (.ref a1), .val (.int (1 : Int32)), .val (.int p3)] [])) _
    refine XS.aloadN X0.here hx rfl (hb hby d12_5) rfl rfl ?_
    show Steps p.tables e below (s₁.setTop (mkF m 6 #[.val (.ref a1), .val (.int (1 : Int32)), .val (.int p3)] [(.ref a1)])) _
    refine XS.iconst X0.here hx rfl (hb hby d12_6) ?_
    show Steps p.tables e below (s₁.setTop (mkF m 7 #[.val (.ref a1), .val (.int (1 : Int32)), .val (.int p3)] [(.int (0 : Int32)), (.ref a1)])) _
    refine own_bal X0 hx hZ e0 V1 (j := (0 : Int32)) ⟨by decide, by decide⟩ (v := (.int (((p3.toUInt32 >>> ((24 : Int32) &&& 31).toUInt32).toInt32).toInt8.toInt32))) rfl (g := (mkF m 7 #[.val (.ref a1), .val (.int (1 : Int32)), .val (.int p3)] [(.int (0 : Int32)), (.ref a1)])) rfl rfl (hb hby d12_7) _ ?_
    show Steps p.tables e below (s₁.setTop (mkF m 8 #[.val (.ref a1), .val (.int (1 : Int32)), .val (.int p3)] [(.int (((p3.toUInt32 >>> ((24 : Int32) &&& 31).toUInt32).toInt32).toInt8.toInt32))])) _
    refine XS.iloadN X0.here hx rfl (hb hby d12_8) rfl ?_
    show Steps p.tables e below (s₁.setTop (mkF m 9 #[.val (.ref a1), .val (.int (1 : Int32)), .val (.int p3)] [(.int p3), (.int (((p3.toUInt32 >>> ((24 : Int32) &&& 31).toUInt32).toInt32).toInt8.toInt32))])) _
    refine XS.bipush X0.here hx rfl (hb hby d12_9) ?_
    show Steps p.tables e below (s₁.setTop (mkF m 11 #[.val (.ref a1), .val (.int (1 : Int32)), .val (.int p3)] [(.int (24 : Int32)), (.int p3), (.int (((p3.toUInt32 >>> ((24 : Int32) &&& 31).toUInt32).toInt32).toInt8.toInt32))])) _
    refine XS.iushr X0.here hx rfl (hb hby d12_11) rfl ?_
    show Steps p.tables e below (s₁.setTop (mkF m 12 #[.val (.ref a1), .val (.int (1 : Int32)), .val (.int p3)] [(.int ((p3.toUInt32 >>> ((24 : Int32) &&& 31).toUInt32).toInt32)), (.int (((p3.toUInt32 >>> ((24 : Int32) &&& 31).toUInt32).toInt32).toInt8.toInt32))])) _
    refine XS.i2b X0.here hx rfl (hb hby d12_12) rfl ?_
    show Steps p.tables e below (s₁.setTop (mkF m 13 #[.val (.ref a1), .val (.int (1 : Int32)), .val (.int p3)] [(.int (((p3.toUInt32 >>> ((24 : Int32) &&& 31).toUInt32).toInt32).toInt8.toInt32)), (.int (((p3.toUInt32 >>> ((24 : Int32) &&& 31).toUInt32).toInt32).toInt8.toInt32))])) _
    refine XS.icmpNo X0.here hx rfl (hb hby d12_13) rfl (teq rfl).2 ?_
    show Steps p.tables e below (s₁.setTop (mkF m 16 #[.val (.ref a1), .val (.int (1 : Int32)), .val (.int p3)] [])) _
    refine XS.aloadN X0.here hx rfl (hb hby d12_16) rfl rfl ?_
    show Steps p.tables e below (s₁.setTop (mkF m 17 #[.val (.ref a1), .val (.int (1 : Int32)), .val (.int p3)] [(.ref a1)])) _
    refine XS.iconst X0.here hx rfl (hb hby d12_17) ?_
    show Steps p.tables e below (s₁.setTop (mkF m 18 #[.val (.ref a1), .val (.int (1 : Int32)), .val (.int p3)] [(.int (1 : Int32)), (.ref a1)])) _
    refine own_bal X0 hx hZ e0 V1 (j := (1 : Int32)) ⟨by decide, by decide⟩ (v := (.int (((p3.toUInt32 >>> ((16 : Int32) &&& 31).toUInt32).toInt32).toInt8.toInt32))) rfl (g := (mkF m 18 #[.val (.ref a1), .val (.int (1 : Int32)), .val (.int p3)] [(.int (1 : Int32)), (.ref a1)])) rfl rfl (hb hby d12_18) _ ?_
    show Steps p.tables e below (s₁.setTop (mkF m 19 #[.val (.ref a1), .val (.int (1 : Int32)), .val (.int p3)] [(.int (((p3.toUInt32 >>> ((16 : Int32) &&& 31).toUInt32).toInt32).toInt8.toInt32))])) _
    refine XS.iloadN X0.here hx rfl (hb hby d12_19) rfl ?_
    show Steps p.tables e below (s₁.setTop (mkF m 20 #[.val (.ref a1), .val (.int (1 : Int32)), .val (.int p3)] [(.int p3), (.int (((p3.toUInt32 >>> ((16 : Int32) &&& 31).toUInt32).toInt32).toInt8.toInt32))])) _
    refine XS.bipush X0.here hx rfl (hb hby d12_20) ?_
    show Steps p.tables e below (s₁.setTop (mkF m 22 #[.val (.ref a1), .val (.int (1 : Int32)), .val (.int p3)] [(.int (16 : Int32)), (.int p3), (.int (((p3.toUInt32 >>> ((16 : Int32) &&& 31).toUInt32).toInt32).toInt8.toInt32))])) _
    refine XS.iushr X0.here hx rfl (hb hby d12_22) rfl ?_
    show Steps p.tables e below (s₁.setTop (mkF m 23 #[.val (.ref a1), .val (.int (1 : Int32)), .val (.int p3)] [(.int ((p3.toUInt32 >>> ((16 : Int32) &&& 31).toUInt32).toInt32)), (.int (((p3.toUInt32 >>> ((16 : Int32) &&& 31).toUInt32).toInt32).toInt8.toInt32))])) _
    refine XS.i2b X0.here hx rfl (hb hby d12_23) rfl ?_
    show Steps p.tables e below (s₁.setTop (mkF m 24 #[.val (.ref a1), .val (.int (1 : Int32)), .val (.int p3)] [(.int (((p3.toUInt32 >>> ((16 : Int32) &&& 31).toUInt32).toInt32).toInt8.toInt32)), (.int (((p3.toUInt32 >>> ((16 : Int32) &&& 31).toUInt32).toInt32).toInt8.toInt32))])) _
    refine XS.icmpNo X0.here hx rfl (hb hby d12_24) rfl (teq rfl).2 ?_
    show Steps p.tables e below (s₁.setTop (mkF m 27 #[.val (.ref a1), .val (.int (1 : Int32)), .val (.int p3)] [])) _
    refine XS.aloadN X0.here hx rfl (hb hby d12_27) rfl rfl ?_
    show Steps p.tables e below (s₁.setTop (mkF m 28 #[.val (.ref a1), .val (.int (1 : Int32)), .val (.int p3)] [(.ref a1)])) _
    refine XS.iconst X0.here hx rfl (hb hby d12_28) ?_
    show Steps p.tables e below (s₁.setTop (mkF m 29 #[.val (.ref a1), .val (.int (1 : Int32)), .val (.int p3)] [(.int (2 : Int32)), (.ref a1)])) _
    refine own_bal X0 hx hZ e0 V1 (j := (2 : Int32)) ⟨by decide, by decide⟩ (v := (.int (((p3.toUInt32 >>> ((8 : Int32) &&& 31).toUInt32).toInt32).toInt8.toInt32))) rfl (g := (mkF m 29 #[.val (.ref a1), .val (.int (1 : Int32)), .val (.int p3)] [(.int (2 : Int32)), (.ref a1)])) rfl rfl (hb hby d12_29) _ ?_
    show Steps p.tables e below (s₁.setTop (mkF m 30 #[.val (.ref a1), .val (.int (1 : Int32)), .val (.int p3)] [(.int (((p3.toUInt32 >>> ((8 : Int32) &&& 31).toUInt32).toInt32).toInt8.toInt32))])) _
    refine XS.iloadN X0.here hx rfl (hb hby d12_30) rfl ?_
    show Steps p.tables e below (s₁.setTop (mkF m 31 #[.val (.ref a1), .val (.int (1 : Int32)), .val (.int p3)] [(.int p3), (.int (((p3.toUInt32 >>> ((8 : Int32) &&& 31).toUInt32).toInt32).toInt8.toInt32))])) _
    refine XS.bipush X0.here hx rfl (hb hby d12_31) ?_
    show Steps p.tables e below (s₁.setTop (mkF m 33 #[.val (.ref a1), .val (.int (1 : Int32)), .val (.int p3)] [(.int (8 : Int32)), (.int p3), (.int (((p3.toUInt32 >>> ((8 : Int32) &&& 31).toUInt32).toInt32).toInt8.toInt32))])) _
    refine XS.iushr X0.here hx rfl (hb hby d12_33) rfl ?_
    show Steps p.tables e below (s₁.setTop (mkF m 34 #[.val (.ref a1), .val (.int (1 : Int32)), .val (.int p3)] [(.int ((p3.toUInt32 >>> ((8 : Int32) &&& 31).toUInt32).toInt32)), (.int (((p3.toUInt32 >>> ((8 : Int32) &&& 31).toUInt32).toInt32).toInt8.toInt32))])) _
    refine XS.i2b X0.here hx rfl (hb hby d12_34) rfl ?_
    show Steps p.tables e below (s₁.setTop (mkF m 35 #[.val (.ref a1), .val (.int (1 : Int32)), .val (.int p3)] [(.int (((p3.toUInt32 >>> ((8 : Int32) &&& 31).toUInt32).toInt32).toInt8.toInt32)), (.int (((p3.toUInt32 >>> ((8 : Int32) &&& 31).toUInt32).toInt32).toInt8.toInt32))])) _
    refine XS.icmpNo X0.here hx rfl (hb hby d12_35) rfl (teq rfl).2 ?_
    show Steps p.tables e below (s₁.setTop (mkF m 38 #[.val (.ref a1), .val (.int (1 : Int32)), .val (.int p3)] [])) _
    refine XS.aloadN X0.here hx rfl (hb hby d12_38) rfl rfl ?_
    show Steps p.tables e below (s₁.setTop (mkF m 39 #[.val (.ref a1), .val (.int (1 : Int32)), .val (.int p3)] [(.ref a1)])) _
    refine XS.iconst X0.here hx rfl (hb hby d12_39) ?_
    show Steps p.tables e below (s₁.setTop (mkF m 40 #[.val (.ref a1), .val (.int (1 : Int32)), .val (.int p3)] [(.int (3 : Int32)), (.ref a1)])) _
    refine own_bal X0 hx hZ e0 V1 (j := (3 : Int32)) ⟨by decide, by decide⟩ (v := (.int (p3.toInt8.toInt32))) rfl (g := (mkF m 40 #[.val (.ref a1), .val (.int (1 : Int32)), .val (.int p3)] [(.int (3 : Int32)), (.ref a1)])) rfl rfl (hb hby d12_40) _ ?_
    show Steps p.tables e below (s₁.setTop (mkF m 41 #[.val (.ref a1), .val (.int (1 : Int32)), .val (.int p3)] [(.int (p3.toInt8.toInt32))])) _
    refine XS.iloadN X0.here hx rfl (hb hby d12_41) rfl ?_
    show Steps p.tables e below (s₁.setTop (mkF m 42 #[.val (.ref a1), .val (.int (1 : Int32)), .val (.int p3)] [(.int p3), (.int (p3.toInt8.toInt32))])) _
    refine XS.i2b X0.here hx rfl (hb hby d12_42) rfl ?_
    show Steps p.tables e below (s₁.setTop (mkF m 43 #[.val (.ref a1), .val (.int (1 : Int32)), .val (.int p3)] [(.int (p3.toInt8.toInt32)), (.int (p3.toInt8.toInt32))])) _
    refine XS.icmpNo X0.here hx rfl (hb hby d12_43) rfl (teq rfl).2 ?_
    show Steps p.tables e below (s₁.setTop (mkF m 46 #[.val (.ref a1), .val (.int (1 : Int32)), .val (.int p3)] [])) _
    refine XS.iconst X0.here hx rfl (hb hby d12_46) ?_
    show Steps p.tables e below (s₁.setTop (mkF m 47 #[.val (.ref a1), .val (.int (1 : Int32)), .val (.int p3)] [(.int (1 : Int32))])) _
    refine XS.goto X0.here hx rfl (pc0 := 47) (pc' := 51) rfl (hb hby d12_47) (by decide) (by decide) ?_
    exact kt
  obtain ⟨fsx, hr, hrun, hended, hW, hsame⟩ := X0.leave (v := some (.int (nar .boolean (1 : Int32)))) (fun h => by rw [Bd.returns] at h; cases h)
  refine ⟨_, _, pre230 _ ?_, hrun, hended, _, _, rfl, ?_, ⟨_, rfl⟩, hW, hsame.mono (by decide) (by decide)⟩
  · exact retN X0 hx (t := .boolean) Bd.returns (by simp) (hb hby d12_51) hr
  · show QK1 Z a1 k1 cc p3 h0 n0 _ s₁.heap _
    rw [e0]
    exact ⟨rfl, N0, rfl⟩
theorem d12_57 : decode method_3_code 57 = .ok (.aload_n 0, 1) := by decide +kernel
theorem d12_58 : decode method_3_code 58 = .ok (.iconst 0, 1) := by decide +kernel
theorem d12_59 : decode method_3_code 59 = .ok (.baload, 1) := by decide +kernel
theorem d12_60 : decode method_3_code 60 = .ok (.iload_n 2, 1) := by decide +kernel
theorem d12_61 : decode method_3_code 61 = .ok (.i2b, 1) := by decide +kernel
theorem d12_62 : decode method_3_code 62 = .ok (.if_icmp .ne 7, 3) := by decide +kernel
theorem d12_65 : decode method_3_code 65 = .ok (.iconst 1, 1) := by decide +kernel
theorem d12_66 : decode method_3_code 66 = .ok (.goto 4, 3) := by decide +kernel
theorem d12_70 : decode method_3_code 70 = .ok (.ireturn, 1) := by decide +kernel
theorem ef_rmK2 (m : MethodId) (x0 : Addr) (x1 : Int32) (x2 : Int32) : entryFrame m #[(.ref x0), (.int x1), (.int x2)] 3 = mkF m 0 #[.val (.ref x0), .val (.int x1), .val (.int x2)] [] := by first | (simp [entryFrame, mkF, argsToLocals, Value.category]; done) | rfl
def QK2 (Z : State) (a1 : Addr) (k1 : ClassId) (cc : Int32) (p3 : Int32) (h0 : Heap) (n0 : Nat) (v : Option Value) (h : Heap) (L : List Loc) : Prop := v = some (.int 1) ∧ Fr n0 L ∧ h = h0
set_option maxRecDepth 65536 in
set_option maxHeartbeats 40000000 in
theorem rmK2 (l : Launch) (Z : State) (a0 : Array Value) (hw : ∀ d ∈ tables_1, d.before a0 Z = true) (ws : List Jvm.Cond) (a1 : Addr) (k1 : ClassId) (cc : Int32) (p3 : Int32) (h0 : Heap) (n0 : Nat) (Z0 : n0 ≤ h0.size) (V1 : Arv Z h0 a1 k1 .byte (2 : Int32) [(.int (p3.toInt8.toInt32)), (.int cc)] (.int (0 : Int32))) :
    MetFree l (⟨"com/example/flex_actor/flexactor/core/FrameBufferAbandonPinLaw", "prefixOk", "([BII)Z"⟩ : MethodName) (head1 (Jvm.Cond.code (⟨"com/example/flex_actor/flexactor/core/FrameBufferAbandonPinLaw", "prefixOk", "([BII)Z"⟩ : MethodName) method_3_code 3 (some .boolean) :: ws) ({ frames := 0, cells := 0, slots := 0, locals := 0 } : Room)) (fun a U => a = #[(.ref a1), (.int (2 : Int32)), (.int p3)] ∧ Z.Warmed39 U.vm ∧ U.heap = h0) (fun _ _ _ _ _ => True) (fun _ U o U' => ∃ v L, o = .returned v ∧ QK2 Z a1 k1 cc p3 h0 n0 v U'.heap L ∧ FrameEnd U o U' L ({ frames := 0, cells := 0, slots := 0, locals := 0 } : Room).cells ({ frames := 0, cells := 0, slots := 0, locals := 0 } : Room).slots) := by
  refine MetFree.of_bodySF (plainFor_of_name pn_2) hisR ?_
  intro p e s m args below meth c s₁ Bd hml0 hP hK
  obtain ⟨rfl, hZ, hh⟩ := hP
  have hx := Bd.exec
  have hby := Bd.bytes
  have hml : c.maxLocals = 3 := hml0
  have hown : s.vm.findClass "com/example/flex_actor/flexactor/core/FrameBufferAbandonPinLaw" = some m.cls := findClass_of_methodNamed Bd.named
  have hnm := (name_of_methodNamed Bd.named Bd.method).1
  have X0 : Stand p l e ({ frames := 0, cells := 0, slots := 0, locals := 0 } : Room) s m #[(.ref a1), (.int (2 : Int32)), (.int p3)] below meth c s₁ [] 0 0 := Stand.of_body Bd
  have e0 : s₁.heap = h0 := by rw [← hh, Bd.state]; rfl
  have N0 := Fr.nil n0
  have pre0 : ∀ t, Steps p.tables e below (s₁.setTop (mkF m 0 #[.val (.ref a1), .val (.int (2 : Int32)), .val (.int p3)] [])) t → Steps p.tables e below (s₁.setTop (entryFrame m #[(.ref a1), (.int (2 : Int32)), (.int p3)] 3)) t := fun t k => castTop (ef_rmK2 m a1 (2 : Int32) p3) k
  have pre231 : ∀ t, Steps p.tables e below (s₁.setTop (mkF m 70 #[.val (.ref a1), .val (.int (2 : Int32)), .val (.int p3)] [(.int (1 : Int32))])) t → Steps p.tables e below (s₁.setTop (entryFrame m #[(.ref a1), (.int (2 : Int32)), (.int p3)] 3)) t := by
    intro t kt
    refine pre0 t ?_
    show Steps p.tables e below (s₁.setTop (mkF m 0 #[.val (.ref a1), .val (.int (2 : Int32)), .val (.int p3)] [])) _
    refine XS.iloadN X0.here hx rfl (hb hby d12_0) rfl ?_
    show Steps p.tables e below (s₁.setTop (mkF m 1 #[.val (.ref a1), .val (.int (2 : Int32)), .val (.int p3)] [(.int (2 : Int32))])) _
    refine XS.iconst X0.here hx rfl (hb hby d12_1) ?_
    show Steps p.tables e below (s₁.setTop (mkF m 2 #[.val (.ref a1), .val (.int (2 : Int32)), .val (.int p3)] [(.int (1 : Int32)), (.int (2 : Int32))])) _
    refine XS.icmpYes X0.here hx rfl (pc0 := 2) (pc' := 52) rfl (hb hby d12_2) rfl (feq (by decide)).2 (by decide) (by decide) ?_
    show Steps p.tables e below (s₁.setTop (mkF m 52 #[.val (.ref a1), .val (.int (2 : Int32)), .val (.int p3)] [])) _
    refine XS.iloadN X0.here hx rfl (hb hby d12_52) rfl ?_
    show Steps p.tables e below (s₁.setTop (mkF m 53 #[.val (.ref a1), .val (.int (2 : Int32)), .val (.int p3)] [(.int (2 : Int32))])) _
    refine XS.iconst X0.here hx rfl (hb hby d12_53) ?_
    show Steps p.tables e below (s₁.setTop (mkF m 54 #[.val (.ref a1), .val (.int (2 : Int32)), .val (.int p3)] [(.int (2 : Int32)), (.int (2 : Int32))])) _
    refine XS.icmpNo X0.here hx rfl (hb hby d12_54) rfl (teq (by decide)).2 ?_
    show Steps p.tables e below (s₁.setTop (mkF m 57 #[.val (.ref a1), .val (.int (2 : Int32)), .val (.int p3)] [])) _
    refine XS.aloadN X0.here hx rfl (hb hby d12_57) rfl rfl ?_
    show Steps p.tables e below (s₁.setTop (mkF m 58 #[.val (.ref a1), .val (.int (2 : Int32)), .val (.int p3)] [(.ref a1)])) _
    refine XS.iconst X0.here hx rfl (hb hby d12_58) ?_
    show Steps p.tables e below (s₁.setTop (mkF m 59 #[.val (.ref a1), .val (.int (2 : Int32)), .val (.int p3)] [(.int (0 : Int32)), (.ref a1)])) _
    refine own_bal X0 hx hZ e0 V1 (j := (0 : Int32)) ⟨by decide, by decide⟩ (v := (.int (p3.toInt8.toInt32))) rfl (g := (mkF m 59 #[.val (.ref a1), .val (.int (2 : Int32)), .val (.int p3)] [(.int (0 : Int32)), (.ref a1)])) rfl rfl (hb hby d12_59) _ ?_
    show Steps p.tables e below (s₁.setTop (mkF m 60 #[.val (.ref a1), .val (.int (2 : Int32)), .val (.int p3)] [(.int (p3.toInt8.toInt32))])) _
    refine XS.iloadN X0.here hx rfl (hb hby d12_60) rfl ?_
    show Steps p.tables e below (s₁.setTop (mkF m 61 #[.val (.ref a1), .val (.int (2 : Int32)), .val (.int p3)] [(.int p3), (.int (p3.toInt8.toInt32))])) _
    refine XS.i2b X0.here hx rfl (hb hby d12_61) rfl ?_
    show Steps p.tables e below (s₁.setTop (mkF m 62 #[.val (.ref a1), .val (.int (2 : Int32)), .val (.int p3)] [(.int (p3.toInt8.toInt32)), (.int (p3.toInt8.toInt32))])) _
    refine XS.icmpNo X0.here hx rfl (hb hby d12_62) rfl (teq rfl).2 ?_
    show Steps p.tables e below (s₁.setTop (mkF m 65 #[.val (.ref a1), .val (.int (2 : Int32)), .val (.int p3)] [])) _
    refine XS.iconst X0.here hx rfl (hb hby d12_65) ?_
    show Steps p.tables e below (s₁.setTop (mkF m 66 #[.val (.ref a1), .val (.int (2 : Int32)), .val (.int p3)] [(.int (1 : Int32))])) _
    refine XS.goto X0.here hx rfl (pc0 := 66) (pc' := 70) rfl (hb hby d12_66) (by decide) (by decide) ?_
    exact kt
  obtain ⟨fsx, hr, hrun, hended, hW, hsame⟩ := X0.leave (v := some (.int (nar .boolean (1 : Int32)))) (fun h => by rw [Bd.returns] at h; cases h)
  refine ⟨_, _, pre231 _ ?_, hrun, hended, _, _, rfl, ?_, ⟨_, rfl⟩, hW, hsame.mono (by decide) (by decide)⟩
  · exact retN X0 hx (t := .boolean) Bd.returns (by simp) (hb hby d12_70) hr
  · show QK2 Z a1 k1 cc p3 h0 n0 _ s₁.heap _
    rw [e0]
    exact ⟨rfl, N0, rfl⟩
theorem d12_76 : decode method_3_code 76 = .ok (.aload_n 0, 1) := by decide +kernel
theorem d12_77 : decode method_3_code 77 = .ok (.iconst 0, 1) := by decide +kernel
theorem d12_78 : decode method_3_code 78 = .ok (.baload, 1) := by decide +kernel
theorem d12_79 : decode method_3_code 79 = .ok (.ifCond .ne 34, 3) := by decide +kernel
theorem d12_82 : decode method_3_code 82 = .ok (.aload_n 0, 1) := by decide +kernel
theorem d12_83 : decode method_3_code 83 = .ok (.iconst 1, 1) := by decide +kernel
theorem d12_84 : decode method_3_code 84 = .ok (.baload, 1) := by decide +kernel
theorem d12_85 : decode method_3_code 85 = .ok (.ifCond .ne 28, 3) := by decide +kernel
theorem d12_88 : decode method_3_code 88 = .ok (.aload_n 0, 1) := by decide +kernel
theorem d12_89 : decode method_3_code 89 = .ok (.iconst 2, 1) := by decide +kernel
theorem d12_90 : decode method_3_code 90 = .ok (.baload, 1) := by decide +kernel
theorem d12_91 : decode method_3_code 91 = .ok (.ifCond .ne 22, 3) := by decide +kernel
theorem d12_94 : decode method_3_code 94 = .ok (.aload_n 0, 1) := by decide +kernel
theorem d12_95 : decode method_3_code 95 = .ok (.iconst 3, 1) := by decide +kernel
theorem d12_96 : decode method_3_code 96 = .ok (.baload, 1) := by decide +kernel
theorem d12_97 : decode method_3_code 97 = .ok (.iconst 1, 1) := by decide +kernel
theorem d12_98 : decode method_3_code 98 = .ok (.if_icmp .ne 15, 3) := by decide +kernel
theorem d12_101 : decode method_3_code 101 = .ok (.aload_n 0, 1) := by decide +kernel
theorem d12_102 : decode method_3_code 102 = .ok (.iconst 4, 1) := by decide +kernel
theorem d12_103 : decode method_3_code 103 = .ok (.baload, 1) := by decide +kernel
theorem d12_104 : decode method_3_code 104 = .ok (.iload_n 2, 1) := by decide +kernel
theorem d12_105 : decode method_3_code 105 = .ok (.i2b, 1) := by decide +kernel
theorem d12_106 : decode method_3_code 106 = .ok (.if_icmp .ne 7, 3) := by decide +kernel
theorem d12_109 : decode method_3_code 109 = .ok (.iconst 1, 1) := by decide +kernel
theorem d12_110 : decode method_3_code 110 = .ok (.goto 4, 3) := by decide +kernel
theorem d12_114 : decode method_3_code 114 = .ok (.ireturn, 1) := by decide +kernel
theorem ef_rmK3 (m : MethodId) (x0 : Addr) (x1 : Int32) (x2 : Int32) : entryFrame m #[(.ref x0), (.int x1), (.int x2)] 3 = mkF m 0 #[.val (.ref x0), .val (.int x1), .val (.int x2)] [] := by first | (simp [entryFrame, mkF, argsToLocals, Value.category]; done) | rfl
def QK3 (Z : State) (a1 : Addr) (k1 : ClassId) (cc : Int32) (p3 : Int32) (h0 : Heap) (n0 : Nat) (v : Option Value) (h : Heap) (L : List Loc) : Prop := v = some (.int 1) ∧ Fr n0 L ∧ h = h0
set_option maxRecDepth 65536 in
set_option maxHeartbeats 40000000 in
theorem rmK3 (l : Launch) (Z : State) (a0 : Array Value) (hw : ∀ d ∈ tables_1, d.before a0 Z = true) (ws : List Jvm.Cond) (a1 : Addr) (k1 : ClassId) (cc : Int32) (p3 : Int32) (h0 : Heap) (n0 : Nat) (Z0 : n0 ≤ h0.size) (V1 : Arv Z h0 a1 k1 .byte (6 : Int32) [(.int (0 : Int32)), (.int (0 : Int32)), (.int (0 : Int32)), (.int (1 : Int32)), (.int (p3.toInt8.toInt32)), (.int cc)] (.int (0 : Int32))) :
    MetFree l (⟨"com/example/flex_actor/flexactor/core/FrameBufferAbandonPinLaw", "prefixOk", "([BII)Z"⟩ : MethodName) (head1 (Jvm.Cond.code (⟨"com/example/flex_actor/flexactor/core/FrameBufferAbandonPinLaw", "prefixOk", "([BII)Z"⟩ : MethodName) method_3_code 3 (some .boolean) :: ws) ({ frames := 0, cells := 0, slots := 0, locals := 0 } : Room)) (fun a U => a = #[(.ref a1), (.int (3 : Int32)), (.int p3)] ∧ Z.Warmed39 U.vm ∧ U.heap = h0) (fun _ _ _ _ _ => True) (fun _ U o U' => ∃ v L, o = .returned v ∧ QK3 Z a1 k1 cc p3 h0 n0 v U'.heap L ∧ FrameEnd U o U' L ({ frames := 0, cells := 0, slots := 0, locals := 0 } : Room).cells ({ frames := 0, cells := 0, slots := 0, locals := 0 } : Room).slots) := by
  refine MetFree.of_bodySF (plainFor_of_name pn_2) hisR ?_
  intro p e s m args below meth c s₁ Bd hml0 hP hK
  obtain ⟨rfl, hZ, hh⟩ := hP
  have hx := Bd.exec
  have hby := Bd.bytes
  have hml : c.maxLocals = 3 := hml0
  have hown : s.vm.findClass "com/example/flex_actor/flexactor/core/FrameBufferAbandonPinLaw" = some m.cls := findClass_of_methodNamed Bd.named
  have hnm := (name_of_methodNamed Bd.named Bd.method).1
  have X0 : Stand p l e ({ frames := 0, cells := 0, slots := 0, locals := 0 } : Room) s m #[(.ref a1), (.int (3 : Int32)), (.int p3)] below meth c s₁ [] 0 0 := Stand.of_body Bd
  have e0 : s₁.heap = h0 := by rw [← hh, Bd.state]; rfl
  have N0 := Fr.nil n0
  have pre0 : ∀ t, Steps p.tables e below (s₁.setTop (mkF m 0 #[.val (.ref a1), .val (.int (3 : Int32)), .val (.int p3)] [])) t → Steps p.tables e below (s₁.setTop (entryFrame m #[(.ref a1), (.int (3 : Int32)), (.int p3)] 3)) t := fun t k => castTop (ef_rmK3 m a1 (3 : Int32) p3) k
  have pre232 : ∀ t, Steps p.tables e below (s₁.setTop (mkF m 114 #[.val (.ref a1), .val (.int (3 : Int32)), .val (.int p3)] [(.int (1 : Int32))])) t → Steps p.tables e below (s₁.setTop (entryFrame m #[(.ref a1), (.int (3 : Int32)), (.int p3)] 3)) t := by
    intro t kt
    refine pre0 t ?_
    show Steps p.tables e below (s₁.setTop (mkF m 0 #[.val (.ref a1), .val (.int (3 : Int32)), .val (.int p3)] [])) _
    refine XS.iloadN X0.here hx rfl (hb hby d12_0) rfl ?_
    show Steps p.tables e below (s₁.setTop (mkF m 1 #[.val (.ref a1), .val (.int (3 : Int32)), .val (.int p3)] [(.int (3 : Int32))])) _
    refine XS.iconst X0.here hx rfl (hb hby d12_1) ?_
    show Steps p.tables e below (s₁.setTop (mkF m 2 #[.val (.ref a1), .val (.int (3 : Int32)), .val (.int p3)] [(.int (1 : Int32)), (.int (3 : Int32))])) _
    refine XS.icmpYes X0.here hx rfl (pc0 := 2) (pc' := 52) rfl (hb hby d12_2) rfl (feq (by decide)).2 (by decide) (by decide) ?_
    show Steps p.tables e below (s₁.setTop (mkF m 52 #[.val (.ref a1), .val (.int (3 : Int32)), .val (.int p3)] [])) _
    refine XS.iloadN X0.here hx rfl (hb hby d12_52) rfl ?_
    show Steps p.tables e below (s₁.setTop (mkF m 53 #[.val (.ref a1), .val (.int (3 : Int32)), .val (.int p3)] [(.int (3 : Int32))])) _
    refine XS.iconst X0.here hx rfl (hb hby d12_53) ?_
    show Steps p.tables e below (s₁.setTop (mkF m 54 #[.val (.ref a1), .val (.int (3 : Int32)), .val (.int p3)] [(.int (2 : Int32)), (.int (3 : Int32))])) _
    refine XS.icmpYes X0.here hx rfl (pc0 := 54) (pc' := 71) rfl (hb hby d12_54) rfl (feq (by decide)).2 (by decide) (by decide) ?_
    show Steps p.tables e below (s₁.setTop (mkF m 71 #[.val (.ref a1), .val (.int (3 : Int32)), .val (.int p3)] [])) _
    refine XS.iloadN X0.here hx rfl (hb hby d12_71) rfl ?_
    show Steps p.tables e below (s₁.setTop (mkF m 72 #[.val (.ref a1), .val (.int (3 : Int32)), .val (.int p3)] [(.int (3 : Int32))])) _
    refine XS.iconst X0.here hx rfl (hb hby d12_72) ?_
    show Steps p.tables e below (s₁.setTop (mkF m 73 #[.val (.ref a1), .val (.int (3 : Int32)), .val (.int p3)] [(.int (3 : Int32)), (.int (3 : Int32))])) _
    refine XS.icmpNo X0.here hx rfl (hb hby d12_73) rfl (teq (by decide)).2 ?_
    show Steps p.tables e below (s₁.setTop (mkF m 76 #[.val (.ref a1), .val (.int (3 : Int32)), .val (.int p3)] [])) _
    refine XS.aloadN X0.here hx rfl (hb hby d12_76) rfl rfl ?_
    show Steps p.tables e below (s₁.setTop (mkF m 77 #[.val (.ref a1), .val (.int (3 : Int32)), .val (.int p3)] [(.ref a1)])) _
    refine XS.iconst X0.here hx rfl (hb hby d12_77) ?_
    show Steps p.tables e below (s₁.setTop (mkF m 78 #[.val (.ref a1), .val (.int (3 : Int32)), .val (.int p3)] [(.int (0 : Int32)), (.ref a1)])) _
    refine own_bal X0 hx hZ e0 V1 (j := (0 : Int32)) ⟨by decide, by decide⟩ (v := (.int (0 : Int32))) rfl (g := (mkF m 78 #[.val (.ref a1), .val (.int (3 : Int32)), .val (.int p3)] [(.int (0 : Int32)), (.ref a1)])) rfl rfl (hb hby d12_78) _ ?_
    show Steps p.tables e below (s₁.setTop (mkF m 79 #[.val (.ref a1), .val (.int (3 : Int32)), .val (.int p3)] [(.int (0 : Int32))])) _
    refine XS.ifNo X0.here hx rfl (hb hby d12_79) rfl ((if0 _ _).trans (teq (by decide)).2) ?_
    show Steps p.tables e below (s₁.setTop (mkF m 82 #[.val (.ref a1), .val (.int (3 : Int32)), .val (.int p3)] [])) _
    refine XS.aloadN X0.here hx rfl (hb hby d12_82) rfl rfl ?_
    show Steps p.tables e below (s₁.setTop (mkF m 83 #[.val (.ref a1), .val (.int (3 : Int32)), .val (.int p3)] [(.ref a1)])) _
    refine XS.iconst X0.here hx rfl (hb hby d12_83) ?_
    show Steps p.tables e below (s₁.setTop (mkF m 84 #[.val (.ref a1), .val (.int (3 : Int32)), .val (.int p3)] [(.int (1 : Int32)), (.ref a1)])) _
    refine own_bal X0 hx hZ e0 V1 (j := (1 : Int32)) ⟨by decide, by decide⟩ (v := (.int (0 : Int32))) rfl (g := (mkF m 84 #[.val (.ref a1), .val (.int (3 : Int32)), .val (.int p3)] [(.int (1 : Int32)), (.ref a1)])) rfl rfl (hb hby d12_84) _ ?_
    show Steps p.tables e below (s₁.setTop (mkF m 85 #[.val (.ref a1), .val (.int (3 : Int32)), .val (.int p3)] [(.int (0 : Int32))])) _
    refine XS.ifNo X0.here hx rfl (hb hby d12_85) rfl ((if0 _ _).trans (teq (by decide)).2) ?_
    show Steps p.tables e below (s₁.setTop (mkF m 88 #[.val (.ref a1), .val (.int (3 : Int32)), .val (.int p3)] [])) _
    refine XS.aloadN X0.here hx rfl (hb hby d12_88) rfl rfl ?_
    show Steps p.tables e below (s₁.setTop (mkF m 89 #[.val (.ref a1), .val (.int (3 : Int32)), .val (.int p3)] [(.ref a1)])) _
    refine XS.iconst X0.here hx rfl (hb hby d12_89) ?_
    show Steps p.tables e below (s₁.setTop (mkF m 90 #[.val (.ref a1), .val (.int (3 : Int32)), .val (.int p3)] [(.int (2 : Int32)), (.ref a1)])) _
    refine own_bal X0 hx hZ e0 V1 (j := (2 : Int32)) ⟨by decide, by decide⟩ (v := (.int (0 : Int32))) rfl (g := (mkF m 90 #[.val (.ref a1), .val (.int (3 : Int32)), .val (.int p3)] [(.int (2 : Int32)), (.ref a1)])) rfl rfl (hb hby d12_90) _ ?_
    show Steps p.tables e below (s₁.setTop (mkF m 91 #[.val (.ref a1), .val (.int (3 : Int32)), .val (.int p3)] [(.int (0 : Int32))])) _
    refine XS.ifNo X0.here hx rfl (hb hby d12_91) rfl ((if0 _ _).trans (teq (by decide)).2) ?_
    show Steps p.tables e below (s₁.setTop (mkF m 94 #[.val (.ref a1), .val (.int (3 : Int32)), .val (.int p3)] [])) _
    refine XS.aloadN X0.here hx rfl (hb hby d12_94) rfl rfl ?_
    show Steps p.tables e below (s₁.setTop (mkF m 95 #[.val (.ref a1), .val (.int (3 : Int32)), .val (.int p3)] [(.ref a1)])) _
    refine XS.iconst X0.here hx rfl (hb hby d12_95) ?_
    show Steps p.tables e below (s₁.setTop (mkF m 96 #[.val (.ref a1), .val (.int (3 : Int32)), .val (.int p3)] [(.int (3 : Int32)), (.ref a1)])) _
    refine own_bal X0 hx hZ e0 V1 (j := (3 : Int32)) ⟨by decide, by decide⟩ (v := (.int (1 : Int32))) rfl (g := (mkF m 96 #[.val (.ref a1), .val (.int (3 : Int32)), .val (.int p3)] [(.int (3 : Int32)), (.ref a1)])) rfl rfl (hb hby d12_96) _ ?_
    show Steps p.tables e below (s₁.setTop (mkF m 97 #[.val (.ref a1), .val (.int (3 : Int32)), .val (.int p3)] [(.int (1 : Int32))])) _
    refine XS.iconst X0.here hx rfl (hb hby d12_97) ?_
    show Steps p.tables e below (s₁.setTop (mkF m 98 #[.val (.ref a1), .val (.int (3 : Int32)), .val (.int p3)] [(.int (1 : Int32)), (.int (1 : Int32))])) _
    refine XS.icmpNo X0.here hx rfl (hb hby d12_98) rfl (teq (by decide)).2 ?_
    show Steps p.tables e below (s₁.setTop (mkF m 101 #[.val (.ref a1), .val (.int (3 : Int32)), .val (.int p3)] [])) _
    refine XS.aloadN X0.here hx rfl (hb hby d12_101) rfl rfl ?_
    show Steps p.tables e below (s₁.setTop (mkF m 102 #[.val (.ref a1), .val (.int (3 : Int32)), .val (.int p3)] [(.ref a1)])) _
    refine XS.iconst X0.here hx rfl (hb hby d12_102) ?_
    show Steps p.tables e below (s₁.setTop (mkF m 103 #[.val (.ref a1), .val (.int (3 : Int32)), .val (.int p3)] [(.int (4 : Int32)), (.ref a1)])) _
    refine own_bal X0 hx hZ e0 V1 (j := (4 : Int32)) ⟨by decide, by decide⟩ (v := (.int (p3.toInt8.toInt32))) rfl (g := (mkF m 103 #[.val (.ref a1), .val (.int (3 : Int32)), .val (.int p3)] [(.int (4 : Int32)), (.ref a1)])) rfl rfl (hb hby d12_103) _ ?_
    show Steps p.tables e below (s₁.setTop (mkF m 104 #[.val (.ref a1), .val (.int (3 : Int32)), .val (.int p3)] [(.int (p3.toInt8.toInt32))])) _
    refine XS.iloadN X0.here hx rfl (hb hby d12_104) rfl ?_
    show Steps p.tables e below (s₁.setTop (mkF m 105 #[.val (.ref a1), .val (.int (3 : Int32)), .val (.int p3)] [(.int p3), (.int (p3.toInt8.toInt32))])) _
    refine XS.i2b X0.here hx rfl (hb hby d12_105) rfl ?_
    show Steps p.tables e below (s₁.setTop (mkF m 106 #[.val (.ref a1), .val (.int (3 : Int32)), .val (.int p3)] [(.int (p3.toInt8.toInt32)), (.int (p3.toInt8.toInt32))])) _
    refine XS.icmpNo X0.here hx rfl (hb hby d12_106) rfl (teq rfl).2 ?_
    show Steps p.tables e below (s₁.setTop (mkF m 109 #[.val (.ref a1), .val (.int (3 : Int32)), .val (.int p3)] [])) _
    refine XS.iconst X0.here hx rfl (hb hby d12_109) ?_
    show Steps p.tables e below (s₁.setTop (mkF m 110 #[.val (.ref a1), .val (.int (3 : Int32)), .val (.int p3)] [(.int (1 : Int32))])) _
    refine XS.goto X0.here hx rfl (pc0 := 110) (pc' := 114) rfl (hb hby d12_110) (by decide) (by decide) ?_
    exact kt
  obtain ⟨fsx, hr, hrun, hended, hW, hsame⟩ := X0.leave (v := some (.int (nar .boolean (1 : Int32)))) (fun h => by rw [Bd.returns] at h; cases h)
  refine ⟨_, _, pre232 _ ?_, hrun, hended, _, _, rfl, ?_, ⟨_, rfl⟩, hW, hsame.mono (by decide) (by decide)⟩
  · exact retN X0 hx (t := .boolean) Bd.returns (by simp) (hb hby d12_114) hr
  · show QK3 Z a1 k1 cc p3 h0 n0 _ s₁.heap _
    rw [e0]
    exact ⟨rfl, N0, rfl⟩
theorem own_tk (vs us : List Value) (x d : Value) (n : Nat) (hl : vs.length = 16) (h : vs.take n = us) (hn : n < 16) : own_pre (vs.set n x) d (n + 1) = us ++ [x] := by
  subst h
  apply List.ext_getElem
  · simp [own_pre]; omega
  · intro j h1 h2
    have h0 : (0 : Int32).toNatClampNeg = 0 := rfl
    simp only [own_pre, List.getElem_map, List.getElem_range, h0, Nat.zero_add, List.getD_eq_getElem?_getD]
    have hj : j < n + 1 := by simpa [own_pre] using h1
    by_cases e : j = n
    · subst e
      rw [List.getElem?_set_self (by omega)]
      simp [List.getElem_append, hl, show ¬ (j < min j 16) by omega]
    · rw [List.getElem?_set_ne (by omega), List.getElem?_eq_getElem (by omega)]
      rw [List.getElem_append_left (by simp; omega)]
      simp
theorem own_tks (vs : List Value) (n j : Nat) (x : Value) (h : n ≤ j) : (vs.set j x).take n = vs.take n := by
  rw [List.take_set_of_le h]
theorem own_tkp (vs : List Value) (n j : Nat) (p : Int32) (h : n ≤ j) : (own_put vs j p).take n = vs.take n := by
  rw [own_put, own_tks _ _ _ _ (by omega), own_tks _ _ _ _ (by omega), own_tks _ _ _ _ (by omega), own_tks _ _ _ _ h]
theorem pd_4 : parseMethodDescriptor "()V" = some ⟨[], none⟩ := by decide +kernel
theorem pd_5 : parseMethodDescriptor "(B)V" = some ⟨[.byte], none⟩ := by decide +kernel
theorem pd_6 : parseMethodDescriptor "()I" = some ⟨[], some .int⟩ := by decide +kernel
theorem pd_7 : parseMethodDescriptor "()[B" = some ⟨[], some (.array .byte)⟩ := by decide +kernel
theorem pd_8 : parseMethodDescriptor "([BII)Z" = some ⟨[(.array .byte), .int, .int], some .boolean⟩ := by decide +kernel
theorem ef_rm0 (m : MethodId) (x0 : Int32) (x1 : Int32) (x2 : Int32) (x3 : Int32) : entryFrame m #[(.int x0), (.int x1), (.int x2), (.int x3)] maxLocals = mkF m 0 #[.val (.int x0), .val (.int x1), .val (.int x2), .val (.int x3), .unset, .unset, .unset, .unset, .unset, .unset, .unset] [] := by first | (simp [entryFrame, mkF, argsToLocals, Value.category, maxLocals]; done) | rfl
def Q0 (Z : State) (p1 : Int32) (p2 : Int32) (p3 : Int32) (p4 : Int32) (h0 : Heap) (n0 : Nat) (v : Option Value) (h : Heap) (L : List Loc) : Prop := v = some (.int 1) ∧ Fr n0 L
set_option maxRecDepth 65536 in
set_option maxHeartbeats 40000000 in
theorem rm0 (l : Launch) (Z : State) (a0 : Array Value) (hw : ∀ d ∈ tables_1, d.before a0 Z = true) (ws : List Jvm.Cond) (p1 : Int32) (p2 : Int32) (p3 : Int32) (p4 : Int32) (h0 : Heap) (n0 : Nat) (Z0 : n0 ≤ h0.size)  :
    MetFree l x (head1 (Jvm.Cond.code x code maxLocals ret :: ws) room_1) (fun a U => a = #[(.int p1), (.int p2), (.int p3), (.int p4)] ∧ Z.Warmed39 U.vm ∧ U.heap = h0) (fun _ _ _ _ _ => True) (fun _ U o U' => ∃ v L, o = .returned v ∧ Q0 Z p1 p2 p3 p4 h0 n0 v U'.heap L ∧ FrameEnd U o U' L room_1.cells room_1.slots) := by
  refine MetFree.of_bodySF (plainFor_of_name pn_2) hisR ?_
  intro p e s m args below meth c s₁ Bd hml0 hP hK
  obtain ⟨rfl, hZ, hh⟩ := hP
  have hx := Bd.exec
  have hby := Bd.bytes
  have hml : c.maxLocals = 11 := hml0
  have hown : s.vm.findClass "com/example/flex_actor/flexactor/core/FrameBufferAbandonPinLaw" = some m.cls := findClass_of_methodNamed Bd.named
  have hnm := (name_of_methodNamed Bd.named Bd.method).1
  have X0 : Stand p l e room_1 s m #[(.int p1), (.int p2), (.int p3), (.int p4)] below meth c s₁ [] 0 0 := Stand.of_body Bd
  have e0 : s₁.heap = h0 := by rw [← hh, Bd.state]; rfl
  have N0 := Fr.nil n0
  have pre0 : ∀ t, Steps p.tables e below (s₁.setTop (mkF m 0 #[.val (.int p1), .val (.int p2), .val (.int p3), .val (.int p4), .unset, .unset, .unset, .unset, .unset, .unset, .unset] [])) t → Steps p.tables e below (s₁.setTop (entryFrame m #[(.int p1), (.int p2), (.int p3), (.int p4)] maxLocals)) t := fun t k => castTop (ef_rm0 m p1 p2 p3 p4) k
  have pre233 : ∀ t, Steps p.tables e below (s₁.setTop (mkF m 8 #[.val (.int p1), .val (.int p2), .val (.int p3), .val (.int p4), .val (.int (p4 &&& (3 : Int32))), .unset, .unset, .unset, .unset, .unset, .unset] [(.int (p4 &&& (4 : Int32)))])) t → Steps p.tables e below (s₁.setTop (entryFrame m #[(.int p1), (.int p2), (.int p3), (.int p4)] maxLocals)) t := by
    intro t kt
    refine pre0 t ?_
    show Steps p.tables e below (s₁.setTop (mkF m 0 #[.val (.int p1), .val (.int p2), .val (.int p3), .val (.int p4), .unset, .unset, .unset, .unset, .unset, .unset, .unset] [])) _
    refine XS.iloadN X0.here hx rfl (hb hby at_0) rfl ?_
    show Steps p.tables e below (s₁.setTop (mkF m 1 #[.val (.int p1), .val (.int p2), .val (.int p3), .val (.int p4), .unset, .unset, .unset, .unset, .unset, .unset, .unset] [(.int p4)])) _
    refine XS.iconst X0.here hx rfl (hb hby at_1) ?_
    show Steps p.tables e below (s₁.setTop (mkF m 2 #[.val (.int p1), .val (.int p2), .val (.int p3), .val (.int p4), .unset, .unset, .unset, .unset, .unset, .unset, .unset] [(.int (3 : Int32)), (.int p4)])) _
    refine XS.iand X0.here hx rfl (hb hby at_2) rfl ?_
    show Steps p.tables e below (s₁.setTop (mkF m 3 #[.val (.int p1), .val (.int p2), .val (.int p3), .val (.int p4), .unset, .unset, .unset, .unset, .unset, .unset, .unset] [(.int (p4 &&& (3 : Int32)))])) _
    refine XS.istore X0.here hx rfl (hb hby at_3) rfl (l' := #[.val (.int p1), .val (.int p2), .val (.int p3), .val (.int p4), .val (.int (p4 &&& (3 : Int32))), .unset, .unset, .unset, .unset, .unset, .unset]) rfl ?_
    show Steps p.tables e below (s₁.setTop (mkF m 5 #[.val (.int p1), .val (.int p2), .val (.int p3), .val (.int p4), .val (.int (p4 &&& (3 : Int32))), .unset, .unset, .unset, .unset, .unset, .unset] [])) _
    refine XS.iloadN X0.here hx rfl (hb hby at_5) rfl ?_
    show Steps p.tables e below (s₁.setTop (mkF m 6 #[.val (.int p1), .val (.int p2), .val (.int p3), .val (.int p4), .val (.int (p4 &&& (3 : Int32))), .unset, .unset, .unset, .unset, .unset, .unset] [(.int p4)])) _
    refine XS.iconst X0.here hx rfl (hb hby at_6) ?_
    show Steps p.tables e below (s₁.setTop (mkF m 7 #[.val (.int p1), .val (.int p2), .val (.int p3), .val (.int p4), .val (.int (p4 &&& (3 : Int32))), .unset, .unset, .unset, .unset, .unset, .unset] [(.int (4 : Int32)), (.int p4)])) _
    refine XS.iand X0.here hx rfl (hb hby at_7) rfl ?_
    exact kt
  obtain ⟨op, h_op, pre234⟩ : ∃ (op : Int32), (True) ∧ ∀ t, Steps p.tables e below (s₁.setTop (mkF m 16 #[.val (.int p1), .val (.int p2), .val (.int p3), .val (.int p4), .val (.int (p4 &&& (3 : Int32))), .unset, .unset, .unset, .unset, .unset, .unset] [(.int op)])) t → Steps p.tables e below (s₁.setTop (entryFrame m #[(.int p1), (.int p2), (.int p3), (.int p4)] maxLocals)) t := by
    by_cases hc8 : (p4 &&& (4 : Int32)) = (0 : Int32)
    · have pre235 : ∀ t, Steps p.tables e below (s₁.setTop (mkF m 16 #[.val (.int p1), .val (.int p2), .val (.int p3), .val (.int p4), .val (.int (p4 &&& (3 : Int32))), .unset, .unset, .unset, .unset, .unset, .unset] [(.int (0 : Int32))])) t → Steps p.tables e below (s₁.setTop (entryFrame m #[(.int p1), (.int p2), (.int p3), (.int p4)] maxLocals)) t := by
        intro t kt
        refine pre233 t ?_
        show Steps p.tables e below (s₁.setTop (mkF m 8 #[.val (.int p1), .val (.int p2), .val (.int p3), .val (.int p4), .val (.int (p4 &&& (3 : Int32))), .unset, .unset, .unset, .unset, .unset, .unset] [(.int (p4 &&& (4 : Int32)))])) _
        refine XS.ifYes X0.here hx rfl (pc0 := 8) (pc' := 15) rfl (hb hby at_8) rfl ((if0 _ _).trans (teq hc8).1) (by decide) (by decide) ?_
        show Steps p.tables e below (s₁.setTop (mkF m 15 #[.val (.int p1), .val (.int p2), .val (.int p3), .val (.int p4), .val (.int (p4 &&& (3 : Int32))), .unset, .unset, .unset, .unset, .unset, .unset] [])) _
        refine XS.iconst X0.here hx rfl (hb hby at_15) ?_
        exact kt
      refine ⟨(0 : Int32), ?_, pre235⟩
      trivial
    · have pre236 : ∀ t, Steps p.tables e below (s₁.setTop (mkF m 16 #[.val (.int p1), .val (.int p2), .val (.int p3), .val (.int p4), .val (.int (p4 &&& (3 : Int32))), .unset, .unset, .unset, .unset, .unset, .unset] [(.int (1 : Int32))])) t → Steps p.tables e below (s₁.setTop (entryFrame m #[(.int p1), (.int p2), (.int p3), (.int p4)] maxLocals)) t := by
        intro t kt
        refine pre233 t ?_
        show Steps p.tables e below (s₁.setTop (mkF m 8 #[.val (.int p1), .val (.int p2), .val (.int p3), .val (.int p4), .val (.int (p4 &&& (3 : Int32))), .unset, .unset, .unset, .unset, .unset, .unset] [(.int (p4 &&& (4 : Int32)))])) _
        refine XS.ifNo X0.here hx rfl (hb hby at_8) rfl ((if0 _ _).trans (feq hc8).1) ?_
        show Steps p.tables e below (s₁.setTop (mkF m 11 #[.val (.int p1), .val (.int p2), .val (.int p3), .val (.int p4), .val (.int (p4 &&& (3 : Int32))), .unset, .unset, .unset, .unset, .unset, .unset] [])) _
        refine XS.iconst X0.here hx rfl (hb hby at_11) ?_
        show Steps p.tables e below (s₁.setTop (mkF m 12 #[.val (.int p1), .val (.int p2), .val (.int p3), .val (.int p4), .val (.int (p4 &&& (3 : Int32))), .unset, .unset, .unset, .unset, .unset, .unset] [(.int (1 : Int32))])) _
        refine XS.goto X0.here hx rfl (pc0 := 12) (pc' := 16) rfl (hb hby at_12) (by decide) (by decide) ?_
        exact kt
      refine ⟨(1 : Int32), ?_, pre236⟩
      trivial
  have pre237 : ∀ t, Steps p.tables e below (s₁.setTop (mkF m 25 #[.val (.int p1), .val (.int p2), .val (.int p3), .val (.int p4), .val (.int (p4 &&& (3 : Int32))), .val (.int op), .val (.int (((p4.toUInt32 >>> ((3 : Int32) &&& 31).toUInt32).toInt32) &&& (3 : Int32))), .unset, .unset, .unset, .unset] [])) t → Steps p.tables e below (s₁.setTop (entryFrame m #[(.int p1), (.int p2), (.int p3), (.int p4)] maxLocals)) t := by
    intro t kt
    refine pre234 t ?_
    show Steps p.tables e below (s₁.setTop (mkF m 16 #[.val (.int p1), .val (.int p2), .val (.int p3), .val (.int p4), .val (.int (p4 &&& (3 : Int32))), .unset, .unset, .unset, .unset, .unset, .unset] [(.int op)])) _
    refine XS.istore X0.here hx rfl (hb hby at_16) rfl (l' := #[.val (.int p1), .val (.int p2), .val (.int p3), .val (.int p4), .val (.int (p4 &&& (3 : Int32))), .val (.int op), .unset, .unset, .unset, .unset, .unset]) rfl ?_
    show Steps p.tables e below (s₁.setTop (mkF m 18 #[.val (.int p1), .val (.int p2), .val (.int p3), .val (.int p4), .val (.int (p4 &&& (3 : Int32))), .val (.int op), .unset, .unset, .unset, .unset, .unset] [])) _
    refine XS.iloadN X0.here hx rfl (hb hby at_18) rfl ?_
    show Steps p.tables e below (s₁.setTop (mkF m 19 #[.val (.int p1), .val (.int p2), .val (.int p3), .val (.int p4), .val (.int (p4 &&& (3 : Int32))), .val (.int op), .unset, .unset, .unset, .unset, .unset] [(.int p4)])) _
    refine XS.iconst X0.here hx rfl (hb hby at_19) ?_
    show Steps p.tables e below (s₁.setTop (mkF m 20 #[.val (.int p1), .val (.int p2), .val (.int p3), .val (.int p4), .val (.int (p4 &&& (3 : Int32))), .val (.int op), .unset, .unset, .unset, .unset, .unset] [(.int (3 : Int32)), (.int p4)])) _
    refine XS.iushr X0.here hx rfl (hb hby at_20) rfl ?_
    show Steps p.tables e below (s₁.setTop (mkF m 21 #[.val (.int p1), .val (.int p2), .val (.int p3), .val (.int p4), .val (.int (p4 &&& (3 : Int32))), .val (.int op), .unset, .unset, .unset, .unset, .unset] [(.int ((p4.toUInt32 >>> ((3 : Int32) &&& 31).toUInt32).toInt32))])) _
    refine XS.iconst X0.here hx rfl (hb hby at_21) ?_
    show Steps p.tables e below (s₁.setTop (mkF m 22 #[.val (.int p1), .val (.int p2), .val (.int p3), .val (.int p4), .val (.int (p4 &&& (3 : Int32))), .val (.int op), .unset, .unset, .unset, .unset, .unset] [(.int (3 : Int32)), (.int ((p4.toUInt32 >>> ((3 : Int32) &&& 31).toUInt32).toInt32))])) _
    refine XS.iand X0.here hx rfl (hb hby at_22) rfl ?_
    show Steps p.tables e below (s₁.setTop (mkF m 23 #[.val (.int p1), .val (.int p2), .val (.int p3), .val (.int p4), .val (.int (p4 &&& (3 : Int32))), .val (.int op), .unset, .unset, .unset, .unset, .unset] [(.int (((p4.toUInt32 >>> ((3 : Int32) &&& 31).toUInt32).toInt32) &&& (3 : Int32)))])) _
    refine XS.istore X0.here hx rfl (hb hby at_23) rfl (l' := #[.val (.int p1), .val (.int p2), .val (.int p3), .val (.int p4), .val (.int (p4 &&& (3 : Int32))), .val (.int op), .val (.int (((p4.toUInt32 >>> ((3 : Int32) &&& 31).toUInt32).toInt32) &&& (3 : Int32))), .unset, .unset, .unset, .unset]) rfl ?_
    exact kt
  obtain ⟨bd, h_bd⟩ : ∃ z : Int32, z = (((p4.toUInt32 >>> ((3 : Int32) &&& 31).toUInt32).toInt32) &&& (3 : Int32)) := ⟨_, rfl⟩
  have pre238 : ∀ t, Steps p.tables e below (s₁.setTop (mkF m 25 #[.val (.int p1), .val (.int p2), .val (.int p3), .val (.int p4), .val (.int (p4 &&& (3 : Int32))), .val (.int op), .val (.int bd), .unset, .unset, .unset, .unset] [])) t → Steps p.tables e below (s₁.setTop (entryFrame m #[(.int p1), (.int p2), (.int p3), (.int p4)] maxLocals)) t := by
    intro t kt
    subst h_bd
    exact pre237 t kt
  obtain ⟨T239, h239, X239, e239, E239, A239, D239, -, st239⟩ := newO X0 hx hZ hown (hw _ (List.mem_of_getElem? (i := 0) rfl)) (hw _ (List.mem_of_getElem? (i := 1) rfl)) (hw _ (List.mem_of_getElem? (i := 2) rfl)) e0 (g := (mkF m 25 #[.val (.int p1), .val (.int p2), .val (.int p3), .val (.int p4), .val (.int (p4 &&& (3 : Int32))), .val (.int op), .val (.int bd), .unset, .unset, .unset, .unset] [])) rfl (hb hby at_25) (by decide) (by decide)
  obtain ⟨fb, gq239⟩ : ∃ z, z = h0.size := ⟨_, rfl⟩
  rw [← gq239] at A239 D239 st239
  have g_fb : n0 ≤ fb := Nat.le_trans Z0 (Nat.le_of_eq gq239.symm)
  have sz_fb : h0.size ≤ fb := Nat.le_trans (Keep.refl h0 []).1 (Nat.le_of_eq gq239.symm)
  have K239 : Keep h0 h239 [] := (Keep.refl h0 []).ext E239
  have Z239 : n0 ≤ h239.size := Nat.le_trans Z0 E239.1
  have fn240 : Fld Z h239 fb "com/example/flex_actor/flexactor/core/FrameBuffer" "bytes" "[B" .null := D239 (Or.inl (hw _ (List.mem_of_getElem? (i := 11) rfl))) (ty := (.array .byte)) (by decide)
  have fn241 : Fld Z h239 fb "com/example/flex_actor/flexactor/core/FrameBuffer" "frameStart" "I" (.int (0 : Int32)) := D239 (Or.inl (hw _ (List.mem_of_getElem? (i := 13) rfl))) (ty := .int) (by decide)
  have fn242 : Fld Z h239 fb "com/example/flex_actor/flexactor/core/FrameBuffer" "size" "I" (.int (0 : Int32)) := D239 (Or.inl (hw _ (List.mem_of_getElem? (i := 24) rfl))) (ty := .int) (by decide)
  obtain ⟨_, _, ⟨T243, L243, k243, n243⟩, -, X243, ⟨Lc243, hQ243, l243, y243, z243⟩, st243⟩ := X239.specialBack hx (y := (⟨"com/example/flex_actor/flexactor/core/FrameBuffer", "<init>", "()V"⟩ : MethodName)) rfl hown (mvT hZ (hw _ (List.mem_of_getElem? (i := 3) rfl))) (mvT hZ (hw _ (List.mem_of_getElem? (i := 4) rfl))) (mvT hZ (hw _ (List.mem_of_getElem? (i := 5) rfl))) (by decide) (backOf (W := 1) (rmI l Z a0 hw [] fb h239 n0 Z239 A239 fn240 fn242 fn241 g_fb) hZ (hw _ (List.mem_of_getElem? (i := 5) rfl)) (hw _ (List.mem_of_getElem? (i := 2) rfl)) (by decide) (by decide)) (g := (mkF m 29 #[.val (.int p1), .val (.int p2), .val (.int p3), .val (.int p4), .val (.int (p4 &&& (3 : Int32))), .val (.int op), .val (.int bd), .unset, .unset, .unset, .unset] [(.ref fb), (.ref fb)])) rfl (by rw [hml]; rfl) (Steps.refl _) (a := fb) (argsL := []) (rest := [(.ref fb)]) (lenOf pd_4 rfl) rfl (by show 2 * 0 + _ ≤ _; exact Nat.le_of_eq rfl) (hb hby at_29) (fun _ _ => ⟨rfl, e239, (by decide : 1 + 1 ≤ _), (by decide : 3 + 8192 ≤ _)⟩)
  dsimp only [Pt.U, Pt.locs, Pt.cells, Pt.slots] at X243 l243 y243 z243 st243 hQ243
  subst l243 y243 z243
  obtain ⟨bb, k1, rfl, Nq243, Kq243, szq, Fb0, Fs0, Ff0, V0⟩ := hQ243
  have f244 := (A239.keep Kq243)
  have Z243 : n0 ≤ T243.heap.size := Nat.le_trans Z239 Kq243.1
  have K243 : Keep h0 T243.heap [] := K239.trans Kq243 (allS (P := fun x => x ∈ ([] : List Addr) ∨ h0.size ≤ x) (Or.inr sz_fb) all0)
  have Nf243 := Fr.app N0 Nq243
  have g_bb : n0 ≤ bb := Nat.le_trans Z239 szq
  have sz_bb : h0.size ≤ bb := Nat.le_trans K239.1 szq
  have ne_fb : fb ≠ bb := Nat.ne_of_lt (Nat.lt_of_lt_of_le A239.lt szq)
  have hcc : nar .byte (p3.toInt8.toInt32) = (p3.toInt8.toInt32) := own_nar _
  have pre245 : ∀ t, Steps p.tables e below (T243.setTop (mkF m 34 #[.val (.int p1), .val (.int p2), .val (.int p3), .val (.int p4), .val (.int (p4 &&& (3 : Int32))), .val (.int op), .val (.int bd), .val (.ref fb), .unset, .unset, .unset] [])) t → Steps p.tables e below (s₁.setTop (entryFrame m #[(.int p1), (.int p2), (.int p3), (.int p4)] maxLocals)) t := by
    intro t kt
    refine pre238 t ?_
    show Steps p.tables e below (s₁.setTop (mkF m 25 #[.val (.int p1), .val (.int p2), .val (.int p3), .val (.int p4), .val (.int (p4 &&& (3 : Int32))), .val (.int op), .val (.int bd), .unset, .unset, .unset, .unset] [])) _
    refine st239 _ ?_
    show Steps p.tables e below (T239.setTop (mkF m 28 #[.val (.int p1), .val (.int p2), .val (.int p3), .val (.int p4), .val (.int (p4 &&& (3 : Int32))), .val (.int op), .val (.int bd), .unset, .unset, .unset, .unset] [(.ref fb)])) _
    refine XS.dup X239.here hx rfl (hb hby at_28) rfl rfl ?_
    show Steps p.tables e below (T239.setTop (mkF m 29 #[.val (.int p1), .val (.int p2), .val (.int p3), .val (.int p4), .val (.int (p4 &&& (3 : Int32))), .val (.int op), .val (.int bd), .unset, .unset, .unset, .unset] [(.ref fb), (.ref fb)])) _
    refine st243.trans ?_
    show Steps p.tables e below (T243.setTop (mkF m 32 #[.val (.int p1), .val (.int p2), .val (.int p3), .val (.int p4), .val (.int (p4 &&& (3 : Int32))), .val (.int op), .val (.int bd), .unset, .unset, .unset, .unset] [(.ref fb)])) _
    refine XS.astore X243.here hx rfl (hb hby at_32) rfl rfl (l' := #[.val (.int p1), .val (.int p2), .val (.int p3), .val (.int p4), .val (.int (p4 &&& (3 : Int32))), .val (.int op), .val (.int bd), .val (.ref fb), .unset, .unset, .unset]) rfl ?_
    exact kt
  rcases own_and3 p4 with hn | hn | hn | hn
  · have pre246 : ∀ t, Steps p.tables e below (T243.setTop (mkF m 34 #[.val (.int p1), .val (.int p2), .val (.int p3), .val (.int p4), .val (.int (0 : Int32)), .val (.int op), .val (.int bd), .val (.ref fb), .unset, .unset, .unset] [])) t → Steps p.tables e below (s₁.setTop (entryFrame m #[(.int p1), (.int p2), (.int p3), (.int p4)] maxLocals)) t := by
      intro t kt
      have hsv : (p4 &&& (3 : Int32)) = (0 : Int32) := hn
      refine pre245 t ?_
      rw [hsv]
      exact kt
    have Vpf : Arv Z T243.heap bb k1 .byte (8192 : Int32) [(.int (0 : Int32)), (.int (0 : Int32)), (.int (0 : Int32)), (.int (0 : Int32)), (.int (0 : Int32)), (.int (0 : Int32)), (.int (0 : Int32)), (.int (0 : Int32)), (.int (0 : Int32)), (.int (0 : Int32)), (.int (0 : Int32)), (.int (0 : Int32)), (.int (0 : Int32)), (.int (0 : Int32)), (.int (0 : Int32)), (.int (0 : Int32))] (.int (0 : Int32)) := V0
    have Fpf : Fld Z T243.heap fb "com/example/flex_actor/flexactor/core/FrameBuffer" "size" "I" (.int (Int32.ofNat 0)) := Fs0
    have pre247 : ∀ t, Steps p.tables e below (T243.setTop (mkF m 99 #[.val (.int p1), .val (.int p2), .val (.int p3), .val (.int p4), .val (.int (0 : Int32)), .val (.int op), .val (.int bd), .val (.ref fb), .val (.int (0 : Int32)), .unset, .unset] [(.int op)])) t → Steps p.tables e below (s₁.setTop (entryFrame m #[(.int p1), (.int p2), (.int p3), (.int p4)] maxLocals)) t := by
      intro t kt
      refine pre246 t ?_
      show Steps p.tables e below (T243.setTop (mkF m 34 #[.val (.int p1), .val (.int p2), .val (.int p3), .val (.int p4), .val (.int (0 : Int32)), .val (.int op), .val (.int bd), .val (.ref fb), .unset, .unset, .unset] [])) _
      refine XS.iload X243.here hx rfl (hb hby at_34) rfl ?_
      show Steps p.tables e below (T243.setTop (mkF m 36 #[.val (.int p1), .val (.int p2), .val (.int p3), .val (.int p4), .val (.int (0 : Int32)), .val (.int op), .val (.int bd), .val (.ref fb), .unset, .unset, .unset] [(.int (0 : Int32))])) _
      refine XS.iconst X243.here hx rfl (hb hby at_36) ?_
      show Steps p.tables e below (T243.setTop (mkF m 37 #[.val (.int p1), .val (.int p2), .val (.int p3), .val (.int p4), .val (.int (0 : Int32)), .val (.int op), .val (.int bd), .val (.ref fb), .unset, .unset, .unset] [(.int (1 : Int32)), (.int (0 : Int32))])) _
      refine XS.icmpYes X243.here hx rfl (pc0 := 37) (pc' := 52) rfl (hb hby at_37) rfl (feq (by decide)).2 (by decide) (by decide) ?_
      show Steps p.tables e below (T243.setTop (mkF m 52 #[.val (.int p1), .val (.int p2), .val (.int p3), .val (.int p4), .val (.int (0 : Int32)), .val (.int op), .val (.int bd), .val (.ref fb), .unset, .unset, .unset] [])) _
      refine XS.iload X243.here hx rfl (hb hby at_52) rfl ?_
      show Steps p.tables e below (T243.setTop (mkF m 54 #[.val (.int p1), .val (.int p2), .val (.int p3), .val (.int p4), .val (.int (0 : Int32)), .val (.int op), .val (.int bd), .val (.ref fb), .unset, .unset, .unset] [(.int (0 : Int32))])) _
      refine XS.iconst X243.here hx rfl (hb hby at_54) ?_
      show Steps p.tables e below (T243.setTop (mkF m 55 #[.val (.int p1), .val (.int p2), .val (.int p3), .val (.int p4), .val (.int (0 : Int32)), .val (.int op), .val (.int bd), .val (.ref fb), .unset, .unset, .unset] [(.int (2 : Int32)), (.int (0 : Int32))])) _
      refine XS.icmpYes X243.here hx rfl (pc0 := 55) (pc' := 70) rfl (hb hby at_55) rfl (feq (by decide)).2 (by decide) (by decide) ?_
      show Steps p.tables e below (T243.setTop (mkF m 70 #[.val (.int p1), .val (.int p2), .val (.int p3), .val (.int p4), .val (.int (0 : Int32)), .val (.int op), .val (.int bd), .val (.ref fb), .unset, .unset, .unset] [])) _
      refine XS.iload X243.here hx rfl (hb hby at_70) rfl ?_
      show Steps p.tables e below (T243.setTop (mkF m 72 #[.val (.int p1), .val (.int p2), .val (.int p3), .val (.int p4), .val (.int (0 : Int32)), .val (.int op), .val (.int bd), .val (.ref fb), .unset, .unset, .unset] [(.int (0 : Int32))])) _
      refine XS.iconst X243.here hx rfl (hb hby at_72) ?_
      show Steps p.tables e below (T243.setTop (mkF m 73 #[.val (.int p1), .val (.int p2), .val (.int p3), .val (.int p4), .val (.int (0 : Int32)), .val (.int op), .val (.int bd), .val (.ref fb), .unset, .unset, .unset] [(.int (3 : Int32)), (.int (0 : Int32))])) _
      refine XS.icmpYes X243.here hx rfl (pc0 := 73) (pc' := 94) rfl (hb hby at_73) rfl (feq (by decide)).2 (by decide) (by decide) ?_
      show Steps p.tables e below (T243.setTop (mkF m 94 #[.val (.int p1), .val (.int p2), .val (.int p3), .val (.int p4), .val (.int (0 : Int32)), .val (.int op), .val (.int bd), .val (.ref fb), .unset, .unset, .unset] [])) _
      refine XS.iconst X243.here hx rfl (hb hby at_94) ?_
      show Steps p.tables e below (T243.setTop (mkF m 95 #[.val (.int p1), .val (.int p2), .val (.int p3), .val (.int p4), .val (.int (0 : Int32)), .val (.int op), .val (.int bd), .val (.ref fb), .unset, .unset, .unset] [(.int (0 : Int32))])) _
      refine XS.istore X243.here hx rfl (hb hby at_95) rfl (l' := #[.val (.int p1), .val (.int p2), .val (.int p3), .val (.int p4), .val (.int (0 : Int32)), .val (.int op), .val (.int bd), .val (.ref fb), .val (.int (0 : Int32)), .unset, .unset]) rfl ?_
      show Steps p.tables e below (T243.setTop (mkF m 97 #[.val (.int p1), .val (.int p2), .val (.int p3), .val (.int p4), .val (.int (0 : Int32)), .val (.int op), .val (.int bd), .val (.ref fb), .val (.int (0 : Int32)), .unset, .unset] [])) _
      refine XS.iload X243.here hx rfl (hb hby at_97) rfl ?_
      exact kt
    obtain ⟨ws, Tm248, hm248, Lm248, Xm248, em248, Nm248, Km248, Zm248, hsp248, fm248_0, fm248_1, fm248_2, fm248_3, fm248_4, prem248⟩ : ∃ (ws : List Value) (Tm248 : State) (hm248 : Heap) (Lm248 : List Loc), Stand p l e room_1 s m #[(.int p1), (.int p2), (.int p3), (.int p4)] below meth c Tm248 Lm248 2 8195 ∧ Tm248.heap = hm248 ∧ Fr n0 Lm248 ∧ Keep h0 hm248 [] ∧ n0 ≤ hm248.size ∧ (ws.take 0 = [] ∧ ws.length = 16) ∧ Exa Z hm248 fb "com/example/flex_actor/flexactor/core/FrameBuffer" ∧ Fld Z hm248 fb "com/example/flex_actor/flexactor/core/FrameBuffer" "bytes" "[B" (.ref bb) ∧ Fld Z hm248 fb "com/example/flex_actor/flexactor/core/FrameBuffer" "size" "I" (.int (Int32.ofNat 0)) ∧ Fld Z hm248 fb "com/example/flex_actor/flexactor/core/FrameBuffer" "frameStart" "I" (.int (-1 : Int32)) ∧ Arv Z hm248 bb k1 .byte (8192 : Int32) ws (.int (0 : Int32)) ∧ ∀ t, Steps p.tables e below (Tm248.setTop (mkF m 141 #[.val (.int p1), .val (.int p2), .val (.int p3), .val (.int p4), .val (.int (0 : Int32)), .val (.int op), .val (.int bd), .val (.ref fb), .val (.int (0 : Int32)), .unset, .unset] [])) t → Steps p.tables e below (s₁.setTop (entryFrame m #[(.int p1), (.int p2), (.int p3), (.int p4)] maxLocals)) t := by
      by_cases hc99 : op = (0 : Int32)
      · obtain ⟨cq249, kq249, q249a, q249b, q249c⟩ := isOf hZ rfl f244
        obtain ⟨_, _, ⟨T249, L249, k249, n249⟩, -, X249, ⟨Lc249, hQ249, l249, y249, z249⟩, st249⟩ := X243.virtualBack hx (y := (⟨"com/example/flex_actor/flexactor/core/FrameBuffer", "abandon", "()V"⟩ : MethodName)) (z := (⟨"com/example/flex_actor/flexactor/core/FrameBuffer", "abandon", "()V"⟩ : MethodName)) hown (mvT hZ (hw _ (List.mem_of_getElem? (i := 29) rfl))) (mvT hZ (hw _ (List.mem_of_getElem? (i := 30) rfl))) (notFace_of_selects (args := #[]) (mvT hZ (hw _ (List.mem_of_getElem? (i := 32) rfl)))) (mvT hZ (hw _ (List.mem_of_getElem? (i := 32) rfl))) (mvT hZ (hw _ (List.mem_of_getElem? (i := 31) rfl))) (by decide) (backOf (W := 0) (rmA0 l Z a0 hw [] fb T243.heap n0 Z243 Ff0) hZ (hw _ (List.mem_of_getElem? (i := 33) rfl)) (hw _ (List.mem_of_getElem? (i := 2) rfl)) (by decide) (by decide)) q249a q249c (g := (mkF m 138 #[.val (.int p1), .val (.int p2), .val (.int p3), .val (.int p4), .val (.int (0 : Int32)), .val (.int op), .val (.int bd), .val (.ref fb), .val (.int (0 : Int32)), .unset, .unset] [(.ref fb)])) rfl (by rw [hml]; rfl) (Steps.refl _) (argsL := []) (rest := []) (lenOf pd_4 rfl) rfl (by show 2 * 0 + _ ≤ _; exact Nat.le_of_eq rfl) (hb hby at_138) (fun _ _ => ⟨rfl, rfl, (by decide : 2 + 0 ≤ _), (by decide : 8195 + 0 ≤ _)⟩)
        dsimp only [Pt.U, Pt.locs, Pt.cells, Pt.slots] at X249 l249 y249 z249 st249 hQ249
        subst l249 y249 z249
        obtain ⟨rfl, Nq249, eq249⟩ := hQ249
        have Nf249 := Fr.app Nf243 Nq249
        have pre250 : ∀ t, Steps p.tables e below (T249.setTop (mkF m 141 #[.val (.int p1), .val (.int p2), .val (.int p3), .val (.int p4), .val (.int (0 : Int32)), .val (.int op), .val (.int bd), .val (.ref fb), .val (.int (0 : Int32)), .unset, .unset] [])) t → Steps p.tables e below (s₁.setTop (entryFrame m #[(.int p1), (.int p2), (.int p3), (.int p4)] maxLocals)) t := by
          intro t kt
          refine pre247 t ?_
          show Steps p.tables e below (T243.setTop (mkF m 99 #[.val (.int p1), .val (.int p2), .val (.int p3), .val (.int p4), .val (.int (0 : Int32)), .val (.int op), .val (.int bd), .val (.ref fb), .val (.int (0 : Int32)), .unset, .unset] [(.int op)])) _
          refine XS.ifYes X243.here hx rfl (pc0 := 99) (pc' := 136) rfl (hb hby at_99) rfl ((if0 _ _).trans (teq hc99).1) (by decide) (by decide) ?_
          show Steps p.tables e below (T243.setTop (mkF m 136 #[.val (.int p1), .val (.int p2), .val (.int p3), .val (.int p4), .val (.int (0 : Int32)), .val (.int op), .val (.int bd), .val (.ref fb), .val (.int (0 : Int32)), .unset, .unset] [])) _
          refine XS.aload X243.here hx rfl (hb hby at_136) rfl rfl ?_
          show Steps p.tables e below (T243.setTop (mkF m 138 #[.val (.int p1), .val (.int p2), .val (.int p3), .val (.int p4), .val (.int (0 : Int32)), .val (.int op), .val (.int bd), .val (.ref fb), .val (.int (0 : Int32)), .unset, .unset] [(.ref fb)])) _
          refine st249.trans ?_
          exact kt
        refine ⟨[(.int (0 : Int32)), (.int (0 : Int32)), (.int (0 : Int32)), (.int (0 : Int32)), (.int (0 : Int32)), (.int (0 : Int32)), (.int (0 : Int32)), (.int (0 : Int32)), (.int (0 : Int32)), (.int (0 : Int32)), (.int (0 : Int32)), (.int (0 : Int32)), (.int (0 : Int32)), (.int (0 : Int32)), (.int (0 : Int32)), (.int (0 : Int32))], T249, T243.heap, _, X249, eq249, Nf249, K243, Z243, ?_, f244, Fb0, Fpf, Ff0, Vpf, pre250⟩
        exact ⟨rfl, rfl⟩
      · obtain ⟨cq251, kq251, q251a, q251b, q251c⟩ := isOf hZ rfl f244
        obtain ⟨_, _, ⟨T251, L251, k251, n251⟩, -, X251, ⟨Lc251, hQ251, l251, y251, z251⟩, st251⟩ := X243.virtualBack hx (y := (⟨"com/example/flex_actor/flexactor/core/FrameBuffer", "begin", "(B)V"⟩ : MethodName)) (z := (⟨"com/example/flex_actor/flexactor/core/FrameBuffer", "begin", "(B)V"⟩ : MethodName)) hown (mvT hZ (hw _ (List.mem_of_getElem? (i := 65) rfl))) (mvT hZ (hw _ (List.mem_of_getElem? (i := 66) rfl))) (notFace_of_selects (args := #[]) (mvT hZ (hw _ (List.mem_of_getElem? (i := 68) rfl)))) (mvT hZ (hw _ (List.mem_of_getElem? (i := 68) rfl))) (mvT hZ (hw _ (List.mem_of_getElem? (i := 67) rfl))) (by decide) (backOf (W := 0) (rmG l Z a0 hw [] fb bb k1 [(.int (0 : Int32)), (.int (0 : Int32)), (.int (0 : Int32)), (.int (0 : Int32)), (.int (0 : Int32)), (.int (0 : Int32)), (.int (0 : Int32)), (.int (0 : Int32)), (.int (0 : Int32)), (.int (0 : Int32)), (.int (0 : Int32)), (.int (0 : Int32)), (.int (0 : Int32)), (.int (0 : Int32)), (.int (0 : Int32)), (.int (0 : Int32))] 0 (p2.toInt8.toInt32) T243.heap n0 Z243 f244 Fb0 Fpf Ff0 Vpf  rfl ne_fb g_fb g_bb (by decide)) hZ (hw _ (List.mem_of_getElem? (i := 69) rfl)) (hw _ (List.mem_of_getElem? (i := 2) rfl)) (by decide) (by decide)) q251a q251c (g := (mkF m 106 #[.val (.int p1), .val (.int p2), .val (.int p3), .val (.int p4), .val (.int (0 : Int32)), .val (.int op), .val (.int bd), .val (.ref fb), .val (.int (0 : Int32)), .unset, .unset] [(.int (p2.toInt8.toInt32)), (.ref fb)])) rfl (by rw [hml]; rfl) (Steps.refl _) (argsL := [(.int (p2.toInt8.toInt32))]) (rest := []) (lenOf pd_5 rfl) rfl (by show 2 * 0 + _ ≤ _; exact Nat.le_of_eq rfl) (hb hby at_106) (fun _ _ => ⟨rfl, rfl, (by decide : 2 + 0 ≤ _), (by decide : 8195 + 0 ≤ _)⟩)
        dsimp only [Pt.U, Pt.locs, Pt.cells, Pt.slots] at X251 l251 y251 z251 st251 hQ251
        subst l251 y251 z251
        obtain ⟨rfl, Nq251, Kq251, Fbh, Fsh, Ffh, Vh⟩ := hQ251
        have f252 := (f244.keep Kq251)
        have Z251 : n0 ≤ T251.heap.size := Nat.le_trans Z243 Kq251.1
        have K251 : Keep h0 T251.heap [] := K243.trans Kq251 (allS (P := fun x => x ∈ ([] : List Addr) ∨ h0.size ≤ x) (Or.inr sz_fb) (allS (P := fun x => x ∈ ([] : List Addr) ∨ h0.size ≤ x) (Or.inr sz_bb) all0))
        have Nf251 := Fr.app Nf243 Nq251
        have pre253 : ∀ t, Steps p.tables e below (T251.setTop (mkF m 112 #[.val (.int p1), .val (.int p2), .val (.int p3), .val (.int p4), .val (.int (0 : Int32)), .val (.int op), .val (.int bd), .val (.ref fb), .val (.int (0 : Int32)), .unset, .unset] [(.int (1 : Int32)), (.int bd)])) t → Steps p.tables e below (s₁.setTop (entryFrame m #[(.int p1), (.int p2), (.int p3), (.int p4)] maxLocals)) t := by
          intro t kt
          refine pre247 t ?_
          show Steps p.tables e below (T243.setTop (mkF m 99 #[.val (.int p1), .val (.int p2), .val (.int p3), .val (.int p4), .val (.int (0 : Int32)), .val (.int op), .val (.int bd), .val (.ref fb), .val (.int (0 : Int32)), .unset, .unset] [(.int op)])) _
          refine XS.ifNo X243.here hx rfl (hb hby at_99) rfl ((if0 _ _).trans (feq hc99).1) ?_
          show Steps p.tables e below (T243.setTop (mkF m 102 #[.val (.int p1), .val (.int p2), .val (.int p3), .val (.int p4), .val (.int (0 : Int32)), .val (.int op), .val (.int bd), .val (.ref fb), .val (.int (0 : Int32)), .unset, .unset] [])) _
          refine XS.aload X243.here hx rfl (hb hby at_102) rfl rfl ?_
          show Steps p.tables e below (T243.setTop (mkF m 104 #[.val (.int p1), .val (.int p2), .val (.int p3), .val (.int p4), .val (.int (0 : Int32)), .val (.int op), .val (.int bd), .val (.ref fb), .val (.int (0 : Int32)), .unset, .unset] [(.ref fb)])) _
          refine XS.iloadN X243.here hx rfl (hb hby at_104) rfl ?_
          show Steps p.tables e below (T243.setTop (mkF m 105 #[.val (.int p1), .val (.int p2), .val (.int p3), .val (.int p4), .val (.int (0 : Int32)), .val (.int op), .val (.int bd), .val (.ref fb), .val (.int (0 : Int32)), .unset, .unset] [(.int p2), (.ref fb)])) _
          refine XS.i2b X243.here hx rfl (hb hby at_105) rfl ?_
          show Steps p.tables e below (T243.setTop (mkF m 106 #[.val (.int p1), .val (.int p2), .val (.int p3), .val (.int p4), .val (.int (0 : Int32)), .val (.int op), .val (.int bd), .val (.ref fb), .val (.int (0 : Int32)), .unset, .unset] [(.int (p2.toInt8.toInt32)), (.ref fb)])) _
          refine st251.trans ?_
          show Steps p.tables e below (T251.setTop (mkF m 109 #[.val (.int p1), .val (.int p2), .val (.int p3), .val (.int p4), .val (.int (0 : Int32)), .val (.int op), .val (.int bd), .val (.ref fb), .val (.int (0 : Int32)), .unset, .unset] [])) _
          refine XS.iload X251.here hx rfl (hb hby at_109) rfl ?_
          show Steps p.tables e below (T251.setTop (mkF m 111 #[.val (.int p1), .val (.int p2), .val (.int p3), .val (.int p4), .val (.int (0 : Int32)), .val (.int op), .val (.int bd), .val (.ref fb), .val (.int (0 : Int32)), .unset, .unset] [(.int bd)])) _
          refine XS.iconst X251.here hx rfl (hb hby at_111) ?_
          exact kt
        by_cases hc112 : bd = (1 : Int32)
        · obtain ⟨cq254, kq254, q254a, q254b, q254c⟩ := isOf hZ rfl f252
          obtain ⟨_, _, ⟨T254, L254, k254, n254⟩, -, X254, ⟨Lc254, hQ254, l254, y254, z254⟩, st254⟩ := X251.virtualBack hx (y := (⟨"com/example/flex_actor/flexactor/core/FrameBuffer", "writeInt", "(I)V"⟩ : MethodName)) (z := (⟨"com/example/flex_actor/flexactor/core/FrameBuffer", "writeInt", "(I)V"⟩ : MethodName)) hown (mvT hZ (hw _ (List.mem_of_getElem? (i := 14) rfl))) (mvT hZ (hw _ (List.mem_of_getElem? (i := 15) rfl))) (notFace_of_selects (args := #[]) (mvT hZ (hw _ (List.mem_of_getElem? (i := 17) rfl)))) (mvT hZ (hw _ (List.mem_of_getElem? (i := 17) rfl))) (mvT hZ (hw _ (List.mem_of_getElem? (i := 16) rfl))) (by decide) (backOf (W := 0) (rmW l Z a0 hw [] fb bb k1 ((own_put [(.int (0 : Int32)), (.int (0 : Int32)), (.int (0 : Int32)), (.int (0 : Int32)), (.int (0 : Int32)), (.int (0 : Int32)), (.int (0 : Int32)), (.int (0 : Int32)), (.int (0 : Int32)), (.int (0 : Int32)), (.int (0 : Int32)), (.int (0 : Int32)), (.int (0 : Int32)), (.int (0 : Int32)), (.int (0 : Int32)), (.int (0 : Int32))] 0 (0 : Int32)).set (0 + 4) (.int ((p2.toInt8.toInt32).toInt8.toInt32))) (0 + 4 + 1) (Int32.ofNat 0) p3 T251.heap n0 Z251 f252 Fbh Fsh Ffh Vh  (by rw [List.length_set, own_putl]; rfl) ne_fb g_fb g_bb (by decide)) hZ (hw _ (List.mem_of_getElem? (i := 18) rfl)) (hw _ (List.mem_of_getElem? (i := 2) rfl)) (by decide) (by decide)) q254a q254c (g := (mkF m 118 #[.val (.int p1), .val (.int p2), .val (.int p3), .val (.int p4), .val (.int (0 : Int32)), .val (.int op), .val (.int bd), .val (.ref fb), .val (.int (0 : Int32)), .unset, .unset] [(.int p3), (.ref fb)])) rfl (by rw [hml]; rfl) (Steps.refl _) (argsL := [(.int p3)]) (rest := []) (lenOf pd_0 rfl) rfl (by show 2 * 0 + _ ≤ _; exact Nat.le_of_eq rfl) (hb hby at_118) (fun _ _ => ⟨rfl, rfl, (by decide : 2 + 0 ≤ _), (by decide : 8195 + 0 ≤ _)⟩)
          dsimp only [Pt.U, Pt.locs, Pt.cells, Pt.slots] at X254 l254 y254 z254 st254 hQ254
          subst l254 y254 z254
          obtain ⟨rfl, Nq254, Kq254, Fbi, Fsi, Ffi, Vi⟩ := hQ254
          have f255 := (f252.keep Kq254)
          have Z254 : n0 ≤ T254.heap.size := Nat.le_trans Z251 Kq254.1
          have K254 : Keep h0 T254.heap [] := K251.trans Kq254 (allS (P := fun x => x ∈ ([] : List Addr) ∨ h0.size ≤ x) (Or.inr sz_fb) (allS (P := fun x => x ∈ ([] : List Addr) ∨ h0.size ≤ x) (Or.inr sz_bb) all0))
          have Nf254 := Fr.app Nf251 Nq254
          obtain ⟨cq256, kq256, q256a, q256b, q256c⟩ := isOf hZ rfl f255
          obtain ⟨_, _, ⟨T256, L256, k256, n256⟩, -, X256, ⟨Lc256, hQ256, l256, y256, z256⟩, st256⟩ := X254.virtualBack hx (y := (⟨"com/example/flex_actor/flexactor/core/FrameBuffer", "abandon", "()V"⟩ : MethodName)) (z := (⟨"com/example/flex_actor/flexactor/core/FrameBuffer", "abandon", "()V"⟩ : MethodName)) hown (mvT hZ (hw _ (List.mem_of_getElem? (i := 29) rfl))) (mvT hZ (hw _ (List.mem_of_getElem? (i := 30) rfl))) (notFace_of_selects (args := #[]) (mvT hZ (hw _ (List.mem_of_getElem? (i := 32) rfl)))) (mvT hZ (hw _ (List.mem_of_getElem? (i := 32) rfl))) (mvT hZ (hw _ (List.mem_of_getElem? (i := 31) rfl))) (by decide) (backOf (W := 0) (rmA1 l Z a0 hw [] fb bb k1 (own_put ((own_put [(.int (0 : Int32)), (.int (0 : Int32)), (.int (0 : Int32)), (.int (0 : Int32)), (.int (0 : Int32)), (.int (0 : Int32)), (.int (0 : Int32)), (.int (0 : Int32)), (.int (0 : Int32)), (.int (0 : Int32)), (.int (0 : Int32)), (.int (0 : Int32)), (.int (0 : Int32)), (.int (0 : Int32)), (.int (0 : Int32)), (.int (0 : Int32))] 0 (0 : Int32)).set (0 + 4) (.int ((p2.toInt8.toInt32).toInt8.toInt32))) (0 + 4 + 1) p3) (Int32.ofNat (0 + 4 + 1 + 4)) (Int32.ofNat 0) T254.heap n0 Z254 f255 Fbi Fsi Ffi Vi  (by rw [own_putl, List.length_set, own_putl]; rfl) ne_fb g_fb g_bb (by decide)) hZ (hw _ (List.mem_of_getElem? (i := 33) rfl)) (hw _ (List.mem_of_getElem? (i := 2) rfl)) (by decide) (by decide)) q256a q256c (g := (mkF m 138 #[.val (.int p1), .val (.int p2), .val (.int p3), .val (.int p4), .val (.int (0 : Int32)), .val (.int op), .val (.int bd), .val (.ref fb), .val (.int (0 : Int32)), .unset, .unset] [(.ref fb)])) rfl (by rw [hml]; rfl) (Steps.refl _) (argsL := []) (rest := []) (lenOf pd_4 rfl) rfl (by show 2 * 0 + _ ≤ _; exact Nat.le_of_eq rfl) (hb hby at_138) (fun _ _ => ⟨rfl, rfl, (by decide : 2 + 0 ≤ _), (by decide : 8195 + 0 ≤ _)⟩)
          dsimp only [Pt.U, Pt.locs, Pt.cells, Pt.slots] at X256 l256 y256 z256 st256 hQ256
          subst l256 y256 z256
          obtain ⟨rfl, Nq256, Kq256, Fbz, Fsz, Ffz, Vz⟩ := hQ256
          have f257 := (f255.keep Kq256)
          have Z256 : n0 ≤ T256.heap.size := Nat.le_trans Z254 Kq256.1
          have K256 : Keep h0 T256.heap [] := K254.trans Kq256 (allS (P := fun x => x ∈ ([] : List Addr) ∨ h0.size ≤ x) (Or.inr sz_fb) (allS (P := fun x => x ∈ ([] : List Addr) ∨ h0.size ≤ x) (Or.inr sz_bb) all0))
          have Nf256 := Fr.app Nf254 Nq256
          have pre258 : ∀ t, Steps p.tables e below (T256.setTop (mkF m 141 #[.val (.int p1), .val (.int p2), .val (.int p3), .val (.int p4), .val (.int (0 : Int32)), .val (.int op), .val (.int bd), .val (.ref fb), .val (.int (0 : Int32)), .unset, .unset] [])) t → Steps p.tables e below (s₁.setTop (entryFrame m #[(.int p1), (.int p2), (.int p3), (.int p4)] maxLocals)) t := by
            intro t kt
            refine pre253 t ?_
            show Steps p.tables e below (T251.setTop (mkF m 112 #[.val (.int p1), .val (.int p2), .val (.int p3), .val (.int p4), .val (.int (0 : Int32)), .val (.int op), .val (.int bd), .val (.ref fb), .val (.int (0 : Int32)), .unset, .unset] [(.int (1 : Int32)), (.int bd)])) _
            refine XS.icmpNo X251.here hx rfl (hb hby at_112) rfl (teq hc112).2 ?_
            show Steps p.tables e below (T251.setTop (mkF m 115 #[.val (.int p1), .val (.int p2), .val (.int p3), .val (.int p4), .val (.int (0 : Int32)), .val (.int op), .val (.int bd), .val (.ref fb), .val (.int (0 : Int32)), .unset, .unset] [])) _
            refine XS.aload X251.here hx rfl (hb hby at_115) rfl rfl ?_
            show Steps p.tables e below (T251.setTop (mkF m 117 #[.val (.int p1), .val (.int p2), .val (.int p3), .val (.int p4), .val (.int (0 : Int32)), .val (.int op), .val (.int bd), .val (.ref fb), .val (.int (0 : Int32)), .unset, .unset] [(.ref fb)])) _
            refine XS.iloadN X251.here hx rfl (hb hby at_117) rfl ?_
            show Steps p.tables e below (T251.setTop (mkF m 118 #[.val (.int p1), .val (.int p2), .val (.int p3), .val (.int p4), .val (.int (0 : Int32)), .val (.int op), .val (.int bd), .val (.ref fb), .val (.int (0 : Int32)), .unset, .unset] [(.int p3), (.ref fb)])) _
            refine st254.trans ?_
            show Steps p.tables e below (T254.setTop (mkF m 121 #[.val (.int p1), .val (.int p2), .val (.int p3), .val (.int p4), .val (.int (0 : Int32)), .val (.int op), .val (.int bd), .val (.ref fb), .val (.int (0 : Int32)), .unset, .unset] [])) _
            refine XS.goto X254.here hx rfl (pc0 := 121) (pc' := 136) rfl (hb hby at_121) (by decide) (by decide) ?_
            show Steps p.tables e below (T254.setTop (mkF m 136 #[.val (.int p1), .val (.int p2), .val (.int p3), .val (.int p4), .val (.int (0 : Int32)), .val (.int op), .val (.int bd), .val (.ref fb), .val (.int (0 : Int32)), .unset, .unset] [])) _
            refine XS.aload X254.here hx rfl (hb hby at_136) rfl rfl ?_
            show Steps p.tables e below (T254.setTop (mkF m 138 #[.val (.int p1), .val (.int p2), .val (.int p3), .val (.int p4), .val (.int (0 : Int32)), .val (.int op), .val (.int bd), .val (.ref fb), .val (.int (0 : Int32)), .unset, .unset] [(.ref fb)])) _
            refine st256.trans ?_
            exact kt
          refine ⟨(own_put ((own_put [(.int (0 : Int32)), (.int (0 : Int32)), (.int (0 : Int32)), (.int (0 : Int32)), (.int (0 : Int32)), (.int (0 : Int32)), (.int (0 : Int32)), (.int (0 : Int32)), (.int (0 : Int32)), (.int (0 : Int32)), (.int (0 : Int32)), (.int (0 : Int32)), (.int (0 : Int32)), (.int (0 : Int32)), (.int (0 : Int32)), (.int (0 : Int32))] 0 (0 : Int32)).set (0 + 4) (.int ((p2.toInt8.toInt32).toInt8.toInt32))) (0 + 4 + 1) p3), T256, T256.heap, _, X256, rfl, Nf256, K256, Z256, ?_, f257, Fbz, Fsz, Ffz, Vz, pre258⟩
          exact ⟨by rw [own_tkp _ _ _ _ (by decide), own_tks _ _ _ _ (by decide), own_tkp _ _ _ _ (by decide)]; rfl, by rw [own_putl, List.length_set, own_putl]; rfl⟩
        · have pre259 : ∀ t, Steps p.tables e below (T251.setTop (mkF m 127 #[.val (.int p1), .val (.int p2), .val (.int p3), .val (.int p4), .val (.int (0 : Int32)), .val (.int op), .val (.int bd), .val (.ref fb), .val (.int (0 : Int32)), .unset, .unset] [(.int (2 : Int32)), (.int bd)])) t → Steps p.tables e below (s₁.setTop (entryFrame m #[(.int p1), (.int p2), (.int p3), (.int p4)] maxLocals)) t := by
            intro t kt
            refine pre253 t ?_
            show Steps p.tables e below (T251.setTop (mkF m 112 #[.val (.int p1), .val (.int p2), .val (.int p3), .val (.int p4), .val (.int (0 : Int32)), .val (.int op), .val (.int bd), .val (.ref fb), .val (.int (0 : Int32)), .unset, .unset] [(.int (1 : Int32)), (.int bd)])) _
            refine XS.icmpYes X251.here hx rfl (pc0 := 112) (pc' := 124) rfl (hb hby at_112) rfl (feq hc112).2 (by decide) (by decide) ?_
            show Steps p.tables e below (T251.setTop (mkF m 124 #[.val (.int p1), .val (.int p2), .val (.int p3), .val (.int p4), .val (.int (0 : Int32)), .val (.int op), .val (.int bd), .val (.ref fb), .val (.int (0 : Int32)), .unset, .unset] [])) _
            refine XS.iload X251.here hx rfl (hb hby at_124) rfl ?_
            show Steps p.tables e below (T251.setTop (mkF m 126 #[.val (.int p1), .val (.int p2), .val (.int p3), .val (.int p4), .val (.int (0 : Int32)), .val (.int op), .val (.int bd), .val (.ref fb), .val (.int (0 : Int32)), .unset, .unset] [(.int bd)])) _
            refine XS.iconst X251.here hx rfl (hb hby at_126) ?_
            exact kt
          by_cases hc127 : bd = (2 : Int32)
          · obtain ⟨cq260, kq260, q260a, q260b, q260c⟩ := isOf hZ rfl f252
            obtain ⟨_, _, ⟨T260, L260, k260, n260⟩, -, X260, ⟨Lc260, hQ260, l260, y260, z260⟩, st260⟩ := X251.virtualBack hx (y := (⟨"com/example/flex_actor/flexactor/core/FrameBuffer", "writeByte", "(I)V"⟩ : MethodName)) (z := (⟨"com/example/flex_actor/flexactor/core/FrameBuffer", "writeByte", "(I)V"⟩ : MethodName)) hown (mvT hZ (hw _ (List.mem_of_getElem? (i := 39) rfl))) (mvT hZ (hw _ (List.mem_of_getElem? (i := 40) rfl))) (notFace_of_selects (args := #[]) (mvT hZ (hw _ (List.mem_of_getElem? (i := 42) rfl)))) (mvT hZ (hw _ (List.mem_of_getElem? (i := 42) rfl))) (mvT hZ (hw _ (List.mem_of_getElem? (i := 41) rfl))) (by decide) (backOf (W := 0) (rmB l Z a0 hw [] fb bb k1 ((own_put [(.int (0 : Int32)), (.int (0 : Int32)), (.int (0 : Int32)), (.int (0 : Int32)), (.int (0 : Int32)), (.int (0 : Int32)), (.int (0 : Int32)), (.int (0 : Int32)), (.int (0 : Int32)), (.int (0 : Int32)), (.int (0 : Int32)), (.int (0 : Int32)), (.int (0 : Int32)), (.int (0 : Int32)), (.int (0 : Int32)), (.int (0 : Int32))] 0 (0 : Int32)).set (0 + 4) (.int ((p2.toInt8.toInt32).toInt8.toInt32))) (0 + 4 + 1) (Int32.ofNat 0) p3 T251.heap n0 Z251 f252 Fbh Fsh Ffh Vh  (by rw [List.length_set, own_putl]; rfl) ne_fb g_fb g_bb (by decide)) hZ (hw _ (List.mem_of_getElem? (i := 43) rfl)) (hw _ (List.mem_of_getElem? (i := 2) rfl)) (by decide) (by decide)) q260a q260c (g := (mkF m 133 #[.val (.int p1), .val (.int p2), .val (.int p3), .val (.int p4), .val (.int (0 : Int32)), .val (.int op), .val (.int bd), .val (.ref fb), .val (.int (0 : Int32)), .unset, .unset] [(.int p3), (.ref fb)])) rfl (by rw [hml]; rfl) (Steps.refl _) (argsL := [(.int p3)]) (rest := []) (lenOf pd_0 rfl) rfl (by show 2 * 0 + _ ≤ _; exact Nat.le_of_eq rfl) (hb hby at_133) (fun _ _ => ⟨rfl, rfl, (by decide : 2 + 0 ≤ _), (by decide : 8195 + 0 ≤ _)⟩)
            dsimp only [Pt.U, Pt.locs, Pt.cells, Pt.slots] at X260 l260 y260 z260 st260 hQ260
            subst l260 y260 z260
            obtain ⟨rfl, Nq260, Kq260, Fbj, Fsj, Ffj, Vj⟩ := hQ260
            have f261 := (f252.keep Kq260)
            have Z260 : n0 ≤ T260.heap.size := Nat.le_trans Z251 Kq260.1
            have K260 : Keep h0 T260.heap [] := K251.trans Kq260 (allS (P := fun x => x ∈ ([] : List Addr) ∨ h0.size ≤ x) (Or.inr sz_fb) (allS (P := fun x => x ∈ ([] : List Addr) ∨ h0.size ≤ x) (Or.inr sz_bb) all0))
            have Nf260 := Fr.app Nf251 Nq260
            obtain ⟨cq262, kq262, q262a, q262b, q262c⟩ := isOf hZ rfl f261
            obtain ⟨_, _, ⟨T262, L262, k262, n262⟩, -, X262, ⟨Lc262, hQ262, l262, y262, z262⟩, st262⟩ := X260.virtualBack hx (y := (⟨"com/example/flex_actor/flexactor/core/FrameBuffer", "abandon", "()V"⟩ : MethodName)) (z := (⟨"com/example/flex_actor/flexactor/core/FrameBuffer", "abandon", "()V"⟩ : MethodName)) hown (mvT hZ (hw _ (List.mem_of_getElem? (i := 29) rfl))) (mvT hZ (hw _ (List.mem_of_getElem? (i := 30) rfl))) (notFace_of_selects (args := #[]) (mvT hZ (hw _ (List.mem_of_getElem? (i := 32) rfl)))) (mvT hZ (hw _ (List.mem_of_getElem? (i := 32) rfl))) (mvT hZ (hw _ (List.mem_of_getElem? (i := 31) rfl))) (by decide) (backOf (W := 0) (rmA1 l Z a0 hw [] fb bb k1 (((own_put [(.int (0 : Int32)), (.int (0 : Int32)), (.int (0 : Int32)), (.int (0 : Int32)), (.int (0 : Int32)), (.int (0 : Int32)), (.int (0 : Int32)), (.int (0 : Int32)), (.int (0 : Int32)), (.int (0 : Int32)), (.int (0 : Int32)), (.int (0 : Int32)), (.int (0 : Int32)), (.int (0 : Int32)), (.int (0 : Int32)), (.int (0 : Int32))] 0 (0 : Int32)).set (0 + 4) (.int ((p2.toInt8.toInt32).toInt8.toInt32))).set (0 + 4 + 1) (.int (p3.toInt8.toInt32))) (Int32.ofNat (0 + 4 + 1 + 1)) (Int32.ofNat 0) T260.heap n0 Z260 f261 Fbj Fsj Ffj Vj  (by rw [List.length_set, List.length_set, own_putl]; rfl) ne_fb g_fb g_bb (by decide)) hZ (hw _ (List.mem_of_getElem? (i := 33) rfl)) (hw _ (List.mem_of_getElem? (i := 2) rfl)) (by decide) (by decide)) q262a q262c (g := (mkF m 138 #[.val (.int p1), .val (.int p2), .val (.int p3), .val (.int p4), .val (.int (0 : Int32)), .val (.int op), .val (.int bd), .val (.ref fb), .val (.int (0 : Int32)), .unset, .unset] [(.ref fb)])) rfl (by rw [hml]; rfl) (Steps.refl _) (argsL := []) (rest := []) (lenOf pd_4 rfl) rfl (by show 2 * 0 + _ ≤ _; exact Nat.le_of_eq rfl) (hb hby at_138) (fun _ _ => ⟨rfl, rfl, (by decide : 2 + 0 ≤ _), (by decide : 8195 + 0 ≤ _)⟩)
            dsimp only [Pt.U, Pt.locs, Pt.cells, Pt.slots] at X262 l262 y262 z262 st262 hQ262
            subst l262 y262 z262
            obtain ⟨rfl, Nq262, Kq262, Fbz, Fsz, Ffz, Vz⟩ := hQ262
            have f263 := (f261.keep Kq262)
            have Z262 : n0 ≤ T262.heap.size := Nat.le_trans Z260 Kq262.1
            have K262 : Keep h0 T262.heap [] := K260.trans Kq262 (allS (P := fun x => x ∈ ([] : List Addr) ∨ h0.size ≤ x) (Or.inr sz_fb) (allS (P := fun x => x ∈ ([] : List Addr) ∨ h0.size ≤ x) (Or.inr sz_bb) all0))
            have Nf262 := Fr.app Nf260 Nq262
            have pre264 : ∀ t, Steps p.tables e below (T262.setTop (mkF m 141 #[.val (.int p1), .val (.int p2), .val (.int p3), .val (.int p4), .val (.int (0 : Int32)), .val (.int op), .val (.int bd), .val (.ref fb), .val (.int (0 : Int32)), .unset, .unset] [])) t → Steps p.tables e below (s₁.setTop (entryFrame m #[(.int p1), (.int p2), (.int p3), (.int p4)] maxLocals)) t := by
              intro t kt
              refine pre259 t ?_
              show Steps p.tables e below (T251.setTop (mkF m 127 #[.val (.int p1), .val (.int p2), .val (.int p3), .val (.int p4), .val (.int (0 : Int32)), .val (.int op), .val (.int bd), .val (.ref fb), .val (.int (0 : Int32)), .unset, .unset] [(.int (2 : Int32)), (.int bd)])) _
              refine XS.icmpNo X251.here hx rfl (hb hby at_127) rfl (teq hc127).2 ?_
              show Steps p.tables e below (T251.setTop (mkF m 130 #[.val (.int p1), .val (.int p2), .val (.int p3), .val (.int p4), .val (.int (0 : Int32)), .val (.int op), .val (.int bd), .val (.ref fb), .val (.int (0 : Int32)), .unset, .unset] [])) _
              refine XS.aload X251.here hx rfl (hb hby at_130) rfl rfl ?_
              show Steps p.tables e below (T251.setTop (mkF m 132 #[.val (.int p1), .val (.int p2), .val (.int p3), .val (.int p4), .val (.int (0 : Int32)), .val (.int op), .val (.int bd), .val (.ref fb), .val (.int (0 : Int32)), .unset, .unset] [(.ref fb)])) _
              refine XS.iloadN X251.here hx rfl (hb hby at_132) rfl ?_
              show Steps p.tables e below (T251.setTop (mkF m 133 #[.val (.int p1), .val (.int p2), .val (.int p3), .val (.int p4), .val (.int (0 : Int32)), .val (.int op), .val (.int bd), .val (.ref fb), .val (.int (0 : Int32)), .unset, .unset] [(.int p3), (.ref fb)])) _
              refine st260.trans ?_
              show Steps p.tables e below (T260.setTop (mkF m 136 #[.val (.int p1), .val (.int p2), .val (.int p3), .val (.int p4), .val (.int (0 : Int32)), .val (.int op), .val (.int bd), .val (.ref fb), .val (.int (0 : Int32)), .unset, .unset] [])) _
              refine XS.aload X260.here hx rfl (hb hby at_136) rfl rfl ?_
              show Steps p.tables e below (T260.setTop (mkF m 138 #[.val (.int p1), .val (.int p2), .val (.int p3), .val (.int p4), .val (.int (0 : Int32)), .val (.int op), .val (.int bd), .val (.ref fb), .val (.int (0 : Int32)), .unset, .unset] [(.ref fb)])) _
              refine st262.trans ?_
              exact kt
            refine ⟨(((own_put [(.int (0 : Int32)), (.int (0 : Int32)), (.int (0 : Int32)), (.int (0 : Int32)), (.int (0 : Int32)), (.int (0 : Int32)), (.int (0 : Int32)), (.int (0 : Int32)), (.int (0 : Int32)), (.int (0 : Int32)), (.int (0 : Int32)), (.int (0 : Int32)), (.int (0 : Int32)), (.int (0 : Int32)), (.int (0 : Int32)), (.int (0 : Int32))] 0 (0 : Int32)).set (0 + 4) (.int ((p2.toInt8.toInt32).toInt8.toInt32))).set (0 + 4 + 1) (.int (p3.toInt8.toInt32))), T262, T262.heap, _, X262, rfl, Nf262, K262, Z262, ?_, f263, Fbz, Fsz, Ffz, Vz, pre264⟩
            exact ⟨by rw [own_tks _ _ _ _ (by decide), own_tks _ _ _ _ (by decide), own_tkp _ _ _ _ (by decide)]; rfl, by rw [List.length_set, List.length_set, own_putl]; rfl⟩
          · obtain ⟨cq265, kq265, q265a, q265b, q265c⟩ := isOf hZ rfl f252
            obtain ⟨_, _, ⟨T265, L265, k265, n265⟩, -, X265, ⟨Lc265, hQ265, l265, y265, z265⟩, st265⟩ := X251.virtualBack hx (y := (⟨"com/example/flex_actor/flexactor/core/FrameBuffer", "abandon", "()V"⟩ : MethodName)) (z := (⟨"com/example/flex_actor/flexactor/core/FrameBuffer", "abandon", "()V"⟩ : MethodName)) hown (mvT hZ (hw _ (List.mem_of_getElem? (i := 29) rfl))) (mvT hZ (hw _ (List.mem_of_getElem? (i := 30) rfl))) (notFace_of_selects (args := #[]) (mvT hZ (hw _ (List.mem_of_getElem? (i := 32) rfl)))) (mvT hZ (hw _ (List.mem_of_getElem? (i := 32) rfl))) (mvT hZ (hw _ (List.mem_of_getElem? (i := 31) rfl))) (by decide) (backOf (W := 0) (rmA1 l Z a0 hw [] fb bb k1 ((own_put [(.int (0 : Int32)), (.int (0 : Int32)), (.int (0 : Int32)), (.int (0 : Int32)), (.int (0 : Int32)), (.int (0 : Int32)), (.int (0 : Int32)), (.int (0 : Int32)), (.int (0 : Int32)), (.int (0 : Int32)), (.int (0 : Int32)), (.int (0 : Int32)), (.int (0 : Int32)), (.int (0 : Int32)), (.int (0 : Int32)), (.int (0 : Int32))] 0 (0 : Int32)).set (0 + 4) (.int ((p2.toInt8.toInt32).toInt8.toInt32))) (Int32.ofNat (0 + 4 + 1)) (Int32.ofNat 0) T251.heap n0 Z251 f252 Fbh Fsh Ffh Vh  (by rw [List.length_set, own_putl]; rfl) ne_fb g_fb g_bb (by decide)) hZ (hw _ (List.mem_of_getElem? (i := 33) rfl)) (hw _ (List.mem_of_getElem? (i := 2) rfl)) (by decide) (by decide)) q265a q265c (g := (mkF m 138 #[.val (.int p1), .val (.int p2), .val (.int p3), .val (.int p4), .val (.int (0 : Int32)), .val (.int op), .val (.int bd), .val (.ref fb), .val (.int (0 : Int32)), .unset, .unset] [(.ref fb)])) rfl (by rw [hml]; rfl) (Steps.refl _) (argsL := []) (rest := []) (lenOf pd_4 rfl) rfl (by show 2 * 0 + _ ≤ _; exact Nat.le_of_eq rfl) (hb hby at_138) (fun _ _ => ⟨rfl, rfl, (by decide : 2 + 0 ≤ _), (by decide : 8195 + 0 ≤ _)⟩)
            dsimp only [Pt.U, Pt.locs, Pt.cells, Pt.slots] at X265 l265 y265 z265 st265 hQ265
            subst l265 y265 z265
            obtain ⟨rfl, Nq265, Kq265, Fbz, Fsz, Ffz, Vz⟩ := hQ265
            have f266 := (f252.keep Kq265)
            have Z265 : n0 ≤ T265.heap.size := Nat.le_trans Z251 Kq265.1
            have K265 : Keep h0 T265.heap [] := K251.trans Kq265 (allS (P := fun x => x ∈ ([] : List Addr) ∨ h0.size ≤ x) (Or.inr sz_fb) (allS (P := fun x => x ∈ ([] : List Addr) ∨ h0.size ≤ x) (Or.inr sz_bb) all0))
            have Nf265 := Fr.app Nf251 Nq265
            have pre267 : ∀ t, Steps p.tables e below (T265.setTop (mkF m 141 #[.val (.int p1), .val (.int p2), .val (.int p3), .val (.int p4), .val (.int (0 : Int32)), .val (.int op), .val (.int bd), .val (.ref fb), .val (.int (0 : Int32)), .unset, .unset] [])) t → Steps p.tables e below (s₁.setTop (entryFrame m #[(.int p1), (.int p2), (.int p3), (.int p4)] maxLocals)) t := by
              intro t kt
              refine pre259 t ?_
              show Steps p.tables e below (T251.setTop (mkF m 127 #[.val (.int p1), .val (.int p2), .val (.int p3), .val (.int p4), .val (.int (0 : Int32)), .val (.int op), .val (.int bd), .val (.ref fb), .val (.int (0 : Int32)), .unset, .unset] [(.int (2 : Int32)), (.int bd)])) _
              refine XS.icmpYes X251.here hx rfl (pc0 := 127) (pc' := 136) rfl (hb hby at_127) rfl (feq hc127).2 (by decide) (by decide) ?_
              show Steps p.tables e below (T251.setTop (mkF m 136 #[.val (.int p1), .val (.int p2), .val (.int p3), .val (.int p4), .val (.int (0 : Int32)), .val (.int op), .val (.int bd), .val (.ref fb), .val (.int (0 : Int32)), .unset, .unset] [])) _
              refine XS.aload X251.here hx rfl (hb hby at_136) rfl rfl ?_
              show Steps p.tables e below (T251.setTop (mkF m 138 #[.val (.int p1), .val (.int p2), .val (.int p3), .val (.int p4), .val (.int (0 : Int32)), .val (.int op), .val (.int bd), .val (.ref fb), .val (.int (0 : Int32)), .unset, .unset] [(.ref fb)])) _
              refine st265.trans ?_
              exact kt
            refine ⟨((own_put [(.int (0 : Int32)), (.int (0 : Int32)), (.int (0 : Int32)), (.int (0 : Int32)), (.int (0 : Int32)), (.int (0 : Int32)), (.int (0 : Int32)), (.int (0 : Int32)), (.int (0 : Int32)), (.int (0 : Int32)), (.int (0 : Int32)), (.int (0 : Int32)), (.int (0 : Int32)), (.int (0 : Int32)), (.int (0 : Int32)), (.int (0 : Int32))] 0 (0 : Int32)).set (0 + 4) (.int ((p2.toInt8.toInt32).toInt8.toInt32))), T265, T265.heap, _, X265, rfl, Nf265, K265, Z265, ?_, f266, Fbz, Fsz, Ffz, Vz, pre267⟩
            exact ⟨by rw [own_tks _ _ _ _ (by decide), own_tkp _ _ _ _ (by decide)]; rfl, by rw [List.length_set, own_putl]; rfl⟩
    obtain ⟨cq268, kq268, q268a, q268b, q268c⟩ := isOf hZ em248 fm248_0
    obtain ⟨_, _, ⟨T268, L268, k268, n268⟩, -, X268, ⟨Lc268, hQ268, l268, y268, z268⟩, st268⟩ := Xm248.virtualBack hx (y := (⟨"com/example/flex_actor/flexactor/core/FrameBuffer", "size", "()I"⟩ : MethodName)) (z := (⟨"com/example/flex_actor/flexactor/core/FrameBuffer", "size", "()I"⟩ : MethodName)) hown (mvT hZ (hw _ (List.mem_of_getElem? (i := 34) rfl))) (mvT hZ (hw _ (List.mem_of_getElem? (i := 35) rfl))) (notFace_of_selects (args := #[]) (mvT hZ (hw _ (List.mem_of_getElem? (i := 37) rfl)))) (mvT hZ (hw _ (List.mem_of_getElem? (i := 37) rfl))) (mvT hZ (hw _ (List.mem_of_getElem? (i := 36) rfl))) (by decide) (backOf (W := 0) (rmS l Z a0 hw [] fb (Int32.ofNat 0) hm248 n0 Zm248 fm248_2) hZ (hw _ (List.mem_of_getElem? (i := 38) rfl)) (hw _ (List.mem_of_getElem? (i := 2) rfl)) (by decide) (by decide)) q268a q268c (g := (mkF m 143 #[.val (.int p1), .val (.int p2), .val (.int p3), .val (.int p4), .val (.int (0 : Int32)), .val (.int op), .val (.int bd), .val (.ref fb), .val (.int (0 : Int32)), .unset, .unset] [(.ref fb)])) rfl (by rw [hml]; rfl) (Steps.refl _) (argsL := []) (rest := []) (lenOf pd_6 rfl) rfl (by show 2 * 0 + _ ≤ _; exact Nat.le_of_eq rfl) (hb hby at_143) (fun _ _ => ⟨rfl, em248, (by decide : 2 + 0 ≤ _), (by decide : 8195 + 0 ≤ _)⟩)
    dsimp only [Pt.U, Pt.locs, Pt.cells, Pt.slots] at X268 l268 y268 z268 st268 hQ268
    subst l268 y268 z268
    obtain ⟨rfl, Nq268, eq268⟩ := hQ268
    have Nf268 := Fr.app Nm248 Nq268
    obtain ⟨cq269, kq269, q269a, q269b, q269c⟩ := isOf hZ eq268 fm248_0
    obtain ⟨_, _, ⟨T269, L269, k269, n269⟩, -, X269, ⟨Lc269, hQ269, l269, y269, z269⟩, st269⟩ := X268.virtualBack hx (y := (⟨"com/example/flex_actor/flexactor/core/FrameBuffer", "writeByte", "(I)V"⟩ : MethodName)) (z := (⟨"com/example/flex_actor/flexactor/core/FrameBuffer", "writeByte", "(I)V"⟩ : MethodName)) hown (mvT hZ (hw _ (List.mem_of_getElem? (i := 39) rfl))) (mvT hZ (hw _ (List.mem_of_getElem? (i := 40) rfl))) (notFace_of_selects (args := #[]) (mvT hZ (hw _ (List.mem_of_getElem? (i := 42) rfl)))) (mvT hZ (hw _ (List.mem_of_getElem? (i := 42) rfl))) (mvT hZ (hw _ (List.mem_of_getElem? (i := 41) rfl))) (by decide) (backOf (W := 0) (rmB l Z a0 hw [] fb bb k1 ws 0 (-1 : Int32) p3 hm248 n0 Zm248 fm248_0 fm248_1 fm248_2 fm248_3 fm248_4  hsp248.2 ne_fb g_fb g_bb (by decide)) hZ (hw _ (List.mem_of_getElem? (i := 43) rfl)) (hw _ (List.mem_of_getElem? (i := 2) rfl)) (by decide) (by decide)) q269a q269c (g := (mkF m 151 #[.val (.int p1), .val (.int p2), .val (.int p3), .val (.int p4), .val (.int (0 : Int32)), .val (.int op), .val (.int bd), .val (.ref fb), .val (.int (0 : Int32)), .val (.int (Int32.ofNat 0)), .unset] [(.int p3), (.ref fb)])) rfl (by rw [hml]; rfl) (Steps.refl _) (argsL := [(.int p3)]) (rest := []) (lenOf pd_0 rfl) rfl (by show 2 * 0 + _ ≤ _; exact Nat.le_of_eq rfl) (hb hby at_151) (fun _ _ => ⟨rfl, eq268, (by decide : 2 + 0 ≤ _), (by decide : 8195 + 0 ≤ _)⟩)
    dsimp only [Pt.U, Pt.locs, Pt.cells, Pt.slots] at X269 l269 y269 z269 st269 hQ269
    subst l269 y269 z269
    obtain ⟨rfl, Nq269, Kq269, Fbc, Fsc, Ffc, Vc⟩ := hQ269
    have f270 := (fm248_0.keep Kq269)
    have Z269 : n0 ≤ T269.heap.size := Nat.le_trans Zm248 Kq269.1
    have K269 : Keep h0 T269.heap [] := Km248.trans Kq269 (allS (P := fun x => x ∈ ([] : List Addr) ∨ h0.size ≤ x) (Or.inr sz_fb) (allS (P := fun x => x ∈ ([] : List Addr) ∨ h0.size ≤ x) (Or.inr sz_bb) all0))
    have Nf269 := Fr.app Nf268 Nq269
    obtain ⟨cq271, kq271, q271a, q271b, q271c⟩ := isOf hZ rfl f270
    obtain ⟨_, _, ⟨T271, L271, k271, n271⟩, -, X271, ⟨Lc271, hQ271, l271, y271, z271⟩, st271⟩ := X269.virtualBack hx (y := (⟨"com/example/flex_actor/flexactor/core/FrameBuffer", "abandon", "()V"⟩ : MethodName)) (z := (⟨"com/example/flex_actor/flexactor/core/FrameBuffer", "abandon", "()V"⟩ : MethodName)) hown (mvT hZ (hw _ (List.mem_of_getElem? (i := 29) rfl))) (mvT hZ (hw _ (List.mem_of_getElem? (i := 30) rfl))) (notFace_of_selects (args := #[]) (mvT hZ (hw _ (List.mem_of_getElem? (i := 32) rfl)))) (mvT hZ (hw _ (List.mem_of_getElem? (i := 32) rfl))) (mvT hZ (hw _ (List.mem_of_getElem? (i := 31) rfl))) (by decide) (backOf (W := 0) (rmA0 l Z a0 hw [] fb T269.heap n0 Z269 Ffc) hZ (hw _ (List.mem_of_getElem? (i := 33) rfl)) (hw _ (List.mem_of_getElem? (i := 2) rfl)) (by decide) (by decide)) q271a q271c (g := (mkF m 156 #[.val (.int p1), .val (.int p2), .val (.int p3), .val (.int p4), .val (.int (0 : Int32)), .val (.int op), .val (.int bd), .val (.ref fb), .val (.int (0 : Int32)), .val (.int (Int32.ofNat 0)), .unset] [(.ref fb)])) rfl (by rw [hml]; rfl) (Steps.refl _) (argsL := []) (rest := []) (lenOf pd_4 rfl) rfl (by show 2 * 0 + _ ≤ _; exact Nat.le_of_eq rfl) (hb hby at_156) (fun _ _ => ⟨rfl, rfl, (by decide : 2 + 0 ≤ _), (by decide : 8195 + 0 ≤ _)⟩)
    dsimp only [Pt.U, Pt.locs, Pt.cells, Pt.slots] at X271 l271 y271 z271 st271 hQ271
    subst l271 y271 z271
    obtain ⟨rfl, Nq271, eq271⟩ := hQ271
    have Nf271 := Fr.app Nf269 Nq271
    obtain ⟨cq272, kq272, q272a, q272b, q272c⟩ := isOf hZ eq271 f270
    obtain ⟨_, _, ⟨T272, L272, k272, n272⟩, -, X272, ⟨Lc272, hQ272, l272, y272, z272⟩, st272⟩ := X271.virtualBack hx (y := (⟨"com/example/flex_actor/flexactor/core/FrameBuffer", "toByteArray", "()[B"⟩ : MethodName)) (z := (⟨"com/example/flex_actor/flexactor/core/FrameBuffer", "toByteArray", "()[B"⟩ : MethodName)) hown (mvT hZ (hw _ (List.mem_of_getElem? (i := 44) rfl))) (mvT hZ (hw _ (List.mem_of_getElem? (i := 45) rfl))) (notFace_of_selects (args := #[]) (mvT hZ (hw _ (List.mem_of_getElem? (i := 47) rfl)))) (mvT hZ (hw _ (List.mem_of_getElem? (i := 47) rfl))) (mvT hZ (hw _ (List.mem_of_getElem? (i := 46) rfl))) (by decide) (backOf (W := 0) (rmT l Z a0 hw [] fb bb k1 (ws.set 0 (.int (p3.toInt8.toInt32))) (0 + 1) T269.heap n0 Z269 Fbc Fsc Vc (by decide)) hZ (hw _ (List.mem_of_getElem? (i := 48) rfl)) (hw _ (List.mem_of_getElem? (i := 2) rfl)) (by decide) (by decide)) q272a q272c (g := (mkF m 161 #[.val (.int p1), .val (.int p2), .val (.int p3), .val (.int p4), .val (.int (0 : Int32)), .val (.int op), .val (.int bd), .val (.ref fb), .val (.int (0 : Int32)), .val (.int (Int32.ofNat 0)), .unset] [(.ref fb)])) rfl (by rw [hml]; rfl) (Steps.refl _) (argsL := []) (rest := []) (lenOf pd_7 rfl) rfl (by show 2 * 0 + _ ≤ _; exact Nat.le_of_eq rfl) (hb hby at_161) (fun _ _ => ⟨rfl, eq271, (by decide : 2 + 1 ≤ _), (by decide : 8195 + 16 ≤ _)⟩)
    dsimp only [Pt.U, Pt.locs, Pt.cells, Pt.slots] at X272 l272 y272 z272 st272 hQ272
    subst l272 y272 z272
    obtain ⟨r, kr, rfl, Nq272, Kq272, szr, Vr0⟩ := hQ272
    have f273 := (f270.keep Kq272)
    have f274 := (Fbc.keep Kq272 nin0)
    have f275 := (Fsc.keep Kq272 nin0)
    have f276 := (Ffc.keep Kq272 nin0)
    have f277 := (Vc.keep Kq272 nin0)
    have Z272 : n0 ≤ T272.heap.size := Nat.le_trans Z269 Kq272.1
    have K272 : Keep h0 T272.heap [] := K269.trans Kq272 all0
    have Nf272 := Fr.app Nf271 Nq272
    rw [own_tk ws [] _ _ 0 hsp248.2 hsp248.1 (by decide)] at Vr0
    have Vr : Arv Z T272.heap r kr .byte (1 : Int32) [(.int (p3.toInt8.toInt32))] (.int (0 : Int32)) := Vr0
    have pre278 : ∀ t, Steps p.tables e below (T272.setTop (mkF m 164 #[.val (.int p1), .val (.int p2), .val (.int p3), .val (.int p4), .val (.int (0 : Int32)), .val (.int op), .val (.int bd), .val (.ref fb), .val (.int (0 : Int32)), .val (.int (Int32.ofNat 0)), .unset] [(.ref r)])) t → Steps p.tables e below (s₁.setTop (entryFrame m #[(.int p1), (.int p2), (.int p3), (.int p4)] maxLocals)) t := by
      intro t kt
      refine prem248 t ?_
      show Steps p.tables e below (Tm248.setTop (mkF m 141 #[.val (.int p1), .val (.int p2), .val (.int p3), .val (.int p4), .val (.int (0 : Int32)), .val (.int op), .val (.int bd), .val (.ref fb), .val (.int (0 : Int32)), .unset, .unset] [])) _
      refine XS.aload Xm248.here hx rfl (hb hby at_141) rfl rfl ?_
      show Steps p.tables e below (Tm248.setTop (mkF m 143 #[.val (.int p1), .val (.int p2), .val (.int p3), .val (.int p4), .val (.int (0 : Int32)), .val (.int op), .val (.int bd), .val (.ref fb), .val (.int (0 : Int32)), .unset, .unset] [(.ref fb)])) _
      refine st268.trans ?_
      show Steps p.tables e below (T268.setTop (mkF m 146 #[.val (.int p1), .val (.int p2), .val (.int p3), .val (.int p4), .val (.int (0 : Int32)), .val (.int op), .val (.int bd), .val (.ref fb), .val (.int (0 : Int32)), .unset, .unset] [(.int (Int32.ofNat 0))])) _
      refine XS.istore X268.here hx rfl (hb hby at_146) rfl (l' := #[.val (.int p1), .val (.int p2), .val (.int p3), .val (.int p4), .val (.int (0 : Int32)), .val (.int op), .val (.int bd), .val (.ref fb), .val (.int (0 : Int32)), .val (.int (Int32.ofNat 0)), .unset]) rfl ?_
      show Steps p.tables e below (T268.setTop (mkF m 148 #[.val (.int p1), .val (.int p2), .val (.int p3), .val (.int p4), .val (.int (0 : Int32)), .val (.int op), .val (.int bd), .val (.ref fb), .val (.int (0 : Int32)), .val (.int (Int32.ofNat 0)), .unset] [])) _
      refine XS.aload X268.here hx rfl (hb hby at_148) rfl rfl ?_
      show Steps p.tables e below (T268.setTop (mkF m 150 #[.val (.int p1), .val (.int p2), .val (.int p3), .val (.int p4), .val (.int (0 : Int32)), .val (.int op), .val (.int bd), .val (.ref fb), .val (.int (0 : Int32)), .val (.int (Int32.ofNat 0)), .unset] [(.ref fb)])) _
      refine XS.iloadN X268.here hx rfl (hb hby at_150) rfl ?_
      show Steps p.tables e below (T268.setTop (mkF m 151 #[.val (.int p1), .val (.int p2), .val (.int p3), .val (.int p4), .val (.int (0 : Int32)), .val (.int op), .val (.int bd), .val (.ref fb), .val (.int (0 : Int32)), .val (.int (Int32.ofNat 0)), .unset] [(.int p3), (.ref fb)])) _
      refine st269.trans ?_
      show Steps p.tables e below (T269.setTop (mkF m 154 #[.val (.int p1), .val (.int p2), .val (.int p3), .val (.int p4), .val (.int (0 : Int32)), .val (.int op), .val (.int bd), .val (.ref fb), .val (.int (0 : Int32)), .val (.int (Int32.ofNat 0)), .unset] [])) _
      refine XS.aload X269.here hx rfl (hb hby at_154) rfl rfl ?_
      show Steps p.tables e below (T269.setTop (mkF m 156 #[.val (.int p1), .val (.int p2), .val (.int p3), .val (.int p4), .val (.int (0 : Int32)), .val (.int op), .val (.int bd), .val (.ref fb), .val (.int (0 : Int32)), .val (.int (Int32.ofNat 0)), .unset] [(.ref fb)])) _
      refine st271.trans ?_
      show Steps p.tables e below (T271.setTop (mkF m 159 #[.val (.int p1), .val (.int p2), .val (.int p3), .val (.int p4), .val (.int (0 : Int32)), .val (.int op), .val (.int bd), .val (.ref fb), .val (.int (0 : Int32)), .val (.int (Int32.ofNat 0)), .unset] [])) _
      refine XS.aload X271.here hx rfl (hb hby at_159) rfl rfl ?_
      show Steps p.tables e below (T271.setTop (mkF m 161 #[.val (.int p1), .val (.int p2), .val (.int p3), .val (.int p4), .val (.int (0 : Int32)), .val (.int op), .val (.int bd), .val (.ref fb), .val (.int (0 : Int32)), .val (.int (Int32.ofNat 0)), .unset] [(.ref fb)])) _
      refine st272.trans ?_
      exact kt
    have pre279 : ∀ t, Steps p.tables e below (T272.setTop (mkF m 164 #[.val (.int p1), .val (.int p2), .val (.int p3), .val (.int p4), .val (.int (0 : Int32)), .val (.int op), .val (.int bd), .val (.ref fb), .val (.int (0 : Int32)), .val (.int (0 : Int32)), .unset] [(.ref r)])) t → Steps p.tables e below (s₁.setTop (entryFrame m #[(.int p1), (.int p2), (.int p3), (.int p4)] maxLocals)) t := by
      intro t kt
      have hsv : (Int32.ofNat 0) = (0 : Int32) := rfl
      refine pre278 t ?_
      rw [hsv]
      exact kt
    obtain ⟨_, _, ⟨T280, L280, k280, n280⟩, -, X280, ⟨Lc280, hQ280, l280, y280, z280⟩, st280⟩ := Jvm.LawKit.callS X272 hx (y := (⟨"com/example/flex_actor/flexactor/core/FrameBufferAbandonPinLaw", "prefixOk", "([BII)Z"⟩ : MethodName)) hown (mvT hZ (hw _ (List.mem_of_getElem? (i := 61) rfl))) (mvT hZ (hw _ (List.mem_of_getElem? (i := 62) rfl))) (mvT hZ (hw _ (List.mem_of_getElem? (i := 63) rfl))) (mvT hZ (hw _ (List.mem_of_getElem? (i := 64) rfl))) (by decide) (backOf (W := 0) (rmK0 l Z a0 hw [] r kr (p3.toInt8.toInt32) p1 T272.heap n0 Z272 Vr) hZ (hw _ (List.mem_of_getElem? (i := 64) rfl)) (hw _ (List.mem_of_getElem? (i := 63) rfl)) (by decide) (by decide)) (g := (mkF m 188 #[.val (.int p1), .val (.int p2), .val (.int p3), .val (.int p4), .val (.int (0 : Int32)), .val (.int op), .val (.int bd), .val (.ref fb), .val (.int (0 : Int32)), .val (.int (0 : Int32)), .val (.ref r)] [(.int p1), (.int (0 : Int32)), (.ref r)])) rfl (by rw [hml]; rfl) (argsL := [(.ref r), (.int (0 : Int32)), (.int p1)]) (rest := []) (lenOf pd_8 rfl) rfl (by show 2 * 0 + _ ≤ _; exact Nat.le_of_eq rfl) (hb hby at_188) (fun _ _ => ⟨rfl, rfl, (by decide : 3 + 0 ≤ _), (by decide : 8211 + 0 ≤ _)⟩)
    dsimp only [Pt.U, Pt.locs, Pt.cells, Pt.slots] at X280 l280 y280 z280 st280 hQ280
    subst l280 y280 z280
    obtain ⟨rfl, Nq280, eq280⟩ := hQ280
    have Nf280 := Fr.app Nf272 Nq280
    have pre281 : ∀ t, Steps p.tables e below (T280.setTop (mkF m 209 #[.val (.int p1), .val (.int p2), .val (.int p3), .val (.int p4), .val (.int (0 : Int32)), .val (.int op), .val (.int bd), .val (.ref fb), .val (.int (0 : Int32)), .val (.int (0 : Int32)), .val (.ref r)] [(.int (1 : Int32))])) t → Steps p.tables e below (s₁.setTop (entryFrame m #[(.int p1), (.int p2), (.int p3), (.int p4)] maxLocals)) t := by
      intro t kt
      refine pre279 t ?_
      show Steps p.tables e below (T272.setTop (mkF m 164 #[.val (.int p1), .val (.int p2), .val (.int p3), .val (.int p4), .val (.int (0 : Int32)), .val (.int op), .val (.int bd), .val (.ref fb), .val (.int (0 : Int32)), .val (.int (0 : Int32)), .unset] [(.ref r)])) _
      refine XS.astore X272.here hx rfl (hb hby at_164) rfl rfl (l' := #[.val (.int p1), .val (.int p2), .val (.int p3), .val (.int p4), .val (.int (0 : Int32)), .val (.int op), .val (.int bd), .val (.ref fb), .val (.int (0 : Int32)), .val (.int (0 : Int32)), .val (.ref r)]) rfl ?_
      show Steps p.tables e below (T272.setTop (mkF m 166 #[.val (.int p1), .val (.int p2), .val (.int p3), .val (.int p4), .val (.int (0 : Int32)), .val (.int op), .val (.int bd), .val (.ref fb), .val (.int (0 : Int32)), .val (.int (0 : Int32)), .val (.ref r)] [])) _
      refine XS.iload X272.here hx rfl (hb hby at_166) rfl ?_
      show Steps p.tables e below (T272.setTop (mkF m 168 #[.val (.int p1), .val (.int p2), .val (.int p3), .val (.int p4), .val (.int (0 : Int32)), .val (.int op), .val (.int bd), .val (.ref fb), .val (.int (0 : Int32)), .val (.int (0 : Int32)), .val (.ref r)] [(.int (0 : Int32))])) _
      refine XS.iload X272.here hx rfl (hb hby at_168) rfl ?_
      show Steps p.tables e below (T272.setTop (mkF m 170 #[.val (.int p1), .val (.int p2), .val (.int p3), .val (.int p4), .val (.int (0 : Int32)), .val (.int op), .val (.int bd), .val (.ref fb), .val (.int (0 : Int32)), .val (.int (0 : Int32)), .val (.ref r)] [(.int (0 : Int32)), (.int (0 : Int32))])) _
      refine XS.icmpNo X272.here hx rfl (hb hby at_170) rfl (teq rfl).2 ?_
      show Steps p.tables e below (T272.setTop (mkF m 173 #[.val (.int p1), .val (.int p2), .val (.int p3), .val (.int p4), .val (.int (0 : Int32)), .val (.int op), .val (.int bd), .val (.ref fb), .val (.int (0 : Int32)), .val (.int (0 : Int32)), .val (.ref r)] [])) _
      refine XS.aload X272.here hx rfl (hb hby at_173) rfl rfl ?_
      show Steps p.tables e below (T272.setTop (mkF m 175 #[.val (.int p1), .val (.int p2), .val (.int p3), .val (.int p4), .val (.int (0 : Int32)), .val (.int op), .val (.int bd), .val (.ref fb), .val (.int (0 : Int32)), .val (.int (0 : Int32)), .val (.ref r)] [(.ref r)])) _
      refine own_len X272 hx hZ rfl Vr (g := (mkF m 175 #[.val (.int p1), .val (.int p2), .val (.int p3), .val (.int p4), .val (.int (0 : Int32)), .val (.int op), .val (.int bd), .val (.ref fb), .val (.int (0 : Int32)), .val (.int (0 : Int32)), .val (.ref r)] [(.ref r)])) rfl rfl (hb hby at_175) _ ?_
      show Steps p.tables e below (T272.setTop (mkF m 176 #[.val (.int p1), .val (.int p2), .val (.int p3), .val (.int p4), .val (.int (0 : Int32)), .val (.int op), .val (.int bd), .val (.ref fb), .val (.int (0 : Int32)), .val (.int (0 : Int32)), .val (.ref r)] [(.int (1 : Int32))])) _
      refine XS.iload X272.here hx rfl (hb hby at_176) rfl ?_
      show Steps p.tables e below (T272.setTop (mkF m 178 #[.val (.int p1), .val (.int p2), .val (.int p3), .val (.int p4), .val (.int (0 : Int32)), .val (.int op), .val (.int bd), .val (.ref fb), .val (.int (0 : Int32)), .val (.int (0 : Int32)), .val (.ref r)] [(.int (0 : Int32)), (.int (1 : Int32))])) _
      refine XS.iconst X272.here hx rfl (hb hby at_178) ?_
      show Steps p.tables e below (T272.setTop (mkF m 179 #[.val (.int p1), .val (.int p2), .val (.int p3), .val (.int p4), .val (.int (0 : Int32)), .val (.int op), .val (.int bd), .val (.ref fb), .val (.int (0 : Int32)), .val (.int (0 : Int32)), .val (.ref r)] [(.int (1 : Int32)), (.int (0 : Int32)), (.int (1 : Int32))])) _
      refine XS.iadd X272.here hx rfl (hb hby at_179) rfl ?_
      show Steps p.tables e below (T272.setTop (mkF m 180 #[.val (.int p1), .val (.int p2), .val (.int p3), .val (.int p4), .val (.int (0 : Int32)), .val (.int op), .val (.int bd), .val (.ref fb), .val (.int (0 : Int32)), .val (.int (0 : Int32)), .val (.ref r)] [(.int (1 : Int32)), (.int (1 : Int32))])) _
      refine XS.icmpNo X272.here hx rfl (hb hby at_180) rfl (teq rfl).2 ?_
      show Steps p.tables e below (T272.setTop (mkF m 183 #[.val (.int p1), .val (.int p2), .val (.int p3), .val (.int p4), .val (.int (0 : Int32)), .val (.int op), .val (.int bd), .val (.ref fb), .val (.int (0 : Int32)), .val (.int (0 : Int32)), .val (.ref r)] [])) _
      refine XS.aload X272.here hx rfl (hb hby at_183) rfl rfl ?_
      show Steps p.tables e below (T272.setTop (mkF m 185 #[.val (.int p1), .val (.int p2), .val (.int p3), .val (.int p4), .val (.int (0 : Int32)), .val (.int op), .val (.int bd), .val (.ref fb), .val (.int (0 : Int32)), .val (.int (0 : Int32)), .val (.ref r)] [(.ref r)])) _
      refine XS.iload X272.here hx rfl (hb hby at_185) rfl ?_
      show Steps p.tables e below (T272.setTop (mkF m 187 #[.val (.int p1), .val (.int p2), .val (.int p3), .val (.int p4), .val (.int (0 : Int32)), .val (.int op), .val (.int bd), .val (.ref fb), .val (.int (0 : Int32)), .val (.int (0 : Int32)), .val (.ref r)] [(.int (0 : Int32)), (.ref r)])) _
      refine XS.iloadN X272.here hx rfl (hb hby at_187) rfl ?_
      show Steps p.tables e below (T272.setTop (mkF m 188 #[.val (.int p1), .val (.int p2), .val (.int p3), .val (.int p4), .val (.int (0 : Int32)), .val (.int op), .val (.int bd), .val (.ref fb), .val (.int (0 : Int32)), .val (.int (0 : Int32)), .val (.ref r)] [(.int p1), (.int (0 : Int32)), (.ref r)])) _
      refine st280 _ ?_
      show Steps p.tables e below (T280.setTop (mkF m 191 #[.val (.int p1), .val (.int p2), .val (.int p3), .val (.int p4), .val (.int (0 : Int32)), .val (.int op), .val (.int bd), .val (.ref fb), .val (.int (0 : Int32)), .val (.int (0 : Int32)), .val (.ref r)] [(.int (1 : Int32))])) _
      refine XS.ifNo X280.here hx rfl (hb hby at_191) rfl ((if0 _ _).trans (feq (by decide)).1) ?_
      show Steps p.tables e below (T280.setTop (mkF m 194 #[.val (.int p1), .val (.int p2), .val (.int p3), .val (.int p4), .val (.int (0 : Int32)), .val (.int op), .val (.int bd), .val (.ref fb), .val (.int (0 : Int32)), .val (.int (0 : Int32)), .val (.ref r)] [])) _
      refine XS.aload X280.here hx rfl (hb hby at_194) rfl rfl ?_
      show Steps p.tables e below (T280.setTop (mkF m 196 #[.val (.int p1), .val (.int p2), .val (.int p3), .val (.int p4), .val (.int (0 : Int32)), .val (.int op), .val (.int bd), .val (.ref fb), .val (.int (0 : Int32)), .val (.int (0 : Int32)), .val (.ref r)] [(.ref r)])) _
      refine XS.iload X280.here hx rfl (hb hby at_196) rfl ?_
      show Steps p.tables e below (T280.setTop (mkF m 198 #[.val (.int p1), .val (.int p2), .val (.int p3), .val (.int p4), .val (.int (0 : Int32)), .val (.int op), .val (.int bd), .val (.ref fb), .val (.int (0 : Int32)), .val (.int (0 : Int32)), .val (.ref r)] [(.int (0 : Int32)), (.ref r)])) _
      refine own_bal X280 hx hZ eq280 Vr (j := (0 : Int32)) ⟨by decide, by decide⟩ (v := (.int (p3.toInt8.toInt32))) rfl (g := (mkF m 198 #[.val (.int p1), .val (.int p2), .val (.int p3), .val (.int p4), .val (.int (0 : Int32)), .val (.int op), .val (.int bd), .val (.ref fb), .val (.int (0 : Int32)), .val (.int (0 : Int32)), .val (.ref r)] [(.int (0 : Int32)), (.ref r)])) rfl rfl (hb hby at_198) _ ?_
      show Steps p.tables e below (T280.setTop (mkF m 199 #[.val (.int p1), .val (.int p2), .val (.int p3), .val (.int p4), .val (.int (0 : Int32)), .val (.int op), .val (.int bd), .val (.ref fb), .val (.int (0 : Int32)), .val (.int (0 : Int32)), .val (.ref r)] [(.int (p3.toInt8.toInt32))])) _
      refine XS.iloadN X280.here hx rfl (hb hby at_199) rfl ?_
      show Steps p.tables e below (T280.setTop (mkF m 200 #[.val (.int p1), .val (.int p2), .val (.int p3), .val (.int p4), .val (.int (0 : Int32)), .val (.int op), .val (.int bd), .val (.ref fb), .val (.int (0 : Int32)), .val (.int (0 : Int32)), .val (.ref r)] [(.int p3), (.int (p3.toInt8.toInt32))])) _
      refine XS.i2b X280.here hx rfl (hb hby at_200) rfl ?_
      show Steps p.tables e below (T280.setTop (mkF m 201 #[.val (.int p1), .val (.int p2), .val (.int p3), .val (.int p4), .val (.int (0 : Int32)), .val (.int op), .val (.int bd), .val (.ref fb), .val (.int (0 : Int32)), .val (.int (0 : Int32)), .val (.ref r)] [(.int (p3.toInt8.toInt32)), (.int (p3.toInt8.toInt32))])) _
      refine XS.icmpNo X280.here hx rfl (hb hby at_201) rfl (teq rfl).2 ?_
      show Steps p.tables e below (T280.setTop (mkF m 204 #[.val (.int p1), .val (.int p2), .val (.int p3), .val (.int p4), .val (.int (0 : Int32)), .val (.int op), .val (.int bd), .val (.ref fb), .val (.int (0 : Int32)), .val (.int (0 : Int32)), .val (.ref r)] [])) _
      refine XS.iconst X280.here hx rfl (hb hby at_204) ?_
      show Steps p.tables e below (T280.setTop (mkF m 205 #[.val (.int p1), .val (.int p2), .val (.int p3), .val (.int p4), .val (.int (0 : Int32)), .val (.int op), .val (.int bd), .val (.ref fb), .val (.int (0 : Int32)), .val (.int (0 : Int32)), .val (.ref r)] [(.int (1 : Int32))])) _
      refine XS.goto X280.here hx rfl (pc0 := 205) (pc' := 209) rfl (hb hby at_205) (by decide) (by decide) ?_
      exact kt
    obtain ⟨fsx, hr, hrun, hended, hW, hsame⟩ := X280.leave (v := some (.int (nar .boolean (1 : Int32)))) (fun h => by rw [Bd.returns] at h; cases h)
    refine ⟨_, _, pre281 _ ?_, hrun, hended, _, _, rfl, ?_, ⟨_, rfl⟩, hW, hsame.mono (by decide) (by decide)⟩
    · exact retN X280 hx (t := .boolean) Bd.returns (by simp) (hb hby at_209) hr
    · show Q0 Z p1 p2 p3 p4 h0 n0 _ T280.heap _
      rw [eq280]
      exact ⟨rfl, Nf280⟩
  · have pre282 : ∀ t, Steps p.tables e below (T243.setTop (mkF m 34 #[.val (.int p1), .val (.int p2), .val (.int p3), .val (.int p4), .val (.int (1 : Int32)), .val (.int op), .val (.int bd), .val (.ref fb), .unset, .unset, .unset] [])) t → Steps p.tables e below (s₁.setTop (entryFrame m #[(.int p1), (.int p2), (.int p3), (.int p4)] maxLocals)) t := by
      intro t kt
      have hsv : (p4 &&& (3 : Int32)) = (1 : Int32) := hn
      refine pre245 t ?_
      rw [hsv]
      exact kt
    obtain ⟨cq283, kq283, q283a, q283b, q283c⟩ := isOf hZ rfl f244
    obtain ⟨_, _, ⟨T283, L283, k283, n283⟩, -, X283, ⟨Lc283, hQ283, l283, y283, z283⟩, st283⟩ := X243.virtualBack hx (y := (⟨"com/example/flex_actor/flexactor/core/FrameBuffer", "writeInt", "(I)V"⟩ : MethodName)) (z := (⟨"com/example/flex_actor/flexactor/core/FrameBuffer", "writeInt", "(I)V"⟩ : MethodName)) hown (mvT hZ (hw _ (List.mem_of_getElem? (i := 14) rfl))) (mvT hZ (hw _ (List.mem_of_getElem? (i := 15) rfl))) (notFace_of_selects (args := #[]) (mvT hZ (hw _ (List.mem_of_getElem? (i := 17) rfl)))) (mvT hZ (hw _ (List.mem_of_getElem? (i := 17) rfl))) (mvT hZ (hw _ (List.mem_of_getElem? (i := 16) rfl))) (by decide) (backOf (W := 0) (rmW l Z a0 hw [] fb bb k1 [(.int (0 : Int32)), (.int (0 : Int32)), (.int (0 : Int32)), (.int (0 : Int32)), (.int (0 : Int32)), (.int (0 : Int32)), (.int (0 : Int32)), (.int (0 : Int32)), (.int (0 : Int32)), (.int (0 : Int32)), (.int (0 : Int32)), (.int (0 : Int32)), (.int (0 : Int32)), (.int (0 : Int32)), (.int (0 : Int32)), (.int (0 : Int32))] 0 (-1 : Int32) p1 T243.heap n0 Z243 f244 Fb0 Fs0 Ff0 V0  rfl ne_fb g_fb g_bb (by decide)) hZ (hw _ (List.mem_of_getElem? (i := 18) rfl)) (hw _ (List.mem_of_getElem? (i := 2) rfl)) (by decide) (by decide)) q283a q283c (g := (mkF m 43 #[.val (.int p1), .val (.int p2), .val (.int p3), .val (.int p4), .val (.int (1 : Int32)), .val (.int op), .val (.int bd), .val (.ref fb), .unset, .unset, .unset] [(.int p1), (.ref fb)])) rfl (by rw [hml]; rfl) (Steps.refl _) (argsL := [(.int p1)]) (rest := []) (lenOf pd_0 rfl) rfl (by show 2 * 0 + _ ≤ _; exact Nat.le_of_eq rfl) (hb hby at_43) (fun _ _ => ⟨rfl, rfl, (by decide : 2 + 0 ≤ _), (by decide : 8195 + 0 ≤ _)⟩)
    dsimp only [Pt.U, Pt.locs, Pt.cells, Pt.slots] at X283 l283 y283 z283 st283 hQ283
    subst l283 y283 z283
    obtain ⟨rfl, Nq283, Kq283, Fb1, Fs1, Ff1, V1⟩ := hQ283
    have f284 := (f244.keep Kq283)
    have Z283 : n0 ≤ T283.heap.size := Nat.le_trans Z243 Kq283.1
    have K283 : Keep h0 T283.heap [] := K243.trans Kq283 (allS (P := fun x => x ∈ ([] : List Addr) ∨ h0.size ≤ x) (Or.inr sz_fb) (allS (P := fun x => x ∈ ([] : List Addr) ∨ h0.size ≤ x) (Or.inr sz_bb) all0))
    have Nf283 := Fr.app Nf243 Nq283
    have Vpf : Arv Z T283.heap bb k1 .byte (8192 : Int32) [(.int (((p1.toUInt32 >>> ((24 : Int32) &&& 31).toUInt32).toInt32).toInt8.toInt32)), (.int (((p1.toUInt32 >>> ((16 : Int32) &&& 31).toUInt32).toInt32).toInt8.toInt32)), (.int (((p1.toUInt32 >>> ((8 : Int32) &&& 31).toUInt32).toInt32).toInt8.toInt32)), (.int (p1.toInt8.toInt32)), (.int (0 : Int32)), (.int (0 : Int32)), (.int (0 : Int32)), (.int (0 : Int32)), (.int (0 : Int32)), (.int (0 : Int32)), (.int (0 : Int32)), (.int (0 : Int32)), (.int (0 : Int32)), (.int (0 : Int32)), (.int (0 : Int32)), (.int (0 : Int32))] (.int (0 : Int32)) := V1
    have Fpf : Fld Z T283.heap fb "com/example/flex_actor/flexactor/core/FrameBuffer" "size" "I" (.int (Int32.ofNat 4)) := Fs1
    have pre285 : ∀ t, Steps p.tables e below (T283.setTop (mkF m 99 #[.val (.int p1), .val (.int p2), .val (.int p3), .val (.int p4), .val (.int (1 : Int32)), .val (.int op), .val (.int bd), .val (.ref fb), .val (.int (4 : Int32)), .unset, .unset] [(.int op)])) t → Steps p.tables e below (s₁.setTop (entryFrame m #[(.int p1), (.int p2), (.int p3), (.int p4)] maxLocals)) t := by
      intro t kt
      refine pre282 t ?_
      show Steps p.tables e below (T243.setTop (mkF m 34 #[.val (.int p1), .val (.int p2), .val (.int p3), .val (.int p4), .val (.int (1 : Int32)), .val (.int op), .val (.int bd), .val (.ref fb), .unset, .unset, .unset] [])) _
      refine XS.iload X243.here hx rfl (hb hby at_34) rfl ?_
      show Steps p.tables e below (T243.setTop (mkF m 36 #[.val (.int p1), .val (.int p2), .val (.int p3), .val (.int p4), .val (.int (1 : Int32)), .val (.int op), .val (.int bd), .val (.ref fb), .unset, .unset, .unset] [(.int (1 : Int32))])) _
      refine XS.iconst X243.here hx rfl (hb hby at_36) ?_
      show Steps p.tables e below (T243.setTop (mkF m 37 #[.val (.int p1), .val (.int p2), .val (.int p3), .val (.int p4), .val (.int (1 : Int32)), .val (.int op), .val (.int bd), .val (.ref fb), .unset, .unset, .unset] [(.int (1 : Int32)), (.int (1 : Int32))])) _
      refine XS.icmpNo X243.here hx rfl (hb hby at_37) rfl (teq (by decide)).2 ?_
      show Steps p.tables e below (T243.setTop (mkF m 40 #[.val (.int p1), .val (.int p2), .val (.int p3), .val (.int p4), .val (.int (1 : Int32)), .val (.int op), .val (.int bd), .val (.ref fb), .unset, .unset, .unset] [])) _
      refine XS.aload X243.here hx rfl (hb hby at_40) rfl rfl ?_
      show Steps p.tables e below (T243.setTop (mkF m 42 #[.val (.int p1), .val (.int p2), .val (.int p3), .val (.int p4), .val (.int (1 : Int32)), .val (.int op), .val (.int bd), .val (.ref fb), .unset, .unset, .unset] [(.ref fb)])) _
      refine XS.iloadN X243.here hx rfl (hb hby at_42) rfl ?_
      show Steps p.tables e below (T243.setTop (mkF m 43 #[.val (.int p1), .val (.int p2), .val (.int p3), .val (.int p4), .val (.int (1 : Int32)), .val (.int op), .val (.int bd), .val (.ref fb), .unset, .unset, .unset] [(.int p1), (.ref fb)])) _
      refine st283.trans ?_
      show Steps p.tables e below (T283.setTop (mkF m 46 #[.val (.int p1), .val (.int p2), .val (.int p3), .val (.int p4), .val (.int (1 : Int32)), .val (.int op), .val (.int bd), .val (.ref fb), .unset, .unset, .unset] [])) _
      refine XS.iconst X283.here hx rfl (hb hby at_46) ?_
      show Steps p.tables e below (T283.setTop (mkF m 47 #[.val (.int p1), .val (.int p2), .val (.int p3), .val (.int p4), .val (.int (1 : Int32)), .val (.int op), .val (.int bd), .val (.ref fb), .unset, .unset, .unset] [(.int (4 : Int32))])) _
      refine XS.istore X283.here hx rfl (hb hby at_47) rfl (l' := #[.val (.int p1), .val (.int p2), .val (.int p3), .val (.int p4), .val (.int (1 : Int32)), .val (.int op), .val (.int bd), .val (.ref fb), .val (.int (4 : Int32)), .unset, .unset]) rfl ?_
      show Steps p.tables e below (T283.setTop (mkF m 49 #[.val (.int p1), .val (.int p2), .val (.int p3), .val (.int p4), .val (.int (1 : Int32)), .val (.int op), .val (.int bd), .val (.ref fb), .val (.int (4 : Int32)), .unset, .unset] [])) _
      refine XS.goto X283.here hx rfl (pc0 := 49) (pc' := 97) rfl (hb hby at_49) (by decide) (by decide) ?_
      show Steps p.tables e below (T283.setTop (mkF m 97 #[.val (.int p1), .val (.int p2), .val (.int p3), .val (.int p4), .val (.int (1 : Int32)), .val (.int op), .val (.int bd), .val (.ref fb), .val (.int (4 : Int32)), .unset, .unset] [])) _
      refine XS.iload X283.here hx rfl (hb hby at_97) rfl ?_
      exact kt
    obtain ⟨ws, Tm286, hm286, Lm286, Xm286, em286, Nm286, Km286, Zm286, hsp286, fm286_0, fm286_1, fm286_2, fm286_3, fm286_4, prem286⟩ : ∃ (ws : List Value) (Tm286 : State) (hm286 : Heap) (Lm286 : List Loc), Stand p l e room_1 s m #[(.int p1), (.int p2), (.int p3), (.int p4)] below meth c Tm286 Lm286 2 8195 ∧ Tm286.heap = hm286 ∧ Fr n0 Lm286 ∧ Keep h0 hm286 [] ∧ n0 ≤ hm286.size ∧ (ws.take 4 = [(.int (((p1.toUInt32 >>> ((24 : Int32) &&& 31).toUInt32).toInt32).toInt8.toInt32)), (.int (((p1.toUInt32 >>> ((16 : Int32) &&& 31).toUInt32).toInt32).toInt8.toInt32)), (.int (((p1.toUInt32 >>> ((8 : Int32) &&& 31).toUInt32).toInt32).toInt8.toInt32)), (.int (p1.toInt8.toInt32))] ∧ ws.length = 16) ∧ Exa Z hm286 fb "com/example/flex_actor/flexactor/core/FrameBuffer" ∧ Fld Z hm286 fb "com/example/flex_actor/flexactor/core/FrameBuffer" "bytes" "[B" (.ref bb) ∧ Fld Z hm286 fb "com/example/flex_actor/flexactor/core/FrameBuffer" "size" "I" (.int (Int32.ofNat 4)) ∧ Fld Z hm286 fb "com/example/flex_actor/flexactor/core/FrameBuffer" "frameStart" "I" (.int (-1 : Int32)) ∧ Arv Z hm286 bb k1 .byte (8192 : Int32) ws (.int (0 : Int32)) ∧ ∀ t, Steps p.tables e below (Tm286.setTop (mkF m 141 #[.val (.int p1), .val (.int p2), .val (.int p3), .val (.int p4), .val (.int (1 : Int32)), .val (.int op), .val (.int bd), .val (.ref fb), .val (.int (4 : Int32)), .unset, .unset] [])) t → Steps p.tables e below (s₁.setTop (entryFrame m #[(.int p1), (.int p2), (.int p3), (.int p4)] maxLocals)) t := by
      by_cases hc99 : op = (0 : Int32)
      · obtain ⟨cq287, kq287, q287a, q287b, q287c⟩ := isOf hZ rfl f284
        obtain ⟨_, _, ⟨T287, L287, k287, n287⟩, -, X287, ⟨Lc287, hQ287, l287, y287, z287⟩, st287⟩ := X283.virtualBack hx (y := (⟨"com/example/flex_actor/flexactor/core/FrameBuffer", "abandon", "()V"⟩ : MethodName)) (z := (⟨"com/example/flex_actor/flexactor/core/FrameBuffer", "abandon", "()V"⟩ : MethodName)) hown (mvT hZ (hw _ (List.mem_of_getElem? (i := 29) rfl))) (mvT hZ (hw _ (List.mem_of_getElem? (i := 30) rfl))) (notFace_of_selects (args := #[]) (mvT hZ (hw _ (List.mem_of_getElem? (i := 32) rfl)))) (mvT hZ (hw _ (List.mem_of_getElem? (i := 32) rfl))) (mvT hZ (hw _ (List.mem_of_getElem? (i := 31) rfl))) (by decide) (backOf (W := 0) (rmA0 l Z a0 hw [] fb T283.heap n0 Z283 Ff1) hZ (hw _ (List.mem_of_getElem? (i := 33) rfl)) (hw _ (List.mem_of_getElem? (i := 2) rfl)) (by decide) (by decide)) q287a q287c (g := (mkF m 138 #[.val (.int p1), .val (.int p2), .val (.int p3), .val (.int p4), .val (.int (1 : Int32)), .val (.int op), .val (.int bd), .val (.ref fb), .val (.int (4 : Int32)), .unset, .unset] [(.ref fb)])) rfl (by rw [hml]; rfl) (Steps.refl _) (argsL := []) (rest := []) (lenOf pd_4 rfl) rfl (by show 2 * 0 + _ ≤ _; exact Nat.le_of_eq rfl) (hb hby at_138) (fun _ _ => ⟨rfl, rfl, (by decide : 2 + 0 ≤ _), (by decide : 8195 + 0 ≤ _)⟩)
        dsimp only [Pt.U, Pt.locs, Pt.cells, Pt.slots] at X287 l287 y287 z287 st287 hQ287
        subst l287 y287 z287
        obtain ⟨rfl, Nq287, eq287⟩ := hQ287
        have Nf287 := Fr.app Nf283 Nq287
        have pre288 : ∀ t, Steps p.tables e below (T287.setTop (mkF m 141 #[.val (.int p1), .val (.int p2), .val (.int p3), .val (.int p4), .val (.int (1 : Int32)), .val (.int op), .val (.int bd), .val (.ref fb), .val (.int (4 : Int32)), .unset, .unset] [])) t → Steps p.tables e below (s₁.setTop (entryFrame m #[(.int p1), (.int p2), (.int p3), (.int p4)] maxLocals)) t := by
          intro t kt
          refine pre285 t ?_
          show Steps p.tables e below (T283.setTop (mkF m 99 #[.val (.int p1), .val (.int p2), .val (.int p3), .val (.int p4), .val (.int (1 : Int32)), .val (.int op), .val (.int bd), .val (.ref fb), .val (.int (4 : Int32)), .unset, .unset] [(.int op)])) _
          refine XS.ifYes X283.here hx rfl (pc0 := 99) (pc' := 136) rfl (hb hby at_99) rfl ((if0 _ _).trans (teq hc99).1) (by decide) (by decide) ?_
          show Steps p.tables e below (T283.setTop (mkF m 136 #[.val (.int p1), .val (.int p2), .val (.int p3), .val (.int p4), .val (.int (1 : Int32)), .val (.int op), .val (.int bd), .val (.ref fb), .val (.int (4 : Int32)), .unset, .unset] [])) _
          refine XS.aload X283.here hx rfl (hb hby at_136) rfl rfl ?_
          show Steps p.tables e below (T283.setTop (mkF m 138 #[.val (.int p1), .val (.int p2), .val (.int p3), .val (.int p4), .val (.int (1 : Int32)), .val (.int op), .val (.int bd), .val (.ref fb), .val (.int (4 : Int32)), .unset, .unset] [(.ref fb)])) _
          refine st287.trans ?_
          exact kt
        refine ⟨[(.int (((p1.toUInt32 >>> ((24 : Int32) &&& 31).toUInt32).toInt32).toInt8.toInt32)), (.int (((p1.toUInt32 >>> ((16 : Int32) &&& 31).toUInt32).toInt32).toInt8.toInt32)), (.int (((p1.toUInt32 >>> ((8 : Int32) &&& 31).toUInt32).toInt32).toInt8.toInt32)), (.int (p1.toInt8.toInt32)), (.int (0 : Int32)), (.int (0 : Int32)), (.int (0 : Int32)), (.int (0 : Int32)), (.int (0 : Int32)), (.int (0 : Int32)), (.int (0 : Int32)), (.int (0 : Int32)), (.int (0 : Int32)), (.int (0 : Int32)), (.int (0 : Int32)), (.int (0 : Int32))], T287, T283.heap, _, X287, eq287, Nf287, K283, Z283, ?_, f284, Fb1, Fpf, Ff1, Vpf, pre288⟩
        exact ⟨rfl, rfl⟩
      · obtain ⟨cq289, kq289, q289a, q289b, q289c⟩ := isOf hZ rfl f284
        obtain ⟨_, _, ⟨T289, L289, k289, n289⟩, -, X289, ⟨Lc289, hQ289, l289, y289, z289⟩, st289⟩ := X283.virtualBack hx (y := (⟨"com/example/flex_actor/flexactor/core/FrameBuffer", "begin", "(B)V"⟩ : MethodName)) (z := (⟨"com/example/flex_actor/flexactor/core/FrameBuffer", "begin", "(B)V"⟩ : MethodName)) hown (mvT hZ (hw _ (List.mem_of_getElem? (i := 65) rfl))) (mvT hZ (hw _ (List.mem_of_getElem? (i := 66) rfl))) (notFace_of_selects (args := #[]) (mvT hZ (hw _ (List.mem_of_getElem? (i := 68) rfl)))) (mvT hZ (hw _ (List.mem_of_getElem? (i := 68) rfl))) (mvT hZ (hw _ (List.mem_of_getElem? (i := 67) rfl))) (by decide) (backOf (W := 0) (rmG l Z a0 hw [] fb bb k1 [(.int (((p1.toUInt32 >>> ((24 : Int32) &&& 31).toUInt32).toInt32).toInt8.toInt32)), (.int (((p1.toUInt32 >>> ((16 : Int32) &&& 31).toUInt32).toInt32).toInt8.toInt32)), (.int (((p1.toUInt32 >>> ((8 : Int32) &&& 31).toUInt32).toInt32).toInt8.toInt32)), (.int (p1.toInt8.toInt32)), (.int (0 : Int32)), (.int (0 : Int32)), (.int (0 : Int32)), (.int (0 : Int32)), (.int (0 : Int32)), (.int (0 : Int32)), (.int (0 : Int32)), (.int (0 : Int32)), (.int (0 : Int32)), (.int (0 : Int32)), (.int (0 : Int32)), (.int (0 : Int32))] 4 (p2.toInt8.toInt32) T283.heap n0 Z283 f284 Fb1 Fpf Ff1 Vpf  rfl ne_fb g_fb g_bb (by decide)) hZ (hw _ (List.mem_of_getElem? (i := 69) rfl)) (hw _ (List.mem_of_getElem? (i := 2) rfl)) (by decide) (by decide)) q289a q289c (g := (mkF m 106 #[.val (.int p1), .val (.int p2), .val (.int p3), .val (.int p4), .val (.int (1 : Int32)), .val (.int op), .val (.int bd), .val (.ref fb), .val (.int (4 : Int32)), .unset, .unset] [(.int (p2.toInt8.toInt32)), (.ref fb)])) rfl (by rw [hml]; rfl) (Steps.refl _) (argsL := [(.int (p2.toInt8.toInt32))]) (rest := []) (lenOf pd_5 rfl) rfl (by show 2 * 0 + _ ≤ _; exact Nat.le_of_eq rfl) (hb hby at_106) (fun _ _ => ⟨rfl, rfl, (by decide : 2 + 0 ≤ _), (by decide : 8195 + 0 ≤ _)⟩)
        dsimp only [Pt.U, Pt.locs, Pt.cells, Pt.slots] at X289 l289 y289 z289 st289 hQ289
        subst l289 y289 z289
        obtain ⟨rfl, Nq289, Kq289, Fbh, Fsh, Ffh, Vh⟩ := hQ289
        have f290 := (f284.keep Kq289)
        have Z289 : n0 ≤ T289.heap.size := Nat.le_trans Z283 Kq289.1
        have K289 : Keep h0 T289.heap [] := K283.trans Kq289 (allS (P := fun x => x ∈ ([] : List Addr) ∨ h0.size ≤ x) (Or.inr sz_fb) (allS (P := fun x => x ∈ ([] : List Addr) ∨ h0.size ≤ x) (Or.inr sz_bb) all0))
        have Nf289 := Fr.app Nf283 Nq289
        have pre291 : ∀ t, Steps p.tables e below (T289.setTop (mkF m 112 #[.val (.int p1), .val (.int p2), .val (.int p3), .val (.int p4), .val (.int (1 : Int32)), .val (.int op), .val (.int bd), .val (.ref fb), .val (.int (4 : Int32)), .unset, .unset] [(.int (1 : Int32)), (.int bd)])) t → Steps p.tables e below (s₁.setTop (entryFrame m #[(.int p1), (.int p2), (.int p3), (.int p4)] maxLocals)) t := by
          intro t kt
          refine pre285 t ?_
          show Steps p.tables e below (T283.setTop (mkF m 99 #[.val (.int p1), .val (.int p2), .val (.int p3), .val (.int p4), .val (.int (1 : Int32)), .val (.int op), .val (.int bd), .val (.ref fb), .val (.int (4 : Int32)), .unset, .unset] [(.int op)])) _
          refine XS.ifNo X283.here hx rfl (hb hby at_99) rfl ((if0 _ _).trans (feq hc99).1) ?_
          show Steps p.tables e below (T283.setTop (mkF m 102 #[.val (.int p1), .val (.int p2), .val (.int p3), .val (.int p4), .val (.int (1 : Int32)), .val (.int op), .val (.int bd), .val (.ref fb), .val (.int (4 : Int32)), .unset, .unset] [])) _
          refine XS.aload X283.here hx rfl (hb hby at_102) rfl rfl ?_
          show Steps p.tables e below (T283.setTop (mkF m 104 #[.val (.int p1), .val (.int p2), .val (.int p3), .val (.int p4), .val (.int (1 : Int32)), .val (.int op), .val (.int bd), .val (.ref fb), .val (.int (4 : Int32)), .unset, .unset] [(.ref fb)])) _
          refine XS.iloadN X283.here hx rfl (hb hby at_104) rfl ?_
          show Steps p.tables e below (T283.setTop (mkF m 105 #[.val (.int p1), .val (.int p2), .val (.int p3), .val (.int p4), .val (.int (1 : Int32)), .val (.int op), .val (.int bd), .val (.ref fb), .val (.int (4 : Int32)), .unset, .unset] [(.int p2), (.ref fb)])) _
          refine XS.i2b X283.here hx rfl (hb hby at_105) rfl ?_
          show Steps p.tables e below (T283.setTop (mkF m 106 #[.val (.int p1), .val (.int p2), .val (.int p3), .val (.int p4), .val (.int (1 : Int32)), .val (.int op), .val (.int bd), .val (.ref fb), .val (.int (4 : Int32)), .unset, .unset] [(.int (p2.toInt8.toInt32)), (.ref fb)])) _
          refine st289.trans ?_
          show Steps p.tables e below (T289.setTop (mkF m 109 #[.val (.int p1), .val (.int p2), .val (.int p3), .val (.int p4), .val (.int (1 : Int32)), .val (.int op), .val (.int bd), .val (.ref fb), .val (.int (4 : Int32)), .unset, .unset] [])) _
          refine XS.iload X289.here hx rfl (hb hby at_109) rfl ?_
          show Steps p.tables e below (T289.setTop (mkF m 111 #[.val (.int p1), .val (.int p2), .val (.int p3), .val (.int p4), .val (.int (1 : Int32)), .val (.int op), .val (.int bd), .val (.ref fb), .val (.int (4 : Int32)), .unset, .unset] [(.int bd)])) _
          refine XS.iconst X289.here hx rfl (hb hby at_111) ?_
          exact kt
        by_cases hc112 : bd = (1 : Int32)
        · obtain ⟨cq292, kq292, q292a, q292b, q292c⟩ := isOf hZ rfl f290
          obtain ⟨_, _, ⟨T292, L292, k292, n292⟩, -, X292, ⟨Lc292, hQ292, l292, y292, z292⟩, st292⟩ := X289.virtualBack hx (y := (⟨"com/example/flex_actor/flexactor/core/FrameBuffer", "writeInt", "(I)V"⟩ : MethodName)) (z := (⟨"com/example/flex_actor/flexactor/core/FrameBuffer", "writeInt", "(I)V"⟩ : MethodName)) hown (mvT hZ (hw _ (List.mem_of_getElem? (i := 14) rfl))) (mvT hZ (hw _ (List.mem_of_getElem? (i := 15) rfl))) (notFace_of_selects (args := #[]) (mvT hZ (hw _ (List.mem_of_getElem? (i := 17) rfl)))) (mvT hZ (hw _ (List.mem_of_getElem? (i := 17) rfl))) (mvT hZ (hw _ (List.mem_of_getElem? (i := 16) rfl))) (by decide) (backOf (W := 0) (rmW l Z a0 hw [] fb bb k1 ((own_put [(.int (((p1.toUInt32 >>> ((24 : Int32) &&& 31).toUInt32).toInt32).toInt8.toInt32)), (.int (((p1.toUInt32 >>> ((16 : Int32) &&& 31).toUInt32).toInt32).toInt8.toInt32)), (.int (((p1.toUInt32 >>> ((8 : Int32) &&& 31).toUInt32).toInt32).toInt8.toInt32)), (.int (p1.toInt8.toInt32)), (.int (0 : Int32)), (.int (0 : Int32)), (.int (0 : Int32)), (.int (0 : Int32)), (.int (0 : Int32)), (.int (0 : Int32)), (.int (0 : Int32)), (.int (0 : Int32)), (.int (0 : Int32)), (.int (0 : Int32)), (.int (0 : Int32)), (.int (0 : Int32))] 4 (0 : Int32)).set (4 + 4) (.int ((p2.toInt8.toInt32).toInt8.toInt32))) (4 + 4 + 1) (Int32.ofNat 4) p3 T289.heap n0 Z289 f290 Fbh Fsh Ffh Vh  (by rw [List.length_set, own_putl]; rfl) ne_fb g_fb g_bb (by decide)) hZ (hw _ (List.mem_of_getElem? (i := 18) rfl)) (hw _ (List.mem_of_getElem? (i := 2) rfl)) (by decide) (by decide)) q292a q292c (g := (mkF m 118 #[.val (.int p1), .val (.int p2), .val (.int p3), .val (.int p4), .val (.int (1 : Int32)), .val (.int op), .val (.int bd), .val (.ref fb), .val (.int (4 : Int32)), .unset, .unset] [(.int p3), (.ref fb)])) rfl (by rw [hml]; rfl) (Steps.refl _) (argsL := [(.int p3)]) (rest := []) (lenOf pd_0 rfl) rfl (by show 2 * 0 + _ ≤ _; exact Nat.le_of_eq rfl) (hb hby at_118) (fun _ _ => ⟨rfl, rfl, (by decide : 2 + 0 ≤ _), (by decide : 8195 + 0 ≤ _)⟩)
          dsimp only [Pt.U, Pt.locs, Pt.cells, Pt.slots] at X292 l292 y292 z292 st292 hQ292
          subst l292 y292 z292
          obtain ⟨rfl, Nq292, Kq292, Fbi, Fsi, Ffi, Vi⟩ := hQ292
          have f293 := (f290.keep Kq292)
          have Z292 : n0 ≤ T292.heap.size := Nat.le_trans Z289 Kq292.1
          have K292 : Keep h0 T292.heap [] := K289.trans Kq292 (allS (P := fun x => x ∈ ([] : List Addr) ∨ h0.size ≤ x) (Or.inr sz_fb) (allS (P := fun x => x ∈ ([] : List Addr) ∨ h0.size ≤ x) (Or.inr sz_bb) all0))
          have Nf292 := Fr.app Nf289 Nq292
          obtain ⟨cq294, kq294, q294a, q294b, q294c⟩ := isOf hZ rfl f293
          obtain ⟨_, _, ⟨T294, L294, k294, n294⟩, -, X294, ⟨Lc294, hQ294, l294, y294, z294⟩, st294⟩ := X292.virtualBack hx (y := (⟨"com/example/flex_actor/flexactor/core/FrameBuffer", "abandon", "()V"⟩ : MethodName)) (z := (⟨"com/example/flex_actor/flexactor/core/FrameBuffer", "abandon", "()V"⟩ : MethodName)) hown (mvT hZ (hw _ (List.mem_of_getElem? (i := 29) rfl))) (mvT hZ (hw _ (List.mem_of_getElem? (i := 30) rfl))) (notFace_of_selects (args := #[]) (mvT hZ (hw _ (List.mem_of_getElem? (i := 32) rfl)))) (mvT hZ (hw _ (List.mem_of_getElem? (i := 32) rfl))) (mvT hZ (hw _ (List.mem_of_getElem? (i := 31) rfl))) (by decide) (backOf (W := 0) (rmA1 l Z a0 hw [] fb bb k1 (own_put ((own_put [(.int (((p1.toUInt32 >>> ((24 : Int32) &&& 31).toUInt32).toInt32).toInt8.toInt32)), (.int (((p1.toUInt32 >>> ((16 : Int32) &&& 31).toUInt32).toInt32).toInt8.toInt32)), (.int (((p1.toUInt32 >>> ((8 : Int32) &&& 31).toUInt32).toInt32).toInt8.toInt32)), (.int (p1.toInt8.toInt32)), (.int (0 : Int32)), (.int (0 : Int32)), (.int (0 : Int32)), (.int (0 : Int32)), (.int (0 : Int32)), (.int (0 : Int32)), (.int (0 : Int32)), (.int (0 : Int32)), (.int (0 : Int32)), (.int (0 : Int32)), (.int (0 : Int32)), (.int (0 : Int32))] 4 (0 : Int32)).set (4 + 4) (.int ((p2.toInt8.toInt32).toInt8.toInt32))) (4 + 4 + 1) p3) (Int32.ofNat (4 + 4 + 1 + 4)) (Int32.ofNat 4) T292.heap n0 Z292 f293 Fbi Fsi Ffi Vi  (by rw [own_putl, List.length_set, own_putl]; rfl) ne_fb g_fb g_bb (by decide)) hZ (hw _ (List.mem_of_getElem? (i := 33) rfl)) (hw _ (List.mem_of_getElem? (i := 2) rfl)) (by decide) (by decide)) q294a q294c (g := (mkF m 138 #[.val (.int p1), .val (.int p2), .val (.int p3), .val (.int p4), .val (.int (1 : Int32)), .val (.int op), .val (.int bd), .val (.ref fb), .val (.int (4 : Int32)), .unset, .unset] [(.ref fb)])) rfl (by rw [hml]; rfl) (Steps.refl _) (argsL := []) (rest := []) (lenOf pd_4 rfl) rfl (by show 2 * 0 + _ ≤ _; exact Nat.le_of_eq rfl) (hb hby at_138) (fun _ _ => ⟨rfl, rfl, (by decide : 2 + 0 ≤ _), (by decide : 8195 + 0 ≤ _)⟩)
          dsimp only [Pt.U, Pt.locs, Pt.cells, Pt.slots] at X294 l294 y294 z294 st294 hQ294
          subst l294 y294 z294
          obtain ⟨rfl, Nq294, Kq294, Fbz, Fsz, Ffz, Vz⟩ := hQ294
          have f295 := (f293.keep Kq294)
          have Z294 : n0 ≤ T294.heap.size := Nat.le_trans Z292 Kq294.1
          have K294 : Keep h0 T294.heap [] := K292.trans Kq294 (allS (P := fun x => x ∈ ([] : List Addr) ∨ h0.size ≤ x) (Or.inr sz_fb) (allS (P := fun x => x ∈ ([] : List Addr) ∨ h0.size ≤ x) (Or.inr sz_bb) all0))
          have Nf294 := Fr.app Nf292 Nq294
          have pre296 : ∀ t, Steps p.tables e below (T294.setTop (mkF m 141 #[.val (.int p1), .val (.int p2), .val (.int p3), .val (.int p4), .val (.int (1 : Int32)), .val (.int op), .val (.int bd), .val (.ref fb), .val (.int (4 : Int32)), .unset, .unset] [])) t → Steps p.tables e below (s₁.setTop (entryFrame m #[(.int p1), (.int p2), (.int p3), (.int p4)] maxLocals)) t := by
            intro t kt
            refine pre291 t ?_
            show Steps p.tables e below (T289.setTop (mkF m 112 #[.val (.int p1), .val (.int p2), .val (.int p3), .val (.int p4), .val (.int (1 : Int32)), .val (.int op), .val (.int bd), .val (.ref fb), .val (.int (4 : Int32)), .unset, .unset] [(.int (1 : Int32)), (.int bd)])) _
            refine XS.icmpNo X289.here hx rfl (hb hby at_112) rfl (teq hc112).2 ?_
            show Steps p.tables e below (T289.setTop (mkF m 115 #[.val (.int p1), .val (.int p2), .val (.int p3), .val (.int p4), .val (.int (1 : Int32)), .val (.int op), .val (.int bd), .val (.ref fb), .val (.int (4 : Int32)), .unset, .unset] [])) _
            refine XS.aload X289.here hx rfl (hb hby at_115) rfl rfl ?_
            show Steps p.tables e below (T289.setTop (mkF m 117 #[.val (.int p1), .val (.int p2), .val (.int p3), .val (.int p4), .val (.int (1 : Int32)), .val (.int op), .val (.int bd), .val (.ref fb), .val (.int (4 : Int32)), .unset, .unset] [(.ref fb)])) _
            refine XS.iloadN X289.here hx rfl (hb hby at_117) rfl ?_
            show Steps p.tables e below (T289.setTop (mkF m 118 #[.val (.int p1), .val (.int p2), .val (.int p3), .val (.int p4), .val (.int (1 : Int32)), .val (.int op), .val (.int bd), .val (.ref fb), .val (.int (4 : Int32)), .unset, .unset] [(.int p3), (.ref fb)])) _
            refine st292.trans ?_
            show Steps p.tables e below (T292.setTop (mkF m 121 #[.val (.int p1), .val (.int p2), .val (.int p3), .val (.int p4), .val (.int (1 : Int32)), .val (.int op), .val (.int bd), .val (.ref fb), .val (.int (4 : Int32)), .unset, .unset] [])) _
            refine XS.goto X292.here hx rfl (pc0 := 121) (pc' := 136) rfl (hb hby at_121) (by decide) (by decide) ?_
            show Steps p.tables e below (T292.setTop (mkF m 136 #[.val (.int p1), .val (.int p2), .val (.int p3), .val (.int p4), .val (.int (1 : Int32)), .val (.int op), .val (.int bd), .val (.ref fb), .val (.int (4 : Int32)), .unset, .unset] [])) _
            refine XS.aload X292.here hx rfl (hb hby at_136) rfl rfl ?_
            show Steps p.tables e below (T292.setTop (mkF m 138 #[.val (.int p1), .val (.int p2), .val (.int p3), .val (.int p4), .val (.int (1 : Int32)), .val (.int op), .val (.int bd), .val (.ref fb), .val (.int (4 : Int32)), .unset, .unset] [(.ref fb)])) _
            refine st294.trans ?_
            exact kt
          refine ⟨(own_put ((own_put [(.int (((p1.toUInt32 >>> ((24 : Int32) &&& 31).toUInt32).toInt32).toInt8.toInt32)), (.int (((p1.toUInt32 >>> ((16 : Int32) &&& 31).toUInt32).toInt32).toInt8.toInt32)), (.int (((p1.toUInt32 >>> ((8 : Int32) &&& 31).toUInt32).toInt32).toInt8.toInt32)), (.int (p1.toInt8.toInt32)), (.int (0 : Int32)), (.int (0 : Int32)), (.int (0 : Int32)), (.int (0 : Int32)), (.int (0 : Int32)), (.int (0 : Int32)), (.int (0 : Int32)), (.int (0 : Int32)), (.int (0 : Int32)), (.int (0 : Int32)), (.int (0 : Int32)), (.int (0 : Int32))] 4 (0 : Int32)).set (4 + 4) (.int ((p2.toInt8.toInt32).toInt8.toInt32))) (4 + 4 + 1) p3), T294, T294.heap, _, X294, rfl, Nf294, K294, Z294, ?_, f295, Fbz, Fsz, Ffz, Vz, pre296⟩
          exact ⟨by rw [own_tkp _ _ _ _ (by decide), own_tks _ _ _ _ (by decide), own_tkp _ _ _ _ (by decide)]; rfl, by rw [own_putl, List.length_set, own_putl]; rfl⟩
        · have pre297 : ∀ t, Steps p.tables e below (T289.setTop (mkF m 127 #[.val (.int p1), .val (.int p2), .val (.int p3), .val (.int p4), .val (.int (1 : Int32)), .val (.int op), .val (.int bd), .val (.ref fb), .val (.int (4 : Int32)), .unset, .unset] [(.int (2 : Int32)), (.int bd)])) t → Steps p.tables e below (s₁.setTop (entryFrame m #[(.int p1), (.int p2), (.int p3), (.int p4)] maxLocals)) t := by
            intro t kt
            refine pre291 t ?_
            show Steps p.tables e below (T289.setTop (mkF m 112 #[.val (.int p1), .val (.int p2), .val (.int p3), .val (.int p4), .val (.int (1 : Int32)), .val (.int op), .val (.int bd), .val (.ref fb), .val (.int (4 : Int32)), .unset, .unset] [(.int (1 : Int32)), (.int bd)])) _
            refine XS.icmpYes X289.here hx rfl (pc0 := 112) (pc' := 124) rfl (hb hby at_112) rfl (feq hc112).2 (by decide) (by decide) ?_
            show Steps p.tables e below (T289.setTop (mkF m 124 #[.val (.int p1), .val (.int p2), .val (.int p3), .val (.int p4), .val (.int (1 : Int32)), .val (.int op), .val (.int bd), .val (.ref fb), .val (.int (4 : Int32)), .unset, .unset] [])) _
            refine XS.iload X289.here hx rfl (hb hby at_124) rfl ?_
            show Steps p.tables e below (T289.setTop (mkF m 126 #[.val (.int p1), .val (.int p2), .val (.int p3), .val (.int p4), .val (.int (1 : Int32)), .val (.int op), .val (.int bd), .val (.ref fb), .val (.int (4 : Int32)), .unset, .unset] [(.int bd)])) _
            refine XS.iconst X289.here hx rfl (hb hby at_126) ?_
            exact kt
          by_cases hc127 : bd = (2 : Int32)
          · obtain ⟨cq298, kq298, q298a, q298b, q298c⟩ := isOf hZ rfl f290
            obtain ⟨_, _, ⟨T298, L298, k298, n298⟩, -, X298, ⟨Lc298, hQ298, l298, y298, z298⟩, st298⟩ := X289.virtualBack hx (y := (⟨"com/example/flex_actor/flexactor/core/FrameBuffer", "writeByte", "(I)V"⟩ : MethodName)) (z := (⟨"com/example/flex_actor/flexactor/core/FrameBuffer", "writeByte", "(I)V"⟩ : MethodName)) hown (mvT hZ (hw _ (List.mem_of_getElem? (i := 39) rfl))) (mvT hZ (hw _ (List.mem_of_getElem? (i := 40) rfl))) (notFace_of_selects (args := #[]) (mvT hZ (hw _ (List.mem_of_getElem? (i := 42) rfl)))) (mvT hZ (hw _ (List.mem_of_getElem? (i := 42) rfl))) (mvT hZ (hw _ (List.mem_of_getElem? (i := 41) rfl))) (by decide) (backOf (W := 0) (rmB l Z a0 hw [] fb bb k1 ((own_put [(.int (((p1.toUInt32 >>> ((24 : Int32) &&& 31).toUInt32).toInt32).toInt8.toInt32)), (.int (((p1.toUInt32 >>> ((16 : Int32) &&& 31).toUInt32).toInt32).toInt8.toInt32)), (.int (((p1.toUInt32 >>> ((8 : Int32) &&& 31).toUInt32).toInt32).toInt8.toInt32)), (.int (p1.toInt8.toInt32)), (.int (0 : Int32)), (.int (0 : Int32)), (.int (0 : Int32)), (.int (0 : Int32)), (.int (0 : Int32)), (.int (0 : Int32)), (.int (0 : Int32)), (.int (0 : Int32)), (.int (0 : Int32)), (.int (0 : Int32)), (.int (0 : Int32)), (.int (0 : Int32))] 4 (0 : Int32)).set (4 + 4) (.int ((p2.toInt8.toInt32).toInt8.toInt32))) (4 + 4 + 1) (Int32.ofNat 4) p3 T289.heap n0 Z289 f290 Fbh Fsh Ffh Vh  (by rw [List.length_set, own_putl]; rfl) ne_fb g_fb g_bb (by decide)) hZ (hw _ (List.mem_of_getElem? (i := 43) rfl)) (hw _ (List.mem_of_getElem? (i := 2) rfl)) (by decide) (by decide)) q298a q298c (g := (mkF m 133 #[.val (.int p1), .val (.int p2), .val (.int p3), .val (.int p4), .val (.int (1 : Int32)), .val (.int op), .val (.int bd), .val (.ref fb), .val (.int (4 : Int32)), .unset, .unset] [(.int p3), (.ref fb)])) rfl (by rw [hml]; rfl) (Steps.refl _) (argsL := [(.int p3)]) (rest := []) (lenOf pd_0 rfl) rfl (by show 2 * 0 + _ ≤ _; exact Nat.le_of_eq rfl) (hb hby at_133) (fun _ _ => ⟨rfl, rfl, (by decide : 2 + 0 ≤ _), (by decide : 8195 + 0 ≤ _)⟩)
            dsimp only [Pt.U, Pt.locs, Pt.cells, Pt.slots] at X298 l298 y298 z298 st298 hQ298
            subst l298 y298 z298
            obtain ⟨rfl, Nq298, Kq298, Fbj, Fsj, Ffj, Vj⟩ := hQ298
            have f299 := (f290.keep Kq298)
            have Z298 : n0 ≤ T298.heap.size := Nat.le_trans Z289 Kq298.1
            have K298 : Keep h0 T298.heap [] := K289.trans Kq298 (allS (P := fun x => x ∈ ([] : List Addr) ∨ h0.size ≤ x) (Or.inr sz_fb) (allS (P := fun x => x ∈ ([] : List Addr) ∨ h0.size ≤ x) (Or.inr sz_bb) all0))
            have Nf298 := Fr.app Nf289 Nq298
            obtain ⟨cq300, kq300, q300a, q300b, q300c⟩ := isOf hZ rfl f299
            obtain ⟨_, _, ⟨T300, L300, k300, n300⟩, -, X300, ⟨Lc300, hQ300, l300, y300, z300⟩, st300⟩ := X298.virtualBack hx (y := (⟨"com/example/flex_actor/flexactor/core/FrameBuffer", "abandon", "()V"⟩ : MethodName)) (z := (⟨"com/example/flex_actor/flexactor/core/FrameBuffer", "abandon", "()V"⟩ : MethodName)) hown (mvT hZ (hw _ (List.mem_of_getElem? (i := 29) rfl))) (mvT hZ (hw _ (List.mem_of_getElem? (i := 30) rfl))) (notFace_of_selects (args := #[]) (mvT hZ (hw _ (List.mem_of_getElem? (i := 32) rfl)))) (mvT hZ (hw _ (List.mem_of_getElem? (i := 32) rfl))) (mvT hZ (hw _ (List.mem_of_getElem? (i := 31) rfl))) (by decide) (backOf (W := 0) (rmA1 l Z a0 hw [] fb bb k1 (((own_put [(.int (((p1.toUInt32 >>> ((24 : Int32) &&& 31).toUInt32).toInt32).toInt8.toInt32)), (.int (((p1.toUInt32 >>> ((16 : Int32) &&& 31).toUInt32).toInt32).toInt8.toInt32)), (.int (((p1.toUInt32 >>> ((8 : Int32) &&& 31).toUInt32).toInt32).toInt8.toInt32)), (.int (p1.toInt8.toInt32)), (.int (0 : Int32)), (.int (0 : Int32)), (.int (0 : Int32)), (.int (0 : Int32)), (.int (0 : Int32)), (.int (0 : Int32)), (.int (0 : Int32)), (.int (0 : Int32)), (.int (0 : Int32)), (.int (0 : Int32)), (.int (0 : Int32)), (.int (0 : Int32))] 4 (0 : Int32)).set (4 + 4) (.int ((p2.toInt8.toInt32).toInt8.toInt32))).set (4 + 4 + 1) (.int (p3.toInt8.toInt32))) (Int32.ofNat (4 + 4 + 1 + 1)) (Int32.ofNat 4) T298.heap n0 Z298 f299 Fbj Fsj Ffj Vj  (by rw [List.length_set, List.length_set, own_putl]; rfl) ne_fb g_fb g_bb (by decide)) hZ (hw _ (List.mem_of_getElem? (i := 33) rfl)) (hw _ (List.mem_of_getElem? (i := 2) rfl)) (by decide) (by decide)) q300a q300c (g := (mkF m 138 #[.val (.int p1), .val (.int p2), .val (.int p3), .val (.int p4), .val (.int (1 : Int32)), .val (.int op), .val (.int bd), .val (.ref fb), .val (.int (4 : Int32)), .unset, .unset] [(.ref fb)])) rfl (by rw [hml]; rfl) (Steps.refl _) (argsL := []) (rest := []) (lenOf pd_4 rfl) rfl (by show 2 * 0 + _ ≤ _; exact Nat.le_of_eq rfl) (hb hby at_138) (fun _ _ => ⟨rfl, rfl, (by decide : 2 + 0 ≤ _), (by decide : 8195 + 0 ≤ _)⟩)
            dsimp only [Pt.U, Pt.locs, Pt.cells, Pt.slots] at X300 l300 y300 z300 st300 hQ300
            subst l300 y300 z300
            obtain ⟨rfl, Nq300, Kq300, Fbz, Fsz, Ffz, Vz⟩ := hQ300
            have f301 := (f299.keep Kq300)
            have Z300 : n0 ≤ T300.heap.size := Nat.le_trans Z298 Kq300.1
            have K300 : Keep h0 T300.heap [] := K298.trans Kq300 (allS (P := fun x => x ∈ ([] : List Addr) ∨ h0.size ≤ x) (Or.inr sz_fb) (allS (P := fun x => x ∈ ([] : List Addr) ∨ h0.size ≤ x) (Or.inr sz_bb) all0))
            have Nf300 := Fr.app Nf298 Nq300
            have pre302 : ∀ t, Steps p.tables e below (T300.setTop (mkF m 141 #[.val (.int p1), .val (.int p2), .val (.int p3), .val (.int p4), .val (.int (1 : Int32)), .val (.int op), .val (.int bd), .val (.ref fb), .val (.int (4 : Int32)), .unset, .unset] [])) t → Steps p.tables e below (s₁.setTop (entryFrame m #[(.int p1), (.int p2), (.int p3), (.int p4)] maxLocals)) t := by
              intro t kt
              refine pre297 t ?_
              show Steps p.tables e below (T289.setTop (mkF m 127 #[.val (.int p1), .val (.int p2), .val (.int p3), .val (.int p4), .val (.int (1 : Int32)), .val (.int op), .val (.int bd), .val (.ref fb), .val (.int (4 : Int32)), .unset, .unset] [(.int (2 : Int32)), (.int bd)])) _
              refine XS.icmpNo X289.here hx rfl (hb hby at_127) rfl (teq hc127).2 ?_
              show Steps p.tables e below (T289.setTop (mkF m 130 #[.val (.int p1), .val (.int p2), .val (.int p3), .val (.int p4), .val (.int (1 : Int32)), .val (.int op), .val (.int bd), .val (.ref fb), .val (.int (4 : Int32)), .unset, .unset] [])) _
              refine XS.aload X289.here hx rfl (hb hby at_130) rfl rfl ?_
              show Steps p.tables e below (T289.setTop (mkF m 132 #[.val (.int p1), .val (.int p2), .val (.int p3), .val (.int p4), .val (.int (1 : Int32)), .val (.int op), .val (.int bd), .val (.ref fb), .val (.int (4 : Int32)), .unset, .unset] [(.ref fb)])) _
              refine XS.iloadN X289.here hx rfl (hb hby at_132) rfl ?_
              show Steps p.tables e below (T289.setTop (mkF m 133 #[.val (.int p1), .val (.int p2), .val (.int p3), .val (.int p4), .val (.int (1 : Int32)), .val (.int op), .val (.int bd), .val (.ref fb), .val (.int (4 : Int32)), .unset, .unset] [(.int p3), (.ref fb)])) _
              refine st298.trans ?_
              show Steps p.tables e below (T298.setTop (mkF m 136 #[.val (.int p1), .val (.int p2), .val (.int p3), .val (.int p4), .val (.int (1 : Int32)), .val (.int op), .val (.int bd), .val (.ref fb), .val (.int (4 : Int32)), .unset, .unset] [])) _
              refine XS.aload X298.here hx rfl (hb hby at_136) rfl rfl ?_
              show Steps p.tables e below (T298.setTop (mkF m 138 #[.val (.int p1), .val (.int p2), .val (.int p3), .val (.int p4), .val (.int (1 : Int32)), .val (.int op), .val (.int bd), .val (.ref fb), .val (.int (4 : Int32)), .unset, .unset] [(.ref fb)])) _
              refine st300.trans ?_
              exact kt
            refine ⟨(((own_put [(.int (((p1.toUInt32 >>> ((24 : Int32) &&& 31).toUInt32).toInt32).toInt8.toInt32)), (.int (((p1.toUInt32 >>> ((16 : Int32) &&& 31).toUInt32).toInt32).toInt8.toInt32)), (.int (((p1.toUInt32 >>> ((8 : Int32) &&& 31).toUInt32).toInt32).toInt8.toInt32)), (.int (p1.toInt8.toInt32)), (.int (0 : Int32)), (.int (0 : Int32)), (.int (0 : Int32)), (.int (0 : Int32)), (.int (0 : Int32)), (.int (0 : Int32)), (.int (0 : Int32)), (.int (0 : Int32)), (.int (0 : Int32)), (.int (0 : Int32)), (.int (0 : Int32)), (.int (0 : Int32))] 4 (0 : Int32)).set (4 + 4) (.int ((p2.toInt8.toInt32).toInt8.toInt32))).set (4 + 4 + 1) (.int (p3.toInt8.toInt32))), T300, T300.heap, _, X300, rfl, Nf300, K300, Z300, ?_, f301, Fbz, Fsz, Ffz, Vz, pre302⟩
            exact ⟨by rw [own_tks _ _ _ _ (by decide), own_tks _ _ _ _ (by decide), own_tkp _ _ _ _ (by decide)]; rfl, by rw [List.length_set, List.length_set, own_putl]; rfl⟩
          · obtain ⟨cq303, kq303, q303a, q303b, q303c⟩ := isOf hZ rfl f290
            obtain ⟨_, _, ⟨T303, L303, k303, n303⟩, -, X303, ⟨Lc303, hQ303, l303, y303, z303⟩, st303⟩ := X289.virtualBack hx (y := (⟨"com/example/flex_actor/flexactor/core/FrameBuffer", "abandon", "()V"⟩ : MethodName)) (z := (⟨"com/example/flex_actor/flexactor/core/FrameBuffer", "abandon", "()V"⟩ : MethodName)) hown (mvT hZ (hw _ (List.mem_of_getElem? (i := 29) rfl))) (mvT hZ (hw _ (List.mem_of_getElem? (i := 30) rfl))) (notFace_of_selects (args := #[]) (mvT hZ (hw _ (List.mem_of_getElem? (i := 32) rfl)))) (mvT hZ (hw _ (List.mem_of_getElem? (i := 32) rfl))) (mvT hZ (hw _ (List.mem_of_getElem? (i := 31) rfl))) (by decide) (backOf (W := 0) (rmA1 l Z a0 hw [] fb bb k1 ((own_put [(.int (((p1.toUInt32 >>> ((24 : Int32) &&& 31).toUInt32).toInt32).toInt8.toInt32)), (.int (((p1.toUInt32 >>> ((16 : Int32) &&& 31).toUInt32).toInt32).toInt8.toInt32)), (.int (((p1.toUInt32 >>> ((8 : Int32) &&& 31).toUInt32).toInt32).toInt8.toInt32)), (.int (p1.toInt8.toInt32)), (.int (0 : Int32)), (.int (0 : Int32)), (.int (0 : Int32)), (.int (0 : Int32)), (.int (0 : Int32)), (.int (0 : Int32)), (.int (0 : Int32)), (.int (0 : Int32)), (.int (0 : Int32)), (.int (0 : Int32)), (.int (0 : Int32)), (.int (0 : Int32))] 4 (0 : Int32)).set (4 + 4) (.int ((p2.toInt8.toInt32).toInt8.toInt32))) (Int32.ofNat (4 + 4 + 1)) (Int32.ofNat 4) T289.heap n0 Z289 f290 Fbh Fsh Ffh Vh  (by rw [List.length_set, own_putl]; rfl) ne_fb g_fb g_bb (by decide)) hZ (hw _ (List.mem_of_getElem? (i := 33) rfl)) (hw _ (List.mem_of_getElem? (i := 2) rfl)) (by decide) (by decide)) q303a q303c (g := (mkF m 138 #[.val (.int p1), .val (.int p2), .val (.int p3), .val (.int p4), .val (.int (1 : Int32)), .val (.int op), .val (.int bd), .val (.ref fb), .val (.int (4 : Int32)), .unset, .unset] [(.ref fb)])) rfl (by rw [hml]; rfl) (Steps.refl _) (argsL := []) (rest := []) (lenOf pd_4 rfl) rfl (by show 2 * 0 + _ ≤ _; exact Nat.le_of_eq rfl) (hb hby at_138) (fun _ _ => ⟨rfl, rfl, (by decide : 2 + 0 ≤ _), (by decide : 8195 + 0 ≤ _)⟩)
            dsimp only [Pt.U, Pt.locs, Pt.cells, Pt.slots] at X303 l303 y303 z303 st303 hQ303
            subst l303 y303 z303
            obtain ⟨rfl, Nq303, Kq303, Fbz, Fsz, Ffz, Vz⟩ := hQ303
            have f304 := (f290.keep Kq303)
            have Z303 : n0 ≤ T303.heap.size := Nat.le_trans Z289 Kq303.1
            have K303 : Keep h0 T303.heap [] := K289.trans Kq303 (allS (P := fun x => x ∈ ([] : List Addr) ∨ h0.size ≤ x) (Or.inr sz_fb) (allS (P := fun x => x ∈ ([] : List Addr) ∨ h0.size ≤ x) (Or.inr sz_bb) all0))
            have Nf303 := Fr.app Nf289 Nq303
            have pre305 : ∀ t, Steps p.tables e below (T303.setTop (mkF m 141 #[.val (.int p1), .val (.int p2), .val (.int p3), .val (.int p4), .val (.int (1 : Int32)), .val (.int op), .val (.int bd), .val (.ref fb), .val (.int (4 : Int32)), .unset, .unset] [])) t → Steps p.tables e below (s₁.setTop (entryFrame m #[(.int p1), (.int p2), (.int p3), (.int p4)] maxLocals)) t := by
              intro t kt
              refine pre297 t ?_
              show Steps p.tables e below (T289.setTop (mkF m 127 #[.val (.int p1), .val (.int p2), .val (.int p3), .val (.int p4), .val (.int (1 : Int32)), .val (.int op), .val (.int bd), .val (.ref fb), .val (.int (4 : Int32)), .unset, .unset] [(.int (2 : Int32)), (.int bd)])) _
              refine XS.icmpYes X289.here hx rfl (pc0 := 127) (pc' := 136) rfl (hb hby at_127) rfl (feq hc127).2 (by decide) (by decide) ?_
              show Steps p.tables e below (T289.setTop (mkF m 136 #[.val (.int p1), .val (.int p2), .val (.int p3), .val (.int p4), .val (.int (1 : Int32)), .val (.int op), .val (.int bd), .val (.ref fb), .val (.int (4 : Int32)), .unset, .unset] [])) _
              refine XS.aload X289.here hx rfl (hb hby at_136) rfl rfl ?_
              show Steps p.tables e below (T289.setTop (mkF m 138 #[.val (.int p1), .val (.int p2), .val (.int p3), .val (.int p4), .val (.int (1 : Int32)), .val (.int op), .val (.int bd), .val (.ref fb), .val (.int (4 : Int32)), .unset, .unset] [(.ref fb)])) _
              refine st303.trans ?_
              exact kt
            refine ⟨((own_put [(.int (((p1.toUInt32 >>> ((24 : Int32) &&& 31).toUInt32).toInt32).toInt8.toInt32)), (.int (((p1.toUInt32 >>> ((16 : Int32) &&& 31).toUInt32).toInt32).toInt8.toInt32)), (.int (((p1.toUInt32 >>> ((8 : Int32) &&& 31).toUInt32).toInt32).toInt8.toInt32)), (.int (p1.toInt8.toInt32)), (.int (0 : Int32)), (.int (0 : Int32)), (.int (0 : Int32)), (.int (0 : Int32)), (.int (0 : Int32)), (.int (0 : Int32)), (.int (0 : Int32)), (.int (0 : Int32)), (.int (0 : Int32)), (.int (0 : Int32)), (.int (0 : Int32)), (.int (0 : Int32))] 4 (0 : Int32)).set (4 + 4) (.int ((p2.toInt8.toInt32).toInt8.toInt32))), T303, T303.heap, _, X303, rfl, Nf303, K303, Z303, ?_, f304, Fbz, Fsz, Ffz, Vz, pre305⟩
            exact ⟨by rw [own_tks _ _ _ _ (by decide), own_tkp _ _ _ _ (by decide)]; rfl, by rw [List.length_set, own_putl]; rfl⟩
    obtain ⟨cq306, kq306, q306a, q306b, q306c⟩ := isOf hZ em286 fm286_0
    obtain ⟨_, _, ⟨T306, L306, k306, n306⟩, -, X306, ⟨Lc306, hQ306, l306, y306, z306⟩, st306⟩ := Xm286.virtualBack hx (y := (⟨"com/example/flex_actor/flexactor/core/FrameBuffer", "size", "()I"⟩ : MethodName)) (z := (⟨"com/example/flex_actor/flexactor/core/FrameBuffer", "size", "()I"⟩ : MethodName)) hown (mvT hZ (hw _ (List.mem_of_getElem? (i := 34) rfl))) (mvT hZ (hw _ (List.mem_of_getElem? (i := 35) rfl))) (notFace_of_selects (args := #[]) (mvT hZ (hw _ (List.mem_of_getElem? (i := 37) rfl)))) (mvT hZ (hw _ (List.mem_of_getElem? (i := 37) rfl))) (mvT hZ (hw _ (List.mem_of_getElem? (i := 36) rfl))) (by decide) (backOf (W := 0) (rmS l Z a0 hw [] fb (Int32.ofNat 4) hm286 n0 Zm286 fm286_2) hZ (hw _ (List.mem_of_getElem? (i := 38) rfl)) (hw _ (List.mem_of_getElem? (i := 2) rfl)) (by decide) (by decide)) q306a q306c (g := (mkF m 143 #[.val (.int p1), .val (.int p2), .val (.int p3), .val (.int p4), .val (.int (1 : Int32)), .val (.int op), .val (.int bd), .val (.ref fb), .val (.int (4 : Int32)), .unset, .unset] [(.ref fb)])) rfl (by rw [hml]; rfl) (Steps.refl _) (argsL := []) (rest := []) (lenOf pd_6 rfl) rfl (by show 2 * 0 + _ ≤ _; exact Nat.le_of_eq rfl) (hb hby at_143) (fun _ _ => ⟨rfl, em286, (by decide : 2 + 0 ≤ _), (by decide : 8195 + 0 ≤ _)⟩)
    dsimp only [Pt.U, Pt.locs, Pt.cells, Pt.slots] at X306 l306 y306 z306 st306 hQ306
    subst l306 y306 z306
    obtain ⟨rfl, Nq306, eq306⟩ := hQ306
    have Nf306 := Fr.app Nm286 Nq306
    obtain ⟨cq307, kq307, q307a, q307b, q307c⟩ := isOf hZ eq306 fm286_0
    obtain ⟨_, _, ⟨T307, L307, k307, n307⟩, -, X307, ⟨Lc307, hQ307, l307, y307, z307⟩, st307⟩ := X306.virtualBack hx (y := (⟨"com/example/flex_actor/flexactor/core/FrameBuffer", "writeByte", "(I)V"⟩ : MethodName)) (z := (⟨"com/example/flex_actor/flexactor/core/FrameBuffer", "writeByte", "(I)V"⟩ : MethodName)) hown (mvT hZ (hw _ (List.mem_of_getElem? (i := 39) rfl))) (mvT hZ (hw _ (List.mem_of_getElem? (i := 40) rfl))) (notFace_of_selects (args := #[]) (mvT hZ (hw _ (List.mem_of_getElem? (i := 42) rfl)))) (mvT hZ (hw _ (List.mem_of_getElem? (i := 42) rfl))) (mvT hZ (hw _ (List.mem_of_getElem? (i := 41) rfl))) (by decide) (backOf (W := 0) (rmB l Z a0 hw [] fb bb k1 ws 4 (-1 : Int32) p3 hm286 n0 Zm286 fm286_0 fm286_1 fm286_2 fm286_3 fm286_4  hsp286.2 ne_fb g_fb g_bb (by decide)) hZ (hw _ (List.mem_of_getElem? (i := 43) rfl)) (hw _ (List.mem_of_getElem? (i := 2) rfl)) (by decide) (by decide)) q307a q307c (g := (mkF m 151 #[.val (.int p1), .val (.int p2), .val (.int p3), .val (.int p4), .val (.int (1 : Int32)), .val (.int op), .val (.int bd), .val (.ref fb), .val (.int (4 : Int32)), .val (.int (Int32.ofNat 4)), .unset] [(.int p3), (.ref fb)])) rfl (by rw [hml]; rfl) (Steps.refl _) (argsL := [(.int p3)]) (rest := []) (lenOf pd_0 rfl) rfl (by show 2 * 0 + _ ≤ _; exact Nat.le_of_eq rfl) (hb hby at_151) (fun _ _ => ⟨rfl, eq306, (by decide : 2 + 0 ≤ _), (by decide : 8195 + 0 ≤ _)⟩)
    dsimp only [Pt.U, Pt.locs, Pt.cells, Pt.slots] at X307 l307 y307 z307 st307 hQ307
    subst l307 y307 z307
    obtain ⟨rfl, Nq307, Kq307, Fbc, Fsc, Ffc, Vc⟩ := hQ307
    have f308 := (fm286_0.keep Kq307)
    have Z307 : n0 ≤ T307.heap.size := Nat.le_trans Zm286 Kq307.1
    have K307 : Keep h0 T307.heap [] := Km286.trans Kq307 (allS (P := fun x => x ∈ ([] : List Addr) ∨ h0.size ≤ x) (Or.inr sz_fb) (allS (P := fun x => x ∈ ([] : List Addr) ∨ h0.size ≤ x) (Or.inr sz_bb) all0))
    have Nf307 := Fr.app Nf306 Nq307
    obtain ⟨cq309, kq309, q309a, q309b, q309c⟩ := isOf hZ rfl f308
    obtain ⟨_, _, ⟨T309, L309, k309, n309⟩, -, X309, ⟨Lc309, hQ309, l309, y309, z309⟩, st309⟩ := X307.virtualBack hx (y := (⟨"com/example/flex_actor/flexactor/core/FrameBuffer", "abandon", "()V"⟩ : MethodName)) (z := (⟨"com/example/flex_actor/flexactor/core/FrameBuffer", "abandon", "()V"⟩ : MethodName)) hown (mvT hZ (hw _ (List.mem_of_getElem? (i := 29) rfl))) (mvT hZ (hw _ (List.mem_of_getElem? (i := 30) rfl))) (notFace_of_selects (args := #[]) (mvT hZ (hw _ (List.mem_of_getElem? (i := 32) rfl)))) (mvT hZ (hw _ (List.mem_of_getElem? (i := 32) rfl))) (mvT hZ (hw _ (List.mem_of_getElem? (i := 31) rfl))) (by decide) (backOf (W := 0) (rmA0 l Z a0 hw [] fb T307.heap n0 Z307 Ffc) hZ (hw _ (List.mem_of_getElem? (i := 33) rfl)) (hw _ (List.mem_of_getElem? (i := 2) rfl)) (by decide) (by decide)) q309a q309c (g := (mkF m 156 #[.val (.int p1), .val (.int p2), .val (.int p3), .val (.int p4), .val (.int (1 : Int32)), .val (.int op), .val (.int bd), .val (.ref fb), .val (.int (4 : Int32)), .val (.int (Int32.ofNat 4)), .unset] [(.ref fb)])) rfl (by rw [hml]; rfl) (Steps.refl _) (argsL := []) (rest := []) (lenOf pd_4 rfl) rfl (by show 2 * 0 + _ ≤ _; exact Nat.le_of_eq rfl) (hb hby at_156) (fun _ _ => ⟨rfl, rfl, (by decide : 2 + 0 ≤ _), (by decide : 8195 + 0 ≤ _)⟩)
    dsimp only [Pt.U, Pt.locs, Pt.cells, Pt.slots] at X309 l309 y309 z309 st309 hQ309
    subst l309 y309 z309
    obtain ⟨rfl, Nq309, eq309⟩ := hQ309
    have Nf309 := Fr.app Nf307 Nq309
    obtain ⟨cq310, kq310, q310a, q310b, q310c⟩ := isOf hZ eq309 f308
    obtain ⟨_, _, ⟨T310, L310, k310, n310⟩, -, X310, ⟨Lc310, hQ310, l310, y310, z310⟩, st310⟩ := X309.virtualBack hx (y := (⟨"com/example/flex_actor/flexactor/core/FrameBuffer", "toByteArray", "()[B"⟩ : MethodName)) (z := (⟨"com/example/flex_actor/flexactor/core/FrameBuffer", "toByteArray", "()[B"⟩ : MethodName)) hown (mvT hZ (hw _ (List.mem_of_getElem? (i := 44) rfl))) (mvT hZ (hw _ (List.mem_of_getElem? (i := 45) rfl))) (notFace_of_selects (args := #[]) (mvT hZ (hw _ (List.mem_of_getElem? (i := 47) rfl)))) (mvT hZ (hw _ (List.mem_of_getElem? (i := 47) rfl))) (mvT hZ (hw _ (List.mem_of_getElem? (i := 46) rfl))) (by decide) (backOf (W := 0) (rmT l Z a0 hw [] fb bb k1 (ws.set 4 (.int (p3.toInt8.toInt32))) (4 + 1) T307.heap n0 Z307 Fbc Fsc Vc (by decide)) hZ (hw _ (List.mem_of_getElem? (i := 48) rfl)) (hw _ (List.mem_of_getElem? (i := 2) rfl)) (by decide) (by decide)) q310a q310c (g := (mkF m 161 #[.val (.int p1), .val (.int p2), .val (.int p3), .val (.int p4), .val (.int (1 : Int32)), .val (.int op), .val (.int bd), .val (.ref fb), .val (.int (4 : Int32)), .val (.int (Int32.ofNat 4)), .unset] [(.ref fb)])) rfl (by rw [hml]; rfl) (Steps.refl _) (argsL := []) (rest := []) (lenOf pd_7 rfl) rfl (by show 2 * 0 + _ ≤ _; exact Nat.le_of_eq rfl) (hb hby at_161) (fun _ _ => ⟨rfl, eq309, (by decide : 2 + 1 ≤ _), (by decide : 8195 + 16 ≤ _)⟩)
    dsimp only [Pt.U, Pt.locs, Pt.cells, Pt.slots] at X310 l310 y310 z310 st310 hQ310
    subst l310 y310 z310
    obtain ⟨r, kr, rfl, Nq310, Kq310, szr, Vr0⟩ := hQ310
    have f311 := (f308.keep Kq310)
    have f312 := (Fbc.keep Kq310 nin0)
    have f313 := (Fsc.keep Kq310 nin0)
    have f314 := (Ffc.keep Kq310 nin0)
    have f315 := (Vc.keep Kq310 nin0)
    have Z310 : n0 ≤ T310.heap.size := Nat.le_trans Z307 Kq310.1
    have K310 : Keep h0 T310.heap [] := K307.trans Kq310 all0
    have Nf310 := Fr.app Nf309 Nq310
    rw [own_tk ws [(.int (((p1.toUInt32 >>> ((24 : Int32) &&& 31).toUInt32).toInt32).toInt8.toInt32)), (.int (((p1.toUInt32 >>> ((16 : Int32) &&& 31).toUInt32).toInt32).toInt8.toInt32)), (.int (((p1.toUInt32 >>> ((8 : Int32) &&& 31).toUInt32).toInt32).toInt8.toInt32)), (.int (p1.toInt8.toInt32))] _ _ 4 hsp286.2 hsp286.1 (by decide)] at Vr0
    have Vr : Arv Z T310.heap r kr .byte (5 : Int32) [(.int (((p1.toUInt32 >>> ((24 : Int32) &&& 31).toUInt32).toInt32).toInt8.toInt32)), (.int (((p1.toUInt32 >>> ((16 : Int32) &&& 31).toUInt32).toInt32).toInt8.toInt32)), (.int (((p1.toUInt32 >>> ((8 : Int32) &&& 31).toUInt32).toInt32).toInt8.toInt32)), (.int (p1.toInt8.toInt32)), (.int (p3.toInt8.toInt32))] (.int (0 : Int32)) := Vr0
    have pre316 : ∀ t, Steps p.tables e below (T310.setTop (mkF m 164 #[.val (.int p1), .val (.int p2), .val (.int p3), .val (.int p4), .val (.int (1 : Int32)), .val (.int op), .val (.int bd), .val (.ref fb), .val (.int (4 : Int32)), .val (.int (Int32.ofNat 4)), .unset] [(.ref r)])) t → Steps p.tables e below (s₁.setTop (entryFrame m #[(.int p1), (.int p2), (.int p3), (.int p4)] maxLocals)) t := by
      intro t kt
      refine prem286 t ?_
      show Steps p.tables e below (Tm286.setTop (mkF m 141 #[.val (.int p1), .val (.int p2), .val (.int p3), .val (.int p4), .val (.int (1 : Int32)), .val (.int op), .val (.int bd), .val (.ref fb), .val (.int (4 : Int32)), .unset, .unset] [])) _
      refine XS.aload Xm286.here hx rfl (hb hby at_141) rfl rfl ?_
      show Steps p.tables e below (Tm286.setTop (mkF m 143 #[.val (.int p1), .val (.int p2), .val (.int p3), .val (.int p4), .val (.int (1 : Int32)), .val (.int op), .val (.int bd), .val (.ref fb), .val (.int (4 : Int32)), .unset, .unset] [(.ref fb)])) _
      refine st306.trans ?_
      show Steps p.tables e below (T306.setTop (mkF m 146 #[.val (.int p1), .val (.int p2), .val (.int p3), .val (.int p4), .val (.int (1 : Int32)), .val (.int op), .val (.int bd), .val (.ref fb), .val (.int (4 : Int32)), .unset, .unset] [(.int (Int32.ofNat 4))])) _
      refine XS.istore X306.here hx rfl (hb hby at_146) rfl (l' := #[.val (.int p1), .val (.int p2), .val (.int p3), .val (.int p4), .val (.int (1 : Int32)), .val (.int op), .val (.int bd), .val (.ref fb), .val (.int (4 : Int32)), .val (.int (Int32.ofNat 4)), .unset]) rfl ?_
      show Steps p.tables e below (T306.setTop (mkF m 148 #[.val (.int p1), .val (.int p2), .val (.int p3), .val (.int p4), .val (.int (1 : Int32)), .val (.int op), .val (.int bd), .val (.ref fb), .val (.int (4 : Int32)), .val (.int (Int32.ofNat 4)), .unset] [])) _
      refine XS.aload X306.here hx rfl (hb hby at_148) rfl rfl ?_
      show Steps p.tables e below (T306.setTop (mkF m 150 #[.val (.int p1), .val (.int p2), .val (.int p3), .val (.int p4), .val (.int (1 : Int32)), .val (.int op), .val (.int bd), .val (.ref fb), .val (.int (4 : Int32)), .val (.int (Int32.ofNat 4)), .unset] [(.ref fb)])) _
      refine XS.iloadN X306.here hx rfl (hb hby at_150) rfl ?_
      show Steps p.tables e below (T306.setTop (mkF m 151 #[.val (.int p1), .val (.int p2), .val (.int p3), .val (.int p4), .val (.int (1 : Int32)), .val (.int op), .val (.int bd), .val (.ref fb), .val (.int (4 : Int32)), .val (.int (Int32.ofNat 4)), .unset] [(.int p3), (.ref fb)])) _
      refine st307.trans ?_
      show Steps p.tables e below (T307.setTop (mkF m 154 #[.val (.int p1), .val (.int p2), .val (.int p3), .val (.int p4), .val (.int (1 : Int32)), .val (.int op), .val (.int bd), .val (.ref fb), .val (.int (4 : Int32)), .val (.int (Int32.ofNat 4)), .unset] [])) _
      refine XS.aload X307.here hx rfl (hb hby at_154) rfl rfl ?_
      show Steps p.tables e below (T307.setTop (mkF m 156 #[.val (.int p1), .val (.int p2), .val (.int p3), .val (.int p4), .val (.int (1 : Int32)), .val (.int op), .val (.int bd), .val (.ref fb), .val (.int (4 : Int32)), .val (.int (Int32.ofNat 4)), .unset] [(.ref fb)])) _
      refine st309.trans ?_
      show Steps p.tables e below (T309.setTop (mkF m 159 #[.val (.int p1), .val (.int p2), .val (.int p3), .val (.int p4), .val (.int (1 : Int32)), .val (.int op), .val (.int bd), .val (.ref fb), .val (.int (4 : Int32)), .val (.int (Int32.ofNat 4)), .unset] [])) _
      refine XS.aload X309.here hx rfl (hb hby at_159) rfl rfl ?_
      show Steps p.tables e below (T309.setTop (mkF m 161 #[.val (.int p1), .val (.int p2), .val (.int p3), .val (.int p4), .val (.int (1 : Int32)), .val (.int op), .val (.int bd), .val (.ref fb), .val (.int (4 : Int32)), .val (.int (Int32.ofNat 4)), .unset] [(.ref fb)])) _
      refine st310.trans ?_
      exact kt
    have pre317 : ∀ t, Steps p.tables e below (T310.setTop (mkF m 164 #[.val (.int p1), .val (.int p2), .val (.int p3), .val (.int p4), .val (.int (1 : Int32)), .val (.int op), .val (.int bd), .val (.ref fb), .val (.int (4 : Int32)), .val (.int (4 : Int32)), .unset] [(.ref r)])) t → Steps p.tables e below (s₁.setTop (entryFrame m #[(.int p1), (.int p2), (.int p3), (.int p4)] maxLocals)) t := by
      intro t kt
      have hsv : (Int32.ofNat 4) = (4 : Int32) := rfl
      refine pre316 t ?_
      rw [hsv]
      exact kt
    obtain ⟨_, _, ⟨T318, L318, k318, n318⟩, -, X318, ⟨Lc318, hQ318, l318, y318, z318⟩, st318⟩ := Jvm.LawKit.callS X310 hx (y := (⟨"com/example/flex_actor/flexactor/core/FrameBufferAbandonPinLaw", "prefixOk", "([BII)Z"⟩ : MethodName)) hown (mvT hZ (hw _ (List.mem_of_getElem? (i := 61) rfl))) (mvT hZ (hw _ (List.mem_of_getElem? (i := 62) rfl))) (mvT hZ (hw _ (List.mem_of_getElem? (i := 63) rfl))) (mvT hZ (hw _ (List.mem_of_getElem? (i := 64) rfl))) (by decide) (backOf (W := 0) (rmK1 l Z a0 hw [] r kr (p3.toInt8.toInt32) p1 T310.heap n0 Z310 Vr) hZ (hw _ (List.mem_of_getElem? (i := 64) rfl)) (hw _ (List.mem_of_getElem? (i := 63) rfl)) (by decide) (by decide)) (g := (mkF m 188 #[.val (.int p1), .val (.int p2), .val (.int p3), .val (.int p4), .val (.int (1 : Int32)), .val (.int op), .val (.int bd), .val (.ref fb), .val (.int (4 : Int32)), .val (.int (4 : Int32)), .val (.ref r)] [(.int p1), (.int (1 : Int32)), (.ref r)])) rfl (by rw [hml]; rfl) (argsL := [(.ref r), (.int (1 : Int32)), (.int p1)]) (rest := []) (lenOf pd_8 rfl) rfl (by show 2 * 0 + _ ≤ _; exact Nat.le_of_eq rfl) (hb hby at_188) (fun _ _ => ⟨rfl, rfl, (by decide : 3 + 0 ≤ _), (by decide : 8211 + 0 ≤ _)⟩)
    dsimp only [Pt.U, Pt.locs, Pt.cells, Pt.slots] at X318 l318 y318 z318 st318 hQ318
    subst l318 y318 z318
    obtain ⟨rfl, Nq318, eq318⟩ := hQ318
    have Nf318 := Fr.app Nf310 Nq318
    have pre319 : ∀ t, Steps p.tables e below (T318.setTop (mkF m 209 #[.val (.int p1), .val (.int p2), .val (.int p3), .val (.int p4), .val (.int (1 : Int32)), .val (.int op), .val (.int bd), .val (.ref fb), .val (.int (4 : Int32)), .val (.int (4 : Int32)), .val (.ref r)] [(.int (1 : Int32))])) t → Steps p.tables e below (s₁.setTop (entryFrame m #[(.int p1), (.int p2), (.int p3), (.int p4)] maxLocals)) t := by
      intro t kt
      refine pre317 t ?_
      show Steps p.tables e below (T310.setTop (mkF m 164 #[.val (.int p1), .val (.int p2), .val (.int p3), .val (.int p4), .val (.int (1 : Int32)), .val (.int op), .val (.int bd), .val (.ref fb), .val (.int (4 : Int32)), .val (.int (4 : Int32)), .unset] [(.ref r)])) _
      refine XS.astore X310.here hx rfl (hb hby at_164) rfl rfl (l' := #[.val (.int p1), .val (.int p2), .val (.int p3), .val (.int p4), .val (.int (1 : Int32)), .val (.int op), .val (.int bd), .val (.ref fb), .val (.int (4 : Int32)), .val (.int (4 : Int32)), .val (.ref r)]) rfl ?_
      show Steps p.tables e below (T310.setTop (mkF m 166 #[.val (.int p1), .val (.int p2), .val (.int p3), .val (.int p4), .val (.int (1 : Int32)), .val (.int op), .val (.int bd), .val (.ref fb), .val (.int (4 : Int32)), .val (.int (4 : Int32)), .val (.ref r)] [])) _
      refine XS.iload X310.here hx rfl (hb hby at_166) rfl ?_
      show Steps p.tables e below (T310.setTop (mkF m 168 #[.val (.int p1), .val (.int p2), .val (.int p3), .val (.int p4), .val (.int (1 : Int32)), .val (.int op), .val (.int bd), .val (.ref fb), .val (.int (4 : Int32)), .val (.int (4 : Int32)), .val (.ref r)] [(.int (4 : Int32))])) _
      refine XS.iload X310.here hx rfl (hb hby at_168) rfl ?_
      show Steps p.tables e below (T310.setTop (mkF m 170 #[.val (.int p1), .val (.int p2), .val (.int p3), .val (.int p4), .val (.int (1 : Int32)), .val (.int op), .val (.int bd), .val (.ref fb), .val (.int (4 : Int32)), .val (.int (4 : Int32)), .val (.ref r)] [(.int (4 : Int32)), (.int (4 : Int32))])) _
      refine XS.icmpNo X310.here hx rfl (hb hby at_170) rfl (teq rfl).2 ?_
      show Steps p.tables e below (T310.setTop (mkF m 173 #[.val (.int p1), .val (.int p2), .val (.int p3), .val (.int p4), .val (.int (1 : Int32)), .val (.int op), .val (.int bd), .val (.ref fb), .val (.int (4 : Int32)), .val (.int (4 : Int32)), .val (.ref r)] [])) _
      refine XS.aload X310.here hx rfl (hb hby at_173) rfl rfl ?_
      show Steps p.tables e below (T310.setTop (mkF m 175 #[.val (.int p1), .val (.int p2), .val (.int p3), .val (.int p4), .val (.int (1 : Int32)), .val (.int op), .val (.int bd), .val (.ref fb), .val (.int (4 : Int32)), .val (.int (4 : Int32)), .val (.ref r)] [(.ref r)])) _
      refine own_len X310 hx hZ rfl Vr (g := (mkF m 175 #[.val (.int p1), .val (.int p2), .val (.int p3), .val (.int p4), .val (.int (1 : Int32)), .val (.int op), .val (.int bd), .val (.ref fb), .val (.int (4 : Int32)), .val (.int (4 : Int32)), .val (.ref r)] [(.ref r)])) rfl rfl (hb hby at_175) _ ?_
      show Steps p.tables e below (T310.setTop (mkF m 176 #[.val (.int p1), .val (.int p2), .val (.int p3), .val (.int p4), .val (.int (1 : Int32)), .val (.int op), .val (.int bd), .val (.ref fb), .val (.int (4 : Int32)), .val (.int (4 : Int32)), .val (.ref r)] [(.int (5 : Int32))])) _
      refine XS.iload X310.here hx rfl (hb hby at_176) rfl ?_
      show Steps p.tables e below (T310.setTop (mkF m 178 #[.val (.int p1), .val (.int p2), .val (.int p3), .val (.int p4), .val (.int (1 : Int32)), .val (.int op), .val (.int bd), .val (.ref fb), .val (.int (4 : Int32)), .val (.int (4 : Int32)), .val (.ref r)] [(.int (4 : Int32)), (.int (5 : Int32))])) _
      refine XS.iconst X310.here hx rfl (hb hby at_178) ?_
      show Steps p.tables e below (T310.setTop (mkF m 179 #[.val (.int p1), .val (.int p2), .val (.int p3), .val (.int p4), .val (.int (1 : Int32)), .val (.int op), .val (.int bd), .val (.ref fb), .val (.int (4 : Int32)), .val (.int (4 : Int32)), .val (.ref r)] [(.int (1 : Int32)), (.int (4 : Int32)), (.int (5 : Int32))])) _
      refine XS.iadd X310.here hx rfl (hb hby at_179) rfl ?_
      show Steps p.tables e below (T310.setTop (mkF m 180 #[.val (.int p1), .val (.int p2), .val (.int p3), .val (.int p4), .val (.int (1 : Int32)), .val (.int op), .val (.int bd), .val (.ref fb), .val (.int (4 : Int32)), .val (.int (4 : Int32)), .val (.ref r)] [(.int (5 : Int32)), (.int (5 : Int32))])) _
      refine XS.icmpNo X310.here hx rfl (hb hby at_180) rfl (teq rfl).2 ?_
      show Steps p.tables e below (T310.setTop (mkF m 183 #[.val (.int p1), .val (.int p2), .val (.int p3), .val (.int p4), .val (.int (1 : Int32)), .val (.int op), .val (.int bd), .val (.ref fb), .val (.int (4 : Int32)), .val (.int (4 : Int32)), .val (.ref r)] [])) _
      refine XS.aload X310.here hx rfl (hb hby at_183) rfl rfl ?_
      show Steps p.tables e below (T310.setTop (mkF m 185 #[.val (.int p1), .val (.int p2), .val (.int p3), .val (.int p4), .val (.int (1 : Int32)), .val (.int op), .val (.int bd), .val (.ref fb), .val (.int (4 : Int32)), .val (.int (4 : Int32)), .val (.ref r)] [(.ref r)])) _
      refine XS.iload X310.here hx rfl (hb hby at_185) rfl ?_
      show Steps p.tables e below (T310.setTop (mkF m 187 #[.val (.int p1), .val (.int p2), .val (.int p3), .val (.int p4), .val (.int (1 : Int32)), .val (.int op), .val (.int bd), .val (.ref fb), .val (.int (4 : Int32)), .val (.int (4 : Int32)), .val (.ref r)] [(.int (1 : Int32)), (.ref r)])) _
      refine XS.iloadN X310.here hx rfl (hb hby at_187) rfl ?_
      show Steps p.tables e below (T310.setTop (mkF m 188 #[.val (.int p1), .val (.int p2), .val (.int p3), .val (.int p4), .val (.int (1 : Int32)), .val (.int op), .val (.int bd), .val (.ref fb), .val (.int (4 : Int32)), .val (.int (4 : Int32)), .val (.ref r)] [(.int p1), (.int (1 : Int32)), (.ref r)])) _
      refine st318 _ ?_
      show Steps p.tables e below (T318.setTop (mkF m 191 #[.val (.int p1), .val (.int p2), .val (.int p3), .val (.int p4), .val (.int (1 : Int32)), .val (.int op), .val (.int bd), .val (.ref fb), .val (.int (4 : Int32)), .val (.int (4 : Int32)), .val (.ref r)] [(.int (1 : Int32))])) _
      refine XS.ifNo X318.here hx rfl (hb hby at_191) rfl ((if0 _ _).trans (feq (by decide)).1) ?_
      show Steps p.tables e below (T318.setTop (mkF m 194 #[.val (.int p1), .val (.int p2), .val (.int p3), .val (.int p4), .val (.int (1 : Int32)), .val (.int op), .val (.int bd), .val (.ref fb), .val (.int (4 : Int32)), .val (.int (4 : Int32)), .val (.ref r)] [])) _
      refine XS.aload X318.here hx rfl (hb hby at_194) rfl rfl ?_
      show Steps p.tables e below (T318.setTop (mkF m 196 #[.val (.int p1), .val (.int p2), .val (.int p3), .val (.int p4), .val (.int (1 : Int32)), .val (.int op), .val (.int bd), .val (.ref fb), .val (.int (4 : Int32)), .val (.int (4 : Int32)), .val (.ref r)] [(.ref r)])) _
      refine XS.iload X318.here hx rfl (hb hby at_196) rfl ?_
      show Steps p.tables e below (T318.setTop (mkF m 198 #[.val (.int p1), .val (.int p2), .val (.int p3), .val (.int p4), .val (.int (1 : Int32)), .val (.int op), .val (.int bd), .val (.ref fb), .val (.int (4 : Int32)), .val (.int (4 : Int32)), .val (.ref r)] [(.int (4 : Int32)), (.ref r)])) _
      refine own_bal X318 hx hZ eq318 Vr (j := (4 : Int32)) ⟨by decide, by decide⟩ (v := (.int (p3.toInt8.toInt32))) rfl (g := (mkF m 198 #[.val (.int p1), .val (.int p2), .val (.int p3), .val (.int p4), .val (.int (1 : Int32)), .val (.int op), .val (.int bd), .val (.ref fb), .val (.int (4 : Int32)), .val (.int (4 : Int32)), .val (.ref r)] [(.int (4 : Int32)), (.ref r)])) rfl rfl (hb hby at_198) _ ?_
      show Steps p.tables e below (T318.setTop (mkF m 199 #[.val (.int p1), .val (.int p2), .val (.int p3), .val (.int p4), .val (.int (1 : Int32)), .val (.int op), .val (.int bd), .val (.ref fb), .val (.int (4 : Int32)), .val (.int (4 : Int32)), .val (.ref r)] [(.int (p3.toInt8.toInt32))])) _
      refine XS.iloadN X318.here hx rfl (hb hby at_199) rfl ?_
      show Steps p.tables e below (T318.setTop (mkF m 200 #[.val (.int p1), .val (.int p2), .val (.int p3), .val (.int p4), .val (.int (1 : Int32)), .val (.int op), .val (.int bd), .val (.ref fb), .val (.int (4 : Int32)), .val (.int (4 : Int32)), .val (.ref r)] [(.int p3), (.int (p3.toInt8.toInt32))])) _
      refine XS.i2b X318.here hx rfl (hb hby at_200) rfl ?_
      show Steps p.tables e below (T318.setTop (mkF m 201 #[.val (.int p1), .val (.int p2), .val (.int p3), .val (.int p4), .val (.int (1 : Int32)), .val (.int op), .val (.int bd), .val (.ref fb), .val (.int (4 : Int32)), .val (.int (4 : Int32)), .val (.ref r)] [(.int (p3.toInt8.toInt32)), (.int (p3.toInt8.toInt32))])) _
      refine XS.icmpNo X318.here hx rfl (hb hby at_201) rfl (teq rfl).2 ?_
      show Steps p.tables e below (T318.setTop (mkF m 204 #[.val (.int p1), .val (.int p2), .val (.int p3), .val (.int p4), .val (.int (1 : Int32)), .val (.int op), .val (.int bd), .val (.ref fb), .val (.int (4 : Int32)), .val (.int (4 : Int32)), .val (.ref r)] [])) _
      refine XS.iconst X318.here hx rfl (hb hby at_204) ?_
      show Steps p.tables e below (T318.setTop (mkF m 205 #[.val (.int p1), .val (.int p2), .val (.int p3), .val (.int p4), .val (.int (1 : Int32)), .val (.int op), .val (.int bd), .val (.ref fb), .val (.int (4 : Int32)), .val (.int (4 : Int32)), .val (.ref r)] [(.int (1 : Int32))])) _
      refine XS.goto X318.here hx rfl (pc0 := 205) (pc' := 209) rfl (hb hby at_205) (by decide) (by decide) ?_
      exact kt
    obtain ⟨fsx, hr, hrun, hended, hW, hsame⟩ := X318.leave (v := some (.int (nar .boolean (1 : Int32)))) (fun h => by rw [Bd.returns] at h; cases h)
    refine ⟨_, _, pre319 _ ?_, hrun, hended, _, _, rfl, ?_, ⟨_, rfl⟩, hW, hsame.mono (by decide) (by decide)⟩
    · exact retN X318 hx (t := .boolean) Bd.returns (by simp) (hb hby at_209) hr
    · show Q0 Z p1 p2 p3 p4 h0 n0 _ T318.heap _
      rw [eq318]
      exact ⟨rfl, Nf318⟩
  · have pre320 : ∀ t, Steps p.tables e below (T243.setTop (mkF m 34 #[.val (.int p1), .val (.int p2), .val (.int p3), .val (.int p4), .val (.int (2 : Int32)), .val (.int op), .val (.int bd), .val (.ref fb), .unset, .unset, .unset] [])) t → Steps p.tables e below (s₁.setTop (entryFrame m #[(.int p1), (.int p2), (.int p3), (.int p4)] maxLocals)) t := by
      intro t kt
      have hsv : (p4 &&& (3 : Int32)) = (2 : Int32) := hn
      refine pre245 t ?_
      rw [hsv]
      exact kt
    obtain ⟨cq321, kq321, q321a, q321b, q321c⟩ := isOf hZ rfl f244
    obtain ⟨_, _, ⟨T321, L321, k321, n321⟩, -, X321, ⟨Lc321, hQ321, l321, y321, z321⟩, st321⟩ := X243.virtualBack hx (y := (⟨"com/example/flex_actor/flexactor/core/FrameBuffer", "writeByte", "(I)V"⟩ : MethodName)) (z := (⟨"com/example/flex_actor/flexactor/core/FrameBuffer", "writeByte", "(I)V"⟩ : MethodName)) hown (mvT hZ (hw _ (List.mem_of_getElem? (i := 39) rfl))) (mvT hZ (hw _ (List.mem_of_getElem? (i := 40) rfl))) (notFace_of_selects (args := #[]) (mvT hZ (hw _ (List.mem_of_getElem? (i := 42) rfl)))) (mvT hZ (hw _ (List.mem_of_getElem? (i := 42) rfl))) (mvT hZ (hw _ (List.mem_of_getElem? (i := 41) rfl))) (by decide) (backOf (W := 0) (rmB l Z a0 hw [] fb bb k1 [(.int (0 : Int32)), (.int (0 : Int32)), (.int (0 : Int32)), (.int (0 : Int32)), (.int (0 : Int32)), (.int (0 : Int32)), (.int (0 : Int32)), (.int (0 : Int32)), (.int (0 : Int32)), (.int (0 : Int32)), (.int (0 : Int32)), (.int (0 : Int32)), (.int (0 : Int32)), (.int (0 : Int32)), (.int (0 : Int32)), (.int (0 : Int32))] 0 (-1 : Int32) p1 T243.heap n0 Z243 f244 Fb0 Fs0 Ff0 V0  rfl ne_fb g_fb g_bb (by decide)) hZ (hw _ (List.mem_of_getElem? (i := 43) rfl)) (hw _ (List.mem_of_getElem? (i := 2) rfl)) (by decide) (by decide)) q321a q321c (g := (mkF m 61 #[.val (.int p1), .val (.int p2), .val (.int p3), .val (.int p4), .val (.int (2 : Int32)), .val (.int op), .val (.int bd), .val (.ref fb), .unset, .unset, .unset] [(.int p1), (.ref fb)])) rfl (by rw [hml]; rfl) (Steps.refl _) (argsL := [(.int p1)]) (rest := []) (lenOf pd_0 rfl) rfl (by show 2 * 0 + _ ≤ _; exact Nat.le_of_eq rfl) (hb hby at_61) (fun _ _ => ⟨rfl, rfl, (by decide : 2 + 0 ≤ _), (by decide : 8195 + 0 ≤ _)⟩)
    dsimp only [Pt.U, Pt.locs, Pt.cells, Pt.slots] at X321 l321 y321 z321 st321 hQ321
    subst l321 y321 z321
    obtain ⟨rfl, Nq321, Kq321, Fb1, Fs1, Ff1, V1⟩ := hQ321
    have f322 := (f244.keep Kq321)
    have Z321 : n0 ≤ T321.heap.size := Nat.le_trans Z243 Kq321.1
    have K321 : Keep h0 T321.heap [] := K243.trans Kq321 (allS (P := fun x => x ∈ ([] : List Addr) ∨ h0.size ≤ x) (Or.inr sz_fb) (allS (P := fun x => x ∈ ([] : List Addr) ∨ h0.size ≤ x) (Or.inr sz_bb) all0))
    have Nf321 := Fr.app Nf243 Nq321
    have Vpf : Arv Z T321.heap bb k1 .byte (8192 : Int32) [(.int (p1.toInt8.toInt32)), (.int (0 : Int32)), (.int (0 : Int32)), (.int (0 : Int32)), (.int (0 : Int32)), (.int (0 : Int32)), (.int (0 : Int32)), (.int (0 : Int32)), (.int (0 : Int32)), (.int (0 : Int32)), (.int (0 : Int32)), (.int (0 : Int32)), (.int (0 : Int32)), (.int (0 : Int32)), (.int (0 : Int32)), (.int (0 : Int32))] (.int (0 : Int32)) := V1
    have Fpf : Fld Z T321.heap fb "com/example/flex_actor/flexactor/core/FrameBuffer" "size" "I" (.int (Int32.ofNat 1)) := Fs1
    have pre323 : ∀ t, Steps p.tables e below (T321.setTop (mkF m 99 #[.val (.int p1), .val (.int p2), .val (.int p3), .val (.int p4), .val (.int (2 : Int32)), .val (.int op), .val (.int bd), .val (.ref fb), .val (.int (1 : Int32)), .unset, .unset] [(.int op)])) t → Steps p.tables e below (s₁.setTop (entryFrame m #[(.int p1), (.int p2), (.int p3), (.int p4)] maxLocals)) t := by
      intro t kt
      refine pre320 t ?_
      show Steps p.tables e below (T243.setTop (mkF m 34 #[.val (.int p1), .val (.int p2), .val (.int p3), .val (.int p4), .val (.int (2 : Int32)), .val (.int op), .val (.int bd), .val (.ref fb), .unset, .unset, .unset] [])) _
      refine XS.iload X243.here hx rfl (hb hby at_34) rfl ?_
      show Steps p.tables e below (T243.setTop (mkF m 36 #[.val (.int p1), .val (.int p2), .val (.int p3), .val (.int p4), .val (.int (2 : Int32)), .val (.int op), .val (.int bd), .val (.ref fb), .unset, .unset, .unset] [(.int (2 : Int32))])) _
      refine XS.iconst X243.here hx rfl (hb hby at_36) ?_
      show Steps p.tables e below (T243.setTop (mkF m 37 #[.val (.int p1), .val (.int p2), .val (.int p3), .val (.int p4), .val (.int (2 : Int32)), .val (.int op), .val (.int bd), .val (.ref fb), .unset, .unset, .unset] [(.int (1 : Int32)), (.int (2 : Int32))])) _
      refine XS.icmpYes X243.here hx rfl (pc0 := 37) (pc' := 52) rfl (hb hby at_37) rfl (feq (by decide)).2 (by decide) (by decide) ?_
      show Steps p.tables e below (T243.setTop (mkF m 52 #[.val (.int p1), .val (.int p2), .val (.int p3), .val (.int p4), .val (.int (2 : Int32)), .val (.int op), .val (.int bd), .val (.ref fb), .unset, .unset, .unset] [])) _
      refine XS.iload X243.here hx rfl (hb hby at_52) rfl ?_
      show Steps p.tables e below (T243.setTop (mkF m 54 #[.val (.int p1), .val (.int p2), .val (.int p3), .val (.int p4), .val (.int (2 : Int32)), .val (.int op), .val (.int bd), .val (.ref fb), .unset, .unset, .unset] [(.int (2 : Int32))])) _
      refine XS.iconst X243.here hx rfl (hb hby at_54) ?_
      show Steps p.tables e below (T243.setTop (mkF m 55 #[.val (.int p1), .val (.int p2), .val (.int p3), .val (.int p4), .val (.int (2 : Int32)), .val (.int op), .val (.int bd), .val (.ref fb), .unset, .unset, .unset] [(.int (2 : Int32)), (.int (2 : Int32))])) _
      refine XS.icmpNo X243.here hx rfl (hb hby at_55) rfl (teq (by decide)).2 ?_
      show Steps p.tables e below (T243.setTop (mkF m 58 #[.val (.int p1), .val (.int p2), .val (.int p3), .val (.int p4), .val (.int (2 : Int32)), .val (.int op), .val (.int bd), .val (.ref fb), .unset, .unset, .unset] [])) _
      refine XS.aload X243.here hx rfl (hb hby at_58) rfl rfl ?_
      show Steps p.tables e below (T243.setTop (mkF m 60 #[.val (.int p1), .val (.int p2), .val (.int p3), .val (.int p4), .val (.int (2 : Int32)), .val (.int op), .val (.int bd), .val (.ref fb), .unset, .unset, .unset] [(.ref fb)])) _
      refine XS.iloadN X243.here hx rfl (hb hby at_60) rfl ?_
      show Steps p.tables e below (T243.setTop (mkF m 61 #[.val (.int p1), .val (.int p2), .val (.int p3), .val (.int p4), .val (.int (2 : Int32)), .val (.int op), .val (.int bd), .val (.ref fb), .unset, .unset, .unset] [(.int p1), (.ref fb)])) _
      refine st321.trans ?_
      show Steps p.tables e below (T321.setTop (mkF m 64 #[.val (.int p1), .val (.int p2), .val (.int p3), .val (.int p4), .val (.int (2 : Int32)), .val (.int op), .val (.int bd), .val (.ref fb), .unset, .unset, .unset] [])) _
      refine XS.iconst X321.here hx rfl (hb hby at_64) ?_
      show Steps p.tables e below (T321.setTop (mkF m 65 #[.val (.int p1), .val (.int p2), .val (.int p3), .val (.int p4), .val (.int (2 : Int32)), .val (.int op), .val (.int bd), .val (.ref fb), .unset, .unset, .unset] [(.int (1 : Int32))])) _
      refine XS.istore X321.here hx rfl (hb hby at_65) rfl (l' := #[.val (.int p1), .val (.int p2), .val (.int p3), .val (.int p4), .val (.int (2 : Int32)), .val (.int op), .val (.int bd), .val (.ref fb), .val (.int (1 : Int32)), .unset, .unset]) rfl ?_
      show Steps p.tables e below (T321.setTop (mkF m 67 #[.val (.int p1), .val (.int p2), .val (.int p3), .val (.int p4), .val (.int (2 : Int32)), .val (.int op), .val (.int bd), .val (.ref fb), .val (.int (1 : Int32)), .unset, .unset] [])) _
      refine XS.goto X321.here hx rfl (pc0 := 67) (pc' := 97) rfl (hb hby at_67) (by decide) (by decide) ?_
      show Steps p.tables e below (T321.setTop (mkF m 97 #[.val (.int p1), .val (.int p2), .val (.int p3), .val (.int p4), .val (.int (2 : Int32)), .val (.int op), .val (.int bd), .val (.ref fb), .val (.int (1 : Int32)), .unset, .unset] [])) _
      refine XS.iload X321.here hx rfl (hb hby at_97) rfl ?_
      exact kt
    obtain ⟨ws, Tm324, hm324, Lm324, Xm324, em324, Nm324, Km324, Zm324, hsp324, fm324_0, fm324_1, fm324_2, fm324_3, fm324_4, prem324⟩ : ∃ (ws : List Value) (Tm324 : State) (hm324 : Heap) (Lm324 : List Loc), Stand p l e room_1 s m #[(.int p1), (.int p2), (.int p3), (.int p4)] below meth c Tm324 Lm324 2 8195 ∧ Tm324.heap = hm324 ∧ Fr n0 Lm324 ∧ Keep h0 hm324 [] ∧ n0 ≤ hm324.size ∧ (ws.take 1 = [(.int (p1.toInt8.toInt32))] ∧ ws.length = 16) ∧ Exa Z hm324 fb "com/example/flex_actor/flexactor/core/FrameBuffer" ∧ Fld Z hm324 fb "com/example/flex_actor/flexactor/core/FrameBuffer" "bytes" "[B" (.ref bb) ∧ Fld Z hm324 fb "com/example/flex_actor/flexactor/core/FrameBuffer" "size" "I" (.int (Int32.ofNat 1)) ∧ Fld Z hm324 fb "com/example/flex_actor/flexactor/core/FrameBuffer" "frameStart" "I" (.int (-1 : Int32)) ∧ Arv Z hm324 bb k1 .byte (8192 : Int32) ws (.int (0 : Int32)) ∧ ∀ t, Steps p.tables e below (Tm324.setTop (mkF m 141 #[.val (.int p1), .val (.int p2), .val (.int p3), .val (.int p4), .val (.int (2 : Int32)), .val (.int op), .val (.int bd), .val (.ref fb), .val (.int (1 : Int32)), .unset, .unset] [])) t → Steps p.tables e below (s₁.setTop (entryFrame m #[(.int p1), (.int p2), (.int p3), (.int p4)] maxLocals)) t := by
      by_cases hc99 : op = (0 : Int32)
      · obtain ⟨cq325, kq325, q325a, q325b, q325c⟩ := isOf hZ rfl f322
        obtain ⟨_, _, ⟨T325, L325, k325, n325⟩, -, X325, ⟨Lc325, hQ325, l325, y325, z325⟩, st325⟩ := X321.virtualBack hx (y := (⟨"com/example/flex_actor/flexactor/core/FrameBuffer", "abandon", "()V"⟩ : MethodName)) (z := (⟨"com/example/flex_actor/flexactor/core/FrameBuffer", "abandon", "()V"⟩ : MethodName)) hown (mvT hZ (hw _ (List.mem_of_getElem? (i := 29) rfl))) (mvT hZ (hw _ (List.mem_of_getElem? (i := 30) rfl))) (notFace_of_selects (args := #[]) (mvT hZ (hw _ (List.mem_of_getElem? (i := 32) rfl)))) (mvT hZ (hw _ (List.mem_of_getElem? (i := 32) rfl))) (mvT hZ (hw _ (List.mem_of_getElem? (i := 31) rfl))) (by decide) (backOf (W := 0) (rmA0 l Z a0 hw [] fb T321.heap n0 Z321 Ff1) hZ (hw _ (List.mem_of_getElem? (i := 33) rfl)) (hw _ (List.mem_of_getElem? (i := 2) rfl)) (by decide) (by decide)) q325a q325c (g := (mkF m 138 #[.val (.int p1), .val (.int p2), .val (.int p3), .val (.int p4), .val (.int (2 : Int32)), .val (.int op), .val (.int bd), .val (.ref fb), .val (.int (1 : Int32)), .unset, .unset] [(.ref fb)])) rfl (by rw [hml]; rfl) (Steps.refl _) (argsL := []) (rest := []) (lenOf pd_4 rfl) rfl (by show 2 * 0 + _ ≤ _; exact Nat.le_of_eq rfl) (hb hby at_138) (fun _ _ => ⟨rfl, rfl, (by decide : 2 + 0 ≤ _), (by decide : 8195 + 0 ≤ _)⟩)
        dsimp only [Pt.U, Pt.locs, Pt.cells, Pt.slots] at X325 l325 y325 z325 st325 hQ325
        subst l325 y325 z325
        obtain ⟨rfl, Nq325, eq325⟩ := hQ325
        have Nf325 := Fr.app Nf321 Nq325
        have pre326 : ∀ t, Steps p.tables e below (T325.setTop (mkF m 141 #[.val (.int p1), .val (.int p2), .val (.int p3), .val (.int p4), .val (.int (2 : Int32)), .val (.int op), .val (.int bd), .val (.ref fb), .val (.int (1 : Int32)), .unset, .unset] [])) t → Steps p.tables e below (s₁.setTop (entryFrame m #[(.int p1), (.int p2), (.int p3), (.int p4)] maxLocals)) t := by
          intro t kt
          refine pre323 t ?_
          show Steps p.tables e below (T321.setTop (mkF m 99 #[.val (.int p1), .val (.int p2), .val (.int p3), .val (.int p4), .val (.int (2 : Int32)), .val (.int op), .val (.int bd), .val (.ref fb), .val (.int (1 : Int32)), .unset, .unset] [(.int op)])) _
          refine XS.ifYes X321.here hx rfl (pc0 := 99) (pc' := 136) rfl (hb hby at_99) rfl ((if0 _ _).trans (teq hc99).1) (by decide) (by decide) ?_
          show Steps p.tables e below (T321.setTop (mkF m 136 #[.val (.int p1), .val (.int p2), .val (.int p3), .val (.int p4), .val (.int (2 : Int32)), .val (.int op), .val (.int bd), .val (.ref fb), .val (.int (1 : Int32)), .unset, .unset] [])) _
          refine XS.aload X321.here hx rfl (hb hby at_136) rfl rfl ?_
          show Steps p.tables e below (T321.setTop (mkF m 138 #[.val (.int p1), .val (.int p2), .val (.int p3), .val (.int p4), .val (.int (2 : Int32)), .val (.int op), .val (.int bd), .val (.ref fb), .val (.int (1 : Int32)), .unset, .unset] [(.ref fb)])) _
          refine st325.trans ?_
          exact kt
        refine ⟨[(.int (p1.toInt8.toInt32)), (.int (0 : Int32)), (.int (0 : Int32)), (.int (0 : Int32)), (.int (0 : Int32)), (.int (0 : Int32)), (.int (0 : Int32)), (.int (0 : Int32)), (.int (0 : Int32)), (.int (0 : Int32)), (.int (0 : Int32)), (.int (0 : Int32)), (.int (0 : Int32)), (.int (0 : Int32)), (.int (0 : Int32)), (.int (0 : Int32))], T325, T321.heap, _, X325, eq325, Nf325, K321, Z321, ?_, f322, Fb1, Fpf, Ff1, Vpf, pre326⟩
        exact ⟨rfl, rfl⟩
      · obtain ⟨cq327, kq327, q327a, q327b, q327c⟩ := isOf hZ rfl f322
        obtain ⟨_, _, ⟨T327, L327, k327, n327⟩, -, X327, ⟨Lc327, hQ327, l327, y327, z327⟩, st327⟩ := X321.virtualBack hx (y := (⟨"com/example/flex_actor/flexactor/core/FrameBuffer", "begin", "(B)V"⟩ : MethodName)) (z := (⟨"com/example/flex_actor/flexactor/core/FrameBuffer", "begin", "(B)V"⟩ : MethodName)) hown (mvT hZ (hw _ (List.mem_of_getElem? (i := 65) rfl))) (mvT hZ (hw _ (List.mem_of_getElem? (i := 66) rfl))) (notFace_of_selects (args := #[]) (mvT hZ (hw _ (List.mem_of_getElem? (i := 68) rfl)))) (mvT hZ (hw _ (List.mem_of_getElem? (i := 68) rfl))) (mvT hZ (hw _ (List.mem_of_getElem? (i := 67) rfl))) (by decide) (backOf (W := 0) (rmG l Z a0 hw [] fb bb k1 [(.int (p1.toInt8.toInt32)), (.int (0 : Int32)), (.int (0 : Int32)), (.int (0 : Int32)), (.int (0 : Int32)), (.int (0 : Int32)), (.int (0 : Int32)), (.int (0 : Int32)), (.int (0 : Int32)), (.int (0 : Int32)), (.int (0 : Int32)), (.int (0 : Int32)), (.int (0 : Int32)), (.int (0 : Int32)), (.int (0 : Int32)), (.int (0 : Int32))] 1 (p2.toInt8.toInt32) T321.heap n0 Z321 f322 Fb1 Fpf Ff1 Vpf  rfl ne_fb g_fb g_bb (by decide)) hZ (hw _ (List.mem_of_getElem? (i := 69) rfl)) (hw _ (List.mem_of_getElem? (i := 2) rfl)) (by decide) (by decide)) q327a q327c (g := (mkF m 106 #[.val (.int p1), .val (.int p2), .val (.int p3), .val (.int p4), .val (.int (2 : Int32)), .val (.int op), .val (.int bd), .val (.ref fb), .val (.int (1 : Int32)), .unset, .unset] [(.int (p2.toInt8.toInt32)), (.ref fb)])) rfl (by rw [hml]; rfl) (Steps.refl _) (argsL := [(.int (p2.toInt8.toInt32))]) (rest := []) (lenOf pd_5 rfl) rfl (by show 2 * 0 + _ ≤ _; exact Nat.le_of_eq rfl) (hb hby at_106) (fun _ _ => ⟨rfl, rfl, (by decide : 2 + 0 ≤ _), (by decide : 8195 + 0 ≤ _)⟩)
        dsimp only [Pt.U, Pt.locs, Pt.cells, Pt.slots] at X327 l327 y327 z327 st327 hQ327
        subst l327 y327 z327
        obtain ⟨rfl, Nq327, Kq327, Fbh, Fsh, Ffh, Vh⟩ := hQ327
        have f328 := (f322.keep Kq327)
        have Z327 : n0 ≤ T327.heap.size := Nat.le_trans Z321 Kq327.1
        have K327 : Keep h0 T327.heap [] := K321.trans Kq327 (allS (P := fun x => x ∈ ([] : List Addr) ∨ h0.size ≤ x) (Or.inr sz_fb) (allS (P := fun x => x ∈ ([] : List Addr) ∨ h0.size ≤ x) (Or.inr sz_bb) all0))
        have Nf327 := Fr.app Nf321 Nq327
        have pre329 : ∀ t, Steps p.tables e below (T327.setTop (mkF m 112 #[.val (.int p1), .val (.int p2), .val (.int p3), .val (.int p4), .val (.int (2 : Int32)), .val (.int op), .val (.int bd), .val (.ref fb), .val (.int (1 : Int32)), .unset, .unset] [(.int (1 : Int32)), (.int bd)])) t → Steps p.tables e below (s₁.setTop (entryFrame m #[(.int p1), (.int p2), (.int p3), (.int p4)] maxLocals)) t := by
          intro t kt
          refine pre323 t ?_
          show Steps p.tables e below (T321.setTop (mkF m 99 #[.val (.int p1), .val (.int p2), .val (.int p3), .val (.int p4), .val (.int (2 : Int32)), .val (.int op), .val (.int bd), .val (.ref fb), .val (.int (1 : Int32)), .unset, .unset] [(.int op)])) _
          refine XS.ifNo X321.here hx rfl (hb hby at_99) rfl ((if0 _ _).trans (feq hc99).1) ?_
          show Steps p.tables e below (T321.setTop (mkF m 102 #[.val (.int p1), .val (.int p2), .val (.int p3), .val (.int p4), .val (.int (2 : Int32)), .val (.int op), .val (.int bd), .val (.ref fb), .val (.int (1 : Int32)), .unset, .unset] [])) _
          refine XS.aload X321.here hx rfl (hb hby at_102) rfl rfl ?_
          show Steps p.tables e below (T321.setTop (mkF m 104 #[.val (.int p1), .val (.int p2), .val (.int p3), .val (.int p4), .val (.int (2 : Int32)), .val (.int op), .val (.int bd), .val (.ref fb), .val (.int (1 : Int32)), .unset, .unset] [(.ref fb)])) _
          refine XS.iloadN X321.here hx rfl (hb hby at_104) rfl ?_
          show Steps p.tables e below (T321.setTop (mkF m 105 #[.val (.int p1), .val (.int p2), .val (.int p3), .val (.int p4), .val (.int (2 : Int32)), .val (.int op), .val (.int bd), .val (.ref fb), .val (.int (1 : Int32)), .unset, .unset] [(.int p2), (.ref fb)])) _
          refine XS.i2b X321.here hx rfl (hb hby at_105) rfl ?_
          show Steps p.tables e below (T321.setTop (mkF m 106 #[.val (.int p1), .val (.int p2), .val (.int p3), .val (.int p4), .val (.int (2 : Int32)), .val (.int op), .val (.int bd), .val (.ref fb), .val (.int (1 : Int32)), .unset, .unset] [(.int (p2.toInt8.toInt32)), (.ref fb)])) _
          refine st327.trans ?_
          show Steps p.tables e below (T327.setTop (mkF m 109 #[.val (.int p1), .val (.int p2), .val (.int p3), .val (.int p4), .val (.int (2 : Int32)), .val (.int op), .val (.int bd), .val (.ref fb), .val (.int (1 : Int32)), .unset, .unset] [])) _
          refine XS.iload X327.here hx rfl (hb hby at_109) rfl ?_
          show Steps p.tables e below (T327.setTop (mkF m 111 #[.val (.int p1), .val (.int p2), .val (.int p3), .val (.int p4), .val (.int (2 : Int32)), .val (.int op), .val (.int bd), .val (.ref fb), .val (.int (1 : Int32)), .unset, .unset] [(.int bd)])) _
          refine XS.iconst X327.here hx rfl (hb hby at_111) ?_
          exact kt
        by_cases hc112 : bd = (1 : Int32)
        · obtain ⟨cq330, kq330, q330a, q330b, q330c⟩ := isOf hZ rfl f328
          obtain ⟨_, _, ⟨T330, L330, k330, n330⟩, -, X330, ⟨Lc330, hQ330, l330, y330, z330⟩, st330⟩ := X327.virtualBack hx (y := (⟨"com/example/flex_actor/flexactor/core/FrameBuffer", "writeInt", "(I)V"⟩ : MethodName)) (z := (⟨"com/example/flex_actor/flexactor/core/FrameBuffer", "writeInt", "(I)V"⟩ : MethodName)) hown (mvT hZ (hw _ (List.mem_of_getElem? (i := 14) rfl))) (mvT hZ (hw _ (List.mem_of_getElem? (i := 15) rfl))) (notFace_of_selects (args := #[]) (mvT hZ (hw _ (List.mem_of_getElem? (i := 17) rfl)))) (mvT hZ (hw _ (List.mem_of_getElem? (i := 17) rfl))) (mvT hZ (hw _ (List.mem_of_getElem? (i := 16) rfl))) (by decide) (backOf (W := 0) (rmW l Z a0 hw [] fb bb k1 ((own_put [(.int (p1.toInt8.toInt32)), (.int (0 : Int32)), (.int (0 : Int32)), (.int (0 : Int32)), (.int (0 : Int32)), (.int (0 : Int32)), (.int (0 : Int32)), (.int (0 : Int32)), (.int (0 : Int32)), (.int (0 : Int32)), (.int (0 : Int32)), (.int (0 : Int32)), (.int (0 : Int32)), (.int (0 : Int32)), (.int (0 : Int32)), (.int (0 : Int32))] 1 (0 : Int32)).set (1 + 4) (.int ((p2.toInt8.toInt32).toInt8.toInt32))) (1 + 4 + 1) (Int32.ofNat 1) p3 T327.heap n0 Z327 f328 Fbh Fsh Ffh Vh  (by rw [List.length_set, own_putl]; rfl) ne_fb g_fb g_bb (by decide)) hZ (hw _ (List.mem_of_getElem? (i := 18) rfl)) (hw _ (List.mem_of_getElem? (i := 2) rfl)) (by decide) (by decide)) q330a q330c (g := (mkF m 118 #[.val (.int p1), .val (.int p2), .val (.int p3), .val (.int p4), .val (.int (2 : Int32)), .val (.int op), .val (.int bd), .val (.ref fb), .val (.int (1 : Int32)), .unset, .unset] [(.int p3), (.ref fb)])) rfl (by rw [hml]; rfl) (Steps.refl _) (argsL := [(.int p3)]) (rest := []) (lenOf pd_0 rfl) rfl (by show 2 * 0 + _ ≤ _; exact Nat.le_of_eq rfl) (hb hby at_118) (fun _ _ => ⟨rfl, rfl, (by decide : 2 + 0 ≤ _), (by decide : 8195 + 0 ≤ _)⟩)
          dsimp only [Pt.U, Pt.locs, Pt.cells, Pt.slots] at X330 l330 y330 z330 st330 hQ330
          subst l330 y330 z330
          obtain ⟨rfl, Nq330, Kq330, Fbi, Fsi, Ffi, Vi⟩ := hQ330
          have f331 := (f328.keep Kq330)
          have Z330 : n0 ≤ T330.heap.size := Nat.le_trans Z327 Kq330.1
          have K330 : Keep h0 T330.heap [] := K327.trans Kq330 (allS (P := fun x => x ∈ ([] : List Addr) ∨ h0.size ≤ x) (Or.inr sz_fb) (allS (P := fun x => x ∈ ([] : List Addr) ∨ h0.size ≤ x) (Or.inr sz_bb) all0))
          have Nf330 := Fr.app Nf327 Nq330
          obtain ⟨cq332, kq332, q332a, q332b, q332c⟩ := isOf hZ rfl f331
          obtain ⟨_, _, ⟨T332, L332, k332, n332⟩, -, X332, ⟨Lc332, hQ332, l332, y332, z332⟩, st332⟩ := X330.virtualBack hx (y := (⟨"com/example/flex_actor/flexactor/core/FrameBuffer", "abandon", "()V"⟩ : MethodName)) (z := (⟨"com/example/flex_actor/flexactor/core/FrameBuffer", "abandon", "()V"⟩ : MethodName)) hown (mvT hZ (hw _ (List.mem_of_getElem? (i := 29) rfl))) (mvT hZ (hw _ (List.mem_of_getElem? (i := 30) rfl))) (notFace_of_selects (args := #[]) (mvT hZ (hw _ (List.mem_of_getElem? (i := 32) rfl)))) (mvT hZ (hw _ (List.mem_of_getElem? (i := 32) rfl))) (mvT hZ (hw _ (List.mem_of_getElem? (i := 31) rfl))) (by decide) (backOf (W := 0) (rmA1 l Z a0 hw [] fb bb k1 (own_put ((own_put [(.int (p1.toInt8.toInt32)), (.int (0 : Int32)), (.int (0 : Int32)), (.int (0 : Int32)), (.int (0 : Int32)), (.int (0 : Int32)), (.int (0 : Int32)), (.int (0 : Int32)), (.int (0 : Int32)), (.int (0 : Int32)), (.int (0 : Int32)), (.int (0 : Int32)), (.int (0 : Int32)), (.int (0 : Int32)), (.int (0 : Int32)), (.int (0 : Int32))] 1 (0 : Int32)).set (1 + 4) (.int ((p2.toInt8.toInt32).toInt8.toInt32))) (1 + 4 + 1) p3) (Int32.ofNat (1 + 4 + 1 + 4)) (Int32.ofNat 1) T330.heap n0 Z330 f331 Fbi Fsi Ffi Vi  (by rw [own_putl, List.length_set, own_putl]; rfl) ne_fb g_fb g_bb (by decide)) hZ (hw _ (List.mem_of_getElem? (i := 33) rfl)) (hw _ (List.mem_of_getElem? (i := 2) rfl)) (by decide) (by decide)) q332a q332c (g := (mkF m 138 #[.val (.int p1), .val (.int p2), .val (.int p3), .val (.int p4), .val (.int (2 : Int32)), .val (.int op), .val (.int bd), .val (.ref fb), .val (.int (1 : Int32)), .unset, .unset] [(.ref fb)])) rfl (by rw [hml]; rfl) (Steps.refl _) (argsL := []) (rest := []) (lenOf pd_4 rfl) rfl (by show 2 * 0 + _ ≤ _; exact Nat.le_of_eq rfl) (hb hby at_138) (fun _ _ => ⟨rfl, rfl, (by decide : 2 + 0 ≤ _), (by decide : 8195 + 0 ≤ _)⟩)
          dsimp only [Pt.U, Pt.locs, Pt.cells, Pt.slots] at X332 l332 y332 z332 st332 hQ332
          subst l332 y332 z332
          obtain ⟨rfl, Nq332, Kq332, Fbz, Fsz, Ffz, Vz⟩ := hQ332
          have f333 := (f331.keep Kq332)
          have Z332 : n0 ≤ T332.heap.size := Nat.le_trans Z330 Kq332.1
          have K332 : Keep h0 T332.heap [] := K330.trans Kq332 (allS (P := fun x => x ∈ ([] : List Addr) ∨ h0.size ≤ x) (Or.inr sz_fb) (allS (P := fun x => x ∈ ([] : List Addr) ∨ h0.size ≤ x) (Or.inr sz_bb) all0))
          have Nf332 := Fr.app Nf330 Nq332
          have pre334 : ∀ t, Steps p.tables e below (T332.setTop (mkF m 141 #[.val (.int p1), .val (.int p2), .val (.int p3), .val (.int p4), .val (.int (2 : Int32)), .val (.int op), .val (.int bd), .val (.ref fb), .val (.int (1 : Int32)), .unset, .unset] [])) t → Steps p.tables e below (s₁.setTop (entryFrame m #[(.int p1), (.int p2), (.int p3), (.int p4)] maxLocals)) t := by
            intro t kt
            refine pre329 t ?_
            show Steps p.tables e below (T327.setTop (mkF m 112 #[.val (.int p1), .val (.int p2), .val (.int p3), .val (.int p4), .val (.int (2 : Int32)), .val (.int op), .val (.int bd), .val (.ref fb), .val (.int (1 : Int32)), .unset, .unset] [(.int (1 : Int32)), (.int bd)])) _
            refine XS.icmpNo X327.here hx rfl (hb hby at_112) rfl (teq hc112).2 ?_
            show Steps p.tables e below (T327.setTop (mkF m 115 #[.val (.int p1), .val (.int p2), .val (.int p3), .val (.int p4), .val (.int (2 : Int32)), .val (.int op), .val (.int bd), .val (.ref fb), .val (.int (1 : Int32)), .unset, .unset] [])) _
            refine XS.aload X327.here hx rfl (hb hby at_115) rfl rfl ?_
            show Steps p.tables e below (T327.setTop (mkF m 117 #[.val (.int p1), .val (.int p2), .val (.int p3), .val (.int p4), .val (.int (2 : Int32)), .val (.int op), .val (.int bd), .val (.ref fb), .val (.int (1 : Int32)), .unset, .unset] [(.ref fb)])) _
            refine XS.iloadN X327.here hx rfl (hb hby at_117) rfl ?_
            show Steps p.tables e below (T327.setTop (mkF m 118 #[.val (.int p1), .val (.int p2), .val (.int p3), .val (.int p4), .val (.int (2 : Int32)), .val (.int op), .val (.int bd), .val (.ref fb), .val (.int (1 : Int32)), .unset, .unset] [(.int p3), (.ref fb)])) _
            refine st330.trans ?_
            show Steps p.tables e below (T330.setTop (mkF m 121 #[.val (.int p1), .val (.int p2), .val (.int p3), .val (.int p4), .val (.int (2 : Int32)), .val (.int op), .val (.int bd), .val (.ref fb), .val (.int (1 : Int32)), .unset, .unset] [])) _
            refine XS.goto X330.here hx rfl (pc0 := 121) (pc' := 136) rfl (hb hby at_121) (by decide) (by decide) ?_
            show Steps p.tables e below (T330.setTop (mkF m 136 #[.val (.int p1), .val (.int p2), .val (.int p3), .val (.int p4), .val (.int (2 : Int32)), .val (.int op), .val (.int bd), .val (.ref fb), .val (.int (1 : Int32)), .unset, .unset] [])) _
            refine XS.aload X330.here hx rfl (hb hby at_136) rfl rfl ?_
            show Steps p.tables e below (T330.setTop (mkF m 138 #[.val (.int p1), .val (.int p2), .val (.int p3), .val (.int p4), .val (.int (2 : Int32)), .val (.int op), .val (.int bd), .val (.ref fb), .val (.int (1 : Int32)), .unset, .unset] [(.ref fb)])) _
            refine st332.trans ?_
            exact kt
          refine ⟨(own_put ((own_put [(.int (p1.toInt8.toInt32)), (.int (0 : Int32)), (.int (0 : Int32)), (.int (0 : Int32)), (.int (0 : Int32)), (.int (0 : Int32)), (.int (0 : Int32)), (.int (0 : Int32)), (.int (0 : Int32)), (.int (0 : Int32)), (.int (0 : Int32)), (.int (0 : Int32)), (.int (0 : Int32)), (.int (0 : Int32)), (.int (0 : Int32)), (.int (0 : Int32))] 1 (0 : Int32)).set (1 + 4) (.int ((p2.toInt8.toInt32).toInt8.toInt32))) (1 + 4 + 1) p3), T332, T332.heap, _, X332, rfl, Nf332, K332, Z332, ?_, f333, Fbz, Fsz, Ffz, Vz, pre334⟩
          exact ⟨by rw [own_tkp _ _ _ _ (by decide), own_tks _ _ _ _ (by decide), own_tkp _ _ _ _ (by decide)]; rfl, by rw [own_putl, List.length_set, own_putl]; rfl⟩
        · have pre335 : ∀ t, Steps p.tables e below (T327.setTop (mkF m 127 #[.val (.int p1), .val (.int p2), .val (.int p3), .val (.int p4), .val (.int (2 : Int32)), .val (.int op), .val (.int bd), .val (.ref fb), .val (.int (1 : Int32)), .unset, .unset] [(.int (2 : Int32)), (.int bd)])) t → Steps p.tables e below (s₁.setTop (entryFrame m #[(.int p1), (.int p2), (.int p3), (.int p4)] maxLocals)) t := by
            intro t kt
            refine pre329 t ?_
            show Steps p.tables e below (T327.setTop (mkF m 112 #[.val (.int p1), .val (.int p2), .val (.int p3), .val (.int p4), .val (.int (2 : Int32)), .val (.int op), .val (.int bd), .val (.ref fb), .val (.int (1 : Int32)), .unset, .unset] [(.int (1 : Int32)), (.int bd)])) _
            refine XS.icmpYes X327.here hx rfl (pc0 := 112) (pc' := 124) rfl (hb hby at_112) rfl (feq hc112).2 (by decide) (by decide) ?_
            show Steps p.tables e below (T327.setTop (mkF m 124 #[.val (.int p1), .val (.int p2), .val (.int p3), .val (.int p4), .val (.int (2 : Int32)), .val (.int op), .val (.int bd), .val (.ref fb), .val (.int (1 : Int32)), .unset, .unset] [])) _
            refine XS.iload X327.here hx rfl (hb hby at_124) rfl ?_
            show Steps p.tables e below (T327.setTop (mkF m 126 #[.val (.int p1), .val (.int p2), .val (.int p3), .val (.int p4), .val (.int (2 : Int32)), .val (.int op), .val (.int bd), .val (.ref fb), .val (.int (1 : Int32)), .unset, .unset] [(.int bd)])) _
            refine XS.iconst X327.here hx rfl (hb hby at_126) ?_
            exact kt
          by_cases hc127 : bd = (2 : Int32)
          · obtain ⟨cq336, kq336, q336a, q336b, q336c⟩ := isOf hZ rfl f328
            obtain ⟨_, _, ⟨T336, L336, k336, n336⟩, -, X336, ⟨Lc336, hQ336, l336, y336, z336⟩, st336⟩ := X327.virtualBack hx (y := (⟨"com/example/flex_actor/flexactor/core/FrameBuffer", "writeByte", "(I)V"⟩ : MethodName)) (z := (⟨"com/example/flex_actor/flexactor/core/FrameBuffer", "writeByte", "(I)V"⟩ : MethodName)) hown (mvT hZ (hw _ (List.mem_of_getElem? (i := 39) rfl))) (mvT hZ (hw _ (List.mem_of_getElem? (i := 40) rfl))) (notFace_of_selects (args := #[]) (mvT hZ (hw _ (List.mem_of_getElem? (i := 42) rfl)))) (mvT hZ (hw _ (List.mem_of_getElem? (i := 42) rfl))) (mvT hZ (hw _ (List.mem_of_getElem? (i := 41) rfl))) (by decide) (backOf (W := 0) (rmB l Z a0 hw [] fb bb k1 ((own_put [(.int (p1.toInt8.toInt32)), (.int (0 : Int32)), (.int (0 : Int32)), (.int (0 : Int32)), (.int (0 : Int32)), (.int (0 : Int32)), (.int (0 : Int32)), (.int (0 : Int32)), (.int (0 : Int32)), (.int (0 : Int32)), (.int (0 : Int32)), (.int (0 : Int32)), (.int (0 : Int32)), (.int (0 : Int32)), (.int (0 : Int32)), (.int (0 : Int32))] 1 (0 : Int32)).set (1 + 4) (.int ((p2.toInt8.toInt32).toInt8.toInt32))) (1 + 4 + 1) (Int32.ofNat 1) p3 T327.heap n0 Z327 f328 Fbh Fsh Ffh Vh  (by rw [List.length_set, own_putl]; rfl) ne_fb g_fb g_bb (by decide)) hZ (hw _ (List.mem_of_getElem? (i := 43) rfl)) (hw _ (List.mem_of_getElem? (i := 2) rfl)) (by decide) (by decide)) q336a q336c (g := (mkF m 133 #[.val (.int p1), .val (.int p2), .val (.int p3), .val (.int p4), .val (.int (2 : Int32)), .val (.int op), .val (.int bd), .val (.ref fb), .val (.int (1 : Int32)), .unset, .unset] [(.int p3), (.ref fb)])) rfl (by rw [hml]; rfl) (Steps.refl _) (argsL := [(.int p3)]) (rest := []) (lenOf pd_0 rfl) rfl (by show 2 * 0 + _ ≤ _; exact Nat.le_of_eq rfl) (hb hby at_133) (fun _ _ => ⟨rfl, rfl, (by decide : 2 + 0 ≤ _), (by decide : 8195 + 0 ≤ _)⟩)
            dsimp only [Pt.U, Pt.locs, Pt.cells, Pt.slots] at X336 l336 y336 z336 st336 hQ336
            subst l336 y336 z336
            obtain ⟨rfl, Nq336, Kq336, Fbj, Fsj, Ffj, Vj⟩ := hQ336
            have f337 := (f328.keep Kq336)
            have Z336 : n0 ≤ T336.heap.size := Nat.le_trans Z327 Kq336.1
            have K336 : Keep h0 T336.heap [] := K327.trans Kq336 (allS (P := fun x => x ∈ ([] : List Addr) ∨ h0.size ≤ x) (Or.inr sz_fb) (allS (P := fun x => x ∈ ([] : List Addr) ∨ h0.size ≤ x) (Or.inr sz_bb) all0))
            have Nf336 := Fr.app Nf327 Nq336
            obtain ⟨cq338, kq338, q338a, q338b, q338c⟩ := isOf hZ rfl f337
            obtain ⟨_, _, ⟨T338, L338, k338, n338⟩, -, X338, ⟨Lc338, hQ338, l338, y338, z338⟩, st338⟩ := X336.virtualBack hx (y := (⟨"com/example/flex_actor/flexactor/core/FrameBuffer", "abandon", "()V"⟩ : MethodName)) (z := (⟨"com/example/flex_actor/flexactor/core/FrameBuffer", "abandon", "()V"⟩ : MethodName)) hown (mvT hZ (hw _ (List.mem_of_getElem? (i := 29) rfl))) (mvT hZ (hw _ (List.mem_of_getElem? (i := 30) rfl))) (notFace_of_selects (args := #[]) (mvT hZ (hw _ (List.mem_of_getElem? (i := 32) rfl)))) (mvT hZ (hw _ (List.mem_of_getElem? (i := 32) rfl))) (mvT hZ (hw _ (List.mem_of_getElem? (i := 31) rfl))) (by decide) (backOf (W := 0) (rmA1 l Z a0 hw [] fb bb k1 (((own_put [(.int (p1.toInt8.toInt32)), (.int (0 : Int32)), (.int (0 : Int32)), (.int (0 : Int32)), (.int (0 : Int32)), (.int (0 : Int32)), (.int (0 : Int32)), (.int (0 : Int32)), (.int (0 : Int32)), (.int (0 : Int32)), (.int (0 : Int32)), (.int (0 : Int32)), (.int (0 : Int32)), (.int (0 : Int32)), (.int (0 : Int32)), (.int (0 : Int32))] 1 (0 : Int32)).set (1 + 4) (.int ((p2.toInt8.toInt32).toInt8.toInt32))).set (1 + 4 + 1) (.int (p3.toInt8.toInt32))) (Int32.ofNat (1 + 4 + 1 + 1)) (Int32.ofNat 1) T336.heap n0 Z336 f337 Fbj Fsj Ffj Vj  (by rw [List.length_set, List.length_set, own_putl]; rfl) ne_fb g_fb g_bb (by decide)) hZ (hw _ (List.mem_of_getElem? (i := 33) rfl)) (hw _ (List.mem_of_getElem? (i := 2) rfl)) (by decide) (by decide)) q338a q338c (g := (mkF m 138 #[.val (.int p1), .val (.int p2), .val (.int p3), .val (.int p4), .val (.int (2 : Int32)), .val (.int op), .val (.int bd), .val (.ref fb), .val (.int (1 : Int32)), .unset, .unset] [(.ref fb)])) rfl (by rw [hml]; rfl) (Steps.refl _) (argsL := []) (rest := []) (lenOf pd_4 rfl) rfl (by show 2 * 0 + _ ≤ _; exact Nat.le_of_eq rfl) (hb hby at_138) (fun _ _ => ⟨rfl, rfl, (by decide : 2 + 0 ≤ _), (by decide : 8195 + 0 ≤ _)⟩)
            dsimp only [Pt.U, Pt.locs, Pt.cells, Pt.slots] at X338 l338 y338 z338 st338 hQ338
            subst l338 y338 z338
            obtain ⟨rfl, Nq338, Kq338, Fbz, Fsz, Ffz, Vz⟩ := hQ338
            have f339 := (f337.keep Kq338)
            have Z338 : n0 ≤ T338.heap.size := Nat.le_trans Z336 Kq338.1
            have K338 : Keep h0 T338.heap [] := K336.trans Kq338 (allS (P := fun x => x ∈ ([] : List Addr) ∨ h0.size ≤ x) (Or.inr sz_fb) (allS (P := fun x => x ∈ ([] : List Addr) ∨ h0.size ≤ x) (Or.inr sz_bb) all0))
            have Nf338 := Fr.app Nf336 Nq338
            have pre340 : ∀ t, Steps p.tables e below (T338.setTop (mkF m 141 #[.val (.int p1), .val (.int p2), .val (.int p3), .val (.int p4), .val (.int (2 : Int32)), .val (.int op), .val (.int bd), .val (.ref fb), .val (.int (1 : Int32)), .unset, .unset] [])) t → Steps p.tables e below (s₁.setTop (entryFrame m #[(.int p1), (.int p2), (.int p3), (.int p4)] maxLocals)) t := by
              intro t kt
              refine pre335 t ?_
              show Steps p.tables e below (T327.setTop (mkF m 127 #[.val (.int p1), .val (.int p2), .val (.int p3), .val (.int p4), .val (.int (2 : Int32)), .val (.int op), .val (.int bd), .val (.ref fb), .val (.int (1 : Int32)), .unset, .unset] [(.int (2 : Int32)), (.int bd)])) _
              refine XS.icmpNo X327.here hx rfl (hb hby at_127) rfl (teq hc127).2 ?_
              show Steps p.tables e below (T327.setTop (mkF m 130 #[.val (.int p1), .val (.int p2), .val (.int p3), .val (.int p4), .val (.int (2 : Int32)), .val (.int op), .val (.int bd), .val (.ref fb), .val (.int (1 : Int32)), .unset, .unset] [])) _
              refine XS.aload X327.here hx rfl (hb hby at_130) rfl rfl ?_
              show Steps p.tables e below (T327.setTop (mkF m 132 #[.val (.int p1), .val (.int p2), .val (.int p3), .val (.int p4), .val (.int (2 : Int32)), .val (.int op), .val (.int bd), .val (.ref fb), .val (.int (1 : Int32)), .unset, .unset] [(.ref fb)])) _
              refine XS.iloadN X327.here hx rfl (hb hby at_132) rfl ?_
              show Steps p.tables e below (T327.setTop (mkF m 133 #[.val (.int p1), .val (.int p2), .val (.int p3), .val (.int p4), .val (.int (2 : Int32)), .val (.int op), .val (.int bd), .val (.ref fb), .val (.int (1 : Int32)), .unset, .unset] [(.int p3), (.ref fb)])) _
              refine st336.trans ?_
              show Steps p.tables e below (T336.setTop (mkF m 136 #[.val (.int p1), .val (.int p2), .val (.int p3), .val (.int p4), .val (.int (2 : Int32)), .val (.int op), .val (.int bd), .val (.ref fb), .val (.int (1 : Int32)), .unset, .unset] [])) _
              refine XS.aload X336.here hx rfl (hb hby at_136) rfl rfl ?_
              show Steps p.tables e below (T336.setTop (mkF m 138 #[.val (.int p1), .val (.int p2), .val (.int p3), .val (.int p4), .val (.int (2 : Int32)), .val (.int op), .val (.int bd), .val (.ref fb), .val (.int (1 : Int32)), .unset, .unset] [(.ref fb)])) _
              refine st338.trans ?_
              exact kt
            refine ⟨(((own_put [(.int (p1.toInt8.toInt32)), (.int (0 : Int32)), (.int (0 : Int32)), (.int (0 : Int32)), (.int (0 : Int32)), (.int (0 : Int32)), (.int (0 : Int32)), (.int (0 : Int32)), (.int (0 : Int32)), (.int (0 : Int32)), (.int (0 : Int32)), (.int (0 : Int32)), (.int (0 : Int32)), (.int (0 : Int32)), (.int (0 : Int32)), (.int (0 : Int32))] 1 (0 : Int32)).set (1 + 4) (.int ((p2.toInt8.toInt32).toInt8.toInt32))).set (1 + 4 + 1) (.int (p3.toInt8.toInt32))), T338, T338.heap, _, X338, rfl, Nf338, K338, Z338, ?_, f339, Fbz, Fsz, Ffz, Vz, pre340⟩
            exact ⟨by rw [own_tks _ _ _ _ (by decide), own_tks _ _ _ _ (by decide), own_tkp _ _ _ _ (by decide)]; rfl, by rw [List.length_set, List.length_set, own_putl]; rfl⟩
          · obtain ⟨cq341, kq341, q341a, q341b, q341c⟩ := isOf hZ rfl f328
            obtain ⟨_, _, ⟨T341, L341, k341, n341⟩, -, X341, ⟨Lc341, hQ341, l341, y341, z341⟩, st341⟩ := X327.virtualBack hx (y := (⟨"com/example/flex_actor/flexactor/core/FrameBuffer", "abandon", "()V"⟩ : MethodName)) (z := (⟨"com/example/flex_actor/flexactor/core/FrameBuffer", "abandon", "()V"⟩ : MethodName)) hown (mvT hZ (hw _ (List.mem_of_getElem? (i := 29) rfl))) (mvT hZ (hw _ (List.mem_of_getElem? (i := 30) rfl))) (notFace_of_selects (args := #[]) (mvT hZ (hw _ (List.mem_of_getElem? (i := 32) rfl)))) (mvT hZ (hw _ (List.mem_of_getElem? (i := 32) rfl))) (mvT hZ (hw _ (List.mem_of_getElem? (i := 31) rfl))) (by decide) (backOf (W := 0) (rmA1 l Z a0 hw [] fb bb k1 ((own_put [(.int (p1.toInt8.toInt32)), (.int (0 : Int32)), (.int (0 : Int32)), (.int (0 : Int32)), (.int (0 : Int32)), (.int (0 : Int32)), (.int (0 : Int32)), (.int (0 : Int32)), (.int (0 : Int32)), (.int (0 : Int32)), (.int (0 : Int32)), (.int (0 : Int32)), (.int (0 : Int32)), (.int (0 : Int32)), (.int (0 : Int32)), (.int (0 : Int32))] 1 (0 : Int32)).set (1 + 4) (.int ((p2.toInt8.toInt32).toInt8.toInt32))) (Int32.ofNat (1 + 4 + 1)) (Int32.ofNat 1) T327.heap n0 Z327 f328 Fbh Fsh Ffh Vh  (by rw [List.length_set, own_putl]; rfl) ne_fb g_fb g_bb (by decide)) hZ (hw _ (List.mem_of_getElem? (i := 33) rfl)) (hw _ (List.mem_of_getElem? (i := 2) rfl)) (by decide) (by decide)) q341a q341c (g := (mkF m 138 #[.val (.int p1), .val (.int p2), .val (.int p3), .val (.int p4), .val (.int (2 : Int32)), .val (.int op), .val (.int bd), .val (.ref fb), .val (.int (1 : Int32)), .unset, .unset] [(.ref fb)])) rfl (by rw [hml]; rfl) (Steps.refl _) (argsL := []) (rest := []) (lenOf pd_4 rfl) rfl (by show 2 * 0 + _ ≤ _; exact Nat.le_of_eq rfl) (hb hby at_138) (fun _ _ => ⟨rfl, rfl, (by decide : 2 + 0 ≤ _), (by decide : 8195 + 0 ≤ _)⟩)
            dsimp only [Pt.U, Pt.locs, Pt.cells, Pt.slots] at X341 l341 y341 z341 st341 hQ341
            subst l341 y341 z341
            obtain ⟨rfl, Nq341, Kq341, Fbz, Fsz, Ffz, Vz⟩ := hQ341
            have f342 := (f328.keep Kq341)
            have Z341 : n0 ≤ T341.heap.size := Nat.le_trans Z327 Kq341.1
            have K341 : Keep h0 T341.heap [] := K327.trans Kq341 (allS (P := fun x => x ∈ ([] : List Addr) ∨ h0.size ≤ x) (Or.inr sz_fb) (allS (P := fun x => x ∈ ([] : List Addr) ∨ h0.size ≤ x) (Or.inr sz_bb) all0))
            have Nf341 := Fr.app Nf327 Nq341
            have pre343 : ∀ t, Steps p.tables e below (T341.setTop (mkF m 141 #[.val (.int p1), .val (.int p2), .val (.int p3), .val (.int p4), .val (.int (2 : Int32)), .val (.int op), .val (.int bd), .val (.ref fb), .val (.int (1 : Int32)), .unset, .unset] [])) t → Steps p.tables e below (s₁.setTop (entryFrame m #[(.int p1), (.int p2), (.int p3), (.int p4)] maxLocals)) t := by
              intro t kt
              refine pre335 t ?_
              show Steps p.tables e below (T327.setTop (mkF m 127 #[.val (.int p1), .val (.int p2), .val (.int p3), .val (.int p4), .val (.int (2 : Int32)), .val (.int op), .val (.int bd), .val (.ref fb), .val (.int (1 : Int32)), .unset, .unset] [(.int (2 : Int32)), (.int bd)])) _
              refine XS.icmpYes X327.here hx rfl (pc0 := 127) (pc' := 136) rfl (hb hby at_127) rfl (feq hc127).2 (by decide) (by decide) ?_
              show Steps p.tables e below (T327.setTop (mkF m 136 #[.val (.int p1), .val (.int p2), .val (.int p3), .val (.int p4), .val (.int (2 : Int32)), .val (.int op), .val (.int bd), .val (.ref fb), .val (.int (1 : Int32)), .unset, .unset] [])) _
              refine XS.aload X327.here hx rfl (hb hby at_136) rfl rfl ?_
              show Steps p.tables e below (T327.setTop (mkF m 138 #[.val (.int p1), .val (.int p2), .val (.int p3), .val (.int p4), .val (.int (2 : Int32)), .val (.int op), .val (.int bd), .val (.ref fb), .val (.int (1 : Int32)), .unset, .unset] [(.ref fb)])) _
              refine st341.trans ?_
              exact kt
            refine ⟨((own_put [(.int (p1.toInt8.toInt32)), (.int (0 : Int32)), (.int (0 : Int32)), (.int (0 : Int32)), (.int (0 : Int32)), (.int (0 : Int32)), (.int (0 : Int32)), (.int (0 : Int32)), (.int (0 : Int32)), (.int (0 : Int32)), (.int (0 : Int32)), (.int (0 : Int32)), (.int (0 : Int32)), (.int (0 : Int32)), (.int (0 : Int32)), (.int (0 : Int32))] 1 (0 : Int32)).set (1 + 4) (.int ((p2.toInt8.toInt32).toInt8.toInt32))), T341, T341.heap, _, X341, rfl, Nf341, K341, Z341, ?_, f342, Fbz, Fsz, Ffz, Vz, pre343⟩
            exact ⟨by rw [own_tks _ _ _ _ (by decide), own_tkp _ _ _ _ (by decide)]; rfl, by rw [List.length_set, own_putl]; rfl⟩
    obtain ⟨cq344, kq344, q344a, q344b, q344c⟩ := isOf hZ em324 fm324_0
    obtain ⟨_, _, ⟨T344, L344, k344, n344⟩, -, X344, ⟨Lc344, hQ344, l344, y344, z344⟩, st344⟩ := Xm324.virtualBack hx (y := (⟨"com/example/flex_actor/flexactor/core/FrameBuffer", "size", "()I"⟩ : MethodName)) (z := (⟨"com/example/flex_actor/flexactor/core/FrameBuffer", "size", "()I"⟩ : MethodName)) hown (mvT hZ (hw _ (List.mem_of_getElem? (i := 34) rfl))) (mvT hZ (hw _ (List.mem_of_getElem? (i := 35) rfl))) (notFace_of_selects (args := #[]) (mvT hZ (hw _ (List.mem_of_getElem? (i := 37) rfl)))) (mvT hZ (hw _ (List.mem_of_getElem? (i := 37) rfl))) (mvT hZ (hw _ (List.mem_of_getElem? (i := 36) rfl))) (by decide) (backOf (W := 0) (rmS l Z a0 hw [] fb (Int32.ofNat 1) hm324 n0 Zm324 fm324_2) hZ (hw _ (List.mem_of_getElem? (i := 38) rfl)) (hw _ (List.mem_of_getElem? (i := 2) rfl)) (by decide) (by decide)) q344a q344c (g := (mkF m 143 #[.val (.int p1), .val (.int p2), .val (.int p3), .val (.int p4), .val (.int (2 : Int32)), .val (.int op), .val (.int bd), .val (.ref fb), .val (.int (1 : Int32)), .unset, .unset] [(.ref fb)])) rfl (by rw [hml]; rfl) (Steps.refl _) (argsL := []) (rest := []) (lenOf pd_6 rfl) rfl (by show 2 * 0 + _ ≤ _; exact Nat.le_of_eq rfl) (hb hby at_143) (fun _ _ => ⟨rfl, em324, (by decide : 2 + 0 ≤ _), (by decide : 8195 + 0 ≤ _)⟩)
    dsimp only [Pt.U, Pt.locs, Pt.cells, Pt.slots] at X344 l344 y344 z344 st344 hQ344
    subst l344 y344 z344
    obtain ⟨rfl, Nq344, eq344⟩ := hQ344
    have Nf344 := Fr.app Nm324 Nq344
    obtain ⟨cq345, kq345, q345a, q345b, q345c⟩ := isOf hZ eq344 fm324_0
    obtain ⟨_, _, ⟨T345, L345, k345, n345⟩, -, X345, ⟨Lc345, hQ345, l345, y345, z345⟩, st345⟩ := X344.virtualBack hx (y := (⟨"com/example/flex_actor/flexactor/core/FrameBuffer", "writeByte", "(I)V"⟩ : MethodName)) (z := (⟨"com/example/flex_actor/flexactor/core/FrameBuffer", "writeByte", "(I)V"⟩ : MethodName)) hown (mvT hZ (hw _ (List.mem_of_getElem? (i := 39) rfl))) (mvT hZ (hw _ (List.mem_of_getElem? (i := 40) rfl))) (notFace_of_selects (args := #[]) (mvT hZ (hw _ (List.mem_of_getElem? (i := 42) rfl)))) (mvT hZ (hw _ (List.mem_of_getElem? (i := 42) rfl))) (mvT hZ (hw _ (List.mem_of_getElem? (i := 41) rfl))) (by decide) (backOf (W := 0) (rmB l Z a0 hw [] fb bb k1 ws 1 (-1 : Int32) p3 hm324 n0 Zm324 fm324_0 fm324_1 fm324_2 fm324_3 fm324_4  hsp324.2 ne_fb g_fb g_bb (by decide)) hZ (hw _ (List.mem_of_getElem? (i := 43) rfl)) (hw _ (List.mem_of_getElem? (i := 2) rfl)) (by decide) (by decide)) q345a q345c (g := (mkF m 151 #[.val (.int p1), .val (.int p2), .val (.int p3), .val (.int p4), .val (.int (2 : Int32)), .val (.int op), .val (.int bd), .val (.ref fb), .val (.int (1 : Int32)), .val (.int (Int32.ofNat 1)), .unset] [(.int p3), (.ref fb)])) rfl (by rw [hml]; rfl) (Steps.refl _) (argsL := [(.int p3)]) (rest := []) (lenOf pd_0 rfl) rfl (by show 2 * 0 + _ ≤ _; exact Nat.le_of_eq rfl) (hb hby at_151) (fun _ _ => ⟨rfl, eq344, (by decide : 2 + 0 ≤ _), (by decide : 8195 + 0 ≤ _)⟩)
    dsimp only [Pt.U, Pt.locs, Pt.cells, Pt.slots] at X345 l345 y345 z345 st345 hQ345
    subst l345 y345 z345
    obtain ⟨rfl, Nq345, Kq345, Fbc, Fsc, Ffc, Vc⟩ := hQ345
    have f346 := (fm324_0.keep Kq345)
    have Z345 : n0 ≤ T345.heap.size := Nat.le_trans Zm324 Kq345.1
    have K345 : Keep h0 T345.heap [] := Km324.trans Kq345 (allS (P := fun x => x ∈ ([] : List Addr) ∨ h0.size ≤ x) (Or.inr sz_fb) (allS (P := fun x => x ∈ ([] : List Addr) ∨ h0.size ≤ x) (Or.inr sz_bb) all0))
    have Nf345 := Fr.app Nf344 Nq345
    obtain ⟨cq347, kq347, q347a, q347b, q347c⟩ := isOf hZ rfl f346
    obtain ⟨_, _, ⟨T347, L347, k347, n347⟩, -, X347, ⟨Lc347, hQ347, l347, y347, z347⟩, st347⟩ := X345.virtualBack hx (y := (⟨"com/example/flex_actor/flexactor/core/FrameBuffer", "abandon", "()V"⟩ : MethodName)) (z := (⟨"com/example/flex_actor/flexactor/core/FrameBuffer", "abandon", "()V"⟩ : MethodName)) hown (mvT hZ (hw _ (List.mem_of_getElem? (i := 29) rfl))) (mvT hZ (hw _ (List.mem_of_getElem? (i := 30) rfl))) (notFace_of_selects (args := #[]) (mvT hZ (hw _ (List.mem_of_getElem? (i := 32) rfl)))) (mvT hZ (hw _ (List.mem_of_getElem? (i := 32) rfl))) (mvT hZ (hw _ (List.mem_of_getElem? (i := 31) rfl))) (by decide) (backOf (W := 0) (rmA0 l Z a0 hw [] fb T345.heap n0 Z345 Ffc) hZ (hw _ (List.mem_of_getElem? (i := 33) rfl)) (hw _ (List.mem_of_getElem? (i := 2) rfl)) (by decide) (by decide)) q347a q347c (g := (mkF m 156 #[.val (.int p1), .val (.int p2), .val (.int p3), .val (.int p4), .val (.int (2 : Int32)), .val (.int op), .val (.int bd), .val (.ref fb), .val (.int (1 : Int32)), .val (.int (Int32.ofNat 1)), .unset] [(.ref fb)])) rfl (by rw [hml]; rfl) (Steps.refl _) (argsL := []) (rest := []) (lenOf pd_4 rfl) rfl (by show 2 * 0 + _ ≤ _; exact Nat.le_of_eq rfl) (hb hby at_156) (fun _ _ => ⟨rfl, rfl, (by decide : 2 + 0 ≤ _), (by decide : 8195 + 0 ≤ _)⟩)
    dsimp only [Pt.U, Pt.locs, Pt.cells, Pt.slots] at X347 l347 y347 z347 st347 hQ347
    subst l347 y347 z347
    obtain ⟨rfl, Nq347, eq347⟩ := hQ347
    have Nf347 := Fr.app Nf345 Nq347
    obtain ⟨cq348, kq348, q348a, q348b, q348c⟩ := isOf hZ eq347 f346
    obtain ⟨_, _, ⟨T348, L348, k348, n348⟩, -, X348, ⟨Lc348, hQ348, l348, y348, z348⟩, st348⟩ := X347.virtualBack hx (y := (⟨"com/example/flex_actor/flexactor/core/FrameBuffer", "toByteArray", "()[B"⟩ : MethodName)) (z := (⟨"com/example/flex_actor/flexactor/core/FrameBuffer", "toByteArray", "()[B"⟩ : MethodName)) hown (mvT hZ (hw _ (List.mem_of_getElem? (i := 44) rfl))) (mvT hZ (hw _ (List.mem_of_getElem? (i := 45) rfl))) (notFace_of_selects (args := #[]) (mvT hZ (hw _ (List.mem_of_getElem? (i := 47) rfl)))) (mvT hZ (hw _ (List.mem_of_getElem? (i := 47) rfl))) (mvT hZ (hw _ (List.mem_of_getElem? (i := 46) rfl))) (by decide) (backOf (W := 0) (rmT l Z a0 hw [] fb bb k1 (ws.set 1 (.int (p3.toInt8.toInt32))) (1 + 1) T345.heap n0 Z345 Fbc Fsc Vc (by decide)) hZ (hw _ (List.mem_of_getElem? (i := 48) rfl)) (hw _ (List.mem_of_getElem? (i := 2) rfl)) (by decide) (by decide)) q348a q348c (g := (mkF m 161 #[.val (.int p1), .val (.int p2), .val (.int p3), .val (.int p4), .val (.int (2 : Int32)), .val (.int op), .val (.int bd), .val (.ref fb), .val (.int (1 : Int32)), .val (.int (Int32.ofNat 1)), .unset] [(.ref fb)])) rfl (by rw [hml]; rfl) (Steps.refl _) (argsL := []) (rest := []) (lenOf pd_7 rfl) rfl (by show 2 * 0 + _ ≤ _; exact Nat.le_of_eq rfl) (hb hby at_161) (fun _ _ => ⟨rfl, eq347, (by decide : 2 + 1 ≤ _), (by decide : 8195 + 16 ≤ _)⟩)
    dsimp only [Pt.U, Pt.locs, Pt.cells, Pt.slots] at X348 l348 y348 z348 st348 hQ348
    subst l348 y348 z348
    obtain ⟨r, kr, rfl, Nq348, Kq348, szr, Vr0⟩ := hQ348
    have f349 := (f346.keep Kq348)
    have f350 := (Fbc.keep Kq348 nin0)
    have f351 := (Fsc.keep Kq348 nin0)
    have f352 := (Ffc.keep Kq348 nin0)
    have f353 := (Vc.keep Kq348 nin0)
    have Z348 : n0 ≤ T348.heap.size := Nat.le_trans Z345 Kq348.1
    have K348 : Keep h0 T348.heap [] := K345.trans Kq348 all0
    have Nf348 := Fr.app Nf347 Nq348
    rw [own_tk ws [(.int (p1.toInt8.toInt32))] _ _ 1 hsp324.2 hsp324.1 (by decide)] at Vr0
    have Vr : Arv Z T348.heap r kr .byte (2 : Int32) [(.int (p1.toInt8.toInt32)), (.int (p3.toInt8.toInt32))] (.int (0 : Int32)) := Vr0
    have pre354 : ∀ t, Steps p.tables e below (T348.setTop (mkF m 164 #[.val (.int p1), .val (.int p2), .val (.int p3), .val (.int p4), .val (.int (2 : Int32)), .val (.int op), .val (.int bd), .val (.ref fb), .val (.int (1 : Int32)), .val (.int (Int32.ofNat 1)), .unset] [(.ref r)])) t → Steps p.tables e below (s₁.setTop (entryFrame m #[(.int p1), (.int p2), (.int p3), (.int p4)] maxLocals)) t := by
      intro t kt
      refine prem324 t ?_
      show Steps p.tables e below (Tm324.setTop (mkF m 141 #[.val (.int p1), .val (.int p2), .val (.int p3), .val (.int p4), .val (.int (2 : Int32)), .val (.int op), .val (.int bd), .val (.ref fb), .val (.int (1 : Int32)), .unset, .unset] [])) _
      refine XS.aload Xm324.here hx rfl (hb hby at_141) rfl rfl ?_
      show Steps p.tables e below (Tm324.setTop (mkF m 143 #[.val (.int p1), .val (.int p2), .val (.int p3), .val (.int p4), .val (.int (2 : Int32)), .val (.int op), .val (.int bd), .val (.ref fb), .val (.int (1 : Int32)), .unset, .unset] [(.ref fb)])) _
      refine st344.trans ?_
      show Steps p.tables e below (T344.setTop (mkF m 146 #[.val (.int p1), .val (.int p2), .val (.int p3), .val (.int p4), .val (.int (2 : Int32)), .val (.int op), .val (.int bd), .val (.ref fb), .val (.int (1 : Int32)), .unset, .unset] [(.int (Int32.ofNat 1))])) _
      refine XS.istore X344.here hx rfl (hb hby at_146) rfl (l' := #[.val (.int p1), .val (.int p2), .val (.int p3), .val (.int p4), .val (.int (2 : Int32)), .val (.int op), .val (.int bd), .val (.ref fb), .val (.int (1 : Int32)), .val (.int (Int32.ofNat 1)), .unset]) rfl ?_
      show Steps p.tables e below (T344.setTop (mkF m 148 #[.val (.int p1), .val (.int p2), .val (.int p3), .val (.int p4), .val (.int (2 : Int32)), .val (.int op), .val (.int bd), .val (.ref fb), .val (.int (1 : Int32)), .val (.int (Int32.ofNat 1)), .unset] [])) _
      refine XS.aload X344.here hx rfl (hb hby at_148) rfl rfl ?_
      show Steps p.tables e below (T344.setTop (mkF m 150 #[.val (.int p1), .val (.int p2), .val (.int p3), .val (.int p4), .val (.int (2 : Int32)), .val (.int op), .val (.int bd), .val (.ref fb), .val (.int (1 : Int32)), .val (.int (Int32.ofNat 1)), .unset] [(.ref fb)])) _
      refine XS.iloadN X344.here hx rfl (hb hby at_150) rfl ?_
      show Steps p.tables e below (T344.setTop (mkF m 151 #[.val (.int p1), .val (.int p2), .val (.int p3), .val (.int p4), .val (.int (2 : Int32)), .val (.int op), .val (.int bd), .val (.ref fb), .val (.int (1 : Int32)), .val (.int (Int32.ofNat 1)), .unset] [(.int p3), (.ref fb)])) _
      refine st345.trans ?_
      show Steps p.tables e below (T345.setTop (mkF m 154 #[.val (.int p1), .val (.int p2), .val (.int p3), .val (.int p4), .val (.int (2 : Int32)), .val (.int op), .val (.int bd), .val (.ref fb), .val (.int (1 : Int32)), .val (.int (Int32.ofNat 1)), .unset] [])) _
      refine XS.aload X345.here hx rfl (hb hby at_154) rfl rfl ?_
      show Steps p.tables e below (T345.setTop (mkF m 156 #[.val (.int p1), .val (.int p2), .val (.int p3), .val (.int p4), .val (.int (2 : Int32)), .val (.int op), .val (.int bd), .val (.ref fb), .val (.int (1 : Int32)), .val (.int (Int32.ofNat 1)), .unset] [(.ref fb)])) _
      refine st347.trans ?_
      show Steps p.tables e below (T347.setTop (mkF m 159 #[.val (.int p1), .val (.int p2), .val (.int p3), .val (.int p4), .val (.int (2 : Int32)), .val (.int op), .val (.int bd), .val (.ref fb), .val (.int (1 : Int32)), .val (.int (Int32.ofNat 1)), .unset] [])) _
      refine XS.aload X347.here hx rfl (hb hby at_159) rfl rfl ?_
      show Steps p.tables e below (T347.setTop (mkF m 161 #[.val (.int p1), .val (.int p2), .val (.int p3), .val (.int p4), .val (.int (2 : Int32)), .val (.int op), .val (.int bd), .val (.ref fb), .val (.int (1 : Int32)), .val (.int (Int32.ofNat 1)), .unset] [(.ref fb)])) _
      refine st348.trans ?_
      exact kt
    have pre355 : ∀ t, Steps p.tables e below (T348.setTop (mkF m 164 #[.val (.int p1), .val (.int p2), .val (.int p3), .val (.int p4), .val (.int (2 : Int32)), .val (.int op), .val (.int bd), .val (.ref fb), .val (.int (1 : Int32)), .val (.int (1 : Int32)), .unset] [(.ref r)])) t → Steps p.tables e below (s₁.setTop (entryFrame m #[(.int p1), (.int p2), (.int p3), (.int p4)] maxLocals)) t := by
      intro t kt
      have hsv : (Int32.ofNat 1) = (1 : Int32) := rfl
      refine pre354 t ?_
      rw [hsv]
      exact kt
    obtain ⟨_, _, ⟨T356, L356, k356, n356⟩, -, X356, ⟨Lc356, hQ356, l356, y356, z356⟩, st356⟩ := Jvm.LawKit.callS X348 hx (y := (⟨"com/example/flex_actor/flexactor/core/FrameBufferAbandonPinLaw", "prefixOk", "([BII)Z"⟩ : MethodName)) hown (mvT hZ (hw _ (List.mem_of_getElem? (i := 61) rfl))) (mvT hZ (hw _ (List.mem_of_getElem? (i := 62) rfl))) (mvT hZ (hw _ (List.mem_of_getElem? (i := 63) rfl))) (mvT hZ (hw _ (List.mem_of_getElem? (i := 64) rfl))) (by decide) (backOf (W := 0) (rmK2 l Z a0 hw [] r kr (p3.toInt8.toInt32) p1 T348.heap n0 Z348 Vr) hZ (hw _ (List.mem_of_getElem? (i := 64) rfl)) (hw _ (List.mem_of_getElem? (i := 63) rfl)) (by decide) (by decide)) (g := (mkF m 188 #[.val (.int p1), .val (.int p2), .val (.int p3), .val (.int p4), .val (.int (2 : Int32)), .val (.int op), .val (.int bd), .val (.ref fb), .val (.int (1 : Int32)), .val (.int (1 : Int32)), .val (.ref r)] [(.int p1), (.int (2 : Int32)), (.ref r)])) rfl (by rw [hml]; rfl) (argsL := [(.ref r), (.int (2 : Int32)), (.int p1)]) (rest := []) (lenOf pd_8 rfl) rfl (by show 2 * 0 + _ ≤ _; exact Nat.le_of_eq rfl) (hb hby at_188) (fun _ _ => ⟨rfl, rfl, (by decide : 3 + 0 ≤ _), (by decide : 8211 + 0 ≤ _)⟩)
    dsimp only [Pt.U, Pt.locs, Pt.cells, Pt.slots] at X356 l356 y356 z356 st356 hQ356
    subst l356 y356 z356
    obtain ⟨rfl, Nq356, eq356⟩ := hQ356
    have Nf356 := Fr.app Nf348 Nq356
    have pre357 : ∀ t, Steps p.tables e below (T356.setTop (mkF m 209 #[.val (.int p1), .val (.int p2), .val (.int p3), .val (.int p4), .val (.int (2 : Int32)), .val (.int op), .val (.int bd), .val (.ref fb), .val (.int (1 : Int32)), .val (.int (1 : Int32)), .val (.ref r)] [(.int (1 : Int32))])) t → Steps p.tables e below (s₁.setTop (entryFrame m #[(.int p1), (.int p2), (.int p3), (.int p4)] maxLocals)) t := by
      intro t kt
      refine pre355 t ?_
      show Steps p.tables e below (T348.setTop (mkF m 164 #[.val (.int p1), .val (.int p2), .val (.int p3), .val (.int p4), .val (.int (2 : Int32)), .val (.int op), .val (.int bd), .val (.ref fb), .val (.int (1 : Int32)), .val (.int (1 : Int32)), .unset] [(.ref r)])) _
      refine XS.astore X348.here hx rfl (hb hby at_164) rfl rfl (l' := #[.val (.int p1), .val (.int p2), .val (.int p3), .val (.int p4), .val (.int (2 : Int32)), .val (.int op), .val (.int bd), .val (.ref fb), .val (.int (1 : Int32)), .val (.int (1 : Int32)), .val (.ref r)]) rfl ?_
      show Steps p.tables e below (T348.setTop (mkF m 166 #[.val (.int p1), .val (.int p2), .val (.int p3), .val (.int p4), .val (.int (2 : Int32)), .val (.int op), .val (.int bd), .val (.ref fb), .val (.int (1 : Int32)), .val (.int (1 : Int32)), .val (.ref r)] [])) _
      refine XS.iload X348.here hx rfl (hb hby at_166) rfl ?_
      show Steps p.tables e below (T348.setTop (mkF m 168 #[.val (.int p1), .val (.int p2), .val (.int p3), .val (.int p4), .val (.int (2 : Int32)), .val (.int op), .val (.int bd), .val (.ref fb), .val (.int (1 : Int32)), .val (.int (1 : Int32)), .val (.ref r)] [(.int (1 : Int32))])) _
      refine XS.iload X348.here hx rfl (hb hby at_168) rfl ?_
      show Steps p.tables e below (T348.setTop (mkF m 170 #[.val (.int p1), .val (.int p2), .val (.int p3), .val (.int p4), .val (.int (2 : Int32)), .val (.int op), .val (.int bd), .val (.ref fb), .val (.int (1 : Int32)), .val (.int (1 : Int32)), .val (.ref r)] [(.int (1 : Int32)), (.int (1 : Int32))])) _
      refine XS.icmpNo X348.here hx rfl (hb hby at_170) rfl (teq rfl).2 ?_
      show Steps p.tables e below (T348.setTop (mkF m 173 #[.val (.int p1), .val (.int p2), .val (.int p3), .val (.int p4), .val (.int (2 : Int32)), .val (.int op), .val (.int bd), .val (.ref fb), .val (.int (1 : Int32)), .val (.int (1 : Int32)), .val (.ref r)] [])) _
      refine XS.aload X348.here hx rfl (hb hby at_173) rfl rfl ?_
      show Steps p.tables e below (T348.setTop (mkF m 175 #[.val (.int p1), .val (.int p2), .val (.int p3), .val (.int p4), .val (.int (2 : Int32)), .val (.int op), .val (.int bd), .val (.ref fb), .val (.int (1 : Int32)), .val (.int (1 : Int32)), .val (.ref r)] [(.ref r)])) _
      refine own_len X348 hx hZ rfl Vr (g := (mkF m 175 #[.val (.int p1), .val (.int p2), .val (.int p3), .val (.int p4), .val (.int (2 : Int32)), .val (.int op), .val (.int bd), .val (.ref fb), .val (.int (1 : Int32)), .val (.int (1 : Int32)), .val (.ref r)] [(.ref r)])) rfl rfl (hb hby at_175) _ ?_
      show Steps p.tables e below (T348.setTop (mkF m 176 #[.val (.int p1), .val (.int p2), .val (.int p3), .val (.int p4), .val (.int (2 : Int32)), .val (.int op), .val (.int bd), .val (.ref fb), .val (.int (1 : Int32)), .val (.int (1 : Int32)), .val (.ref r)] [(.int (2 : Int32))])) _
      refine XS.iload X348.here hx rfl (hb hby at_176) rfl ?_
      show Steps p.tables e below (T348.setTop (mkF m 178 #[.val (.int p1), .val (.int p2), .val (.int p3), .val (.int p4), .val (.int (2 : Int32)), .val (.int op), .val (.int bd), .val (.ref fb), .val (.int (1 : Int32)), .val (.int (1 : Int32)), .val (.ref r)] [(.int (1 : Int32)), (.int (2 : Int32))])) _
      refine XS.iconst X348.here hx rfl (hb hby at_178) ?_
      show Steps p.tables e below (T348.setTop (mkF m 179 #[.val (.int p1), .val (.int p2), .val (.int p3), .val (.int p4), .val (.int (2 : Int32)), .val (.int op), .val (.int bd), .val (.ref fb), .val (.int (1 : Int32)), .val (.int (1 : Int32)), .val (.ref r)] [(.int (1 : Int32)), (.int (1 : Int32)), (.int (2 : Int32))])) _
      refine XS.iadd X348.here hx rfl (hb hby at_179) rfl ?_
      show Steps p.tables e below (T348.setTop (mkF m 180 #[.val (.int p1), .val (.int p2), .val (.int p3), .val (.int p4), .val (.int (2 : Int32)), .val (.int op), .val (.int bd), .val (.ref fb), .val (.int (1 : Int32)), .val (.int (1 : Int32)), .val (.ref r)] [(.int (2 : Int32)), (.int (2 : Int32))])) _
      refine XS.icmpNo X348.here hx rfl (hb hby at_180) rfl (teq rfl).2 ?_
      show Steps p.tables e below (T348.setTop (mkF m 183 #[.val (.int p1), .val (.int p2), .val (.int p3), .val (.int p4), .val (.int (2 : Int32)), .val (.int op), .val (.int bd), .val (.ref fb), .val (.int (1 : Int32)), .val (.int (1 : Int32)), .val (.ref r)] [])) _
      refine XS.aload X348.here hx rfl (hb hby at_183) rfl rfl ?_
      show Steps p.tables e below (T348.setTop (mkF m 185 #[.val (.int p1), .val (.int p2), .val (.int p3), .val (.int p4), .val (.int (2 : Int32)), .val (.int op), .val (.int bd), .val (.ref fb), .val (.int (1 : Int32)), .val (.int (1 : Int32)), .val (.ref r)] [(.ref r)])) _
      refine XS.iload X348.here hx rfl (hb hby at_185) rfl ?_
      show Steps p.tables e below (T348.setTop (mkF m 187 #[.val (.int p1), .val (.int p2), .val (.int p3), .val (.int p4), .val (.int (2 : Int32)), .val (.int op), .val (.int bd), .val (.ref fb), .val (.int (1 : Int32)), .val (.int (1 : Int32)), .val (.ref r)] [(.int (2 : Int32)), (.ref r)])) _
      refine XS.iloadN X348.here hx rfl (hb hby at_187) rfl ?_
      show Steps p.tables e below (T348.setTop (mkF m 188 #[.val (.int p1), .val (.int p2), .val (.int p3), .val (.int p4), .val (.int (2 : Int32)), .val (.int op), .val (.int bd), .val (.ref fb), .val (.int (1 : Int32)), .val (.int (1 : Int32)), .val (.ref r)] [(.int p1), (.int (2 : Int32)), (.ref r)])) _
      refine st356 _ ?_
      show Steps p.tables e below (T356.setTop (mkF m 191 #[.val (.int p1), .val (.int p2), .val (.int p3), .val (.int p4), .val (.int (2 : Int32)), .val (.int op), .val (.int bd), .val (.ref fb), .val (.int (1 : Int32)), .val (.int (1 : Int32)), .val (.ref r)] [(.int (1 : Int32))])) _
      refine XS.ifNo X356.here hx rfl (hb hby at_191) rfl ((if0 _ _).trans (feq (by decide)).1) ?_
      show Steps p.tables e below (T356.setTop (mkF m 194 #[.val (.int p1), .val (.int p2), .val (.int p3), .val (.int p4), .val (.int (2 : Int32)), .val (.int op), .val (.int bd), .val (.ref fb), .val (.int (1 : Int32)), .val (.int (1 : Int32)), .val (.ref r)] [])) _
      refine XS.aload X356.here hx rfl (hb hby at_194) rfl rfl ?_
      show Steps p.tables e below (T356.setTop (mkF m 196 #[.val (.int p1), .val (.int p2), .val (.int p3), .val (.int p4), .val (.int (2 : Int32)), .val (.int op), .val (.int bd), .val (.ref fb), .val (.int (1 : Int32)), .val (.int (1 : Int32)), .val (.ref r)] [(.ref r)])) _
      refine XS.iload X356.here hx rfl (hb hby at_196) rfl ?_
      show Steps p.tables e below (T356.setTop (mkF m 198 #[.val (.int p1), .val (.int p2), .val (.int p3), .val (.int p4), .val (.int (2 : Int32)), .val (.int op), .val (.int bd), .val (.ref fb), .val (.int (1 : Int32)), .val (.int (1 : Int32)), .val (.ref r)] [(.int (1 : Int32)), (.ref r)])) _
      refine own_bal X356 hx hZ eq356 Vr (j := (1 : Int32)) ⟨by decide, by decide⟩ (v := (.int (p3.toInt8.toInt32))) rfl (g := (mkF m 198 #[.val (.int p1), .val (.int p2), .val (.int p3), .val (.int p4), .val (.int (2 : Int32)), .val (.int op), .val (.int bd), .val (.ref fb), .val (.int (1 : Int32)), .val (.int (1 : Int32)), .val (.ref r)] [(.int (1 : Int32)), (.ref r)])) rfl rfl (hb hby at_198) _ ?_
      show Steps p.tables e below (T356.setTop (mkF m 199 #[.val (.int p1), .val (.int p2), .val (.int p3), .val (.int p4), .val (.int (2 : Int32)), .val (.int op), .val (.int bd), .val (.ref fb), .val (.int (1 : Int32)), .val (.int (1 : Int32)), .val (.ref r)] [(.int (p3.toInt8.toInt32))])) _
      refine XS.iloadN X356.here hx rfl (hb hby at_199) rfl ?_
      show Steps p.tables e below (T356.setTop (mkF m 200 #[.val (.int p1), .val (.int p2), .val (.int p3), .val (.int p4), .val (.int (2 : Int32)), .val (.int op), .val (.int bd), .val (.ref fb), .val (.int (1 : Int32)), .val (.int (1 : Int32)), .val (.ref r)] [(.int p3), (.int (p3.toInt8.toInt32))])) _
      refine XS.i2b X356.here hx rfl (hb hby at_200) rfl ?_
      show Steps p.tables e below (T356.setTop (mkF m 201 #[.val (.int p1), .val (.int p2), .val (.int p3), .val (.int p4), .val (.int (2 : Int32)), .val (.int op), .val (.int bd), .val (.ref fb), .val (.int (1 : Int32)), .val (.int (1 : Int32)), .val (.ref r)] [(.int (p3.toInt8.toInt32)), (.int (p3.toInt8.toInt32))])) _
      refine XS.icmpNo X356.here hx rfl (hb hby at_201) rfl (teq rfl).2 ?_
      show Steps p.tables e below (T356.setTop (mkF m 204 #[.val (.int p1), .val (.int p2), .val (.int p3), .val (.int p4), .val (.int (2 : Int32)), .val (.int op), .val (.int bd), .val (.ref fb), .val (.int (1 : Int32)), .val (.int (1 : Int32)), .val (.ref r)] [])) _
      refine XS.iconst X356.here hx rfl (hb hby at_204) ?_
      show Steps p.tables e below (T356.setTop (mkF m 205 #[.val (.int p1), .val (.int p2), .val (.int p3), .val (.int p4), .val (.int (2 : Int32)), .val (.int op), .val (.int bd), .val (.ref fb), .val (.int (1 : Int32)), .val (.int (1 : Int32)), .val (.ref r)] [(.int (1 : Int32))])) _
      refine XS.goto X356.here hx rfl (pc0 := 205) (pc' := 209) rfl (hb hby at_205) (by decide) (by decide) ?_
      exact kt
    obtain ⟨fsx, hr, hrun, hended, hW, hsame⟩ := X356.leave (v := some (.int (nar .boolean (1 : Int32)))) (fun h => by rw [Bd.returns] at h; cases h)
    refine ⟨_, _, pre357 _ ?_, hrun, hended, _, _, rfl, ?_, ⟨_, rfl⟩, hW, hsame.mono (by decide) (by decide)⟩
    · exact retN X356 hx (t := .boolean) Bd.returns (by simp) (hb hby at_209) hr
    · show Q0 Z p1 p2 p3 p4 h0 n0 _ T356.heap _
      rw [eq356]
      exact ⟨rfl, Nf356⟩
  · have pre358 : ∀ t, Steps p.tables e below (T243.setTop (mkF m 34 #[.val (.int p1), .val (.int p2), .val (.int p3), .val (.int p4), .val (.int (3 : Int32)), .val (.int op), .val (.int bd), .val (.ref fb), .unset, .unset, .unset] [])) t → Steps p.tables e below (s₁.setTop (entryFrame m #[(.int p1), (.int p2), (.int p3), (.int p4)] maxLocals)) t := by
      intro t kt
      have hsv : (p4 &&& (3 : Int32)) = (3 : Int32) := hn
      refine pre245 t ?_
      rw [hsv]
      exact kt
    obtain ⟨cq359, kq359, q359a, q359b, q359c⟩ := isOf hZ rfl f244
    obtain ⟨_, _, ⟨T359, L359, k359, n359⟩, -, X359, ⟨Lc359, hQ359, l359, y359, z359⟩, st359⟩ := X243.virtualBack hx (y := (⟨"com/example/flex_actor/flexactor/core/FrameBuffer", "begin", "(B)V"⟩ : MethodName)) (z := (⟨"com/example/flex_actor/flexactor/core/FrameBuffer", "begin", "(B)V"⟩ : MethodName)) hown (mvT hZ (hw _ (List.mem_of_getElem? (i := 65) rfl))) (mvT hZ (hw _ (List.mem_of_getElem? (i := 66) rfl))) (notFace_of_selects (args := #[]) (mvT hZ (hw _ (List.mem_of_getElem? (i := 68) rfl)))) (mvT hZ (hw _ (List.mem_of_getElem? (i := 68) rfl))) (mvT hZ (hw _ (List.mem_of_getElem? (i := 67) rfl))) (by decide) (backOf (W := 0) (rmG l Z a0 hw [] fb bb k1 [(.int (0 : Int32)), (.int (0 : Int32)), (.int (0 : Int32)), (.int (0 : Int32)), (.int (0 : Int32)), (.int (0 : Int32)), (.int (0 : Int32)), (.int (0 : Int32)), (.int (0 : Int32)), (.int (0 : Int32)), (.int (0 : Int32)), (.int (0 : Int32)), (.int (0 : Int32)), (.int (0 : Int32)), (.int (0 : Int32)), (.int (0 : Int32))] 0 (p1.toInt8.toInt32) T243.heap n0 Z243 f244 Fb0 Fs0 Ff0 V0  rfl ne_fb g_fb g_bb (by decide)) hZ (hw _ (List.mem_of_getElem? (i := 69) rfl)) (hw _ (List.mem_of_getElem? (i := 2) rfl)) (by decide) (by decide)) q359a q359c (g := (mkF m 80 #[.val (.int p1), .val (.int p2), .val (.int p3), .val (.int p4), .val (.int (3 : Int32)), .val (.int op), .val (.int bd), .val (.ref fb), .unset, .unset, .unset] [(.int (p1.toInt8.toInt32)), (.ref fb)])) rfl (by rw [hml]; rfl) (Steps.refl _) (argsL := [(.int (p1.toInt8.toInt32))]) (rest := []) (lenOf pd_5 rfl) rfl (by show 2 * 0 + _ ≤ _; exact Nat.le_of_eq rfl) (hb hby at_80) (fun _ _ => ⟨rfl, rfl, (by decide : 2 + 0 ≤ _), (by decide : 8195 + 0 ≤ _)⟩)
    dsimp only [Pt.U, Pt.locs, Pt.cells, Pt.slots] at X359 l359 y359 z359 st359 hQ359
    subst l359 y359 z359
    obtain ⟨rfl, Nq359, Kq359, Fbg, Fsg, Ffg, Vg⟩ := hQ359
    have f360 := (f244.keep Kq359)
    have Z359 : n0 ≤ T359.heap.size := Nat.le_trans Z243 Kq359.1
    have K359 : Keep h0 T359.heap [] := K243.trans Kq359 (allS (P := fun x => x ∈ ([] : List Addr) ∨ h0.size ≤ x) (Or.inr sz_fb) (allS (P := fun x => x ∈ ([] : List Addr) ∨ h0.size ≤ x) (Or.inr sz_bb) all0))
    have Nf359 := Fr.app Nf243 Nq359
    obtain ⟨cq361, kq361, q361a, q361b, q361c⟩ := isOf hZ rfl f360
    obtain ⟨_, _, ⟨T361, L361, k361, n361⟩, -, X361, ⟨Lc361, hQ361, l361, y361, z361⟩, st361⟩ := X359.virtualBack hx (y := (⟨"com/example/flex_actor/flexactor/core/FrameBuffer", "end", "()V"⟩ : MethodName)) (z := (⟨"com/example/flex_actor/flexactor/core/FrameBuffer", "end", "()V"⟩ : MethodName)) hown (mvT hZ (hw _ (List.mem_of_getElem? (i := 72) rfl))) (mvT hZ (hw _ (List.mem_of_getElem? (i := 73) rfl))) (notFace_of_selects (args := #[]) (mvT hZ (hw _ (List.mem_of_getElem? (i := 75) rfl)))) (mvT hZ (hw _ (List.mem_of_getElem? (i := 75) rfl))) (mvT hZ (hw _ (List.mem_of_getElem? (i := 74) rfl))) (by decide) (backOf (W := 0) (rmD l Z a0 hw [] fb bb k1 ((own_put [(.int (0 : Int32)), (.int (0 : Int32)), (.int (0 : Int32)), (.int (0 : Int32)), (.int (0 : Int32)), (.int (0 : Int32)), (.int (0 : Int32)), (.int (0 : Int32)), (.int (0 : Int32)), (.int (0 : Int32)), (.int (0 : Int32)), (.int (0 : Int32)), (.int (0 : Int32)), (.int (0 : Int32)), (.int (0 : Int32)), (.int (0 : Int32))] 0 (0 : Int32)).set (0 + 4) (.int ((p1.toInt8.toInt32).toInt8.toInt32))) T359.heap n0 Z359 f360 Fbg Fsg Ffg Vg  rfl ne_fb g_fb g_bb) hZ (hw _ (List.mem_of_getElem? (i := 76) rfl)) (hw _ (List.mem_of_getElem? (i := 2) rfl)) (by decide) (by decide)) q361a q361c (g := (mkF m 85 #[.val (.int p1), .val (.int p2), .val (.int p3), .val (.int p4), .val (.int (3 : Int32)), .val (.int op), .val (.int bd), .val (.ref fb), .unset, .unset, .unset] [(.ref fb)])) rfl (by rw [hml]; rfl) (Steps.refl _) (argsL := []) (rest := []) (lenOf pd_4 rfl) rfl (by show 2 * 0 + _ ≤ _; exact Nat.le_of_eq rfl) (hb hby at_85) (fun _ _ => ⟨rfl, rfl, (by decide : 2 + 0 ≤ _), (by decide : 8195 + 0 ≤ _)⟩)
    dsimp only [Pt.U, Pt.locs, Pt.cells, Pt.slots] at X361 l361 y361 z361 st361 hQ361
    subst l361 y361 z361
    obtain ⟨rfl, Nq361, Kq361, Fb1, Fs1, Ff1, V1⟩ := hQ361
    have f362 := (f360.keep Kq361)
    have Z361 : n0 ≤ T361.heap.size := Nat.le_trans Z359 Kq361.1
    have K361 : Keep h0 T361.heap [] := K359.trans Kq361 (allS (P := fun x => x ∈ ([] : List Addr) ∨ h0.size ≤ x) (Or.inr sz_fb) (allS (P := fun x => x ∈ ([] : List Addr) ∨ h0.size ≤ x) (Or.inr sz_bb) all0))
    have Nf361 := Fr.app Nf359 Nq361
    have Vmid : Arv Z T361.heap bb k1 .byte (8192 : Int32) [(.int (0 : Int32)), (.int (0 : Int32)), (.int (0 : Int32)), (.int (1 : Int32)), (.int ((p1.toInt8.toInt32).toInt8.toInt32)), (.int (0 : Int32)), (.int (0 : Int32)), (.int (0 : Int32)), (.int (0 : Int32)), (.int (0 : Int32)), (.int (0 : Int32)), (.int (0 : Int32)), (.int (0 : Int32)), (.int (0 : Int32)), (.int (0 : Int32)), (.int (0 : Int32))] (.int (0 : Int32)) := V1
    rw [show ((p1.toInt8.toInt32).toInt8.toInt32) = (p1.toInt8.toInt32) from own_nar p1] at Vmid
    have Vpf : Arv Z T361.heap bb k1 .byte (8192 : Int32) [(.int (0 : Int32)), (.int (0 : Int32)), (.int (0 : Int32)), (.int (1 : Int32)), (.int (p1.toInt8.toInt32)), (.int (0 : Int32)), (.int (0 : Int32)), (.int (0 : Int32)), (.int (0 : Int32)), (.int (0 : Int32)), (.int (0 : Int32)), (.int (0 : Int32)), (.int (0 : Int32)), (.int (0 : Int32)), (.int (0 : Int32)), (.int (0 : Int32))] (.int (0 : Int32)) := Vmid
    have Fpf : Fld Z T361.heap fb "com/example/flex_actor/flexactor/core/FrameBuffer" "size" "I" (.int (Int32.ofNat 5)) := Fs1
    have pre363 : ∀ t, Steps p.tables e below (T361.setTop (mkF m 99 #[.val (.int p1), .val (.int p2), .val (.int p3), .val (.int p4), .val (.int (3 : Int32)), .val (.int op), .val (.int bd), .val (.ref fb), .val (.int (5 : Int32)), .unset, .unset] [(.int op)])) t → Steps p.tables e below (s₁.setTop (entryFrame m #[(.int p1), (.int p2), (.int p3), (.int p4)] maxLocals)) t := by
      intro t kt
      refine pre358 t ?_
      show Steps p.tables e below (T243.setTop (mkF m 34 #[.val (.int p1), .val (.int p2), .val (.int p3), .val (.int p4), .val (.int (3 : Int32)), .val (.int op), .val (.int bd), .val (.ref fb), .unset, .unset, .unset] [])) _
      refine XS.iload X243.here hx rfl (hb hby at_34) rfl ?_
      show Steps p.tables e below (T243.setTop (mkF m 36 #[.val (.int p1), .val (.int p2), .val (.int p3), .val (.int p4), .val (.int (3 : Int32)), .val (.int op), .val (.int bd), .val (.ref fb), .unset, .unset, .unset] [(.int (3 : Int32))])) _
      refine XS.iconst X243.here hx rfl (hb hby at_36) ?_
      show Steps p.tables e below (T243.setTop (mkF m 37 #[.val (.int p1), .val (.int p2), .val (.int p3), .val (.int p4), .val (.int (3 : Int32)), .val (.int op), .val (.int bd), .val (.ref fb), .unset, .unset, .unset] [(.int (1 : Int32)), (.int (3 : Int32))])) _
      refine XS.icmpYes X243.here hx rfl (pc0 := 37) (pc' := 52) rfl (hb hby at_37) rfl (feq (by decide)).2 (by decide) (by decide) ?_
      show Steps p.tables e below (T243.setTop (mkF m 52 #[.val (.int p1), .val (.int p2), .val (.int p3), .val (.int p4), .val (.int (3 : Int32)), .val (.int op), .val (.int bd), .val (.ref fb), .unset, .unset, .unset] [])) _
      refine XS.iload X243.here hx rfl (hb hby at_52) rfl ?_
      show Steps p.tables e below (T243.setTop (mkF m 54 #[.val (.int p1), .val (.int p2), .val (.int p3), .val (.int p4), .val (.int (3 : Int32)), .val (.int op), .val (.int bd), .val (.ref fb), .unset, .unset, .unset] [(.int (3 : Int32))])) _
      refine XS.iconst X243.here hx rfl (hb hby at_54) ?_
      show Steps p.tables e below (T243.setTop (mkF m 55 #[.val (.int p1), .val (.int p2), .val (.int p3), .val (.int p4), .val (.int (3 : Int32)), .val (.int op), .val (.int bd), .val (.ref fb), .unset, .unset, .unset] [(.int (2 : Int32)), (.int (3 : Int32))])) _
      refine XS.icmpYes X243.here hx rfl (pc0 := 55) (pc' := 70) rfl (hb hby at_55) rfl (feq (by decide)).2 (by decide) (by decide) ?_
      show Steps p.tables e below (T243.setTop (mkF m 70 #[.val (.int p1), .val (.int p2), .val (.int p3), .val (.int p4), .val (.int (3 : Int32)), .val (.int op), .val (.int bd), .val (.ref fb), .unset, .unset, .unset] [])) _
      refine XS.iload X243.here hx rfl (hb hby at_70) rfl ?_
      show Steps p.tables e below (T243.setTop (mkF m 72 #[.val (.int p1), .val (.int p2), .val (.int p3), .val (.int p4), .val (.int (3 : Int32)), .val (.int op), .val (.int bd), .val (.ref fb), .unset, .unset, .unset] [(.int (3 : Int32))])) _
      refine XS.iconst X243.here hx rfl (hb hby at_72) ?_
      show Steps p.tables e below (T243.setTop (mkF m 73 #[.val (.int p1), .val (.int p2), .val (.int p3), .val (.int p4), .val (.int (3 : Int32)), .val (.int op), .val (.int bd), .val (.ref fb), .unset, .unset, .unset] [(.int (3 : Int32)), (.int (3 : Int32))])) _
      refine XS.icmpNo X243.here hx rfl (hb hby at_73) rfl (teq (by decide)).2 ?_
      show Steps p.tables e below (T243.setTop (mkF m 76 #[.val (.int p1), .val (.int p2), .val (.int p3), .val (.int p4), .val (.int (3 : Int32)), .val (.int op), .val (.int bd), .val (.ref fb), .unset, .unset, .unset] [])) _
      refine XS.aload X243.here hx rfl (hb hby at_76) rfl rfl ?_
      show Steps p.tables e below (T243.setTop (mkF m 78 #[.val (.int p1), .val (.int p2), .val (.int p3), .val (.int p4), .val (.int (3 : Int32)), .val (.int op), .val (.int bd), .val (.ref fb), .unset, .unset, .unset] [(.ref fb)])) _
      refine XS.iloadN X243.here hx rfl (hb hby at_78) rfl ?_
      show Steps p.tables e below (T243.setTop (mkF m 79 #[.val (.int p1), .val (.int p2), .val (.int p3), .val (.int p4), .val (.int (3 : Int32)), .val (.int op), .val (.int bd), .val (.ref fb), .unset, .unset, .unset] [(.int p1), (.ref fb)])) _
      refine XS.i2b X243.here hx rfl (hb hby at_79) rfl ?_
      show Steps p.tables e below (T243.setTop (mkF m 80 #[.val (.int p1), .val (.int p2), .val (.int p3), .val (.int p4), .val (.int (3 : Int32)), .val (.int op), .val (.int bd), .val (.ref fb), .unset, .unset, .unset] [(.int (p1.toInt8.toInt32)), (.ref fb)])) _
      refine st359.trans ?_
      show Steps p.tables e below (T359.setTop (mkF m 83 #[.val (.int p1), .val (.int p2), .val (.int p3), .val (.int p4), .val (.int (3 : Int32)), .val (.int op), .val (.int bd), .val (.ref fb), .unset, .unset, .unset] [])) _
      refine XS.aload X359.here hx rfl (hb hby at_83) rfl rfl ?_
      show Steps p.tables e below (T359.setTop (mkF m 85 #[.val (.int p1), .val (.int p2), .val (.int p3), .val (.int p4), .val (.int (3 : Int32)), .val (.int op), .val (.int bd), .val (.ref fb), .unset, .unset, .unset] [(.ref fb)])) _
      refine st361.trans ?_
      show Steps p.tables e below (T361.setTop (mkF m 88 #[.val (.int p1), .val (.int p2), .val (.int p3), .val (.int p4), .val (.int (3 : Int32)), .val (.int op), .val (.int bd), .val (.ref fb), .unset, .unset, .unset] [])) _
      refine XS.iconst X361.here hx rfl (hb hby at_88) ?_
      show Steps p.tables e below (T361.setTop (mkF m 89 #[.val (.int p1), .val (.int p2), .val (.int p3), .val (.int p4), .val (.int (3 : Int32)), .val (.int op), .val (.int bd), .val (.ref fb), .unset, .unset, .unset] [(.int (5 : Int32))])) _
      refine XS.istore X361.here hx rfl (hb hby at_89) rfl (l' := #[.val (.int p1), .val (.int p2), .val (.int p3), .val (.int p4), .val (.int (3 : Int32)), .val (.int op), .val (.int bd), .val (.ref fb), .val (.int (5 : Int32)), .unset, .unset]) rfl ?_
      show Steps p.tables e below (T361.setTop (mkF m 91 #[.val (.int p1), .val (.int p2), .val (.int p3), .val (.int p4), .val (.int (3 : Int32)), .val (.int op), .val (.int bd), .val (.ref fb), .val (.int (5 : Int32)), .unset, .unset] [])) _
      refine XS.goto X361.here hx rfl (pc0 := 91) (pc' := 97) rfl (hb hby at_91) (by decide) (by decide) ?_
      show Steps p.tables e below (T361.setTop (mkF m 97 #[.val (.int p1), .val (.int p2), .val (.int p3), .val (.int p4), .val (.int (3 : Int32)), .val (.int op), .val (.int bd), .val (.ref fb), .val (.int (5 : Int32)), .unset, .unset] [])) _
      refine XS.iload X361.here hx rfl (hb hby at_97) rfl ?_
      exact kt
    obtain ⟨ws, Tm364, hm364, Lm364, Xm364, em364, Nm364, Km364, Zm364, hsp364, fm364_0, fm364_1, fm364_2, fm364_3, fm364_4, prem364⟩ : ∃ (ws : List Value) (Tm364 : State) (hm364 : Heap) (Lm364 : List Loc), Stand p l e room_1 s m #[(.int p1), (.int p2), (.int p3), (.int p4)] below meth c Tm364 Lm364 2 8195 ∧ Tm364.heap = hm364 ∧ Fr n0 Lm364 ∧ Keep h0 hm364 [] ∧ n0 ≤ hm364.size ∧ (ws.take 5 = [(.int (0 : Int32)), (.int (0 : Int32)), (.int (0 : Int32)), (.int (1 : Int32)), (.int (p1.toInt8.toInt32))] ∧ ws.length = 16) ∧ Exa Z hm364 fb "com/example/flex_actor/flexactor/core/FrameBuffer" ∧ Fld Z hm364 fb "com/example/flex_actor/flexactor/core/FrameBuffer" "bytes" "[B" (.ref bb) ∧ Fld Z hm364 fb "com/example/flex_actor/flexactor/core/FrameBuffer" "size" "I" (.int (Int32.ofNat 5)) ∧ Fld Z hm364 fb "com/example/flex_actor/flexactor/core/FrameBuffer" "frameStart" "I" (.int (-1 : Int32)) ∧ Arv Z hm364 bb k1 .byte (8192 : Int32) ws (.int (0 : Int32)) ∧ ∀ t, Steps p.tables e below (Tm364.setTop (mkF m 141 #[.val (.int p1), .val (.int p2), .val (.int p3), .val (.int p4), .val (.int (3 : Int32)), .val (.int op), .val (.int bd), .val (.ref fb), .val (.int (5 : Int32)), .unset, .unset] [])) t → Steps p.tables e below (s₁.setTop (entryFrame m #[(.int p1), (.int p2), (.int p3), (.int p4)] maxLocals)) t := by
      by_cases hc99 : op = (0 : Int32)
      · obtain ⟨cq365, kq365, q365a, q365b, q365c⟩ := isOf hZ rfl f362
        obtain ⟨_, _, ⟨T365, L365, k365, n365⟩, -, X365, ⟨Lc365, hQ365, l365, y365, z365⟩, st365⟩ := X361.virtualBack hx (y := (⟨"com/example/flex_actor/flexactor/core/FrameBuffer", "abandon", "()V"⟩ : MethodName)) (z := (⟨"com/example/flex_actor/flexactor/core/FrameBuffer", "abandon", "()V"⟩ : MethodName)) hown (mvT hZ (hw _ (List.mem_of_getElem? (i := 29) rfl))) (mvT hZ (hw _ (List.mem_of_getElem? (i := 30) rfl))) (notFace_of_selects (args := #[]) (mvT hZ (hw _ (List.mem_of_getElem? (i := 32) rfl)))) (mvT hZ (hw _ (List.mem_of_getElem? (i := 32) rfl))) (mvT hZ (hw _ (List.mem_of_getElem? (i := 31) rfl))) (by decide) (backOf (W := 0) (rmA0 l Z a0 hw [] fb T361.heap n0 Z361 Ff1) hZ (hw _ (List.mem_of_getElem? (i := 33) rfl)) (hw _ (List.mem_of_getElem? (i := 2) rfl)) (by decide) (by decide)) q365a q365c (g := (mkF m 138 #[.val (.int p1), .val (.int p2), .val (.int p3), .val (.int p4), .val (.int (3 : Int32)), .val (.int op), .val (.int bd), .val (.ref fb), .val (.int (5 : Int32)), .unset, .unset] [(.ref fb)])) rfl (by rw [hml]; rfl) (Steps.refl _) (argsL := []) (rest := []) (lenOf pd_4 rfl) rfl (by show 2 * 0 + _ ≤ _; exact Nat.le_of_eq rfl) (hb hby at_138) (fun _ _ => ⟨rfl, rfl, (by decide : 2 + 0 ≤ _), (by decide : 8195 + 0 ≤ _)⟩)
        dsimp only [Pt.U, Pt.locs, Pt.cells, Pt.slots] at X365 l365 y365 z365 st365 hQ365
        subst l365 y365 z365
        obtain ⟨rfl, Nq365, eq365⟩ := hQ365
        have Nf365 := Fr.app Nf361 Nq365
        have pre366 : ∀ t, Steps p.tables e below (T365.setTop (mkF m 141 #[.val (.int p1), .val (.int p2), .val (.int p3), .val (.int p4), .val (.int (3 : Int32)), .val (.int op), .val (.int bd), .val (.ref fb), .val (.int (5 : Int32)), .unset, .unset] [])) t → Steps p.tables e below (s₁.setTop (entryFrame m #[(.int p1), (.int p2), (.int p3), (.int p4)] maxLocals)) t := by
          intro t kt
          refine pre363 t ?_
          show Steps p.tables e below (T361.setTop (mkF m 99 #[.val (.int p1), .val (.int p2), .val (.int p3), .val (.int p4), .val (.int (3 : Int32)), .val (.int op), .val (.int bd), .val (.ref fb), .val (.int (5 : Int32)), .unset, .unset] [(.int op)])) _
          refine XS.ifYes X361.here hx rfl (pc0 := 99) (pc' := 136) rfl (hb hby at_99) rfl ((if0 _ _).trans (teq hc99).1) (by decide) (by decide) ?_
          show Steps p.tables e below (T361.setTop (mkF m 136 #[.val (.int p1), .val (.int p2), .val (.int p3), .val (.int p4), .val (.int (3 : Int32)), .val (.int op), .val (.int bd), .val (.ref fb), .val (.int (5 : Int32)), .unset, .unset] [])) _
          refine XS.aload X361.here hx rfl (hb hby at_136) rfl rfl ?_
          show Steps p.tables e below (T361.setTop (mkF m 138 #[.val (.int p1), .val (.int p2), .val (.int p3), .val (.int p4), .val (.int (3 : Int32)), .val (.int op), .val (.int bd), .val (.ref fb), .val (.int (5 : Int32)), .unset, .unset] [(.ref fb)])) _
          refine st365.trans ?_
          exact kt
        refine ⟨[(.int (0 : Int32)), (.int (0 : Int32)), (.int (0 : Int32)), (.int (1 : Int32)), (.int (p1.toInt8.toInt32)), (.int (0 : Int32)), (.int (0 : Int32)), (.int (0 : Int32)), (.int (0 : Int32)), (.int (0 : Int32)), (.int (0 : Int32)), (.int (0 : Int32)), (.int (0 : Int32)), (.int (0 : Int32)), (.int (0 : Int32)), (.int (0 : Int32))], T365, T361.heap, _, X365, eq365, Nf365, K361, Z361, ?_, f362, Fb1, Fpf, Ff1, Vpf, pre366⟩
        exact ⟨rfl, rfl⟩
      · obtain ⟨cq367, kq367, q367a, q367b, q367c⟩ := isOf hZ rfl f362
        obtain ⟨_, _, ⟨T367, L367, k367, n367⟩, -, X367, ⟨Lc367, hQ367, l367, y367, z367⟩, st367⟩ := X361.virtualBack hx (y := (⟨"com/example/flex_actor/flexactor/core/FrameBuffer", "begin", "(B)V"⟩ : MethodName)) (z := (⟨"com/example/flex_actor/flexactor/core/FrameBuffer", "begin", "(B)V"⟩ : MethodName)) hown (mvT hZ (hw _ (List.mem_of_getElem? (i := 65) rfl))) (mvT hZ (hw _ (List.mem_of_getElem? (i := 66) rfl))) (notFace_of_selects (args := #[]) (mvT hZ (hw _ (List.mem_of_getElem? (i := 68) rfl)))) (mvT hZ (hw _ (List.mem_of_getElem? (i := 68) rfl))) (mvT hZ (hw _ (List.mem_of_getElem? (i := 67) rfl))) (by decide) (backOf (W := 0) (rmG l Z a0 hw [] fb bb k1 [(.int (0 : Int32)), (.int (0 : Int32)), (.int (0 : Int32)), (.int (1 : Int32)), (.int (p1.toInt8.toInt32)), (.int (0 : Int32)), (.int (0 : Int32)), (.int (0 : Int32)), (.int (0 : Int32)), (.int (0 : Int32)), (.int (0 : Int32)), (.int (0 : Int32)), (.int (0 : Int32)), (.int (0 : Int32)), (.int (0 : Int32)), (.int (0 : Int32))] 5 (p2.toInt8.toInt32) T361.heap n0 Z361 f362 Fb1 Fpf Ff1 Vpf  rfl ne_fb g_fb g_bb (by decide)) hZ (hw _ (List.mem_of_getElem? (i := 69) rfl)) (hw _ (List.mem_of_getElem? (i := 2) rfl)) (by decide) (by decide)) q367a q367c (g := (mkF m 106 #[.val (.int p1), .val (.int p2), .val (.int p3), .val (.int p4), .val (.int (3 : Int32)), .val (.int op), .val (.int bd), .val (.ref fb), .val (.int (5 : Int32)), .unset, .unset] [(.int (p2.toInt8.toInt32)), (.ref fb)])) rfl (by rw [hml]; rfl) (Steps.refl _) (argsL := [(.int (p2.toInt8.toInt32))]) (rest := []) (lenOf pd_5 rfl) rfl (by show 2 * 0 + _ ≤ _; exact Nat.le_of_eq rfl) (hb hby at_106) (fun _ _ => ⟨rfl, rfl, (by decide : 2 + 0 ≤ _), (by decide : 8195 + 0 ≤ _)⟩)
        dsimp only [Pt.U, Pt.locs, Pt.cells, Pt.slots] at X367 l367 y367 z367 st367 hQ367
        subst l367 y367 z367
        obtain ⟨rfl, Nq367, Kq367, Fbh, Fsh, Ffh, Vh⟩ := hQ367
        have f368 := (f362.keep Kq367)
        have Z367 : n0 ≤ T367.heap.size := Nat.le_trans Z361 Kq367.1
        have K367 : Keep h0 T367.heap [] := K361.trans Kq367 (allS (P := fun x => x ∈ ([] : List Addr) ∨ h0.size ≤ x) (Or.inr sz_fb) (allS (P := fun x => x ∈ ([] : List Addr) ∨ h0.size ≤ x) (Or.inr sz_bb) all0))
        have Nf367 := Fr.app Nf361 Nq367
        have pre369 : ∀ t, Steps p.tables e below (T367.setTop (mkF m 112 #[.val (.int p1), .val (.int p2), .val (.int p3), .val (.int p4), .val (.int (3 : Int32)), .val (.int op), .val (.int bd), .val (.ref fb), .val (.int (5 : Int32)), .unset, .unset] [(.int (1 : Int32)), (.int bd)])) t → Steps p.tables e below (s₁.setTop (entryFrame m #[(.int p1), (.int p2), (.int p3), (.int p4)] maxLocals)) t := by
          intro t kt
          refine pre363 t ?_
          show Steps p.tables e below (T361.setTop (mkF m 99 #[.val (.int p1), .val (.int p2), .val (.int p3), .val (.int p4), .val (.int (3 : Int32)), .val (.int op), .val (.int bd), .val (.ref fb), .val (.int (5 : Int32)), .unset, .unset] [(.int op)])) _
          refine XS.ifNo X361.here hx rfl (hb hby at_99) rfl ((if0 _ _).trans (feq hc99).1) ?_
          show Steps p.tables e below (T361.setTop (mkF m 102 #[.val (.int p1), .val (.int p2), .val (.int p3), .val (.int p4), .val (.int (3 : Int32)), .val (.int op), .val (.int bd), .val (.ref fb), .val (.int (5 : Int32)), .unset, .unset] [])) _
          refine XS.aload X361.here hx rfl (hb hby at_102) rfl rfl ?_
          show Steps p.tables e below (T361.setTop (mkF m 104 #[.val (.int p1), .val (.int p2), .val (.int p3), .val (.int p4), .val (.int (3 : Int32)), .val (.int op), .val (.int bd), .val (.ref fb), .val (.int (5 : Int32)), .unset, .unset] [(.ref fb)])) _
          refine XS.iloadN X361.here hx rfl (hb hby at_104) rfl ?_
          show Steps p.tables e below (T361.setTop (mkF m 105 #[.val (.int p1), .val (.int p2), .val (.int p3), .val (.int p4), .val (.int (3 : Int32)), .val (.int op), .val (.int bd), .val (.ref fb), .val (.int (5 : Int32)), .unset, .unset] [(.int p2), (.ref fb)])) _
          refine XS.i2b X361.here hx rfl (hb hby at_105) rfl ?_
          show Steps p.tables e below (T361.setTop (mkF m 106 #[.val (.int p1), .val (.int p2), .val (.int p3), .val (.int p4), .val (.int (3 : Int32)), .val (.int op), .val (.int bd), .val (.ref fb), .val (.int (5 : Int32)), .unset, .unset] [(.int (p2.toInt8.toInt32)), (.ref fb)])) _
          refine st367.trans ?_
          show Steps p.tables e below (T367.setTop (mkF m 109 #[.val (.int p1), .val (.int p2), .val (.int p3), .val (.int p4), .val (.int (3 : Int32)), .val (.int op), .val (.int bd), .val (.ref fb), .val (.int (5 : Int32)), .unset, .unset] [])) _
          refine XS.iload X367.here hx rfl (hb hby at_109) rfl ?_
          show Steps p.tables e below (T367.setTop (mkF m 111 #[.val (.int p1), .val (.int p2), .val (.int p3), .val (.int p4), .val (.int (3 : Int32)), .val (.int op), .val (.int bd), .val (.ref fb), .val (.int (5 : Int32)), .unset, .unset] [(.int bd)])) _
          refine XS.iconst X367.here hx rfl (hb hby at_111) ?_
          exact kt
        by_cases hc112 : bd = (1 : Int32)
        · obtain ⟨cq370, kq370, q370a, q370b, q370c⟩ := isOf hZ rfl f368
          obtain ⟨_, _, ⟨T370, L370, k370, n370⟩, -, X370, ⟨Lc370, hQ370, l370, y370, z370⟩, st370⟩ := X367.virtualBack hx (y := (⟨"com/example/flex_actor/flexactor/core/FrameBuffer", "writeInt", "(I)V"⟩ : MethodName)) (z := (⟨"com/example/flex_actor/flexactor/core/FrameBuffer", "writeInt", "(I)V"⟩ : MethodName)) hown (mvT hZ (hw _ (List.mem_of_getElem? (i := 14) rfl))) (mvT hZ (hw _ (List.mem_of_getElem? (i := 15) rfl))) (notFace_of_selects (args := #[]) (mvT hZ (hw _ (List.mem_of_getElem? (i := 17) rfl)))) (mvT hZ (hw _ (List.mem_of_getElem? (i := 17) rfl))) (mvT hZ (hw _ (List.mem_of_getElem? (i := 16) rfl))) (by decide) (backOf (W := 0) (rmW l Z a0 hw [] fb bb k1 ((own_put [(.int (0 : Int32)), (.int (0 : Int32)), (.int (0 : Int32)), (.int (1 : Int32)), (.int (p1.toInt8.toInt32)), (.int (0 : Int32)), (.int (0 : Int32)), (.int (0 : Int32)), (.int (0 : Int32)), (.int (0 : Int32)), (.int (0 : Int32)), (.int (0 : Int32)), (.int (0 : Int32)), (.int (0 : Int32)), (.int (0 : Int32)), (.int (0 : Int32))] 5 (0 : Int32)).set (5 + 4) (.int ((p2.toInt8.toInt32).toInt8.toInt32))) (5 + 4 + 1) (Int32.ofNat 5) p3 T367.heap n0 Z367 f368 Fbh Fsh Ffh Vh  (by rw [List.length_set, own_putl]; rfl) ne_fb g_fb g_bb (by decide)) hZ (hw _ (List.mem_of_getElem? (i := 18) rfl)) (hw _ (List.mem_of_getElem? (i := 2) rfl)) (by decide) (by decide)) q370a q370c (g := (mkF m 118 #[.val (.int p1), .val (.int p2), .val (.int p3), .val (.int p4), .val (.int (3 : Int32)), .val (.int op), .val (.int bd), .val (.ref fb), .val (.int (5 : Int32)), .unset, .unset] [(.int p3), (.ref fb)])) rfl (by rw [hml]; rfl) (Steps.refl _) (argsL := [(.int p3)]) (rest := []) (lenOf pd_0 rfl) rfl (by show 2 * 0 + _ ≤ _; exact Nat.le_of_eq rfl) (hb hby at_118) (fun _ _ => ⟨rfl, rfl, (by decide : 2 + 0 ≤ _), (by decide : 8195 + 0 ≤ _)⟩)
          dsimp only [Pt.U, Pt.locs, Pt.cells, Pt.slots] at X370 l370 y370 z370 st370 hQ370
          subst l370 y370 z370
          obtain ⟨rfl, Nq370, Kq370, Fbi, Fsi, Ffi, Vi⟩ := hQ370
          have f371 := (f368.keep Kq370)
          have Z370 : n0 ≤ T370.heap.size := Nat.le_trans Z367 Kq370.1
          have K370 : Keep h0 T370.heap [] := K367.trans Kq370 (allS (P := fun x => x ∈ ([] : List Addr) ∨ h0.size ≤ x) (Or.inr sz_fb) (allS (P := fun x => x ∈ ([] : List Addr) ∨ h0.size ≤ x) (Or.inr sz_bb) all0))
          have Nf370 := Fr.app Nf367 Nq370
          obtain ⟨cq372, kq372, q372a, q372b, q372c⟩ := isOf hZ rfl f371
          obtain ⟨_, _, ⟨T372, L372, k372, n372⟩, -, X372, ⟨Lc372, hQ372, l372, y372, z372⟩, st372⟩ := X370.virtualBack hx (y := (⟨"com/example/flex_actor/flexactor/core/FrameBuffer", "abandon", "()V"⟩ : MethodName)) (z := (⟨"com/example/flex_actor/flexactor/core/FrameBuffer", "abandon", "()V"⟩ : MethodName)) hown (mvT hZ (hw _ (List.mem_of_getElem? (i := 29) rfl))) (mvT hZ (hw _ (List.mem_of_getElem? (i := 30) rfl))) (notFace_of_selects (args := #[]) (mvT hZ (hw _ (List.mem_of_getElem? (i := 32) rfl)))) (mvT hZ (hw _ (List.mem_of_getElem? (i := 32) rfl))) (mvT hZ (hw _ (List.mem_of_getElem? (i := 31) rfl))) (by decide) (backOf (W := 0) (rmA1 l Z a0 hw [] fb bb k1 (own_put ((own_put [(.int (0 : Int32)), (.int (0 : Int32)), (.int (0 : Int32)), (.int (1 : Int32)), (.int (p1.toInt8.toInt32)), (.int (0 : Int32)), (.int (0 : Int32)), (.int (0 : Int32)), (.int (0 : Int32)), (.int (0 : Int32)), (.int (0 : Int32)), (.int (0 : Int32)), (.int (0 : Int32)), (.int (0 : Int32)), (.int (0 : Int32)), (.int (0 : Int32))] 5 (0 : Int32)).set (5 + 4) (.int ((p2.toInt8.toInt32).toInt8.toInt32))) (5 + 4 + 1) p3) (Int32.ofNat (5 + 4 + 1 + 4)) (Int32.ofNat 5) T370.heap n0 Z370 f371 Fbi Fsi Ffi Vi  (by rw [own_putl, List.length_set, own_putl]; rfl) ne_fb g_fb g_bb (by decide)) hZ (hw _ (List.mem_of_getElem? (i := 33) rfl)) (hw _ (List.mem_of_getElem? (i := 2) rfl)) (by decide) (by decide)) q372a q372c (g := (mkF m 138 #[.val (.int p1), .val (.int p2), .val (.int p3), .val (.int p4), .val (.int (3 : Int32)), .val (.int op), .val (.int bd), .val (.ref fb), .val (.int (5 : Int32)), .unset, .unset] [(.ref fb)])) rfl (by rw [hml]; rfl) (Steps.refl _) (argsL := []) (rest := []) (lenOf pd_4 rfl) rfl (by show 2 * 0 + _ ≤ _; exact Nat.le_of_eq rfl) (hb hby at_138) (fun _ _ => ⟨rfl, rfl, (by decide : 2 + 0 ≤ _), (by decide : 8195 + 0 ≤ _)⟩)
          dsimp only [Pt.U, Pt.locs, Pt.cells, Pt.slots] at X372 l372 y372 z372 st372 hQ372
          subst l372 y372 z372
          obtain ⟨rfl, Nq372, Kq372, Fbz, Fsz, Ffz, Vz⟩ := hQ372
          have f373 := (f371.keep Kq372)
          have Z372 : n0 ≤ T372.heap.size := Nat.le_trans Z370 Kq372.1
          have K372 : Keep h0 T372.heap [] := K370.trans Kq372 (allS (P := fun x => x ∈ ([] : List Addr) ∨ h0.size ≤ x) (Or.inr sz_fb) (allS (P := fun x => x ∈ ([] : List Addr) ∨ h0.size ≤ x) (Or.inr sz_bb) all0))
          have Nf372 := Fr.app Nf370 Nq372
          have pre374 : ∀ t, Steps p.tables e below (T372.setTop (mkF m 141 #[.val (.int p1), .val (.int p2), .val (.int p3), .val (.int p4), .val (.int (3 : Int32)), .val (.int op), .val (.int bd), .val (.ref fb), .val (.int (5 : Int32)), .unset, .unset] [])) t → Steps p.tables e below (s₁.setTop (entryFrame m #[(.int p1), (.int p2), (.int p3), (.int p4)] maxLocals)) t := by
            intro t kt
            refine pre369 t ?_
            show Steps p.tables e below (T367.setTop (mkF m 112 #[.val (.int p1), .val (.int p2), .val (.int p3), .val (.int p4), .val (.int (3 : Int32)), .val (.int op), .val (.int bd), .val (.ref fb), .val (.int (5 : Int32)), .unset, .unset] [(.int (1 : Int32)), (.int bd)])) _
            refine XS.icmpNo X367.here hx rfl (hb hby at_112) rfl (teq hc112).2 ?_
            show Steps p.tables e below (T367.setTop (mkF m 115 #[.val (.int p1), .val (.int p2), .val (.int p3), .val (.int p4), .val (.int (3 : Int32)), .val (.int op), .val (.int bd), .val (.ref fb), .val (.int (5 : Int32)), .unset, .unset] [])) _
            refine XS.aload X367.here hx rfl (hb hby at_115) rfl rfl ?_
            show Steps p.tables e below (T367.setTop (mkF m 117 #[.val (.int p1), .val (.int p2), .val (.int p3), .val (.int p4), .val (.int (3 : Int32)), .val (.int op), .val (.int bd), .val (.ref fb), .val (.int (5 : Int32)), .unset, .unset] [(.ref fb)])) _
            refine XS.iloadN X367.here hx rfl (hb hby at_117) rfl ?_
            show Steps p.tables e below (T367.setTop (mkF m 118 #[.val (.int p1), .val (.int p2), .val (.int p3), .val (.int p4), .val (.int (3 : Int32)), .val (.int op), .val (.int bd), .val (.ref fb), .val (.int (5 : Int32)), .unset, .unset] [(.int p3), (.ref fb)])) _
            refine st370.trans ?_
            show Steps p.tables e below (T370.setTop (mkF m 121 #[.val (.int p1), .val (.int p2), .val (.int p3), .val (.int p4), .val (.int (3 : Int32)), .val (.int op), .val (.int bd), .val (.ref fb), .val (.int (5 : Int32)), .unset, .unset] [])) _
            refine XS.goto X370.here hx rfl (pc0 := 121) (pc' := 136) rfl (hb hby at_121) (by decide) (by decide) ?_
            show Steps p.tables e below (T370.setTop (mkF m 136 #[.val (.int p1), .val (.int p2), .val (.int p3), .val (.int p4), .val (.int (3 : Int32)), .val (.int op), .val (.int bd), .val (.ref fb), .val (.int (5 : Int32)), .unset, .unset] [])) _
            refine XS.aload X370.here hx rfl (hb hby at_136) rfl rfl ?_
            show Steps p.tables e below (T370.setTop (mkF m 138 #[.val (.int p1), .val (.int p2), .val (.int p3), .val (.int p4), .val (.int (3 : Int32)), .val (.int op), .val (.int bd), .val (.ref fb), .val (.int (5 : Int32)), .unset, .unset] [(.ref fb)])) _
            refine st372.trans ?_
            exact kt
          refine ⟨(own_put ((own_put [(.int (0 : Int32)), (.int (0 : Int32)), (.int (0 : Int32)), (.int (1 : Int32)), (.int (p1.toInt8.toInt32)), (.int (0 : Int32)), (.int (0 : Int32)), (.int (0 : Int32)), (.int (0 : Int32)), (.int (0 : Int32)), (.int (0 : Int32)), (.int (0 : Int32)), (.int (0 : Int32)), (.int (0 : Int32)), (.int (0 : Int32)), (.int (0 : Int32))] 5 (0 : Int32)).set (5 + 4) (.int ((p2.toInt8.toInt32).toInt8.toInt32))) (5 + 4 + 1) p3), T372, T372.heap, _, X372, rfl, Nf372, K372, Z372, ?_, f373, Fbz, Fsz, Ffz, Vz, pre374⟩
          exact ⟨by rw [own_tkp _ _ _ _ (by decide), own_tks _ _ _ _ (by decide), own_tkp _ _ _ _ (by decide)]; rfl, by rw [own_putl, List.length_set, own_putl]; rfl⟩
        · have pre375 : ∀ t, Steps p.tables e below (T367.setTop (mkF m 127 #[.val (.int p1), .val (.int p2), .val (.int p3), .val (.int p4), .val (.int (3 : Int32)), .val (.int op), .val (.int bd), .val (.ref fb), .val (.int (5 : Int32)), .unset, .unset] [(.int (2 : Int32)), (.int bd)])) t → Steps p.tables e below (s₁.setTop (entryFrame m #[(.int p1), (.int p2), (.int p3), (.int p4)] maxLocals)) t := by
            intro t kt
            refine pre369 t ?_
            show Steps p.tables e below (T367.setTop (mkF m 112 #[.val (.int p1), .val (.int p2), .val (.int p3), .val (.int p4), .val (.int (3 : Int32)), .val (.int op), .val (.int bd), .val (.ref fb), .val (.int (5 : Int32)), .unset, .unset] [(.int (1 : Int32)), (.int bd)])) _
            refine XS.icmpYes X367.here hx rfl (pc0 := 112) (pc' := 124) rfl (hb hby at_112) rfl (feq hc112).2 (by decide) (by decide) ?_
            show Steps p.tables e below (T367.setTop (mkF m 124 #[.val (.int p1), .val (.int p2), .val (.int p3), .val (.int p4), .val (.int (3 : Int32)), .val (.int op), .val (.int bd), .val (.ref fb), .val (.int (5 : Int32)), .unset, .unset] [])) _
            refine XS.iload X367.here hx rfl (hb hby at_124) rfl ?_
            show Steps p.tables e below (T367.setTop (mkF m 126 #[.val (.int p1), .val (.int p2), .val (.int p3), .val (.int p4), .val (.int (3 : Int32)), .val (.int op), .val (.int bd), .val (.ref fb), .val (.int (5 : Int32)), .unset, .unset] [(.int bd)])) _
            refine XS.iconst X367.here hx rfl (hb hby at_126) ?_
            exact kt
          by_cases hc127 : bd = (2 : Int32)
          · obtain ⟨cq376, kq376, q376a, q376b, q376c⟩ := isOf hZ rfl f368
            obtain ⟨_, _, ⟨T376, L376, k376, n376⟩, -, X376, ⟨Lc376, hQ376, l376, y376, z376⟩, st376⟩ := X367.virtualBack hx (y := (⟨"com/example/flex_actor/flexactor/core/FrameBuffer", "writeByte", "(I)V"⟩ : MethodName)) (z := (⟨"com/example/flex_actor/flexactor/core/FrameBuffer", "writeByte", "(I)V"⟩ : MethodName)) hown (mvT hZ (hw _ (List.mem_of_getElem? (i := 39) rfl))) (mvT hZ (hw _ (List.mem_of_getElem? (i := 40) rfl))) (notFace_of_selects (args := #[]) (mvT hZ (hw _ (List.mem_of_getElem? (i := 42) rfl)))) (mvT hZ (hw _ (List.mem_of_getElem? (i := 42) rfl))) (mvT hZ (hw _ (List.mem_of_getElem? (i := 41) rfl))) (by decide) (backOf (W := 0) (rmB l Z a0 hw [] fb bb k1 ((own_put [(.int (0 : Int32)), (.int (0 : Int32)), (.int (0 : Int32)), (.int (1 : Int32)), (.int (p1.toInt8.toInt32)), (.int (0 : Int32)), (.int (0 : Int32)), (.int (0 : Int32)), (.int (0 : Int32)), (.int (0 : Int32)), (.int (0 : Int32)), (.int (0 : Int32)), (.int (0 : Int32)), (.int (0 : Int32)), (.int (0 : Int32)), (.int (0 : Int32))] 5 (0 : Int32)).set (5 + 4) (.int ((p2.toInt8.toInt32).toInt8.toInt32))) (5 + 4 + 1) (Int32.ofNat 5) p3 T367.heap n0 Z367 f368 Fbh Fsh Ffh Vh  (by rw [List.length_set, own_putl]; rfl) ne_fb g_fb g_bb (by decide)) hZ (hw _ (List.mem_of_getElem? (i := 43) rfl)) (hw _ (List.mem_of_getElem? (i := 2) rfl)) (by decide) (by decide)) q376a q376c (g := (mkF m 133 #[.val (.int p1), .val (.int p2), .val (.int p3), .val (.int p4), .val (.int (3 : Int32)), .val (.int op), .val (.int bd), .val (.ref fb), .val (.int (5 : Int32)), .unset, .unset] [(.int p3), (.ref fb)])) rfl (by rw [hml]; rfl) (Steps.refl _) (argsL := [(.int p3)]) (rest := []) (lenOf pd_0 rfl) rfl (by show 2 * 0 + _ ≤ _; exact Nat.le_of_eq rfl) (hb hby at_133) (fun _ _ => ⟨rfl, rfl, (by decide : 2 + 0 ≤ _), (by decide : 8195 + 0 ≤ _)⟩)
            dsimp only [Pt.U, Pt.locs, Pt.cells, Pt.slots] at X376 l376 y376 z376 st376 hQ376
            subst l376 y376 z376
            obtain ⟨rfl, Nq376, Kq376, Fbj, Fsj, Ffj, Vj⟩ := hQ376
            have f377 := (f368.keep Kq376)
            have Z376 : n0 ≤ T376.heap.size := Nat.le_trans Z367 Kq376.1
            have K376 : Keep h0 T376.heap [] := K367.trans Kq376 (allS (P := fun x => x ∈ ([] : List Addr) ∨ h0.size ≤ x) (Or.inr sz_fb) (allS (P := fun x => x ∈ ([] : List Addr) ∨ h0.size ≤ x) (Or.inr sz_bb) all0))
            have Nf376 := Fr.app Nf367 Nq376
            obtain ⟨cq378, kq378, q378a, q378b, q378c⟩ := isOf hZ rfl f377
            obtain ⟨_, _, ⟨T378, L378, k378, n378⟩, -, X378, ⟨Lc378, hQ378, l378, y378, z378⟩, st378⟩ := X376.virtualBack hx (y := (⟨"com/example/flex_actor/flexactor/core/FrameBuffer", "abandon", "()V"⟩ : MethodName)) (z := (⟨"com/example/flex_actor/flexactor/core/FrameBuffer", "abandon", "()V"⟩ : MethodName)) hown (mvT hZ (hw _ (List.mem_of_getElem? (i := 29) rfl))) (mvT hZ (hw _ (List.mem_of_getElem? (i := 30) rfl))) (notFace_of_selects (args := #[]) (mvT hZ (hw _ (List.mem_of_getElem? (i := 32) rfl)))) (mvT hZ (hw _ (List.mem_of_getElem? (i := 32) rfl))) (mvT hZ (hw _ (List.mem_of_getElem? (i := 31) rfl))) (by decide) (backOf (W := 0) (rmA1 l Z a0 hw [] fb bb k1 (((own_put [(.int (0 : Int32)), (.int (0 : Int32)), (.int (0 : Int32)), (.int (1 : Int32)), (.int (p1.toInt8.toInt32)), (.int (0 : Int32)), (.int (0 : Int32)), (.int (0 : Int32)), (.int (0 : Int32)), (.int (0 : Int32)), (.int (0 : Int32)), (.int (0 : Int32)), (.int (0 : Int32)), (.int (0 : Int32)), (.int (0 : Int32)), (.int (0 : Int32))] 5 (0 : Int32)).set (5 + 4) (.int ((p2.toInt8.toInt32).toInt8.toInt32))).set (5 + 4 + 1) (.int (p3.toInt8.toInt32))) (Int32.ofNat (5 + 4 + 1 + 1)) (Int32.ofNat 5) T376.heap n0 Z376 f377 Fbj Fsj Ffj Vj  (by rw [List.length_set, List.length_set, own_putl]; rfl) ne_fb g_fb g_bb (by decide)) hZ (hw _ (List.mem_of_getElem? (i := 33) rfl)) (hw _ (List.mem_of_getElem? (i := 2) rfl)) (by decide) (by decide)) q378a q378c (g := (mkF m 138 #[.val (.int p1), .val (.int p2), .val (.int p3), .val (.int p4), .val (.int (3 : Int32)), .val (.int op), .val (.int bd), .val (.ref fb), .val (.int (5 : Int32)), .unset, .unset] [(.ref fb)])) rfl (by rw [hml]; rfl) (Steps.refl _) (argsL := []) (rest := []) (lenOf pd_4 rfl) rfl (by show 2 * 0 + _ ≤ _; exact Nat.le_of_eq rfl) (hb hby at_138) (fun _ _ => ⟨rfl, rfl, (by decide : 2 + 0 ≤ _), (by decide : 8195 + 0 ≤ _)⟩)
            dsimp only [Pt.U, Pt.locs, Pt.cells, Pt.slots] at X378 l378 y378 z378 st378 hQ378
            subst l378 y378 z378
            obtain ⟨rfl, Nq378, Kq378, Fbz, Fsz, Ffz, Vz⟩ := hQ378
            have f379 := (f377.keep Kq378)
            have Z378 : n0 ≤ T378.heap.size := Nat.le_trans Z376 Kq378.1
            have K378 : Keep h0 T378.heap [] := K376.trans Kq378 (allS (P := fun x => x ∈ ([] : List Addr) ∨ h0.size ≤ x) (Or.inr sz_fb) (allS (P := fun x => x ∈ ([] : List Addr) ∨ h0.size ≤ x) (Or.inr sz_bb) all0))
            have Nf378 := Fr.app Nf376 Nq378
            have pre380 : ∀ t, Steps p.tables e below (T378.setTop (mkF m 141 #[.val (.int p1), .val (.int p2), .val (.int p3), .val (.int p4), .val (.int (3 : Int32)), .val (.int op), .val (.int bd), .val (.ref fb), .val (.int (5 : Int32)), .unset, .unset] [])) t → Steps p.tables e below (s₁.setTop (entryFrame m #[(.int p1), (.int p2), (.int p3), (.int p4)] maxLocals)) t := by
              intro t kt
              refine pre375 t ?_
              show Steps p.tables e below (T367.setTop (mkF m 127 #[.val (.int p1), .val (.int p2), .val (.int p3), .val (.int p4), .val (.int (3 : Int32)), .val (.int op), .val (.int bd), .val (.ref fb), .val (.int (5 : Int32)), .unset, .unset] [(.int (2 : Int32)), (.int bd)])) _
              refine XS.icmpNo X367.here hx rfl (hb hby at_127) rfl (teq hc127).2 ?_
              show Steps p.tables e below (T367.setTop (mkF m 130 #[.val (.int p1), .val (.int p2), .val (.int p3), .val (.int p4), .val (.int (3 : Int32)), .val (.int op), .val (.int bd), .val (.ref fb), .val (.int (5 : Int32)), .unset, .unset] [])) _
              refine XS.aload X367.here hx rfl (hb hby at_130) rfl rfl ?_
              show Steps p.tables e below (T367.setTop (mkF m 132 #[.val (.int p1), .val (.int p2), .val (.int p3), .val (.int p4), .val (.int (3 : Int32)), .val (.int op), .val (.int bd), .val (.ref fb), .val (.int (5 : Int32)), .unset, .unset] [(.ref fb)])) _
              refine XS.iloadN X367.here hx rfl (hb hby at_132) rfl ?_
              show Steps p.tables e below (T367.setTop (mkF m 133 #[.val (.int p1), .val (.int p2), .val (.int p3), .val (.int p4), .val (.int (3 : Int32)), .val (.int op), .val (.int bd), .val (.ref fb), .val (.int (5 : Int32)), .unset, .unset] [(.int p3), (.ref fb)])) _
              refine st376.trans ?_
              show Steps p.tables e below (T376.setTop (mkF m 136 #[.val (.int p1), .val (.int p2), .val (.int p3), .val (.int p4), .val (.int (3 : Int32)), .val (.int op), .val (.int bd), .val (.ref fb), .val (.int (5 : Int32)), .unset, .unset] [])) _
              refine XS.aload X376.here hx rfl (hb hby at_136) rfl rfl ?_
              show Steps p.tables e below (T376.setTop (mkF m 138 #[.val (.int p1), .val (.int p2), .val (.int p3), .val (.int p4), .val (.int (3 : Int32)), .val (.int op), .val (.int bd), .val (.ref fb), .val (.int (5 : Int32)), .unset, .unset] [(.ref fb)])) _
              refine st378.trans ?_
              exact kt
            refine ⟨(((own_put [(.int (0 : Int32)), (.int (0 : Int32)), (.int (0 : Int32)), (.int (1 : Int32)), (.int (p1.toInt8.toInt32)), (.int (0 : Int32)), (.int (0 : Int32)), (.int (0 : Int32)), (.int (0 : Int32)), (.int (0 : Int32)), (.int (0 : Int32)), (.int (0 : Int32)), (.int (0 : Int32)), (.int (0 : Int32)), (.int (0 : Int32)), (.int (0 : Int32))] 5 (0 : Int32)).set (5 + 4) (.int ((p2.toInt8.toInt32).toInt8.toInt32))).set (5 + 4 + 1) (.int (p3.toInt8.toInt32))), T378, T378.heap, _, X378, rfl, Nf378, K378, Z378, ?_, f379, Fbz, Fsz, Ffz, Vz, pre380⟩
            exact ⟨by rw [own_tks _ _ _ _ (by decide), own_tks _ _ _ _ (by decide), own_tkp _ _ _ _ (by decide)]; rfl, by rw [List.length_set, List.length_set, own_putl]; rfl⟩
          · obtain ⟨cq381, kq381, q381a, q381b, q381c⟩ := isOf hZ rfl f368
            obtain ⟨_, _, ⟨T381, L381, k381, n381⟩, -, X381, ⟨Lc381, hQ381, l381, y381, z381⟩, st381⟩ := X367.virtualBack hx (y := (⟨"com/example/flex_actor/flexactor/core/FrameBuffer", "abandon", "()V"⟩ : MethodName)) (z := (⟨"com/example/flex_actor/flexactor/core/FrameBuffer", "abandon", "()V"⟩ : MethodName)) hown (mvT hZ (hw _ (List.mem_of_getElem? (i := 29) rfl))) (mvT hZ (hw _ (List.mem_of_getElem? (i := 30) rfl))) (notFace_of_selects (args := #[]) (mvT hZ (hw _ (List.mem_of_getElem? (i := 32) rfl)))) (mvT hZ (hw _ (List.mem_of_getElem? (i := 32) rfl))) (mvT hZ (hw _ (List.mem_of_getElem? (i := 31) rfl))) (by decide) (backOf (W := 0) (rmA1 l Z a0 hw [] fb bb k1 ((own_put [(.int (0 : Int32)), (.int (0 : Int32)), (.int (0 : Int32)), (.int (1 : Int32)), (.int (p1.toInt8.toInt32)), (.int (0 : Int32)), (.int (0 : Int32)), (.int (0 : Int32)), (.int (0 : Int32)), (.int (0 : Int32)), (.int (0 : Int32)), (.int (0 : Int32)), (.int (0 : Int32)), (.int (0 : Int32)), (.int (0 : Int32)), (.int (0 : Int32))] 5 (0 : Int32)).set (5 + 4) (.int ((p2.toInt8.toInt32).toInt8.toInt32))) (Int32.ofNat (5 + 4 + 1)) (Int32.ofNat 5) T367.heap n0 Z367 f368 Fbh Fsh Ffh Vh  (by rw [List.length_set, own_putl]; rfl) ne_fb g_fb g_bb (by decide)) hZ (hw _ (List.mem_of_getElem? (i := 33) rfl)) (hw _ (List.mem_of_getElem? (i := 2) rfl)) (by decide) (by decide)) q381a q381c (g := (mkF m 138 #[.val (.int p1), .val (.int p2), .val (.int p3), .val (.int p4), .val (.int (3 : Int32)), .val (.int op), .val (.int bd), .val (.ref fb), .val (.int (5 : Int32)), .unset, .unset] [(.ref fb)])) rfl (by rw [hml]; rfl) (Steps.refl _) (argsL := []) (rest := []) (lenOf pd_4 rfl) rfl (by show 2 * 0 + _ ≤ _; exact Nat.le_of_eq rfl) (hb hby at_138) (fun _ _ => ⟨rfl, rfl, (by decide : 2 + 0 ≤ _), (by decide : 8195 + 0 ≤ _)⟩)
            dsimp only [Pt.U, Pt.locs, Pt.cells, Pt.slots] at X381 l381 y381 z381 st381 hQ381
            subst l381 y381 z381
            obtain ⟨rfl, Nq381, Kq381, Fbz, Fsz, Ffz, Vz⟩ := hQ381
            have f382 := (f368.keep Kq381)
            have Z381 : n0 ≤ T381.heap.size := Nat.le_trans Z367 Kq381.1
            have K381 : Keep h0 T381.heap [] := K367.trans Kq381 (allS (P := fun x => x ∈ ([] : List Addr) ∨ h0.size ≤ x) (Or.inr sz_fb) (allS (P := fun x => x ∈ ([] : List Addr) ∨ h0.size ≤ x) (Or.inr sz_bb) all0))
            have Nf381 := Fr.app Nf367 Nq381
            have pre383 : ∀ t, Steps p.tables e below (T381.setTop (mkF m 141 #[.val (.int p1), .val (.int p2), .val (.int p3), .val (.int p4), .val (.int (3 : Int32)), .val (.int op), .val (.int bd), .val (.ref fb), .val (.int (5 : Int32)), .unset, .unset] [])) t → Steps p.tables e below (s₁.setTop (entryFrame m #[(.int p1), (.int p2), (.int p3), (.int p4)] maxLocals)) t := by
              intro t kt
              refine pre375 t ?_
              show Steps p.tables e below (T367.setTop (mkF m 127 #[.val (.int p1), .val (.int p2), .val (.int p3), .val (.int p4), .val (.int (3 : Int32)), .val (.int op), .val (.int bd), .val (.ref fb), .val (.int (5 : Int32)), .unset, .unset] [(.int (2 : Int32)), (.int bd)])) _
              refine XS.icmpYes X367.here hx rfl (pc0 := 127) (pc' := 136) rfl (hb hby at_127) rfl (feq hc127).2 (by decide) (by decide) ?_
              show Steps p.tables e below (T367.setTop (mkF m 136 #[.val (.int p1), .val (.int p2), .val (.int p3), .val (.int p4), .val (.int (3 : Int32)), .val (.int op), .val (.int bd), .val (.ref fb), .val (.int (5 : Int32)), .unset, .unset] [])) _
              refine XS.aload X367.here hx rfl (hb hby at_136) rfl rfl ?_
              show Steps p.tables e below (T367.setTop (mkF m 138 #[.val (.int p1), .val (.int p2), .val (.int p3), .val (.int p4), .val (.int (3 : Int32)), .val (.int op), .val (.int bd), .val (.ref fb), .val (.int (5 : Int32)), .unset, .unset] [(.ref fb)])) _
              refine st381.trans ?_
              exact kt
            refine ⟨((own_put [(.int (0 : Int32)), (.int (0 : Int32)), (.int (0 : Int32)), (.int (1 : Int32)), (.int (p1.toInt8.toInt32)), (.int (0 : Int32)), (.int (0 : Int32)), (.int (0 : Int32)), (.int (0 : Int32)), (.int (0 : Int32)), (.int (0 : Int32)), (.int (0 : Int32)), (.int (0 : Int32)), (.int (0 : Int32)), (.int (0 : Int32)), (.int (0 : Int32))] 5 (0 : Int32)).set (5 + 4) (.int ((p2.toInt8.toInt32).toInt8.toInt32))), T381, T381.heap, _, X381, rfl, Nf381, K381, Z381, ?_, f382, Fbz, Fsz, Ffz, Vz, pre383⟩
            exact ⟨by rw [own_tks _ _ _ _ (by decide), own_tkp _ _ _ _ (by decide)]; rfl, by rw [List.length_set, own_putl]; rfl⟩
    obtain ⟨cq384, kq384, q384a, q384b, q384c⟩ := isOf hZ em364 fm364_0
    obtain ⟨_, _, ⟨T384, L384, k384, n384⟩, -, X384, ⟨Lc384, hQ384, l384, y384, z384⟩, st384⟩ := Xm364.virtualBack hx (y := (⟨"com/example/flex_actor/flexactor/core/FrameBuffer", "size", "()I"⟩ : MethodName)) (z := (⟨"com/example/flex_actor/flexactor/core/FrameBuffer", "size", "()I"⟩ : MethodName)) hown (mvT hZ (hw _ (List.mem_of_getElem? (i := 34) rfl))) (mvT hZ (hw _ (List.mem_of_getElem? (i := 35) rfl))) (notFace_of_selects (args := #[]) (mvT hZ (hw _ (List.mem_of_getElem? (i := 37) rfl)))) (mvT hZ (hw _ (List.mem_of_getElem? (i := 37) rfl))) (mvT hZ (hw _ (List.mem_of_getElem? (i := 36) rfl))) (by decide) (backOf (W := 0) (rmS l Z a0 hw [] fb (Int32.ofNat 5) hm364 n0 Zm364 fm364_2) hZ (hw _ (List.mem_of_getElem? (i := 38) rfl)) (hw _ (List.mem_of_getElem? (i := 2) rfl)) (by decide) (by decide)) q384a q384c (g := (mkF m 143 #[.val (.int p1), .val (.int p2), .val (.int p3), .val (.int p4), .val (.int (3 : Int32)), .val (.int op), .val (.int bd), .val (.ref fb), .val (.int (5 : Int32)), .unset, .unset] [(.ref fb)])) rfl (by rw [hml]; rfl) (Steps.refl _) (argsL := []) (rest := []) (lenOf pd_6 rfl) rfl (by show 2 * 0 + _ ≤ _; exact Nat.le_of_eq rfl) (hb hby at_143) (fun _ _ => ⟨rfl, em364, (by decide : 2 + 0 ≤ _), (by decide : 8195 + 0 ≤ _)⟩)
    dsimp only [Pt.U, Pt.locs, Pt.cells, Pt.slots] at X384 l384 y384 z384 st384 hQ384
    subst l384 y384 z384
    obtain ⟨rfl, Nq384, eq384⟩ := hQ384
    have Nf384 := Fr.app Nm364 Nq384
    obtain ⟨cq385, kq385, q385a, q385b, q385c⟩ := isOf hZ eq384 fm364_0
    obtain ⟨_, _, ⟨T385, L385, k385, n385⟩, -, X385, ⟨Lc385, hQ385, l385, y385, z385⟩, st385⟩ := X384.virtualBack hx (y := (⟨"com/example/flex_actor/flexactor/core/FrameBuffer", "writeByte", "(I)V"⟩ : MethodName)) (z := (⟨"com/example/flex_actor/flexactor/core/FrameBuffer", "writeByte", "(I)V"⟩ : MethodName)) hown (mvT hZ (hw _ (List.mem_of_getElem? (i := 39) rfl))) (mvT hZ (hw _ (List.mem_of_getElem? (i := 40) rfl))) (notFace_of_selects (args := #[]) (mvT hZ (hw _ (List.mem_of_getElem? (i := 42) rfl)))) (mvT hZ (hw _ (List.mem_of_getElem? (i := 42) rfl))) (mvT hZ (hw _ (List.mem_of_getElem? (i := 41) rfl))) (by decide) (backOf (W := 0) (rmB l Z a0 hw [] fb bb k1 ws 5 (-1 : Int32) p3 hm364 n0 Zm364 fm364_0 fm364_1 fm364_2 fm364_3 fm364_4  hsp364.2 ne_fb g_fb g_bb (by decide)) hZ (hw _ (List.mem_of_getElem? (i := 43) rfl)) (hw _ (List.mem_of_getElem? (i := 2) rfl)) (by decide) (by decide)) q385a q385c (g := (mkF m 151 #[.val (.int p1), .val (.int p2), .val (.int p3), .val (.int p4), .val (.int (3 : Int32)), .val (.int op), .val (.int bd), .val (.ref fb), .val (.int (5 : Int32)), .val (.int (Int32.ofNat 5)), .unset] [(.int p3), (.ref fb)])) rfl (by rw [hml]; rfl) (Steps.refl _) (argsL := [(.int p3)]) (rest := []) (lenOf pd_0 rfl) rfl (by show 2 * 0 + _ ≤ _; exact Nat.le_of_eq rfl) (hb hby at_151) (fun _ _ => ⟨rfl, eq384, (by decide : 2 + 0 ≤ _), (by decide : 8195 + 0 ≤ _)⟩)
    dsimp only [Pt.U, Pt.locs, Pt.cells, Pt.slots] at X385 l385 y385 z385 st385 hQ385
    subst l385 y385 z385
    obtain ⟨rfl, Nq385, Kq385, Fbc, Fsc, Ffc, Vc⟩ := hQ385
    have f386 := (fm364_0.keep Kq385)
    have Z385 : n0 ≤ T385.heap.size := Nat.le_trans Zm364 Kq385.1
    have K385 : Keep h0 T385.heap [] := Km364.trans Kq385 (allS (P := fun x => x ∈ ([] : List Addr) ∨ h0.size ≤ x) (Or.inr sz_fb) (allS (P := fun x => x ∈ ([] : List Addr) ∨ h0.size ≤ x) (Or.inr sz_bb) all0))
    have Nf385 := Fr.app Nf384 Nq385
    obtain ⟨cq387, kq387, q387a, q387b, q387c⟩ := isOf hZ rfl f386
    obtain ⟨_, _, ⟨T387, L387, k387, n387⟩, -, X387, ⟨Lc387, hQ387, l387, y387, z387⟩, st387⟩ := X385.virtualBack hx (y := (⟨"com/example/flex_actor/flexactor/core/FrameBuffer", "abandon", "()V"⟩ : MethodName)) (z := (⟨"com/example/flex_actor/flexactor/core/FrameBuffer", "abandon", "()V"⟩ : MethodName)) hown (mvT hZ (hw _ (List.mem_of_getElem? (i := 29) rfl))) (mvT hZ (hw _ (List.mem_of_getElem? (i := 30) rfl))) (notFace_of_selects (args := #[]) (mvT hZ (hw _ (List.mem_of_getElem? (i := 32) rfl)))) (mvT hZ (hw _ (List.mem_of_getElem? (i := 32) rfl))) (mvT hZ (hw _ (List.mem_of_getElem? (i := 31) rfl))) (by decide) (backOf (W := 0) (rmA0 l Z a0 hw [] fb T385.heap n0 Z385 Ffc) hZ (hw _ (List.mem_of_getElem? (i := 33) rfl)) (hw _ (List.mem_of_getElem? (i := 2) rfl)) (by decide) (by decide)) q387a q387c (g := (mkF m 156 #[.val (.int p1), .val (.int p2), .val (.int p3), .val (.int p4), .val (.int (3 : Int32)), .val (.int op), .val (.int bd), .val (.ref fb), .val (.int (5 : Int32)), .val (.int (Int32.ofNat 5)), .unset] [(.ref fb)])) rfl (by rw [hml]; rfl) (Steps.refl _) (argsL := []) (rest := []) (lenOf pd_4 rfl) rfl (by show 2 * 0 + _ ≤ _; exact Nat.le_of_eq rfl) (hb hby at_156) (fun _ _ => ⟨rfl, rfl, (by decide : 2 + 0 ≤ _), (by decide : 8195 + 0 ≤ _)⟩)
    dsimp only [Pt.U, Pt.locs, Pt.cells, Pt.slots] at X387 l387 y387 z387 st387 hQ387
    subst l387 y387 z387
    obtain ⟨rfl, Nq387, eq387⟩ := hQ387
    have Nf387 := Fr.app Nf385 Nq387
    obtain ⟨cq388, kq388, q388a, q388b, q388c⟩ := isOf hZ eq387 f386
    obtain ⟨_, _, ⟨T388, L388, k388, n388⟩, -, X388, ⟨Lc388, hQ388, l388, y388, z388⟩, st388⟩ := X387.virtualBack hx (y := (⟨"com/example/flex_actor/flexactor/core/FrameBuffer", "toByteArray", "()[B"⟩ : MethodName)) (z := (⟨"com/example/flex_actor/flexactor/core/FrameBuffer", "toByteArray", "()[B"⟩ : MethodName)) hown (mvT hZ (hw _ (List.mem_of_getElem? (i := 44) rfl))) (mvT hZ (hw _ (List.mem_of_getElem? (i := 45) rfl))) (notFace_of_selects (args := #[]) (mvT hZ (hw _ (List.mem_of_getElem? (i := 47) rfl)))) (mvT hZ (hw _ (List.mem_of_getElem? (i := 47) rfl))) (mvT hZ (hw _ (List.mem_of_getElem? (i := 46) rfl))) (by decide) (backOf (W := 0) (rmT l Z a0 hw [] fb bb k1 (ws.set 5 (.int (p3.toInt8.toInt32))) (5 + 1) T385.heap n0 Z385 Fbc Fsc Vc (by decide)) hZ (hw _ (List.mem_of_getElem? (i := 48) rfl)) (hw _ (List.mem_of_getElem? (i := 2) rfl)) (by decide) (by decide)) q388a q388c (g := (mkF m 161 #[.val (.int p1), .val (.int p2), .val (.int p3), .val (.int p4), .val (.int (3 : Int32)), .val (.int op), .val (.int bd), .val (.ref fb), .val (.int (5 : Int32)), .val (.int (Int32.ofNat 5)), .unset] [(.ref fb)])) rfl (by rw [hml]; rfl) (Steps.refl _) (argsL := []) (rest := []) (lenOf pd_7 rfl) rfl (by show 2 * 0 + _ ≤ _; exact Nat.le_of_eq rfl) (hb hby at_161) (fun _ _ => ⟨rfl, eq387, (by decide : 2 + 1 ≤ _), (by decide : 8195 + 16 ≤ _)⟩)
    dsimp only [Pt.U, Pt.locs, Pt.cells, Pt.slots] at X388 l388 y388 z388 st388 hQ388
    subst l388 y388 z388
    obtain ⟨r, kr, rfl, Nq388, Kq388, szr, Vr0⟩ := hQ388
    have f389 := (f386.keep Kq388)
    have f390 := (Fbc.keep Kq388 nin0)
    have f391 := (Fsc.keep Kq388 nin0)
    have f392 := (Ffc.keep Kq388 nin0)
    have f393 := (Vc.keep Kq388 nin0)
    have Z388 : n0 ≤ T388.heap.size := Nat.le_trans Z385 Kq388.1
    have K388 : Keep h0 T388.heap [] := K385.trans Kq388 all0
    have Nf388 := Fr.app Nf387 Nq388
    rw [own_tk ws [(.int (0 : Int32)), (.int (0 : Int32)), (.int (0 : Int32)), (.int (1 : Int32)), (.int (p1.toInt8.toInt32))] _ _ 5 hsp364.2 hsp364.1 (by decide)] at Vr0
    have Vr : Arv Z T388.heap r kr .byte (6 : Int32) [(.int (0 : Int32)), (.int (0 : Int32)), (.int (0 : Int32)), (.int (1 : Int32)), (.int (p1.toInt8.toInt32)), (.int (p3.toInt8.toInt32))] (.int (0 : Int32)) := Vr0
    have pre394 : ∀ t, Steps p.tables e below (T388.setTop (mkF m 164 #[.val (.int p1), .val (.int p2), .val (.int p3), .val (.int p4), .val (.int (3 : Int32)), .val (.int op), .val (.int bd), .val (.ref fb), .val (.int (5 : Int32)), .val (.int (Int32.ofNat 5)), .unset] [(.ref r)])) t → Steps p.tables e below (s₁.setTop (entryFrame m #[(.int p1), (.int p2), (.int p3), (.int p4)] maxLocals)) t := by
      intro t kt
      refine prem364 t ?_
      show Steps p.tables e below (Tm364.setTop (mkF m 141 #[.val (.int p1), .val (.int p2), .val (.int p3), .val (.int p4), .val (.int (3 : Int32)), .val (.int op), .val (.int bd), .val (.ref fb), .val (.int (5 : Int32)), .unset, .unset] [])) _
      refine XS.aload Xm364.here hx rfl (hb hby at_141) rfl rfl ?_
      show Steps p.tables e below (Tm364.setTop (mkF m 143 #[.val (.int p1), .val (.int p2), .val (.int p3), .val (.int p4), .val (.int (3 : Int32)), .val (.int op), .val (.int bd), .val (.ref fb), .val (.int (5 : Int32)), .unset, .unset] [(.ref fb)])) _
      refine st384.trans ?_
      show Steps p.tables e below (T384.setTop (mkF m 146 #[.val (.int p1), .val (.int p2), .val (.int p3), .val (.int p4), .val (.int (3 : Int32)), .val (.int op), .val (.int bd), .val (.ref fb), .val (.int (5 : Int32)), .unset, .unset] [(.int (Int32.ofNat 5))])) _
      refine XS.istore X384.here hx rfl (hb hby at_146) rfl (l' := #[.val (.int p1), .val (.int p2), .val (.int p3), .val (.int p4), .val (.int (3 : Int32)), .val (.int op), .val (.int bd), .val (.ref fb), .val (.int (5 : Int32)), .val (.int (Int32.ofNat 5)), .unset]) rfl ?_
      show Steps p.tables e below (T384.setTop (mkF m 148 #[.val (.int p1), .val (.int p2), .val (.int p3), .val (.int p4), .val (.int (3 : Int32)), .val (.int op), .val (.int bd), .val (.ref fb), .val (.int (5 : Int32)), .val (.int (Int32.ofNat 5)), .unset] [])) _
      refine XS.aload X384.here hx rfl (hb hby at_148) rfl rfl ?_
      show Steps p.tables e below (T384.setTop (mkF m 150 #[.val (.int p1), .val (.int p2), .val (.int p3), .val (.int p4), .val (.int (3 : Int32)), .val (.int op), .val (.int bd), .val (.ref fb), .val (.int (5 : Int32)), .val (.int (Int32.ofNat 5)), .unset] [(.ref fb)])) _
      refine XS.iloadN X384.here hx rfl (hb hby at_150) rfl ?_
      show Steps p.tables e below (T384.setTop (mkF m 151 #[.val (.int p1), .val (.int p2), .val (.int p3), .val (.int p4), .val (.int (3 : Int32)), .val (.int op), .val (.int bd), .val (.ref fb), .val (.int (5 : Int32)), .val (.int (Int32.ofNat 5)), .unset] [(.int p3), (.ref fb)])) _
      refine st385.trans ?_
      show Steps p.tables e below (T385.setTop (mkF m 154 #[.val (.int p1), .val (.int p2), .val (.int p3), .val (.int p4), .val (.int (3 : Int32)), .val (.int op), .val (.int bd), .val (.ref fb), .val (.int (5 : Int32)), .val (.int (Int32.ofNat 5)), .unset] [])) _
      refine XS.aload X385.here hx rfl (hb hby at_154) rfl rfl ?_
      show Steps p.tables e below (T385.setTop (mkF m 156 #[.val (.int p1), .val (.int p2), .val (.int p3), .val (.int p4), .val (.int (3 : Int32)), .val (.int op), .val (.int bd), .val (.ref fb), .val (.int (5 : Int32)), .val (.int (Int32.ofNat 5)), .unset] [(.ref fb)])) _
      refine st387.trans ?_
      show Steps p.tables e below (T387.setTop (mkF m 159 #[.val (.int p1), .val (.int p2), .val (.int p3), .val (.int p4), .val (.int (3 : Int32)), .val (.int op), .val (.int bd), .val (.ref fb), .val (.int (5 : Int32)), .val (.int (Int32.ofNat 5)), .unset] [])) _
      refine XS.aload X387.here hx rfl (hb hby at_159) rfl rfl ?_
      show Steps p.tables e below (T387.setTop (mkF m 161 #[.val (.int p1), .val (.int p2), .val (.int p3), .val (.int p4), .val (.int (3 : Int32)), .val (.int op), .val (.int bd), .val (.ref fb), .val (.int (5 : Int32)), .val (.int (Int32.ofNat 5)), .unset] [(.ref fb)])) _
      refine st388.trans ?_
      exact kt
    have pre395 : ∀ t, Steps p.tables e below (T388.setTop (mkF m 164 #[.val (.int p1), .val (.int p2), .val (.int p3), .val (.int p4), .val (.int (3 : Int32)), .val (.int op), .val (.int bd), .val (.ref fb), .val (.int (5 : Int32)), .val (.int (5 : Int32)), .unset] [(.ref r)])) t → Steps p.tables e below (s₁.setTop (entryFrame m #[(.int p1), (.int p2), (.int p3), (.int p4)] maxLocals)) t := by
      intro t kt
      have hsv : (Int32.ofNat 5) = (5 : Int32) := rfl
      refine pre394 t ?_
      rw [hsv]
      exact kt
    obtain ⟨_, _, ⟨T396, L396, k396, n396⟩, -, X396, ⟨Lc396, hQ396, l396, y396, z396⟩, st396⟩ := Jvm.LawKit.callS X388 hx (y := (⟨"com/example/flex_actor/flexactor/core/FrameBufferAbandonPinLaw", "prefixOk", "([BII)Z"⟩ : MethodName)) hown (mvT hZ (hw _ (List.mem_of_getElem? (i := 61) rfl))) (mvT hZ (hw _ (List.mem_of_getElem? (i := 62) rfl))) (mvT hZ (hw _ (List.mem_of_getElem? (i := 63) rfl))) (mvT hZ (hw _ (List.mem_of_getElem? (i := 64) rfl))) (by decide) (backOf (W := 0) (rmK3 l Z a0 hw [] r kr (p3.toInt8.toInt32) p1 T388.heap n0 Z388 Vr) hZ (hw _ (List.mem_of_getElem? (i := 64) rfl)) (hw _ (List.mem_of_getElem? (i := 63) rfl)) (by decide) (by decide)) (g := (mkF m 188 #[.val (.int p1), .val (.int p2), .val (.int p3), .val (.int p4), .val (.int (3 : Int32)), .val (.int op), .val (.int bd), .val (.ref fb), .val (.int (5 : Int32)), .val (.int (5 : Int32)), .val (.ref r)] [(.int p1), (.int (3 : Int32)), (.ref r)])) rfl (by rw [hml]; rfl) (argsL := [(.ref r), (.int (3 : Int32)), (.int p1)]) (rest := []) (lenOf pd_8 rfl) rfl (by show 2 * 0 + _ ≤ _; exact Nat.le_of_eq rfl) (hb hby at_188) (fun _ _ => ⟨rfl, rfl, (by decide : 3 + 0 ≤ _), (by decide : 8211 + 0 ≤ _)⟩)
    dsimp only [Pt.U, Pt.locs, Pt.cells, Pt.slots] at X396 l396 y396 z396 st396 hQ396
    subst l396 y396 z396
    obtain ⟨rfl, Nq396, eq396⟩ := hQ396
    have Nf396 := Fr.app Nf388 Nq396
    have pre397 : ∀ t, Steps p.tables e below (T396.setTop (mkF m 209 #[.val (.int p1), .val (.int p2), .val (.int p3), .val (.int p4), .val (.int (3 : Int32)), .val (.int op), .val (.int bd), .val (.ref fb), .val (.int (5 : Int32)), .val (.int (5 : Int32)), .val (.ref r)] [(.int (1 : Int32))])) t → Steps p.tables e below (s₁.setTop (entryFrame m #[(.int p1), (.int p2), (.int p3), (.int p4)] maxLocals)) t := by
      intro t kt
      refine pre395 t ?_
      show Steps p.tables e below (T388.setTop (mkF m 164 #[.val (.int p1), .val (.int p2), .val (.int p3), .val (.int p4), .val (.int (3 : Int32)), .val (.int op), .val (.int bd), .val (.ref fb), .val (.int (5 : Int32)), .val (.int (5 : Int32)), .unset] [(.ref r)])) _
      refine XS.astore X388.here hx rfl (hb hby at_164) rfl rfl (l' := #[.val (.int p1), .val (.int p2), .val (.int p3), .val (.int p4), .val (.int (3 : Int32)), .val (.int op), .val (.int bd), .val (.ref fb), .val (.int (5 : Int32)), .val (.int (5 : Int32)), .val (.ref r)]) rfl ?_
      show Steps p.tables e below (T388.setTop (mkF m 166 #[.val (.int p1), .val (.int p2), .val (.int p3), .val (.int p4), .val (.int (3 : Int32)), .val (.int op), .val (.int bd), .val (.ref fb), .val (.int (5 : Int32)), .val (.int (5 : Int32)), .val (.ref r)] [])) _
      refine XS.iload X388.here hx rfl (hb hby at_166) rfl ?_
      show Steps p.tables e below (T388.setTop (mkF m 168 #[.val (.int p1), .val (.int p2), .val (.int p3), .val (.int p4), .val (.int (3 : Int32)), .val (.int op), .val (.int bd), .val (.ref fb), .val (.int (5 : Int32)), .val (.int (5 : Int32)), .val (.ref r)] [(.int (5 : Int32))])) _
      refine XS.iload X388.here hx rfl (hb hby at_168) rfl ?_
      show Steps p.tables e below (T388.setTop (mkF m 170 #[.val (.int p1), .val (.int p2), .val (.int p3), .val (.int p4), .val (.int (3 : Int32)), .val (.int op), .val (.int bd), .val (.ref fb), .val (.int (5 : Int32)), .val (.int (5 : Int32)), .val (.ref r)] [(.int (5 : Int32)), (.int (5 : Int32))])) _
      refine XS.icmpNo X388.here hx rfl (hb hby at_170) rfl (teq rfl).2 ?_
      show Steps p.tables e below (T388.setTop (mkF m 173 #[.val (.int p1), .val (.int p2), .val (.int p3), .val (.int p4), .val (.int (3 : Int32)), .val (.int op), .val (.int bd), .val (.ref fb), .val (.int (5 : Int32)), .val (.int (5 : Int32)), .val (.ref r)] [])) _
      refine XS.aload X388.here hx rfl (hb hby at_173) rfl rfl ?_
      show Steps p.tables e below (T388.setTop (mkF m 175 #[.val (.int p1), .val (.int p2), .val (.int p3), .val (.int p4), .val (.int (3 : Int32)), .val (.int op), .val (.int bd), .val (.ref fb), .val (.int (5 : Int32)), .val (.int (5 : Int32)), .val (.ref r)] [(.ref r)])) _
      refine own_len X388 hx hZ rfl Vr (g := (mkF m 175 #[.val (.int p1), .val (.int p2), .val (.int p3), .val (.int p4), .val (.int (3 : Int32)), .val (.int op), .val (.int bd), .val (.ref fb), .val (.int (5 : Int32)), .val (.int (5 : Int32)), .val (.ref r)] [(.ref r)])) rfl rfl (hb hby at_175) _ ?_
      show Steps p.tables e below (T388.setTop (mkF m 176 #[.val (.int p1), .val (.int p2), .val (.int p3), .val (.int p4), .val (.int (3 : Int32)), .val (.int op), .val (.int bd), .val (.ref fb), .val (.int (5 : Int32)), .val (.int (5 : Int32)), .val (.ref r)] [(.int (6 : Int32))])) _
      refine XS.iload X388.here hx rfl (hb hby at_176) rfl ?_
      show Steps p.tables e below (T388.setTop (mkF m 178 #[.val (.int p1), .val (.int p2), .val (.int p3), .val (.int p4), .val (.int (3 : Int32)), .val (.int op), .val (.int bd), .val (.ref fb), .val (.int (5 : Int32)), .val (.int (5 : Int32)), .val (.ref r)] [(.int (5 : Int32)), (.int (6 : Int32))])) _
      refine XS.iconst X388.here hx rfl (hb hby at_178) ?_
      show Steps p.tables e below (T388.setTop (mkF m 179 #[.val (.int p1), .val (.int p2), .val (.int p3), .val (.int p4), .val (.int (3 : Int32)), .val (.int op), .val (.int bd), .val (.ref fb), .val (.int (5 : Int32)), .val (.int (5 : Int32)), .val (.ref r)] [(.int (1 : Int32)), (.int (5 : Int32)), (.int (6 : Int32))])) _
      refine XS.iadd X388.here hx rfl (hb hby at_179) rfl ?_
      show Steps p.tables e below (T388.setTop (mkF m 180 #[.val (.int p1), .val (.int p2), .val (.int p3), .val (.int p4), .val (.int (3 : Int32)), .val (.int op), .val (.int bd), .val (.ref fb), .val (.int (5 : Int32)), .val (.int (5 : Int32)), .val (.ref r)] [(.int (6 : Int32)), (.int (6 : Int32))])) _
      refine XS.icmpNo X388.here hx rfl (hb hby at_180) rfl (teq rfl).2 ?_
      show Steps p.tables e below (T388.setTop (mkF m 183 #[.val (.int p1), .val (.int p2), .val (.int p3), .val (.int p4), .val (.int (3 : Int32)), .val (.int op), .val (.int bd), .val (.ref fb), .val (.int (5 : Int32)), .val (.int (5 : Int32)), .val (.ref r)] [])) _
      refine XS.aload X388.here hx rfl (hb hby at_183) rfl rfl ?_
      show Steps p.tables e below (T388.setTop (mkF m 185 #[.val (.int p1), .val (.int p2), .val (.int p3), .val (.int p4), .val (.int (3 : Int32)), .val (.int op), .val (.int bd), .val (.ref fb), .val (.int (5 : Int32)), .val (.int (5 : Int32)), .val (.ref r)] [(.ref r)])) _
      refine XS.iload X388.here hx rfl (hb hby at_185) rfl ?_
      show Steps p.tables e below (T388.setTop (mkF m 187 #[.val (.int p1), .val (.int p2), .val (.int p3), .val (.int p4), .val (.int (3 : Int32)), .val (.int op), .val (.int bd), .val (.ref fb), .val (.int (5 : Int32)), .val (.int (5 : Int32)), .val (.ref r)] [(.int (3 : Int32)), (.ref r)])) _
      refine XS.iloadN X388.here hx rfl (hb hby at_187) rfl ?_
      show Steps p.tables e below (T388.setTop (mkF m 188 #[.val (.int p1), .val (.int p2), .val (.int p3), .val (.int p4), .val (.int (3 : Int32)), .val (.int op), .val (.int bd), .val (.ref fb), .val (.int (5 : Int32)), .val (.int (5 : Int32)), .val (.ref r)] [(.int p1), (.int (3 : Int32)), (.ref r)])) _
      refine st396 _ ?_
      show Steps p.tables e below (T396.setTop (mkF m 191 #[.val (.int p1), .val (.int p2), .val (.int p3), .val (.int p4), .val (.int (3 : Int32)), .val (.int op), .val (.int bd), .val (.ref fb), .val (.int (5 : Int32)), .val (.int (5 : Int32)), .val (.ref r)] [(.int (1 : Int32))])) _
      refine XS.ifNo X396.here hx rfl (hb hby at_191) rfl ((if0 _ _).trans (feq (by decide)).1) ?_
      show Steps p.tables e below (T396.setTop (mkF m 194 #[.val (.int p1), .val (.int p2), .val (.int p3), .val (.int p4), .val (.int (3 : Int32)), .val (.int op), .val (.int bd), .val (.ref fb), .val (.int (5 : Int32)), .val (.int (5 : Int32)), .val (.ref r)] [])) _
      refine XS.aload X396.here hx rfl (hb hby at_194) rfl rfl ?_
      show Steps p.tables e below (T396.setTop (mkF m 196 #[.val (.int p1), .val (.int p2), .val (.int p3), .val (.int p4), .val (.int (3 : Int32)), .val (.int op), .val (.int bd), .val (.ref fb), .val (.int (5 : Int32)), .val (.int (5 : Int32)), .val (.ref r)] [(.ref r)])) _
      refine XS.iload X396.here hx rfl (hb hby at_196) rfl ?_
      show Steps p.tables e below (T396.setTop (mkF m 198 #[.val (.int p1), .val (.int p2), .val (.int p3), .val (.int p4), .val (.int (3 : Int32)), .val (.int op), .val (.int bd), .val (.ref fb), .val (.int (5 : Int32)), .val (.int (5 : Int32)), .val (.ref r)] [(.int (5 : Int32)), (.ref r)])) _
      refine own_bal X396 hx hZ eq396 Vr (j := (5 : Int32)) ⟨by decide, by decide⟩ (v := (.int (p3.toInt8.toInt32))) rfl (g := (mkF m 198 #[.val (.int p1), .val (.int p2), .val (.int p3), .val (.int p4), .val (.int (3 : Int32)), .val (.int op), .val (.int bd), .val (.ref fb), .val (.int (5 : Int32)), .val (.int (5 : Int32)), .val (.ref r)] [(.int (5 : Int32)), (.ref r)])) rfl rfl (hb hby at_198) _ ?_
      show Steps p.tables e below (T396.setTop (mkF m 199 #[.val (.int p1), .val (.int p2), .val (.int p3), .val (.int p4), .val (.int (3 : Int32)), .val (.int op), .val (.int bd), .val (.ref fb), .val (.int (5 : Int32)), .val (.int (5 : Int32)), .val (.ref r)] [(.int (p3.toInt8.toInt32))])) _
      refine XS.iloadN X396.here hx rfl (hb hby at_199) rfl ?_
      show Steps p.tables e below (T396.setTop (mkF m 200 #[.val (.int p1), .val (.int p2), .val (.int p3), .val (.int p4), .val (.int (3 : Int32)), .val (.int op), .val (.int bd), .val (.ref fb), .val (.int (5 : Int32)), .val (.int (5 : Int32)), .val (.ref r)] [(.int p3), (.int (p3.toInt8.toInt32))])) _
      refine XS.i2b X396.here hx rfl (hb hby at_200) rfl ?_
      show Steps p.tables e below (T396.setTop (mkF m 201 #[.val (.int p1), .val (.int p2), .val (.int p3), .val (.int p4), .val (.int (3 : Int32)), .val (.int op), .val (.int bd), .val (.ref fb), .val (.int (5 : Int32)), .val (.int (5 : Int32)), .val (.ref r)] [(.int (p3.toInt8.toInt32)), (.int (p3.toInt8.toInt32))])) _
      refine XS.icmpNo X396.here hx rfl (hb hby at_201) rfl (teq rfl).2 ?_
      show Steps p.tables e below (T396.setTop (mkF m 204 #[.val (.int p1), .val (.int p2), .val (.int p3), .val (.int p4), .val (.int (3 : Int32)), .val (.int op), .val (.int bd), .val (.ref fb), .val (.int (5 : Int32)), .val (.int (5 : Int32)), .val (.ref r)] [])) _
      refine XS.iconst X396.here hx rfl (hb hby at_204) ?_
      show Steps p.tables e below (T396.setTop (mkF m 205 #[.val (.int p1), .val (.int p2), .val (.int p3), .val (.int p4), .val (.int (3 : Int32)), .val (.int op), .val (.int bd), .val (.ref fb), .val (.int (5 : Int32)), .val (.int (5 : Int32)), .val (.ref r)] [(.int (1 : Int32))])) _
      refine XS.goto X396.here hx rfl (pc0 := 205) (pc' := 209) rfl (hb hby at_205) (by decide) (by decide) ?_
      exact kt
    obtain ⟨fsx, hr, hrun, hended, hW, hsame⟩ := X396.leave (v := some (.int (nar .boolean (1 : Int32)))) (fun h => by rw [Bd.returns] at h; cases h)
    refine ⟨_, _, pre397 _ ?_, hrun, hended, _, _, rfl, ?_, ⟨_, rfl⟩, hW, hsame.mono (by decide) (by decide)⟩
    · exact retN X396 hx (t := .boolean) Bd.returns (by simp) (hb hby at_209) hr
    · show Q0 Z p1 p2 p3 p4 h0 n0 _ T396.heap _
      rw [eq396]
      exact ⟨rfl, Nf396⟩
set_option maxRecDepth 65536 in
set_option maxHeartbeats 40000000 in
theorem comes_1 {Post : Tables → Env → Array Value → State → Outcome → State → Prop} (hpost : ∀ tb e args s v u, (limb_1_1.after args s (.returned v) u = true ∧ limb_1_2.after args s (.returned v) u = true ∧ True) → FrameEnd s (.returned v) u (Jvm.fieldLocs frame_1_writes args s ++ Jvm.arrayLocs frame_1_arrays args s ++ Jvm.staticLocs frame_1_statics s) 16 16512 → Post tb e args s (.returned v) u) :
    ArmFor flags0 classFile x code maxLocals ret World_1 tables_1 room_1 Calls_1 rest_1 Pre_1 Post := by
  intro l hfl _ _ p e ha hc hk s m args below hf hA hF happ hP
  obtain ⟨hcalls, hrest, hpre⟩ := hP
  obtain ⟨-, -, -, hnamed, -, -, -, hat⟩ := (Spec.applies_iff hf).mp happ
  obtain ⟨hg, hn⟩ := and_e (Cond.before_iff.mp (show (Jvm.Cond.and given_1 narrow_1).before args s = true from hpre))
  obtain ⟨gc, gr0⟩ := and_e hg
  obtain ⟨ga0, gr1⟩ := and_e gr0
  obtain ⟨ga1, gr2⟩ := and_e gr1
  obtain ⟨ga2, gr3⟩ := and_e gr2
  obtain ⟨w0, w1, w2, w3, rfl⟩ : ∃ w0 w1 w2 w3 : Value, args = #[w0, w1, w2, w3] := by
    have hs : args.size = 4 := by simpa [Cond.value, given_1] using gc
    obtain ⟨L⟩ := args
    match L, hs with
    | [w0, w1, w2, w3], _ => exact ⟨w0, w1, w2, w3, rfl⟩
  have hw := fun d (hd : d ∈ tables_1) => atoms_spec (ws := Jvm.Cond.code x code maxLocals ret :: tables_1) hat d (List.mem_cons_of_mem _ hd)
  have hfit : Fit s := fun {y c} hc i hi => by
    obtain ⟨ha, rfl⟩ := Array.getElem?_eq_some_iff.mp hc
    have q := List.all_eq_true.mp ((Array.all_eq_true_iff_forall_mem.mp hF) _ (Array.getElem_mem ha)) i (List.mem_range.mpr hi)
    simpa [Array.getElem?_eq_getElem hi] using q
  obtain ⟨i0, ei0⟩ := is_v ga0
  obtain rfl : w0 = (.int i0) := Option.some.inj ei0
  obtain ⟨i1, ei1⟩ := is_v ga1
  obtain rfl : w1 = (.int i1) := Option.some.inj ei1
  obtain ⟨i2, ei2⟩ := is_v ga2
  obtain rfl : w2 = (.int i2) := Option.some.inj ei2
  obtain ⟨i3, ei3⟩ := is_v gr3
  obtain rfl : w3 = (.int i3) := Option.some.inj ei3
  obtain ⟨n, o, h1, h2, h3, _, L, rfl, ⟨rfl, N⟩, hq⟩ := rm0 l s _ hw tables_1 i0 i1 i2 i3 s.heap s.heap.size (Nat.le_refl _)  p e ha hc hk s m _ below hf ((Spec.applies_iff_loose hf).mp happ).1 ⟨rfl, State.Warmed39.refl s, rfl⟩ trivial
  refine ⟨n, _, h1, h2, h3, hpost _ _ _ _ _ _ ⟨Cond.after_iff.mpr rfl, Cond.after_iff.mpr (eq_i res_at (Term.int_eval (1)) rfl), trivial⟩ ⟨hq.1, hq.2.1, (hq.2.2.sift fun y hy => Or.inr (N y hy)).mono (by decide) (by decide)⟩⟩
theorem main_1_1 : Claimed_1_1 := comes_1 fun _ _ _ _ _ _ h hF => ⟨h.1, hF⟩
theorem main_1_2 : Claimed_1_2 := comes_1 fun _ _ _ _ _ _ h hF => ⟨h.2.1, hF⟩
end Jvm.Pilot.@@N@@
namespace Jvm.Pilot.@@N@@
open Jvm Jvm.ClassFile Sem Op Lib Jvm.Free Jvm.Stand Jvm.Pilot.@@N@@.Jvm.D
/-! MADE BY PROGRAM (witnessworld.py) out of the Statement's table words and the real class files: 13 classes; the members and pool entries that the words name. The judged class is class 1, her method 1. -/
namespace start1
open Jvm.ClassFile
def u (s : String) : CpInfo := .utf8 (stringToUtf16 s)
/-- a pool by its gaps: so many unusable entries, then the entry; so many at the end -/
def gap : Nat → List CpInfo → List CpInfo
  | 0, r => r
  | n + 1, r => .unusable :: gap n r
def poolList (es : List (Nat × CpInfo)) (last : Nat) : List CpInfo := es.foldr (fun e r => gap e.1 (e.2 :: r)) (gap last [])
def pool (es : List (Nat × CpInfo)) (last : Nat) : Array CpInfo := ⟨poolList es last⟩
def fileOf (pool : Array CpInfo) (this : Nat) (attrs : Array Attribute := #[]) (ms : Array MethodInfo := #[]) (fl : Nat := 33) (sup : Nat := 0) (ifs : Array Nat := #[]) (fds : Array FieldInfo := #[]) : ClassFile where
  minorVersion := 0
  majorVersion := 65
  constantPool := pool
  accessFlags := fl
  thisClass := this
  superClass := sup
  interfaces := ifs
  fields := fds
  methods := ms
  attributes := attrs
def plain (name : String) (sup : Option ClassId) : Class where
  name := name
  kind := .ordinary
  loader := none
  accessFlags := 33
  super := sup
  interfaces := #[]
  cf := none
  fields := #[]
  methods := #[]
  instanceTypes := #[]
  staticTypes := #[]
  resolved := #[]
  callSites := []
  init := .initialized
  statics := none
  mirror := none

def pool0 : Array CpInfo := pool [(5, u "<init>"), (0, u "()V"), (1, .class_ 10), (1, u "java/lang/Object")] 113

def k0c0 : Code := { maxStack := 0, maxLocals := 1, code := object_method_1_code, exceptionTable := #[], attributes := #[] }
def k0m0 : Method := { name := "<init>", desc := "()V", sig := { parameters := [], returnType := none }, accessFlags := 1, code := some k0c0 }
/-- java/lang/Object -/
def k0 : Class := { plain "java/lang/Object" none with
  accessFlags := 33
  interfaces := #[]
  cf := some (fileOf pool0 8 #[] #[{ accessFlags := 1, nameIndex := 5, descriptorIndex := 6, attributes := #[] }] 33 0 #[] #[])
  fields := #[]
  methods := #[k0m0]
  instanceTypes := #[]
  staticTypes := #[]
  resolved := Array.replicate 124 none
  statics := none }

def pool1 : Array CpInfo := pool [(2, .class_ 4), (0, .nameAndType 5 6), (0, u "java/lang/Object"), (0, u "<init>"), (0, u "()V"), (0, .class_ 8), (0, u "com/example/flex_actor/flexactor/core/FrameBuffer"), (0, .methodref 7 3), (0, .methodref 7 11), (0, .nameAndType 12 13), (0, u "writeInt"), (0, u "(I)V"), (0, .methodref 7 15), (0, .nameAndType 16 13), (0, u "writeByte"), (0, .methodref 7 18), (0, .nameAndType 19 20), (0, u "begin"), (0, u "(B)V"), (0, .methodref 7 22), (0, .nameAndType 23 6), (0, u "end"), (0, .methodref 7 25), (0, .nameAndType 26 6), (0, u "abandon"), (0, .methodref 7 28), (0, .nameAndType 29 30), (0, u "size"), (0, u "()I"), (0, .methodref 7 32), (0, .nameAndType 33 34), (0, u "toByteArray"), (0, u "()[B"), (0, .methodref 36 37), (0, .class_ 38), (0, .nameAndType 39 40), (0, u "com/example/flex_actor/flexactor/core/FrameBufferAbandonPinLaw"), (0, u "prefixOk"), (0, u "([BII)Z"), (2, u "law"), (0, u "(IIII)Z")] 5

def k1m0 : Method := { name := "<init>", desc := "()V", sig := { parameters := [], returnType := none }, accessFlags := 1, code := none }
def k1c1 : Code := { maxStack := 3, maxLocals := 11, code := code, exceptionTable := #[], attributes := #[] }
def k1m1 : Method := { name := "law", desc := "(IIII)Z", sig := { parameters := [.int, .int, .int, .int], returnType := some .boolean }, accessFlags := 9, code := some k1c1 }
def k1c2 : Code := { maxStack := 3, maxLocals := 3, code := method_3_code, exceptionTable := #[], attributes := #[] }
def k1m2 : Method := { name := "prefixOk", desc := "([BII)Z", sig := { parameters := [(.array .byte), .int, .int], returnType := some .boolean }, accessFlags := 10, code := some k1c2 }
/-- com/example/flex_actor/flexactor/core/FrameBufferAbandonPinLaw -/
def k1 : Class := { plain "com/example/flex_actor/flexactor/core/FrameBufferAbandonPinLaw" (some 0) with
  accessFlags := 49
  interfaces := #[]
  cf := some (fileOf pool1 36 #[] #[{ accessFlags := 1, nameIndex := 5, descriptorIndex := 6, attributes := #[] }, { accessFlags := 9, nameIndex := 43, descriptorIndex := 44, attributes := #[] }, { accessFlags := 10, nameIndex := 39, descriptorIndex := 40, attributes := #[] }] 49 2 #[] #[])
  fields := #[]
  methods := #[k1m0, k1m1, k1m2]
  instanceTypes := #[]
  staticTypes := #[]
  resolved := Array.replicate 50 none
  statics := none }

def pool2 : Array CpInfo := pool [(9, .class_ 10), (0, u "com/example/flex_actor/flexactor/core/WireOutput"), (0, .class_ 12), (0, u "java/lang/Object")] 18

/-- com/example/flex_actor/flexactor/core/WireOutput -/
def k2 : Class := { plain "com/example/flex_actor/flexactor/core/WireOutput" (some 0) with
  accessFlags := 1537
  interfaces := #[]
  cf := some (fileOf pool2 9 #[] #[] 1537 11 #[] #[])
  fields := #[]
  methods := #[]
  instanceTypes := #[]
  staticTypes := #[]
  resolved := Array.replicate 31 none
  statics := none }

def pool3 : Array CpInfo := pool [(1, .methodref 2 3), (0, .class_ 4), (0, .nameAndType 5 6), (0, u "java/lang/Object"), (0, u "<init>"), (0, u "()V"), (0, .class_ 8), (0, u "com/example/flex_actor/flexactor/core/FrameBuffer"), (0, .fieldref 7 10), (0, .nameAndType 11 12), (0, u "bytes"), (0, u "[B"), (0, .fieldref 7 14), (0, .nameAndType 15 16), (0, u "frameStart"), (0, u "I"), (7, .fieldref 7 25), (0, .nameAndType 26 16), (0, u "size"), (0, .methodref 7 28), (0, .nameAndType 29 30), (0, u "writeInt"), (0, u "(I)V"), (0, .methodref 7 32), (0, .nameAndType 33 30), (0, u "writeByte"), (6, .integer 16777216), (2, u "abandon"), (4, .methodref 7 49), (0, .nameAndType 50 51), (0, u "putInt"), (0, u "(II)V"), (17, .methodref 70 71), (0, .class_ 72), (0, .nameAndType 73 74), (0, u "java/util/Arrays"), (0, u "copyOf"), (0, u "([BI)[B"), (0, .methodref 7 76), (0, .nameAndType 77 30), (0, u "ensure"), (32, .long 2147483639), (3, .long 2), (10, .class_ 126), (0, u "com/example/flex_actor/flexactor/core/WireOutput"), (0, u "INITIAL_SIZE"), (2, u "KEPT_SIZE"), (2, u "begin"), (0, u "(B)V"), (1, u "end"), (1, u "()I"), (5, u "toByteArray"), (0, u "()[B")] 23

def k3c0 : Code := { maxStack := 2, maxLocals := 1, code := prog_32_method_1_code, exceptionTable := #[], attributes := #[] }
def k3m0 : Method := { name := "<init>", desc := "()V", sig := { parameters := [], returnType := none }, accessFlags := 0, code := some k3c0 }
def k3c1 : Code := { maxStack := 3, maxLocals := 2, code := prog_32_method_2_code, exceptionTable := #[], attributes := #[] }
def k3m1 : Method := { name := "begin", desc := "(B)V", sig := { parameters := [.byte], returnType := none }, accessFlags := 0, code := some k3c1 }
def k3c2 : Code := { maxStack := 3, maxLocals := 2, code := prog_32_method_3_code, exceptionTable := #[], attributes := #[] }
def k3m2 : Method := { name := "end", desc := "()V", sig := { parameters := [], returnType := none }, accessFlags := 0, code := some k3c2 }
def k3c3 : Code := { maxStack := 2, maxLocals := 1, code := prog_32_method_4_code, exceptionTable := #[], attributes := #[] }
def k3m3 : Method := { name := "abandon", desc := "()V", sig := { parameters := [], returnType := none }, accessFlags := 0, code := some k3c3 }
def k3c4 : Code := { maxStack := 1, maxLocals := 1, code := prog_32_method_6_code, exceptionTable := #[], attributes := #[] }
def k3m4 : Method := { name := "size", desc := "()I", sig := { parameters := [], returnType := some .int }, accessFlags := 0, code := some k3c4 }
def k3c5 : Code := { maxStack := 2, maxLocals := 1, code := prog_32_method_8_code, exceptionTable := #[], attributes := #[] }
def k3m5 : Method := { name := "toByteArray", desc := "()[B", sig := { parameters := [], returnType := some (.array .byte) }, accessFlags := 0, code := some k3c5 }
def k3c6 : Code := { maxStack := 5, maxLocals := 2, code := prog_32_method_12_code, exceptionTable := #[], attributes := #[] }
def k3m6 : Method := { name := "writeByte", desc := "(I)V", sig := { parameters := [.int], returnType := none }, accessFlags := 1, code := some k3c6 }
def k3c7 : Code := { maxStack := 3, maxLocals := 2, code := prog_32_method_13_code, exceptionTable := #[], attributes := #[] }
def k3m7 : Method := { name := "writeInt", desc := "(I)V", sig := { parameters := [.int], returnType := none }, accessFlags := 1, code := some k3c7 }
def k3c8 : Code := { maxStack := 4, maxLocals := 3, code := prog_32_method_17_code, exceptionTable := #[], attributes := #[] }
def k3m8 : Method := { name := "putInt", desc := "(II)V", sig := { parameters := [.int, .int], returnType := none }, accessFlags := 2, code := some k3c8 }
def k3c9 : Code := { maxStack := 8, maxLocals := 4, code := prog_32_method_18_code, exceptionTable := #[], attributes := #[] }
def k3m9 : Method := { name := "ensure", desc := "(I)V", sig := { parameters := [.int], returnType := none }, accessFlags := 2, code := some k3c9 }
/-- com/example/flex_actor/flexactor/core/FrameBuffer -/
def k3 : Class := { plain "com/example/flex_actor/flexactor/core/FrameBuffer" (some 0) with
  accessFlags := 32
  interfaces := #[2]
  cf := some (fileOf pool3 7 #[] #[{ accessFlags := 0, nameIndex := 5, descriptorIndex := 6, attributes := #[] }, { accessFlags := 0, nameIndex := 133, descriptorIndex := 134, attributes := #[] }, { accessFlags := 0, nameIndex := 136, descriptorIndex := 6, attributes := #[] }, { accessFlags := 0, nameIndex := 43, descriptorIndex := 6, attributes := #[] }, { accessFlags := 0, nameIndex := 26, descriptorIndex := 138, attributes := #[] }, { accessFlags := 0, nameIndex := 144, descriptorIndex := 145, attributes := #[] }, { accessFlags := 1, nameIndex := 33, descriptorIndex := 30, attributes := #[] }, { accessFlags := 1, nameIndex := 29, descriptorIndex := 30, attributes := #[] }, { accessFlags := 2, nameIndex := 50, descriptorIndex := 51, attributes := #[] }, { accessFlags := 2, nameIndex := 77, descriptorIndex := 30, attributes := #[] }] 32 2 #[125] #[{ accessFlags := 26, nameIndex := 127, descriptorIndex := 16, attributes := #[] }, { accessFlags := 26, nameIndex := 130, descriptorIndex := 16, attributes := #[] }, { accessFlags := 2, nameIndex := 11, descriptorIndex := 12, attributes := #[] }, { accessFlags := 2, nameIndex := 26, descriptorIndex := 16, attributes := #[] }, { accessFlags := 2, nameIndex := 15, descriptorIndex := 16, attributes := #[] }])
  fields := #[{ name := "INITIAL_SIZE", type := .int, accessFlags := 26, slot := 0, constantValue := 0 }, { name := "KEPT_SIZE", type := .int, accessFlags := 26, slot := 1, constantValue := 0 }, { name := "bytes", type := (.array .byte), accessFlags := 2, slot := 0, constantValue := 0 }, { name := "size", type := .int, accessFlags := 2, slot := 1, constantValue := 0 }, { name := "frameStart", type := .int, accessFlags := 2, slot := 2, constantValue := 0 }]
  methods := #[k3m0, k3m1, k3m2, k3m3, k3m4, k3m5, k3m6, k3m7, k3m8, k3m9]
  instanceTypes := #[(.array .byte), .int, .int]
  staticTypes := #[.int, .int]
  resolved := Array.replicate 169 none
  statics := none }

def pool4 : Array CpInfo := pool [(2, .class_ 4), (1, u "java/lang/Object"), (0, u "<init>"), (0, u "()V"), (7, .class_ 16), (1, u "java/util/Arrays"), (57, .class_ 76), (1, u "java/util/Arrays$NaturalOrder"), (36, .class_ 115), (1, u "java/util/Arrays$LegacyMergeSort"), (1, u "Z"), (32, .methodref 151 152), (0, .class_ 153), (0, .nameAndType 154 155), (0, u "java/lang/System"), (0, u "arraycopy"), (0, u "(Ljava/lang/Object;ILjava/lang/Object;II)V"), (146, u "copyOf"), (1, .methodref 305 306), (0, .class_ 307), (0, .nameAndType 308 309), (0, u "java/lang/Math"), (0, u "min"), (0, u "(II)I"), (65, .class_ 376), (0, u "java/util/Arrays$ArrayList"), (68, u "$assertionsDisabled"), (269, u "MIN_ARRAY_SORT_GRAN"), (0, u "I"), (2, u "INSERTIONSORT_THRESHOLD"), (149, u "([BI)[B"), (105, .class_ 976), (0, u "java/util/Arrays$ArrayItr")] 52

def k4m0 : Method := { name := "<init>", desc := "()V", sig := { parameters := [], returnType := none }, accessFlags := 2, code := none }
def k4c1 : Code := { maxStack := 6, maxLocals := 3, code := jdk_65_method_121_code, exceptionTable := #[], attributes := #[] }
def k4m1 : Method := { name := "copyOf", desc := "([BI)[B", sig := { parameters := [(.array .byte), .int], returnType := some (.array .byte) }, accessFlags := 9, code := some k4c1 }
/-- java/util/Arrays -/
def k4 : Class := { plain "java/util/Arrays" (some 0) with
  accessFlags := 49
  interfaces := #[]
  cf := some (fileOf pool4 14 #[.nestMembers #[975, 375, 113, 74]] #[{ accessFlags := 2, nameIndex := 5, descriptorIndex := 6, attributes := #[] }, { accessFlags := 9, nameIndex := 302, descriptorIndex := 869, attributes := #[] }] 49 2 #[] #[{ accessFlags := 26, nameIndex := 715, descriptorIndex := 716, attributes := #[] }, { accessFlags := 26, nameIndex := 719, descriptorIndex := 716, attributes := #[] }, { accessFlags := 4120, nameIndex := 445, descriptorIndex := 117, attributes := #[] }])
  fields := #[{ name := "MIN_ARRAY_SORT_GRAN", type := .int, accessFlags := 26, slot := 0, constantValue := 0 }, { name := "INSERTIONSORT_THRESHOLD", type := .int, accessFlags := 26, slot := 1, constantValue := 0 }, { name := "$assertionsDisabled", type := .boolean, accessFlags := 4120, slot := 2, constantValue := 0 }]
  methods := #[k4m0, k4m1]
  instanceTypes := #[]
  staticTypes := #[.int, .int, .boolean]
  resolved := Array.replicate 1029 none
  statics := none }

def pool5 : Array CpInfo := pool [(1, .class_ 2), (0, u "java/lang/Math"), (1, .class_ 6), (1, u "java/lang/Object"), (0, u "<init>"), (0, u "()V"), (89, .class_ 100), (1, u "java/lang/Math$RandomNumberGeneratorHolder"), (71, u "negativeZeroFloatBits"), (0, u "J"), (2, u "negativeZeroDoubleBits"), (24, u "min"), (43, u "$assertionsDisabled"), (0, u "Z"), (88, u "(II)I"), (2, u "twoToTheDoubleScaleDown"), (0, u "D"), (4, u "twoToTheDoubleScaleUp"), (9, u "E"), (3, u "PI"), (2, u "TAU"), (2, u "DEGREES_TO_RADIANS"), (0, u "RADIANS_TO_DEGREES")] 94

def k5m0 : Method := { name := "<init>", desc := "()V", sig := { parameters := [], returnType := none }, accessFlags := 2, code := none }
def k5c1 : Code := { maxStack := 2, maxLocals := 2, code := jdk_29_method_69_code, exceptionTable := #[], attributes := #[] }
def k5m1 : Method := { name := "min", desc := "(II)I", sig := { parameters := [.int, .int], returnType := some .int }, accessFlags := 9, code := some k5c1 }
/-- java/lang/Math -/
def k5 : Class := { plain "java/lang/Math" (some 0) with
  accessFlags := 49
  interfaces := #[]
  cf := some (fileOf pool5 1 #[.nestMembers #[98]] #[{ accessFlags := 2, nameIndex := 7, descriptorIndex := 8, attributes := #[] }, { accessFlags := 9, nameIndex := 201, descriptorIndex := 335, attributes := #[] }] 49 4 #[] #[{ accessFlags := 25, nameIndex := 354, descriptorIndex := 339, attributes := #[] }, { accessFlags := 25, nameIndex := 358, descriptorIndex := 339, attributes := #[] }, { accessFlags := 25, nameIndex := 361, descriptorIndex := 339, attributes := #[] }, { accessFlags := 26, nameIndex := 364, descriptorIndex := 339, attributes := #[] }, { accessFlags := 26, nameIndex := 365, descriptorIndex := 339, attributes := #[] }, { accessFlags := 26, nameIndex := 172, descriptorIndex := 173, attributes := #[] }, { accessFlags := 26, nameIndex := 176, descriptorIndex := 173, attributes := #[] }, { accessFlags := 8, nameIndex := 344, descriptorIndex := 339, attributes := #[] }, { accessFlags := 8, nameIndex := 338, descriptorIndex := 339, attributes := #[] }, { accessFlags := 4120, nameIndex := 245, descriptorIndex := 246, attributes := #[] }])
  fields := #[{ name := "E", type := .double, accessFlags := 25, slot := 0, constantValue := 0 }, { name := "PI", type := .double, accessFlags := 25, slot := 1, constantValue := 0 }, { name := "TAU", type := .double, accessFlags := 25, slot := 2, constantValue := 0 }, { name := "DEGREES_TO_RADIANS", type := .double, accessFlags := 26, slot := 3, constantValue := 0 }, { name := "RADIANS_TO_DEGREES", type := .double, accessFlags := 26, slot := 4, constantValue := 0 }, { name := "negativeZeroFloatBits", type := .long, accessFlags := 26, slot := 5, constantValue := 0 }, { name := "negativeZeroDoubleBits", type := .long, accessFlags := 26, slot := 6, constantValue := 0 }, { name := "twoToTheDoubleScaleUp", type := .double, accessFlags := 8, slot := 7, constantValue := 0 }, { name := "twoToTheDoubleScaleDown", type := .double, accessFlags := 8, slot := 8, constantValue := 0 }, { name := "$assertionsDisabled", type := .boolean, accessFlags := 4120, slot := 9, constantValue := 0 }]
  methods := #[k5m0, k5m1]
  instanceTypes := #[]
  staticTypes := #[.double, .double, .double, .double, .double, .long, .long, .double, .double, .boolean]
  resolved := Array.replicate 460 none
  statics := none }

def pool6 : Array CpInfo := pool [(2, .class_ 4), (1, u "java/lang/Object"), (0, u "<init>"), (0, u "()V"), (1, .class_ 10), (1, u "java/lang/System"), (0, u "allowSecurityManager"), (0, u "I"), (16, u "cons"), (0, u "Ljava/io/Console;"), (77, .class_ 110), (1, u "java/lang/System$CallersHolder"), (43, u "initialErrStream"), (0, u "Ljava/io/PrintStream;"), (19, u "security"), (0, u "Ljava/lang/SecurityManager;"), (31, .class_ 209), (0, u "java/lang/System$1"), (7, u "props"), (0, u "Ljava/util/Properties;"), (2, u "lineSeparator"), (0, u "Ljava/lang/String;"), (96, .class_ 321), (1, u "java/lang/System$LoggerFinder"), (5, .class_ 328), (0, u "java/lang/System$Logger"), (67, u "err"), (2, u "out"), (91, u "notSupportedJnuEncoding"), (15, u "in"), (17, u "initialIn"), (0, u "Ljava/io/InputStream;"), (35, u "bootLayer"), (0, u "Ljava/lang/ModuleLayer;"), (99, .class_ 664), (0, u "java/lang/System$2"), (9, u "NEVER"), (2, u "MAYBE"), (49, u "arraycopy"), (0, u "(Ljava/lang/Object;ILjava/lang/Object;II)V"), (72, .class_ 802), (0, u "java/lang/System$Logger$Level")] 31

def k6m0 : Method := { name := "<init>", desc := "()V", sig := { parameters := [], returnType := none }, accessFlags := 2, code := none }
def k6m1 : Method := { name := "arraycopy", desc := "(Ljava/lang/Object;ILjava/lang/Object;II)V", sig := { parameters := [(.object "java/lang/Object"), .int, (.object "java/lang/Object"), .int, .int], returnType := none }, accessFlags := 265, code := none }
/-- java/lang/System -/
def k6 : Class := { plain "java/lang/System" (some 0) with
  accessFlags := 49
  interfaces := #[]
  cf := some (fileOf pool6 8 #[.nestMembers #[319, 327, 801, 108, 663, 208]] #[{ accessFlags := 2, nameIndex := 5, descriptorIndex := 6, attributes := #[] }, { accessFlags := 265, nameIndex := 727, descriptorIndex := 728, attributes := #[] }] 49 2 #[] #[{ accessFlags := 25, nameIndex := 507, descriptorIndex := 526, attributes := #[] }, { accessFlags := 25, nameIndex := 399, descriptorIndex := 155, attributes := #[] }, { accessFlags := 25, nameIndex := 396, descriptorIndex := 155, attributes := #[] }, { accessFlags := 10, nameIndex := 525, descriptorIndex := 526, attributes := #[] }, { accessFlags := 26, nameIndex := 674, descriptorIndex := 12, attributes := #[] }, { accessFlags := 26, nameIndex := 677, descriptorIndex := 12, attributes := #[] }, { accessFlags := 10, nameIndex := 11, descriptorIndex := 12, attributes := #[] }, { accessFlags := 74, nameIndex := 175, descriptorIndex := 176, attributes := #[] }, { accessFlags := 10, nameIndex := 491, descriptorIndex := 222, attributes := #[] }, { accessFlags := 74, nameIndex := 29, descriptorIndex := 30, attributes := #[] }, { accessFlags := 74, nameIndex := 154, descriptorIndex := 155, attributes := #[] }, { accessFlags := 10, nameIndex := 217, descriptorIndex := 218, attributes := #[] }, { accessFlags := 10, nameIndex := 221, descriptorIndex := 222, attributes := #[] }, { accessFlags := 8, nameIndex := 562, descriptorIndex := 563, attributes := #[] }])
  fields := #[{ name := "in", type := (.object "java/io/InputStream"), accessFlags := 25, slot := 0, constantValue := 0 }, { name := "out", type := (.object "java/io/PrintStream"), accessFlags := 25, slot := 1, constantValue := 0 }, { name := "err", type := (.object "java/io/PrintStream"), accessFlags := 25, slot := 2, constantValue := 0 }, { name := "initialIn", type := (.object "java/io/InputStream"), accessFlags := 10, slot := 3, constantValue := 0 }, { name := "NEVER", type := .int, accessFlags := 26, slot := 4, constantValue := 0 }, { name := "MAYBE", type := .int, accessFlags := 26, slot := 5, constantValue := 0 }, { name := "allowSecurityManager", type := .int, accessFlags := 10, slot := 6, constantValue := 0 }, { name := "security", type := (.object "java/lang/SecurityManager"), accessFlags := 74, slot := 7, constantValue := 0 }, { name := "notSupportedJnuEncoding", type := (.object "java/lang/String"), accessFlags := 10, slot := 8, constantValue := 0 }, { name := "cons", type := (.object "java/io/Console"), accessFlags := 74, slot := 9, constantValue := 0 }, { name := "initialErrStream", type := (.object "java/io/PrintStream"), accessFlags := 74, slot := 10, constantValue := 0 }, { name := "props", type := (.object "java/util/Properties"), accessFlags := 10, slot := 11, constantValue := 0 }, { name := "lineSeparator", type := (.object "java/lang/String"), accessFlags := 10, slot := 12, constantValue := 0 }, { name := "bootLayer", type := (.object "java/lang/ModuleLayer"), accessFlags := 8, slot := 13, constantValue := 0 }]
  methods := #[k6m0, k6m1]
  instanceTypes := #[]
  staticTypes := #[(.object "java/io/InputStream"), (.object "java/io/PrintStream"), (.object "java/io/PrintStream"), (.object "java/io/InputStream"), .int, .int, .int, (.object "java/lang/SecurityManager"), (.object "java/lang/String"), (.object "java/io/Console"), (.object "java/io/PrintStream"), (.object "java/util/Properties"), (.object "java/lang/String"), (.object "java/lang/ModuleLayer")]
  resolved := Array.replicate 834 none
  statics := none }

def pool7 : Array CpInfo := pool [(1, u "java/lang/Cloneable"), (0, .class_ 1), (0, u "java/lang/Object"), (0, .class_ 3)] 3

/-- java/lang/Cloneable -/
def k7 : Class := { plain "java/lang/Cloneable" (some 0) with
  accessFlags := 1537
  interfaces := #[]
  cf := some (fileOf pool7 2 #[] #[] 1537 4 #[] #[])
  fields := #[]
  methods := #[]
  instanceTypes := #[]
  staticTypes := #[]
  resolved := Array.replicate 8 none
  statics := none }

def pool8 : Array CpInfo := pool [(1, u "java/io/Serializable"), (0, .class_ 1), (0, u "java/lang/Object"), (0, .class_ 3)] 3

/-- java/io/Serializable -/
def k8 : Class := { plain "java/io/Serializable" (some 0) with
  accessFlags := 1537
  interfaces := #[]
  cf := some (fileOf pool8 2 #[] #[] 1537 4 #[] #[])
  fields := #[]
  methods := #[]
  instanceTypes := #[]
  staticTypes := #[]
  resolved := Array.replicate 8 none
  statics := none }

/-- the primitive byte -/
def k9 : Class := { plain "byte" none with kind := .primitive 'B', accessFlags := 0x411 }
/-- [B -/
def k10 : Class := { plain "[B" (some 0) with kind := .array 9 .byte, interfaces := #[7, 8], accessFlags := 1041 }

/-- the primitive int -/
def k11 : Class := { plain "int" none with kind := .primitive 'I', accessFlags := 0x411 }
/-- [I -/
def k12 : Class := { plain "[I" (some 0) with kind := .array 11 .int, interfaces := #[7, 8], accessFlags := 1041 }

def heap : Heap := #[]
def classes : Array Class := #[k0, k1, k2, k3, k4, k5, k6, k7, k8, k9, k10, k11, k12]
def interned : List (Array UInt16 × Addr) := []
def slotsUsed : Nat := 0
def theMethod : MethodId := ⟨1, 1⟩
def args0 : Array Value := #[.int 5, .int 6, .int 7, .int 13]
def aboutOver (below : List Frame) : State where
  vm := { classes := classes, interned := interned.toArray }
  heap := heap
  slotsUsed := slotsUsed
  threads := #[{ frames := .invoking theMethod args0 :: below }]
def below0 : List Frame := [.native { method := ⟨0, 0⟩, args := #[] }]
def about1 : State := aboutOver below0
def p0 : Program := .bare "" "" ""
def e0 : Env := launch0.env 0 0 0
theorem w_frames : about1.frames = Frame.invoking theMethod args0 :: below0 := rfl
set_option maxRecDepth 65536 in
theorem w_args : argsFit about1.vm theMethod args0 = true := by decide +kernel
set_option maxRecDepth 65536 in
theorem w_heap : heapFits about1 = true := by decide +kernel
set_option maxRecDepth 65536 in
theorem w_runnable : about1.curStatus? = some .runnable := by decide +kernel
set_option maxRecDepth 65536 in
theorem w_alone : about1.alone = true := by decide +kernel
set_option maxRecDepth 65536 in
theorem w_named : about1.methodNamed? x = some theMethod := by decide +kernel
set_option maxRecDepth 65536 in
theorem w_hears : about1.hears theMethod below0 = true := by decide +kernel
set_option maxRecDepth 65536 in
theorem w_ripe : about1.ripe theMethod args0 below0 = true := by decide +kernel
theorem w_running : about1.status = .running := rfl
set_option maxRecDepth 65536 in
theorem w_room : about1.hasRoom e0.platform room_1 = true :=
  launch0.hasRoom_least _ room_1 (by decide +kernel) (by decide +kernel) (by decide +kernel) (by decide +kernel) (by decide +kernel) (by decide +kernel)
theorem allAtoms_all (ts : List Jvm.Cond) (a : Array Jvm.Value) (st : Jvm.State) : (allAtoms ts).before a st = ts.all (fun c => c.before a st) := by
  induction ts with
  | nil => rfl
  | cons c t ih =>
    show (Jvm.Cond.and c (allAtoms t)).before a st = _
    rw [Jvm.Cond.before_and, ih, List.all_cons]
def words1 : List Jvm.Cond := Jvm.Cond.code x code maxLocals ret :: tables_1
/-- a 'code' word, met by the world's own term for the bytes: nothing is compared byte by byte -/
theorem code_word {y : MethodName} {bytes : ByteArray} {mx : Nat} {rt : Option FieldType} {a : Array Value} {s : State} {m : MethodId} {meth : Method} {c : Code} (h1 : s.methodNamed? y = some m) (h2 : s.vm.method? m = some meth) (h3 : meth.code = some c) (h4 : c.code = bytes)
    (h5 : (c.maxLocals == mx && c.exceptionTable.isEmpty && decide (c.maxStack ≤ mostOperands) && decide (meth.sig.returnType = rt) && !meth.locks && decide (parseMethodDescriptor y.desc = some meth.sig)) = true) : (Jvm.Cond.code y bytes mx rt).before a s = true := by
  simp only [Bool.and_eq_true, beq_iff_eq, Bool.not_eq_true', decide_eq_true_eq] at h5
  obtain ⟨⟨⟨⟨⟨g1, g2⟩, g3⟩, g4⟩, g5⟩, g6⟩ := h5
  simp [Cond.before, Cond.holds, Cond.value, h1, h2, h3, h4, g1, g2, g3, g4, g5, g6]
def isCode : Jvm.Cond → Bool
  | .code _ _ _ _ => true
  | _ => false
theorem all_split {L : List Jvm.Cond} {P : Jvm.Cond → Bool} (h1 : L.all (fun c => isCode c || P c) = true) (h2 : ∀ c ∈ L.filter isCode, P c = true) : L.all P = true := by
  refine List.all_eq_true.mpr fun c hc => ?_
  have h := List.all_eq_true.mp h1 c hc
  rcases Bool.eq_false_or_eq_true (isCode c) with hi | hi
  · exact h2 c (List.mem_filter.mpr ⟨hc, hi⟩)
  · simpa [hi] using h
set_option maxRecDepth 65536 in
theorem w_c0 : (Jvm.Cond.code x code maxLocals ret).before args0 about1 = true := code_word (m := ⟨1, 1⟩) (meth := k1m1) (c := k1c1) (by decide +kernel) rfl rfl rfl (by decide +kernel)
set_option maxRecDepth 65536 in
theorem w_c1 : (Jvm.Cond.code ({ cls := "com/example/flex_actor/flexactor/core/FrameBuffer", name := "<init>", desc := "()V" } : Jvm.MethodName) prog_32_method_1_code (1 : Nat) (Option.none : Option Jvm.ClassFile.FieldType)).before args0 about1 = true := code_word (m := ⟨3, 0⟩) (meth := k3m0) (c := k3c0) (by decide +kernel) rfl rfl rfl (by decide +kernel)
set_option maxRecDepth 65536 in
theorem w_c2 : (Jvm.Cond.code ({ cls := "java/lang/Object", name := "<init>", desc := "()V" } : Jvm.MethodName) object_method_1_code (1 : Nat) (Option.none : Option Jvm.ClassFile.FieldType)).before args0 about1 = true := code_word (m := ⟨0, 0⟩) (meth := k0m0) (c := k0c0) (by decide +kernel) rfl rfl rfl (by decide +kernel)
set_option maxRecDepth 65536 in
theorem w_c3 : (Jvm.Cond.code ({ cls := "com/example/flex_actor/flexactor/core/FrameBuffer", name := "writeInt", desc := "(I)V" } : Jvm.MethodName) prog_32_method_13_code (2 : Nat) (Option.none : Option Jvm.ClassFile.FieldType)).before args0 about1 = true := code_word (m := ⟨3, 7⟩) (meth := k3m7) (c := k3c7) (by decide +kernel) rfl rfl rfl (by decide +kernel)
set_option maxRecDepth 65536 in
theorem w_c4 : (Jvm.Cond.code ({ cls := "com/example/flex_actor/flexactor/core/FrameBuffer", name := "ensure", desc := "(I)V" } : Jvm.MethodName) prog_32_method_18_code (4 : Nat) (Option.none : Option Jvm.ClassFile.FieldType)).before args0 about1 = true := code_word (m := ⟨3, 9⟩) (meth := k3m9) (c := k3c9) (by decide +kernel) rfl rfl rfl (by decide +kernel)
set_option maxRecDepth 65536 in
theorem w_c5 : (Jvm.Cond.code ({ cls := "com/example/flex_actor/flexactor/core/FrameBuffer", name := "putInt", desc := "(II)V" } : Jvm.MethodName) prog_32_method_17_code (3 : Nat) (Option.none : Option Jvm.ClassFile.FieldType)).before args0 about1 = true := code_word (m := ⟨3, 8⟩) (meth := k3m8) (c := k3c8) (by decide +kernel) rfl rfl rfl (by decide +kernel)
set_option maxRecDepth 65536 in
theorem w_c6 : (Jvm.Cond.code ({ cls := "com/example/flex_actor/flexactor/core/FrameBuffer", name := "abandon", desc := "()V" } : Jvm.MethodName) prog_32_method_4_code (1 : Nat) (Option.none : Option Jvm.ClassFile.FieldType)).before args0 about1 = true := code_word (m := ⟨3, 3⟩) (meth := k3m3) (c := k3c3) (by decide +kernel) rfl rfl rfl (by decide +kernel)
set_option maxRecDepth 65536 in
theorem w_c7 : (Jvm.Cond.code ({ cls := "com/example/flex_actor/flexactor/core/FrameBuffer", name := "size", desc := "()I" } : Jvm.MethodName) prog_32_method_6_code (1 : Nat) (Option.some Jvm.ClassFile.FieldType.int)).before args0 about1 = true := code_word (m := ⟨3, 4⟩) (meth := k3m4) (c := k3c4) (by decide +kernel) rfl rfl rfl (by decide +kernel)
set_option maxRecDepth 65536 in
theorem w_c8 : (Jvm.Cond.code ({ cls := "com/example/flex_actor/flexactor/core/FrameBuffer", name := "writeByte", desc := "(I)V" } : Jvm.MethodName) prog_32_method_12_code (2 : Nat) (Option.none : Option Jvm.ClassFile.FieldType)).before args0 about1 = true := code_word (m := ⟨3, 6⟩) (meth := k3m6) (c := k3c6) (by decide +kernel) rfl rfl rfl (by decide +kernel)
set_option maxRecDepth 65536 in
theorem w_c9 : (Jvm.Cond.code ({ cls := "com/example/flex_actor/flexactor/core/FrameBuffer", name := "toByteArray", desc := "()[B" } : Jvm.MethodName) prog_32_method_8_code (1 : Nat) (Option.some (Jvm.ClassFile.FieldType.array Jvm.ClassFile.FieldType.byte))).before args0 about1 = true := code_word (m := ⟨3, 5⟩) (meth := k3m5) (c := k3c5) (by decide +kernel) rfl rfl rfl (by decide +kernel)
set_option maxRecDepth 65536 in
theorem w_c10 : (Jvm.Cond.code ({ cls := "java/util/Arrays", name := "copyOf", desc := "([BI)[B" } : Jvm.MethodName) jdk_65_method_121_code (3 : Nat) (Option.some (Jvm.ClassFile.FieldType.array Jvm.ClassFile.FieldType.byte))).before args0 about1 = true := code_word (m := ⟨4, 1⟩) (meth := k4m1) (c := k4c1) (by decide +kernel) rfl rfl rfl (by decide +kernel)
set_option maxRecDepth 65536 in
theorem w_c11 : (Jvm.Cond.code ({ cls := "java/lang/Math", name := "min", desc := "(II)I" } : Jvm.MethodName) jdk_29_method_69_code (2 : Nat) (Option.some Jvm.ClassFile.FieldType.int)).before args0 about1 = true := code_word (m := ⟨5, 1⟩) (meth := k5m1) (c := k5c1) (by decide +kernel) rfl rfl rfl (by decide +kernel)
set_option maxRecDepth 65536 in
theorem w_c12 : (Jvm.Cond.code ({ cls := "com/example/flex_actor/flexactor/core/FrameBufferAbandonPinLaw", name := "prefixOk", desc := "([BII)Z" } : Jvm.MethodName) method_3_code (3 : Nat) (Option.some Jvm.ClassFile.FieldType.boolean)).before args0 about1 = true := code_word (m := ⟨1, 2⟩) (meth := k1m2) (c := k1c2) (by decide +kernel) rfl rfl rfl (by decide +kernel)
set_option maxRecDepth 65536 in
theorem w_c13 : (Jvm.Cond.code ({ cls := "com/example/flex_actor/flexactor/core/FrameBuffer", name := "begin", desc := "(B)V" } : Jvm.MethodName) prog_32_method_2_code (2 : Nat) (Option.none : Option Jvm.ClassFile.FieldType)).before args0 about1 = true := code_word (m := ⟨3, 1⟩) (meth := k3m1) (c := k3c1) (by decide +kernel) rfl rfl rfl (by decide +kernel)
set_option maxRecDepth 65536 in
theorem w_c14 : (Jvm.Cond.code ({ cls := "com/example/flex_actor/flexactor/core/FrameBuffer", name := "end", desc := "()V" } : Jvm.MethodName) prog_32_method_3_code (2 : Nat) (Option.none : Option Jvm.ClassFile.FieldType)).before args0 about1 = true := code_word (m := ⟨3, 2⟩) (meth := k3m2) (c := k3c2) (by decide +kernel) rfl rfl rfl (by decide +kernel)
def codes1 : List Jvm.Cond := [Jvm.Cond.code x code maxLocals ret, Jvm.Cond.code ({ cls := "com/example/flex_actor/flexactor/core/FrameBuffer", name := "<init>", desc := "()V" } : Jvm.MethodName) prog_32_method_1_code (1 : Nat) (Option.none : Option Jvm.ClassFile.FieldType), Jvm.Cond.code ({ cls := "java/lang/Object", name := "<init>", desc := "()V" } : Jvm.MethodName) object_method_1_code (1 : Nat) (Option.none : Option Jvm.ClassFile.FieldType), Jvm.Cond.code ({ cls := "com/example/flex_actor/flexactor/core/FrameBuffer", name := "writeInt", desc := "(I)V" } : Jvm.MethodName) prog_32_method_13_code (2 : Nat) (Option.none : Option Jvm.ClassFile.FieldType), Jvm.Cond.code ({ cls := "com/example/flex_actor/flexactor/core/FrameBuffer", name := "ensure", desc := "(I)V" } : Jvm.MethodName) prog_32_method_18_code (4 : Nat) (Option.none : Option Jvm.ClassFile.FieldType), Jvm.Cond.code ({ cls := "com/example/flex_actor/flexactor/core/FrameBuffer", name := "putInt", desc := "(II)V" } : Jvm.MethodName) prog_32_method_17_code (3 : Nat) (Option.none : Option Jvm.ClassFile.FieldType), Jvm.Cond.code ({ cls := "com/example/flex_actor/flexactor/core/FrameBuffer", name := "abandon", desc := "()V" } : Jvm.MethodName) prog_32_method_4_code (1 : Nat) (Option.none : Option Jvm.ClassFile.FieldType), Jvm.Cond.code ({ cls := "com/example/flex_actor/flexactor/core/FrameBuffer", name := "size", desc := "()I" } : Jvm.MethodName) prog_32_method_6_code (1 : Nat) (Option.some Jvm.ClassFile.FieldType.int), Jvm.Cond.code ({ cls := "com/example/flex_actor/flexactor/core/FrameBuffer", name := "writeByte", desc := "(I)V" } : Jvm.MethodName) prog_32_method_12_code (2 : Nat) (Option.none : Option Jvm.ClassFile.FieldType), Jvm.Cond.code ({ cls := "com/example/flex_actor/flexactor/core/FrameBuffer", name := "toByteArray", desc := "()[B" } : Jvm.MethodName) prog_32_method_8_code (1 : Nat) (Option.some (Jvm.ClassFile.FieldType.array Jvm.ClassFile.FieldType.byte)), Jvm.Cond.code ({ cls := "java/util/Arrays", name := "copyOf", desc := "([BI)[B" } : Jvm.MethodName) jdk_65_method_121_code (3 : Nat) (Option.some (Jvm.ClassFile.FieldType.array Jvm.ClassFile.FieldType.byte)), Jvm.Cond.code ({ cls := "java/lang/Math", name := "min", desc := "(II)I" } : Jvm.MethodName) jdk_29_method_69_code (2 : Nat) (Option.some Jvm.ClassFile.FieldType.int), Jvm.Cond.code ({ cls := "com/example/flex_actor/flexactor/core/FrameBufferAbandonPinLaw", name := "prefixOk", desc := "([BII)Z" } : Jvm.MethodName) method_3_code (3 : Nat) (Option.some Jvm.ClassFile.FieldType.boolean), Jvm.Cond.code ({ cls := "com/example/flex_actor/flexactor/core/FrameBuffer", name := "begin", desc := "(B)V" } : Jvm.MethodName) prog_32_method_2_code (2 : Nat) (Option.none : Option Jvm.ClassFile.FieldType), Jvm.Cond.code ({ cls := "com/example/flex_actor/flexactor/core/FrameBuffer", name := "end", desc := "()V" } : Jvm.MethodName) prog_32_method_3_code (2 : Nat) (Option.none : Option Jvm.ClassFile.FieldType)]
set_option maxRecDepth 65536 in
theorem codes_eq : words1.filter isCode = codes1 := rfl
theorem w_codes : ∀ c ∈ words1.filter isCode, c.before args0 about1 = true := by
  rw [codes_eq]
  intro c hc
  simp only [codes1, List.mem_cons, List.not_mem_nil, or_false] at hc
  rcases hc with rfl | rfl | rfl | rfl | rfl | rfl | rfl | rfl | rfl | rfl | rfl | rfl | rfl | rfl | rfl
  · exact w_c0
  · exact w_c1
  · exact w_c2
  · exact w_c3
  · exact w_c4
  · exact w_c5
  · exact w_c6
  · exact w_c7
  · exact w_c8
  · exact w_c9
  · exact w_c10
  · exact w_c11
  · exact w_c12
  · exact w_c13
  · exact w_c14
set_option maxRecDepth 65536 in
theorem w_t1 : (words1.take 24).all (fun c => isCode c || c.before args0 about1) = true := by decide +kernel
set_option maxRecDepth 65536 in
theorem w_t2 : ((words1.drop 24).take 24).all (fun c => isCode c || c.before args0 about1) = true := by decide +kernel
set_option maxRecDepth 65536 in
theorem w_t3 : (((words1.drop 24).drop 24).take 24).all (fun c => isCode c || c.before args0 about1) = true := by decide +kernel
set_option maxRecDepth 65536 in
theorem w_t4 : (((words1.drop 24).drop 24).drop 24).all (fun c => isCode c || c.before args0 about1) = true := by decide +kernel
theorem w_tables : (allAtoms (Jvm.Cond.code x code maxLocals ret :: tables_1)).before args0 about1 = true := by
  rw [allAtoms_all]
  show words1.all (fun c => c.before args0 about1) = true
  refine all_split ?_ w_codes
  rw [← List.take_append_drop 24 words1, List.all_append, w_t1, ← List.take_append_drop 24 (words1.drop 24), List.all_append, w_t2, ← List.take_append_drop 24 ((words1.drop 24).drop 24), List.all_append, w_t3, w_t4]
  rfl
set_option maxRecDepth 65536 in
theorem w_case : (Jvm.Cond.and given_1 narrow_1).before args0 about1 = true := by decide +kernel
theorem w_applies : (headSpec (Jvm.Cond.code x code maxLocals ret :: tables_1) room_1).applies x e0.platform about1 = true :=
  (Spec.applies_iff w_frames).mpr ⟨w_running, w_runnable, w_alone, w_named, w_hears, w_ripe, w_room, w_tables⟩
theorem atStart : AtStart classFile x code maxLocals ret World_1 tables_1 room_1 Calls_1 rest_1 Pre_1 launch0 p0 e0 about1 theMethod args0 below0 :=
  ⟨lists_1, trivial, launch0.admits_env _ _ _, launch0.least_env, fairChoices_fair.cas, fairChoices_fair.clock, w_frames, w_args, w_heap, w_applies, trivial, trivial, w_case⟩
end start1
theorem witness_1 : WitnessClaimed_1 := ⟨start1.p0, start1.e0, start1.about1, start1.theMethod, start1.args0, start1.below0, start1.atStart⟩
end Jvm.Pilot.@@N@@
