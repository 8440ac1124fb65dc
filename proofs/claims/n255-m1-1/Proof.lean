import JvmDerived
import JvmDerived.Pilot.@@N@@Statement
import JvmDerived.Pilot.@@N@@Code
set_option linter.unusedVariables false
set_option linter.unusedSimpArgs false
namespace Jvm.RoadKit
open Sem ClassFile Op Lib Jvm.Stand Jvm.Free Jvm.LawKit
section New
variable {p : Program} {l : Launch} {e : Env} {R : Room} {s : State} {m : MethodId} {args : Array Value} {below : List Frame} {meth : Method} {c : Code} {T : State} {locs : List Loc} {cells slots : Nat}
theorem retI (X : Stand p l e R s m args below meth c T locs cells slots) (hx : p.tables.exec = Jvm.exec) {pc : Nat} {Ls : Array Slot} {z : Int32} {rest : List Value} (hret : meth.sig.returnType = some .int) (hd : decode c.code pc = .ok (.ireturn, 1)) {fs : List Frame}
    (hl : ∀ (f : JFrame) (acts : List Action), f.method = m → f.locked = none → f.entered = [] → (doReturn e (T.setTop f) acts (some (.int z))).1 = T.setFrames fs) : Steps p.tables e below (T.setTop (mkF m pc Ls (.int z :: rest))) (T.setFrames fs) := by
  have hm' : T.vm.method? m = some meth := X.method'
  have hn : narrow .int (.int z) = .int z := rfl
  show Steps p.tables e below (T.setTop { method := m, pc := pc, locals := Ls, stack := _ :: rest, locked := none }) _
  jvm_step X.here [X.here.top, hx, hd, hm', hret, hn]
  first | (intro acts; rw [hl _ acts rfl rfl rfl]) | rw [hl _ _ rfl rfl rfl]
  exact Steps.refl _
variable {Z : State} {h : Heap} {a : Addr} {k : ClassId} {z j : Int32} {vs : List Value} {dv : Value}
theorem own_nar (x : Int32) : nar .byte (x.toInt8.toInt32) = x.toInt8.toInt32 := by
  show (x.toInt8.toInt32).toInt8.toInt32 = _
  rw [Int8.toInt8_toInt32]
theorem own_bal (X : Stand p l e R s m args below meth c T locs cells slots) (hx : p.tables.exec = Jvm.exec) (hZ : Z.Warmed39 s.vm) (eT : T.heap = h) (A : Arv Z h a k .byte z vs dv) (hj : ¬ j < 0 ∧ j < z) {v : Value} (hv : vs.getD j.toNatClampNeg dv = v)
    {g : JFrame} (hg : g.method = m) {rest : List Value} (hs : g.stack = .int j :: .ref a :: rest) (hd : decode c.code g.pc = .ok (.baload, 1)) (target : State)
    (hrest : Steps p.tables e below (T.setTop { g with pc := g.pc + 1, stack := v :: rest }) target) : Steps p.tables e below (T.setTop g) target := by
  obtain ⟨cl, Ar, -, S, N, H, -⟩ := A
  have hin := inb_of S hj
  exact X.baloadBytes hx (j := j) (v := v) (by rw [eT]; exact Ar.1) (State.isArrayOf_alike hZ.alike Ar.2.1) Ar.2.2 hin (Has.at H hin hv) hg hs hd target hrest
theorem own_len {ty : FieldType} (X : Stand p l e R s m args below meth c T locs cells slots) (hx : p.tables.exec = Jvm.exec) (hZ : Z.Warmed39 s.vm) (eT : T.heap = h) (A : Arv Z h a k ty z vs dv)
    {g : JFrame} (hg : g.method = m) {rest : List Value} (hs : g.stack = .ref a :: rest) (hd : decode c.code g.pc = .ok (.arraylength, 1)) (target : State)
    (hrest : Steps p.tables e below (T.setTop { g with pc := g.pc + 1, stack := .int z :: rest }) target) : Steps p.tables e below (T.setTop g) target := by
  obtain ⟨cl, Ar, -, S, N, H, -⟩ := A
  refine X.arraylength hx (by rw [eT]; exact Ar.1) (State.isArrayOf_alike hZ.alike Ar.2.1) hg hs hd target ?_
  rw [len_of S N]
  exact hrest
theorem own_bst (X : Stand p l e R s m args below meth c T locs cells slots) (hx : p.tables.exec = Jvm.exec) (hZ : Z.Warmed39 s.vm) (eT : T.heap = h) (A : Arv Z h a k .byte z vs dv) (hj : ¬ j < 0 ∧ j < z) {i : Nat} (hi : j.toNatClampNeg = i) (hl : i < vs.length) {x w : Int32} (hw : nar .byte x = w)
    {g : JFrame} (hg : g.method = m) {rest : List Value} (hs : g.stack = .int x :: .int j :: .ref a :: rest) (hd : decode c.code g.pc = .ok (.bastore, 1)) :
    ∃ T' h', Stand p l e R s m args below meth c T' (locs ++ [⟨a, j.toNatClampNeg⟩]) cells slots ∧ T'.heap = h' ∧ Wr h h' a j.toNatClampNeg (.int w) ∧ Arv Z h' a k .byte z (vs.set i (.int w)) dv ∧
      ∀ target, Steps p.tables e below (T'.setTop { g with pc := g.pc + 1, stack := rest }) target → Steps p.tables e below (T.setTop g) target := by
  obtain ⟨cl, Ar, q, S, N, H, G⟩ := A
  obtain ⟨T', h', X', e', W', st⟩ := stB X hx hZ eT Ar (j := j) (inb_of S hj) hg hs hd
  subst hw
  exact ⟨T', h', X', e', W', Arv.set Ar q S N H G (fits_nar_byte _) W' i hi hl, st⟩
theorem own_selp {s : State} {args : Array Value} {C : String} {y w : MethodName} (hc : y.cls = w.cls) (hsel : (Cond.selects C w w).before args s = true) (hpriv : s.PrivateAt y) (hinst : (Cond.instanceMethod y).before args s = true) (hy : y.cls ≠ "java/lang/invoke/MethodHandle" ∧ y.cls ≠ "java/lang/invoke/VarHandle") : (Cond.selects y.cls y y).before args s = true := by
  obtain ⟨c2, r2, m2, q1, q2, q3, q4, kP, hkP, hkPi⟩ := Cond.selects_spec hsel
  exact selects_self_of_private (by rw [hc]; exact findClass_of_methodNamed q3) hkP hkPi hpriv hinst hy
end New
end Jvm.RoadKit
namespace Jvm.Pilot.@@N@@
open Jvm Jvm.ClassFile Sem Op Lib Jvm.Free Jvm.Stand Jvm.LawKit Jvm.RoadKit Bundle Jvm.Pilot.@@N@@.Jvm.D
def own_cb (w1 s1 w2 s2 : Int64) : Int32 := if s1 < 0 ∨ s2 < 0 then (if s1 < s2 then 1 else 0) else if w1 < w2 then 1 else if w1 = w2 then (if s1 < s2 then 1 else 0) else 0
theorem own_anti (w1 s1 w2 s2 : Int64) (h : ¬ own_cb w1 s1 w2 s2 = 0) : own_cb w2 s2 w1 s1 = 0 := by
  simp only [own_cb, Int64.lt_iff_toInt_lt, ← Int64.toInt_inj] at h ⊢
  have e0 : (0 : Int64).toInt = 0 := rfl
  rw [e0] at h ⊢
  generalize w1.toInt = a at *
  generalize w2.toInt = b at *
  generalize s1.toInt = x at *
  generalize s2.toInt = y at *
  repeat' split at h
  all_goals (repeat' split)
  all_goals (first | rfl | (exfalso; omega) | (exfalso; exact h rfl))
theorem own_bt : nar .boolean (1 : Int32) = 1 := rfl
theorem own_bf : nar .boolean (0 : Int32) = 0 := rfl
theorem d1_0 : decode prog_12_method_25_code 0 = .ok (.lload_n 2, 1) := by decide +kernel
theorem d1_1 : decode prog_12_method_25_code 1 = .ok (.lconst 0, 1) := by decide +kernel
theorem d1_2 : decode prog_12_method_25_code 2 = .ok (.lcmp, 1) := by decide +kernel
theorem d1_3 : decode prog_12_method_25_code 3 = .ok (.ifCond .lt 10, 3) := by decide +kernel
theorem d1_13 : decode prog_12_method_25_code 13 = .ok (.lload_n 2, 1) := by decide +kernel
theorem d1_14 : decode prog_12_method_25_code 14 = .ok (.lload 6, 2) := by decide +kernel
theorem d1_16 : decode prog_12_method_25_code 16 = .ok (.lcmp, 1) := by decide +kernel
theorem d1_17 : decode prog_12_method_25_code 17 = .ok (.ifCond .ge 7, 3) := by decide +kernel
theorem d1_20 : decode prog_12_method_25_code 20 = .ok (.iconst 1, 1) := by decide +kernel
theorem d1_21 : decode prog_12_method_25_code 21 = .ok (.goto 4, 3) := by decide +kernel
theorem d1_25 : decode prog_12_method_25_code 25 = .ok (.istore 8, 2) := by decide +kernel
theorem d1_27 : decode prog_12_method_25_code 27 = .ok (.goto 31, 3) := by decide +kernel
theorem d1_58 : decode prog_12_method_25_code 58 = .ok (.iload 8, 2) := by decide +kernel
theorem d1_60 : decode prog_12_method_25_code 60 = .ok (.ireturn, 1) := by decide +kernel
theorem d1_24 : decode prog_12_method_25_code 24 = .ok (.iconst 0, 1) := by decide +kernel
theorem d1_6 : decode prog_12_method_25_code 6 = .ok (.lload 6, 2) := by decide +kernel
theorem d1_8 : decode prog_12_method_25_code 8 = .ok (.lconst 0, 1) := by decide +kernel
theorem d1_9 : decode prog_12_method_25_code 9 = .ok (.lcmp, 1) := by decide +kernel
theorem d1_10 : decode prog_12_method_25_code 10 = .ok (.ifCond .ge 20, 3) := by decide +kernel
theorem d1_30 : decode prog_12_method_25_code 30 = .ok (.lload_n 0, 1) := by decide +kernel
theorem d1_31 : decode prog_12_method_25_code 31 = .ok (.lload 4, 2) := by decide +kernel
theorem d1_33 : decode prog_12_method_25_code 33 = .ok (.lcmp, 1) := by decide +kernel
theorem d1_34 : decode prog_12_method_25_code 34 = .ok (.ifCond .lt 17, 3) := by decide +kernel
theorem d1_51 : decode prog_12_method_25_code 51 = .ok (.iconst 1, 1) := by decide +kernel
theorem d1_52 : decode prog_12_method_25_code 52 = .ok (.goto 4, 3) := by decide +kernel
theorem d1_56 : decode prog_12_method_25_code 56 = .ok (.istore 8, 2) := by decide +kernel
theorem d1_37 : decode prog_12_method_25_code 37 = .ok (.lload_n 0, 1) := by decide +kernel
theorem d1_38 : decode prog_12_method_25_code 38 = .ok (.lload 4, 2) := by decide +kernel
theorem d1_40 : decode prog_12_method_25_code 40 = .ok (.lcmp, 1) := by decide +kernel
theorem d1_41 : decode prog_12_method_25_code 41 = .ok (.ifCond .ne 14, 3) := by decide +kernel
theorem d1_44 : decode prog_12_method_25_code 44 = .ok (.lload_n 2, 1) := by decide +kernel
theorem d1_45 : decode prog_12_method_25_code 45 = .ok (.lload 6, 2) := by decide +kernel
theorem d1_47 : decode prog_12_method_25_code 47 = .ok (.lcmp, 1) := by decide +kernel
theorem d1_48 : decode prog_12_method_25_code 48 = .ok (.ifCond .ge 7, 3) := by decide +kernel
theorem d1_55 : decode prog_12_method_25_code 55 = .ok (.iconst 0, 1) := by decide +kernel
theorem pn_0 : plainName "org/threadpost/MessageHeap" = true := by first | (simp [plainName, overriddenIn]; done) | decide +kernel
theorem ef_rm1 (m : MethodId) (x0 : Int64) (x1 : Int64) (x2 : Int64) (x3 : Int64) : entryFrame m #[(.long x0), (.long x1), (.long x2), (.long x3)] 9 = mkF m 0 #[.val (.long x0), .second, .val (.long x1), .second, .val (.long x2), .second, .val (.long x3), .second, .unset] [] := by first | (simp [entryFrame, mkF, argsToLocals, Value.category]; done) | rfl
def Q1 (Z : State) (q1 : Int64) (q2 : Int64) (q3 : Int64) (q4 : Int64) (h0 : Heap) (n0 : Nat) (v : Option Value) (h : Heap) (L : List Loc) : Prop := v = some (.int (own_cb q1 q2 q3 q4)) ∧ Fr n0 L ∧ h = h0
set_option maxRecDepth 65536 in
set_option maxHeartbeats 40000000 in
theorem rm1 (l : Launch) (Z : State) (a0 : Array Value) (hw : ∀ d ∈ tables_1, d.before a0 Z = true) (ws : List Jvm.Cond) (q1 : Int64) (q2 : Int64) (q3 : Int64) (q4 : Int64) (h0 : Heap) (n0 : Nat) (Z0 : n0 ≤ h0.size)  :
    MetFree l (⟨"org/threadpost/MessageHeap", "comesBefore", "(JJJJ)Z"⟩ : MethodName) (head1 (Jvm.Cond.code (⟨"org/threadpost/MessageHeap", "comesBefore", "(JJJJ)Z"⟩ : MethodName) prog_12_method_25_code 9 (some .boolean) :: ws) ({ frames := 0, cells := 0, slots := 0, locals := 0 } : Room)) (fun a U => a = #[(.long q1), (.long q2), (.long q3), (.long q4)] ∧ Z.Warmed39 U.vm ∧ U.heap = h0) (fun _ _ _ _ _ => True) (fun _ U o U' => ∃ v L, o = .returned v ∧ Q1 Z q1 q2 q3 q4 h0 n0 v U'.heap L ∧ FrameEnd U o U' L ({ frames := 0, cells := 0, slots := 0, locals := 0 } : Room).cells ({ frames := 0, cells := 0, slots := 0, locals := 0 } : Room).slots) := by
  refine MetFree.of_bodySF (plainFor_of_name pn_0) hisR ?_
  intro p e s m args below meth c s₁ Bd hml0 hP hK
  obtain ⟨rfl, hZ, hh⟩ := hP
  have hx := Bd.exec
  have hby := Bd.bytes
  have hml : c.maxLocals = 9 := hml0
  have hown : s.vm.findClass "org/threadpost/MessageHeap" = some m.cls := findClass_of_methodNamed Bd.named
  have hnm := (name_of_methodNamed Bd.named Bd.method).1
  have X0 : Stand p l e ({ frames := 0, cells := 0, slots := 0, locals := 0 } : Room) s m #[(.long q1), (.long q2), (.long q3), (.long q4)] below meth c s₁ [] 0 0 := Stand.of_body Bd
  have e0 : s₁.heap = h0 := by rw [← hh, Bd.state]; rfl
  have N0 := Fr.nil n0
  have pre0 : ∀ t, Steps p.tables e below (s₁.setTop (mkF m 0 #[.val (.long q1), .second, .val (.long q2), .second, .val (.long q3), .second, .val (.long q4), .second, .unset] [])) t → Steps p.tables e below (s₁.setTop (entryFrame m #[(.long q1), (.long q2), (.long q3), (.long q4)] 9)) t := fun t k => castTop (ef_rm1 m q1 q2 q3 q4) k
  have pre101 : ∀ t, Steps p.tables e below (s₁.setTop (mkF m 3 #[.val (.long q1), .second, .val (.long q2), .second, .val (.long q3), .second, .val (.long q4), .second, .unset] [(.int (lcmpW q2 (0 : Int64)))])) t → Steps p.tables e below (s₁.setTop (entryFrame m #[(.long q1), (.long q2), (.long q3), (.long q4)] 9)) t := by
    intro t kt
    refine pre0 t ?_
    show Steps p.tables e below (s₁.setTop (mkF m 0 #[.val (.long q1), .second, .val (.long q2), .second, .val (.long q3), .second, .val (.long q4), .second, .unset] [])) _
    refine XS.lloadN X0.here hx rfl (hb hby d1_0) rfl ?_
    show Steps p.tables e below (s₁.setTop (mkF m 1 #[.val (.long q1), .second, .val (.long q2), .second, .val (.long q3), .second, .val (.long q4), .second, .unset] [(.long q2)])) _
    refine XS.lconst X0.here hx rfl (hb hby d1_1) ?_
    show Steps p.tables e below (s₁.setTop (mkF m 2 #[.val (.long q1), .second, .val (.long q2), .second, .val (.long q3), .second, .val (.long q4), .second, .unset] [(.long (0 : Int64)), (.long q2)])) _
    refine XS.lcmp X0.here hx rfl (hb hby d1_2) rfl ?_
    exact kt
  by_cases hc3 : q2 < (0 : Int64)
  · have pre102 : ∀ t, Steps p.tables e below (s₁.setTop (mkF m 17 #[.val (.long q1), .second, .val (.long q2), .second, .val (.long q3), .second, .val (.long q4), .second, .unset] [(.int (lcmpW q2 q4))])) t → Steps p.tables e below (s₁.setTop (entryFrame m #[(.long q1), (.long q2), (.long q3), (.long q4)] 9)) t := by
      intro t kt
      refine pre101 t ?_
      show Steps p.tables e below (s₁.setTop (mkF m 3 #[.val (.long q1), .second, .val (.long q2), .second, .val (.long q3), .second, .val (.long q4), .second, .unset] [(.int (lcmpW q2 (0 : Int64)))])) _
      refine XS.ifYes X0.here hx rfl (pc0 := 3) (pc' := 13) rfl (hb hby d1_3) rfl ((if0 _ _).trans (tlt ((lw_lt _ _).mpr hc3)).1) (by decide) (by decide) ?_
      show Steps p.tables e below (s₁.setTop (mkF m 13 #[.val (.long q1), .second, .val (.long q2), .second, .val (.long q3), .second, .val (.long q4), .second, .unset] [])) _
      refine XS.lloadN X0.here hx rfl (hb hby d1_13) rfl ?_
      show Steps p.tables e below (s₁.setTop (mkF m 14 #[.val (.long q1), .second, .val (.long q2), .second, .val (.long q3), .second, .val (.long q4), .second, .unset] [(.long q2)])) _
      refine XS.lload X0.here hx rfl (hb hby d1_14) rfl ?_
      show Steps p.tables e below (s₁.setTop (mkF m 16 #[.val (.long q1), .second, .val (.long q2), .second, .val (.long q3), .second, .val (.long q4), .second, .unset] [(.long q4), (.long q2)])) _
      refine XS.lcmp X0.here hx rfl (hb hby d1_16) rfl ?_
      exact kt
    by_cases hc17 : q2 < q4
    · have pre103 : ∀ t, Steps p.tables e below (s₁.setTop (mkF m 60 #[.val (.long q1), .second, .val (.long q2), .second, .val (.long q3), .second, .val (.long q4), .second, .val (.int (1 : Int32))] [(.int (1 : Int32))])) t → Steps p.tables e below (s₁.setTop (entryFrame m #[(.long q1), (.long q2), (.long q3), (.long q4)] 9)) t := by
        intro t kt
        refine pre102 t ?_
        show Steps p.tables e below (s₁.setTop (mkF m 17 #[.val (.long q1), .second, .val (.long q2), .second, .val (.long q3), .second, .val (.long q4), .second, .unset] [(.int (lcmpW q2 q4))])) _
        refine XS.ifNo X0.here hx rfl (hb hby d1_17) rfl ((if0 _ _).trans (tlt ((lw_lt _ _).mpr hc17)).2.1) ?_
        show Steps p.tables e below (s₁.setTop (mkF m 20 #[.val (.long q1), .second, .val (.long q2), .second, .val (.long q3), .second, .val (.long q4), .second, .unset] [])) _
        refine XS.iconst X0.here hx rfl (hb hby d1_20) ?_
        show Steps p.tables e below (s₁.setTop (mkF m 21 #[.val (.long q1), .second, .val (.long q2), .second, .val (.long q3), .second, .val (.long q4), .second, .unset] [(.int (1 : Int32))])) _
        refine XS.goto X0.here hx rfl (pc0 := 21) (pc' := 25) rfl (hb hby d1_21) (by decide) (by decide) ?_
        show Steps p.tables e below (s₁.setTop (mkF m 25 #[.val (.long q1), .second, .val (.long q2), .second, .val (.long q3), .second, .val (.long q4), .second, .unset] [(.int (1 : Int32))])) _
        refine XS.istore X0.here hx rfl (hb hby d1_25) rfl (l' := #[.val (.long q1), .second, .val (.long q2), .second, .val (.long q3), .second, .val (.long q4), .second, .val (.int (1 : Int32))]) rfl ?_
        show Steps p.tables e below (s₁.setTop (mkF m 27 #[.val (.long q1), .second, .val (.long q2), .second, .val (.long q3), .second, .val (.long q4), .second, .val (.int (1 : Int32))] [])) _
        refine XS.goto X0.here hx rfl (pc0 := 27) (pc' := 58) rfl (hb hby d1_27) (by decide) (by decide) ?_
        show Steps p.tables e below (s₁.setTop (mkF m 58 #[.val (.long q1), .second, .val (.long q2), .second, .val (.long q3), .second, .val (.long q4), .second, .val (.int (1 : Int32))] [])) _
        refine XS.iload X0.here hx rfl (hb hby d1_58) rfl ?_
        exact kt
      obtain ⟨fsx, hr, hrun, hended, hW, hsame⟩ := X0.leave (v := some (.int (nar .boolean (1 : Int32)))) (fun h => by rw [Bd.returns] at h; cases h)
      refine ⟨_, _, pre103 _ ?_, hrun, hended, _, _, rfl, ?_, ⟨_, rfl⟩, hW, hsame.mono (by decide) (by decide)⟩
      · exact retN X0 hx (t := .boolean) Bd.returns (by simp) (hb hby d1_60) hr
      · show Q1 Z q1 q2 q3 q4 h0 n0 _ s₁.heap _
        rw [e0]
        refine ⟨congrArg (fun z => some (Value.int z)) ?_, N0, rfl⟩
        have e0 : (0 : Int64).toInt = 0 := rfl
        simp only [own_bt, own_bf, own_cb, Int64.lt_iff_toInt_lt, ← Int64.toInt_inj, e0] at hc3 hc17 ⊢
        repeat' split
        all_goals (first | rfl | (exfalso; omega))
    · have pre104 : ∀ t, Steps p.tables e below (s₁.setTop (mkF m 60 #[.val (.long q1), .second, .val (.long q2), .second, .val (.long q3), .second, .val (.long q4), .second, .val (.int (0 : Int32))] [(.int (0 : Int32))])) t → Steps p.tables e below (s₁.setTop (entryFrame m #[(.long q1), (.long q2), (.long q3), (.long q4)] 9)) t := by
        intro t kt
        refine pre102 t ?_
        show Steps p.tables e below (s₁.setTop (mkF m 17 #[.val (.long q1), .second, .val (.long q2), .second, .val (.long q3), .second, .val (.long q4), .second, .unset] [(.int (lcmpW q2 q4))])) _
        refine XS.ifYes X0.here hx rfl (pc0 := 17) (pc' := 24) rfl (hb hby d1_17) rfl ((if0 _ _).trans (flt (fun q => hc17 ((lw_lt _ _).mp q))).2.1) (by decide) (by decide) ?_
        show Steps p.tables e below (s₁.setTop (mkF m 24 #[.val (.long q1), .second, .val (.long q2), .second, .val (.long q3), .second, .val (.long q4), .second, .unset] [])) _
        refine XS.iconst X0.here hx rfl (hb hby d1_24) ?_
        show Steps p.tables e below (s₁.setTop (mkF m 25 #[.val (.long q1), .second, .val (.long q2), .second, .val (.long q3), .second, .val (.long q4), .second, .unset] [(.int (0 : Int32))])) _
        refine XS.istore X0.here hx rfl (hb hby d1_25) rfl (l' := #[.val (.long q1), .second, .val (.long q2), .second, .val (.long q3), .second, .val (.long q4), .second, .val (.int (0 : Int32))]) rfl ?_
        show Steps p.tables e below (s₁.setTop (mkF m 27 #[.val (.long q1), .second, .val (.long q2), .second, .val (.long q3), .second, .val (.long q4), .second, .val (.int (0 : Int32))] [])) _
        refine XS.goto X0.here hx rfl (pc0 := 27) (pc' := 58) rfl (hb hby d1_27) (by decide) (by decide) ?_
        show Steps p.tables e below (s₁.setTop (mkF m 58 #[.val (.long q1), .second, .val (.long q2), .second, .val (.long q3), .second, .val (.long q4), .second, .val (.int (0 : Int32))] [])) _
        refine XS.iload X0.here hx rfl (hb hby d1_58) rfl ?_
        exact kt
      obtain ⟨fsx, hr, hrun, hended, hW, hsame⟩ := X0.leave (v := some (.int (nar .boolean (0 : Int32)))) (fun h => by rw [Bd.returns] at h; cases h)
      refine ⟨_, _, pre104 _ ?_, hrun, hended, _, _, rfl, ?_, ⟨_, rfl⟩, hW, hsame.mono (by decide) (by decide)⟩
      · exact retN X0 hx (t := .boolean) Bd.returns (by simp) (hb hby d1_60) hr
      · show Q1 Z q1 q2 q3 q4 h0 n0 _ s₁.heap _
        rw [e0]
        refine ⟨congrArg (fun z => some (Value.int z)) ?_, N0, rfl⟩
        have e0 : (0 : Int64).toInt = 0 := rfl
        simp only [own_bt, own_bf, own_cb, Int64.lt_iff_toInt_lt, ← Int64.toInt_inj, e0] at hc3 hc17 ⊢
        repeat' split
        all_goals (first | rfl | (exfalso; omega))
  · have pre105 : ∀ t, Steps p.tables e below (s₁.setTop (mkF m 10 #[.val (.long q1), .second, .val (.long q2), .second, .val (.long q3), .second, .val (.long q4), .second, .unset] [(.int (lcmpW q4 (0 : Int64)))])) t → Steps p.tables e below (s₁.setTop (entryFrame m #[(.long q1), (.long q2), (.long q3), (.long q4)] 9)) t := by
      intro t kt
      refine pre101 t ?_
      show Steps p.tables e below (s₁.setTop (mkF m 3 #[.val (.long q1), .second, .val (.long q2), .second, .val (.long q3), .second, .val (.long q4), .second, .unset] [(.int (lcmpW q2 (0 : Int64)))])) _
      refine XS.ifNo X0.here hx rfl (hb hby d1_3) rfl ((if0 _ _).trans (flt (fun q => hc3 ((lw_lt _ _).mp q))).1) ?_
      show Steps p.tables e below (s₁.setTop (mkF m 6 #[.val (.long q1), .second, .val (.long q2), .second, .val (.long q3), .second, .val (.long q4), .second, .unset] [])) _
      refine XS.lload X0.here hx rfl (hb hby d1_6) rfl ?_
      show Steps p.tables e below (s₁.setTop (mkF m 8 #[.val (.long q1), .second, .val (.long q2), .second, .val (.long q3), .second, .val (.long q4), .second, .unset] [(.long q4)])) _
      refine XS.lconst X0.here hx rfl (hb hby d1_8) ?_
      show Steps p.tables e below (s₁.setTop (mkF m 9 #[.val (.long q1), .second, .val (.long q2), .second, .val (.long q3), .second, .val (.long q4), .second, .unset] [(.long (0 : Int64)), (.long q4)])) _
      refine XS.lcmp X0.here hx rfl (hb hby d1_9) rfl ?_
      exact kt
    by_cases hc10 : q4 < (0 : Int64)
    · have pre106 : ∀ t, Steps p.tables e below (s₁.setTop (mkF m 17 #[.val (.long q1), .second, .val (.long q2), .second, .val (.long q3), .second, .val (.long q4), .second, .unset] [(.int (lcmpW q2 q4))])) t → Steps p.tables e below (s₁.setTop (entryFrame m #[(.long q1), (.long q2), (.long q3), (.long q4)] 9)) t := by
        intro t kt
        refine pre105 t ?_
        show Steps p.tables e below (s₁.setTop (mkF m 10 #[.val (.long q1), .second, .val (.long q2), .second, .val (.long q3), .second, .val (.long q4), .second, .unset] [(.int (lcmpW q4 (0 : Int64)))])) _
        refine XS.ifNo X0.here hx rfl (hb hby d1_10) rfl ((if0 _ _).trans (tlt ((lw_lt _ _).mpr hc10)).2.1) ?_
        show Steps p.tables e below (s₁.setTop (mkF m 13 #[.val (.long q1), .second, .val (.long q2), .second, .val (.long q3), .second, .val (.long q4), .second, .unset] [])) _
        refine XS.lloadN X0.here hx rfl (hb hby d1_13) rfl ?_
        show Steps p.tables e below (s₁.setTop (mkF m 14 #[.val (.long q1), .second, .val (.long q2), .second, .val (.long q3), .second, .val (.long q4), .second, .unset] [(.long q2)])) _
        refine XS.lload X0.here hx rfl (hb hby d1_14) rfl ?_
        show Steps p.tables e below (s₁.setTop (mkF m 16 #[.val (.long q1), .second, .val (.long q2), .second, .val (.long q3), .second, .val (.long q4), .second, .unset] [(.long q4), (.long q2)])) _
        refine XS.lcmp X0.here hx rfl (hb hby d1_16) rfl ?_
        exact kt
      by_cases hc17 : q2 < q4
      · have pre107 : ∀ t, Steps p.tables e below (s₁.setTop (mkF m 60 #[.val (.long q1), .second, .val (.long q2), .second, .val (.long q3), .second, .val (.long q4), .second, .val (.int (1 : Int32))] [(.int (1 : Int32))])) t → Steps p.tables e below (s₁.setTop (entryFrame m #[(.long q1), (.long q2), (.long q3), (.long q4)] 9)) t := by
          intro t kt
          refine pre106 t ?_
          show Steps p.tables e below (s₁.setTop (mkF m 17 #[.val (.long q1), .second, .val (.long q2), .second, .val (.long q3), .second, .val (.long q4), .second, .unset] [(.int (lcmpW q2 q4))])) _
          refine XS.ifNo X0.here hx rfl (hb hby d1_17) rfl ((if0 _ _).trans (tlt ((lw_lt _ _).mpr hc17)).2.1) ?_
          show Steps p.tables e below (s₁.setTop (mkF m 20 #[.val (.long q1), .second, .val (.long q2), .second, .val (.long q3), .second, .val (.long q4), .second, .unset] [])) _
          refine XS.iconst X0.here hx rfl (hb hby d1_20) ?_
          show Steps p.tables e below (s₁.setTop (mkF m 21 #[.val (.long q1), .second, .val (.long q2), .second, .val (.long q3), .second, .val (.long q4), .second, .unset] [(.int (1 : Int32))])) _
          refine XS.goto X0.here hx rfl (pc0 := 21) (pc' := 25) rfl (hb hby d1_21) (by decide) (by decide) ?_
          show Steps p.tables e below (s₁.setTop (mkF m 25 #[.val (.long q1), .second, .val (.long q2), .second, .val (.long q3), .second, .val (.long q4), .second, .unset] [(.int (1 : Int32))])) _
          refine XS.istore X0.here hx rfl (hb hby d1_25) rfl (l' := #[.val (.long q1), .second, .val (.long q2), .second, .val (.long q3), .second, .val (.long q4), .second, .val (.int (1 : Int32))]) rfl ?_
          show Steps p.tables e below (s₁.setTop (mkF m 27 #[.val (.long q1), .second, .val (.long q2), .second, .val (.long q3), .second, .val (.long q4), .second, .val (.int (1 : Int32))] [])) _
          refine XS.goto X0.here hx rfl (pc0 := 27) (pc' := 58) rfl (hb hby d1_27) (by decide) (by decide) ?_
          show Steps p.tables e below (s₁.setTop (mkF m 58 #[.val (.long q1), .second, .val (.long q2), .second, .val (.long q3), .second, .val (.long q4), .second, .val (.int (1 : Int32))] [])) _
          refine XS.iload X0.here hx rfl (hb hby d1_58) rfl ?_
          exact kt
        obtain ⟨fsx, hr, hrun, hended, hW, hsame⟩ := X0.leave (v := some (.int (nar .boolean (1 : Int32)))) (fun h => by rw [Bd.returns] at h; cases h)
        refine ⟨_, _, pre107 _ ?_, hrun, hended, _, _, rfl, ?_, ⟨_, rfl⟩, hW, hsame.mono (by decide) (by decide)⟩
        · exact retN X0 hx (t := .boolean) Bd.returns (by simp) (hb hby d1_60) hr
        · show Q1 Z q1 q2 q3 q4 h0 n0 _ s₁.heap _
          rw [e0]
          refine ⟨congrArg (fun z => some (Value.int z)) ?_, N0, rfl⟩
          have e0 : (0 : Int64).toInt = 0 := rfl
          simp only [own_bt, own_bf, own_cb, Int64.lt_iff_toInt_lt, ← Int64.toInt_inj, e0] at hc3 hc10 hc17 ⊢
          repeat' split
          all_goals (first | rfl | (exfalso; omega))
      · have pre108 : ∀ t, Steps p.tables e below (s₁.setTop (mkF m 60 #[.val (.long q1), .second, .val (.long q2), .second, .val (.long q3), .second, .val (.long q4), .second, .val (.int (0 : Int32))] [(.int (0 : Int32))])) t → Steps p.tables e below (s₁.setTop (entryFrame m #[(.long q1), (.long q2), (.long q3), (.long q4)] 9)) t := by
          intro t kt
          refine pre106 t ?_
          show Steps p.tables e below (s₁.setTop (mkF m 17 #[.val (.long q1), .second, .val (.long q2), .second, .val (.long q3), .second, .val (.long q4), .second, .unset] [(.int (lcmpW q2 q4))])) _
          refine XS.ifYes X0.here hx rfl (pc0 := 17) (pc' := 24) rfl (hb hby d1_17) rfl ((if0 _ _).trans (flt (fun q => hc17 ((lw_lt _ _).mp q))).2.1) (by decide) (by decide) ?_
          show Steps p.tables e below (s₁.setTop (mkF m 24 #[.val (.long q1), .second, .val (.long q2), .second, .val (.long q3), .second, .val (.long q4), .second, .unset] [])) _
          refine XS.iconst X0.here hx rfl (hb hby d1_24) ?_
          show Steps p.tables e below (s₁.setTop (mkF m 25 #[.val (.long q1), .second, .val (.long q2), .second, .val (.long q3), .second, .val (.long q4), .second, .unset] [(.int (0 : Int32))])) _
          refine XS.istore X0.here hx rfl (hb hby d1_25) rfl (l' := #[.val (.long q1), .second, .val (.long q2), .second, .val (.long q3), .second, .val (.long q4), .second, .val (.int (0 : Int32))]) rfl ?_
          show Steps p.tables e below (s₁.setTop (mkF m 27 #[.val (.long q1), .second, .val (.long q2), .second, .val (.long q3), .second, .val (.long q4), .second, .val (.int (0 : Int32))] [])) _
          refine XS.goto X0.here hx rfl (pc0 := 27) (pc' := 58) rfl (hb hby d1_27) (by decide) (by decide) ?_
          show Steps p.tables e below (s₁.setTop (mkF m 58 #[.val (.long q1), .second, .val (.long q2), .second, .val (.long q3), .second, .val (.long q4), .second, .val (.int (0 : Int32))] [])) _
          refine XS.iload X0.here hx rfl (hb hby d1_58) rfl ?_
          exact kt
        obtain ⟨fsx, hr, hrun, hended, hW, hsame⟩ := X0.leave (v := some (.int (nar .boolean (0 : Int32)))) (fun h => by rw [Bd.returns] at h; cases h)
        refine ⟨_, _, pre108 _ ?_, hrun, hended, _, _, rfl, ?_, ⟨_, rfl⟩, hW, hsame.mono (by decide) (by decide)⟩
        · exact retN X0 hx (t := .boolean) Bd.returns (by simp) (hb hby d1_60) hr
        · show Q1 Z q1 q2 q3 q4 h0 n0 _ s₁.heap _
          rw [e0]
          refine ⟨congrArg (fun z => some (Value.int z)) ?_, N0, rfl⟩
          have e0 : (0 : Int64).toInt = 0 := rfl
          simp only [own_bt, own_bf, own_cb, Int64.lt_iff_toInt_lt, ← Int64.toInt_inj, e0] at hc3 hc10 hc17 ⊢
          repeat' split
          all_goals (first | rfl | (exfalso; omega))
    · have pre109 : ∀ t, Steps p.tables e below (s₁.setTop (mkF m 34 #[.val (.long q1), .second, .val (.long q2), .second, .val (.long q3), .second, .val (.long q4), .second, .unset] [(.int (lcmpW q1 q3))])) t → Steps p.tables e below (s₁.setTop (entryFrame m #[(.long q1), (.long q2), (.long q3), (.long q4)] 9)) t := by
        intro t kt
        refine pre105 t ?_
        show Steps p.tables e below (s₁.setTop (mkF m 10 #[.val (.long q1), .second, .val (.long q2), .second, .val (.long q3), .second, .val (.long q4), .second, .unset] [(.int (lcmpW q4 (0 : Int64)))])) _
        refine XS.ifYes X0.here hx rfl (pc0 := 10) (pc' := 30) rfl (hb hby d1_10) rfl ((if0 _ _).trans (flt (fun q => hc10 ((lw_lt _ _).mp q))).2.1) (by decide) (by decide) ?_
        show Steps p.tables e below (s₁.setTop (mkF m 30 #[.val (.long q1), .second, .val (.long q2), .second, .val (.long q3), .second, .val (.long q4), .second, .unset] [])) _
        refine XS.lloadN X0.here hx rfl (hb hby d1_30) rfl ?_
        show Steps p.tables e below (s₁.setTop (mkF m 31 #[.val (.long q1), .second, .val (.long q2), .second, .val (.long q3), .second, .val (.long q4), .second, .unset] [(.long q1)])) _
        refine XS.lload X0.here hx rfl (hb hby d1_31) rfl ?_
        show Steps p.tables e below (s₁.setTop (mkF m 33 #[.val (.long q1), .second, .val (.long q2), .second, .val (.long q3), .second, .val (.long q4), .second, .unset] [(.long q3), (.long q1)])) _
        refine XS.lcmp X0.here hx rfl (hb hby d1_33) rfl ?_
        exact kt
      by_cases hc34 : q1 < q3
      · have pre110 : ∀ t, Steps p.tables e below (s₁.setTop (mkF m 60 #[.val (.long q1), .second, .val (.long q2), .second, .val (.long q3), .second, .val (.long q4), .second, .val (.int (1 : Int32))] [(.int (1 : Int32))])) t → Steps p.tables e below (s₁.setTop (entryFrame m #[(.long q1), (.long q2), (.long q3), (.long q4)] 9)) t := by
          intro t kt
          refine pre109 t ?_
          show Steps p.tables e below (s₁.setTop (mkF m 34 #[.val (.long q1), .second, .val (.long q2), .second, .val (.long q3), .second, .val (.long q4), .second, .unset] [(.int (lcmpW q1 q3))])) _
          refine XS.ifYes X0.here hx rfl (pc0 := 34) (pc' := 51) rfl (hb hby d1_34) rfl ((if0 _ _).trans (tlt ((lw_lt _ _).mpr hc34)).1) (by decide) (by decide) ?_
          show Steps p.tables e below (s₁.setTop (mkF m 51 #[.val (.long q1), .second, .val (.long q2), .second, .val (.long q3), .second, .val (.long q4), .second, .unset] [])) _
          refine XS.iconst X0.here hx rfl (hb hby d1_51) ?_
          show Steps p.tables e below (s₁.setTop (mkF m 52 #[.val (.long q1), .second, .val (.long q2), .second, .val (.long q3), .second, .val (.long q4), .second, .unset] [(.int (1 : Int32))])) _
          refine XS.goto X0.here hx rfl (pc0 := 52) (pc' := 56) rfl (hb hby d1_52) (by decide) (by decide) ?_
          show Steps p.tables e below (s₁.setTop (mkF m 56 #[.val (.long q1), .second, .val (.long q2), .second, .val (.long q3), .second, .val (.long q4), .second, .unset] [(.int (1 : Int32))])) _
          refine XS.istore X0.here hx rfl (hb hby d1_56) rfl (l' := #[.val (.long q1), .second, .val (.long q2), .second, .val (.long q3), .second, .val (.long q4), .second, .val (.int (1 : Int32))]) rfl ?_
          show Steps p.tables e below (s₁.setTop (mkF m 58 #[.val (.long q1), .second, .val (.long q2), .second, .val (.long q3), .second, .val (.long q4), .second, .val (.int (1 : Int32))] [])) _
          refine XS.iload X0.here hx rfl (hb hby d1_58) rfl ?_
          exact kt
        obtain ⟨fsx, hr, hrun, hended, hW, hsame⟩ := X0.leave (v := some (.int (nar .boolean (1 : Int32)))) (fun h => by rw [Bd.returns] at h; cases h)
        refine ⟨_, _, pre110 _ ?_, hrun, hended, _, _, rfl, ?_, ⟨_, rfl⟩, hW, hsame.mono (by decide) (by decide)⟩
        · exact retN X0 hx (t := .boolean) Bd.returns (by simp) (hb hby d1_60) hr
        · show Q1 Z q1 q2 q3 q4 h0 n0 _ s₁.heap _
          rw [e0]
          refine ⟨congrArg (fun z => some (Value.int z)) ?_, N0, rfl⟩
          have e0 : (0 : Int64).toInt = 0 := rfl
          simp only [own_bt, own_bf, own_cb, Int64.lt_iff_toInt_lt, ← Int64.toInt_inj, e0] at hc3 hc10 hc34 ⊢
          repeat' split
          all_goals (first | rfl | (exfalso; omega))
      · have pre111 : ∀ t, Steps p.tables e below (s₁.setTop (mkF m 41 #[.val (.long q1), .second, .val (.long q2), .second, .val (.long q3), .second, .val (.long q4), .second, .unset] [(.int (lcmpW q1 q3))])) t → Steps p.tables e below (s₁.setTop (entryFrame m #[(.long q1), (.long q2), (.long q3), (.long q4)] 9)) t := by
          intro t kt
          refine pre109 t ?_
          show Steps p.tables e below (s₁.setTop (mkF m 34 #[.val (.long q1), .second, .val (.long q2), .second, .val (.long q3), .second, .val (.long q4), .second, .unset] [(.int (lcmpW q1 q3))])) _
          refine XS.ifNo X0.here hx rfl (hb hby d1_34) rfl ((if0 _ _).trans (flt (fun q => hc34 ((lw_lt _ _).mp q))).1) ?_
          show Steps p.tables e below (s₁.setTop (mkF m 37 #[.val (.long q1), .second, .val (.long q2), .second, .val (.long q3), .second, .val (.long q4), .second, .unset] [])) _
          refine XS.lloadN X0.here hx rfl (hb hby d1_37) rfl ?_
          show Steps p.tables e below (s₁.setTop (mkF m 38 #[.val (.long q1), .second, .val (.long q2), .second, .val (.long q3), .second, .val (.long q4), .second, .unset] [(.long q1)])) _
          refine XS.lload X0.here hx rfl (hb hby d1_38) rfl ?_
          show Steps p.tables e below (s₁.setTop (mkF m 40 #[.val (.long q1), .second, .val (.long q2), .second, .val (.long q3), .second, .val (.long q4), .second, .unset] [(.long q3), (.long q1)])) _
          refine XS.lcmp X0.here hx rfl (hb hby d1_40) rfl ?_
          exact kt
        by_cases hc41 : q1 = q3
        · have pre112 : ∀ t, Steps p.tables e below (s₁.setTop (mkF m 48 #[.val (.long q1), .second, .val (.long q2), .second, .val (.long q3), .second, .val (.long q4), .second, .unset] [(.int (lcmpW q2 q4))])) t → Steps p.tables e below (s₁.setTop (entryFrame m #[(.long q1), (.long q2), (.long q3), (.long q4)] 9)) t := by
            intro t kt
            refine pre111 t ?_
            show Steps p.tables e below (s₁.setTop (mkF m 41 #[.val (.long q1), .second, .val (.long q2), .second, .val (.long q3), .second, .val (.long q4), .second, .unset] [(.int (lcmpW q1 q3))])) _
            refine XS.ifNo X0.here hx rfl (hb hby d1_41) rfl ((if0 _ _).trans (teq ((lw_eq _ _).mpr hc41)).2) ?_
            show Steps p.tables e below (s₁.setTop (mkF m 44 #[.val (.long q1), .second, .val (.long q2), .second, .val (.long q3), .second, .val (.long q4), .second, .unset] [])) _
            refine XS.lloadN X0.here hx rfl (hb hby d1_44) rfl ?_
            show Steps p.tables e below (s₁.setTop (mkF m 45 #[.val (.long q1), .second, .val (.long q2), .second, .val (.long q3), .second, .val (.long q4), .second, .unset] [(.long q2)])) _
            refine XS.lload X0.here hx rfl (hb hby d1_45) rfl ?_
            show Steps p.tables e below (s₁.setTop (mkF m 47 #[.val (.long q1), .second, .val (.long q2), .second, .val (.long q3), .second, .val (.long q4), .second, .unset] [(.long q4), (.long q2)])) _
            refine XS.lcmp X0.here hx rfl (hb hby d1_47) rfl ?_
            exact kt
          by_cases hc48 : q2 < q4
          · have pre113 : ∀ t, Steps p.tables e below (s₁.setTop (mkF m 60 #[.val (.long q1), .second, .val (.long q2), .second, .val (.long q3), .second, .val (.long q4), .second, .val (.int (1 : Int32))] [(.int (1 : Int32))])) t → Steps p.tables e below (s₁.setTop (entryFrame m #[(.long q1), (.long q2), (.long q3), (.long q4)] 9)) t := by
              intro t kt
              refine pre112 t ?_
              show Steps p.tables e below (s₁.setTop (mkF m 48 #[.val (.long q1), .second, .val (.long q2), .second, .val (.long q3), .second, .val (.long q4), .second, .unset] [(.int (lcmpW q2 q4))])) _
              refine XS.ifNo X0.here hx rfl (hb hby d1_48) rfl ((if0 _ _).trans (tlt ((lw_lt _ _).mpr hc48)).2.1) ?_
              show Steps p.tables e below (s₁.setTop (mkF m 51 #[.val (.long q1), .second, .val (.long q2), .second, .val (.long q3), .second, .val (.long q4), .second, .unset] [])) _
              refine XS.iconst X0.here hx rfl (hb hby d1_51) ?_
              show Steps p.tables e below (s₁.setTop (mkF m 52 #[.val (.long q1), .second, .val (.long q2), .second, .val (.long q3), .second, .val (.long q4), .second, .unset] [(.int (1 : Int32))])) _
              refine XS.goto X0.here hx rfl (pc0 := 52) (pc' := 56) rfl (hb hby d1_52) (by decide) (by decide) ?_
              show Steps p.tables e below (s₁.setTop (mkF m 56 #[.val (.long q1), .second, .val (.long q2), .second, .val (.long q3), .second, .val (.long q4), .second, .unset] [(.int (1 : Int32))])) _
              refine XS.istore X0.here hx rfl (hb hby d1_56) rfl (l' := #[.val (.long q1), .second, .val (.long q2), .second, .val (.long q3), .second, .val (.long q4), .second, .val (.int (1 : Int32))]) rfl ?_
              show Steps p.tables e below (s₁.setTop (mkF m 58 #[.val (.long q1), .second, .val (.long q2), .second, .val (.long q3), .second, .val (.long q4), .second, .val (.int (1 : Int32))] [])) _
              refine XS.iload X0.here hx rfl (hb hby d1_58) rfl ?_
              exact kt
            obtain ⟨fsx, hr, hrun, hended, hW, hsame⟩ := X0.leave (v := some (.int (nar .boolean (1 : Int32)))) (fun h => by rw [Bd.returns] at h; cases h)
            refine ⟨_, _, pre113 _ ?_, hrun, hended, _, _, rfl, ?_, ⟨_, rfl⟩, hW, hsame.mono (by decide) (by decide)⟩
            · exact retN X0 hx (t := .boolean) Bd.returns (by simp) (hb hby d1_60) hr
            · show Q1 Z q1 q2 q3 q4 h0 n0 _ s₁.heap _
              rw [e0]
              refine ⟨congrArg (fun z => some (Value.int z)) ?_, N0, rfl⟩
              have e0 : (0 : Int64).toInt = 0 := rfl
              simp only [own_bt, own_bf, own_cb, Int64.lt_iff_toInt_lt, ← Int64.toInt_inj, e0] at hc3 hc10 hc34 hc41 hc48 ⊢
              repeat' split
              all_goals (first | rfl | (exfalso; omega))
          · have pre114 : ∀ t, Steps p.tables e below (s₁.setTop (mkF m 60 #[.val (.long q1), .second, .val (.long q2), .second, .val (.long q3), .second, .val (.long q4), .second, .val (.int (0 : Int32))] [(.int (0 : Int32))])) t → Steps p.tables e below (s₁.setTop (entryFrame m #[(.long q1), (.long q2), (.long q3), (.long q4)] 9)) t := by
              intro t kt
              refine pre112 t ?_
              show Steps p.tables e below (s₁.setTop (mkF m 48 #[.val (.long q1), .second, .val (.long q2), .second, .val (.long q3), .second, .val (.long q4), .second, .unset] [(.int (lcmpW q2 q4))])) _
              refine XS.ifYes X0.here hx rfl (pc0 := 48) (pc' := 55) rfl (hb hby d1_48) rfl ((if0 _ _).trans (flt (fun q => hc48 ((lw_lt _ _).mp q))).2.1) (by decide) (by decide) ?_
              show Steps p.tables e below (s₁.setTop (mkF m 55 #[.val (.long q1), .second, .val (.long q2), .second, .val (.long q3), .second, .val (.long q4), .second, .unset] [])) _
              refine XS.iconst X0.here hx rfl (hb hby d1_55) ?_
              show Steps p.tables e below (s₁.setTop (mkF m 56 #[.val (.long q1), .second, .val (.long q2), .second, .val (.long q3), .second, .val (.long q4), .second, .unset] [(.int (0 : Int32))])) _
              refine XS.istore X0.here hx rfl (hb hby d1_56) rfl (l' := #[.val (.long q1), .second, .val (.long q2), .second, .val (.long q3), .second, .val (.long q4), .second, .val (.int (0 : Int32))]) rfl ?_
              show Steps p.tables e below (s₁.setTop (mkF m 58 #[.val (.long q1), .second, .val (.long q2), .second, .val (.long q3), .second, .val (.long q4), .second, .val (.int (0 : Int32))] [])) _
              refine XS.iload X0.here hx rfl (hb hby d1_58) rfl ?_
              exact kt
            obtain ⟨fsx, hr, hrun, hended, hW, hsame⟩ := X0.leave (v := some (.int (nar .boolean (0 : Int32)))) (fun h => by rw [Bd.returns] at h; cases h)
            refine ⟨_, _, pre114 _ ?_, hrun, hended, _, _, rfl, ?_, ⟨_, rfl⟩, hW, hsame.mono (by decide) (by decide)⟩
            · exact retN X0 hx (t := .boolean) Bd.returns (by simp) (hb hby d1_60) hr
            · show Q1 Z q1 q2 q3 q4 h0 n0 _ s₁.heap _
              rw [e0]
              refine ⟨congrArg (fun z => some (Value.int z)) ?_, N0, rfl⟩
              have e0 : (0 : Int64).toInt = 0 := rfl
              simp only [own_bt, own_bf, own_cb, Int64.lt_iff_toInt_lt, ← Int64.toInt_inj, e0] at hc3 hc10 hc34 hc41 hc48 ⊢
              repeat' split
              all_goals (first | rfl | (exfalso; omega))
        · have pre115 : ∀ t, Steps p.tables e below (s₁.setTop (mkF m 60 #[.val (.long q1), .second, .val (.long q2), .second, .val (.long q3), .second, .val (.long q4), .second, .val (.int (0 : Int32))] [(.int (0 : Int32))])) t → Steps p.tables e below (s₁.setTop (entryFrame m #[(.long q1), (.long q2), (.long q3), (.long q4)] 9)) t := by
            intro t kt
            refine pre111 t ?_
            show Steps p.tables e below (s₁.setTop (mkF m 41 #[.val (.long q1), .second, .val (.long q2), .second, .val (.long q3), .second, .val (.long q4), .second, .unset] [(.int (lcmpW q1 q3))])) _
            refine XS.ifYes X0.here hx rfl (pc0 := 41) (pc' := 55) rfl (hb hby d1_41) rfl ((if0 _ _).trans (feq (fun q => hc41 ((lw_eq _ _).mp q))).2) (by decide) (by decide) ?_
            show Steps p.tables e below (s₁.setTop (mkF m 55 #[.val (.long q1), .second, .val (.long q2), .second, .val (.long q3), .second, .val (.long q4), .second, .unset] [])) _
            refine XS.iconst X0.here hx rfl (hb hby d1_55) ?_
            show Steps p.tables e below (s₁.setTop (mkF m 56 #[.val (.long q1), .second, .val (.long q2), .second, .val (.long q3), .second, .val (.long q4), .second, .unset] [(.int (0 : Int32))])) _
            refine XS.istore X0.here hx rfl (hb hby d1_56) rfl (l' := #[.val (.long q1), .second, .val (.long q2), .second, .val (.long q3), .second, .val (.long q4), .second, .val (.int (0 : Int32))]) rfl ?_
            show Steps p.tables e below (s₁.setTop (mkF m 58 #[.val (.long q1), .second, .val (.long q2), .second, .val (.long q3), .second, .val (.long q4), .second, .val (.int (0 : Int32))] [])) _
            refine XS.iload X0.here hx rfl (hb hby d1_58) rfl ?_
            exact kt
          obtain ⟨fsx, hr, hrun, hended, hW, hsame⟩ := X0.leave (v := some (.int (nar .boolean (0 : Int32)))) (fun h => by rw [Bd.returns] at h; cases h)
          refine ⟨_, _, pre115 _ ?_, hrun, hended, _, _, rfl, ?_, ⟨_, rfl⟩, hW, hsame.mono (by decide) (by decide)⟩
          · exact retN X0 hx (t := .boolean) Bd.returns (by simp) (hb hby d1_60) hr
          · show Q1 Z q1 q2 q3 q4 h0 n0 _ s₁.heap _
            rw [e0]
            refine ⟨congrArg (fun z => some (Value.int z)) ?_, N0, rfl⟩
            have e0 : (0 : Int64).toInt = 0 := rfl
            simp only [own_bt, own_bf, own_cb, Int64.lt_iff_toInt_lt, ← Int64.toInt_inj, e0] at hc3 hc10 hc34 hc41 ⊢
            repeat' split
            all_goals (first | rfl | (exfalso; omega))
theorem d2_0 : decode method_2_code 0 = .ok (.lload_n 2, 1) := by decide +kernel
theorem d2_1 : decode method_2_code 1 = .ok (.lconst 0, 1) := by decide +kernel
theorem d2_2 : decode method_2_code 2 = .ok (.lcmp, 1) := by decide +kernel
theorem d2_3 : decode method_2_code 3 = .ok (.ifCond .ge 7, 3) := by decide +kernel
theorem d2_6 : decode method_2_code 6 = .ok (.iconst 1, 1) := by decide +kernel
theorem d2_7 : decode method_2_code 7 = .ok (.goto 4, 3) := by decide +kernel
theorem d2_11 : decode method_2_code 11 = .ok (.istore 8, 2) := by decide +kernel
theorem d2_13 : decode method_2_code 13 = .ok (.lload 6, 2) := by decide +kernel
theorem d2_15 : decode method_2_code 15 = .ok (.lconst 0, 1) := by decide +kernel
theorem d2_16 : decode method_2_code 16 = .ok (.lcmp, 1) := by decide +kernel
theorem d2_17 : decode method_2_code 17 = .ok (.ifCond .ge 7, 3) := by decide +kernel
theorem d2_20 : decode method_2_code 20 = .ok (.iconst 1, 1) := by decide +kernel
theorem d2_21 : decode method_2_code 21 = .ok (.goto 4, 3) := by decide +kernel
theorem d2_25 : decode method_2_code 25 = .ok (.istore 9, 2) := by decide +kernel
theorem d2_27 : decode method_2_code 27 = .ok (.iload 8, 2) := by decide +kernel
theorem d2_29 : decode method_2_code 29 = .ok (.ifCond .eq 21, 3) := by decide +kernel
theorem d2_32 : decode method_2_code 32 = .ok (.iload 9, 2) := by decide +kernel
theorem d2_34 : decode method_2_code 34 = .ok (.ifCond .eq 16, 3) := by decide +kernel
theorem d2_37 : decode method_2_code 37 = .ok (.lload_n 2, 1) := by decide +kernel
theorem d2_38 : decode method_2_code 38 = .ok (.lload 6, 2) := by decide +kernel
theorem d2_40 : decode method_2_code 40 = .ok (.lcmp, 1) := by decide +kernel
theorem d2_41 : decode method_2_code 41 = .ok (.ifCond .ge 7, 3) := by decide +kernel
theorem d2_44 : decode method_2_code 44 = .ok (.iconst 1, 1) := by decide +kernel
theorem d2_45 : decode method_2_code 45 = .ok (.goto 4, 3) := by decide +kernel
theorem d2_49 : decode method_2_code 49 = .ok (.ireturn, 1) := by decide +kernel
theorem d2_48 : decode method_2_code 48 = .ok (.iconst 0, 1) := by decide +kernel
theorem d2_24 : decode method_2_code 24 = .ok (.iconst 0, 1) := by decide +kernel
theorem d2_50 : decode method_2_code 50 = .ok (.iload 8, 2) := by decide +kernel
theorem d2_52 : decode method_2_code 52 = .ok (.ifCond .eq 5, 3) := by decide +kernel
theorem d2_55 : decode method_2_code 55 = .ok (.iconst 1, 1) := by decide +kernel
theorem d2_56 : decode method_2_code 56 = .ok (.ireturn, 1) := by decide +kernel
theorem d2_10 : decode method_2_code 10 = .ok (.iconst 0, 1) := by decide +kernel
theorem d2_57 : decode method_2_code 57 = .ok (.iload 9, 2) := by decide +kernel
theorem d2_59 : decode method_2_code 59 = .ok (.ifCond .eq 5, 3) := by decide +kernel
theorem d2_62 : decode method_2_code 62 = .ok (.iconst 0, 1) := by decide +kernel
theorem d2_63 : decode method_2_code 63 = .ok (.ireturn, 1) := by decide +kernel
theorem d2_64 : decode method_2_code 64 = .ok (.lload_n 0, 1) := by decide +kernel
theorem d2_65 : decode method_2_code 65 = .ok (.lload 4, 2) := by decide +kernel
theorem d2_67 : decode method_2_code 67 = .ok (.lcmp, 1) := by decide +kernel
theorem d2_68 : decode method_2_code 68 = .ok (.ifCond .eq 16, 3) := by decide +kernel
theorem d2_84 : decode method_2_code 84 = .ok (.lload_n 2, 1) := by decide +kernel
theorem d2_85 : decode method_2_code 85 = .ok (.lload 6, 2) := by decide +kernel
theorem d2_87 : decode method_2_code 87 = .ok (.lcmp, 1) := by decide +kernel
theorem d2_88 : decode method_2_code 88 = .ok (.ifCond .ge 7, 3) := by decide +kernel
theorem d2_91 : decode method_2_code 91 = .ok (.iconst 1, 1) := by decide +kernel
theorem d2_92 : decode method_2_code 92 = .ok (.goto 4, 3) := by decide +kernel
theorem d2_96 : decode method_2_code 96 = .ok (.ireturn, 1) := by decide +kernel
theorem d2_95 : decode method_2_code 95 = .ok (.iconst 0, 1) := by decide +kernel
theorem d2_71 : decode method_2_code 71 = .ok (.lload_n 0, 1) := by decide +kernel
theorem d2_72 : decode method_2_code 72 = .ok (.lload 4, 2) := by decide +kernel
theorem d2_74 : decode method_2_code 74 = .ok (.lcmp, 1) := by decide +kernel
theorem d2_75 : decode method_2_code 75 = .ok (.ifCond .ge 7, 3) := by decide +kernel
theorem d2_78 : decode method_2_code 78 = .ok (.iconst 1, 1) := by decide +kernel
theorem d2_79 : decode method_2_code 79 = .ok (.goto 4, 3) := by decide +kernel
theorem d2_83 : decode method_2_code 83 = .ok (.ireturn, 1) := by decide +kernel
theorem d2_82 : decode method_2_code 82 = .ok (.iconst 0, 1) := by decide +kernel
theorem pn_1 : plainName "org/threadpost/MessageHeapComesBeforePinLaw" = true := by first | (simp [plainName, overriddenIn]; done) | decide +kernel
theorem ef_rm2 (m : MethodId) (x0 : Int64) (x1 : Int64) (x2 : Int64) (x3 : Int64) : entryFrame m #[(.long x0), (.long x1), (.long x2), (.long x3)] 10 = mkF m 0 #[.val (.long x0), .second, .val (.long x1), .second, .val (.long x2), .second, .val (.long x3), .second, .unset, .unset] [] := by first | (simp [entryFrame, mkF, argsToLocals, Value.category]; done) | rfl
def Q2 (Z : State) (q1 : Int64) (q2 : Int64) (q3 : Int64) (q4 : Int64) (h0 : Heap) (n0 : Nat) (v : Option Value) (h : Heap) (L : List Loc) : Prop := v = some (.int (own_cb q1 q2 q3 q4)) ∧ Fr n0 L ∧ h = h0
set_option maxRecDepth 65536 in
set_option maxHeartbeats 40000000 in
theorem rm2 (l : Launch) (Z : State) (a0 : Array Value) (hw : ∀ d ∈ tables_1, d.before a0 Z = true) (ws : List Jvm.Cond) (q1 : Int64) (q2 : Int64) (q3 : Int64) (q4 : Int64) (h0 : Heap) (n0 : Nat) (Z0 : n0 ≤ h0.size)  :
    MetFree l (⟨"org/threadpost/MessageHeapComesBeforePinLaw", "expected", "(JJJJ)Z"⟩ : MethodName) (head1 (Jvm.Cond.code (⟨"org/threadpost/MessageHeapComesBeforePinLaw", "expected", "(JJJJ)Z"⟩ : MethodName) method_2_code 10 (some .boolean) :: ws) ({ frames := 0, cells := 0, slots := 0, locals := 0 } : Room)) (fun a U => a = #[(.long q1), (.long q2), (.long q3), (.long q4)] ∧ Z.Warmed39 U.vm ∧ U.heap = h0) (fun _ _ _ _ _ => True) (fun _ U o U' => ∃ v L, o = .returned v ∧ Q2 Z q1 q2 q3 q4 h0 n0 v U'.heap L ∧ FrameEnd U o U' L ({ frames := 0, cells := 0, slots := 0, locals := 0 } : Room).cells ({ frames := 0, cells := 0, slots := 0, locals := 0 } : Room).slots) := by
  refine MetFree.of_bodySF (plainFor_of_name pn_1) hisR ?_
  intro p e s m args below meth c s₁ Bd hml0 hP hK
  obtain ⟨rfl, hZ, hh⟩ := hP
  have hx := Bd.exec
  have hby := Bd.bytes
  have hml : c.maxLocals = 10 := hml0
  have hown : s.vm.findClass "org/threadpost/MessageHeapComesBeforePinLaw" = some m.cls := findClass_of_methodNamed Bd.named
  have hnm := (name_of_methodNamed Bd.named Bd.method).1
  have X0 : Stand p l e ({ frames := 0, cells := 0, slots := 0, locals := 0 } : Room) s m #[(.long q1), (.long q2), (.long q3), (.long q4)] below meth c s₁ [] 0 0 := Stand.of_body Bd
  have e0 : s₁.heap = h0 := by rw [← hh, Bd.state]; rfl
  have N0 := Fr.nil n0
  have pre0 : ∀ t, Steps p.tables e below (s₁.setTop (mkF m 0 #[.val (.long q1), .second, .val (.long q2), .second, .val (.long q3), .second, .val (.long q4), .second, .unset, .unset] [])) t → Steps p.tables e below (s₁.setTop (entryFrame m #[(.long q1), (.long q2), (.long q3), (.long q4)] 10)) t := fun t k => castTop (ef_rm2 m q1 q2 q3 q4) k
  have pre116 : ∀ t, Steps p.tables e below (s₁.setTop (mkF m 3 #[.val (.long q1), .second, .val (.long q2), .second, .val (.long q3), .second, .val (.long q4), .second, .unset, .unset] [(.int (lcmpW q2 (0 : Int64)))])) t → Steps p.tables e below (s₁.setTop (entryFrame m #[(.long q1), (.long q2), (.long q3), (.long q4)] 10)) t := by
    intro t kt
    refine pre0 t ?_
    show Steps p.tables e below (s₁.setTop (mkF m 0 #[.val (.long q1), .second, .val (.long q2), .second, .val (.long q3), .second, .val (.long q4), .second, .unset, .unset] [])) _
    refine XS.lloadN X0.here hx rfl (hb hby d2_0) rfl ?_
    show Steps p.tables e below (s₁.setTop (mkF m 1 #[.val (.long q1), .second, .val (.long q2), .second, .val (.long q3), .second, .val (.long q4), .second, .unset, .unset] [(.long q2)])) _
    refine XS.lconst X0.here hx rfl (hb hby d2_1) ?_
    show Steps p.tables e below (s₁.setTop (mkF m 2 #[.val (.long q1), .second, .val (.long q2), .second, .val (.long q3), .second, .val (.long q4), .second, .unset, .unset] [(.long (0 : Int64)), (.long q2)])) _
    refine XS.lcmp X0.here hx rfl (hb hby d2_2) rfl ?_
    exact kt
  by_cases hc3 : q2 < (0 : Int64)
  · have pre117 : ∀ t, Steps p.tables e below (s₁.setTop (mkF m 17 #[.val (.long q1), .second, .val (.long q2), .second, .val (.long q3), .second, .val (.long q4), .second, .val (.int (1 : Int32)), .unset] [(.int (lcmpW q4 (0 : Int64)))])) t → Steps p.tables e below (s₁.setTop (entryFrame m #[(.long q1), (.long q2), (.long q3), (.long q4)] 10)) t := by
      intro t kt
      refine pre116 t ?_
      show Steps p.tables e below (s₁.setTop (mkF m 3 #[.val (.long q1), .second, .val (.long q2), .second, .val (.long q3), .second, .val (.long q4), .second, .unset, .unset] [(.int (lcmpW q2 (0 : Int64)))])) _
      refine XS.ifNo X0.here hx rfl (hb hby d2_3) rfl ((if0 _ _).trans (tlt ((lw_lt _ _).mpr hc3)).2.1) ?_
      show Steps p.tables e below (s₁.setTop (mkF m 6 #[.val (.long q1), .second, .val (.long q2), .second, .val (.long q3), .second, .val (.long q4), .second, .unset, .unset] [])) _
      refine XS.iconst X0.here hx rfl (hb hby d2_6) ?_
      show Steps p.tables e below (s₁.setTop (mkF m 7 #[.val (.long q1), .second, .val (.long q2), .second, .val (.long q3), .second, .val (.long q4), .second, .unset, .unset] [(.int (1 : Int32))])) _
      refine XS.goto X0.here hx rfl (pc0 := 7) (pc' := 11) rfl (hb hby d2_7) (by decide) (by decide) ?_
      show Steps p.tables e below (s₁.setTop (mkF m 11 #[.val (.long q1), .second, .val (.long q2), .second, .val (.long q3), .second, .val (.long q4), .second, .unset, .unset] [(.int (1 : Int32))])) _
      refine XS.istore X0.here hx rfl (hb hby d2_11) rfl (l' := #[.val (.long q1), .second, .val (.long q2), .second, .val (.long q3), .second, .val (.long q4), .second, .val (.int (1 : Int32)), .unset]) rfl ?_
      show Steps p.tables e below (s₁.setTop (mkF m 13 #[.val (.long q1), .second, .val (.long q2), .second, .val (.long q3), .second, .val (.long q4), .second, .val (.int (1 : Int32)), .unset] [])) _
      refine XS.lload X0.here hx rfl (hb hby d2_13) rfl ?_
      show Steps p.tables e below (s₁.setTop (mkF m 15 #[.val (.long q1), .second, .val (.long q2), .second, .val (.long q3), .second, .val (.long q4), .second, .val (.int (1 : Int32)), .unset] [(.long q4)])) _
      refine XS.lconst X0.here hx rfl (hb hby d2_15) ?_
      show Steps p.tables e below (s₁.setTop (mkF m 16 #[.val (.long q1), .second, .val (.long q2), .second, .val (.long q3), .second, .val (.long q4), .second, .val (.int (1 : Int32)), .unset] [(.long (0 : Int64)), (.long q4)])) _
      refine XS.lcmp X0.here hx rfl (hb hby d2_16) rfl ?_
      exact kt
    by_cases hc17 : q4 < (0 : Int64)
    · have pre118 : ∀ t, Steps p.tables e below (s₁.setTop (mkF m 41 #[.val (.long q1), .second, .val (.long q2), .second, .val (.long q3), .second, .val (.long q4), .second, .val (.int (1 : Int32)), .val (.int (1 : Int32))] [(.int (lcmpW q2 q4))])) t → Steps p.tables e below (s₁.setTop (entryFrame m #[(.long q1), (.long q2), (.long q3), (.long q4)] 10)) t := by
        intro t kt
        refine pre117 t ?_
        show Steps p.tables e below (s₁.setTop (mkF m 17 #[.val (.long q1), .second, .val (.long q2), .second, .val (.long q3), .second, .val (.long q4), .second, .val (.int (1 : Int32)), .unset] [(.int (lcmpW q4 (0 : Int64)))])) _
        refine XS.ifNo X0.here hx rfl (hb hby d2_17) rfl ((if0 _ _).trans (tlt ((lw_lt _ _).mpr hc17)).2.1) ?_
        show Steps p.tables e below (s₁.setTop (mkF m 20 #[.val (.long q1), .second, .val (.long q2), .second, .val (.long q3), .second, .val (.long q4), .second, .val (.int (1 : Int32)), .unset] [])) _
        refine XS.iconst X0.here hx rfl (hb hby d2_20) ?_
        show Steps p.tables e below (s₁.setTop (mkF m 21 #[.val (.long q1), .second, .val (.long q2), .second, .val (.long q3), .second, .val (.long q4), .second, .val (.int (1 : Int32)), .unset] [(.int (1 : Int32))])) _
        refine XS.goto X0.here hx rfl (pc0 := 21) (pc' := 25) rfl (hb hby d2_21) (by decide) (by decide) ?_
        show Steps p.tables e below (s₁.setTop (mkF m 25 #[.val (.long q1), .second, .val (.long q2), .second, .val (.long q3), .second, .val (.long q4), .second, .val (.int (1 : Int32)), .unset] [(.int (1 : Int32))])) _
        refine XS.istore X0.here hx rfl (hb hby d2_25) rfl (l' := #[.val (.long q1), .second, .val (.long q2), .second, .val (.long q3), .second, .val (.long q4), .second, .val (.int (1 : Int32)), .val (.int (1 : Int32))]) rfl ?_
        show Steps p.tables e below (s₁.setTop (mkF m 27 #[.val (.long q1), .second, .val (.long q2), .second, .val (.long q3), .second, .val (.long q4), .second, .val (.int (1 : Int32)), .val (.int (1 : Int32))] [])) _
        refine XS.iload X0.here hx rfl (hb hby d2_27) rfl ?_
        show Steps p.tables e below (s₁.setTop (mkF m 29 #[.val (.long q1), .second, .val (.long q2), .second, .val (.long q3), .second, .val (.long q4), .second, .val (.int (1 : Int32)), .val (.int (1 : Int32))] [(.int (1 : Int32))])) _
        refine XS.ifNo X0.here hx rfl (hb hby d2_29) rfl ((if0 _ _).trans (feq (by decide)).1) ?_
        show Steps p.tables e below (s₁.setTop (mkF m 32 #[.val (.long q1), .second, .val (.long q2), .second, .val (.long q3), .second, .val (.long q4), .second, .val (.int (1 : Int32)), .val (.int (1 : Int32))] [])) _
        refine XS.iload X0.here hx rfl (hb hby d2_32) rfl ?_
        show Steps p.tables e below (s₁.setTop (mkF m 34 #[.val (.long q1), .second, .val (.long q2), .second, .val (.long q3), .second, .val (.long q4), .second, .val (.int (1 : Int32)), .val (.int (1 : Int32))] [(.int (1 : Int32))])) _
        refine XS.ifNo X0.here hx rfl (hb hby d2_34) rfl ((if0 _ _).trans (feq (by decide)).1) ?_
        show Steps p.tables e below (s₁.setTop (mkF m 37 #[.val (.long q1), .second, .val (.long q2), .second, .val (.long q3), .second, .val (.long q4), .second, .val (.int (1 : Int32)), .val (.int (1 : Int32))] [])) _
        refine XS.lloadN X0.here hx rfl (hb hby d2_37) rfl ?_
        show Steps p.tables e below (s₁.setTop (mkF m 38 #[.val (.long q1), .second, .val (.long q2), .second, .val (.long q3), .second, .val (.long q4), .second, .val (.int (1 : Int32)), .val (.int (1 : Int32))] [(.long q2)])) _
        refine XS.lload X0.here hx rfl (hb hby d2_38) rfl ?_
        show Steps p.tables e below (s₁.setTop (mkF m 40 #[.val (.long q1), .second, .val (.long q2), .second, .val (.long q3), .second, .val (.long q4), .second, .val (.int (1 : Int32)), .val (.int (1 : Int32))] [(.long q4), (.long q2)])) _
        refine XS.lcmp X0.here hx rfl (hb hby d2_40) rfl ?_
        exact kt
      by_cases hc41 : q2 < q4
      · have pre119 : ∀ t, Steps p.tables e below (s₁.setTop (mkF m 49 #[.val (.long q1), .second, .val (.long q2), .second, .val (.long q3), .second, .val (.long q4), .second, .val (.int (1 : Int32)), .val (.int (1 : Int32))] [(.int (1 : Int32))])) t → Steps p.tables e below (s₁.setTop (entryFrame m #[(.long q1), (.long q2), (.long q3), (.long q4)] 10)) t := by
          intro t kt
          refine pre118 t ?_
          show Steps p.tables e below (s₁.setTop (mkF m 41 #[.val (.long q1), .second, .val (.long q2), .second, .val (.long q3), .second, .val (.long q4), .second, .val (.int (1 : Int32)), .val (.int (1 : Int32))] [(.int (lcmpW q2 q4))])) _
          refine XS.ifNo X0.here hx rfl (hb hby d2_41) rfl ((if0 _ _).trans (tlt ((lw_lt _ _).mpr hc41)).2.1) ?_
          show Steps p.tables e below (s₁.setTop (mkF m 44 #[.val (.long q1), .second, .val (.long q2), .second, .val (.long q3), .second, .val (.long q4), .second, .val (.int (1 : Int32)), .val (.int (1 : Int32))] [])) _
          refine XS.iconst X0.here hx rfl (hb hby d2_44) ?_
          show Steps p.tables e below (s₁.setTop (mkF m 45 #[.val (.long q1), .second, .val (.long q2), .second, .val (.long q3), .second, .val (.long q4), .second, .val (.int (1 : Int32)), .val (.int (1 : Int32))] [(.int (1 : Int32))])) _
          refine XS.goto X0.here hx rfl (pc0 := 45) (pc' := 49) rfl (hb hby d2_45) (by decide) (by decide) ?_
          exact kt
        obtain ⟨fsx, hr, hrun, hended, hW, hsame⟩ := X0.leave (v := some (.int (nar .boolean (1 : Int32)))) (fun h => by rw [Bd.returns] at h; cases h)
        refine ⟨_, _, pre119 _ ?_, hrun, hended, _, _, rfl, ?_, ⟨_, rfl⟩, hW, hsame.mono (by decide) (by decide)⟩
        · exact retN X0 hx (t := .boolean) Bd.returns (by simp) (hb hby d2_49) hr
        · show Q2 Z q1 q2 q3 q4 h0 n0 _ s₁.heap _
          rw [e0]
          refine ⟨congrArg (fun z => some (Value.int z)) ?_, N0, rfl⟩
          have e0 : (0 : Int64).toInt = 0 := rfl
          simp only [own_bt, own_bf, own_cb, Int64.lt_iff_toInt_lt, ← Int64.toInt_inj, e0] at hc3 hc17 hc41 ⊢
          repeat' split
          all_goals (first | rfl | (exfalso; omega))
      · have pre120 : ∀ t, Steps p.tables e below (s₁.setTop (mkF m 49 #[.val (.long q1), .second, .val (.long q2), .second, .val (.long q3), .second, .val (.long q4), .second, .val (.int (1 : Int32)), .val (.int (1 : Int32))] [(.int (0 : Int32))])) t → Steps p.tables e below (s₁.setTop (entryFrame m #[(.long q1), (.long q2), (.long q3), (.long q4)] 10)) t := by
          intro t kt
          refine pre118 t ?_
          show Steps p.tables e below (s₁.setTop (mkF m 41 #[.val (.long q1), .second, .val (.long q2), .second, .val (.long q3), .second, .val (.long q4), .second, .val (.int (1 : Int32)), .val (.int (1 : Int32))] [(.int (lcmpW q2 q4))])) _
          refine XS.ifYes X0.here hx rfl (pc0 := 41) (pc' := 48) rfl (hb hby d2_41) rfl ((if0 _ _).trans (flt (fun q => hc41 ((lw_lt _ _).mp q))).2.1) (by decide) (by decide) ?_
          show Steps p.tables e below (s₁.setTop (mkF m 48 #[.val (.long q1), .second, .val (.long q2), .second, .val (.long q3), .second, .val (.long q4), .second, .val (.int (1 : Int32)), .val (.int (1 : Int32))] [])) _
          refine XS.iconst X0.here hx rfl (hb hby d2_48) ?_
          exact kt
        obtain ⟨fsx, hr, hrun, hended, hW, hsame⟩ := X0.leave (v := some (.int (nar .boolean (0 : Int32)))) (fun h => by rw [Bd.returns] at h; cases h)
        refine ⟨_, _, pre120 _ ?_, hrun, hended, _, _, rfl, ?_, ⟨_, rfl⟩, hW, hsame.mono (by decide) (by decide)⟩
        · exact retN X0 hx (t := .boolean) Bd.returns (by simp) (hb hby d2_49) hr
        · show Q2 Z q1 q2 q3 q4 h0 n0 _ s₁.heap _
          rw [e0]
          refine ⟨congrArg (fun z => some (Value.int z)) ?_, N0, rfl⟩
          have e0 : (0 : Int64).toInt = 0 := rfl
          simp only [own_bt, own_bf, own_cb, Int64.lt_iff_toInt_lt, ← Int64.toInt_inj, e0] at hc3 hc17 hc41 ⊢
          repeat' split
          all_goals (first | rfl | (exfalso; omega))
    · have pre121 : ∀ t, Steps p.tables e below (s₁.setTop (mkF m 56 #[.val (.long q1), .second, .val (.long q2), .second, .val (.long q3), .second, .val (.long q4), .second, .val (.int (1 : Int32)), .val (.int (0 : Int32))] [(.int (1 : Int32))])) t → Steps p.tables e below (s₁.setTop (entryFrame m #[(.long q1), (.long q2), (.long q3), (.long q4)] 10)) t := by
        intro t kt
        refine pre117 t ?_
        show Steps p.tables e below (s₁.setTop (mkF m 17 #[.val (.long q1), .second, .val (.long q2), .second, .val (.long q3), .second, .val (.long q4), .second, .val (.int (1 : Int32)), .unset] [(.int (lcmpW q4 (0 : Int64)))])) _
        refine XS.ifYes X0.here hx rfl (pc0 := 17) (pc' := 24) rfl (hb hby d2_17) rfl ((if0 _ _).trans (flt (fun q => hc17 ((lw_lt _ _).mp q))).2.1) (by decide) (by decide) ?_
        show Steps p.tables e below (s₁.setTop (mkF m 24 #[.val (.long q1), .second, .val (.long q2), .second, .val (.long q3), .second, .val (.long q4), .second, .val (.int (1 : Int32)), .unset] [])) _
        refine XS.iconst X0.here hx rfl (hb hby d2_24) ?_
        show Steps p.tables e below (s₁.setTop (mkF m 25 #[.val (.long q1), .second, .val (.long q2), .second, .val (.long q3), .second, .val (.long q4), .second, .val (.int (1 : Int32)), .unset] [(.int (0 : Int32))])) _
        refine XS.istore X0.here hx rfl (hb hby d2_25) rfl (l' := #[.val (.long q1), .second, .val (.long q2), .second, .val (.long q3), .second, .val (.long q4), .second, .val (.int (1 : Int32)), .val (.int (0 : Int32))]) rfl ?_
        show Steps p.tables e below (s₁.setTop (mkF m 27 #[.val (.long q1), .second, .val (.long q2), .second, .val (.long q3), .second, .val (.long q4), .second, .val (.int (1 : Int32)), .val (.int (0 : Int32))] [])) _
        refine XS.iload X0.here hx rfl (hb hby d2_27) rfl ?_
        show Steps p.tables e below (s₁.setTop (mkF m 29 #[.val (.long q1), .second, .val (.long q2), .second, .val (.long q3), .second, .val (.long q4), .second, .val (.int (1 : Int32)), .val (.int (0 : Int32))] [(.int (1 : Int32))])) _
        refine XS.ifNo X0.here hx rfl (hb hby d2_29) rfl ((if0 _ _).trans (feq (by decide)).1) ?_
        show Steps p.tables e below (s₁.setTop (mkF m 32 #[.val (.long q1), .second, .val (.long q2), .second, .val (.long q3), .second, .val (.long q4), .second, .val (.int (1 : Int32)), .val (.int (0 : Int32))] [])) _
        refine XS.iload X0.here hx rfl (hb hby d2_32) rfl ?_
        show Steps p.tables e below (s₁.setTop (mkF m 34 #[.val (.long q1), .second, .val (.long q2), .second, .val (.long q3), .second, .val (.long q4), .second, .val (.int (1 : Int32)), .val (.int (0 : Int32))] [(.int (0 : Int32))])) _
        refine XS.ifYes X0.here hx rfl (pc0 := 34) (pc' := 50) rfl (hb hby d2_34) rfl ((if0 _ _).trans (teq (by decide)).1) (by decide) (by decide) ?_
        show Steps p.tables e below (s₁.setTop (mkF m 50 #[.val (.long q1), .second, .val (.long q2), .second, .val (.long q3), .second, .val (.long q4), .second, .val (.int (1 : Int32)), .val (.int (0 : Int32))] [])) _
        refine XS.iload X0.here hx rfl (hb hby d2_50) rfl ?_
        show Steps p.tables e below (s₁.setTop (mkF m 52 #[.val (.long q1), .second, .val (.long q2), .second, .val (.long q3), .second, .val (.long q4), .second, .val (.int (1 : Int32)), .val (.int (0 : Int32))] [(.int (1 : Int32))])) _
        refine XS.ifNo X0.here hx rfl (hb hby d2_52) rfl ((if0 _ _).trans (feq (by decide)).1) ?_
        show Steps p.tables e below (s₁.setTop (mkF m 55 #[.val (.long q1), .second, .val (.long q2), .second, .val (.long q3), .second, .val (.long q4), .second, .val (.int (1 : Int32)), .val (.int (0 : Int32))] [])) _
        refine XS.iconst X0.here hx rfl (hb hby d2_55) ?_
        exact kt
      obtain ⟨fsx, hr, hrun, hended, hW, hsame⟩ := X0.leave (v := some (.int (nar .boolean (1 : Int32)))) (fun h => by rw [Bd.returns] at h; cases h)
      refine ⟨_, _, pre121 _ ?_, hrun, hended, _, _, rfl, ?_, ⟨_, rfl⟩, hW, hsame.mono (by decide) (by decide)⟩
      · exact retN X0 hx (t := .boolean) Bd.returns (by simp) (hb hby d2_56) hr
      · show Q2 Z q1 q2 q3 q4 h0 n0 _ s₁.heap _
        rw [e0]
        refine ⟨congrArg (fun z => some (Value.int z)) ?_, N0, rfl⟩
        have e0 : (0 : Int64).toInt = 0 := rfl
        simp only [own_bt, own_bf, own_cb, Int64.lt_iff_toInt_lt, ← Int64.toInt_inj, e0] at hc3 hc17 ⊢
        repeat' split
        all_goals (first | rfl | (exfalso; omega))
  · have pre122 : ∀ t, Steps p.tables e below (s₁.setTop (mkF m 17 #[.val (.long q1), .second, .val (.long q2), .second, .val (.long q3), .second, .val (.long q4), .second, .val (.int (0 : Int32)), .unset] [(.int (lcmpW q4 (0 : Int64)))])) t → Steps p.tables e below (s₁.setTop (entryFrame m #[(.long q1), (.long q2), (.long q3), (.long q4)] 10)) t := by
      intro t kt
      refine pre116 t ?_
      show Steps p.tables e below (s₁.setTop (mkF m 3 #[.val (.long q1), .second, .val (.long q2), .second, .val (.long q3), .second, .val (.long q4), .second, .unset, .unset] [(.int (lcmpW q2 (0 : Int64)))])) _
      refine XS.ifYes X0.here hx rfl (pc0 := 3) (pc' := 10) rfl (hb hby d2_3) rfl ((if0 _ _).trans (flt (fun q => hc3 ((lw_lt _ _).mp q))).2.1) (by decide) (by decide) ?_
      show Steps p.tables e below (s₁.setTop (mkF m 10 #[.val (.long q1), .second, .val (.long q2), .second, .val (.long q3), .second, .val (.long q4), .second, .unset, .unset] [])) _
      refine XS.iconst X0.here hx rfl (hb hby d2_10) ?_
      show Steps p.tables e below (s₁.setTop (mkF m 11 #[.val (.long q1), .second, .val (.long q2), .second, .val (.long q3), .second, .val (.long q4), .second, .unset, .unset] [(.int (0 : Int32))])) _
      refine XS.istore X0.here hx rfl (hb hby d2_11) rfl (l' := #[.val (.long q1), .second, .val (.long q2), .second, .val (.long q3), .second, .val (.long q4), .second, .val (.int (0 : Int32)), .unset]) rfl ?_
      show Steps p.tables e below (s₁.setTop (mkF m 13 #[.val (.long q1), .second, .val (.long q2), .second, .val (.long q3), .second, .val (.long q4), .second, .val (.int (0 : Int32)), .unset] [])) _
      refine XS.lload X0.here hx rfl (hb hby d2_13) rfl ?_
      show Steps p.tables e below (s₁.setTop (mkF m 15 #[.val (.long q1), .second, .val (.long q2), .second, .val (.long q3), .second, .val (.long q4), .second, .val (.int (0 : Int32)), .unset] [(.long q4)])) _
      refine XS.lconst X0.here hx rfl (hb hby d2_15) ?_
      show Steps p.tables e below (s₁.setTop (mkF m 16 #[.val (.long q1), .second, .val (.long q2), .second, .val (.long q3), .second, .val (.long q4), .second, .val (.int (0 : Int32)), .unset] [(.long (0 : Int64)), (.long q4)])) _
      refine XS.lcmp X0.here hx rfl (hb hby d2_16) rfl ?_
      exact kt
    by_cases hc17 : q4 < (0 : Int64)
    · have pre123 : ∀ t, Steps p.tables e below (s₁.setTop (mkF m 63 #[.val (.long q1), .second, .val (.long q2), .second, .val (.long q3), .second, .val (.long q4), .second, .val (.int (0 : Int32)), .val (.int (1 : Int32))] [(.int (0 : Int32))])) t → Steps p.tables e below (s₁.setTop (entryFrame m #[(.long q1), (.long q2), (.long q3), (.long q4)] 10)) t := by
        intro t kt
        refine pre122 t ?_
        show Steps p.tables e below (s₁.setTop (mkF m 17 #[.val (.long q1), .second, .val (.long q2), .second, .val (.long q3), .second, .val (.long q4), .second, .val (.int (0 : Int32)), .unset] [(.int (lcmpW q4 (0 : Int64)))])) _
        refine XS.ifNo X0.here hx rfl (hb hby d2_17) rfl ((if0 _ _).trans (tlt ((lw_lt _ _).mpr hc17)).2.1) ?_
        show Steps p.tables e below (s₁.setTop (mkF m 20 #[.val (.long q1), .second, .val (.long q2), .second, .val (.long q3), .second, .val (.long q4), .second, .val (.int (0 : Int32)), .unset] [])) _
        refine XS.iconst X0.here hx rfl (hb hby d2_20) ?_
        show Steps p.tables e below (s₁.setTop (mkF m 21 #[.val (.long q1), .second, .val (.long q2), .second, .val (.long q3), .second, .val (.long q4), .second, .val (.int (0 : Int32)), .unset] [(.int (1 : Int32))])) _
        refine XS.goto X0.here hx rfl (pc0 := 21) (pc' := 25) rfl (hb hby d2_21) (by decide) (by decide) ?_
        show Steps p.tables e below (s₁.setTop (mkF m 25 #[.val (.long q1), .second, .val (.long q2), .second, .val (.long q3), .second, .val (.long q4), .second, .val (.int (0 : Int32)), .unset] [(.int (1 : Int32))])) _
        refine XS.istore X0.here hx rfl (hb hby d2_25) rfl (l' := #[.val (.long q1), .second, .val (.long q2), .second, .val (.long q3), .second, .val (.long q4), .second, .val (.int (0 : Int32)), .val (.int (1 : Int32))]) rfl ?_
        show Steps p.tables e below (s₁.setTop (mkF m 27 #[.val (.long q1), .second, .val (.long q2), .second, .val (.long q3), .second, .val (.long q4), .second, .val (.int (0 : Int32)), .val (.int (1 : Int32))] [])) _
        refine XS.iload X0.here hx rfl (hb hby d2_27) rfl ?_
        show Steps p.tables e below (s₁.setTop (mkF m 29 #[.val (.long q1), .second, .val (.long q2), .second, .val (.long q3), .second, .val (.long q4), .second, .val (.int (0 : Int32)), .val (.int (1 : Int32))] [(.int (0 : Int32))])) _
        refine XS.ifYes X0.here hx rfl (pc0 := 29) (pc' := 50) rfl (hb hby d2_29) rfl ((if0 _ _).trans (teq (by decide)).1) (by decide) (by decide) ?_
        show Steps p.tables e below (s₁.setTop (mkF m 50 #[.val (.long q1), .second, .val (.long q2), .second, .val (.long q3), .second, .val (.long q4), .second, .val (.int (0 : Int32)), .val (.int (1 : Int32))] [])) _
        refine XS.iload X0.here hx rfl (hb hby d2_50) rfl ?_
        show Steps p.tables e below (s₁.setTop (mkF m 52 #[.val (.long q1), .second, .val (.long q2), .second, .val (.long q3), .second, .val (.long q4), .second, .val (.int (0 : Int32)), .val (.int (1 : Int32))] [(.int (0 : Int32))])) _
        refine XS.ifYes X0.here hx rfl (pc0 := 52) (pc' := 57) rfl (hb hby d2_52) rfl ((if0 _ _).trans (teq (by decide)).1) (by decide) (by decide) ?_
        show Steps p.tables e below (s₁.setTop (mkF m 57 #[.val (.long q1), .second, .val (.long q2), .second, .val (.long q3), .second, .val (.long q4), .second, .val (.int (0 : Int32)), .val (.int (1 : Int32))] [])) _
        refine XS.iload X0.here hx rfl (hb hby d2_57) rfl ?_
        show Steps p.tables e below (s₁.setTop (mkF m 59 #[.val (.long q1), .second, .val (.long q2), .second, .val (.long q3), .second, .val (.long q4), .second, .val (.int (0 : Int32)), .val (.int (1 : Int32))] [(.int (1 : Int32))])) _
        refine XS.ifNo X0.here hx rfl (hb hby d2_59) rfl ((if0 _ _).trans (feq (by decide)).1) ?_
        show Steps p.tables e below (s₁.setTop (mkF m 62 #[.val (.long q1), .second, .val (.long q2), .second, .val (.long q3), .second, .val (.long q4), .second, .val (.int (0 : Int32)), .val (.int (1 : Int32))] [])) _
        refine XS.iconst X0.here hx rfl (hb hby d2_62) ?_
        exact kt
      obtain ⟨fsx, hr, hrun, hended, hW, hsame⟩ := X0.leave (v := some (.int (nar .boolean (0 : Int32)))) (fun h => by rw [Bd.returns] at h; cases h)
      refine ⟨_, _, pre123 _ ?_, hrun, hended, _, _, rfl, ?_, ⟨_, rfl⟩, hW, hsame.mono (by decide) (by decide)⟩
      · exact retN X0 hx (t := .boolean) Bd.returns (by simp) (hb hby d2_63) hr
      · show Q2 Z q1 q2 q3 q4 h0 n0 _ s₁.heap _
        rw [e0]
        refine ⟨congrArg (fun z => some (Value.int z)) ?_, N0, rfl⟩
        have e0 : (0 : Int64).toInt = 0 := rfl
        simp only [own_bt, own_bf, own_cb, Int64.lt_iff_toInt_lt, ← Int64.toInt_inj, e0] at hc3 hc17 ⊢
        repeat' split
        all_goals (first | rfl | (exfalso; omega))
    · have pre124 : ∀ t, Steps p.tables e below (s₁.setTop (mkF m 68 #[.val (.long q1), .second, .val (.long q2), .second, .val (.long q3), .second, .val (.long q4), .second, .val (.int (0 : Int32)), .val (.int (0 : Int32))] [(.int (lcmpW q1 q3))])) t → Steps p.tables e below (s₁.setTop (entryFrame m #[(.long q1), (.long q2), (.long q3), (.long q4)] 10)) t := by
        intro t kt
        refine pre122 t ?_
        show Steps p.tables e below (s₁.setTop (mkF m 17 #[.val (.long q1), .second, .val (.long q2), .second, .val (.long q3), .second, .val (.long q4), .second, .val (.int (0 : Int32)), .unset] [(.int (lcmpW q4 (0 : Int64)))])) _
        refine XS.ifYes X0.here hx rfl (pc0 := 17) (pc' := 24) rfl (hb hby d2_17) rfl ((if0 _ _).trans (flt (fun q => hc17 ((lw_lt _ _).mp q))).2.1) (by decide) (by decide) ?_
        show Steps p.tables e below (s₁.setTop (mkF m 24 #[.val (.long q1), .second, .val (.long q2), .second, .val (.long q3), .second, .val (.long q4), .second, .val (.int (0 : Int32)), .unset] [])) _
        refine XS.iconst X0.here hx rfl (hb hby d2_24) ?_
        show Steps p.tables e below (s₁.setTop (mkF m 25 #[.val (.long q1), .second, .val (.long q2), .second, .val (.long q3), .second, .val (.long q4), .second, .val (.int (0 : Int32)), .unset] [(.int (0 : Int32))])) _
        refine XS.istore X0.here hx rfl (hb hby d2_25) rfl (l' := #[.val (.long q1), .second, .val (.long q2), .second, .val (.long q3), .second, .val (.long q4), .second, .val (.int (0 : Int32)), .val (.int (0 : Int32))]) rfl ?_
        show Steps p.tables e below (s₁.setTop (mkF m 27 #[.val (.long q1), .second, .val (.long q2), .second, .val (.long q3), .second, .val (.long q4), .second, .val (.int (0 : Int32)), .val (.int (0 : Int32))] [])) _
        refine XS.iload X0.here hx rfl (hb hby d2_27) rfl ?_
        show Steps p.tables e below (s₁.setTop (mkF m 29 #[.val (.long q1), .second, .val (.long q2), .second, .val (.long q3), .second, .val (.long q4), .second, .val (.int (0 : Int32)), .val (.int (0 : Int32))] [(.int (0 : Int32))])) _
        refine XS.ifYes X0.here hx rfl (pc0 := 29) (pc' := 50) rfl (hb hby d2_29) rfl ((if0 _ _).trans (teq (by decide)).1) (by decide) (by decide) ?_
        show Steps p.tables e below (s₁.setTop (mkF m 50 #[.val (.long q1), .second, .val (.long q2), .second, .val (.long q3), .second, .val (.long q4), .second, .val (.int (0 : Int32)), .val (.int (0 : Int32))] [])) _
        refine XS.iload X0.here hx rfl (hb hby d2_50) rfl ?_
        show Steps p.tables e below (s₁.setTop (mkF m 52 #[.val (.long q1), .second, .val (.long q2), .second, .val (.long q3), .second, .val (.long q4), .second, .val (.int (0 : Int32)), .val (.int (0 : Int32))] [(.int (0 : Int32))])) _
        refine XS.ifYes X0.here hx rfl (pc0 := 52) (pc' := 57) rfl (hb hby d2_52) rfl ((if0 _ _).trans (teq (by decide)).1) (by decide) (by decide) ?_
        show Steps p.tables e below (s₁.setTop (mkF m 57 #[.val (.long q1), .second, .val (.long q2), .second, .val (.long q3), .second, .val (.long q4), .second, .val (.int (0 : Int32)), .val (.int (0 : Int32))] [])) _
        refine XS.iload X0.here hx rfl (hb hby d2_57) rfl ?_
        show Steps p.tables e below (s₁.setTop (mkF m 59 #[.val (.long q1), .second, .val (.long q2), .second, .val (.long q3), .second, .val (.long q4), .second, .val (.int (0 : Int32)), .val (.int (0 : Int32))] [(.int (0 : Int32))])) _
        refine XS.ifYes X0.here hx rfl (pc0 := 59) (pc' := 64) rfl (hb hby d2_59) rfl ((if0 _ _).trans (teq (by decide)).1) (by decide) (by decide) ?_
        show Steps p.tables e below (s₁.setTop (mkF m 64 #[.val (.long q1), .second, .val (.long q2), .second, .val (.long q3), .second, .val (.long q4), .second, .val (.int (0 : Int32)), .val (.int (0 : Int32))] [])) _
        refine XS.lloadN X0.here hx rfl (hb hby d2_64) rfl ?_
        show Steps p.tables e below (s₁.setTop (mkF m 65 #[.val (.long q1), .second, .val (.long q2), .second, .val (.long q3), .second, .val (.long q4), .second, .val (.int (0 : Int32)), .val (.int (0 : Int32))] [(.long q1)])) _
        refine XS.lload X0.here hx rfl (hb hby d2_65) rfl ?_
        show Steps p.tables e below (s₁.setTop (mkF m 67 #[.val (.long q1), .second, .val (.long q2), .second, .val (.long q3), .second, .val (.long q4), .second, .val (.int (0 : Int32)), .val (.int (0 : Int32))] [(.long q3), (.long q1)])) _
        refine XS.lcmp X0.here hx rfl (hb hby d2_67) rfl ?_
        exact kt
      by_cases hc68 : q1 = q3
      · have pre125 : ∀ t, Steps p.tables e below (s₁.setTop (mkF m 88 #[.val (.long q1), .second, .val (.long q2), .second, .val (.long q3), .second, .val (.long q4), .second, .val (.int (0 : Int32)), .val (.int (0 : Int32))] [(.int (lcmpW q2 q4))])) t → Steps p.tables e below (s₁.setTop (entryFrame m #[(.long q1), (.long q2), (.long q3), (.long q4)] 10)) t := by
          intro t kt
          refine pre124 t ?_
          show Steps p.tables e below (s₁.setTop (mkF m 68 #[.val (.long q1), .second, .val (.long q2), .second, .val (.long q3), .second, .val (.long q4), .second, .val (.int (0 : Int32)), .val (.int (0 : Int32))] [(.int (lcmpW q1 q3))])) _
          refine XS.ifYes X0.here hx rfl (pc0 := 68) (pc' := 84) rfl (hb hby d2_68) rfl ((if0 _ _).trans (teq ((lw_eq _ _).mpr hc68)).1) (by decide) (by decide) ?_
          show Steps p.tables e below (s₁.setTop (mkF m 84 #[.val (.long q1), .second, .val (.long q2), .second, .val (.long q3), .second, .val (.long q4), .second, .val (.int (0 : Int32)), .val (.int (0 : Int32))] [])) _
          refine XS.lloadN X0.here hx rfl (hb hby d2_84) rfl ?_
          show Steps p.tables e below (s₁.setTop (mkF m 85 #[.val (.long q1), .second, .val (.long q2), .second, .val (.long q3), .second, .val (.long q4), .second, .val (.int (0 : Int32)), .val (.int (0 : Int32))] [(.long q2)])) _
          refine XS.lload X0.here hx rfl (hb hby d2_85) rfl ?_
          show Steps p.tables e below (s₁.setTop (mkF m 87 #[.val (.long q1), .second, .val (.long q2), .second, .val (.long q3), .second, .val (.long q4), .second, .val (.int (0 : Int32)), .val (.int (0 : Int32))] [(.long q4), (.long q2)])) _
          refine XS.lcmp X0.here hx rfl (hb hby d2_87) rfl ?_
          exact kt
        by_cases hc88 : q2 < q4
        · have pre126 : ∀ t, Steps p.tables e below (s₁.setTop (mkF m 96 #[.val (.long q1), .second, .val (.long q2), .second, .val (.long q3), .second, .val (.long q4), .second, .val (.int (0 : Int32)), .val (.int (0 : Int32))] [(.int (1 : Int32))])) t → Steps p.tables e below (s₁.setTop (entryFrame m #[(.long q1), (.long q2), (.long q3), (.long q4)] 10)) t := by
            intro t kt
            refine pre125 t ?_
            show Steps p.tables e below (s₁.setTop (mkF m 88 #[.val (.long q1), .second, .val (.long q2), .second, .val (.long q3), .second, .val (.long q4), .second, .val (.int (0 : Int32)), .val (.int (0 : Int32))] [(.int (lcmpW q2 q4))])) _
            refine XS.ifNo X0.here hx rfl (hb hby d2_88) rfl ((if0 _ _).trans (tlt ((lw_lt _ _).mpr hc88)).2.1) ?_
            show Steps p.tables e below (s₁.setTop (mkF m 91 #[.val (.long q1), .second, .val (.long q2), .second, .val (.long q3), .second, .val (.long q4), .second, .val (.int (0 : Int32)), .val (.int (0 : Int32))] [])) _
            refine XS.iconst X0.here hx rfl (hb hby d2_91) ?_
            show Steps p.tables e below (s₁.setTop (mkF m 92 #[.val (.long q1), .second, .val (.long q2), .second, .val (.long q3), .second, .val (.long q4), .second, .val (.int (0 : Int32)), .val (.int (0 : Int32))] [(.int (1 : Int32))])) _
            refine XS.goto X0.here hx rfl (pc0 := 92) (pc' := 96) rfl (hb hby d2_92) (by decide) (by decide) ?_
            exact kt
          obtain ⟨fsx, hr, hrun, hended, hW, hsame⟩ := X0.leave (v := some (.int (nar .boolean (1 : Int32)))) (fun h => by rw [Bd.returns] at h; cases h)
          refine ⟨_, _, pre126 _ ?_, hrun, hended, _, _, rfl, ?_, ⟨_, rfl⟩, hW, hsame.mono (by decide) (by decide)⟩
          · exact retN X0 hx (t := .boolean) Bd.returns (by simp) (hb hby d2_96) hr
          · show Q2 Z q1 q2 q3 q4 h0 n0 _ s₁.heap _
            rw [e0]
            refine ⟨congrArg (fun z => some (Value.int z)) ?_, N0, rfl⟩
            have e0 : (0 : Int64).toInt = 0 := rfl
            simp only [own_bt, own_bf, own_cb, Int64.lt_iff_toInt_lt, ← Int64.toInt_inj, e0] at hc3 hc17 hc68 hc88 ⊢
            repeat' split
            all_goals (first | rfl | (exfalso; omega))
        · have pre127 : ∀ t, Steps p.tables e below (s₁.setTop (mkF m 96 #[.val (.long q1), .second, .val (.long q2), .second, .val (.long q3), .second, .val (.long q4), .second, .val (.int (0 : Int32)), .val (.int (0 : Int32))] [(.int (0 : Int32))])) t → Steps p.tables e below (s₁.setTop (entryFrame m #[(.long q1), (.long q2), (.long q3), (.long q4)] 10)) t := by
            intro t kt
            refine pre125 t ?_
            show Steps p.tables e below (s₁.setTop (mkF m 88 #[.val (.long q1), .second, .val (.long q2), .second, .val (.long q3), .second, .val (.long q4), .second, .val (.int (0 : Int32)), .val (.int (0 : Int32))] [(.int (lcmpW q2 q4))])) _
            refine XS.ifYes X0.here hx rfl (pc0 := 88) (pc' := 95) rfl (hb hby d2_88) rfl ((if0 _ _).trans (flt (fun q => hc88 ((lw_lt _ _).mp q))).2.1) (by decide) (by decide) ?_
            show Steps p.tables e below (s₁.setTop (mkF m 95 #[.val (.long q1), .second, .val (.long q2), .second, .val (.long q3), .second, .val (.long q4), .second, .val (.int (0 : Int32)), .val (.int (0 : Int32))] [])) _
            refine XS.iconst X0.here hx rfl (hb hby d2_95) ?_
            exact kt
          obtain ⟨fsx, hr, hrun, hended, hW, hsame⟩ := X0.leave (v := some (.int (nar .boolean (0 : Int32)))) (fun h => by rw [Bd.returns] at h; cases h)
          refine ⟨_, _, pre127 _ ?_, hrun, hended, _, _, rfl, ?_, ⟨_, rfl⟩, hW, hsame.mono (by decide) (by decide)⟩
          · exact retN X0 hx (t := .boolean) Bd.returns (by simp) (hb hby d2_96) hr
          · show Q2 Z q1 q2 q3 q4 h0 n0 _ s₁.heap _
            rw [e0]
            refine ⟨congrArg (fun z => some (Value.int z)) ?_, N0, rfl⟩
            have e0 : (0 : Int64).toInt = 0 := rfl
            simp only [own_bt, own_bf, own_cb, Int64.lt_iff_toInt_lt, ← Int64.toInt_inj, e0] at hc3 hc17 hc68 hc88 ⊢
            repeat' split
            all_goals (first | rfl | (exfalso; omega))
      · have pre128 : ∀ t, Steps p.tables e below (s₁.setTop (mkF m 75 #[.val (.long q1), .second, .val (.long q2), .second, .val (.long q3), .second, .val (.long q4), .second, .val (.int (0 : Int32)), .val (.int (0 : Int32))] [(.int (lcmpW q1 q3))])) t → Steps p.tables e below (s₁.setTop (entryFrame m #[(.long q1), (.long q2), (.long q3), (.long q4)] 10)) t := by
          intro t kt
          refine pre124 t ?_
          show Steps p.tables e below (s₁.setTop (mkF m 68 #[.val (.long q1), .second, .val (.long q2), .second, .val (.long q3), .second, .val (.long q4), .second, .val (.int (0 : Int32)), .val (.int (0 : Int32))] [(.int (lcmpW q1 q3))])) _
          refine XS.ifNo X0.here hx rfl (hb hby d2_68) rfl ((if0 _ _).trans (feq (fun q => hc68 ((lw_eq _ _).mp q))).1) ?_
          show Steps p.tables e below (s₁.setTop (mkF m 71 #[.val (.long q1), .second, .val (.long q2), .second, .val (.long q3), .second, .val (.long q4), .second, .val (.int (0 : Int32)), .val (.int (0 : Int32))] [])) _
          refine XS.lloadN X0.here hx rfl (hb hby d2_71) rfl ?_
          show Steps p.tables e below (s₁.setTop (mkF m 72 #[.val (.long q1), .second, .val (.long q2), .second, .val (.long q3), .second, .val (.long q4), .second, .val (.int (0 : Int32)), .val (.int (0 : Int32))] [(.long q1)])) _
          refine XS.lload X0.here hx rfl (hb hby d2_72) rfl ?_
          show Steps p.tables e below (s₁.setTop (mkF m 74 #[.val (.long q1), .second, .val (.long q2), .second, .val (.long q3), .second, .val (.long q4), .second, .val (.int (0 : Int32)), .val (.int (0 : Int32))] [(.long q3), (.long q1)])) _
          refine XS.lcmp X0.here hx rfl (hb hby d2_74) rfl ?_
          exact kt
        by_cases hc75 : q1 < q3
        · have pre129 : ∀ t, Steps p.tables e below (s₁.setTop (mkF m 83 #[.val (.long q1), .second, .val (.long q2), .second, .val (.long q3), .second, .val (.long q4), .second, .val (.int (0 : Int32)), .val (.int (0 : Int32))] [(.int (1 : Int32))])) t → Steps p.tables e below (s₁.setTop (entryFrame m #[(.long q1), (.long q2), (.long q3), (.long q4)] 10)) t := by
            intro t kt
            refine pre128 t ?_
            show Steps p.tables e below (s₁.setTop (mkF m 75 #[.val (.long q1), .second, .val (.long q2), .second, .val (.long q3), .second, .val (.long q4), .second, .val (.int (0 : Int32)), .val (.int (0 : Int32))] [(.int (lcmpW q1 q3))])) _
            refine XS.ifNo X0.here hx rfl (hb hby d2_75) rfl ((if0 _ _).trans (tlt ((lw_lt _ _).mpr hc75)).2.1) ?_
            show Steps p.tables e below (s₁.setTop (mkF m 78 #[.val (.long q1), .second, .val (.long q2), .second, .val (.long q3), .second, .val (.long q4), .second, .val (.int (0 : Int32)), .val (.int (0 : Int32))] [])) _
            refine XS.iconst X0.here hx rfl (hb hby d2_78) ?_
            show Steps p.tables e below (s₁.setTop (mkF m 79 #[.val (.long q1), .second, .val (.long q2), .second, .val (.long q3), .second, .val (.long q4), .second, .val (.int (0 : Int32)), .val (.int (0 : Int32))] [(.int (1 : Int32))])) _
            refine XS.goto X0.here hx rfl (pc0 := 79) (pc' := 83) rfl (hb hby d2_79) (by decide) (by decide) ?_
            exact kt
          obtain ⟨fsx, hr, hrun, hended, hW, hsame⟩ := X0.leave (v := some (.int (nar .boolean (1 : Int32)))) (fun h => by rw [Bd.returns] at h; cases h)
          refine ⟨_, _, pre129 _ ?_, hrun, hended, _, _, rfl, ?_, ⟨_, rfl⟩, hW, hsame.mono (by decide) (by decide)⟩
          · exact retN X0 hx (t := .boolean) Bd.returns (by simp) (hb hby d2_83) hr
          · show Q2 Z q1 q2 q3 q4 h0 n0 _ s₁.heap _
            rw [e0]
            refine ⟨congrArg (fun z => some (Value.int z)) ?_, N0, rfl⟩
            have e0 : (0 : Int64).toInt = 0 := rfl
            simp only [own_bt, own_bf, own_cb, Int64.lt_iff_toInt_lt, ← Int64.toInt_inj, e0] at hc3 hc17 hc68 hc75 ⊢
            repeat' split
            all_goals (first | rfl | (exfalso; omega))
        · have pre130 : ∀ t, Steps p.tables e below (s₁.setTop (mkF m 83 #[.val (.long q1), .second, .val (.long q2), .second, .val (.long q3), .second, .val (.long q4), .second, .val (.int (0 : Int32)), .val (.int (0 : Int32))] [(.int (0 : Int32))])) t → Steps p.tables e below (s₁.setTop (entryFrame m #[(.long q1), (.long q2), (.long q3), (.long q4)] 10)) t := by
            intro t kt
            refine pre128 t ?_
            show Steps p.tables e below (s₁.setTop (mkF m 75 #[.val (.long q1), .second, .val (.long q2), .second, .val (.long q3), .second, .val (.long q4), .second, .val (.int (0 : Int32)), .val (.int (0 : Int32))] [(.int (lcmpW q1 q3))])) _
            refine XS.ifYes X0.here hx rfl (pc0 := 75) (pc' := 82) rfl (hb hby d2_75) rfl ((if0 _ _).trans (flt (fun q => hc75 ((lw_lt _ _).mp q))).2.1) (by decide) (by decide) ?_
            show Steps p.tables e below (s₁.setTop (mkF m 82 #[.val (.long q1), .second, .val (.long q2), .second, .val (.long q3), .second, .val (.long q4), .second, .val (.int (0 : Int32)), .val (.int (0 : Int32))] [])) _
            refine XS.iconst X0.here hx rfl (hb hby d2_82) ?_
            exact kt
          obtain ⟨fsx, hr, hrun, hended, hW, hsame⟩ := X0.leave (v := some (.int (nar .boolean (0 : Int32)))) (fun h => by rw [Bd.returns] at h; cases h)
          refine ⟨_, _, pre130 _ ?_, hrun, hended, _, _, rfl, ?_, ⟨_, rfl⟩, hW, hsame.mono (by decide) (by decide)⟩
          · exact retN X0 hx (t := .boolean) Bd.returns (by simp) (hb hby d2_83) hr
          · show Q2 Z q1 q2 q3 q4 h0 n0 _ s₁.heap _
            rw [e0]
            refine ⟨congrArg (fun z => some (Value.int z)) ?_, N0, rfl⟩
            have e0 : (0 : Int64).toInt = 0 := rfl
            simp only [own_bt, own_bf, own_cb, Int64.lt_iff_toInt_lt, ← Int64.toInt_inj, e0] at hc3 hc17 hc68 hc75 ⊢
            repeat' split
            all_goals (first | rfl | (exfalso; omega))
theorem pd_0 : parseMethodDescriptor "(JJJJ)Z" = some ⟨[.long, .long, .long, .long], some .boolean⟩ := by decide +kernel
theorem ef_rm0 (m : MethodId) (x0 : Int64) (x1 : Int64) (x2 : Int64) (x3 : Int64) (x4 : Int32) : entryFrame m #[(.long x0), (.long x1), (.long x2), (.long x3), (.int x4)] maxLocals = mkF m 0 #[.val (.long x0), .second, .val (.long x1), .second, .val (.long x2), .second, .val (.long x3), .second, .val (.int x4), .unset, .unset, .unset, .unset, .unset, .unset] [] := by first | (simp [entryFrame, mkF, argsToLocals, Value.category, maxLocals]; done) | rfl
def Q0 (Z : State) (q1 : Int64) (q2 : Int64) (q3 : Int64) (q4 : Int64) (p5 : Int32) (h0 : Heap) (n0 : Nat) (v : Option Value) (h : Heap) (L : List Loc) : Prop := v = some (.int 1) ∧ Fr n0 L
set_option maxRecDepth 65536 in
set_option maxHeartbeats 40000000 in
theorem rm0 (l : Launch) (Z : State) (a0 : Array Value) (hw : ∀ d ∈ tables_1, d.before a0 Z = true) (ws : List Jvm.Cond) (q1 : Int64) (q2 : Int64) (q3 : Int64) (q4 : Int64) (p5 : Int32) (h0 : Heap) (n0 : Nat) (Z0 : n0 ≤ h0.size)  :
    MetFree l x (head1 (Jvm.Cond.code x code maxLocals ret :: ws) room_1) (fun a U => a = #[(.long q1), (.long q2), (.long q3), (.long q4), (.int p5)] ∧ Z.Warmed39 U.vm ∧ U.heap = h0) (fun _ _ _ _ _ => True) (fun _ U o U' => ∃ v L, o = .returned v ∧ Q0 Z q1 q2 q3 q4 p5 h0 n0 v U'.heap L ∧ FrameEnd U o U' L room_1.cells room_1.slots) := by
  refine MetFree.of_bodySF (plainFor_of_name pn_1) hisR ?_
  intro p e s m args below meth c s₁ Bd hml0 hP hK
  obtain ⟨rfl, hZ, hh⟩ := hP
  have hx := Bd.exec
  have hby := Bd.bytes
  have hml : c.maxLocals = 15 := hml0
  have hown : s.vm.findClass "org/threadpost/MessageHeapComesBeforePinLaw" = some m.cls := findClass_of_methodNamed Bd.named
  have hnm := (name_of_methodNamed Bd.named Bd.method).1
  have X0 : Stand p l e room_1 s m #[(.long q1), (.long q2), (.long q3), (.long q4), (.int p5)] below meth c s₁ [] 0 0 := Stand.of_body Bd
  have e0 : s₁.heap = h0 := by rw [← hh, Bd.state]; rfl
  have N0 := Fr.nil n0
  have pre0 : ∀ t, Steps p.tables e below (s₁.setTop (mkF m 0 #[.val (.long q1), .second, .val (.long q2), .second, .val (.long q3), .second, .val (.long q4), .second, .val (.int p5), .unset, .unset, .unset, .unset, .unset, .unset] [])) t → Steps p.tables e below (s₁.setTop (entryFrame m #[(.long q1), (.long q2), (.long q3), (.long q4), (.int p5)] maxLocals)) t := fun t k => castTop (ef_rm0 m q1 q2 q3 q4 p5) k
  have pre131 : ∀ t, Steps p.tables e below (s₁.setTop (mkF m 4 #[.val (.long q1), .second, .val (.long q2), .second, .val (.long q3), .second, .val (.long q4), .second, .val (.int p5), .unset, .unset, .unset, .unset, .unset, .unset] [(.int (p5 &&& (1 : Int32)))])) t → Steps p.tables e below (s₁.setTop (entryFrame m #[(.long q1), (.long q2), (.long q3), (.long q4), (.int p5)] maxLocals)) t := by
    intro t kt
    refine pre0 t ?_
    show Steps p.tables e below (s₁.setTop (mkF m 0 #[.val (.long q1), .second, .val (.long q2), .second, .val (.long q3), .second, .val (.long q4), .second, .val (.int p5), .unset, .unset, .unset, .unset, .unset, .unset] [])) _
    refine XS.iload X0.here hx rfl (hb hby at_0) rfl ?_
    show Steps p.tables e below (s₁.setTop (mkF m 2 #[.val (.long q1), .second, .val (.long q2), .second, .val (.long q3), .second, .val (.long q4), .second, .val (.int p5), .unset, .unset, .unset, .unset, .unset, .unset] [(.int p5)])) _
    refine XS.iconst X0.here hx rfl (hb hby at_2) ?_
    show Steps p.tables e below (s₁.setTop (mkF m 3 #[.val (.long q1), .second, .val (.long q2), .second, .val (.long q3), .second, .val (.long q4), .second, .val (.int p5), .unset, .unset, .unset, .unset, .unset, .unset] [(.int (1 : Int32)), (.int p5)])) _
    refine XS.iand X0.here hx rfl (hb hby at_3) rfl ?_
    exact kt
  obtain ⟨w2, h_w2, pre132⟩ : ∃ (w2 : Int64), (True) ∧ ∀ t, Steps p.tables e below (s₁.setTop (mkF m 13 #[.val (.long q1), .second, .val (.long q2), .second, .val (.long q3), .second, .val (.long q4), .second, .val (.int p5), .unset, .unset, .unset, .unset, .unset, .unset] [(.long w2)])) t → Steps p.tables e below (s₁.setTop (entryFrame m #[(.long q1), (.long q2), (.long q3), (.long q4), (.int p5)] maxLocals)) t := by
    by_cases hc4 : (p5 &&& (1 : Int32)) = (0 : Int32)
    · have pre133 : ∀ t, Steps p.tables e below (s₁.setTop (mkF m 13 #[.val (.long q1), .second, .val (.long q2), .second, .val (.long q3), .second, .val (.long q4), .second, .val (.int p5), .unset, .unset, .unset, .unset, .unset, .unset] [(.long q3)])) t → Steps p.tables e below (s₁.setTop (entryFrame m #[(.long q1), (.long q2), (.long q3), (.long q4), (.int p5)] maxLocals)) t := by
        intro t kt
        refine pre131 t ?_
        show Steps p.tables e below (s₁.setTop (mkF m 4 #[.val (.long q1), .second, .val (.long q2), .second, .val (.long q3), .second, .val (.long q4), .second, .val (.int p5), .unset, .unset, .unset, .unset, .unset, .unset] [(.int (p5 &&& (1 : Int32)))])) _
        refine XS.ifYes X0.here hx rfl (pc0 := 4) (pc' := 11) rfl (hb hby at_4) rfl ((if0 _ _).trans (teq hc4).1) (by decide) (by decide) ?_
        show Steps p.tables e below (s₁.setTop (mkF m 11 #[.val (.long q1), .second, .val (.long q2), .second, .val (.long q3), .second, .val (.long q4), .second, .val (.int p5), .unset, .unset, .unset, .unset, .unset, .unset] [])) _
        refine XS.lload X0.here hx rfl (hb hby at_11) rfl ?_
        exact kt
      refine ⟨q3, ?_, pre133⟩
      trivial
    · have pre134 : ∀ t, Steps p.tables e below (s₁.setTop (mkF m 13 #[.val (.long q1), .second, .val (.long q2), .second, .val (.long q3), .second, .val (.long q4), .second, .val (.int p5), .unset, .unset, .unset, .unset, .unset, .unset] [(.long q1)])) t → Steps p.tables e below (s₁.setTop (entryFrame m #[(.long q1), (.long q2), (.long q3), (.long q4), (.int p5)] maxLocals)) t := by
        intro t kt
        refine pre131 t ?_
        show Steps p.tables e below (s₁.setTop (mkF m 4 #[.val (.long q1), .second, .val (.long q2), .second, .val (.long q3), .second, .val (.long q4), .second, .val (.int p5), .unset, .unset, .unset, .unset, .unset, .unset] [(.int (p5 &&& (1 : Int32)))])) _
        refine XS.ifNo X0.here hx rfl (hb hby at_4) rfl ((if0 _ _).trans (feq hc4).1) ?_
        show Steps p.tables e below (s₁.setTop (mkF m 7 #[.val (.long q1), .second, .val (.long q2), .second, .val (.long q3), .second, .val (.long q4), .second, .val (.int p5), .unset, .unset, .unset, .unset, .unset, .unset] [])) _
        refine XS.lloadN X0.here hx rfl (hb hby at_7) rfl ?_
        show Steps p.tables e below (s₁.setTop (mkF m 8 #[.val (.long q1), .second, .val (.long q2), .second, .val (.long q3), .second, .val (.long q4), .second, .val (.int p5), .unset, .unset, .unset, .unset, .unset, .unset] [(.long q1)])) _
        refine XS.goto X0.here hx rfl (pc0 := 8) (pc' := 13) rfl (hb hby at_8) (by decide) (by decide) ?_
        exact kt
      refine ⟨q1, ?_, pre134⟩
      trivial
  have pre135 : ∀ t, Steps p.tables e below (s₁.setTop (mkF m 19 #[.val (.long q1), .second, .val (.long q2), .second, .val (.long q3), .second, .val (.long q4), .second, .val (.int p5), .val (.long w2), .second, .unset, .unset, .unset, .unset] [(.int (p5 &&& (2 : Int32)))])) t → Steps p.tables e below (s₁.setTop (entryFrame m #[(.long q1), (.long q2), (.long q3), (.long q4), (.int p5)] maxLocals)) t := by
    intro t kt
    refine pre132 t ?_
    show Steps p.tables e below (s₁.setTop (mkF m 13 #[.val (.long q1), .second, .val (.long q2), .second, .val (.long q3), .second, .val (.long q4), .second, .val (.int p5), .unset, .unset, .unset, .unset, .unset, .unset] [(.long w2)])) _
    refine XS.lstore X0.here hx rfl (hb hby at_13) rfl (l' := #[.val (.long q1), .second, .val (.long q2), .second, .val (.long q3), .second, .val (.long q4), .second, .val (.int p5), .val (.long w2), .second, .unset, .unset, .unset, .unset]) rfl ?_
    show Steps p.tables e below (s₁.setTop (mkF m 15 #[.val (.long q1), .second, .val (.long q2), .second, .val (.long q3), .second, .val (.long q4), .second, .val (.int p5), .val (.long w2), .second, .unset, .unset, .unset, .unset] [])) _
    refine XS.iload X0.here hx rfl (hb hby at_15) rfl ?_
    show Steps p.tables e below (s₁.setTop (mkF m 17 #[.val (.long q1), .second, .val (.long q2), .second, .val (.long q3), .second, .val (.long q4), .second, .val (.int p5), .val (.long w2), .second, .unset, .unset, .unset, .unset] [(.int p5)])) _
    refine XS.iconst X0.here hx rfl (hb hby at_17) ?_
    show Steps p.tables e below (s₁.setTop (mkF m 18 #[.val (.long q1), .second, .val (.long q2), .second, .val (.long q3), .second, .val (.long q4), .second, .val (.int p5), .val (.long w2), .second, .unset, .unset, .unset, .unset] [(.int (2 : Int32)), (.int p5)])) _
    refine XS.iand X0.here hx rfl (hb hby at_18) rfl ?_
    exact kt
  obtain ⟨s2, h_s2, pre136⟩ : ∃ (s2 : Int64), (True) ∧ ∀ t, Steps p.tables e below (s₁.setTop (mkF m 28 #[.val (.long q1), .second, .val (.long q2), .second, .val (.long q3), .second, .val (.long q4), .second, .val (.int p5), .val (.long w2), .second, .unset, .unset, .unset, .unset] [(.long s2)])) t → Steps p.tables e below (s₁.setTop (entryFrame m #[(.long q1), (.long q2), (.long q3), (.long q4), (.int p5)] maxLocals)) t := by
    by_cases hc19 : (p5 &&& (2 : Int32)) = (0 : Int32)
    · have pre137 : ∀ t, Steps p.tables e below (s₁.setTop (mkF m 28 #[.val (.long q1), .second, .val (.long q2), .second, .val (.long q3), .second, .val (.long q4), .second, .val (.int p5), .val (.long w2), .second, .unset, .unset, .unset, .unset] [(.long q4)])) t → Steps p.tables e below (s₁.setTop (entryFrame m #[(.long q1), (.long q2), (.long q3), (.long q4), (.int p5)] maxLocals)) t := by
        intro t kt
        refine pre135 t ?_
        show Steps p.tables e below (s₁.setTop (mkF m 19 #[.val (.long q1), .second, .val (.long q2), .second, .val (.long q3), .second, .val (.long q4), .second, .val (.int p5), .val (.long w2), .second, .unset, .unset, .unset, .unset] [(.int (p5 &&& (2 : Int32)))])) _
        refine XS.ifYes X0.here hx rfl (pc0 := 19) (pc' := 26) rfl (hb hby at_19) rfl ((if0 _ _).trans (teq hc19).1) (by decide) (by decide) ?_
        show Steps p.tables e below (s₁.setTop (mkF m 26 #[.val (.long q1), .second, .val (.long q2), .second, .val (.long q3), .second, .val (.long q4), .second, .val (.int p5), .val (.long w2), .second, .unset, .unset, .unset, .unset] [])) _
        refine XS.lload X0.here hx rfl (hb hby at_26) rfl ?_
        exact kt
      refine ⟨q4, ?_, pre137⟩
      trivial
    · have pre138 : ∀ t, Steps p.tables e below (s₁.setTop (mkF m 28 #[.val (.long q1), .second, .val (.long q2), .second, .val (.long q3), .second, .val (.long q4), .second, .val (.int p5), .val (.long w2), .second, .unset, .unset, .unset, .unset] [(.long q2)])) t → Steps p.tables e below (s₁.setTop (entryFrame m #[(.long q1), (.long q2), (.long q3), (.long q4), (.int p5)] maxLocals)) t := by
        intro t kt
        refine pre135 t ?_
        show Steps p.tables e below (s₁.setTop (mkF m 19 #[.val (.long q1), .second, .val (.long q2), .second, .val (.long q3), .second, .val (.long q4), .second, .val (.int p5), .val (.long w2), .second, .unset, .unset, .unset, .unset] [(.int (p5 &&& (2 : Int32)))])) _
        refine XS.ifNo X0.here hx rfl (hb hby at_19) rfl ((if0 _ _).trans (feq hc19).1) ?_
        show Steps p.tables e below (s₁.setTop (mkF m 22 #[.val (.long q1), .second, .val (.long q2), .second, .val (.long q3), .second, .val (.long q4), .second, .val (.int p5), .val (.long w2), .second, .unset, .unset, .unset, .unset] [])) _
        refine XS.lloadN X0.here hx rfl (hb hby at_22) rfl ?_
        show Steps p.tables e below (s₁.setTop (mkF m 23 #[.val (.long q1), .second, .val (.long q2), .second, .val (.long q3), .second, .val (.long q4), .second, .val (.int p5), .val (.long w2), .second, .unset, .unset, .unset, .unset] [(.long q2)])) _
        refine XS.goto X0.here hx rfl (pc0 := 23) (pc' := 28) rfl (hb hby at_23) (by decide) (by decide) ?_
        exact kt
      refine ⟨q2, ?_, pre138⟩
      trivial
  obtain ⟨_, _, ⟨T139, L139, k139, n139⟩, -, X139, ⟨Lc139, hQ139, l139, y139, z139⟩, st139⟩ := Jvm.LawKit.callS X0 hx (y := (⟨"org/threadpost/MessageHeap", "comesBefore", "(JJJJ)Z"⟩ : MethodName)) hown (mvT hZ (hw _ (List.mem_of_getElem? (i := 0) rfl))) (mvT hZ (hw _ (List.mem_of_getElem? (i := 1) rfl))) (mvT hZ (hw _ (List.mem_of_getElem? (i := 2) rfl))) (mvT hZ (hw _ (List.mem_of_getElem? (i := 3) rfl))) (by decide) (backOf (W := 0) (rm1 l Z a0 hw [] q1 q2 w2 s2 h0 n0 Z0) hZ (hw _ (List.mem_of_getElem? (i := 3) rfl)) (hw _ (List.mem_of_getElem? (i := 2) rfl)) (by decide) (by decide)) (g := (mkF m 36 #[.val (.long q1), .second, .val (.long q2), .second, .val (.long q3), .second, .val (.long q4), .second, .val (.int p5), .val (.long w2), .second, .val (.long s2), .second, .unset, .unset] [(.long s2), (.long w2), (.long q2), (.long q1)])) rfl (by rw [hml]; rfl) (argsL := [(.long q1), (.long q2), (.long w2), (.long s2)]) (rest := []) (lenOf pd_0 rfl) rfl (by show 2 * 0 + _ ≤ _; exact Nat.le_of_eq rfl) (hb hby at_36) (fun _ _ => ⟨rfl, e0, (by decide : 0 + 0 ≤ _), (by decide : 0 + 0 ≤ _)⟩)
  dsimp only [Pt.U, Pt.locs, Pt.cells, Pt.slots] at X139 l139 y139 z139 st139 hQ139
  subst l139 y139 z139
  obtain ⟨rfl, Nq139, eq139⟩ := hQ139
  have Nf139 := Fr.app N0 Nq139
  obtain ⟨_, _, ⟨T140, L140, k140, n140⟩, -, X140, ⟨Lc140, hQ140, l140, y140, z140⟩, st140⟩ := Jvm.LawKit.callS X139 hx (y := (⟨"org/threadpost/MessageHeap", "comesBefore", "(JJJJ)Z"⟩ : MethodName)) hown (mvT hZ (hw _ (List.mem_of_getElem? (i := 0) rfl))) (mvT hZ (hw _ (List.mem_of_getElem? (i := 1) rfl))) (mvT hZ (hw _ (List.mem_of_getElem? (i := 2) rfl))) (mvT hZ (hw _ (List.mem_of_getElem? (i := 3) rfl))) (by decide) (backOf (W := 0) (rm1 l Z a0 hw [] w2 s2 q1 q2 h0 n0 Z0) hZ (hw _ (List.mem_of_getElem? (i := 3) rfl)) (hw _ (List.mem_of_getElem? (i := 2) rfl)) (by decide) (by decide)) (g := (mkF m 47 #[.val (.long q1), .second, .val (.long q2), .second, .val (.long q3), .second, .val (.long q4), .second, .val (.int p5), .val (.long w2), .second, .val (.long s2), .second, .val (.int (own_cb q1 q2 w2 s2)), .unset] [(.long q2), (.long q1), (.long s2), (.long w2)])) rfl (by rw [hml]; rfl) (argsL := [(.long w2), (.long s2), (.long q1), (.long q2)]) (rest := []) (lenOf pd_0 rfl) rfl (by show 2 * 0 + _ ≤ _; exact Nat.le_of_eq rfl) (hb hby at_47) (fun _ _ => ⟨rfl, eq139, (by decide : 0 + 0 ≤ _), (by decide : 0 + 0 ≤ _)⟩)
  dsimp only [Pt.U, Pt.locs, Pt.cells, Pt.slots] at X140 l140 y140 z140 st140 hQ140
  subst l140 y140 z140
  obtain ⟨rfl, Nq140, eq140⟩ := hQ140
  have Nf140 := Fr.app Nf139 Nq140
  obtain ⟨_, _, ⟨T141, L141, k141, n141⟩, -, X141, ⟨Lc141, hQ141, l141, y141, z141⟩, st141⟩ := Jvm.LawKit.callS X140 hx (y := (⟨"org/threadpost/MessageHeapComesBeforePinLaw", "expected", "(JJJJ)Z"⟩ : MethodName)) hown (mvT hZ (hw _ (List.mem_of_getElem? (i := 4) rfl))) (mvT hZ (hw _ (List.mem_of_getElem? (i := 5) rfl))) (mvT hZ (hw _ (List.mem_of_getElem? (i := 6) rfl))) (mvT hZ (hw _ (List.mem_of_getElem? (i := 7) rfl))) (by decide) (backOf (W := 1) (rm2 l Z a0 hw [] q1 q2 w2 s2 h0 n0 Z0) hZ (hw _ (List.mem_of_getElem? (i := 7) rfl)) (hw _ (List.mem_of_getElem? (i := 6) rfl)) (by decide) (by decide)) (g := (mkF m 60 #[.val (.long q1), .second, .val (.long q2), .second, .val (.long q3), .second, .val (.long q4), .second, .val (.int p5), .val (.long w2), .second, .val (.long s2), .second, .val (.int (own_cb q1 q2 w2 s2)), .val (.int (own_cb w2 s2 q1 q2))] [(.long s2), (.long w2), (.long q2), (.long q1), (.int (own_cb q1 q2 w2 s2))])) rfl (by rw [hml]; rfl) (argsL := [(.long q1), (.long q2), (.long w2), (.long s2)]) (rest := [(.int (own_cb q1 q2 w2 s2))]) (lenOf pd_0 rfl) rfl (by show 2 * 0 + _ ≤ _; exact Nat.le_of_eq rfl) (hb hby at_60) (fun _ _ => ⟨rfl, eq140, (by decide : 0 + 0 ≤ _), (by decide : 0 + 0 ≤ _)⟩)
  dsimp only [Pt.U, Pt.locs, Pt.cells, Pt.slots] at X141 l141 y141 z141 st141 hQ141
  subst l141 y141 z141
  obtain ⟨rfl, Nq141, eq141⟩ := hQ141
  have Nf141 := Fr.app Nf140 Nq141
  obtain ⟨_, _, ⟨T142, L142, k142, n142⟩, -, X142, ⟨Lc142, hQ142, l142, y142, z142⟩, st142⟩ := Jvm.LawKit.callS X141 hx (y := (⟨"org/threadpost/MessageHeapComesBeforePinLaw", "expected", "(JJJJ)Z"⟩ : MethodName)) hown (mvT hZ (hw _ (List.mem_of_getElem? (i := 4) rfl))) (mvT hZ (hw _ (List.mem_of_getElem? (i := 5) rfl))) (mvT hZ (hw _ (List.mem_of_getElem? (i := 6) rfl))) (mvT hZ (hw _ (List.mem_of_getElem? (i := 7) rfl))) (by decide) (backOf (W := 1) (rm2 l Z a0 hw [] w2 s2 q1 q2 h0 n0 Z0) hZ (hw _ (List.mem_of_getElem? (i := 7) rfl)) (hw _ (List.mem_of_getElem? (i := 6) rfl)) (by decide) (by decide)) (g := (mkF m 74 #[.val (.long q1), .second, .val (.long q2), .second, .val (.long q3), .second, .val (.long q4), .second, .val (.int p5), .val (.long w2), .second, .val (.long s2), .second, .val (.int (own_cb q1 q2 w2 s2)), .val (.int (own_cb w2 s2 q1 q2))] [(.long q2), (.long q1), (.long s2), (.long w2), (.int (own_cb w2 s2 q1 q2))])) rfl (by rw [hml]; rfl) (argsL := [(.long w2), (.long s2), (.long q1), (.long q2)]) (rest := [(.int (own_cb w2 s2 q1 q2))]) (lenOf pd_0 rfl) rfl (by show 2 * 0 + _ ≤ _; exact Nat.le_of_eq rfl) (hb hby at_74) (fun _ _ => ⟨rfl, eq141, (by decide : 0 + 0 ≤ _), (by decide : 0 + 0 ≤ _)⟩)
  dsimp only [Pt.U, Pt.locs, Pt.cells, Pt.slots] at X142 l142 y142 z142 st142 hQ142
  subst l142 y142 z142
  obtain ⟨rfl, Nq142, eq142⟩ := hQ142
  have Nf142 := Fr.app Nf141 Nq142
  have pre143 : ∀ t, Steps p.tables e below (T142.setTop (mkF m 82 #[.val (.long q1), .second, .val (.long q2), .second, .val (.long q3), .second, .val (.long q4), .second, .val (.int p5), .val (.long w2), .second, .val (.long s2), .second, .val (.int (own_cb q1 q2 w2 s2)), .val (.int (own_cb w2 s2 q1 q2))] [(.int (own_cb q1 q2 w2 s2))])) t → Steps p.tables e below (s₁.setTop (entryFrame m #[(.long q1), (.long q2), (.long q3), (.long q4), (.int p5)] maxLocals)) t := by
    intro t kt
    refine pre136 t ?_
    show Steps p.tables e below (s₁.setTop (mkF m 28 #[.val (.long q1), .second, .val (.long q2), .second, .val (.long q3), .second, .val (.long q4), .second, .val (.int p5), .val (.long w2), .second, .unset, .unset, .unset, .unset] [(.long s2)])) _
    refine XS.lstore X0.here hx rfl (hb hby at_28) rfl (l' := #[.val (.long q1), .second, .val (.long q2), .second, .val (.long q3), .second, .val (.long q4), .second, .val (.int p5), .val (.long w2), .second, .val (.long s2), .second, .unset, .unset]) rfl ?_
    show Steps p.tables e below (s₁.setTop (mkF m 30 #[.val (.long q1), .second, .val (.long q2), .second, .val (.long q3), .second, .val (.long q4), .second, .val (.int p5), .val (.long w2), .second, .val (.long s2), .second, .unset, .unset] [])) _
    refine XS.lloadN X0.here hx rfl (hb hby at_30) rfl ?_
    show Steps p.tables e below (s₁.setTop (mkF m 31 #[.val (.long q1), .second, .val (.long q2), .second, .val (.long q3), .second, .val (.long q4), .second, .val (.int p5), .val (.long w2), .second, .val (.long s2), .second, .unset, .unset] [(.long q1)])) _
    refine XS.lloadN X0.here hx rfl (hb hby at_31) rfl ?_
    show Steps p.tables e below (s₁.setTop (mkF m 32 #[.val (.long q1), .second, .val (.long q2), .second, .val (.long q3), .second, .val (.long q4), .second, .val (.int p5), .val (.long w2), .second, .val (.long s2), .second, .unset, .unset] [(.long q2), (.long q1)])) _
    refine XS.lload X0.here hx rfl (hb hby at_32) rfl ?_
    show Steps p.tables e below (s₁.setTop (mkF m 34 #[.val (.long q1), .second, .val (.long q2), .second, .val (.long q3), .second, .val (.long q4), .second, .val (.int p5), .val (.long w2), .second, .val (.long s2), .second, .unset, .unset] [(.long w2), (.long q2), (.long q1)])) _
    refine XS.lload X0.here hx rfl (hb hby at_34) rfl ?_
    show Steps p.tables e below (s₁.setTop (mkF m 36 #[.val (.long q1), .second, .val (.long q2), .second, .val (.long q3), .second, .val (.long q4), .second, .val (.int p5), .val (.long w2), .second, .val (.long s2), .second, .unset, .unset] [(.long s2), (.long w2), (.long q2), (.long q1)])) _
    refine st139 _ ?_
    show Steps p.tables e below (T139.setTop (mkF m 39 #[.val (.long q1), .second, .val (.long q2), .second, .val (.long q3), .second, .val (.long q4), .second, .val (.int p5), .val (.long w2), .second, .val (.long s2), .second, .unset, .unset] [(.int (own_cb q1 q2 w2 s2))])) _
    refine XS.istore X139.here hx rfl (hb hby at_39) rfl (l' := #[.val (.long q1), .second, .val (.long q2), .second, .val (.long q3), .second, .val (.long q4), .second, .val (.int p5), .val (.long w2), .second, .val (.long s2), .second, .val (.int (own_cb q1 q2 w2 s2)), .unset]) rfl ?_
    show Steps p.tables e below (T139.setTop (mkF m 41 #[.val (.long q1), .second, .val (.long q2), .second, .val (.long q3), .second, .val (.long q4), .second, .val (.int p5), .val (.long w2), .second, .val (.long s2), .second, .val (.int (own_cb q1 q2 w2 s2)), .unset] [])) _
    refine XS.lload X139.here hx rfl (hb hby at_41) rfl ?_
    show Steps p.tables e below (T139.setTop (mkF m 43 #[.val (.long q1), .second, .val (.long q2), .second, .val (.long q3), .second, .val (.long q4), .second, .val (.int p5), .val (.long w2), .second, .val (.long s2), .second, .val (.int (own_cb q1 q2 w2 s2)), .unset] [(.long w2)])) _
    refine XS.lload X139.here hx rfl (hb hby at_43) rfl ?_
    show Steps p.tables e below (T139.setTop (mkF m 45 #[.val (.long q1), .second, .val (.long q2), .second, .val (.long q3), .second, .val (.long q4), .second, .val (.int p5), .val (.long w2), .second, .val (.long s2), .second, .val (.int (own_cb q1 q2 w2 s2)), .unset] [(.long s2), (.long w2)])) _
    refine XS.lloadN X139.here hx rfl (hb hby at_45) rfl ?_
    show Steps p.tables e below (T139.setTop (mkF m 46 #[.val (.long q1), .second, .val (.long q2), .second, .val (.long q3), .second, .val (.long q4), .second, .val (.int p5), .val (.long w2), .second, .val (.long s2), .second, .val (.int (own_cb q1 q2 w2 s2)), .unset] [(.long q1), (.long s2), (.long w2)])) _
    refine XS.lloadN X139.here hx rfl (hb hby at_46) rfl ?_
    show Steps p.tables e below (T139.setTop (mkF m 47 #[.val (.long q1), .second, .val (.long q2), .second, .val (.long q3), .second, .val (.long q4), .second, .val (.int p5), .val (.long w2), .second, .val (.long s2), .second, .val (.int (own_cb q1 q2 w2 s2)), .unset] [(.long q2), (.long q1), (.long s2), (.long w2)])) _
    refine st140 _ ?_
    show Steps p.tables e below (T140.setTop (mkF m 50 #[.val (.long q1), .second, .val (.long q2), .second, .val (.long q3), .second, .val (.long q4), .second, .val (.int p5), .val (.long w2), .second, .val (.long s2), .second, .val (.int (own_cb q1 q2 w2 s2)), .unset] [(.int (own_cb w2 s2 q1 q2))])) _
    refine XS.istore X140.here hx rfl (hb hby at_50) rfl (l' := #[.val (.long q1), .second, .val (.long q2), .second, .val (.long q3), .second, .val (.long q4), .second, .val (.int p5), .val (.long w2), .second, .val (.long s2), .second, .val (.int (own_cb q1 q2 w2 s2)), .val (.int (own_cb w2 s2 q1 q2))]) rfl ?_
    show Steps p.tables e below (T140.setTop (mkF m 52 #[.val (.long q1), .second, .val (.long q2), .second, .val (.long q3), .second, .val (.long q4), .second, .val (.int p5), .val (.long w2), .second, .val (.long s2), .second, .val (.int (own_cb q1 q2 w2 s2)), .val (.int (own_cb w2 s2 q1 q2))] [])) _
    refine XS.iload X140.here hx rfl (hb hby at_52) rfl ?_
    show Steps p.tables e below (T140.setTop (mkF m 54 #[.val (.long q1), .second, .val (.long q2), .second, .val (.long q3), .second, .val (.long q4), .second, .val (.int p5), .val (.long w2), .second, .val (.long s2), .second, .val (.int (own_cb q1 q2 w2 s2)), .val (.int (own_cb w2 s2 q1 q2))] [(.int (own_cb q1 q2 w2 s2))])) _
    refine XS.lloadN X140.here hx rfl (hb hby at_54) rfl ?_
    show Steps p.tables e below (T140.setTop (mkF m 55 #[.val (.long q1), .second, .val (.long q2), .second, .val (.long q3), .second, .val (.long q4), .second, .val (.int p5), .val (.long w2), .second, .val (.long s2), .second, .val (.int (own_cb q1 q2 w2 s2)), .val (.int (own_cb w2 s2 q1 q2))] [(.long q1), (.int (own_cb q1 q2 w2 s2))])) _
    refine XS.lloadN X140.here hx rfl (hb hby at_55) rfl ?_
    show Steps p.tables e below (T140.setTop (mkF m 56 #[.val (.long q1), .second, .val (.long q2), .second, .val (.long q3), .second, .val (.long q4), .second, .val (.int p5), .val (.long w2), .second, .val (.long s2), .second, .val (.int (own_cb q1 q2 w2 s2)), .val (.int (own_cb w2 s2 q1 q2))] [(.long q2), (.long q1), (.int (own_cb q1 q2 w2 s2))])) _
    refine XS.lload X140.here hx rfl (hb hby at_56) rfl ?_
    show Steps p.tables e below (T140.setTop (mkF m 58 #[.val (.long q1), .second, .val (.long q2), .second, .val (.long q3), .second, .val (.long q4), .second, .val (.int p5), .val (.long w2), .second, .val (.long s2), .second, .val (.int (own_cb q1 q2 w2 s2)), .val (.int (own_cb w2 s2 q1 q2))] [(.long w2), (.long q2), (.long q1), (.int (own_cb q1 q2 w2 s2))])) _
    refine XS.lload X140.here hx rfl (hb hby at_58) rfl ?_
    show Steps p.tables e below (T140.setTop (mkF m 60 #[.val (.long q1), .second, .val (.long q2), .second, .val (.long q3), .second, .val (.long q4), .second, .val (.int p5), .val (.long w2), .second, .val (.long s2), .second, .val (.int (own_cb q1 q2 w2 s2)), .val (.int (own_cb w2 s2 q1 q2))] [(.long s2), (.long w2), (.long q2), (.long q1), (.int (own_cb q1 q2 w2 s2))])) _
    refine st141 _ ?_
    show Steps p.tables e below (T141.setTop (mkF m 63 #[.val (.long q1), .second, .val (.long q2), .second, .val (.long q3), .second, .val (.long q4), .second, .val (.int p5), .val (.long w2), .second, .val (.long s2), .second, .val (.int (own_cb q1 q2 w2 s2)), .val (.int (own_cb w2 s2 q1 q2))] [(.int (own_cb q1 q2 w2 s2)), (.int (own_cb q1 q2 w2 s2))])) _
    refine XS.icmpNo X141.here hx rfl (hb hby at_63) rfl (teq rfl).2 ?_
    show Steps p.tables e below (T141.setTop (mkF m 66 #[.val (.long q1), .second, .val (.long q2), .second, .val (.long q3), .second, .val (.long q4), .second, .val (.int p5), .val (.long w2), .second, .val (.long s2), .second, .val (.int (own_cb q1 q2 w2 s2)), .val (.int (own_cb w2 s2 q1 q2))] [])) _
    refine XS.iload X141.here hx rfl (hb hby at_66) rfl ?_
    show Steps p.tables e below (T141.setTop (mkF m 68 #[.val (.long q1), .second, .val (.long q2), .second, .val (.long q3), .second, .val (.long q4), .second, .val (.int p5), .val (.long w2), .second, .val (.long s2), .second, .val (.int (own_cb q1 q2 w2 s2)), .val (.int (own_cb w2 s2 q1 q2))] [(.int (own_cb w2 s2 q1 q2))])) _
    refine XS.lload X141.here hx rfl (hb hby at_68) rfl ?_
    show Steps p.tables e below (T141.setTop (mkF m 70 #[.val (.long q1), .second, .val (.long q2), .second, .val (.long q3), .second, .val (.long q4), .second, .val (.int p5), .val (.long w2), .second, .val (.long s2), .second, .val (.int (own_cb q1 q2 w2 s2)), .val (.int (own_cb w2 s2 q1 q2))] [(.long w2), (.int (own_cb w2 s2 q1 q2))])) _
    refine XS.lload X141.here hx rfl (hb hby at_70) rfl ?_
    show Steps p.tables e below (T141.setTop (mkF m 72 #[.val (.long q1), .second, .val (.long q2), .second, .val (.long q3), .second, .val (.long q4), .second, .val (.int p5), .val (.long w2), .second, .val (.long s2), .second, .val (.int (own_cb q1 q2 w2 s2)), .val (.int (own_cb w2 s2 q1 q2))] [(.long s2), (.long w2), (.int (own_cb w2 s2 q1 q2))])) _
    refine XS.lloadN X141.here hx rfl (hb hby at_72) rfl ?_
    show Steps p.tables e below (T141.setTop (mkF m 73 #[.val (.long q1), .second, .val (.long q2), .second, .val (.long q3), .second, .val (.long q4), .second, .val (.int p5), .val (.long w2), .second, .val (.long s2), .second, .val (.int (own_cb q1 q2 w2 s2)), .val (.int (own_cb w2 s2 q1 q2))] [(.long q1), (.long s2), (.long w2), (.int (own_cb w2 s2 q1 q2))])) _
    refine XS.lloadN X141.here hx rfl (hb hby at_73) rfl ?_
    show Steps p.tables e below (T141.setTop (mkF m 74 #[.val (.long q1), .second, .val (.long q2), .second, .val (.long q3), .second, .val (.long q4), .second, .val (.int p5), .val (.long w2), .second, .val (.long s2), .second, .val (.int (own_cb q1 q2 w2 s2)), .val (.int (own_cb w2 s2 q1 q2))] [(.long q2), (.long q1), (.long s2), (.long w2), (.int (own_cb w2 s2 q1 q2))])) _
    refine st142 _ ?_
    show Steps p.tables e below (T142.setTop (mkF m 77 #[.val (.long q1), .second, .val (.long q2), .second, .val (.long q3), .second, .val (.long q4), .second, .val (.int p5), .val (.long w2), .second, .val (.long s2), .second, .val (.int (own_cb q1 q2 w2 s2)), .val (.int (own_cb w2 s2 q1 q2))] [(.int (own_cb w2 s2 q1 q2)), (.int (own_cb w2 s2 q1 q2))])) _
    refine XS.icmpNo X142.here hx rfl (hb hby at_77) rfl (teq rfl).2 ?_
    show Steps p.tables e below (T142.setTop (mkF m 80 #[.val (.long q1), .second, .val (.long q2), .second, .val (.long q3), .second, .val (.long q4), .second, .val (.int p5), .val (.long w2), .second, .val (.long s2), .second, .val (.int (own_cb q1 q2 w2 s2)), .val (.int (own_cb w2 s2 q1 q2))] [])) _
    refine XS.iload X142.here hx rfl (hb hby at_80) rfl ?_
    exact kt
  by_cases hc82 : (own_cb q1 q2 w2 s2) = (0 : Int32)
  · have pre144 : ∀ t, Steps p.tables e below (T142.setTop (mkF m 95 #[.val (.long q1), .second, .val (.long q2), .second, .val (.long q3), .second, .val (.long q4), .second, .val (.int p5), .val (.long w2), .second, .val (.long s2), .second, .val (.int (own_cb q1 q2 w2 s2)), .val (.int (own_cb w2 s2 q1 q2))] [(.int (1 : Int32))])) t → Steps p.tables e below (s₁.setTop (entryFrame m #[(.long q1), (.long q2), (.long q3), (.long q4), (.int p5)] maxLocals)) t := by
      intro t kt
      refine pre143 t ?_
      show Steps p.tables e below (T142.setTop (mkF m 82 #[.val (.long q1), .second, .val (.long q2), .second, .val (.long q3), .second, .val (.long q4), .second, .val (.int p5), .val (.long w2), .second, .val (.long s2), .second, .val (.int (own_cb q1 q2 w2 s2)), .val (.int (own_cb w2 s2 q1 q2))] [(.int (own_cb q1 q2 w2 s2))])) _
      refine XS.ifYes X142.here hx rfl (pc0 := 82) (pc' := 90) rfl (hb hby at_82) rfl ((if0 _ _).trans (teq hc82).1) (by decide) (by decide) ?_
      show Steps p.tables e below (T142.setTop (mkF m 90 #[.val (.long q1), .second, .val (.long q2), .second, .val (.long q3), .second, .val (.long q4), .second, .val (.int p5), .val (.long w2), .second, .val (.long s2), .second, .val (.int (own_cb q1 q2 w2 s2)), .val (.int (own_cb w2 s2 q1 q2))] [])) _
      refine XS.iconst X142.here hx rfl (hb hby at_90) ?_
      show Steps p.tables e below (T142.setTop (mkF m 91 #[.val (.long q1), .second, .val (.long q2), .second, .val (.long q3), .second, .val (.long q4), .second, .val (.int p5), .val (.long w2), .second, .val (.long s2), .second, .val (.int (own_cb q1 q2 w2 s2)), .val (.int (own_cb w2 s2 q1 q2))] [(.int (1 : Int32))])) _
      refine XS.goto X142.here hx rfl (pc0 := 91) (pc' := 95) rfl (hb hby at_91) (by decide) (by decide) ?_
      exact kt
    obtain ⟨fsx, hr, hrun, hended, hW, hsame⟩ := X142.leave (v := some (.int (nar .boolean (1 : Int32)))) (fun h => by rw [Bd.returns] at h; cases h)
    refine ⟨_, _, pre144 _ ?_, hrun, hended, _, _, rfl, ?_, ⟨_, rfl⟩, hW, hsame.mono (by decide) (by decide)⟩
    · exact retN X142 hx (t := .boolean) Bd.returns (by simp) (hb hby at_95) hr
    · show Q0 Z q1 q2 q3 q4 p5 h0 n0 _ T142.heap _
      rw [eq142]
      exact ⟨rfl, Nf142⟩
  · have pre145 : ∀ t, Steps p.tables e below (T142.setTop (mkF m 95 #[.val (.long q1), .second, .val (.long q2), .second, .val (.long q3), .second, .val (.long q4), .second, .val (.int p5), .val (.long w2), .second, .val (.long s2), .second, .val (.int (own_cb q1 q2 w2 s2)), .val (.int (own_cb w2 s2 q1 q2))] [(.int (1 : Int32))])) t → Steps p.tables e below (s₁.setTop (entryFrame m #[(.long q1), (.long q2), (.long q3), (.long q4), (.int p5)] maxLocals)) t := by
      intro t kt
      refine pre143 t ?_
      show Steps p.tables e below (T142.setTop (mkF m 82 #[.val (.long q1), .second, .val (.long q2), .second, .val (.long q3), .second, .val (.long q4), .second, .val (.int p5), .val (.long w2), .second, .val (.long s2), .second, .val (.int (own_cb q1 q2 w2 s2)), .val (.int (own_cb w2 s2 q1 q2))] [(.int (own_cb q1 q2 w2 s2))])) _
      refine XS.ifNo X142.here hx rfl (hb hby at_82) rfl ((if0 _ _).trans (feq hc82).1) ?_
      show Steps p.tables e below (T142.setTop (mkF m 85 #[.val (.long q1), .second, .val (.long q2), .second, .val (.long q3), .second, .val (.long q4), .second, .val (.int p5), .val (.long w2), .second, .val (.long s2), .second, .val (.int (own_cb q1 q2 w2 s2)), .val (.int (own_cb w2 s2 q1 q2))] [])) _
      refine XS.iload X142.here hx rfl (hb hby at_85) rfl ?_
      show Steps p.tables e below (T142.setTop (mkF m 87 #[.val (.long q1), .second, .val (.long q2), .second, .val (.long q3), .second, .val (.long q4), .second, .val (.int p5), .val (.long w2), .second, .val (.long s2), .second, .val (.int (own_cb q1 q2 w2 s2)), .val (.int (own_cb w2 s2 q1 q2))] [(.int (own_cb w2 s2 q1 q2))])) _
      refine XS.ifNo X142.here hx rfl (hb hby at_87) rfl ((if0 _ _).trans (teq (own_anti _ _ _ _ hc82)).2) ?_
      show Steps p.tables e below (T142.setTop (mkF m 90 #[.val (.long q1), .second, .val (.long q2), .second, .val (.long q3), .second, .val (.long q4), .second, .val (.int p5), .val (.long w2), .second, .val (.long s2), .second, .val (.int (own_cb q1 q2 w2 s2)), .val (.int (own_cb w2 s2 q1 q2))] [])) _
      refine XS.iconst X142.here hx rfl (hb hby at_90) ?_
      show Steps p.tables e below (T142.setTop (mkF m 91 #[.val (.long q1), .second, .val (.long q2), .second, .val (.long q3), .second, .val (.long q4), .second, .val (.int p5), .val (.long w2), .second, .val (.long s2), .second, .val (.int (own_cb q1 q2 w2 s2)), .val (.int (own_cb w2 s2 q1 q2))] [(.int (1 : Int32))])) _
      refine XS.goto X142.here hx rfl (pc0 := 91) (pc' := 95) rfl (hb hby at_91) (by decide) (by decide) ?_
      exact kt
    obtain ⟨fsx, hr, hrun, hended, hW, hsame⟩ := X142.leave (v := some (.int (nar .boolean (1 : Int32)))) (fun h => by rw [Bd.returns] at h; cases h)
    refine ⟨_, _, pre145 _ ?_, hrun, hended, _, _, rfl, ?_, ⟨_, rfl⟩, hW, hsame.mono (by decide) (by decide)⟩
    · exact retN X142 hx (t := .boolean) Bd.returns (by simp) (hb hby at_95) hr
    · show Q0 Z q1 q2 q3 q4 p5 h0 n0 _ T142.heap _
      rw [eq142]
      exact ⟨rfl, Nf142⟩
set_option maxRecDepth 65536 in
set_option maxHeartbeats 40000000 in
theorem comes_1 {Post : Tables → Env → Array Value → State → Outcome → State → Prop} (hpost : ∀ tb e args s v u, (limb_1_1.after args s (.returned v) u = true ∧ limb_1_2.after args s (.returned v) u = true ∧ True) → FrameEnd s (.returned v) u (Jvm.fieldLocs frame_1_writes args s ++ Jvm.arrayLocs frame_1_arrays args s ++ Jvm.staticLocs frame_1_statics s) 0 0 → Post tb e args s (.returned v) u) :
    ArmFor flags0 classFile x code maxLocals ret World_1 tables_1 room_1 Calls_1 rest_1 Pre_1 Post := by
  intro l hfl _ _ p e ha hc hk s m args below hf hA hF happ hP
  obtain ⟨hcalls, hrest, hpre⟩ := hP
  obtain ⟨-, -, -, hnamed, -, -, -, hat⟩ := (Spec.applies_iff hf).mp happ
  obtain ⟨hg, hn⟩ := and_e (Cond.before_iff.mp (show (Jvm.Cond.and given_1 narrow_1).before args s = true from hpre))
  obtain ⟨gc, gr0⟩ := and_e hg
  obtain ⟨ga0, gr1⟩ := and_e gr0
  obtain ⟨ga1, gr2⟩ := and_e gr1
  obtain ⟨ga2, gr3⟩ := and_e gr2
  obtain ⟨ga3, gr4⟩ := and_e gr3
  obtain ⟨w0, w1, w2, w3, w4, rfl⟩ : ∃ w0 w1 w2 w3 w4 : Value, args = #[w0, w1, w2, w3, w4] := by
    have hs : args.size = 5 := by simpa [Cond.value, given_1] using gc
    obtain ⟨L⟩ := args
    match L, hs with
    | [w0, w1, w2, w3, w4], _ => exact ⟨w0, w1, w2, w3, w4, rfl⟩
  have hw := fun d (hd : d ∈ tables_1) => atoms_spec (ws := Jvm.Cond.code x code maxLocals ret :: tables_1) hat d (List.mem_cons_of_mem _ hd)
  have hfit : Fit s := fun {y c} hc i hi => by
    obtain ⟨ha, rfl⟩ := Array.getElem?_eq_some_iff.mp hc
    have q := List.all_eq_true.mp ((Array.all_eq_true_iff_forall_mem.mp hF) _ (Array.getElem_mem ha)) i (List.mem_range.mpr hi)
    simpa [Array.getElem?_eq_getElem hi] using q
  obtain ⟨i0, ei0⟩ := isL_v ga0
  obtain rfl : w0 = (.long i0) := Option.some.inj ei0
  obtain ⟨i1, ei1⟩ := isL_v ga1
  obtain rfl : w1 = (.long i1) := Option.some.inj ei1
  obtain ⟨i2, ei2⟩ := isL_v ga2
  obtain rfl : w2 = (.long i2) := Option.some.inj ei2
  obtain ⟨i3, ei3⟩ := isL_v ga3
  obtain rfl : w3 = (.long i3) := Option.some.inj ei3
  obtain ⟨i4, ei4⟩ := is_v gr4
  obtain rfl : w4 = (.int i4) := Option.some.inj ei4
  obtain ⟨n, o, h1, h2, h3, _, L, rfl, ⟨rfl, N⟩, hq⟩ := rm0 l s _ hw tables_1 i0 i1 i2 i3 i4 s.heap s.heap.size (Nat.le_refl _)  p e ha hc hk s m _ below hf ((Spec.applies_iff_loose hf).mp happ).1 ⟨rfl, State.Warmed39.refl s, rfl⟩ trivial
  refine ⟨n, _, h1, h2, h3, hpost _ _ _ _ _ _ ⟨Cond.after_iff.mpr rfl, Cond.after_iff.mpr (eq_i res_at (Term.int_eval (1)) rfl), trivial⟩ ⟨hq.1, hq.2.1, (hq.2.2.sift fun y hy => Or.inr (N y hy)).mono (by decide) (by decide)⟩⟩
theorem main_1_1 : Claimed_1_1 := comes_1 fun _ _ _ _ _ _ h hF => ⟨h.1, hF⟩
theorem main_1_2 : Claimed_1_2 := comes_1 fun _ _ _ _ _ _ h hF => ⟨h.2.1, hF⟩
end Jvm.Pilot.@@N@@
namespace Jvm.Pilot.@@N@@
open Jvm Jvm.ClassFile Sem Op Lib Jvm.Free Jvm.Stand Jvm.Pilot.@@N@@.Jvm.D
/-! MADE BY PROGRAM (witnessworld.py) out of the Statement's table words and the real class files: 9 classes; the members and pool entries that the words name. The judged class is class 1, her method 2. -/
namespace start1
open Jvm.ClassFile
def u (s : String) : CpInfo := .utf8 (stringToUtf16 s)
/-- a pool by its gaps: so many unusable entries, then the entry; so many at the end -/
def gap : Nat → List CpInfo → List CpInfo
  | 0, r => r
  | n + 1, r => .unusable :: gap n r
def poolList (es : List (Nat × CpInfo)) (last : Nat) : List CpInfo := es.foldr (fun e r => gap e.1 (e.2 :: r)) (gap last [])
def pool (es : List (Nat × CpInfo)) (last : Nat) : Array CpInfo := ⟨poolList es last⟩
def fileOf (pool : Array CpInfo) (this : Nat) (attrs : Array Attribute := #[]) (ms : Array MethodInfo := #[]) (fl : Nat := 33) (sup : Nat := 0) (ifs : Array Nat := #[]) (fds : Array FieldInfo := #[]) : ClassFile where
  minorVersion := 0
  majorVersion := 65
  constantPool := pool
  accessFlags := fl
  thisClass := this
  superClass := sup
  interfaces := ifs
  fields := fds
  methods := ms
  attributes := attrs
def plain (name : String) (sup : Option ClassId) : Class where
  name := name
  kind := .ordinary
  loader := none
  accessFlags := 33
  super := sup
  interfaces := #[]
  cf := none
  fields := #[]
  methods := #[]
  instanceTypes := #[]
  staticTypes := #[]
  resolved := #[]
  callSites := []
  init := .initialized
  statics := none
  mirror := none

def pool0 : Array CpInfo := pool [(5, u "<init>"), (0, u "()V"), (1, .class_ 10), (1, u "java/lang/Object")] 113

def k0m0 : Method := { name := "<init>", desc := "()V", sig := { parameters := [], returnType := none }, accessFlags := 1, code := none }
/-- java/lang/Object -/
def k0 : Class := { plain "java/lang/Object" none with
  accessFlags := 33
  interfaces := #[]
  cf := some (fileOf pool0 8 #[] #[{ accessFlags := 1, nameIndex := 5, descriptorIndex := 6, attributes := #[] }] 33 0 #[] #[])
  fields := #[]
  methods := #[k0m0]
  instanceTypes := #[]
  staticTypes := #[]
  resolved := Array.replicate 124 none
  statics := none }

def pool1 : Array CpInfo := pool [(2, .class_ 4), (1, u "java/lang/Object"), (0, u "<init>"), (0, u "()V"), (0, .methodref 8 9), (0, .class_ 10), (0, .nameAndType 11 12), (0, u "org/threadpost/MessageHeap"), (0, u "comesBefore"), (0, u "(JJJJ)Z"), (0, .methodref 14 15), (0, .class_ 16), (0, .nameAndType 17 12), (0, u "org/threadpost/MessageHeapComesBeforePinLaw"), (0, u "expected"), (3, u "law"), (0, u "(JJJJI)Z")] 2

def k1m0 : Method := { name := "<init>", desc := "()V", sig := { parameters := [], returnType := none }, accessFlags := 2, code := none }
def k1c1 : Code := { maxStack := 4, maxLocals := 10, code := method_2_code, exceptionTable := #[], attributes := #[] }
def k1m1 : Method := { name := "expected", desc := "(JJJJ)Z", sig := { parameters := [.long, .long, .long, .long], returnType := some .boolean }, accessFlags := 10, code := some k1c1 }
def k1c2 : Code := { maxStack := 9, maxLocals := 15, code := code, exceptionTable := #[], attributes := #[] }
def k1m2 : Method := { name := "law", desc := "(JJJJI)Z", sig := { parameters := [.long, .long, .long, .long, .int], returnType := some .boolean }, accessFlags := 9, code := some k1c2 }
/-- org/threadpost/MessageHeapComesBeforePinLaw -/
def k1 : Class := { plain "org/threadpost/MessageHeapComesBeforePinLaw" (some 0) with
  accessFlags := 49
  interfaces := #[]
  cf := some (fileOf pool1 14 #[] #[{ accessFlags := 2, nameIndex := 5, descriptorIndex := 6, attributes := #[] }, { accessFlags := 10, nameIndex := 17, descriptorIndex := 12, attributes := #[] }, { accessFlags := 9, nameIndex := 21, descriptorIndex := 22, attributes := #[] }] 49 2 #[] #[])
  fields := #[]
  methods := #[k1m0, k1m1, k1m2]
  instanceTypes := #[]
  staticTypes := #[]
  resolved := Array.replicate 25 none
  statics := none }

def pool2 : Array CpInfo := pool [(2, .class_ 4), (1, u "java/lang/Object"), (0, u "<init>"), (0, u "()V"), (0, .class_ 8), (0, u "org/threadpost/MessageHeap"), (4, u "heap"), (0, u "[Lorg/threadpost/Queued;"), (2, u "holes"), (0, u "[I"), (2, u "numbered"), (0, u "J"), (7, u "runFirst"), (0, u "Lorg/threadpost/Message;"), (20, u "runLast"), (2, u "comesBefore"), (7, u "size"), (0, u "I"), (83, .class_ 150), (1, u "org/threadpost/MessageHeap$Removal"), (8, u "(JJJJ)Z"), (0, u "INITIAL_CAPACITY"), (2, u "MENDED_HOLES")] 16

def k2m0 : Method := { name := "<init>", desc := "()V", sig := { parameters := [], returnType := none }, accessFlags := 0, code := none }
def k2c1 : Code := { maxStack := 4, maxLocals := 9, code := prog_12_method_25_code, exceptionTable := #[], attributes := #[] }
def k2m1 : Method := { name := "comesBefore", desc := "(JJJJ)Z", sig := { parameters := [.long, .long, .long, .long], returnType := some .boolean }, accessFlags := 8, code := some k2c1 }
/-- org/threadpost/MessageHeap -/
def k2 : Class := { plain "org/threadpost/MessageHeap" (some 0) with
  accessFlags := 48
  interfaces := #[]
  cf := some (fileOf pool2 7 #[.nestMembers #[148]] #[{ accessFlags := 0, nameIndex := 5, descriptorIndex := 6, attributes := #[] }, { accessFlags := 8, nameIndex := 55, descriptorIndex := 159, attributes := #[] }] 48 2 #[] #[{ accessFlags := 26, nameIndex := 160, descriptorIndex := 64, attributes := #[] }, { accessFlags := 26, nameIndex := 163, descriptorIndex := 64, attributes := #[] }, { accessFlags := 2, nameIndex := 30, descriptorIndex := 31, attributes := #[] }, { accessFlags := 2, nameIndex := 52, descriptorIndex := 31, attributes := #[] }, { accessFlags := 2, nameIndex := 13, descriptorIndex := 14, attributes := #[] }, { accessFlags := 2, nameIndex := 63, descriptorIndex := 64, attributes := #[] }, { accessFlags := 2, nameIndex := 21, descriptorIndex := 22, attributes := #[] }, { accessFlags := 18, nameIndex := 17, descriptorIndex := 18, attributes := #[] }])
  fields := #[{ name := "INITIAL_CAPACITY", type := .int, accessFlags := 26, slot := 0, constantValue := 0 }, { name := "MENDED_HOLES", type := .int, accessFlags := 26, slot := 1, constantValue := 0 }, { name := "runFirst", type := (.object "org/threadpost/Message"), accessFlags := 2, slot := 0, constantValue := 0 }, { name := "runLast", type := (.object "org/threadpost/Message"), accessFlags := 2, slot := 1, constantValue := 0 }, { name := "heap", type := (.array (.object "org/threadpost/Queued")), accessFlags := 2, slot := 2, constantValue := 0 }, { name := "size", type := .int, accessFlags := 2, slot := 3, constantValue := 0 }, { name := "numbered", type := .long, accessFlags := 2, slot := 4, constantValue := 0 }, { name := "holes", type := (.array .int), accessFlags := 18, slot := 5, constantValue := 0 }]
  methods := #[k2m0, k2m1]
  instanceTypes := #[(.object "org/threadpost/Message"), (.object "org/threadpost/Message"), (.array (.object "org/threadpost/Queued")), .int, .long, (.array .int)]
  staticTypes := #[.int, .int]
  resolved := Array.replicate 180 none
  statics := none }

def pool3 : Array CpInfo := pool [(1, u "java/lang/Cloneable"), (0, .class_ 1), (0, u "java/lang/Object"), (0, .class_ 3)] 3

/-- java/lang/Cloneable -/
def k3 : Class := { plain "java/lang/Cloneable" (some 0) with
  accessFlags := 1537
  interfaces := #[]
  cf := some (fileOf pool3 2 #[] #[] 1537 4 #[] #[])
  fields := #[]
  methods := #[]
  instanceTypes := #[]
  staticTypes := #[]
  resolved := Array.replicate 8 none
  statics := none }

def pool4 : Array CpInfo := pool [(1, u "java/io/Serializable"), (0, .class_ 1), (0, u "java/lang/Object"), (0, .class_ 3)] 3

/-- java/io/Serializable -/
def k4 : Class := { plain "java/io/Serializable" (some 0) with
  accessFlags := 1537
  interfaces := #[]
  cf := some (fileOf pool4 2 #[] #[] 1537 4 #[] #[])
  fields := #[]
  methods := #[]
  instanceTypes := #[]
  staticTypes := #[]
  resolved := Array.replicate 8 none
  statics := none }

/-- the primitive byte -/
def k5 : Class := { plain "byte" none with kind := .primitive 'B', accessFlags := 0x411 }
/-- [B -/
def k6 : Class := { plain "[B" (some 0) with kind := .array 5 .byte, interfaces := #[3, 4], accessFlags := 1041 }

/-- the primitive int -/
def k7 : Class := { plain "int" none with kind := .primitive 'I', accessFlags := 0x411 }
/-- [I -/
def k8 : Class := { plain "[I" (some 0) with kind := .array 7 .int, interfaces := #[3, 4], accessFlags := 1041 }

def heap : Heap := #[]
def classes : Array Class := #[k0, k1, k2, k3, k4, k5, k6, k7, k8]
def interned : List (Array UInt16 × Addr) := []
def slotsUsed : Nat := 0
def theMethod : MethodId := ⟨1, 2⟩
def args0 : Array Value := #[.long 5, .long 7, .long 9, .long (-1), .int 1]
def aboutOver (below : List Frame) : State where
  vm := { classes := classes, interned := interned.toArray }
  heap := heap
  slotsUsed := slotsUsed
  threads := #[{ frames := .invoking theMethod args0 :: below }]
def below0 : List Frame := [.native { method := ⟨0, 0⟩, args := #[] }]
def about1 : State := aboutOver below0
def p0 : Program := .bare "" "" ""
def e0 : Env := launch0.env 0 0 0
theorem w_frames : about1.frames = Frame.invoking theMethod args0 :: below0 := rfl
set_option maxRecDepth 65536 in
theorem w_args : argsFit about1.vm theMethod args0 = true := by decide +kernel
set_option maxRecDepth 65536 in
theorem w_heap : heapFits about1 = true := by decide +kernel
set_option maxRecDepth 65536 in
theorem w_runnable : about1.curStatus? = some .runnable := by decide +kernel
set_option maxRecDepth 65536 in
theorem w_alone : about1.alone = true := by decide +kernel
set_option maxRecDepth 65536 in
theorem w_named : about1.methodNamed? x = some theMethod := by decide +kernel
set_option maxRecDepth 65536 in
theorem w_hears : about1.hears theMethod below0 = true := by decide +kernel
set_option maxRecDepth 65536 in
theorem w_ripe : about1.ripe theMethod args0 below0 = true := by decide +kernel
theorem w_running : about1.status = .running := rfl
set_option maxRecDepth 65536 in
theorem w_room : about1.hasRoom e0.platform room_1 = true :=
  launch0.hasRoom_least _ room_1 (by decide +kernel) (by decide +kernel) (by decide +kernel) (by decide +kernel) (by decide +kernel) (by decide +kernel)
theorem allAtoms_all (ts : List Jvm.Cond) (a : Array Jvm.Value) (st : Jvm.State) : (allAtoms ts).before a st = ts.all (fun c => c.before a st) := by
  induction ts with
  | nil => rfl
  | cons c t ih =>
    show (Jvm.Cond.and c (allAtoms t)).before a st = _
    rw [Jvm.Cond.before_and, ih, List.all_cons]
def words1 : List Jvm.Cond := Jvm.Cond.code x code maxLocals ret :: tables_1
/-- a 'code' word, met by the world's own term for the bytes: nothing is compared byte by byte -/
theorem code_word {y : MethodName} {bytes : ByteArray} {mx : Nat} {rt : Option FieldType} {a : Array Value} {s : State} {m : MethodId} {meth : Method} {c : Code} (h1 : s.methodNamed? y = some m) (h2 : s.vm.method? m = some meth) (h3 : meth.code = some c) (h4 : c.code = bytes)
    (h5 : (c.maxLocals == mx && c.exceptionTable.isEmpty && decide (c.maxStack ≤ mostOperands) && decide (meth.sig.returnType = rt) && !meth.locks && decide (parseMethodDescriptor y.desc = some meth.sig)) = true) : (Jvm.Cond.code y bytes mx rt).before a s = true := by
  simp only [Bool.and_eq_true, beq_iff_eq, Bool.not_eq_true', decide_eq_true_eq] at h5
  obtain ⟨⟨⟨⟨⟨g1, g2⟩, g3⟩, g4⟩, g5⟩, g6⟩ := h5
  simp [Cond.before, Cond.holds, Cond.value, h1, h2, h3, h4, g1, g2, g3, g4, g5, g6]
def isCode : Jvm.Cond → Bool
  | .code _ _ _ _ => true
  | _ => false
theorem all_split {L : List Jvm.Cond} {P : Jvm.Cond → Bool} (h1 : L.all (fun c => isCode c || P c) = true) (h2 : ∀ c ∈ L.filter isCode, P c = true) : L.all P = true := by
  refine List.all_eq_true.mpr fun c hc => ?_
  have h := List.all_eq_true.mp h1 c hc
  rcases Bool.eq_false_or_eq_true (isCode c) with hi | hi
  · exact h2 c (List.mem_filter.mpr ⟨hc, hi⟩)
  · simpa [hi] using h
set_option maxRecDepth 65536 in
theorem w_c0 : (Jvm.Cond.code x code maxLocals ret).before args0 about1 = true := code_word (m := ⟨1, 2⟩) (meth := k1m2) (c := k1c2) (by decide +kernel) rfl rfl rfl (by decide +kernel)
set_option maxRecDepth 65536 in
theorem w_c1 : (Jvm.Cond.code ({ cls := "org/threadpost/MessageHeap", name := "comesBefore", desc := "(JJJJ)Z" } : Jvm.MethodName) prog_12_method_25_code (9 : Nat) (Option.some Jvm.ClassFile.FieldType.boolean)).before args0 about1 = true := code_word (m := ⟨2, 1⟩) (meth := k2m1) (c := k2c1) (by decide +kernel) rfl rfl rfl (by decide +kernel)
set_option maxRecDepth 65536 in
theorem w_c2 : (Jvm.Cond.code ({ cls := "org/threadpost/MessageHeapComesBeforePinLaw", name := "expected", desc := "(JJJJ)Z" } : Jvm.MethodName) method_2_code (10 : Nat) (Option.some Jvm.ClassFile.FieldType.boolean)).before args0 about1 = true := code_word (m := ⟨1, 1⟩) (meth := k1m1) (c := k1c1) (by decide +kernel) rfl rfl rfl (by decide +kernel)
def codes1 : List Jvm.Cond := [Jvm.Cond.code x code maxLocals ret, Jvm.Cond.code ({ cls := "org/threadpost/MessageHeap", name := "comesBefore", desc := "(JJJJ)Z" } : Jvm.MethodName) prog_12_method_25_code (9 : Nat) (Option.some Jvm.ClassFile.FieldType.boolean), Jvm.Cond.code ({ cls := "org/threadpost/MessageHeapComesBeforePinLaw", name := "expected", desc := "(JJJJ)Z" } : Jvm.MethodName) method_2_code (10 : Nat) (Option.some Jvm.ClassFile.FieldType.boolean)]
set_option maxRecDepth 65536 in
theorem codes_eq : words1.filter isCode = codes1 := rfl
theorem w_codes : ∀ c ∈ words1.filter isCode, c.before args0 about1 = true := by
  rw [codes_eq]
  intro c hc
  simp only [codes1, List.mem_cons, List.not_mem_nil, or_false] at hc
  rcases hc with rfl | rfl | rfl
  · exact w_c0
  · exact w_c1
  · exact w_c2
set_option maxRecDepth 65536 in
theorem w_t1 : words1.all (fun c => isCode c || c.before args0 about1) = true := by decide +kernel
theorem w_tables : (allAtoms (Jvm.Cond.code x code maxLocals ret :: tables_1)).before args0 about1 = true := by
  rw [allAtoms_all]
  show words1.all (fun c => c.before args0 about1) = true
  refine all_split ?_ w_codes
  rw [w_t1]
set_option maxRecDepth 65536 in
theorem w_case : (Jvm.Cond.and given_1 narrow_1).before args0 about1 = true := by decide +kernel
theorem w_applies : (headSpec (Jvm.Cond.code x code maxLocals ret :: tables_1) room_1).applies x e0.platform about1 = true :=
  (Spec.applies_iff w_frames).mpr ⟨w_running, w_runnable, w_alone, w_named, w_hears, w_ripe, w_room, w_tables⟩
theorem atStart : AtStart classFile x code maxLocals ret World_1 tables_1 room_1 Calls_1 rest_1 Pre_1 launch0 p0 e0 about1 theMethod args0 below0 :=
  ⟨lists_1, trivial, launch0.admits_env _ _ _, launch0.least_env, fairChoices_fair.cas, fairChoices_fair.clock, w_frames, w_args, w_heap, w_applies, trivial, trivial, w_case⟩
end start1
theorem witness_1 : WitnessClaimed_1 := ⟨start1.p0, start1.e0, start1.about1, start1.theMethod, start1.args0, start1.below0, start1.atStart⟩
end Jvm.Pilot.@@N@@
